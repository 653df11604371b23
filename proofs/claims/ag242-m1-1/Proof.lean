import JvmDerived
import JvmDerived.Pilot.@@N@@Statement
import JvmDerived.Pilot.@@N@@Code
set_option linter.unusedVariables false
set_option linter.unusedSimpArgs false
namespace Jvm.Pilot.@@N@@
open Jvm Jvm.ClassFile Sem Op Lib Jvm.Free Jvm.Stand Jvm.LawKit Jvm.RoadKit Bundle Jvm.Pilot.@@N@@.Jvm.D

section OwnEnds
variable {p : Program} {l : Launch} {e : Env} {R : Room} {s : State} {m : MethodId} {args : Array Value} {below : List Frame} {meth : Method} {c : Code} {T : State} {locs : List Loc} {cells slots : Nat}
/-- from here the body comes to its end, returns, and leaves what Q says -/
def Ends (p : Program) (e : Env) (below : List Frame) (s T : State) (g : JFrame) (kc ks : Nat) (Q : Option Value → Heap → List Loc → Prop) : Prop :=
  ∃ s₂ o, Steps p.tables e below (T.setTop g) s₂ ∧ s₂.status = .running ∧ Ended s₂ below o ∧ ∃ v L, o = .returned v ∧ Q v s₂.heap L ∧ FrameEnd s o s₂ L kc ks
theorem Ends.go {T' : State} {g g' : JFrame} {kc ks : Nat} {Q : Option Value → Heap → List Loc → Prop} (h : ∀ target, Steps p.tables e below (T'.setTop g') target → Steps p.tables e below (T.setTop g) target) (k : Ends p e below s T' g' kc ks Q) : Ends p e below s T g kc ks Q := by
  obtain ⟨s₂, o, h1, h2⟩ := k
  exact ⟨s₂, o, h _ h1, h2⟩
theorem Ends.ret (X : Stand p l e R s m args below meth c T locs cells slots) (hx : p.tables.exec = Jvm.exec) (hlocks : meth.locks = false) {pc : Nat} {Ls : Array Slot} {w : Value} {t : FieldType} {i : Instr} {rest : List Value} (hret : meth.sig.returnType = some t) (hn : narrow t w = w)
    (hi : (i = .ireturn ∧ (t = .int ∨ t = .boolean ∨ t = .byte ∨ t = .char ∨ t = .short) ∧ ∃ z, w = .int z) ∨ (i = .lreturn ∧ t = .long ∧ ∃ z, w = .long z) ∨ (i = .dreturn ∧ t = .double ∧ ∃ z, w = .double z) ∨ (i = .freturn ∧ t = .float ∧ ∃ z, w = .float z) ∨ (i = .areturn ∧ t.isReference = true ∧ w.isRef = true))
    (hd : decode c.code pc = .ok (i, 1)) {kc ks : Nat} {Q : Option Value → Heap → List Loc → Prop} (hc : cells ≤ kc) (hs : slots ≤ ks) (hq : Q (some w) T.heap locs) : Ends p e below s T (mkF m pc Ls (w :: rest)) kc ks Q := by
  obtain ⟨fs, hr, hrun, hended, hW, hsame⟩ := X.leave (v := some w) (fun h => by rw [hret] at h; cases h) hlocks
  exact ⟨_, _, retOut X hx hret hn hi hd hr, hrun, hended, _, _, rfl, hq, ⟨_, rfl⟩, hW, hsame.mono hc hs⟩
theorem Ends.retZ (X : Stand p l e R s m args below meth c T locs cells slots) (hx : p.tables.exec = Jvm.exec) (hlocks : meth.locks = false) {pc : Nat} {Ls : Array Slot} {z : Int32} {t : FieldType} {rest : List Value} (hret : meth.sig.returnType = some t) (ht : t = .boolean ∨ t = .byte ∨ t = .char ∨ t = .short)
    (hd : decode c.code pc = .ok (.ireturn, 1)) {kc ks : Nat} {Q : Option Value → Heap → List Loc → Prop} (hc : cells ≤ kc) (hs : slots ≤ ks) (hq : Q (some (.int (nar t z))) T.heap locs) : Ends p e below s T (mkF m pc Ls (.int z :: rest)) kc ks Q := by
  obtain ⟨fs, hr, hrun, hended, hW, hsame⟩ := X.leave (v := some (.int (nar t z))) (fun h => by rw [hret] at h; cases h) hlocks
  exact ⟨_, _, retN X hx hret ht hd hr, hrun, hended, _, _, rfl, hq, ⟨_, rfl⟩, hW, hsame.mono hc hs⟩
theorem Ends.retV (X : Stand p l e R s m args below meth c T locs cells slots) (hx : p.tables.exec = Jvm.exec) (hlocks : meth.locks = false) {pc : Nat} {Ls : Array Slot} (hret : meth.sig.returnType = none)
    (hd : decode c.code pc = .ok (.return_, 1)) {kc ks : Nat} {Q : Option Value → Heap → List Loc → Prop} (hc : cells ≤ kc) (hs : slots ≤ ks) (hq : Q none T.heap locs) : Ends p e below s T (mkF m pc Ls []) kc ks Q := by
  obtain ⟨fs, hr, hrun, hended, hW, hsame⟩ := X.leave (v := none) (fun _ => rfl) hlocks
  exact ⟨_, _, X.returnOut hx hret hd hr, hrun, hended, _, _, rfl, hq, ⟨_, rfl⟩, hW, hsame.mono hc hs⟩
end OwnEnds
abbrev Meets1 (l : Launch) (y : MethodName) (bytes : ByteArray) (ml : Nat) (rt : Option FieldType) (ws : List Jvm.Cond) (rm : Room) (av : Array Value) (Z : State) (h0 : Heap) (Q : Option Value → Heap → List Loc → Prop) : Prop :=
  MetFree l y (head1 (Jvm.Cond.code y bytes ml rt :: ws) rm) (fun a U => a = av ∧ Z.Warmed39 U.vm ∧ U.heap = h0) (fun _ _ _ _ _ => True) (fun _ U o U' => ∃ v L, o = .returned v ∧ Q v U'.heap L ∧ FrameEnd U o U' L rm.cells rm.slots)
theorem own_backOf {p : Program} {l : Launch} {e : Env} {R : Room} {s : State} {args : Array Value} {below : List Frame} {Z : State} {a0 : Array Value} {h : Heap} {y : MethodName} {bytes : ByteArray} {maxL : Nat} {ret : Option FieldType} {rm : Room} {len W : Nat} {as' : Array Value} {Q : Option Value → Heap → List Loc → Prop}
    (hM : Meets1 l y bytes maxL ret [] rm as' Z h Q) (hZ : Z.Warmed39 s.vm) (wc : (Jvm.Cond.code y bytes maxL ret).before a0 Z = true) (wz : (Jvm.Cond.initialized y.cls).before a0 Z = true) (hf : rm.frames + 1 ≤ R.frames) (hl : W + (maxL + 11) + rm.locals ≤ R.locals) :
    Back l R p e below s args y len W (fun A a => a = as' ∧ A.U.heap = h ∧ A.cells + rm.cells ≤ R.cells ∧ A.slots + rm.slots ≤ R.slots)
      (fun A _ v B => ∃ L, Q v B.U.heap L ∧ B.locs = A.locs ++ L ∧ B.cells = A.cells + rm.cells ∧ B.slots = A.slots + rm.slots) := backOf (Q := Q) hM hZ wc wz hf hl
theorem own_old_le {Z : State} {n0 : Nat} {h : Heap} (O : Old Z n0 h) : n0 ≤ h.size := O.1 ▸ O.2.1
theorem own_eqI {args : Array Value} {s : State} {t : Term} {k : Int32} (h : (Jvm.Cond.eq t (.int k)).value args s none s [] = some true) : t.eval args s none [] s = some (.int k) := by
  cases ht : t.eval args s none [] s with
  | none => simp [Cond.value, ht] at h
  | some x => cases x <;> simp_all [Cond.value, Term.eval]
theorem own_mod (p0 i : Int32) (h : ((p0 &&& (2147483647 : Int32)) % (6 : Int32)) = i) : i = 0 ∨ i = 1 ∨ i = 2 ∨ i = 3 ∨ i = 4 ∨ i = 5 := by
  have h1 := c_and p0 2147483647 (by decide)
  have h2 := (c_irem (p0 &&& 2147483647) 6 6 (by decide)).1 h1.1
  rw [h] at h2
  have h3 : i.toInt = 0 ∨ i.toInt = 1 ∨ i.toInt = 2 ∨ i.toInt = 3 ∨ i.toInt = 4 ∨ i.toInt = 5 := by omega
  rcases h3 with q | q | q | q | q | q
  · exact Or.inl (Int32.toInt_inj.mp q)
  · exact Or.inr (Or.inl (Int32.toInt_inj.mp q))
  · exact Or.inr (Or.inr (Or.inl (Int32.toInt_inj.mp q)))
  · exact Or.inr (Or.inr (Or.inr (Or.inl (Int32.toInt_inj.mp q))))
  · exact Or.inr (Or.inr (Or.inr (Or.inr (Or.inl (Int32.toInt_inj.mp q)))))
  · exact Or.inr (Or.inr (Or.inr (Or.inr (Or.inr (Int32.toInt_inj.mp q)))))
def Facts (Z : State) (w_PENDING : Addr) (w_SUCCEEDED : Addr) (w_RETRY_WAIT : Addr) (w_IN_FLIGHT : Addr) (w_DEAD_LETTER : Addr) (w_FAILED : Addr) : Prop :=
  Sta Z Z.heap "com/example/keryx/keryx/core/DeliveryStatus" "PENDING" "Lcom/example/keryx/keryx/core/DeliveryStatus;" (.ref w_PENDING) ∧
  Exa Z Z.heap w_PENDING "com/example/keryx/keryx/core/DeliveryStatus" ∧
  Fld Z Z.heap w_PENDING "com/example/keryx/keryx/core/DeliveryStatus" "terminal" "Z" (.int (0 : Int32)) ∧
  Sta Z Z.heap "com/example/keryx/keryx/core/DeliveryStatus" "SUCCEEDED" "Lcom/example/keryx/keryx/core/DeliveryStatus;" (.ref w_SUCCEEDED) ∧
  Exa Z Z.heap w_SUCCEEDED "com/example/keryx/keryx/core/DeliveryStatus" ∧
  Fld Z Z.heap w_SUCCEEDED "com/example/keryx/keryx/core/DeliveryStatus" "terminal" "Z" (.int (1 : Int32)) ∧
  Sta Z Z.heap "com/example/keryx/keryx/core/DeliveryStatus" "RETRY_WAIT" "Lcom/example/keryx/keryx/core/DeliveryStatus;" (.ref w_RETRY_WAIT) ∧
  Exa Z Z.heap w_RETRY_WAIT "com/example/keryx/keryx/core/DeliveryStatus" ∧
  Fld Z Z.heap w_RETRY_WAIT "com/example/keryx/keryx/core/DeliveryStatus" "terminal" "Z" (.int (0 : Int32)) ∧
  Sta Z Z.heap "com/example/keryx/keryx/core/DeliveryStatus" "IN_FLIGHT" "Lcom/example/keryx/keryx/core/DeliveryStatus;" (.ref w_IN_FLIGHT) ∧
  Exa Z Z.heap w_IN_FLIGHT "com/example/keryx/keryx/core/DeliveryStatus" ∧
  Fld Z Z.heap w_IN_FLIGHT "com/example/keryx/keryx/core/DeliveryStatus" "terminal" "Z" (.int (0 : Int32)) ∧
  Sta Z Z.heap "com/example/keryx/keryx/core/DeliveryStatus" "DEAD_LETTER" "Lcom/example/keryx/keryx/core/DeliveryStatus;" (.ref w_DEAD_LETTER) ∧
  Exa Z Z.heap w_DEAD_LETTER "com/example/keryx/keryx/core/DeliveryStatus" ∧
  Fld Z Z.heap w_DEAD_LETTER "com/example/keryx/keryx/core/DeliveryStatus" "terminal" "Z" (.int (1 : Int32)) ∧
  Fld Z Z.heap w_DEAD_LETTER "java/lang/Enum" "ordinal" "I" (.int (5 : Int32)) ∧
  Fld Z Z.heap w_SUCCEEDED "java/lang/Enum" "ordinal" "I" (.int (3 : Int32)) ∧
  Sta Z Z.heap "com/example/keryx/keryx/core/DeliveryStatus" "FAILED" "Lcom/example/keryx/keryx/core/DeliveryStatus;" (.ref w_FAILED) ∧
  Exa Z Z.heap w_FAILED "com/example/keryx/keryx/core/DeliveryStatus" ∧
  Fld Z Z.heap w_FAILED "com/example/keryx/keryx/core/DeliveryStatus" "terminal" "Z" (.int (1 : Int32)) ∧
  Fld Z Z.heap w_FAILED "java/lang/Enum" "ordinal" "I" (.int (4 : Int32))
theorem d1_0 : decode method_2_code 0 = .ok (.iload_n 0, 1) := by decide +kernel
theorem d1_1 : decode method_2_code 1 = .ok (.ifCond .ne 7, 3) := by decide +kernel
theorem d1_4 : decode method_2_code 4 = .ok (.getstatic 7, 3) := by decide +kernel
theorem d1_7 : decode method_2_code 7 = .ok (.areturn, 1) := by decide +kernel
theorem d1_8 : decode method_2_code 8 = .ok (.iload_n 0, 1) := by decide +kernel
theorem d1_9 : decode method_2_code 9 = .ok (.iconst 1, 1) := by decide +kernel
theorem d1_10 : decode method_2_code 10 = .ok (.if_icmp .ne 7, 3) := by decide +kernel
theorem d1_13 : decode method_2_code 13 = .ok (.getstatic 13, 3) := by decide +kernel
theorem d1_16 : decode method_2_code 16 = .ok (.areturn, 1) := by decide +kernel
theorem d1_17 : decode method_2_code 17 = .ok (.iload_n 0, 1) := by decide +kernel
theorem d1_18 : decode method_2_code 18 = .ok (.iconst 2, 1) := by decide +kernel
theorem d1_19 : decode method_2_code 19 = .ok (.if_icmp .ne 7, 3) := by decide +kernel
theorem d1_22 : decode method_2_code 22 = .ok (.getstatic 16, 3) := by decide +kernel
theorem d1_25 : decode method_2_code 25 = .ok (.areturn, 1) := by decide +kernel
theorem d1_26 : decode method_2_code 26 = .ok (.iload_n 0, 1) := by decide +kernel
theorem d1_27 : decode method_2_code 27 = .ok (.iconst 3, 1) := by decide +kernel
theorem d1_28 : decode method_2_code 28 = .ok (.if_icmp .ne 7, 3) := by decide +kernel
theorem d1_31 : decode method_2_code 31 = .ok (.getstatic 19, 3) := by decide +kernel
theorem d1_34 : decode method_2_code 34 = .ok (.areturn, 1) := by decide +kernel
theorem d1_35 : decode method_2_code 35 = .ok (.iload_n 0, 1) := by decide +kernel
theorem d1_36 : decode method_2_code 36 = .ok (.iconst 4, 1) := by decide +kernel
theorem d1_37 : decode method_2_code 37 = .ok (.if_icmp .ne 7, 3) := by decide +kernel
theorem d1_40 : decode method_2_code 40 = .ok (.getstatic 22, 3) := by decide +kernel
theorem d1_43 : decode method_2_code 43 = .ok (.areturn, 1) := by decide +kernel
theorem d1_44 : decode method_2_code 44 = .ok (.getstatic 25, 3) := by decide +kernel
theorem d1_47 : decode method_2_code 47 = .ok (.areturn, 1) := by decide +kernel
theorem pn1 : plainName "com/example/keryx/keryx/core/DeliveryStatusIsFailurePinLaw" = true := by first | (simp [plainName, overriddenIn]; done) | decide +kernel
theorem ef1 (m : MethodId) (p0 : Int32) : entryFrame m #[(.int p0)] 1 = mkF m 0 #[.val (.int p0)] [] := by first | (simp [entryFrame, mkF, argsToLocals, Value.category]; done) | rfl
set_option maxRecDepth 65536 in
set_option maxHeartbeats 40000000 in
theorem rmP (l : Launch) (Z : State) (a0 : Array Value) (hw : ∀ d ∈ tables_1, d.before a0 Z = true) (ws : List Jvm.Cond) (n0 : Nat) (h0 : Heap) (O0 : Old Z n0 h0) (p0 : Int32) (w_PENDING : Addr) (w_SUCCEEDED : Addr) (w_RETRY_WAIT : Addr) (w_IN_FLIGHT : Addr) (w_DEAD_LETTER : Addr) (w_FAILED : Addr) (FF : Facts Z w_PENDING w_SUCCEEDED w_RETRY_WAIT w_IN_FLIGHT w_DEAD_LETTER w_FAILED) (r : Addr) (hr : r = if p0 = 0 then w_PENDING else if p0 = 1 then w_IN_FLIGHT else if p0 = 2 then w_RETRY_WAIT else if p0 = 3 then w_SUCCEEDED else if p0 = 4 then w_FAILED else w_DEAD_LETTER) :
    Meets1 l (⟨"com/example/keryx/keryx/core/DeliveryStatusIsFailurePinLaw", "pick", "(I)Lcom/example/keryx/keryx/core/DeliveryStatus;"⟩ : MethodName) method_2_code 1 (some (.object "com/example/keryx/keryx/core/DeliveryStatus")) ws ({ frames := 0, cells := 0, slots := 0, locals := 0 } : Room) #[(.int p0)] Z h0 (fun v h L => v = some (.ref r) ∧ Fr n0 L ∧ h = h0) := by
  refine MetFree.of_bodySF (plainFor_of_name pn1) hisR ?_
  intro p e s m args below meth c s₁ Bd hml0 hP hK
  obtain ⟨rfl, hZ, hh⟩ := hP
  have hx := Bd.exec
  have hby := Bd.bytes
  have hml : c.maxLocals = 1 := hml0
  have hown : s.vm.findClass "com/example/keryx/keryx/core/DeliveryStatusIsFailurePinLaw" = some m.cls := findClass_of_methodNamed Bd.named
  have hnm := (name_of_methodNamed Bd.named Bd.method).1
  have X0 : Stand p l e ({ frames := 0, cells := 0, slots := 0, locals := 0 } : Room) s m #[(.int p0)] below meth c s₁ [] 0 0 := Stand.of_body Bd
  have e0 : s₁.heap = h0 := by rw [← hh, Bd.state]; rfl
  have N0 := Fr.nil n0
  have Z0 := own_old_le O0
  show Ends p e below s s₁ (entryFrame m #[(.int p0)] 1) ({ frames := 0, cells := 0, slots := 0, locals := 0 } : Room).cells ({ frames := 0, cells := 0, slots := 0, locals := 0 } : Room).slots (fun v h L => v = some (.ref r) ∧ Fr n0 L ∧ h = h0)
  refine Ends.go (fun _ k => castTop (ef1 m p0) k) ?_
  have K0 := Keep.refl h0 []
  have FF0 := FF
  obtain ⟨S_PENDING, E_PENDING, F_terminal_PENDING, S_SUCCEEDED, E_SUCCEEDED, F_terminal_SUCCEEDED, S_RETRY_WAIT, E_RETRY_WAIT, F_terminal_RETRY_WAIT, S_IN_FLIGHT, E_IN_FLIGHT, F_terminal_IN_FLIGHT, S_DEAD_LETTER, E_DEAD_LETTER, F_terminal_DEAD_LETTER, F_ordinal_DEAD_LETTER, F_ordinal_SUCCEEDED, S_FAILED, E_FAILED, F_terminal_FAILED, F_ordinal_FAILED⟩ := FF
  show Ends p e below s s₁ (mkF m 0 #[.val (.int p0)] []) _ _ _
  refine Ends.go (fun _ k => XS.iloadN X0.here hx rfl (hb hby d1_0) rfl k) ?_
  show Ends p e below s s₁ (mkF m 1 #[.val (.int p0)] [(.int p0)]) _ _ _
  by_cases hc1_1 : p0 = (0 : Int32)
  · refine Ends.go (fun _ k => XS.ifNo X0.here hx rfl (hb hby d1_1) rfl ((if0 _ _).trans (teq hc1_1).2) k) ?_
    show Ends p e below s s₁ (mkF m 4 #[.val (.int p0)] []) _ _ _
    obtain ⟨T2, X2, e2, st2⟩ := getS2 X0 hx hZ hown (host := "") (Or.inl (hw _ (List.mem_of_getElem? (i := 5) rfl))) Via.refl e0 (S_PENDING.ext O0.2) (g := (mkF m 4 #[.val (.int p0)] [])) rfl (hb hby d1_4)
    refine Ends.go st2 ?_
    show Ends p e below s T2 (mkF m 7 #[.val (.int p0)] [(.ref w_PENDING)]) _ _ _
    refine Ends.ret X2 hx Bd.notSynchronized (t := (.object "com/example/keryx/keryx/core/DeliveryStatus")) Bd.returns rfl (Or.inr (Or.inr (Or.inr (Or.inr ⟨rfl, rfl, rfl⟩)))) (hb hby d1_7) (by decide) (by decide) ?_
    refine ⟨?_, N0, e2⟩
    show (some (.ref w_PENDING) : Option Value) = _
    rw [hr]; simp [hc1_1]
  · refine Ends.go (fun _ k => XS.ifYes X0.here hx rfl (pc0 := 1) (pc' := 8) rfl (hb hby d1_1) rfl ((if0 _ _).trans (feq hc1_1).2) (by decide) (by decide) k) ?_
    show Ends p e below s s₁ (mkF m 8 #[.val (.int p0)] []) _ _ _
    refine Ends.go (fun _ k => XS.iloadN X0.here hx rfl (hb hby d1_8) rfl k) ?_
    show Ends p e below s s₁ (mkF m 9 #[.val (.int p0)] [(.int p0)]) _ _ _
    refine Ends.go (fun _ k => XS.iconst X0.here hx rfl (hb hby d1_9) k) ?_
    show Ends p e below s s₁ (mkF m 10 #[.val (.int p0)] [(.int (1 : Int32)), (.int p0)]) _ _ _
    by_cases hc10_3 : p0 = (1 : Int32)
    · refine Ends.go (fun _ k => XS.icmpNo X0.here hx rfl (hb hby d1_10) rfl (teq hc10_3).2 k) ?_
      show Ends p e below s s₁ (mkF m 13 #[.val (.int p0)] []) _ _ _
      obtain ⟨T4, X4, e4, st4⟩ := getS2 X0 hx hZ hown (host := "") (Or.inl (hw _ (List.mem_of_getElem? (i := 20) rfl))) Via.refl e0 (S_IN_FLIGHT.ext O0.2) (g := (mkF m 13 #[.val (.int p0)] [])) rfl (hb hby d1_13)
      refine Ends.go st4 ?_
      show Ends p e below s T4 (mkF m 16 #[.val (.int p0)] [(.ref w_IN_FLIGHT)]) _ _ _
      refine Ends.ret X4 hx Bd.notSynchronized (t := (.object "com/example/keryx/keryx/core/DeliveryStatus")) Bd.returns rfl (Or.inr (Or.inr (Or.inr (Or.inr ⟨rfl, rfl, rfl⟩)))) (hb hby d1_16) (by decide) (by decide) ?_
      refine ⟨?_, N0, e4⟩
      show (some (.ref w_IN_FLIGHT) : Option Value) = _
      rw [hr]; simp [hc1_1, hc10_3]
    · refine Ends.go (fun _ k => XS.icmpYes X0.here hx rfl (pc0 := 10) (pc' := 17) rfl (hb hby d1_10) rfl (feq hc10_3).2 (by decide) (by decide) k) ?_
      show Ends p e below s s₁ (mkF m 17 #[.val (.int p0)] []) _ _ _
      refine Ends.go (fun _ k => XS.iloadN X0.here hx rfl (hb hby d1_17) rfl k) ?_
      show Ends p e below s s₁ (mkF m 18 #[.val (.int p0)] [(.int p0)]) _ _ _
      refine Ends.go (fun _ k => XS.iconst X0.here hx rfl (hb hby d1_18) k) ?_
      show Ends p e below s s₁ (mkF m 19 #[.val (.int p0)] [(.int (2 : Int32)), (.int p0)]) _ _ _
      by_cases hc19_5 : p0 = (2 : Int32)
      · refine Ends.go (fun _ k => XS.icmpNo X0.here hx rfl (hb hby d1_19) rfl (teq hc19_5).2 k) ?_
        show Ends p e below s s₁ (mkF m 22 #[.val (.int p0)] []) _ _ _
        obtain ⟨T6, X6, e6, st6⟩ := getS2 X0 hx hZ hown (host := "") (Or.inl (hw _ (List.mem_of_getElem? (i := 18) rfl))) Via.refl e0 (S_RETRY_WAIT.ext O0.2) (g := (mkF m 22 #[.val (.int p0)] [])) rfl (hb hby d1_22)
        refine Ends.go st6 ?_
        show Ends p e below s T6 (mkF m 25 #[.val (.int p0)] [(.ref w_RETRY_WAIT)]) _ _ _
        refine Ends.ret X6 hx Bd.notSynchronized (t := (.object "com/example/keryx/keryx/core/DeliveryStatus")) Bd.returns rfl (Or.inr (Or.inr (Or.inr (Or.inr ⟨rfl, rfl, rfl⟩)))) (hb hby d1_25) (by decide) (by decide) ?_
        refine ⟨?_, N0, e6⟩
        show (some (.ref w_RETRY_WAIT) : Option Value) = _
        rw [hr]; simp [hc1_1, hc10_3, hc19_5]
      · refine Ends.go (fun _ k => XS.icmpYes X0.here hx rfl (pc0 := 19) (pc' := 26) rfl (hb hby d1_19) rfl (feq hc19_5).2 (by decide) (by decide) k) ?_
        show Ends p e below s s₁ (mkF m 26 #[.val (.int p0)] []) _ _ _
        refine Ends.go (fun _ k => XS.iloadN X0.here hx rfl (hb hby d1_26) rfl k) ?_
        show Ends p e below s s₁ (mkF m 27 #[.val (.int p0)] [(.int p0)]) _ _ _
        refine Ends.go (fun _ k => XS.iconst X0.here hx rfl (hb hby d1_27) k) ?_
        show Ends p e below s s₁ (mkF m 28 #[.val (.int p0)] [(.int (3 : Int32)), (.int p0)]) _ _ _
        by_cases hc28_7 : p0 = (3 : Int32)
        · refine Ends.go (fun _ k => XS.icmpNo X0.here hx rfl (hb hby d1_28) rfl (teq hc28_7).2 k) ?_
          show Ends p e below s s₁ (mkF m 31 #[.val (.int p0)] []) _ _ _
          obtain ⟨T8, X8, e8, st8⟩ := getS2 X0 hx hZ hown (host := "") (Or.inl (hw _ (List.mem_of_getElem? (i := 15) rfl))) Via.refl e0 (S_SUCCEEDED.ext O0.2) (g := (mkF m 31 #[.val (.int p0)] [])) rfl (hb hby d1_31)
          refine Ends.go st8 ?_
          show Ends p e below s T8 (mkF m 34 #[.val (.int p0)] [(.ref w_SUCCEEDED)]) _ _ _
          refine Ends.ret X8 hx Bd.notSynchronized (t := (.object "com/example/keryx/keryx/core/DeliveryStatus")) Bd.returns rfl (Or.inr (Or.inr (Or.inr (Or.inr ⟨rfl, rfl, rfl⟩)))) (hb hby d1_34) (by decide) (by decide) ?_
          refine ⟨?_, N0, e8⟩
          show (some (.ref w_SUCCEEDED) : Option Value) = _
          rw [hr]; simp [hc1_1, hc10_3, hc19_5, hc28_7]
        · refine Ends.go (fun _ k => XS.icmpYes X0.here hx rfl (pc0 := 28) (pc' := 35) rfl (hb hby d1_28) rfl (feq hc28_7).2 (by decide) (by decide) k) ?_
          show Ends p e below s s₁ (mkF m 35 #[.val (.int p0)] []) _ _ _
          refine Ends.go (fun _ k => XS.iloadN X0.here hx rfl (hb hby d1_35) rfl k) ?_
          show Ends p e below s s₁ (mkF m 36 #[.val (.int p0)] [(.int p0)]) _ _ _
          refine Ends.go (fun _ k => XS.iconst X0.here hx rfl (hb hby d1_36) k) ?_
          show Ends p e below s s₁ (mkF m 37 #[.val (.int p0)] [(.int (4 : Int32)), (.int p0)]) _ _ _
          by_cases hc37_9 : p0 = (4 : Int32)
          · refine Ends.go (fun _ k => XS.icmpNo X0.here hx rfl (hb hby d1_37) rfl (teq hc37_9).2 k) ?_
            show Ends p e below s s₁ (mkF m 40 #[.val (.int p0)] []) _ _ _
            obtain ⟨T10, X10, e10, st10⟩ := getS2 X0 hx hZ hown (host := "") (Or.inl (hw _ (List.mem_of_getElem? (i := 24) rfl))) Via.refl e0 (S_FAILED.ext O0.2) (g := (mkF m 40 #[.val (.int p0)] [])) rfl (hb hby d1_40)
            refine Ends.go st10 ?_
            show Ends p e below s T10 (mkF m 43 #[.val (.int p0)] [(.ref w_FAILED)]) _ _ _
            refine Ends.ret X10 hx Bd.notSynchronized (t := (.object "com/example/keryx/keryx/core/DeliveryStatus")) Bd.returns rfl (Or.inr (Or.inr (Or.inr (Or.inr ⟨rfl, rfl, rfl⟩)))) (hb hby d1_43) (by decide) (by decide) ?_
            refine ⟨?_, N0, e10⟩
            show (some (.ref w_FAILED) : Option Value) = _
            rw [hr]; simp [hc1_1, hc10_3, hc19_5, hc28_7, hc37_9]
          · refine Ends.go (fun _ k => XS.icmpYes X0.here hx rfl (pc0 := 37) (pc' := 44) rfl (hb hby d1_37) rfl (feq hc37_9).2 (by decide) (by decide) k) ?_
            show Ends p e below s s₁ (mkF m 44 #[.val (.int p0)] []) _ _ _
            obtain ⟨T11, X11, e11, st11⟩ := getS2 X0 hx hZ hown (host := "") (Or.inl (hw _ (List.mem_of_getElem? (i := 22) rfl))) Via.refl e0 (S_DEAD_LETTER.ext O0.2) (g := (mkF m 44 #[.val (.int p0)] [])) rfl (hb hby d1_44)
            refine Ends.go st11 ?_
            show Ends p e below s T11 (mkF m 47 #[.val (.int p0)] [(.ref w_DEAD_LETTER)]) _ _ _
            refine Ends.ret X11 hx Bd.notSynchronized (t := (.object "com/example/keryx/keryx/core/DeliveryStatus")) Bd.returns rfl (Or.inr (Or.inr (Or.inr (Or.inr ⟨rfl, rfl, rfl⟩)))) (hb hby d1_47) (by decide) (by decide) ?_
            refine ⟨?_, N0, e11⟩
            show (some (.ref w_DEAD_LETTER) : Option Value) = _
            rw [hr]; simp [hc1_1, hc10_3, hc19_5, hc28_7, hc37_9]
theorem d2_0 : decode prog_5_method_6_code 0 = .ok (.aload_n 0, 1) := by decide +kernel
theorem d2_1 : decode prog_5_method_6_code 1 = .ok (.getfield 45, 3) := by decide +kernel
theorem d2_4 : decode prog_5_method_6_code 4 = .ok (.ifCond .eq 14, 3) := by decide +kernel
theorem d2_7 : decode prog_5_method_6_code 7 = .ok (.aload_n 0, 1) := by decide +kernel
theorem d2_8 : decode prog_5_method_6_code 8 = .ok (.getstatic 13, 3) := by decide +kernel
theorem d2_11 : decode prog_5_method_6_code 11 = .ok (.if_acmp .eq 7, 3) := by decide +kernel
theorem d2_14 : decode prog_5_method_6_code 14 = .ok (.iconst 1, 1) := by decide +kernel
theorem d2_15 : decode prog_5_method_6_code 15 = .ok (.goto 4, 3) := by decide +kernel
theorem d2_18 : decode prog_5_method_6_code 18 = .ok (.iconst 0, 1) := by decide +kernel
theorem d2_19 : decode prog_5_method_6_code 19 = .ok (.ireturn, 1) := by decide +kernel
theorem pn2 : plainName "com/example/keryx/keryx/core/DeliveryStatus" = true := by first | (simp [plainName, overriddenIn]; done) | decide +kernel
theorem ef2 (m : MethodId) (o0 : Addr) : entryFrame m #[(.ref o0)] 1 = mkF m 0 #[.val (.ref o0)] [] := by first | (simp [entryFrame, mkF, argsToLocals, Value.category]; done) | rfl
set_option maxRecDepth 65536 in
set_option maxHeartbeats 40000000 in
theorem rmF (l : Launch) (Z : State) (a0 : Array Value) (hw : ∀ d ∈ tables_1, d.before a0 Z = true) (ws : List Jvm.Cond) (n0 : Nat) (h0 : Heap) (O0 : Old Z n0 h0) (o0 : Addr) (w_PENDING : Addr) (w_SUCCEEDED : Addr) (w_RETRY_WAIT : Addr) (w_IN_FLIGHT : Addr) (w_DEAD_LETTER : Addr) (w_FAILED : Addr) (FF : Facts Z w_PENDING w_SUCCEEDED w_RETRY_WAIT w_IN_FLIGHT w_DEAD_LETTER w_FAILED) (t : Int32) (Ft : Fld Z Z.heap o0 "com/example/keryx/keryx/core/DeliveryStatus" "terminal" "Z" (.int t)) (r : Int32) (hr : r = if t = 0 then 0 else if o0 = w_SUCCEEDED then 0 else 1) :
    Meets1 l (⟨"com/example/keryx/keryx/core/DeliveryStatus", "isFailure", "()Z"⟩ : MethodName) prog_5_method_6_code 1 (some .boolean) ws ({ frames := 0, cells := 0, slots := 0, locals := 0 } : Room) #[(.ref o0)] Z h0 (fun v h L => v = some (.int r) ∧ Fr n0 L ∧ h = h0) := by
  refine MetFree.of_bodySF (plainFor_of_name pn2) hisR ?_
  intro p e s m args below meth c s₁ Bd hml0 hP hK
  obtain ⟨rfl, hZ, hh⟩ := hP
  have hx := Bd.exec
  have hby := Bd.bytes
  have hml : c.maxLocals = 1 := hml0
  have hown : s.vm.findClass "com/example/keryx/keryx/core/DeliveryStatus" = some m.cls := findClass_of_methodNamed Bd.named
  have hnm := (name_of_methodNamed Bd.named Bd.method).1
  have X0 : Stand p l e ({ frames := 0, cells := 0, slots := 0, locals := 0 } : Room) s m #[(.ref o0)] below meth c s₁ [] 0 0 := Stand.of_body Bd
  have e0 : s₁.heap = h0 := by rw [← hh, Bd.state]; rfl
  have N0 := Fr.nil n0
  have Z0 := own_old_le O0
  show Ends p e below s s₁ (entryFrame m #[(.ref o0)] 1) ({ frames := 0, cells := 0, slots := 0, locals := 0 } : Room).cells ({ frames := 0, cells := 0, slots := 0, locals := 0 } : Room).slots (fun v h L => v = some (.int r) ∧ Fr n0 L ∧ h = h0)
  refine Ends.go (fun _ k => castTop (ef2 m o0) k) ?_
  have K0 := Keep.refl h0 []
  have FF0 := FF
  obtain ⟨S_PENDING, E_PENDING, F_terminal_PENDING, S_SUCCEEDED, E_SUCCEEDED, F_terminal_SUCCEEDED, S_RETRY_WAIT, E_RETRY_WAIT, F_terminal_RETRY_WAIT, S_IN_FLIGHT, E_IN_FLIGHT, F_terminal_IN_FLIGHT, S_DEAD_LETTER, E_DEAD_LETTER, F_terminal_DEAD_LETTER, F_ordinal_DEAD_LETTER, F_ordinal_SUCCEEDED, S_FAILED, E_FAILED, F_terminal_FAILED, F_ordinal_FAILED⟩ := FF
  show Ends p e below s s₁ (mkF m 0 #[.val (.ref o0)] []) _ _ _
  refine Ends.go (fun _ k => XS.aloadN X0.here hx rfl (hb hby d2_0) rfl rfl k) ?_
  show Ends p e below s s₁ (mkF m 1 #[.val (.ref o0)] [(.ref o0)]) _ _ _
  obtain ⟨T1, X1, e1, st1⟩ := getF X0 hx hZ hown (host := "") (Or.inl (hw _ (List.mem_of_getElem? (i := 13) rfl))) Via.refl e0 (Ft.ext O0.2) (g := (mkF m 1 #[.val (.ref o0)] [(.ref o0)])) rfl rfl (hb hby d2_1)
  refine Ends.go st1 ?_
  show Ends p e below s T1 (mkF m 4 #[.val (.ref o0)] [(.int t)]) _ _ _
  by_cases hc4_2 : t = (0 : Int32)
  · refine Ends.go (fun _ k => XS.ifYes X1.here hx rfl (pc0 := 4) (pc' := 18) rfl (hb hby d2_4) rfl ((if0 _ _).trans (teq hc4_2).1) (by decide) (by decide) k) ?_
    show Ends p e below s T1 (mkF m 18 #[.val (.ref o0)] []) _ _ _
    refine Ends.go (fun _ k => XS.iconst X1.here hx rfl (hb hby d2_18) k) ?_
    show Ends p e below s T1 (mkF m 19 #[.val (.ref o0)] [(.int (0 : Int32))]) _ _ _
    refine Ends.retZ X1 hx Bd.notSynchronized (t := .boolean) Bd.returns (by simp) (hb hby d2_19) (by decide) (by decide) ?_
    refine ⟨?_, N0, e1⟩
    show (some (.int (0 : Int32)) : Option Value) = _
    rw [hr]; simp [hc4_2]
  · refine Ends.go (fun _ k => XS.ifNo X1.here hx rfl (hb hby d2_4) rfl ((if0 _ _).trans (feq hc4_2).1) k) ?_
    show Ends p e below s T1 (mkF m 7 #[.val (.ref o0)] []) _ _ _
    refine Ends.go (fun _ k => XS.aloadN X1.here hx rfl (hb hby d2_7) rfl rfl k) ?_
    show Ends p e below s T1 (mkF m 8 #[.val (.ref o0)] [(.ref o0)]) _ _ _
    obtain ⟨T3, X3, e3, st3⟩ := getS2 X1 hx hZ hown (host := "") (Or.inl (hw _ (List.mem_of_getElem? (i := 17) rfl))) Via.refl e1 (S_SUCCEEDED.ext O0.2) (g := (mkF m 8 #[.val (.ref o0)] [(.ref o0)])) rfl (hb hby d2_8)
    refine Ends.go st3 ?_
    show Ends p e below s T3 (mkF m 11 #[.val (.ref o0)] [(.ref w_SUCCEEDED), (.ref o0)]) _ _ _
    by_cases ha11_4 : o0 = w_SUCCEEDED
    · refine Ends.go (fun _ k => Jvm.RoadKit.acmp (g := (mkF m 11 #[.val (.ref o0)] [(.ref w_SUCCEEDED), (.ref o0)])) X3 hx rfl rfl rfl (pc0 := 11) (pc' := 18) (same := true) rfl (hb hby d2_11) rfl (decide_eq_true (congrArg Value.ref ha11_4)) (by decide) (by decide) k) ?_
      show Ends p e below s T3 (mkF m 18 #[.val (.ref o0)] []) _ _ _
      refine Ends.go (fun _ k => XS.iconst X3.here hx rfl (hb hby d2_18) k) ?_
      show Ends p e below s T3 (mkF m 19 #[.val (.ref o0)] [(.int (0 : Int32))]) _ _ _
      refine Ends.retZ X3 hx Bd.notSynchronized (t := .boolean) Bd.returns (by simp) (hb hby d2_19) (by decide) (by decide) ?_
      refine ⟨?_, N0, e3⟩
      show (some (.int (0 : Int32)) : Option Value) = _
      rw [hr]; simp [hc4_2, ha11_4]
    · refine Ends.go (fun _ k => Jvm.RoadKit.acmp (g := (mkF m 11 #[.val (.ref o0)] [(.ref w_SUCCEEDED), (.ref o0)])) X3 hx rfl rfl rfl (pc0 := 11) (pc' := 14) (same := false) rfl (hb hby d2_11) rfl (decide_eq_false fun q => ha11_4 (Value.ref.inj q)) (by decide) (by decide) k) ?_
      show Ends p e below s T3 (mkF m 14 #[.val (.ref o0)] []) _ _ _
      refine Ends.go (fun _ k => XS.iconst X3.here hx rfl (hb hby d2_14) k) ?_
      show Ends p e below s T3 (mkF m 15 #[.val (.ref o0)] [(.int (1 : Int32))]) _ _ _
      refine Ends.go (fun _ k => XS.goto X3.here hx rfl (pc0 := 15) (pc' := 19) rfl (hb hby d2_15) (by decide) (by decide) k) ?_
      show Ends p e below s T3 (mkF m 19 #[.val (.ref o0)] [(.int (1 : Int32))]) _ _ _
      refine Ends.retZ X3 hx Bd.notSynchronized (t := .boolean) Bd.returns (by simp) (hb hby d2_19) (by decide) (by decide) ?_
      refine ⟨?_, N0, e3⟩
      show (some (.int (1 : Int32)) : Option Value) = _
      rw [hr]; simp [hc4_2, ha11_4]
theorem pn0 : plainName "com/example/keryx/keryx/core/DeliveryStatusIsFailurePinLaw" = true := by first | (simp [plainName, overriddenIn]; done) | decide +kernel
theorem pd0_0 : parseMethodDescriptor "(I)Lcom/example/keryx/keryx/core/DeliveryStatus;" = some ⟨[.int], some (.object "com/example/keryx/keryx/core/DeliveryStatus")⟩ := by decide +kernel
theorem pd0_1 : parseMethodDescriptor "()Z" = some ⟨[], some .boolean⟩ := by decide +kernel
theorem ef0 (m : MethodId) (p0 : Int32) : entryFrame m #[(.int p0)] maxLocals = mkF m 0 #[.val (.int p0), .unset, .unset, .unset] [] := by first | (simp [entryFrame, mkF, argsToLocals, Value.category, maxLocals]; done) | rfl
set_option maxRecDepth 65536 in
set_option maxHeartbeats 40000000 in
theorem rm0 (l : Launch) (Z : State) (a0 : Array Value) (hw : ∀ d ∈ tables_1, d.before a0 Z = true) (ws : List Jvm.Cond) (n0 : Nat) (h0 : Heap) (O0 : Old Z n0 h0) (p0 : Int32) (w_PENDING : Addr) (w_SUCCEEDED : Addr) (w_RETRY_WAIT : Addr) (w_IN_FLIGHT : Addr) (w_DEAD_LETTER : Addr) (w_FAILED : Addr) (FF : Facts Z w_PENDING w_SUCCEEDED w_RETRY_WAIT w_IN_FLIGHT w_DEAD_LETTER w_FAILED) :
    Meets1 l x code maxLocals ret ws room_1 #[(.int p0)] Z h0 (fun v h L => v = some (.int (1 : Int32)) ∧ Fr n0 L) := by
  refine MetFree.of_bodySF (plainFor_of_name pn0) hisR ?_
  intro p e s m args below meth c s₁ Bd hml0 hP hK
  obtain ⟨rfl, hZ, hh⟩ := hP
  have hx := Bd.exec
  have hby := Bd.bytes
  have hml : c.maxLocals = 4 := hml0
  have hown : s.vm.findClass "com/example/keryx/keryx/core/DeliveryStatusIsFailurePinLaw" = some m.cls := findClass_of_methodNamed Bd.named
  have hnm := (name_of_methodNamed Bd.named Bd.method).1
  have X0 : Stand p l e room_1 s m #[(.int p0)] below meth c s₁ [] 0 0 := Stand.of_body Bd
  have e0 : s₁.heap = h0 := by rw [← hh, Bd.state]; rfl
  have N0 := Fr.nil n0
  have Z0 := own_old_le O0
  show Ends p e below s s₁ (entryFrame m #[(.int p0)] maxLocals) room_1.cells room_1.slots (fun v h L => v = some (.int (1 : Int32)) ∧ Fr n0 L)
  refine Ends.go (fun _ k => castTop (ef0 m p0) k) ?_
  have K0 := Keep.refl h0 []
  have FF0 := FF
  obtain ⟨S_PENDING, E_PENDING, F_terminal_PENDING, S_SUCCEEDED, E_SUCCEEDED, F_terminal_SUCCEEDED, S_RETRY_WAIT, E_RETRY_WAIT, F_terminal_RETRY_WAIT, S_IN_FLIGHT, E_IN_FLIGHT, F_terminal_IN_FLIGHT, S_DEAD_LETTER, E_DEAD_LETTER, F_terminal_DEAD_LETTER, F_ordinal_DEAD_LETTER, F_ordinal_SUCCEEDED, S_FAILED, E_FAILED, F_terminal_FAILED, F_ordinal_FAILED⟩ := FF
  show Ends p e below s s₁ (mkF m 0 #[.val (.int p0), .unset, .unset, .unset] []) _ _ _
  refine Ends.go (fun _ k => XS.iloadN X0.here hx rfl (hb hby at_0) rfl k) ?_
  show Ends p e below s s₁ (mkF m 1 #[.val (.int p0), .unset, .unset, .unset] [(.int p0)]) _ _ _
  refine Ends.go (X0.ldcInt hx hown (mvT hZ (hw _ (List.mem_of_getElem? (i := 0) rfl))) (g := (mkF m 1 #[.val (.int p0), .unset, .unset, .unset] [(.int p0)])) rfl (hb hby at_1)) ?_
  show Ends p e below s s₁ (mkF m 3 #[.val (.int p0), .unset, .unset, .unset] [(.int (2147483647 : Int32)), (.int p0)]) _ _ _
  refine Ends.go (fun _ k => XS.iand X0.here hx rfl (hb hby at_3) rfl k) ?_
  show Ends p e below s s₁ (mkF m 4 #[.val (.int p0), .unset, .unset, .unset] [(.int (p0 &&& (2147483647 : Int32)))]) _ _ _
  refine Ends.go (fun _ k => XS.bipush X0.here hx rfl (hb hby at_4) k) ?_
  show Ends p e below s s₁ (mkF m 6 #[.val (.int p0), .unset, .unset, .unset] [(.int (6 : Int32)), (.int (p0 &&& (2147483647 : Int32)))]) _ _ _
  refine Ends.go (fun _ k => iremM X0 hx rfl (hb hby at_6) rfl (by decide) k) ?_
  show Ends p e below s s₁ (mkF m 7 #[.val (.int p0), .unset, .unset, .unset] [(.int ((p0 &&& (2147483647 : Int32)) % (6 : Int32)))]) _ _ _
  generalize hi1 : ((p0 &&& (2147483647 : Int32)) % (6 : Int32)) = i1
  rcases own_mod p0 i1 hi1 with rfl | rfl | rfl | rfl | rfl | rfl
  · show Ends p e below s s₁ (mkF m 7 #[.val (.int p0), .unset, .unset, .unset] [(.int (0 : Int32))]) _ _ _
    refine Ends.go (fun _ k => XS.istoreN X0.here hx rfl (hb hby at_7) rfl (l' := #[.val (.int p0), .val (.int (0 : Int32)), .unset, .unset]) rfl k) ?_
    show Ends p e below s s₁ (mkF m 8 #[.val (.int p0), .val (.int (0 : Int32)), .unset, .unset] []) _ _ _
    refine Ends.go (fun _ k => XS.iloadN X0.here hx rfl (hb hby at_8) rfl k) ?_
    show Ends p e below s s₁ (mkF m 9 #[.val (.int p0), .val (.int (0 : Int32)), .unset, .unset] [(.int (0 : Int32))]) _ _ _
    obtain ⟨_, _, ⟨T2, L2, k2, n2⟩, -, X2, ⟨Lc2, hQ2, l2, y2, z2⟩, st2⟩ := Jvm.LawKit.callS X0 hx (y := (⟨"com/example/keryx/keryx/core/DeliveryStatusIsFailurePinLaw", "pick", "(I)Lcom/example/keryx/keryx/core/DeliveryStatus;"⟩ : MethodName)) hown (mvT hZ (hw _ (List.mem_of_getElem? (i := 1) rfl))) (mvT hZ (hw _ (List.mem_of_getElem? (i := 2) rfl))) (mvT hZ (hw _ (List.mem_of_getElem? (i := 3) rfl))) (mvT hZ (hw _ (List.mem_of_getElem? (i := 4) rfl))) (by decide) (own_backOf (W := 0) (rmP l Z a0 hw [] n0 h0 O0 (0 : Int32) w_PENDING w_SUCCEEDED w_RETRY_WAIT w_IN_FLIGHT w_DEAD_LETTER w_FAILED FF0 w_PENDING (by simp)) hZ (hw _ (List.mem_of_getElem? (i := 4) rfl)) (hw _ (List.mem_of_getElem? (i := 3) rfl)) (by decide) (by decide)) (g := (mkF m 9 #[.val (.int p0), .val (.int (0 : Int32)), .unset, .unset] [(.int (0 : Int32))])) rfl (by rw [hml]; rfl) (argsL := [(.int (0 : Int32))]) (rest := []) (lenOf pd0_0 rfl) rfl (by show 2 * 0 + _ ≤ _; exact Nat.le_of_eq rfl) (hb hby at_9) (fun _ _ => ⟨rfl, e0, (by decide : 0 + 0 ≤ _), (by decide : 0 + 0 ≤ _)⟩)
    dsimp only [Pt.U, Pt.locs, Pt.cells, Pt.slots] at X2 l2 y2 z2 st2 hQ2
    subst l2 y2 z2
    obtain ⟨rfl, N2q, e2q⟩ := hQ2
    have N2 := Fr.app N0 N2q
    refine Ends.go st2 ?_
    show Ends p e below s T2 (mkF m 12 #[.val (.int p0), .val (.int (0 : Int32)), .unset, .unset] [(.ref w_PENDING)]) _ _ _
    refine Ends.go (fun _ k => XS.astoreN X2.here hx rfl (hb hby at_12) rfl rfl (l' := #[.val (.int p0), .val (.int (0 : Int32)), .val (.ref w_PENDING), .unset]) rfl k) ?_
    show Ends p e below s T2 (mkF m 13 #[.val (.int p0), .val (.int (0 : Int32)), .val (.ref w_PENDING), .unset] []) _ _ _
    refine Ends.go (fun _ k => XS.iloadN X2.here hx rfl (hb hby at_13) rfl k) ?_
    show Ends p e below s T2 (mkF m 14 #[.val (.int p0), .val (.int (0 : Int32)), .val (.ref w_PENDING), .unset] [(.int (0 : Int32))]) _ _ _
    refine Ends.go (fun _ k => XS.iconst X2.here hx rfl (hb hby at_14) k) ?_
    show Ends p e below s T2 (mkF m 15 #[.val (.int p0), .val (.int (0 : Int32)), .val (.ref w_PENDING), .unset] [(.int (4 : Int32)), (.int (0 : Int32))]) _ _ _
    refine Ends.go (fun _ k => XS.icmpNo X2.here hx rfl (hb hby at_15) rfl (feq (by decide : ¬ ((0 : Int32) = (4 : Int32)))).1 k) ?_
    show Ends p e below s T2 (mkF m 18 #[.val (.int p0), .val (.int (0 : Int32)), .val (.ref w_PENDING), .unset] []) _ _ _
    refine Ends.go (fun _ k => XS.iloadN X2.here hx rfl (hb hby at_18) rfl k) ?_
    show Ends p e below s T2 (mkF m 19 #[.val (.int p0), .val (.int (0 : Int32)), .val (.ref w_PENDING), .unset] [(.int (0 : Int32))]) _ _ _
    refine Ends.go (fun _ k => XS.iconst X2.here hx rfl (hb hby at_19) k) ?_
    show Ends p e below s T2 (mkF m 20 #[.val (.int p0), .val (.int (0 : Int32)), .val (.ref w_PENDING), .unset] [(.int (5 : Int32)), (.int (0 : Int32))]) _ _ _
    refine Ends.go (fun _ k => XS.icmpYes X2.here hx rfl (pc0 := 20) (pc' := 27) rfl (hb hby at_20) rfl (feq (by decide : ¬ ((0 : Int32) = (5 : Int32)))).2 (by decide) (by decide) k) ?_
    show Ends p e below s T2 (mkF m 27 #[.val (.int p0), .val (.int (0 : Int32)), .val (.ref w_PENDING), .unset] []) _ _ _
    refine Ends.go (fun _ k => XS.iconst X2.here hx rfl (hb hby at_27) k) ?_
    show Ends p e below s T2 (mkF m 28 #[.val (.int p0), .val (.int (0 : Int32)), .val (.ref w_PENDING), .unset] [(.int (0 : Int32))]) _ _ _
    refine Ends.go (fun _ k => XS.istoreN X2.here hx rfl (hb hby at_28) rfl (l' := #[.val (.int p0), .val (.int (0 : Int32)), .val (.ref w_PENDING), .val (.int (0 : Int32))]) rfl k) ?_
    show Ends p e below s T2 (mkF m 29 #[.val (.int p0), .val (.int (0 : Int32)), .val (.ref w_PENDING), .val (.int (0 : Int32))] []) _ _ _
    refine Ends.go (fun _ k => XS.aloadN X2.here hx rfl (hb hby at_29) rfl rfl k) ?_
    show Ends p e below s T2 (mkF m 30 #[.val (.int p0), .val (.int (0 : Int32)), .val (.ref w_PENDING), .val (.int (0 : Int32))] [(.ref w_PENDING)]) _ _ _
    obtain ⟨cq3, kq3, q3a, q3b, q3c⟩ := isOf hZ e2q (E_PENDING.ext O0.2)
    obtain ⟨_, _, ⟨T3, L3, k3, n3⟩, -, X3, ⟨Lc3, hQ3, l3, y3, z3⟩, st3⟩ := X2.virtualBack hx (y := (⟨"com/example/keryx/keryx/core/DeliveryStatus", "isFailure", "()Z"⟩ : MethodName)) (z := (⟨"com/example/keryx/keryx/core/DeliveryStatus", "isFailure", "()Z"⟩ : MethodName)) hown (mvT hZ (hw _ (List.mem_of_getElem? (i := 8) rfl))) (mvT hZ (hw _ (List.mem_of_getElem? (i := 9) rfl))) (notFace_of_selects (args := #[]) (mvT hZ (hw _ (List.mem_of_getElem? (i := 11) rfl)))) (mvT hZ (hw _ (List.mem_of_getElem? (i := 11) rfl))) (mvT hZ (hw _ (List.mem_of_getElem? (i := 10) rfl))) (by decide) (own_backOf (W := 0) (rmF l Z a0 hw [] n0 h0 O0 w_PENDING w_PENDING w_SUCCEEDED w_RETRY_WAIT w_IN_FLIGHT w_DEAD_LETTER w_FAILED FF0 (0 : Int32) F_terminal_PENDING (0 : Int32) (by simp)) hZ (hw _ (List.mem_of_getElem? (i := 12) rfl)) (hw _ (List.mem_of_getElem? (i := 6) rfl)) (by decide) (by decide)) q3a q3c (g := (mkF m 30 #[.val (.int p0), .val (.int (0 : Int32)), .val (.ref w_PENDING), .val (.int (0 : Int32))] [(.ref w_PENDING)])) rfl (by rw [hml]; rfl) (Steps.refl _) (argsL := []) (rest := []) (lenOf pd0_1 rfl) rfl (by show 2 * 0 + _ ≤ _; exact Nat.le_of_eq rfl) (hb hby at_30) (fun _ _ => ⟨rfl, e2q, (by decide : 0 + 0 ≤ _), (by decide : 0 + 0 ≤ _)⟩)
    dsimp only [Pt.U, Pt.locs, Pt.cells, Pt.slots] at X3 l3 y3 z3 st3 hQ3
    subst l3 y3 z3
    obtain ⟨rfl, N3q, e3q⟩ := hQ3
    have N3 := Fr.app N2 N3q
    refine Ends.go (fun _ k => st3.trans k) ?_
    show Ends p e below s T3 (mkF m 33 #[.val (.int p0), .val (.int (0 : Int32)), .val (.ref w_PENDING), .val (.int (0 : Int32))] [(.int (0 : Int32))]) _ _ _
    refine Ends.go (fun _ k => XS.iloadN X3.here hx rfl (hb hby at_33) rfl k) ?_
    show Ends p e below s T3 (mkF m 34 #[.val (.int p0), .val (.int (0 : Int32)), .val (.ref w_PENDING), .val (.int (0 : Int32))] [(.int (0 : Int32)), (.int (0 : Int32))]) _ _ _
    refine Ends.go (fun _ k => XS.icmpNo X3.here hx rfl (hb hby at_34) rfl (teq (by decide : (0 : Int32) = (0 : Int32))).2 k) ?_
    show Ends p e below s T3 (mkF m 37 #[.val (.int p0), .val (.int (0 : Int32)), .val (.ref w_PENDING), .val (.int (0 : Int32))] []) _ _ _
    refine Ends.go (fun _ k => XS.iconst X3.here hx rfl (hb hby at_37) k) ?_
    show Ends p e below s T3 (mkF m 38 #[.val (.int p0), .val (.int (0 : Int32)), .val (.ref w_PENDING), .val (.int (0 : Int32))] [(.int (1 : Int32))]) _ _ _
    refine Ends.go (fun _ k => XS.goto X3.here hx rfl (pc0 := 38) (pc' := 42) rfl (hb hby at_38) (by decide) (by decide) k) ?_
    show Ends p e below s T3 (mkF m 42 #[.val (.int p0), .val (.int (0 : Int32)), .val (.ref w_PENDING), .val (.int (0 : Int32))] [(.int (1 : Int32))]) _ _ _
    refine Ends.retZ X3 hx Bd.notSynchronized (t := .boolean) Bd.returns (by simp) (hb hby at_42) (by decide) (by decide) ?_
    exact ⟨rfl, N3⟩
  · show Ends p e below s s₁ (mkF m 7 #[.val (.int p0), .unset, .unset, .unset] [(.int (1 : Int32))]) _ _ _
    refine Ends.go (fun _ k => XS.istoreN X0.here hx rfl (hb hby at_7) rfl (l' := #[.val (.int p0), .val (.int (1 : Int32)), .unset, .unset]) rfl k) ?_
    show Ends p e below s s₁ (mkF m 8 #[.val (.int p0), .val (.int (1 : Int32)), .unset, .unset] []) _ _ _
    refine Ends.go (fun _ k => XS.iloadN X0.here hx rfl (hb hby at_8) rfl k) ?_
    show Ends p e below s s₁ (mkF m 9 #[.val (.int p0), .val (.int (1 : Int32)), .unset, .unset] [(.int (1 : Int32))]) _ _ _
    obtain ⟨_, _, ⟨T4, L4, k4, n4⟩, -, X4, ⟨Lc4, hQ4, l4, y4, z4⟩, st4⟩ := Jvm.LawKit.callS X0 hx (y := (⟨"com/example/keryx/keryx/core/DeliveryStatusIsFailurePinLaw", "pick", "(I)Lcom/example/keryx/keryx/core/DeliveryStatus;"⟩ : MethodName)) hown (mvT hZ (hw _ (List.mem_of_getElem? (i := 1) rfl))) (mvT hZ (hw _ (List.mem_of_getElem? (i := 2) rfl))) (mvT hZ (hw _ (List.mem_of_getElem? (i := 3) rfl))) (mvT hZ (hw _ (List.mem_of_getElem? (i := 4) rfl))) (by decide) (own_backOf (W := 0) (rmP l Z a0 hw [] n0 h0 O0 (1 : Int32) w_PENDING w_SUCCEEDED w_RETRY_WAIT w_IN_FLIGHT w_DEAD_LETTER w_FAILED FF0 w_IN_FLIGHT (by simp)) hZ (hw _ (List.mem_of_getElem? (i := 4) rfl)) (hw _ (List.mem_of_getElem? (i := 3) rfl)) (by decide) (by decide)) (g := (mkF m 9 #[.val (.int p0), .val (.int (1 : Int32)), .unset, .unset] [(.int (1 : Int32))])) rfl (by rw [hml]; rfl) (argsL := [(.int (1 : Int32))]) (rest := []) (lenOf pd0_0 rfl) rfl (by show 2 * 0 + _ ≤ _; exact Nat.le_of_eq rfl) (hb hby at_9) (fun _ _ => ⟨rfl, e0, (by decide : 0 + 0 ≤ _), (by decide : 0 + 0 ≤ _)⟩)
    dsimp only [Pt.U, Pt.locs, Pt.cells, Pt.slots] at X4 l4 y4 z4 st4 hQ4
    subst l4 y4 z4
    obtain ⟨rfl, N4q, e4q⟩ := hQ4
    have N4 := Fr.app N0 N4q
    refine Ends.go st4 ?_
    show Ends p e below s T4 (mkF m 12 #[.val (.int p0), .val (.int (1 : Int32)), .unset, .unset] [(.ref w_IN_FLIGHT)]) _ _ _
    refine Ends.go (fun _ k => XS.astoreN X4.here hx rfl (hb hby at_12) rfl rfl (l' := #[.val (.int p0), .val (.int (1 : Int32)), .val (.ref w_IN_FLIGHT), .unset]) rfl k) ?_
    show Ends p e below s T4 (mkF m 13 #[.val (.int p0), .val (.int (1 : Int32)), .val (.ref w_IN_FLIGHT), .unset] []) _ _ _
    refine Ends.go (fun _ k => XS.iloadN X4.here hx rfl (hb hby at_13) rfl k) ?_
    show Ends p e below s T4 (mkF m 14 #[.val (.int p0), .val (.int (1 : Int32)), .val (.ref w_IN_FLIGHT), .unset] [(.int (1 : Int32))]) _ _ _
    refine Ends.go (fun _ k => XS.iconst X4.here hx rfl (hb hby at_14) k) ?_
    show Ends p e below s T4 (mkF m 15 #[.val (.int p0), .val (.int (1 : Int32)), .val (.ref w_IN_FLIGHT), .unset] [(.int (4 : Int32)), (.int (1 : Int32))]) _ _ _
    refine Ends.go (fun _ k => XS.icmpNo X4.here hx rfl (hb hby at_15) rfl (feq (by decide : ¬ ((1 : Int32) = (4 : Int32)))).1 k) ?_
    show Ends p e below s T4 (mkF m 18 #[.val (.int p0), .val (.int (1 : Int32)), .val (.ref w_IN_FLIGHT), .unset] []) _ _ _
    refine Ends.go (fun _ k => XS.iloadN X4.here hx rfl (hb hby at_18) rfl k) ?_
    show Ends p e below s T4 (mkF m 19 #[.val (.int p0), .val (.int (1 : Int32)), .val (.ref w_IN_FLIGHT), .unset] [(.int (1 : Int32))]) _ _ _
    refine Ends.go (fun _ k => XS.iconst X4.here hx rfl (hb hby at_19) k) ?_
    show Ends p e below s T4 (mkF m 20 #[.val (.int p0), .val (.int (1 : Int32)), .val (.ref w_IN_FLIGHT), .unset] [(.int (5 : Int32)), (.int (1 : Int32))]) _ _ _
    refine Ends.go (fun _ k => XS.icmpYes X4.here hx rfl (pc0 := 20) (pc' := 27) rfl (hb hby at_20) rfl (feq (by decide : ¬ ((1 : Int32) = (5 : Int32)))).2 (by decide) (by decide) k) ?_
    show Ends p e below s T4 (mkF m 27 #[.val (.int p0), .val (.int (1 : Int32)), .val (.ref w_IN_FLIGHT), .unset] []) _ _ _
    refine Ends.go (fun _ k => XS.iconst X4.here hx rfl (hb hby at_27) k) ?_
    show Ends p e below s T4 (mkF m 28 #[.val (.int p0), .val (.int (1 : Int32)), .val (.ref w_IN_FLIGHT), .unset] [(.int (0 : Int32))]) _ _ _
    refine Ends.go (fun _ k => XS.istoreN X4.here hx rfl (hb hby at_28) rfl (l' := #[.val (.int p0), .val (.int (1 : Int32)), .val (.ref w_IN_FLIGHT), .val (.int (0 : Int32))]) rfl k) ?_
    show Ends p e below s T4 (mkF m 29 #[.val (.int p0), .val (.int (1 : Int32)), .val (.ref w_IN_FLIGHT), .val (.int (0 : Int32))] []) _ _ _
    refine Ends.go (fun _ k => XS.aloadN X4.here hx rfl (hb hby at_29) rfl rfl k) ?_
    show Ends p e below s T4 (mkF m 30 #[.val (.int p0), .val (.int (1 : Int32)), .val (.ref w_IN_FLIGHT), .val (.int (0 : Int32))] [(.ref w_IN_FLIGHT)]) _ _ _
    obtain ⟨cq5, kq5, q5a, q5b, q5c⟩ := isOf hZ e4q (E_IN_FLIGHT.ext O0.2)
    obtain ⟨_, _, ⟨T5, L5, k5, n5⟩, -, X5, ⟨Lc5, hQ5, l5, y5, z5⟩, st5⟩ := X4.virtualBack hx (y := (⟨"com/example/keryx/keryx/core/DeliveryStatus", "isFailure", "()Z"⟩ : MethodName)) (z := (⟨"com/example/keryx/keryx/core/DeliveryStatus", "isFailure", "()Z"⟩ : MethodName)) hown (mvT hZ (hw _ (List.mem_of_getElem? (i := 8) rfl))) (mvT hZ (hw _ (List.mem_of_getElem? (i := 9) rfl))) (notFace_of_selects (args := #[]) (mvT hZ (hw _ (List.mem_of_getElem? (i := 11) rfl)))) (mvT hZ (hw _ (List.mem_of_getElem? (i := 11) rfl))) (mvT hZ (hw _ (List.mem_of_getElem? (i := 10) rfl))) (by decide) (own_backOf (W := 0) (rmF l Z a0 hw [] n0 h0 O0 w_IN_FLIGHT w_PENDING w_SUCCEEDED w_RETRY_WAIT w_IN_FLIGHT w_DEAD_LETTER w_FAILED FF0 (0 : Int32) F_terminal_IN_FLIGHT (0 : Int32) (by simp)) hZ (hw _ (List.mem_of_getElem? (i := 12) rfl)) (hw _ (List.mem_of_getElem? (i := 6) rfl)) (by decide) (by decide)) q5a q5c (g := (mkF m 30 #[.val (.int p0), .val (.int (1 : Int32)), .val (.ref w_IN_FLIGHT), .val (.int (0 : Int32))] [(.ref w_IN_FLIGHT)])) rfl (by rw [hml]; rfl) (Steps.refl _) (argsL := []) (rest := []) (lenOf pd0_1 rfl) rfl (by show 2 * 0 + _ ≤ _; exact Nat.le_of_eq rfl) (hb hby at_30) (fun _ _ => ⟨rfl, e4q, (by decide : 0 + 0 ≤ _), (by decide : 0 + 0 ≤ _)⟩)
    dsimp only [Pt.U, Pt.locs, Pt.cells, Pt.slots] at X5 l5 y5 z5 st5 hQ5
    subst l5 y5 z5
    obtain ⟨rfl, N5q, e5q⟩ := hQ5
    have N5 := Fr.app N4 N5q
    refine Ends.go (fun _ k => st5.trans k) ?_
    show Ends p e below s T5 (mkF m 33 #[.val (.int p0), .val (.int (1 : Int32)), .val (.ref w_IN_FLIGHT), .val (.int (0 : Int32))] [(.int (0 : Int32))]) _ _ _
    refine Ends.go (fun _ k => XS.iloadN X5.here hx rfl (hb hby at_33) rfl k) ?_
    show Ends p e below s T5 (mkF m 34 #[.val (.int p0), .val (.int (1 : Int32)), .val (.ref w_IN_FLIGHT), .val (.int (0 : Int32))] [(.int (0 : Int32)), (.int (0 : Int32))]) _ _ _
    refine Ends.go (fun _ k => XS.icmpNo X5.here hx rfl (hb hby at_34) rfl (teq (by decide : (0 : Int32) = (0 : Int32))).2 k) ?_
    show Ends p e below s T5 (mkF m 37 #[.val (.int p0), .val (.int (1 : Int32)), .val (.ref w_IN_FLIGHT), .val (.int (0 : Int32))] []) _ _ _
    refine Ends.go (fun _ k => XS.iconst X5.here hx rfl (hb hby at_37) k) ?_
    show Ends p e below s T5 (mkF m 38 #[.val (.int p0), .val (.int (1 : Int32)), .val (.ref w_IN_FLIGHT), .val (.int (0 : Int32))] [(.int (1 : Int32))]) _ _ _
    refine Ends.go (fun _ k => XS.goto X5.here hx rfl (pc0 := 38) (pc' := 42) rfl (hb hby at_38) (by decide) (by decide) k) ?_
    show Ends p e below s T5 (mkF m 42 #[.val (.int p0), .val (.int (1 : Int32)), .val (.ref w_IN_FLIGHT), .val (.int (0 : Int32))] [(.int (1 : Int32))]) _ _ _
    refine Ends.retZ X5 hx Bd.notSynchronized (t := .boolean) Bd.returns (by simp) (hb hby at_42) (by decide) (by decide) ?_
    exact ⟨rfl, N5⟩
  · show Ends p e below s s₁ (mkF m 7 #[.val (.int p0), .unset, .unset, .unset] [(.int (2 : Int32))]) _ _ _
    refine Ends.go (fun _ k => XS.istoreN X0.here hx rfl (hb hby at_7) rfl (l' := #[.val (.int p0), .val (.int (2 : Int32)), .unset, .unset]) rfl k) ?_
    show Ends p e below s s₁ (mkF m 8 #[.val (.int p0), .val (.int (2 : Int32)), .unset, .unset] []) _ _ _
    refine Ends.go (fun _ k => XS.iloadN X0.here hx rfl (hb hby at_8) rfl k) ?_
    show Ends p e below s s₁ (mkF m 9 #[.val (.int p0), .val (.int (2 : Int32)), .unset, .unset] [(.int (2 : Int32))]) _ _ _
    obtain ⟨_, _, ⟨T6, L6, k6, n6⟩, -, X6, ⟨Lc6, hQ6, l6, y6, z6⟩, st6⟩ := Jvm.LawKit.callS X0 hx (y := (⟨"com/example/keryx/keryx/core/DeliveryStatusIsFailurePinLaw", "pick", "(I)Lcom/example/keryx/keryx/core/DeliveryStatus;"⟩ : MethodName)) hown (mvT hZ (hw _ (List.mem_of_getElem? (i := 1) rfl))) (mvT hZ (hw _ (List.mem_of_getElem? (i := 2) rfl))) (mvT hZ (hw _ (List.mem_of_getElem? (i := 3) rfl))) (mvT hZ (hw _ (List.mem_of_getElem? (i := 4) rfl))) (by decide) (own_backOf (W := 0) (rmP l Z a0 hw [] n0 h0 O0 (2 : Int32) w_PENDING w_SUCCEEDED w_RETRY_WAIT w_IN_FLIGHT w_DEAD_LETTER w_FAILED FF0 w_RETRY_WAIT (by simp)) hZ (hw _ (List.mem_of_getElem? (i := 4) rfl)) (hw _ (List.mem_of_getElem? (i := 3) rfl)) (by decide) (by decide)) (g := (mkF m 9 #[.val (.int p0), .val (.int (2 : Int32)), .unset, .unset] [(.int (2 : Int32))])) rfl (by rw [hml]; rfl) (argsL := [(.int (2 : Int32))]) (rest := []) (lenOf pd0_0 rfl) rfl (by show 2 * 0 + _ ≤ _; exact Nat.le_of_eq rfl) (hb hby at_9) (fun _ _ => ⟨rfl, e0, (by decide : 0 + 0 ≤ _), (by decide : 0 + 0 ≤ _)⟩)
    dsimp only [Pt.U, Pt.locs, Pt.cells, Pt.slots] at X6 l6 y6 z6 st6 hQ6
    subst l6 y6 z6
    obtain ⟨rfl, N6q, e6q⟩ := hQ6
    have N6 := Fr.app N0 N6q
    refine Ends.go st6 ?_
    show Ends p e below s T6 (mkF m 12 #[.val (.int p0), .val (.int (2 : Int32)), .unset, .unset] [(.ref w_RETRY_WAIT)]) _ _ _
    refine Ends.go (fun _ k => XS.astoreN X6.here hx rfl (hb hby at_12) rfl rfl (l' := #[.val (.int p0), .val (.int (2 : Int32)), .val (.ref w_RETRY_WAIT), .unset]) rfl k) ?_
    show Ends p e below s T6 (mkF m 13 #[.val (.int p0), .val (.int (2 : Int32)), .val (.ref w_RETRY_WAIT), .unset] []) _ _ _
    refine Ends.go (fun _ k => XS.iloadN X6.here hx rfl (hb hby at_13) rfl k) ?_
    show Ends p e below s T6 (mkF m 14 #[.val (.int p0), .val (.int (2 : Int32)), .val (.ref w_RETRY_WAIT), .unset] [(.int (2 : Int32))]) _ _ _
    refine Ends.go (fun _ k => XS.iconst X6.here hx rfl (hb hby at_14) k) ?_
    show Ends p e below s T6 (mkF m 15 #[.val (.int p0), .val (.int (2 : Int32)), .val (.ref w_RETRY_WAIT), .unset] [(.int (4 : Int32)), (.int (2 : Int32))]) _ _ _
    refine Ends.go (fun _ k => XS.icmpNo X6.here hx rfl (hb hby at_15) rfl (feq (by decide : ¬ ((2 : Int32) = (4 : Int32)))).1 k) ?_
    show Ends p e below s T6 (mkF m 18 #[.val (.int p0), .val (.int (2 : Int32)), .val (.ref w_RETRY_WAIT), .unset] []) _ _ _
    refine Ends.go (fun _ k => XS.iloadN X6.here hx rfl (hb hby at_18) rfl k) ?_
    show Ends p e below s T6 (mkF m 19 #[.val (.int p0), .val (.int (2 : Int32)), .val (.ref w_RETRY_WAIT), .unset] [(.int (2 : Int32))]) _ _ _
    refine Ends.go (fun _ k => XS.iconst X6.here hx rfl (hb hby at_19) k) ?_
    show Ends p e below s T6 (mkF m 20 #[.val (.int p0), .val (.int (2 : Int32)), .val (.ref w_RETRY_WAIT), .unset] [(.int (5 : Int32)), (.int (2 : Int32))]) _ _ _
    refine Ends.go (fun _ k => XS.icmpYes X6.here hx rfl (pc0 := 20) (pc' := 27) rfl (hb hby at_20) rfl (feq (by decide : ¬ ((2 : Int32) = (5 : Int32)))).2 (by decide) (by decide) k) ?_
    show Ends p e below s T6 (mkF m 27 #[.val (.int p0), .val (.int (2 : Int32)), .val (.ref w_RETRY_WAIT), .unset] []) _ _ _
    refine Ends.go (fun _ k => XS.iconst X6.here hx rfl (hb hby at_27) k) ?_
    show Ends p e below s T6 (mkF m 28 #[.val (.int p0), .val (.int (2 : Int32)), .val (.ref w_RETRY_WAIT), .unset] [(.int (0 : Int32))]) _ _ _
    refine Ends.go (fun _ k => XS.istoreN X6.here hx rfl (hb hby at_28) rfl (l' := #[.val (.int p0), .val (.int (2 : Int32)), .val (.ref w_RETRY_WAIT), .val (.int (0 : Int32))]) rfl k) ?_
    show Ends p e below s T6 (mkF m 29 #[.val (.int p0), .val (.int (2 : Int32)), .val (.ref w_RETRY_WAIT), .val (.int (0 : Int32))] []) _ _ _
    refine Ends.go (fun _ k => XS.aloadN X6.here hx rfl (hb hby at_29) rfl rfl k) ?_
    show Ends p e below s T6 (mkF m 30 #[.val (.int p0), .val (.int (2 : Int32)), .val (.ref w_RETRY_WAIT), .val (.int (0 : Int32))] [(.ref w_RETRY_WAIT)]) _ _ _
    obtain ⟨cq7, kq7, q7a, q7b, q7c⟩ := isOf hZ e6q (E_RETRY_WAIT.ext O0.2)
    obtain ⟨_, _, ⟨T7, L7, k7, n7⟩, -, X7, ⟨Lc7, hQ7, l7, y7, z7⟩, st7⟩ := X6.virtualBack hx (y := (⟨"com/example/keryx/keryx/core/DeliveryStatus", "isFailure", "()Z"⟩ : MethodName)) (z := (⟨"com/example/keryx/keryx/core/DeliveryStatus", "isFailure", "()Z"⟩ : MethodName)) hown (mvT hZ (hw _ (List.mem_of_getElem? (i := 8) rfl))) (mvT hZ (hw _ (List.mem_of_getElem? (i := 9) rfl))) (notFace_of_selects (args := #[]) (mvT hZ (hw _ (List.mem_of_getElem? (i := 11) rfl)))) (mvT hZ (hw _ (List.mem_of_getElem? (i := 11) rfl))) (mvT hZ (hw _ (List.mem_of_getElem? (i := 10) rfl))) (by decide) (own_backOf (W := 0) (rmF l Z a0 hw [] n0 h0 O0 w_RETRY_WAIT w_PENDING w_SUCCEEDED w_RETRY_WAIT w_IN_FLIGHT w_DEAD_LETTER w_FAILED FF0 (0 : Int32) F_terminal_RETRY_WAIT (0 : Int32) (by simp)) hZ (hw _ (List.mem_of_getElem? (i := 12) rfl)) (hw _ (List.mem_of_getElem? (i := 6) rfl)) (by decide) (by decide)) q7a q7c (g := (mkF m 30 #[.val (.int p0), .val (.int (2 : Int32)), .val (.ref w_RETRY_WAIT), .val (.int (0 : Int32))] [(.ref w_RETRY_WAIT)])) rfl (by rw [hml]; rfl) (Steps.refl _) (argsL := []) (rest := []) (lenOf pd0_1 rfl) rfl (by show 2 * 0 + _ ≤ _; exact Nat.le_of_eq rfl) (hb hby at_30) (fun _ _ => ⟨rfl, e6q, (by decide : 0 + 0 ≤ _), (by decide : 0 + 0 ≤ _)⟩)
    dsimp only [Pt.U, Pt.locs, Pt.cells, Pt.slots] at X7 l7 y7 z7 st7 hQ7
    subst l7 y7 z7
    obtain ⟨rfl, N7q, e7q⟩ := hQ7
    have N7 := Fr.app N6 N7q
    refine Ends.go (fun _ k => st7.trans k) ?_
    show Ends p e below s T7 (mkF m 33 #[.val (.int p0), .val (.int (2 : Int32)), .val (.ref w_RETRY_WAIT), .val (.int (0 : Int32))] [(.int (0 : Int32))]) _ _ _
    refine Ends.go (fun _ k => XS.iloadN X7.here hx rfl (hb hby at_33) rfl k) ?_
    show Ends p e below s T7 (mkF m 34 #[.val (.int p0), .val (.int (2 : Int32)), .val (.ref w_RETRY_WAIT), .val (.int (0 : Int32))] [(.int (0 : Int32)), (.int (0 : Int32))]) _ _ _
    refine Ends.go (fun _ k => XS.icmpNo X7.here hx rfl (hb hby at_34) rfl (teq (by decide : (0 : Int32) = (0 : Int32))).2 k) ?_
    show Ends p e below s T7 (mkF m 37 #[.val (.int p0), .val (.int (2 : Int32)), .val (.ref w_RETRY_WAIT), .val (.int (0 : Int32))] []) _ _ _
    refine Ends.go (fun _ k => XS.iconst X7.here hx rfl (hb hby at_37) k) ?_
    show Ends p e below s T7 (mkF m 38 #[.val (.int p0), .val (.int (2 : Int32)), .val (.ref w_RETRY_WAIT), .val (.int (0 : Int32))] [(.int (1 : Int32))]) _ _ _
    refine Ends.go (fun _ k => XS.goto X7.here hx rfl (pc0 := 38) (pc' := 42) rfl (hb hby at_38) (by decide) (by decide) k) ?_
    show Ends p e below s T7 (mkF m 42 #[.val (.int p0), .val (.int (2 : Int32)), .val (.ref w_RETRY_WAIT), .val (.int (0 : Int32))] [(.int (1 : Int32))]) _ _ _
    refine Ends.retZ X7 hx Bd.notSynchronized (t := .boolean) Bd.returns (by simp) (hb hby at_42) (by decide) (by decide) ?_
    exact ⟨rfl, N7⟩
  · show Ends p e below s s₁ (mkF m 7 #[.val (.int p0), .unset, .unset, .unset] [(.int (3 : Int32))]) _ _ _
    refine Ends.go (fun _ k => XS.istoreN X0.here hx rfl (hb hby at_7) rfl (l' := #[.val (.int p0), .val (.int (3 : Int32)), .unset, .unset]) rfl k) ?_
    show Ends p e below s s₁ (mkF m 8 #[.val (.int p0), .val (.int (3 : Int32)), .unset, .unset] []) _ _ _
    refine Ends.go (fun _ k => XS.iloadN X0.here hx rfl (hb hby at_8) rfl k) ?_
    show Ends p e below s s₁ (mkF m 9 #[.val (.int p0), .val (.int (3 : Int32)), .unset, .unset] [(.int (3 : Int32))]) _ _ _
    obtain ⟨_, _, ⟨T8, L8, k8, n8⟩, -, X8, ⟨Lc8, hQ8, l8, y8, z8⟩, st8⟩ := Jvm.LawKit.callS X0 hx (y := (⟨"com/example/keryx/keryx/core/DeliveryStatusIsFailurePinLaw", "pick", "(I)Lcom/example/keryx/keryx/core/DeliveryStatus;"⟩ : MethodName)) hown (mvT hZ (hw _ (List.mem_of_getElem? (i := 1) rfl))) (mvT hZ (hw _ (List.mem_of_getElem? (i := 2) rfl))) (mvT hZ (hw _ (List.mem_of_getElem? (i := 3) rfl))) (mvT hZ (hw _ (List.mem_of_getElem? (i := 4) rfl))) (by decide) (own_backOf (W := 0) (rmP l Z a0 hw [] n0 h0 O0 (3 : Int32) w_PENDING w_SUCCEEDED w_RETRY_WAIT w_IN_FLIGHT w_DEAD_LETTER w_FAILED FF0 w_SUCCEEDED (by simp)) hZ (hw _ (List.mem_of_getElem? (i := 4) rfl)) (hw _ (List.mem_of_getElem? (i := 3) rfl)) (by decide) (by decide)) (g := (mkF m 9 #[.val (.int p0), .val (.int (3 : Int32)), .unset, .unset] [(.int (3 : Int32))])) rfl (by rw [hml]; rfl) (argsL := [(.int (3 : Int32))]) (rest := []) (lenOf pd0_0 rfl) rfl (by show 2 * 0 + _ ≤ _; exact Nat.le_of_eq rfl) (hb hby at_9) (fun _ _ => ⟨rfl, e0, (by decide : 0 + 0 ≤ _), (by decide : 0 + 0 ≤ _)⟩)
    dsimp only [Pt.U, Pt.locs, Pt.cells, Pt.slots] at X8 l8 y8 z8 st8 hQ8
    subst l8 y8 z8
    obtain ⟨rfl, N8q, e8q⟩ := hQ8
    have N8 := Fr.app N0 N8q
    refine Ends.go st8 ?_
    show Ends p e below s T8 (mkF m 12 #[.val (.int p0), .val (.int (3 : Int32)), .unset, .unset] [(.ref w_SUCCEEDED)]) _ _ _
    refine Ends.go (fun _ k => XS.astoreN X8.here hx rfl (hb hby at_12) rfl rfl (l' := #[.val (.int p0), .val (.int (3 : Int32)), .val (.ref w_SUCCEEDED), .unset]) rfl k) ?_
    show Ends p e below s T8 (mkF m 13 #[.val (.int p0), .val (.int (3 : Int32)), .val (.ref w_SUCCEEDED), .unset] []) _ _ _
    refine Ends.go (fun _ k => XS.iloadN X8.here hx rfl (hb hby at_13) rfl k) ?_
    show Ends p e below s T8 (mkF m 14 #[.val (.int p0), .val (.int (3 : Int32)), .val (.ref w_SUCCEEDED), .unset] [(.int (3 : Int32))]) _ _ _
    refine Ends.go (fun _ k => XS.iconst X8.here hx rfl (hb hby at_14) k) ?_
    show Ends p e below s T8 (mkF m 15 #[.val (.int p0), .val (.int (3 : Int32)), .val (.ref w_SUCCEEDED), .unset] [(.int (4 : Int32)), (.int (3 : Int32))]) _ _ _
    refine Ends.go (fun _ k => XS.icmpNo X8.here hx rfl (hb hby at_15) rfl (feq (by decide : ¬ ((3 : Int32) = (4 : Int32)))).1 k) ?_
    show Ends p e below s T8 (mkF m 18 #[.val (.int p0), .val (.int (3 : Int32)), .val (.ref w_SUCCEEDED), .unset] []) _ _ _
    refine Ends.go (fun _ k => XS.iloadN X8.here hx rfl (hb hby at_18) rfl k) ?_
    show Ends p e below s T8 (mkF m 19 #[.val (.int p0), .val (.int (3 : Int32)), .val (.ref w_SUCCEEDED), .unset] [(.int (3 : Int32))]) _ _ _
    refine Ends.go (fun _ k => XS.iconst X8.here hx rfl (hb hby at_19) k) ?_
    show Ends p e below s T8 (mkF m 20 #[.val (.int p0), .val (.int (3 : Int32)), .val (.ref w_SUCCEEDED), .unset] [(.int (5 : Int32)), (.int (3 : Int32))]) _ _ _
    refine Ends.go (fun _ k => XS.icmpYes X8.here hx rfl (pc0 := 20) (pc' := 27) rfl (hb hby at_20) rfl (feq (by decide : ¬ ((3 : Int32) = (5 : Int32)))).2 (by decide) (by decide) k) ?_
    show Ends p e below s T8 (mkF m 27 #[.val (.int p0), .val (.int (3 : Int32)), .val (.ref w_SUCCEEDED), .unset] []) _ _ _
    refine Ends.go (fun _ k => XS.iconst X8.here hx rfl (hb hby at_27) k) ?_
    show Ends p e below s T8 (mkF m 28 #[.val (.int p0), .val (.int (3 : Int32)), .val (.ref w_SUCCEEDED), .unset] [(.int (0 : Int32))]) _ _ _
    refine Ends.go (fun _ k => XS.istoreN X8.here hx rfl (hb hby at_28) rfl (l' := #[.val (.int p0), .val (.int (3 : Int32)), .val (.ref w_SUCCEEDED), .val (.int (0 : Int32))]) rfl k) ?_
    show Ends p e below s T8 (mkF m 29 #[.val (.int p0), .val (.int (3 : Int32)), .val (.ref w_SUCCEEDED), .val (.int (0 : Int32))] []) _ _ _
    refine Ends.go (fun _ k => XS.aloadN X8.here hx rfl (hb hby at_29) rfl rfl k) ?_
    show Ends p e below s T8 (mkF m 30 #[.val (.int p0), .val (.int (3 : Int32)), .val (.ref w_SUCCEEDED), .val (.int (0 : Int32))] [(.ref w_SUCCEEDED)]) _ _ _
    obtain ⟨cq9, kq9, q9a, q9b, q9c⟩ := isOf hZ e8q (E_SUCCEEDED.ext O0.2)
    obtain ⟨_, _, ⟨T9, L9, k9, n9⟩, -, X9, ⟨Lc9, hQ9, l9, y9, z9⟩, st9⟩ := X8.virtualBack hx (y := (⟨"com/example/keryx/keryx/core/DeliveryStatus", "isFailure", "()Z"⟩ : MethodName)) (z := (⟨"com/example/keryx/keryx/core/DeliveryStatus", "isFailure", "()Z"⟩ : MethodName)) hown (mvT hZ (hw _ (List.mem_of_getElem? (i := 8) rfl))) (mvT hZ (hw _ (List.mem_of_getElem? (i := 9) rfl))) (notFace_of_selects (args := #[]) (mvT hZ (hw _ (List.mem_of_getElem? (i := 11) rfl)))) (mvT hZ (hw _ (List.mem_of_getElem? (i := 11) rfl))) (mvT hZ (hw _ (List.mem_of_getElem? (i := 10) rfl))) (by decide) (own_backOf (W := 0) (rmF l Z a0 hw [] n0 h0 O0 w_SUCCEEDED w_PENDING w_SUCCEEDED w_RETRY_WAIT w_IN_FLIGHT w_DEAD_LETTER w_FAILED FF0 (1 : Int32) F_terminal_SUCCEEDED (0 : Int32) (by simp)) hZ (hw _ (List.mem_of_getElem? (i := 12) rfl)) (hw _ (List.mem_of_getElem? (i := 6) rfl)) (by decide) (by decide)) q9a q9c (g := (mkF m 30 #[.val (.int p0), .val (.int (3 : Int32)), .val (.ref w_SUCCEEDED), .val (.int (0 : Int32))] [(.ref w_SUCCEEDED)])) rfl (by rw [hml]; rfl) (Steps.refl _) (argsL := []) (rest := []) (lenOf pd0_1 rfl) rfl (by show 2 * 0 + _ ≤ _; exact Nat.le_of_eq rfl) (hb hby at_30) (fun _ _ => ⟨rfl, e8q, (by decide : 0 + 0 ≤ _), (by decide : 0 + 0 ≤ _)⟩)
    dsimp only [Pt.U, Pt.locs, Pt.cells, Pt.slots] at X9 l9 y9 z9 st9 hQ9
    subst l9 y9 z9
    obtain ⟨rfl, N9q, e9q⟩ := hQ9
    have N9 := Fr.app N8 N9q
    refine Ends.go (fun _ k => st9.trans k) ?_
    show Ends p e below s T9 (mkF m 33 #[.val (.int p0), .val (.int (3 : Int32)), .val (.ref w_SUCCEEDED), .val (.int (0 : Int32))] [(.int (0 : Int32))]) _ _ _
    refine Ends.go (fun _ k => XS.iloadN X9.here hx rfl (hb hby at_33) rfl k) ?_
    show Ends p e below s T9 (mkF m 34 #[.val (.int p0), .val (.int (3 : Int32)), .val (.ref w_SUCCEEDED), .val (.int (0 : Int32))] [(.int (0 : Int32)), (.int (0 : Int32))]) _ _ _
    refine Ends.go (fun _ k => XS.icmpNo X9.here hx rfl (hb hby at_34) rfl (teq (by decide : (0 : Int32) = (0 : Int32))).2 k) ?_
    show Ends p e below s T9 (mkF m 37 #[.val (.int p0), .val (.int (3 : Int32)), .val (.ref w_SUCCEEDED), .val (.int (0 : Int32))] []) _ _ _
    refine Ends.go (fun _ k => XS.iconst X9.here hx rfl (hb hby at_37) k) ?_
    show Ends p e below s T9 (mkF m 38 #[.val (.int p0), .val (.int (3 : Int32)), .val (.ref w_SUCCEEDED), .val (.int (0 : Int32))] [(.int (1 : Int32))]) _ _ _
    refine Ends.go (fun _ k => XS.goto X9.here hx rfl (pc0 := 38) (pc' := 42) rfl (hb hby at_38) (by decide) (by decide) k) ?_
    show Ends p e below s T9 (mkF m 42 #[.val (.int p0), .val (.int (3 : Int32)), .val (.ref w_SUCCEEDED), .val (.int (0 : Int32))] [(.int (1 : Int32))]) _ _ _
    refine Ends.retZ X9 hx Bd.notSynchronized (t := .boolean) Bd.returns (by simp) (hb hby at_42) (by decide) (by decide) ?_
    exact ⟨rfl, N9⟩
  · show Ends p e below s s₁ (mkF m 7 #[.val (.int p0), .unset, .unset, .unset] [(.int (4 : Int32))]) _ _ _
    refine Ends.go (fun _ k => XS.istoreN X0.here hx rfl (hb hby at_7) rfl (l' := #[.val (.int p0), .val (.int (4 : Int32)), .unset, .unset]) rfl k) ?_
    show Ends p e below s s₁ (mkF m 8 #[.val (.int p0), .val (.int (4 : Int32)), .unset, .unset] []) _ _ _
    refine Ends.go (fun _ k => XS.iloadN X0.here hx rfl (hb hby at_8) rfl k) ?_
    show Ends p e below s s₁ (mkF m 9 #[.val (.int p0), .val (.int (4 : Int32)), .unset, .unset] [(.int (4 : Int32))]) _ _ _
    obtain ⟨_, _, ⟨T10, L10, k10, n10⟩, -, X10, ⟨Lc10, hQ10, l10, y10, z10⟩, st10⟩ := Jvm.LawKit.callS X0 hx (y := (⟨"com/example/keryx/keryx/core/DeliveryStatusIsFailurePinLaw", "pick", "(I)Lcom/example/keryx/keryx/core/DeliveryStatus;"⟩ : MethodName)) hown (mvT hZ (hw _ (List.mem_of_getElem? (i := 1) rfl))) (mvT hZ (hw _ (List.mem_of_getElem? (i := 2) rfl))) (mvT hZ (hw _ (List.mem_of_getElem? (i := 3) rfl))) (mvT hZ (hw _ (List.mem_of_getElem? (i := 4) rfl))) (by decide) (own_backOf (W := 0) (rmP l Z a0 hw [] n0 h0 O0 (4 : Int32) w_PENDING w_SUCCEEDED w_RETRY_WAIT w_IN_FLIGHT w_DEAD_LETTER w_FAILED FF0 w_FAILED (by simp)) hZ (hw _ (List.mem_of_getElem? (i := 4) rfl)) (hw _ (List.mem_of_getElem? (i := 3) rfl)) (by decide) (by decide)) (g := (mkF m 9 #[.val (.int p0), .val (.int (4 : Int32)), .unset, .unset] [(.int (4 : Int32))])) rfl (by rw [hml]; rfl) (argsL := [(.int (4 : Int32))]) (rest := []) (lenOf pd0_0 rfl) rfl (by show 2 * 0 + _ ≤ _; exact Nat.le_of_eq rfl) (hb hby at_9) (fun _ _ => ⟨rfl, e0, (by decide : 0 + 0 ≤ _), (by decide : 0 + 0 ≤ _)⟩)
    dsimp only [Pt.U, Pt.locs, Pt.cells, Pt.slots] at X10 l10 y10 z10 st10 hQ10
    subst l10 y10 z10
    obtain ⟨rfl, N10q, e10q⟩ := hQ10
    have N10 := Fr.app N0 N10q
    refine Ends.go st10 ?_
    show Ends p e below s T10 (mkF m 12 #[.val (.int p0), .val (.int (4 : Int32)), .unset, .unset] [(.ref w_FAILED)]) _ _ _
    refine Ends.go (fun _ k => XS.astoreN X10.here hx rfl (hb hby at_12) rfl rfl (l' := #[.val (.int p0), .val (.int (4 : Int32)), .val (.ref w_FAILED), .unset]) rfl k) ?_
    show Ends p e below s T10 (mkF m 13 #[.val (.int p0), .val (.int (4 : Int32)), .val (.ref w_FAILED), .unset] []) _ _ _
    refine Ends.go (fun _ k => XS.iloadN X10.here hx rfl (hb hby at_13) rfl k) ?_
    show Ends p e below s T10 (mkF m 14 #[.val (.int p0), .val (.int (4 : Int32)), .val (.ref w_FAILED), .unset] [(.int (4 : Int32))]) _ _ _
    refine Ends.go (fun _ k => XS.iconst X10.here hx rfl (hb hby at_14) k) ?_
    show Ends p e below s T10 (mkF m 15 #[.val (.int p0), .val (.int (4 : Int32)), .val (.ref w_FAILED), .unset] [(.int (4 : Int32)), (.int (4 : Int32))]) _ _ _
    refine Ends.go (fun _ k => XS.icmpYes X10.here hx rfl (pc0 := 15) (pc' := 23) rfl (hb hby at_15) rfl (teq (by decide : (4 : Int32) = (4 : Int32))).1 (by decide) (by decide) k) ?_
    show Ends p e below s T10 (mkF m 23 #[.val (.int p0), .val (.int (4 : Int32)), .val (.ref w_FAILED), .unset] []) _ _ _
    refine Ends.go (fun _ k => XS.iconst X10.here hx rfl (hb hby at_23) k) ?_
    show Ends p e below s T10 (mkF m 24 #[.val (.int p0), .val (.int (4 : Int32)), .val (.ref w_FAILED), .unset] [(.int (1 : Int32))]) _ _ _
    refine Ends.go (fun _ k => XS.goto X10.here hx rfl (pc0 := 24) (pc' := 28) rfl (hb hby at_24) (by decide) (by decide) k) ?_
    show Ends p e below s T10 (mkF m 28 #[.val (.int p0), .val (.int (4 : Int32)), .val (.ref w_FAILED), .unset] [(.int (1 : Int32))]) _ _ _
    refine Ends.go (fun _ k => XS.istoreN X10.here hx rfl (hb hby at_28) rfl (l' := #[.val (.int p0), .val (.int (4 : Int32)), .val (.ref w_FAILED), .val (.int (1 : Int32))]) rfl k) ?_
    show Ends p e below s T10 (mkF m 29 #[.val (.int p0), .val (.int (4 : Int32)), .val (.ref w_FAILED), .val (.int (1 : Int32))] []) _ _ _
    refine Ends.go (fun _ k => XS.aloadN X10.here hx rfl (hb hby at_29) rfl rfl k) ?_
    show Ends p e below s T10 (mkF m 30 #[.val (.int p0), .val (.int (4 : Int32)), .val (.ref w_FAILED), .val (.int (1 : Int32))] [(.ref w_FAILED)]) _ _ _
    obtain ⟨cq11, kq11, q11a, q11b, q11c⟩ := isOf hZ e10q (E_FAILED.ext O0.2)
    obtain ⟨_, _, ⟨T11, L11, k11, n11⟩, -, X11, ⟨Lc11, hQ11, l11, y11, z11⟩, st11⟩ := X10.virtualBack hx (y := (⟨"com/example/keryx/keryx/core/DeliveryStatus", "isFailure", "()Z"⟩ : MethodName)) (z := (⟨"com/example/keryx/keryx/core/DeliveryStatus", "isFailure", "()Z"⟩ : MethodName)) hown (mvT hZ (hw _ (List.mem_of_getElem? (i := 8) rfl))) (mvT hZ (hw _ (List.mem_of_getElem? (i := 9) rfl))) (notFace_of_selects (args := #[]) (mvT hZ (hw _ (List.mem_of_getElem? (i := 11) rfl)))) (mvT hZ (hw _ (List.mem_of_getElem? (i := 11) rfl))) (mvT hZ (hw _ (List.mem_of_getElem? (i := 10) rfl))) (by decide) (own_backOf (W := 0) (rmF l Z a0 hw [] n0 h0 O0 w_FAILED w_PENDING w_SUCCEEDED w_RETRY_WAIT w_IN_FLIGHT w_DEAD_LETTER w_FAILED FF0 (1 : Int32) F_terminal_FAILED (1 : Int32) (by rw [if_neg (by decide), if_neg (Fld.ne F_ordinal_FAILED F_ordinal_SUCCEEDED (by decide))])) hZ (hw _ (List.mem_of_getElem? (i := 12) rfl)) (hw _ (List.mem_of_getElem? (i := 6) rfl)) (by decide) (by decide)) q11a q11c (g := (mkF m 30 #[.val (.int p0), .val (.int (4 : Int32)), .val (.ref w_FAILED), .val (.int (1 : Int32))] [(.ref w_FAILED)])) rfl (by rw [hml]; rfl) (Steps.refl _) (argsL := []) (rest := []) (lenOf pd0_1 rfl) rfl (by show 2 * 0 + _ ≤ _; exact Nat.le_of_eq rfl) (hb hby at_30) (fun _ _ => ⟨rfl, e10q, (by decide : 0 + 0 ≤ _), (by decide : 0 + 0 ≤ _)⟩)
    dsimp only [Pt.U, Pt.locs, Pt.cells, Pt.slots] at X11 l11 y11 z11 st11 hQ11
    subst l11 y11 z11
    obtain ⟨rfl, N11q, e11q⟩ := hQ11
    have N11 := Fr.app N10 N11q
    refine Ends.go (fun _ k => st11.trans k) ?_
    show Ends p e below s T11 (mkF m 33 #[.val (.int p0), .val (.int (4 : Int32)), .val (.ref w_FAILED), .val (.int (1 : Int32))] [(.int (1 : Int32))]) _ _ _
    refine Ends.go (fun _ k => XS.iloadN X11.here hx rfl (hb hby at_33) rfl k) ?_
    show Ends p e below s T11 (mkF m 34 #[.val (.int p0), .val (.int (4 : Int32)), .val (.ref w_FAILED), .val (.int (1 : Int32))] [(.int (1 : Int32)), (.int (1 : Int32))]) _ _ _
    refine Ends.go (fun _ k => XS.icmpNo X11.here hx rfl (hb hby at_34) rfl (teq (by decide : (1 : Int32) = (1 : Int32))).2 k) ?_
    show Ends p e below s T11 (mkF m 37 #[.val (.int p0), .val (.int (4 : Int32)), .val (.ref w_FAILED), .val (.int (1 : Int32))] []) _ _ _
    refine Ends.go (fun _ k => XS.iconst X11.here hx rfl (hb hby at_37) k) ?_
    show Ends p e below s T11 (mkF m 38 #[.val (.int p0), .val (.int (4 : Int32)), .val (.ref w_FAILED), .val (.int (1 : Int32))] [(.int (1 : Int32))]) _ _ _
    refine Ends.go (fun _ k => XS.goto X11.here hx rfl (pc0 := 38) (pc' := 42) rfl (hb hby at_38) (by decide) (by decide) k) ?_
    show Ends p e below s T11 (mkF m 42 #[.val (.int p0), .val (.int (4 : Int32)), .val (.ref w_FAILED), .val (.int (1 : Int32))] [(.int (1 : Int32))]) _ _ _
    refine Ends.retZ X11 hx Bd.notSynchronized (t := .boolean) Bd.returns (by simp) (hb hby at_42) (by decide) (by decide) ?_
    exact ⟨rfl, N11⟩
  · show Ends p e below s s₁ (mkF m 7 #[.val (.int p0), .unset, .unset, .unset] [(.int (5 : Int32))]) _ _ _
    refine Ends.go (fun _ k => XS.istoreN X0.here hx rfl (hb hby at_7) rfl (l' := #[.val (.int p0), .val (.int (5 : Int32)), .unset, .unset]) rfl k) ?_
    show Ends p e below s s₁ (mkF m 8 #[.val (.int p0), .val (.int (5 : Int32)), .unset, .unset] []) _ _ _
    refine Ends.go (fun _ k => XS.iloadN X0.here hx rfl (hb hby at_8) rfl k) ?_
    show Ends p e below s s₁ (mkF m 9 #[.val (.int p0), .val (.int (5 : Int32)), .unset, .unset] [(.int (5 : Int32))]) _ _ _
    obtain ⟨_, _, ⟨T12, L12, k12, n12⟩, -, X12, ⟨Lc12, hQ12, l12, y12, z12⟩, st12⟩ := Jvm.LawKit.callS X0 hx (y := (⟨"com/example/keryx/keryx/core/DeliveryStatusIsFailurePinLaw", "pick", "(I)Lcom/example/keryx/keryx/core/DeliveryStatus;"⟩ : MethodName)) hown (mvT hZ (hw _ (List.mem_of_getElem? (i := 1) rfl))) (mvT hZ (hw _ (List.mem_of_getElem? (i := 2) rfl))) (mvT hZ (hw _ (List.mem_of_getElem? (i := 3) rfl))) (mvT hZ (hw _ (List.mem_of_getElem? (i := 4) rfl))) (by decide) (own_backOf (W := 0) (rmP l Z a0 hw [] n0 h0 O0 (5 : Int32) w_PENDING w_SUCCEEDED w_RETRY_WAIT w_IN_FLIGHT w_DEAD_LETTER w_FAILED FF0 w_DEAD_LETTER (by simp)) hZ (hw _ (List.mem_of_getElem? (i := 4) rfl)) (hw _ (List.mem_of_getElem? (i := 3) rfl)) (by decide) (by decide)) (g := (mkF m 9 #[.val (.int p0), .val (.int (5 : Int32)), .unset, .unset] [(.int (5 : Int32))])) rfl (by rw [hml]; rfl) (argsL := [(.int (5 : Int32))]) (rest := []) (lenOf pd0_0 rfl) rfl (by show 2 * 0 + _ ≤ _; exact Nat.le_of_eq rfl) (hb hby at_9) (fun _ _ => ⟨rfl, e0, (by decide : 0 + 0 ≤ _), (by decide : 0 + 0 ≤ _)⟩)
    dsimp only [Pt.U, Pt.locs, Pt.cells, Pt.slots] at X12 l12 y12 z12 st12 hQ12
    subst l12 y12 z12
    obtain ⟨rfl, N12q, e12q⟩ := hQ12
    have N12 := Fr.app N0 N12q
    refine Ends.go st12 ?_
    show Ends p e below s T12 (mkF m 12 #[.val (.int p0), .val (.int (5 : Int32)), .unset, .unset] [(.ref w_DEAD_LETTER)]) _ _ _
    refine Ends.go (fun _ k => XS.astoreN X12.here hx rfl (hb hby at_12) rfl rfl (l' := #[.val (.int p0), .val (.int (5 : Int32)), .val (.ref w_DEAD_LETTER), .unset]) rfl k) ?_
    show Ends p e below s T12 (mkF m 13 #[.val (.int p0), .val (.int (5 : Int32)), .val (.ref w_DEAD_LETTER), .unset] []) _ _ _
    refine Ends.go (fun _ k => XS.iloadN X12.here hx rfl (hb hby at_13) rfl k) ?_
    show Ends p e below s T12 (mkF m 14 #[.val (.int p0), .val (.int (5 : Int32)), .val (.ref w_DEAD_LETTER), .unset] [(.int (5 : Int32))]) _ _ _
    refine Ends.go (fun _ k => XS.iconst X12.here hx rfl (hb hby at_14) k) ?_
    show Ends p e below s T12 (mkF m 15 #[.val (.int p0), .val (.int (5 : Int32)), .val (.ref w_DEAD_LETTER), .unset] [(.int (4 : Int32)), (.int (5 : Int32))]) _ _ _
    refine Ends.go (fun _ k => XS.icmpNo X12.here hx rfl (hb hby at_15) rfl (feq (by decide : ¬ ((5 : Int32) = (4 : Int32)))).1 k) ?_
    show Ends p e below s T12 (mkF m 18 #[.val (.int p0), .val (.int (5 : Int32)), .val (.ref w_DEAD_LETTER), .unset] []) _ _ _
    refine Ends.go (fun _ k => XS.iloadN X12.here hx rfl (hb hby at_18) rfl k) ?_
    show Ends p e below s T12 (mkF m 19 #[.val (.int p0), .val (.int (5 : Int32)), .val (.ref w_DEAD_LETTER), .unset] [(.int (5 : Int32))]) _ _ _
    refine Ends.go (fun _ k => XS.iconst X12.here hx rfl (hb hby at_19) k) ?_
    show Ends p e below s T12 (mkF m 20 #[.val (.int p0), .val (.int (5 : Int32)), .val (.ref w_DEAD_LETTER), .unset] [(.int (5 : Int32)), (.int (5 : Int32))]) _ _ _
    refine Ends.go (fun _ k => XS.icmpNo X12.here hx rfl (hb hby at_20) rfl (teq (by decide : (5 : Int32) = (5 : Int32))).2 k) ?_
    show Ends p e below s T12 (mkF m 23 #[.val (.int p0), .val (.int (5 : Int32)), .val (.ref w_DEAD_LETTER), .unset] []) _ _ _
    refine Ends.go (fun _ k => XS.iconst X12.here hx rfl (hb hby at_23) k) ?_
    show Ends p e below s T12 (mkF m 24 #[.val (.int p0), .val (.int (5 : Int32)), .val (.ref w_DEAD_LETTER), .unset] [(.int (1 : Int32))]) _ _ _
    refine Ends.go (fun _ k => XS.goto X12.here hx rfl (pc0 := 24) (pc' := 28) rfl (hb hby at_24) (by decide) (by decide) k) ?_
    show Ends p e below s T12 (mkF m 28 #[.val (.int p0), .val (.int (5 : Int32)), .val (.ref w_DEAD_LETTER), .unset] [(.int (1 : Int32))]) _ _ _
    refine Ends.go (fun _ k => XS.istoreN X12.here hx rfl (hb hby at_28) rfl (l' := #[.val (.int p0), .val (.int (5 : Int32)), .val (.ref w_DEAD_LETTER), .val (.int (1 : Int32))]) rfl k) ?_
    show Ends p e below s T12 (mkF m 29 #[.val (.int p0), .val (.int (5 : Int32)), .val (.ref w_DEAD_LETTER), .val (.int (1 : Int32))] []) _ _ _
    refine Ends.go (fun _ k => XS.aloadN X12.here hx rfl (hb hby at_29) rfl rfl k) ?_
    show Ends p e below s T12 (mkF m 30 #[.val (.int p0), .val (.int (5 : Int32)), .val (.ref w_DEAD_LETTER), .val (.int (1 : Int32))] [(.ref w_DEAD_LETTER)]) _ _ _
    obtain ⟨cq13, kq13, q13a, q13b, q13c⟩ := isOf hZ e12q (E_DEAD_LETTER.ext O0.2)
    obtain ⟨_, _, ⟨T13, L13, k13, n13⟩, -, X13, ⟨Lc13, hQ13, l13, y13, z13⟩, st13⟩ := X12.virtualBack hx (y := (⟨"com/example/keryx/keryx/core/DeliveryStatus", "isFailure", "()Z"⟩ : MethodName)) (z := (⟨"com/example/keryx/keryx/core/DeliveryStatus", "isFailure", "()Z"⟩ : MethodName)) hown (mvT hZ (hw _ (List.mem_of_getElem? (i := 8) rfl))) (mvT hZ (hw _ (List.mem_of_getElem? (i := 9) rfl))) (notFace_of_selects (args := #[]) (mvT hZ (hw _ (List.mem_of_getElem? (i := 11) rfl)))) (mvT hZ (hw _ (List.mem_of_getElem? (i := 11) rfl))) (mvT hZ (hw _ (List.mem_of_getElem? (i := 10) rfl))) (by decide) (own_backOf (W := 0) (rmF l Z a0 hw [] n0 h0 O0 w_DEAD_LETTER w_PENDING w_SUCCEEDED w_RETRY_WAIT w_IN_FLIGHT w_DEAD_LETTER w_FAILED FF0 (1 : Int32) F_terminal_DEAD_LETTER (1 : Int32) (by rw [if_neg (by decide), if_neg (Fld.ne F_ordinal_DEAD_LETTER F_ordinal_SUCCEEDED (by decide))])) hZ (hw _ (List.mem_of_getElem? (i := 12) rfl)) (hw _ (List.mem_of_getElem? (i := 6) rfl)) (by decide) (by decide)) q13a q13c (g := (mkF m 30 #[.val (.int p0), .val (.int (5 : Int32)), .val (.ref w_DEAD_LETTER), .val (.int (1 : Int32))] [(.ref w_DEAD_LETTER)])) rfl (by rw [hml]; rfl) (Steps.refl _) (argsL := []) (rest := []) (lenOf pd0_1 rfl) rfl (by show 2 * 0 + _ ≤ _; exact Nat.le_of_eq rfl) (hb hby at_30) (fun _ _ => ⟨rfl, e12q, (by decide : 0 + 0 ≤ _), (by decide : 0 + 0 ≤ _)⟩)
    dsimp only [Pt.U, Pt.locs, Pt.cells, Pt.slots] at X13 l13 y13 z13 st13 hQ13
    subst l13 y13 z13
    obtain ⟨rfl, N13q, e13q⟩ := hQ13
    have N13 := Fr.app N12 N13q
    refine Ends.go (fun _ k => st13.trans k) ?_
    show Ends p e below s T13 (mkF m 33 #[.val (.int p0), .val (.int (5 : Int32)), .val (.ref w_DEAD_LETTER), .val (.int (1 : Int32))] [(.int (1 : Int32))]) _ _ _
    refine Ends.go (fun _ k => XS.iloadN X13.here hx rfl (hb hby at_33) rfl k) ?_
    show Ends p e below s T13 (mkF m 34 #[.val (.int p0), .val (.int (5 : Int32)), .val (.ref w_DEAD_LETTER), .val (.int (1 : Int32))] [(.int (1 : Int32)), (.int (1 : Int32))]) _ _ _
    refine Ends.go (fun _ k => XS.icmpNo X13.here hx rfl (hb hby at_34) rfl (teq (by decide : (1 : Int32) = (1 : Int32))).2 k) ?_
    show Ends p e below s T13 (mkF m 37 #[.val (.int p0), .val (.int (5 : Int32)), .val (.ref w_DEAD_LETTER), .val (.int (1 : Int32))] []) _ _ _
    refine Ends.go (fun _ k => XS.iconst X13.here hx rfl (hb hby at_37) k) ?_
    show Ends p e below s T13 (mkF m 38 #[.val (.int p0), .val (.int (5 : Int32)), .val (.ref w_DEAD_LETTER), .val (.int (1 : Int32))] [(.int (1 : Int32))]) _ _ _
    refine Ends.go (fun _ k => XS.goto X13.here hx rfl (pc0 := 38) (pc' := 42) rfl (hb hby at_38) (by decide) (by decide) k) ?_
    show Ends p e below s T13 (mkF m 42 #[.val (.int p0), .val (.int (5 : Int32)), .val (.ref w_DEAD_LETTER), .val (.int (1 : Int32))] [(.int (1 : Int32))]) _ _ _
    refine Ends.retZ X13 hx Bd.notSynchronized (t := .boolean) Bd.returns (by simp) (hb hby at_42) (by decide) (by decide) ?_
    exact ⟨rfl, N13⟩
set_option maxRecDepth 65536 in
set_option maxHeartbeats 40000000 in
theorem comes_1 {Post : Tables → Env → Array Value → State → Outcome → State → Prop} (hpost : ∀ tb e args s v u, (limb_1_1.after args s (.returned v) u = true ∧ limb_1_2.after args s (.returned v) u = true ∧ True) → FrameEnd s (.returned v) u (Jvm.fieldLocs frame_1_writes args s ++ Jvm.arrayLocs frame_1_arrays args s ++ Jvm.staticLocs frame_1_statics s) 0 0 → Post tb e args s (.returned v) u) :
    ArmFor flags0 classFile x code maxLocals ret World_1 tables_1 room_1 Calls_1 rest_1 Pre_1 Post := by
  intro l hfl _ _ p e ha hc hk s m args below hf hA hF happ hP
  obtain ⟨hcalls, hrest, hpre⟩ := hP
  obtain ⟨-, -, -, hnamed, -, -, -, hat⟩ := (Spec.applies_iff hf).mp happ
  obtain ⟨hg, hn⟩ := and_e (Cond.before_iff.mp (show (Jvm.Cond.and given_1 narrow_1).before args s = true from hpre))
  obtain ⟨g0a, g0b⟩ := and_e hg
  obtain ⟨w0, rfl⟩ : ∃ w0 : Value, args = #[w0] := by
    have hs : args.size = 1 := by simpa [Cond.value, given_1] using g0a
    obtain ⟨L⟩ := args
    match L, hs with
    | [w0], _ => exact ⟨w0, rfl⟩
  have hw := fun d (hd : d ∈ tables_1) => atoms_spec (ws := Jvm.Cond.code x code maxLocals ret :: tables_1) hat d (List.mem_cons_of_mem _ hd)
  have hfit : Fit s := fun {y c} hc i hi => by
    obtain ⟨ha, rfl⟩ := Array.getElem?_eq_some_iff.mp hc
    have q := List.all_eq_true.mp ((Array.all_eq_true_iff_forall_mem.mp hF) _ (Array.getElem_mem ha)) i (List.mem_range.mpr hi)
    simpa [Array.getElem?_eq_getElem hi] using q
  obtain ⟨i0, ei0⟩ := is_v g0b
  obtain rfl : w0 = (.int i0) := Option.some.inj ei0
  obtain ⟨n0a, n0b⟩ := and_e hn
  obtain ⟨w_PENDING, ev_PENDING⟩ := exa_v n0a
  obtain ⟨n1a, n1b⟩ := and_e n0b
  obtain ⟨n2a, n2b⟩ := and_e n1b
  obtain ⟨w_SUCCEEDED, ev_SUCCEEDED⟩ := exa_v n2a
  obtain ⟨n3a, n3b⟩ := and_e n2b
  obtain ⟨n4a, n4b⟩ := and_e n3b
  obtain ⟨w_RETRY_WAIT, ev_RETRY_WAIT⟩ := exa_v n4a
  obtain ⟨n5a, n5b⟩ := and_e n4b
  obtain ⟨n6a, n6b⟩ := and_e n5b
  obtain ⟨w_IN_FLIGHT, ev_IN_FLIGHT⟩ := exa_v n6a
  obtain ⟨n7a, n7b⟩ := and_e n6b
  obtain ⟨n8a, n8b⟩ := and_e n7b
  obtain ⟨w_DEAD_LETTER, ev_DEAD_LETTER⟩ := exa_v n8a
  obtain ⟨n9a, n9b⟩ := and_e n8b
  obtain ⟨n10a, n10b⟩ := and_e n9b
  obtain ⟨n11a, n11b⟩ := and_e n10b
  obtain ⟨n12a, n12b⟩ := and_e n11b
  obtain ⟨w_FAILED, ev_FAILED⟩ := exa_v n12a
  obtain ⟨n13a, n13b⟩ := and_e n12b
  obtain ⟨n, o, h1, h2, h3, _, L, rfl, ⟨rfl, N⟩, hq⟩ := rm0 l s _ hw tables_1 s.heap.size s.heap (Old.start s) i0 w_PENDING w_SUCCEEDED w_RETRY_WAIT w_IN_FLIGHT w_DEAD_LETTER w_FAILED ⟨Sta.start ev_PENDING (Or.inr ⟨(hw _ (List.mem_of_getElem? (i := 6) rfl)), (hw _ (List.mem_of_getElem? (i := 7) rfl))⟩), Exa.start ev_PENDING n0a, Fld.start ((fld_at ev_PENDING).symm.trans (own_eqI n1a)), Sta.start ev_SUCCEEDED (Or.inr ⟨(hw _ (List.mem_of_getElem? (i := 6) rfl)), (hw _ (List.mem_of_getElem? (i := 16) rfl))⟩), Exa.start ev_SUCCEEDED n2a, Fld.start ((fld_at ev_SUCCEEDED).symm.trans (own_eqI n3a)), Sta.start ev_RETRY_WAIT (Or.inr ⟨(hw _ (List.mem_of_getElem? (i := 6) rfl)), (hw _ (List.mem_of_getElem? (i := 19) rfl))⟩), Exa.start ev_RETRY_WAIT n4a, Fld.start ((fld_at ev_RETRY_WAIT).symm.trans (own_eqI n5a)), Sta.start ev_IN_FLIGHT (Or.inr ⟨(hw _ (List.mem_of_getElem? (i := 6) rfl)), (hw _ (List.mem_of_getElem? (i := 21) rfl))⟩), Exa.start ev_IN_FLIGHT n6a, Fld.start ((fld_at ev_IN_FLIGHT).symm.trans (own_eqI n7a)), Sta.start ev_DEAD_LETTER (Or.inr ⟨(hw _ (List.mem_of_getElem? (i := 6) rfl)), (hw _ (List.mem_of_getElem? (i := 23) rfl))⟩), Exa.start ev_DEAD_LETTER n8a, Fld.start ((fld_at ev_DEAD_LETTER).symm.trans (own_eqI n9a)), Fld.start ((fld_at ev_DEAD_LETTER).symm.trans (own_eqI n10a)), Fld.start ((fld_at ev_SUCCEEDED).symm.trans (own_eqI n11a)), Sta.start ev_FAILED (Or.inr ⟨(hw _ (List.mem_of_getElem? (i := 6) rfl)), (hw _ (List.mem_of_getElem? (i := 25) rfl))⟩), Exa.start ev_FAILED n12a, Fld.start ((fld_at ev_FAILED).symm.trans (own_eqI n13a)), Fld.start ((fld_at ev_FAILED).symm.trans (own_eqI n13b))⟩ p e ha hc hk s m _ below hf ((Spec.applies_iff_loose hf).mp happ).1 ⟨rfl, State.Warmed39.refl s, rfl⟩ trivial
  refine ⟨n, _, h1, h2, h3, hpost _ _ _ _ _ _ ⟨Cond.after_iff.mpr rfl, Cond.after_iff.mpr (eq_i res_at (Term.int_eval (1)) rfl), trivial⟩ ⟨hq.1, hq.2.1, (hq.2.2.sift fun y hy => Or.inr (N y hy)).mono (by decide) (by decide)⟩⟩
theorem main_1_1 : Claimed_1_1 := comes_1 fun _ _ _ _ _ _ h hF => ⟨h.1, hF⟩
theorem main_1_2 : Claimed_1_2 := comes_1 fun _ _ _ _ _ _ h hF => ⟨h.2.1, hF⟩
end Jvm.Pilot.@@N@@
namespace Jvm.Pilot.@@N@@
open Jvm Jvm.ClassFile Sem Op Lib Jvm.Free Jvm.Stand Jvm.Pilot.@@N@@.Jvm.D
/-! MADE BY PROGRAM (witnessworld.py) out of the Statement's table words and the real class files: 13 classes; the members and pool entries that the words name. The judged class is class 1, her method 2. -/
namespace start1
open Jvm.ClassFile
def u (s : String) : CpInfo := .utf8 (stringToUtf16 s)
/-- a pool by its gaps: so many unusable entries, then the entry; so many at the end -/
def gap : Nat → List CpInfo → List CpInfo
  | 0, r => r
  | n + 1, r => .unusable :: gap n r
def poolList (es : List (Nat × CpInfo)) (last : Nat) : List CpInfo := es.foldr (fun e r => gap e.1 (e.2 :: r)) (gap last [])
def pool (es : List (Nat × CpInfo)) (last : Nat) : Array CpInfo := ⟨poolList es last⟩
def fileOf (pool : Array CpInfo) (this : Nat) (attrs : Array Attribute := #[]) (ms : Array MethodInfo := #[]) (fl : Nat := 33) (sup : Nat := 0) (ifs : Array Nat := #[]) (fds : Array FieldInfo := #[]) : ClassFile where
  minorVersion := 0
  majorVersion := 65
  constantPool := pool
  accessFlags := fl
  thisClass := this
  superClass := sup
  interfaces := ifs
  fields := fds
  methods := ms
  attributes := attrs
def plain (name : String) (sup : Option ClassId) : Class where
  name := name
  kind := .ordinary
  loader := none
  accessFlags := 33
  super := sup
  interfaces := #[]
  cf := none
  fields := #[]
  methods := #[]
  instanceTypes := #[]
  staticTypes := #[]
  resolved := #[]
  callSites := []
  init := .initialized
  statics := none
  mirror := none

def pool0 : Array CpInfo := pool [(5, u "<init>"), (0, u "()V"), (1, .class_ 10), (1, u "java/lang/Object")] 113

def k0m0 : Method := { name := "<init>", desc := "()V", sig := { parameters := [], returnType := none }, accessFlags := 1, code := none }
/-- java/lang/Object -/
def k0 : Class := { plain "java/lang/Object" none with
  accessFlags := 33
  interfaces := #[]
  cf := some (fileOf pool0 8 #[] #[{ accessFlags := 1, nameIndex := 5, descriptorIndex := 6, attributes := #[] }] 33 0 #[] #[])
  fields := #[]
  methods := #[k0m0]
  instanceTypes := #[]
  staticTypes := #[]
  resolved := Array.replicate 124 none
  statics := none }

def pool1 : Array CpInfo := pool [(2, .class_ 4), (1, u "java/lang/Object"), (0, u "<init>"), (0, u "()V"), (0, .fieldref 8 9), (0, .class_ 10), (0, .nameAndType 11 12), (0, u "com/example/keryx/keryx/core/DeliveryStatus"), (0, u "PENDING"), (0, u "Lcom/example/keryx/keryx/core/DeliveryStatus;"), (0, .fieldref 8 14), (0, .nameAndType 15 12), (0, u "IN_FLIGHT"), (0, .fieldref 8 17), (0, .nameAndType 18 12), (0, u "RETRY_WAIT"), (0, .fieldref 8 20), (0, .nameAndType 21 12), (0, u "SUCCEEDED"), (0, .fieldref 8 23), (0, .nameAndType 24 12), (0, u "FAILED"), (0, .fieldref 8 26), (0, .nameAndType 27 12), (0, u "DEAD_LETTER"), (0, .integer 2147483647), (0, .methodref 30 31), (0, .class_ 32), (0, .nameAndType 33 34), (0, u "com/example/keryx/keryx/core/DeliveryStatusIsFailurePinLaw"), (0, u "pick"), (0, u "(I)Lcom/example/keryx/keryx/core/DeliveryStatus;"), (0, .methodref 8 36), (0, .nameAndType 37 38), (0, u "isFailure"), (0, u "()Z"), (3, u "law"), (0, u "(I)Z")] 2

def k1m0 : Method := { name := "<init>", desc := "()V", sig := { parameters := [], returnType := none }, accessFlags := 2, code := none }
def k1c1 : Code := { maxStack := 2, maxLocals := 1, code := method_2_code, exceptionTable := #[], attributes := #[] }
def k1m1 : Method := { name := "pick", desc := "(I)Lcom/example/keryx/keryx/core/DeliveryStatus;", sig := { parameters := [.int], returnType := some (.object "com/example/keryx/keryx/core/DeliveryStatus") }, accessFlags := 10, code := some k1c1 }
def k1c2 : Code := { maxStack := 2, maxLocals := 4, code := code, exceptionTable := #[], attributes := #[] }
def k1m2 : Method := { name := "law", desc := "(I)Z", sig := { parameters := [.int], returnType := some .boolean }, accessFlags := 9, code := some k1c2 }
/-- com/example/keryx/keryx/core/DeliveryStatusIsFailurePinLaw -/
def k1 : Class := { plain "com/example/keryx/keryx/core/DeliveryStatusIsFailurePinLaw" (some 0) with
  accessFlags := 49
  interfaces := #[]
  cf := some (fileOf pool1 30 #[] #[{ accessFlags := 2, nameIndex := 5, descriptorIndex := 6, attributes := #[] }, { accessFlags := 10, nameIndex := 33, descriptorIndex := 34, attributes := #[] }, { accessFlags := 9, nameIndex := 42, descriptorIndex := 43, attributes := #[] }] 49 2 #[] #[])
  fields := #[]
  methods := #[k1m0, k1m1, k1m2]
  instanceTypes := #[]
  staticTypes := #[]
  resolved := Array.replicate 46 none
  statics := none }

def pool2 : Array CpInfo := pool [(1, .class_ 2), (0, u "java/lang/constant/Constable"), (0, .class_ 4), (0, u "java/lang/Object")] 6

/-- java/lang/constant/Constable -/
def k2 : Class := { plain "java/lang/constant/Constable" (some 0) with
  accessFlags := 1537
  interfaces := #[]
  cf := some (fileOf pool2 1 #[] #[] 1537 3 #[] #[])
  fields := #[]
  methods := #[]
  instanceTypes := #[]
  staticTypes := #[]
  resolved := Array.replicate 11 none
  statics := none }

def pool3 : Array CpInfo := pool [(1, .class_ 2), (0, u "java/lang/Comparable"), (0, .class_ 4), (0, u "java/lang/Object")] 7

/-- java/lang/Comparable -/
def k3 : Class := { plain "java/lang/Comparable" (some 0) with
  accessFlags := 1537
  interfaces := #[]
  cf := some (fileOf pool3 1 #[] #[] 1537 3 #[] #[])
  fields := #[]
  methods := #[]
  instanceTypes := #[]
  staticTypes := #[]
  resolved := Array.replicate 12 none
  statics := none }

def pool4 : Array CpInfo := pool [(1, .class_ 2), (0, u "java/io/Serializable"), (0, .class_ 4), (0, u "java/lang/Object")] 2

/-- java/io/Serializable -/
def k4 : Class := { plain "java/io/Serializable" (some 0) with
  accessFlags := 1537
  interfaces := #[]
  cf := some (fileOf pool4 1 #[] #[] 1537 3 #[] #[])
  fields := #[]
  methods := #[]
  instanceTypes := #[]
  staticTypes := #[]
  resolved := Array.replicate 7 none
  statics := none }

def pool5 : Array CpInfo := pool [(2, .class_ 4), (1, u "java/lang/Enum"), (0, u "name"), (0, u "Ljava/lang/String;"), (2, u "ordinal"), (0, u "I"), (1, .class_ 14), (1, u "java/lang/Object"), (4, u "hash"), (86, .class_ 108), (1, u "java/lang/Enum$EnumDesc"), (2, .class_ 112), (0, u "java/lang/constant/Constable"), (0, .class_ 114), (0, u "java/lang/Comparable"), (0, .class_ 116), (0, u "java/io/Serializable")] 87

/-- java/lang/Enum -/
def k5 : Class := { plain "java/lang/Enum" (some 0) with
  accessFlags := 1057
  interfaces := #[2, 3, 4]
  cf := some (fileOf pool5 2 #[.nestMembers #[106]] #[] 1057 12 #[111, 113, 115] #[{ accessFlags := 18, nameIndex := 5, descriptorIndex := 6, attributes := #[] }, { accessFlags := 18, nameIndex := 9, descriptorIndex := 10, attributes := #[] }, { accessFlags := 2, nameIndex := 19, descriptorIndex := 10, attributes := #[] }])
  fields := #[{ name := "name", type := (.object "java/lang/String"), accessFlags := 18, slot := 0, constantValue := 0 }, { name := "ordinal", type := .int, accessFlags := 18, slot := 1, constantValue := 0 }, { name := "hash", type := .int, accessFlags := 2, slot := 2, constantValue := 0 }]
  methods := #[]
  instanceTypes := #[(.object "java/lang/String"), .int, .int]
  staticTypes := #[]
  resolved := Array.replicate 204 none
  statics := none }

def pool6 : Array CpInfo := pool [(1, .class_ 2), (0, u "com/example/keryx/keryx/core/WireNamed"), (0, .class_ 4), (0, u "java/lang/Object")] 4

/-- com/example/keryx/keryx/core/WireNamed -/
def k6 : Class := { plain "com/example/keryx/keryx/core/WireNamed" (some 0) with
  accessFlags := 1536
  interfaces := #[]
  cf := some (fileOf pool6 1 #[] #[] 1536 3 #[] #[])
  fields := #[]
  methods := #[]
  instanceTypes := #[]
  staticTypes := #[]
  resolved := Array.replicate 9 none
  statics := none }

def pool7 : Array CpInfo := pool [(1, .class_ 2), (0, u "com/example/keryx/keryx/core/DeliveryStatus"), (2, u "PENDING"), (0, u "Lcom/example/keryx/keryx/core/DeliveryStatus;"), (2, u "IN_FLIGHT"), (2, u "RETRY_WAIT"), (0, .fieldref 1 14), (0, .nameAndType 15 6), (0, u "SUCCEEDED"), (2, u "FAILED"), (2, u "DEAD_LETTER"), (2, u "$VALUES"), (0, u "[Lcom/example/keryx/keryx/core/DeliveryStatus;"), (6, .class_ 34), (1, u "java/lang/Enum"), (8, u "wireName"), (0, u "Ljava/lang/String;"), (0, .fieldref 1 46), (0, .nameAndType 47 48), (0, u "terminal"), (0, u "Z"), (2, u "WIRE_NAMES"), (0, u "Lcom/example/keryx/keryx/core/WireNames;"), (37, .class_ 91), (0, u "com/example/keryx/keryx/core/WireNamed"), (9, u "()Z"), (0, u "isFailure")] 8

def k7c0 : Code := { maxStack := 2, maxLocals := 1, code := prog_5_method_6_code, exceptionTable := #[], attributes := #[] }
def k7m0 : Method := { name := "isFailure", desc := "()Z", sig := { parameters := [], returnType := some .boolean }, accessFlags := 1, code := some k7c0 }
/-- com/example/keryx/keryx/core/DeliveryStatus -/
def k7 : Class := { plain "com/example/keryx/keryx/core/DeliveryStatus" (some 5) with
  accessFlags := 16433
  interfaces := #[6]
  cf := some (fileOf pool7 1 #[] #[{ accessFlags := 1, nameIndex := 102, descriptorIndex := 101, attributes := #[] }] 16433 32 #[90] #[{ accessFlags := 16409, nameIndex := 5, descriptorIndex := 6, attributes := #[] }, { accessFlags := 16409, nameIndex := 9, descriptorIndex := 6, attributes := #[] }, { accessFlags := 16409, nameIndex := 12, descriptorIndex := 6, attributes := #[] }, { accessFlags := 16409, nameIndex := 15, descriptorIndex := 6, attributes := #[] }, { accessFlags := 16409, nameIndex := 18, descriptorIndex := 6, attributes := #[] }, { accessFlags := 16409, nameIndex := 21, descriptorIndex := 6, attributes := #[] }, { accessFlags := 26, nameIndex := 51, descriptorIndex := 52, attributes := #[] }, { accessFlags := 18, nameIndex := 43, descriptorIndex := 44, attributes := #[] }, { accessFlags := 18, nameIndex := 47, descriptorIndex := 48, attributes := #[] }, { accessFlags := 4122, nameIndex := 24, descriptorIndex := 25, attributes := #[] }])
  fields := #[{ name := "PENDING", type := (.object "com/example/keryx/keryx/core/DeliveryStatus"), accessFlags := 16409, slot := 0, constantValue := 0 }, { name := "IN_FLIGHT", type := (.object "com/example/keryx/keryx/core/DeliveryStatus"), accessFlags := 16409, slot := 1, constantValue := 0 }, { name := "RETRY_WAIT", type := (.object "com/example/keryx/keryx/core/DeliveryStatus"), accessFlags := 16409, slot := 2, constantValue := 0 }, { name := "SUCCEEDED", type := (.object "com/example/keryx/keryx/core/DeliveryStatus"), accessFlags := 16409, slot := 3, constantValue := 0 }, { name := "FAILED", type := (.object "com/example/keryx/keryx/core/DeliveryStatus"), accessFlags := 16409, slot := 4, constantValue := 0 }, { name := "DEAD_LETTER", type := (.object "com/example/keryx/keryx/core/DeliveryStatus"), accessFlags := 16409, slot := 5, constantValue := 0 }, { name := "WIRE_NAMES", type := (.object "com/example/keryx/keryx/core/WireNames"), accessFlags := 26, slot := 6, constantValue := 0 }, { name := "wireName", type := (.object "java/lang/String"), accessFlags := 18, slot := 3, constantValue := 0 }, { name := "terminal", type := .boolean, accessFlags := 18, slot := 4, constantValue := 0 }, { name := "$VALUES", type := (.array (.object "com/example/keryx/keryx/core/DeliveryStatus")), accessFlags := 4122, slot := 7, constantValue := 0 }]
  methods := #[k7m0]
  instanceTypes := #[(.object "java/lang/String"), .int, .int, (.object "java/lang/String"), .boolean]
  staticTypes := #[(.object "com/example/keryx/keryx/core/DeliveryStatus"), (.object "com/example/keryx/keryx/core/DeliveryStatus"), (.object "com/example/keryx/keryx/core/DeliveryStatus"), (.object "com/example/keryx/keryx/core/DeliveryStatus"), (.object "com/example/keryx/keryx/core/DeliveryStatus"), (.object "com/example/keryx/keryx/core/DeliveryStatus"), (.object "com/example/keryx/keryx/core/WireNames"), (.array (.object "com/example/keryx/keryx/core/DeliveryStatus"))]
  resolved := Array.replicate 111 none
  statics := some 0 }

def pool8 : Array CpInfo := pool [(1, u "java/lang/Cloneable"), (0, .class_ 1), (0, u "java/lang/Object"), (0, .class_ 3)] 3

/-- java/lang/Cloneable -/
def k8 : Class := { plain "java/lang/Cloneable" (some 0) with
  accessFlags := 1537
  interfaces := #[]
  cf := some (fileOf pool8 2 #[] #[] 1537 4 #[] #[])
  fields := #[]
  methods := #[]
  instanceTypes := #[]
  staticTypes := #[]
  resolved := Array.replicate 8 none
  statics := none }

/-- the primitive byte -/
def k9 : Class := { plain "byte" none with kind := .primitive 'B', accessFlags := 0x411 }
/-- [B -/
def k10 : Class := { plain "[B" (some 0) with kind := .array 9 .byte, interfaces := #[8, 4], accessFlags := 1041 }

/-- the primitive int -/
def k11 : Class := { plain "int" none with kind := .primitive 'I', accessFlags := 0x411 }
/-- [I -/
def k12 : Class := { plain "[I" (some 0) with kind := .array 11 .int, interfaces := #[8, 4], accessFlags := 1041 }

def heap : Heap := #[{ cls := 7, slots := #[.ref 1, .ref 4, .ref 3, .ref 2, .ref 6, .ref 5, .null, .null], vm := .statics 7 },
  { cls := 7, slots := #[.null, .int 0, .int 0, .null, .int 0], vm := .none },
  { cls := 7, slots := #[.null, .int 3, .int 0, .null, .int 1], vm := .none },
  { cls := 7, slots := #[.null, .int 0, .int 0, .null, .int 0], vm := .none },
  { cls := 7, slots := #[.null, .int 0, .int 0, .null, .int 0], vm := .none },
  { cls := 7, slots := #[.null, .int 5, .int 0, .null, .int 1], vm := .none },
  { cls := 7, slots := #[.null, .int 4, .int 0, .null, .int 1], vm := .none }]
def classes : Array Class := #[k0, k1, k2, k3, k4, k5, k6, k7, k8, k9, k10, k11, k12]
def interned : List (Array UInt16 × Addr) := []
def slotsUsed : Nat := 38
def theMethod : MethodId := ⟨1, 2⟩
def args0 : Array Value := #[.int 5]
def aboutOver (below : List Frame) : State where
  vm := { classes := classes, interned := interned.toArray }
  heap := heap
  slotsUsed := slotsUsed
  threads := #[{ frames := .invoking theMethod args0 :: below }]
def below0 : List Frame := [.native { method := ⟨0, 0⟩, args := #[] }]
def about1 : State := aboutOver below0
def p0 : Program := .bare "" "" ""
def e0 : Env := launch0.env 0 0 0
theorem w_frames : about1.frames = Frame.invoking theMethod args0 :: below0 := rfl
set_option maxRecDepth 65536 in
theorem w_args : argsFit about1.vm theMethod args0 = true := by decide +kernel
set_option maxRecDepth 65536 in
theorem w_heap : heapFits about1 = true := by decide +kernel
set_option maxRecDepth 65536 in
theorem w_runnable : about1.curStatus? = some .runnable := by decide +kernel
set_option maxRecDepth 65536 in
theorem w_alone : about1.alone = true := by decide +kernel
set_option maxRecDepth 65536 in
theorem w_named : about1.methodNamed? x = some theMethod := by decide +kernel
set_option maxRecDepth 65536 in
theorem w_hears : about1.hears theMethod below0 = true := by decide +kernel
set_option maxRecDepth 65536 in
theorem w_ripe : about1.ripe theMethod args0 below0 = true := by decide +kernel
theorem w_running : about1.status = .running := rfl
set_option maxRecDepth 65536 in
theorem w_room : about1.hasRoom e0.platform room_1 = true :=
  launch0.hasRoom_least _ room_1 (by decide +kernel) (by decide +kernel) (by decide +kernel) (by decide +kernel) (by decide +kernel) (by decide +kernel)
theorem allAtoms_all (ts : List Jvm.Cond) (a : Array Jvm.Value) (st : Jvm.State) : (allAtoms ts).before a st = ts.all (fun c => c.before a st) := by
  induction ts with
  | nil => rfl
  | cons c t ih =>
    show (Jvm.Cond.and c (allAtoms t)).before a st = _
    rw [Jvm.Cond.before_and, ih, List.all_cons]
def words1 : List Jvm.Cond := Jvm.Cond.code x code maxLocals ret :: tables_1
/-- a 'code' word, met by the world's own term for the bytes: nothing is compared byte by byte -/
theorem code_word {y : MethodName} {bytes : ByteArray} {mx : Nat} {rt : Option FieldType} {a : Array Value} {s : State} {m : MethodId} {meth : Method} {c : Code} (h1 : s.methodNamed? y = some m) (h2 : s.vm.method? m = some meth) (h3 : meth.code = some c) (h4 : c.code = bytes)
    (h5 : (c.maxLocals == mx && c.exceptionTable.isEmpty && decide (c.maxStack ≤ mostOperands) && decide (meth.sig.returnType = rt) && !meth.locks && decide (parseMethodDescriptor y.desc = some meth.sig)) = true) : (Jvm.Cond.code y bytes mx rt).before a s = true := by
  simp only [Bool.and_eq_true, beq_iff_eq, Bool.not_eq_true', decide_eq_true_eq] at h5
  obtain ⟨⟨⟨⟨⟨g1, g2⟩, g3⟩, g4⟩, g5⟩, g6⟩ := h5
  simp [Cond.before, Cond.holds, Cond.value, h1, h2, h3, h4, g1, g2, g3, g4, g5, g6]
def isCode : Jvm.Cond → Bool
  | .code _ _ _ _ => true
  | _ => false
theorem all_split {L : List Jvm.Cond} {P : Jvm.Cond → Bool} (h1 : L.all (fun c => isCode c || P c) = true) (h2 : ∀ c ∈ L.filter isCode, P c = true) : L.all P = true := by
  refine List.all_eq_true.mpr fun c hc => ?_
  have h := List.all_eq_true.mp h1 c hc
  rcases Bool.eq_false_or_eq_true (isCode c) with hi | hi
  · exact h2 c (List.mem_filter.mpr ⟨hc, hi⟩)
  · simpa [hi] using h
set_option maxRecDepth 65536 in
theorem w_c0 : (Jvm.Cond.code x code maxLocals ret).before args0 about1 = true := code_word (m := ⟨1, 2⟩) (meth := k1m2) (c := k1c2) (by decide +kernel) rfl rfl rfl (by decide +kernel)
set_option maxRecDepth 65536 in
theorem w_c1 : (Jvm.Cond.code ({ cls := "com/example/keryx/keryx/core/DeliveryStatusIsFailurePinLaw", name := "pick", desc := "(I)Lcom/example/keryx/keryx/core/DeliveryStatus;" } : Jvm.MethodName) method_2_code (1 : Nat) (Option.some (Jvm.ClassFile.FieldType.object "com/example/keryx/keryx/core/DeliveryStatus"))).before args0 about1 = true := code_word (m := ⟨1, 1⟩) (meth := k1m1) (c := k1c1) (by decide +kernel) rfl rfl rfl (by decide +kernel)
set_option maxRecDepth 65536 in
theorem w_c2 : (Jvm.Cond.code ({ cls := "com/example/keryx/keryx/core/DeliveryStatus", name := "isFailure", desc := "()Z" } : Jvm.MethodName) prog_5_method_6_code (1 : Nat) (Option.some Jvm.ClassFile.FieldType.boolean)).before args0 about1 = true := code_word (m := ⟨7, 0⟩) (meth := k7m0) (c := k7c0) (by decide +kernel) rfl rfl rfl (by decide +kernel)
def codes1 : List Jvm.Cond := [Jvm.Cond.code x code maxLocals ret, Jvm.Cond.code ({ cls := "com/example/keryx/keryx/core/DeliveryStatusIsFailurePinLaw", name := "pick", desc := "(I)Lcom/example/keryx/keryx/core/DeliveryStatus;" } : Jvm.MethodName) method_2_code (1 : Nat) (Option.some (Jvm.ClassFile.FieldType.object "com/example/keryx/keryx/core/DeliveryStatus")), Jvm.Cond.code ({ cls := "com/example/keryx/keryx/core/DeliveryStatus", name := "isFailure", desc := "()Z" } : Jvm.MethodName) prog_5_method_6_code (1 : Nat) (Option.some Jvm.ClassFile.FieldType.boolean)]
set_option maxRecDepth 65536 in
theorem codes_eq : words1.filter isCode = codes1 := rfl
theorem w_codes : ∀ c ∈ words1.filter isCode, c.before args0 about1 = true := by
  rw [codes_eq]
  intro c hc
  simp only [codes1, List.mem_cons, List.not_mem_nil, or_false] at hc
  rcases hc with rfl | rfl | rfl
  · exact w_c0
  · exact w_c1
  · exact w_c2
set_option maxRecDepth 65536 in
theorem w_t1 : (words1.take 24).all (fun c => isCode c || c.before args0 about1) = true := by decide +kernel
set_option maxRecDepth 65536 in
theorem w_t2 : (words1.drop 24).all (fun c => isCode c || c.before args0 about1) = true := by decide +kernel
theorem w_tables : (allAtoms (Jvm.Cond.code x code maxLocals ret :: tables_1)).before args0 about1 = true := by
  rw [allAtoms_all]
  show words1.all (fun c => c.before args0 about1) = true
  refine all_split ?_ w_codes
  rw [← List.take_append_drop 24 words1, List.all_append, w_t1, w_t2]
  rfl
set_option maxRecDepth 65536 in
theorem w_case : (Jvm.Cond.and given_1 narrow_1).before args0 about1 = true := by decide +kernel
theorem w_applies : (headSpec (Jvm.Cond.code x code maxLocals ret :: tables_1) room_1).applies x e0.platform about1 = true :=
  (Spec.applies_iff w_frames).mpr ⟨w_running, w_runnable, w_alone, w_named, w_hears, w_ripe, w_room, w_tables⟩
theorem atStart : AtStart classFile x code maxLocals ret World_1 tables_1 room_1 Calls_1 rest_1 Pre_1 launch0 p0 e0 about1 theMethod args0 below0 :=
  ⟨lists_1, trivial, launch0.admits_env _ _ _, launch0.least_env, fairChoices_fair.cas, fairChoices_fair.clock, w_frames, w_args, w_heap, w_applies, trivial, trivial, w_case⟩
end start1
theorem witness_1 : WitnessClaimed_1 := ⟨start1.p0, start1.e0, start1.about1, start1.theMethod, start1.args0, start1.below0, start1.atStart⟩
end Jvm.Pilot.@@N@@
