import JvmDerived
import JvmDerived.Pilot.@@N@@Statement
import JvmDerived.Pilot.@@N@@Code
set_option linter.unusedVariables false
set_option linter.unusedSimpArgs false
namespace Jvm.Pilot.@@N@@
open Jvm Jvm.ClassFile Sem Op Lib Jvm.Free Jvm.Stand Jvm.LawKit Jvm.RoadKit Bundle Jvm.Pilot.@@N@@.Jvm.D

section OwnEnds
variable {p : Program} {l : Launch} {e : Env} {R : Room} {s : State} {m : MethodId} {args : Array Value} {below : List Frame} {meth : Method} {c : Code} {T : State} {locs : List Loc} {cells slots : Nat}
/-- from here the body comes to its end, returns, and leaves what Q says -/
def Ends (p : Program) (e : Env) (below : List Frame) (s T : State) (g : JFrame) (kc ks : Nat) (Q : Option Value → Heap → List Loc → Prop) : Prop :=
  ∃ s₂ o, Steps p.tables e below (T.setTop g) s₂ ∧ s₂.status = .running ∧ Ended s₂ below o ∧ ∃ v L, o = .returned v ∧ Q v s₂.heap L ∧ FrameEnd s o s₂ L kc ks
theorem Ends.go {T' : State} {g g' : JFrame} {kc ks : Nat} {Q : Option Value → Heap → List Loc → Prop} (h : ∀ target, Steps p.tables e below (T'.setTop g') target → Steps p.tables e below (T.setTop g) target) (k : Ends p e below s T' g' kc ks Q) : Ends p e below s T g kc ks Q := by
  obtain ⟨s₂, o, h1, h2⟩ := k
  exact ⟨s₂, o, h _ h1, h2⟩
theorem Ends.ret (X : Stand p l e R s m args below meth c T locs cells slots) (hx : p.tables.exec = Jvm.exec) (hlocks : meth.locks = false) {pc : Nat} {Ls : Array Slot} {w : Value} {t : FieldType} {i : Instr} {rest : List Value} (hret : meth.sig.returnType = some t) (hn : narrow t w = w)
    (hi : (i = .ireturn ∧ (t = .int ∨ t = .boolean ∨ t = .byte ∨ t = .char ∨ t = .short) ∧ ∃ z, w = .int z) ∨ (i = .lreturn ∧ t = .long ∧ ∃ z, w = .long z) ∨ (i = .dreturn ∧ t = .double ∧ ∃ z, w = .double z) ∨ (i = .freturn ∧ t = .float ∧ ∃ z, w = .float z) ∨ (i = .areturn ∧ t.isReference = true ∧ w.isRef = true))
    (hd : decode c.code pc = .ok (i, 1)) {kc ks : Nat} {Q : Option Value → Heap → List Loc → Prop} (hc : cells ≤ kc) (hs : slots ≤ ks) (hq : Q (some w) T.heap locs) : Ends p e below s T (mkF m pc Ls (w :: rest)) kc ks Q := by
  obtain ⟨fs, hr, hrun, hended, hW, hsame⟩ := X.leave (v := some w) (fun h => by rw [hret] at h; cases h) hlocks
  exact ⟨_, _, retOut X hx hret hn hi hd hr, hrun, hended, _, _, rfl, hq, ⟨_, rfl⟩, hW, hsame.mono hc hs⟩
theorem Ends.retZ (X : Stand p l e R s m args below meth c T locs cells slots) (hx : p.tables.exec = Jvm.exec) (hlocks : meth.locks = false) {pc : Nat} {Ls : Array Slot} {z : Int32} {t : FieldType} {rest : List Value} (hret : meth.sig.returnType = some t) (ht : t = .boolean ∨ t = .byte ∨ t = .char ∨ t = .short)
    (hd : decode c.code pc = .ok (.ireturn, 1)) {kc ks : Nat} {Q : Option Value → Heap → List Loc → Prop} (hc : cells ≤ kc) (hs : slots ≤ ks) (hq : Q (some (.int (nar t z))) T.heap locs) : Ends p e below s T (mkF m pc Ls (.int z :: rest)) kc ks Q := by
  obtain ⟨fs, hr, hrun, hended, hW, hsame⟩ := X.leave (v := some (.int (nar t z))) (fun h => by rw [hret] at h; cases h) hlocks
  exact ⟨_, _, retN X hx hret ht hd hr, hrun, hended, _, _, rfl, hq, ⟨_, rfl⟩, hW, hsame.mono hc hs⟩
theorem Ends.retV (X : Stand p l e R s m args below meth c T locs cells slots) (hx : p.tables.exec = Jvm.exec) (hlocks : meth.locks = false) {pc : Nat} {Ls : Array Slot} (hret : meth.sig.returnType = none)
    (hd : decode c.code pc = .ok (.return_, 1)) {kc ks : Nat} {Q : Option Value → Heap → List Loc → Prop} (hc : cells ≤ kc) (hs : slots ≤ ks) (hq : Q none T.heap locs) : Ends p e below s T (mkF m pc Ls []) kc ks Q := by
  obtain ⟨fs, hr, hrun, hended, hW, hsame⟩ := X.leave (v := none) (fun _ => rfl) hlocks
  exact ⟨_, _, X.returnOut hx hret hd hr, hrun, hended, _, _, rfl, hq, ⟨_, rfl⟩, hW, hsame.mono hc hs⟩
end OwnEnds
abbrev Meets1 (l : Launch) (y : MethodName) (bytes : ByteArray) (ml : Nat) (rt : Option FieldType) (ws : List Jvm.Cond) (rm : Room) (av : Array Value) (Z : State) (h0 : Heap) (Q : Option Value → Heap → List Loc → Prop) : Prop :=
  MetFree l y (head1 (Jvm.Cond.code y bytes ml rt :: ws) rm) (fun a U => a = av ∧ Z.Warmed39 U.vm ∧ U.heap = h0) (fun _ _ _ _ _ => True) (fun _ U o U' => ∃ v L, o = .returned v ∧ Q v U'.heap L ∧ FrameEnd U o U' L rm.cells rm.slots)
theorem own_backOf {p : Program} {l : Launch} {e : Env} {R : Room} {s : State} {args : Array Value} {below : List Frame} {Z : State} {a0 : Array Value} {h : Heap} {y : MethodName} {bytes : ByteArray} {maxL : Nat} {ret : Option FieldType} {rm : Room} {len W : Nat} {as' : Array Value} {Q : Option Value → Heap → List Loc → Prop}
    (hM : Meets1 l y bytes maxL ret [] rm as' Z h Q) (hZ : Z.Warmed39 s.vm) (wc : (Jvm.Cond.code y bytes maxL ret).before a0 Z = true) (wz : (Jvm.Cond.initialized y.cls).before a0 Z = true) (hf : rm.frames + 1 ≤ R.frames) (hl : W + (maxL + 11) + rm.locals ≤ R.locals) :
    Back l R p e below s args y len W (fun A a => a = as' ∧ A.U.heap = h ∧ A.cells + rm.cells ≤ R.cells ∧ A.slots + rm.slots ≤ R.slots)
      (fun A _ v B => ∃ L, Q v B.U.heap L ∧ B.locs = A.locs ++ L ∧ B.cells = A.cells + rm.cells ∧ B.slots = A.slots + rm.slots) := backOf (Q := Q) hM hZ wc wz hf hl
theorem own_old_le {Z : State} {n0 : Nat} {h : Heap} (O : Old Z n0 h) : n0 ≤ h.size := O.1 ▸ O.2.1
theorem own_eqI {args : Array Value} {s : State} {t : Term} {k : Int32} (h : (Jvm.Cond.eq t (.int k)).value args s none s [] = some true) : t.eval args s none [] s = some (.int k) := by
  cases ht : t.eval args s none [] s with
  | none => simp [Cond.value, ht] at h
  | some x => cases x <;> simp_all [Cond.value, Term.eval]
theorem own_len {args : Array Value} {s : State} {t : Term} {a : Addr} {cl : Cell} {k : Int32} (ev : t.eval args s none [] s = some (.ref a)) (A : s.arrayAt? a = some cl) (h : (Jvm.Cond.eq (.length t) (.int k)).value args s none s [] = some true) : cl.slots.size < 2 ^ 31 ∧ cl.slots.size.toInt32 = k := by
  have h1 := own_eqI h
  by_cases q : cl.slots.size < 2 ^ 31
  · rw [len_f ev A q] at h1
    exact ⟨q, Value.int.inj (Option.some.inj h1)⟩
  · simp [Term.eval, ev, A, q] at h1
theorem own_sub {args : Array Value} {s : State} {j : Int32} (nn : ¬ j < 0) : (Term.sub (.index 0) (.int (128 : Int32))).eval args s none [j.toNatClampNeg] s = some (.int (j - (128 : Int32))) := by
  have h := idx_at (args := args) (s := s) (first := s) (o := none) nn
  generalize Term.index 0 = t at h ⊢
  simp [Term.eval, h]
def own_type (x : Int32) (wI wN wC wO : Addr) : Addr :=
  if x.toInt = -6 ∨ x.toInt = -5 ∨ x.toInt = 4 ∨ x.toInt = 5 then wI else if x.toInt = 2 ∨ x.toInt = 3 ∨ x.toInt = 6 ∨ x.toInt = 7 ∨ x.toInt = 8 then wN
  else if x.toInt = 1 ∨ x.toInt = 12 ∨ x.toInt = -1 ∨ x.toInt = -9 ∨ x.toInt = -15 ∨ x.toInt = -16 ∨ x.toInt = 2005 ∨ x.toInt = 2011 then wC else wO
theorem own_tI {x : Int32} {wI wN wC wO : Addr} (h : x.toInt = -6 ∨ x.toInt = -5 ∨ x.toInt = 4 ∨ x.toInt = 5) : own_type x wI wN wC wO = wI := if_pos h
theorem own_tN {x : Int32} {wI wN wC wO : Addr} (h : x.toInt = 2 ∨ x.toInt = 3 ∨ x.toInt = 6 ∨ x.toInt = 7 ∨ x.toInt = 8) : own_type x wI wN wC wO = wN := by
  unfold own_type; rw [if_neg (by omega), if_pos h]
theorem own_tC {x : Int32} {wI wN wC wO : Addr} (h : x.toInt = 1 ∨ x.toInt = 12 ∨ x.toInt = -1 ∨ x.toInt = -9 ∨ x.toInt = -15 ∨ x.toInt = -16 ∨ x.toInt = 2005 ∨ x.toInt = 2011) : own_type x wI wN wC wO = wC := by
  unfold own_type; rw [if_neg (by omega), if_neg (by omega), if_pos h]
theorem own_tO {x : Int32} {wI wN wC wO : Addr} (h1 : ¬ (x.toInt = -6 ∨ x.toInt = -5 ∨ x.toInt = 4 ∨ x.toInt = 5)) (h2 : ¬ (x.toInt = 2 ∨ x.toInt = 3 ∨ x.toInt = 6 ∨ x.toInt = 7 ∨ x.toInt = 8)) (h : ¬ (x.toInt = 1 ∨ x.toInt = 12 ∨ x.toInt = -1 ∨ x.toInt = -9 ∨ x.toInt = -15 ∨ x.toInt = -16 ∨ x.toInt = 2005 ∨ x.toInt = 2011)) : own_type x wI wN wC wO = wO := by
  unfold own_type; rw [if_neg h1, if_neg h2, if_neg h]
theorem own_idx {p0 : Int32} (h1 : ¬ p0 < (-128 : Int32)) (h2 : ¬ (127 : Int32) < p0) : ¬ (p0 + (128 : Int32)) < 0 ∧ (p0 + (128 : Int32)) < (256 : Int32) := by
  have a1 : ¬ p0.toInt < -128 := fun q => h1 (Int32.lt_iff_toInt_lt.mpr q)
  have a2 : ¬ 127 < p0.toInt := fun q => h2 (Int32.lt_iff_toInt_lt.mpr q)
  have a3 := c_iadd p0 128
  have a4 := rng32 (p0 + 128)
  have a5 : (128 : Int32).toInt = 128 := by decide
  rw [a5] at a3
  refine ⟨fun q => ?_, Int32.lt_iff_toInt_lt.mpr ?_⟩
  · have q' : (p0 + (128 : Int32)).toInt < 0 := Int32.lt_iff_toInt_lt.mp q
    omega
  · show (p0 + (128 : Int32)).toInt < 256
    omega
theorem own_cancel (p0 : Int32) : p0 + (128 : Int32) - (128 : Int32) = p0 := by
  apply Int32.toInt_inj.mp
  have a3 := c_iadd p0 128
  have a4 := rng32 p0
  have a6 := rng32 (p0 + 128 - 128)
  have a7 := c_isub (p0 + 128) 128
  omega
def Facts (Z : State) (w_OTHER : Addr) (w_NUMERIC : Addr) (w_CHARACTER : Addr) (w_INTEGER : Addr) : Prop :=
  Sta Z Z.heap "com/example/wakeline/wakeline/event/DeclaredType" "OTHER" "Lcom/example/wakeline/wakeline/event/DeclaredType;" (.ref w_OTHER) ∧
  Exa Z Z.heap w_OTHER "com/example/wakeline/wakeline/event/DeclaredType" ∧
  Sta Z Z.heap "com/example/wakeline/wakeline/event/DeclaredType" "NUMERIC" "Lcom/example/wakeline/wakeline/event/DeclaredType;" (.ref w_NUMERIC) ∧
  Exa Z Z.heap w_NUMERIC "com/example/wakeline/wakeline/event/DeclaredType" ∧
  Sta Z Z.heap "com/example/wakeline/wakeline/event/DeclaredType" "CHARACTER" "Lcom/example/wakeline/wakeline/event/DeclaredType;" (.ref w_CHARACTER) ∧
  Exa Z Z.heap w_CHARACTER "com/example/wakeline/wakeline/event/DeclaredType" ∧
  Sta Z Z.heap "com/example/wakeline/wakeline/event/DeclaredType" "INTEGER" "Lcom/example/wakeline/wakeline/event/DeclaredType;" (.ref w_INTEGER) ∧
  Exa Z Z.heap w_INTEGER "com/example/wakeline/wakeline/event/DeclaredType"
theorem d5_0 : decode jdk_18_method_1_code 0 = .ok (.aload_n 0, 1) := by decide +kernel
theorem d5_1 : decode jdk_18_method_1_code 1 = .ok (.invokespecial 1, 3) := by decide +kernel
theorem d5_4 : decode jdk_18_method_1_code 4 = .ok (.return_, 1) := by decide +kernel
theorem pn5 : plainName "java/lang/Number" = true := by first | (simp [plainName, overriddenIn]; done) | decide +kernel
theorem ef5 (m : MethodId) (o0 : Addr) : entryFrame m #[(.ref o0)] 1 = mkF m 0 #[.val (.ref o0)] [] := by first | (simp [entryFrame, mkF, argsToLocals, Value.category]; done) | rfl
set_option maxRecDepth 65536 in
set_option maxHeartbeats 40000000 in
theorem rmN (l : Launch) (Z : State) (a0 : Array Value) (hw : ∀ d ∈ tables_1, d.before a0 Z = true) (ws : List Jvm.Cond) (n0 : Nat) (h0 : Heap) (O0 : Old Z n0 h0) (o0 : Addr)  :
    Meets1 l (⟨"java/lang/Number", "<init>", "()V"⟩ : MethodName) jdk_18_method_1_code 1 none ws ({ frames := 1, cells := 0, slots := 0, locals := 12 } : Room) #[(.ref o0)] Z h0 (fun v h L => v = none ∧ Fr n0 L ∧ h = h0) := by
  refine MetFree.of_bodySF (plainFor_of_name pn5) hisR ?_
  intro p e s m args below meth c s₁ Bd hml0 hP hK
  obtain ⟨rfl, hZ, hh⟩ := hP
  have hx := Bd.exec
  have hby := Bd.bytes
  have hml : c.maxLocals = 1 := hml0
  have hown : s.vm.findClass "java/lang/Number" = some m.cls := findClass_of_methodNamed Bd.named
  have hnm := (name_of_methodNamed Bd.named Bd.method).1
  have X0 : Stand p l e ({ frames := 1, cells := 0, slots := 0, locals := 12 } : Room) s m #[(.ref o0)] below meth c s₁ [] 0 0 := Stand.of_body Bd
  have e0 : s₁.heap = h0 := by rw [← hh, Bd.state]; rfl
  have N0 := Fr.nil n0
  have Z0 := own_old_le O0
  show Ends p e below s s₁ (entryFrame m #[(.ref o0)] 1) ({ frames := 1, cells := 0, slots := 0, locals := 12 } : Room).cells ({ frames := 1, cells := 0, slots := 0, locals := 12 } : Room).slots (fun v h L => v = none ∧ Fr n0 L ∧ h = h0)
  refine Ends.go (fun _ k => castTop (ef5 m o0) k) ?_
  have K0 := Keep.refl h0 []
  show Ends p e below s s₁ (mkF m 0 #[.val (.ref o0)] []) _ _ _
  refine Ends.go (fun _ k => XS.aloadN X0.here hx rfl (hb hby d5_0) rfl rfl k) ?_
  show Ends p e below s s₁ (mkF m 1 #[.val (.ref o0)] [(.ref o0)]) _ _ _
  obtain ⟨T1, X1, e1, st1⟩ := initO X0 hx hZ hown (hw _ (List.mem_of_getElem? (i := 27) rfl)) (hw _ (List.mem_of_getElem? (i := 28) rfl)) (hw _ (List.mem_of_getElem? (i := 29) rfl)) e0 (g := (mkF m 1 #[.val (.ref o0)] [(.ref o0)])) rfl (by rw [hml]; rfl) rfl (hb hby d5_1) (by decide) (W := 0) (by show 2 * 0 + _ ≤ _; exact Nat.le_of_eq rfl) (by decide)
  refine Ends.go st1 ?_
  show Ends p e below s T1 (mkF m 4 #[.val (.ref o0)] []) _ _ _
  refine Ends.retV X1 hx Bd.notSynchronized Bd.returns (hb hby d5_4) (by decide) (by decide) ?_
  exact ⟨rfl, N0, e1⟩
theorem d4_0 : decode jdk_33_method_23_code 0 = .ok (.aload_n 0, 1) := by decide +kernel
theorem d4_1 : decode jdk_33_method_23_code 1 = .ok (.invokespecial 202, 3) := by decide +kernel
theorem d4_4 : decode jdk_33_method_23_code 4 = .ok (.aload_n 0, 1) := by decide +kernel
theorem d4_5 : decode jdk_33_method_23_code 5 = .ok (.iload_n 1, 1) := by decide +kernel
theorem d4_6 : decode jdk_33_method_23_code 6 = .ok (.putfield 205, 3) := by decide +kernel
theorem d4_9 : decode jdk_33_method_23_code 9 = .ok (.return_, 1) := by decide +kernel
theorem pn4 : plainName "java/lang/Integer" = true := by first | (simp [plainName, overriddenIn]; done) | decide +kernel
theorem pd4_0 : parseMethodDescriptor "()V" = some ⟨[], none⟩ := by decide +kernel
theorem ef4 (m : MethodId) (o0 : Addr) (p1 : Int32) : entryFrame m #[(.ref o0), (.int p1)] 2 = mkF m 0 #[.val (.ref o0), .val (.int p1)] [] := by first | (simp [entryFrame, mkF, argsToLocals, Value.category]; done) | rfl
set_option maxRecDepth 65536 in
set_option maxHeartbeats 40000000 in
theorem rmI (l : Launch) (Z : State) (a0 : Array Value) (hw : ∀ d ∈ tables_1, d.before a0 Z = true) (ws : List Jvm.Cond) (n0 : Nat) (h0 : Heap) (O0 : Old Z n0 h0) (o0 : Addr) (p1 : Int32) (g_o0 : n0 ≤ o0) (Ex0 : Exa Z h0 o0 "java/lang/Integer") (F0 : Fld Z h0 o0 "java/lang/Integer" "value" "I" (.int (0 : Int32))) :
    Meets1 l (⟨"java/lang/Integer", "<init>", "(I)V"⟩ : MethodName) jdk_33_method_23_code 2 none ws ({ frames := 2, cells := 0, slots := 0, locals := 24 } : Room) #[(.ref o0), (.int p1)] Z h0 (fun v h L => v = none ∧ Fr n0 L ∧ Keep h0 h [o0] ∧ Exa Z h o0 "java/lang/Integer" ∧ Fld Z h o0 "java/lang/Integer" "value" "I" (.int p1)) := by
  refine MetFree.of_bodySF (plainFor_of_name pn4) hisR ?_
  intro p e s m args below meth c s₁ Bd hml0 hP hK
  obtain ⟨rfl, hZ, hh⟩ := hP
  have hx := Bd.exec
  have hby := Bd.bytes
  have hml : c.maxLocals = 2 := hml0
  have hown : s.vm.findClass "java/lang/Integer" = some m.cls := findClass_of_methodNamed Bd.named
  have hnm := (name_of_methodNamed Bd.named Bd.method).1
  have X0 : Stand p l e ({ frames := 2, cells := 0, slots := 0, locals := 24 } : Room) s m #[(.ref o0), (.int p1)] below meth c s₁ [] 0 0 := Stand.of_body Bd
  have e0 : s₁.heap = h0 := by rw [← hh, Bd.state]; rfl
  have N0 := Fr.nil n0
  have Z0 := own_old_le O0
  show Ends p e below s s₁ (entryFrame m #[(.ref o0), (.int p1)] 2) ({ frames := 2, cells := 0, slots := 0, locals := 24 } : Room).cells ({ frames := 2, cells := 0, slots := 0, locals := 24 } : Room).slots (fun v h L => v = none ∧ Fr n0 L ∧ Keep h0 h [o0] ∧ Exa Z h o0 "java/lang/Integer" ∧ Fld Z h o0 "java/lang/Integer" "value" "I" (.int p1))
  refine Ends.go (fun _ k => castTop (ef4 m o0 p1) k) ?_
  have K0 := Keep.refl h0 [o0]
  show Ends p e below s s₁ (mkF m 0 #[.val (.ref o0), .val (.int p1)] []) _ _ _
  refine Ends.go (fun _ k => XS.aloadN X0.here hx rfl (hb hby d4_0) rfl rfl k) ?_
  show Ends p e below s s₁ (mkF m 1 #[.val (.ref o0), .val (.int p1)] [(.ref o0)]) _ _ _
  obtain ⟨_, _, ⟨T1, L1, k1, n1⟩, -, X1, ⟨Lc1, hQ1, l1, y1, z1⟩, st1⟩ := X0.specialBack hx (y := (⟨"java/lang/Number", "<init>", "()V"⟩ : MethodName)) rfl hown (mvT hZ (hw _ (List.mem_of_getElem? (i := 21) rfl))) (mvT hZ (hw _ (List.mem_of_getElem? (i := 22) rfl))) (mvT hZ (hw _ (List.mem_of_getElem? (i := 26) rfl))) (by decide) (own_backOf (W := 0) (rmN l Z a0 hw [] n0 h0 O0 o0 ) hZ (hw _ (List.mem_of_getElem? (i := 26) rfl)) (hw _ (List.mem_of_getElem? (i := 25) rfl)) (by decide) (by decide)) (g := (mkF m 1 #[.val (.ref o0), .val (.int p1)] [(.ref o0)])) rfl (by rw [hml]; rfl) (Steps.refl _) (a := o0) (argsL := []) (rest := []) (lenOf pd4_0 rfl) rfl (by show 2 * 0 + _ ≤ _; exact Nat.le_of_eq rfl) (hb hby d4_1) (fun _ _ => ⟨rfl, e0, (by decide : 0 + 0 ≤ _), (by decide : 0 + 0 ≤ _)⟩)
  dsimp only [Pt.U, Pt.locs, Pt.cells, Pt.slots] at X1 l1 y1 z1 st1 hQ1
  subst l1 y1 z1
  obtain ⟨rfl, N1q, e1q⟩ := hQ1
  have N1 := Fr.app N0 N1q
  refine Ends.go (fun _ k => st1.trans k) ?_
  show Ends p e below s T1 (mkF m 4 #[.val (.ref o0), .val (.int p1)] []) _ _ _
  refine Ends.go (fun _ k => XS.aloadN X1.here hx rfl (hb hby d4_4) rfl rfl k) ?_
  show Ends p e below s T1 (mkF m 5 #[.val (.ref o0), .val (.int p1)] [(.ref o0)]) _ _ _
  refine Ends.go (fun _ k => XS.iloadN X1.here hx rfl (hb hby d4_5) rfl k) ?_
  show Ends p e below s T1 (mkF m 6 #[.val (.ref o0), .val (.int p1)] [(.int p1), (.ref o0)]) _ _ _
  obtain ⟨T2, h2, X2, e2, W2, st2⟩ := putF X1 hx hZ hown (host := "") (Or.inl (hw _ (List.mem_of_getElem? (i := 30) rfl))) Via.refl e1q F0 Ex0 (Or.inr ⟨(hw _ (List.mem_of_getElem? (i := 31) rfl)), rfl, hnm⟩) (hw _ (List.mem_of_getElem? (i := 16) rfl)) (ty := .int) (by decide) rfl rfl (g := (mkF m 6 #[.val (.ref o0), .val (.int p1)] [(.int p1), (.ref o0)])) rfl rfl (hb hby d4_6)
  refine Ends.go st2 ?_
  have Fw2 := F0.same W2
  have K2 := K0.wr W2 (Or.inl (List.mem_of_getElem? (i := 0) rfl))
  have O2 := O0.wr W2 g_o0
  have N2 := Fr.snoc X2 N1 g_o0
  show Ends p e below s T2 (mkF m 9 #[.val (.ref o0), .val (.int p1)] []) _ _ _
  refine Ends.retV X2 hx Bd.notSynchronized Bd.returns (hb hby d4_9) (by decide) (by decide) ?_
  rw [e2]
  exact ⟨rfl, N2, K2, (Ex0.wr W2), Fw2⟩
theorem d3_0 : decode jdk_33_method_22_code 0 = .ok (.iload_n 0, 1) := by decide +kernel
theorem d3_1 : decode jdk_33_method_22_code 1 = .ok (.bipush (-128), 2) := by decide +kernel
theorem d3_3 : decode jdk_33_method_22_code 3 = .ok (.if_icmp .lt 20, 3) := by decide +kernel
theorem d3_6 : decode jdk_33_method_22_code 6 = .ok (.iload_n 0, 1) := by decide +kernel
theorem d3_7 : decode jdk_33_method_22_code 7 = .ok (.getstatic 191, 3) := by decide +kernel
theorem d3_10 : decode jdk_33_method_22_code 10 = .ok (.if_icmp .gt 13, 3) := by decide +kernel
theorem d3_13 : decode jdk_33_method_22_code 13 = .ok (.getstatic 195, 3) := by decide +kernel
theorem d3_16 : decode jdk_33_method_22_code 16 = .ok (.iload_n 0, 1) := by decide +kernel
theorem d3_17 : decode jdk_33_method_22_code 17 = .ok (.sipush 128, 3) := by decide +kernel
theorem d3_20 : decode jdk_33_method_22_code 20 = .ok (.iadd, 1) := by decide +kernel
theorem d3_21 : decode jdk_33_method_22_code 21 = .ok (.aaload, 1) := by decide +kernel
theorem d3_22 : decode jdk_33_method_22_code 22 = .ok (.areturn, 1) := by decide +kernel
theorem d3_23 : decode jdk_33_method_22_code 23 = .ok (.new 1, 3) := by decide +kernel
theorem d3_26 : decode jdk_33_method_22_code 26 = .ok (.dup, 1) := by decide +kernel
theorem d3_27 : decode jdk_33_method_22_code 27 = .ok (.iload_n 0, 1) := by decide +kernel
theorem d3_28 : decode jdk_33_method_22_code 28 = .ok (.invokespecial 199, 3) := by decide +kernel
theorem d3_31 : decode jdk_33_method_22_code 31 = .ok (.areturn, 1) := by decide +kernel
theorem pn3 : plainName "java/lang/Integer" = true := by first | (simp [plainName, overriddenIn]; done) | decide +kernel
theorem pd3_0 : parseMethodDescriptor "(I)V" = some ⟨[.int], none⟩ := by decide +kernel
theorem ef3 (m : MethodId) (p0 : Int32) : entryFrame m #[(.int p0)] 1 = mkF m 0 #[.val (.int p0)] [] := by first | (simp [entryFrame, mkF, argsToLocals, Value.category]; done) | rfl
set_option maxRecDepth 65536 in
set_option maxHeartbeats 40000000 in
theorem rmV (l : Launch) (Z : State) (a0 : Array Value) (hw : ∀ d ∈ tables_1, d.before a0 Z = true) (ws : List Jvm.Cond) (n0 : Nat) (h0 : Heap) (O0 : Old Z n0 h0) (p0 : Int32) (w_cache : Addr) (cc : Cell) (S_high : Sta Z Z.heap "java/lang/Integer$IntegerCache" "high" "I" (.int (127 : Int32))) (S_cache : Sta Z Z.heap "java/lang/Integer$IntegerCache" "cache" "[Ljava/lang/Integer;" (.ref w_cache)) (B : Bxs Z w_cache cc "java/lang/Integer" "I" (256 : Int32) (fun j => .int (j - (128 : Int32)))) :
    Meets1 l (⟨"java/lang/Integer", "valueOf", "(I)Ljava/lang/Integer;"⟩ : MethodName) jdk_33_method_22_code 1 (some (.object "java/lang/Integer")) ws ({ frames := 3, cells := 1, slots := 1, locals := 38 } : Room) #[(.int p0)] Z h0 (fun v h L => ∃ b : Addr, v = some (.ref b) ∧ Fr n0 L ∧ Keep h0 h [] ∧ Exa Z h b "java/lang/Integer" ∧ Fld Z h b "java/lang/Integer" "value" "I" (.int p0)) := by
  refine MetFree.of_bodySF (plainFor_of_name pn3) hisR ?_
  intro p e s m args below meth c s₁ Bd hml0 hP hK
  obtain ⟨rfl, hZ, hh⟩ := hP
  have hx := Bd.exec
  have hby := Bd.bytes
  have hml : c.maxLocals = 1 := hml0
  have hown : s.vm.findClass "java/lang/Integer" = some m.cls := findClass_of_methodNamed Bd.named
  have hnm := (name_of_methodNamed Bd.named Bd.method).1
  have X0 : Stand p l e ({ frames := 3, cells := 1, slots := 1, locals := 38 } : Room) s m #[(.int p0)] below meth c s₁ [] 0 0 := Stand.of_body Bd
  have e0 : s₁.heap = h0 := by rw [← hh, Bd.state]; rfl
  have N0 := Fr.nil n0
  have Z0 := own_old_le O0
  show Ends p e below s s₁ (entryFrame m #[(.int p0)] 1) ({ frames := 3, cells := 1, slots := 1, locals := 38 } : Room).cells ({ frames := 3, cells := 1, slots := 1, locals := 38 } : Room).slots (fun v h L => ∃ b : Addr, v = some (.ref b) ∧ Fr n0 L ∧ Keep h0 h [] ∧ Exa Z h b "java/lang/Integer" ∧ Fld Z h b "java/lang/Integer" "value" "I" (.int p0))
  refine Ends.go (fun _ k => castTop (ef3 m p0) k) ?_
  have K0 := Keep.refl h0 []
  show Ends p e below s s₁ (mkF m 0 #[.val (.int p0)] []) _ _ _
  refine Ends.go (fun _ k => XS.iloadN X0.here hx rfl (hb hby d3_0) rfl k) ?_
  show Ends p e below s s₁ (mkF m 1 #[.val (.int p0)] [(.int p0)]) _ _ _
  refine Ends.go (fun _ k => XS.bipush X0.here hx rfl (hb hby d3_1) k) ?_
  show Ends p e below s s₁ (mkF m 3 #[.val (.int p0)] [(.int (-128 : Int32)), (.int p0)]) _ _ _
  by_cases hc3_1 : p0 < (-128 : Int32)
  · refine Ends.go (fun _ k => XS.icmpYes X0.here hx rfl (pc0 := 3) (pc' := 23) rfl (hb hby d3_3) rfl (tlt hc3_1).1 (by decide) (by decide) k) ?_
    show Ends p e below s s₁ (mkF m 23 #[.val (.int p0)] []) _ _ _
    have hc3_1i : p0.toInt < (-128 : Int) := Int32.lt_iff_toInt_lt.mp hc3_1
    obtain ⟨T2, h2, X2, e2, E2, A2, D2, -, st2⟩ := newO X0 hx hZ hown (hw _ (List.mem_of_getElem? (i := 15) rfl)) (hw _ (List.mem_of_getElem? (i := 16) rfl)) (hw _ (List.mem_of_getElem? (i := 13) rfl)) e0 (g := (mkF m 23 #[.val (.int p0)] [])) rfl (hb hby d3_23) (by decide) (by decide)
    obtain ⟨b2, g2⟩ : ∃ z, z = h0.size := ⟨_, rfl⟩
    rw [← g2] at A2 D2 st2
    refine Ends.go st2 ?_
    have g_b2 : n0 ≤ b2 := Nat.le_trans (own_old_le O0) (Nat.le_of_eq g2.symm)
    have sz_b2 : h0.size ≤ b2 := Nat.le_trans K0.1 (Nat.le_of_eq g2.symm)
    have K2 := K0.ext E2
    have O2 := O0.ext E2
    have F_value_b2 : Fld Z h2 b2 "java/lang/Integer" "value" "I" (.int (0 : Int32)) := D2 (Or.inr (hw _ (List.mem_of_getElem? (i := 31) rfl))) (ty := .int) (by decide)
    show Ends p e below s T2 (mkF m 26 #[.val (.int p0)] [(.ref b2)]) _ _ _
    refine Ends.go (fun _ k => XS.dup X2.here hx rfl (hb hby d3_26) rfl rfl k) ?_
    show Ends p e below s T2 (mkF m 27 #[.val (.int p0)] [(.ref b2), (.ref b2)]) _ _ _
    refine Ends.go (fun _ k => XS.iloadN X2.here hx rfl (hb hby d3_27) rfl k) ?_
    show Ends p e below s T2 (mkF m 28 #[.val (.int p0)] [(.int p0), (.ref b2), (.ref b2)]) _ _ _
    obtain ⟨_, _, ⟨T3, L3, k3, n3⟩, -, X3, ⟨Lc3, hQ3, l3, y3, z3⟩, st3⟩ := X2.specialBack hx (y := (⟨"java/lang/Integer", "<init>", "(I)V"⟩ : MethodName)) rfl hown (mvT hZ (hw _ (List.mem_of_getElem? (i := 17) rfl))) (mvT hZ (hw _ (List.mem_of_getElem? (i := 18) rfl))) (mvT hZ (hw _ (List.mem_of_getElem? (i := 20) rfl))) (by decide) (own_backOf (W := 1) (rmI l Z a0 hw [] n0 h2 O2 b2 p0 g_b2 A2 F_value_b2) hZ (hw _ (List.mem_of_getElem? (i := 20) rfl)) (hw _ (List.mem_of_getElem? (i := 13) rfl)) (by decide) (by decide)) (g := (mkF m 28 #[.val (.int p0)] [(.int p0), (.ref b2), (.ref b2)])) rfl (by rw [hml]; rfl) (Steps.refl _) (a := b2) (argsL := [(.int p0)]) (rest := [(.ref b2)]) (lenOf pd3_0 rfl) rfl (by show 2 * 0 + _ ≤ _; exact Nat.le_of_eq rfl) (hb hby d3_28) (fun _ _ => ⟨rfl, e2, (by decide : 1 + 0 ≤ _), (by decide : 1 + 0 ≤ _)⟩)
    dsimp only [Pt.U, Pt.locs, Pt.cells, Pt.slots] at X3 l3 y3 z3 st3 hQ3
    subst l3 y3 z3
    obtain ⟨rfl, N3q, K3c, Eq3, Fd3⟩ := hQ3
    have N3 := Fr.app N0 N3q
    refine Ends.go (fun _ k => st3.trans k) ?_
    obtain ⟨h3, e3⟩ : ∃ z, T3.heap = z := ⟨_, rfl⟩
    rw [e3] at K3c Eq3 Fd3
    have K3 := K2.trans K3c (allS (Or.inr sz_b2) all0)
    have O3 := O2.keep K3c (allS g_b2 all0)
    show Ends p e below s T3 (mkF m 31 #[.val (.int p0)] [(.ref b2)]) _ _ _
    refine Ends.ret X3 hx Bd.notSynchronized (t := (.object "java/lang/Integer")) Bd.returns rfl (Or.inr (Or.inr (Or.inr (Or.inr ⟨rfl, rfl, rfl⟩)))) (hb hby d3_31) (by decide) (by decide) ?_
    rw [e3]
    exact ⟨b2, rfl, N3, K3, Eq3, Fd3⟩
  · refine Ends.go (fun _ k => XS.icmpNo X0.here hx rfl (hb hby d3_3) rfl (flt hc3_1).1 k) ?_
    show Ends p e below s s₁ (mkF m 6 #[.val (.int p0)] []) _ _ _
    have hc3_1i : ¬ (p0.toInt < (-128 : Int)) := fun q => hc3_1 (Int32.lt_iff_toInt_lt.mpr q)
    refine Ends.go (fun _ k => XS.iloadN X0.here hx rfl (hb hby d3_6) rfl k) ?_
    show Ends p e below s s₁ (mkF m 7 #[.val (.int p0)] [(.int p0)]) _ _ _
    obtain ⟨T4, X4, e4, st4⟩ := getS2 X0 hx hZ hown (host := "") (Or.inl (hw _ (List.mem_of_getElem? (i := 37) rfl))) Via.refl e0 (S_high.ext O0.2) (g := (mkF m 7 #[.val (.int p0)] [(.int p0)])) rfl (hb hby d3_7)
    refine Ends.go st4 ?_
    show Ends p e below s T4 (mkF m 10 #[.val (.int p0)] [(.int (127 : Int32)), (.int p0)]) _ _ _
    by_cases hc10_5 : (127 : Int32) < p0
    · refine Ends.go (fun _ k => XS.icmpYes X4.here hx rfl (pc0 := 10) (pc' := 23) rfl (hb hby d3_10) rfl (tlt hc10_5).2.2.1 (by decide) (by decide) k) ?_
      show Ends p e below s T4 (mkF m 23 #[.val (.int p0)] []) _ _ _
      have hc10_5i : 127 < p0.toInt := Int32.lt_iff_toInt_lt.mp hc10_5
      obtain ⟨T6, h6, X6, e6, E6, A6, D6, -, st6⟩ := newO X4 hx hZ hown (hw _ (List.mem_of_getElem? (i := 15) rfl)) (hw _ (List.mem_of_getElem? (i := 16) rfl)) (hw _ (List.mem_of_getElem? (i := 13) rfl)) e4 (g := (mkF m 23 #[.val (.int p0)] [])) rfl (hb hby d3_23) (by decide) (by decide)
      obtain ⟨b6, g6⟩ : ∃ z, z = h0.size := ⟨_, rfl⟩
      rw [← g6] at A6 D6 st6
      refine Ends.go st6 ?_
      have g_b6 : n0 ≤ b6 := Nat.le_trans (own_old_le O0) (Nat.le_of_eq g6.symm)
      have sz_b6 : h0.size ≤ b6 := Nat.le_trans K0.1 (Nat.le_of_eq g6.symm)
      have K6 := K0.ext E6
      have O6 := O0.ext E6
      have F_value_b6 : Fld Z h6 b6 "java/lang/Integer" "value" "I" (.int (0 : Int32)) := D6 (Or.inr (hw _ (List.mem_of_getElem? (i := 31) rfl))) (ty := .int) (by decide)
      show Ends p e below s T6 (mkF m 26 #[.val (.int p0)] [(.ref b6)]) _ _ _
      refine Ends.go (fun _ k => XS.dup X6.here hx rfl (hb hby d3_26) rfl rfl k) ?_
      show Ends p e below s T6 (mkF m 27 #[.val (.int p0)] [(.ref b6), (.ref b6)]) _ _ _
      refine Ends.go (fun _ k => XS.iloadN X6.here hx rfl (hb hby d3_27) rfl k) ?_
      show Ends p e below s T6 (mkF m 28 #[.val (.int p0)] [(.int p0), (.ref b6), (.ref b6)]) _ _ _
      obtain ⟨_, _, ⟨T7, L7, k7, n7⟩, -, X7, ⟨Lc7, hQ7, l7, y7, z7⟩, st7⟩ := X6.specialBack hx (y := (⟨"java/lang/Integer", "<init>", "(I)V"⟩ : MethodName)) rfl hown (mvT hZ (hw _ (List.mem_of_getElem? (i := 17) rfl))) (mvT hZ (hw _ (List.mem_of_getElem? (i := 18) rfl))) (mvT hZ (hw _ (List.mem_of_getElem? (i := 20) rfl))) (by decide) (own_backOf (W := 1) (rmI l Z a0 hw [] n0 h6 O6 b6 p0 g_b6 A6 F_value_b6) hZ (hw _ (List.mem_of_getElem? (i := 20) rfl)) (hw _ (List.mem_of_getElem? (i := 13) rfl)) (by decide) (by decide)) (g := (mkF m 28 #[.val (.int p0)] [(.int p0), (.ref b6), (.ref b6)])) rfl (by rw [hml]; rfl) (Steps.refl _) (a := b6) (argsL := [(.int p0)]) (rest := [(.ref b6)]) (lenOf pd3_0 rfl) rfl (by show 2 * 0 + _ ≤ _; exact Nat.le_of_eq rfl) (hb hby d3_28) (fun _ _ => ⟨rfl, e6, (by decide : 1 + 0 ≤ _), (by decide : 1 + 0 ≤ _)⟩)
      dsimp only [Pt.U, Pt.locs, Pt.cells, Pt.slots] at X7 l7 y7 z7 st7 hQ7
      subst l7 y7 z7
      obtain ⟨rfl, N7q, K7c, Eq7, Fd7⟩ := hQ7
      have N7 := Fr.app N0 N7q
      refine Ends.go (fun _ k => st7.trans k) ?_
      obtain ⟨h7, e7⟩ : ∃ z, T7.heap = z := ⟨_, rfl⟩
      rw [e7] at K7c Eq7 Fd7
      have K7 := K6.trans K7c (allS (Or.inr sz_b6) all0)
      have O7 := O6.keep K7c (allS g_b6 all0)
      show Ends p e below s T7 (mkF m 31 #[.val (.int p0)] [(.ref b6)]) _ _ _
      refine Ends.ret X7 hx Bd.notSynchronized (t := (.object "java/lang/Integer")) Bd.returns rfl (Or.inr (Or.inr (Or.inr (Or.inr ⟨rfl, rfl, rfl⟩)))) (hb hby d3_31) (by decide) (by decide) ?_
      rw [e7]
      exact ⟨b6, rfl, N7, K7, Eq7, Fd7⟩
    · refine Ends.go (fun _ k => XS.icmpNo X4.here hx rfl (hb hby d3_10) rfl (flt hc10_5).2.2.1 k) ?_
      show Ends p e below s T4 (mkF m 13 #[.val (.int p0)] []) _ _ _
      have hc10_5i : ¬ (127 < p0.toInt) := fun q => hc10_5 (Int32.lt_iff_toInt_lt.mpr q)
      obtain ⟨T8, X8, e8, st8⟩ := getS2 X4 hx hZ hown (host := "") (Or.inl (hw _ (List.mem_of_getElem? (i := 39) rfl))) Via.refl e4 (S_cache.ext O0.2) (g := (mkF m 13 #[.val (.int p0)] [])) rfl (hb hby d3_13)
      refine Ends.go st8 ?_
      show Ends p e below s T8 (mkF m 16 #[.val (.int p0)] [(.ref w_cache)]) _ _ _
      refine Ends.go (fun _ k => XS.iloadN X8.here hx rfl (hb hby d3_16) rfl k) ?_
      show Ends p e below s T8 (mkF m 17 #[.val (.int p0)] [(.int p0), (.ref w_cache)]) _ _ _
      refine Ends.go (fun _ k => XS.sipush X8.here hx rfl (hb hby d3_17) k) ?_
      show Ends p e below s T8 (mkF m 20 #[.val (.int p0)] [(.int (128 : Int32)), (.int p0), (.ref w_cache)]) _ _ _
      refine Ends.go (fun _ k => XS.iadd X8.here hx rfl (hb hby d3_20) rfl k) ?_
      show Ends p e below s T8 (mkF m 21 #[.val (.int p0)] [(.int (p0 + (128 : Int32))), (.ref w_cache)]) _ _ _
      have hj := own_idx hc3_1 hc10_5
      have hin := inb_of B.2.1 hj
      obtain ⟨bx, hat, Eb, Fb⟩ := B.2.2.2 _ hin
      have Ar := B.1.ext O0.2
      refine Ends.go (X8.aaload hx (j := (p0 + (128 : Int32))) (v := .ref bx) (by rw [e8]; exact Ar.1) (State.isArrayOf_alike hZ.alike Ar.2.1) rfl Ar.2.2 hin hat (g := (mkF m 21 #[.val (.int p0)] [(.int (p0 + (128 : Int32))), (.ref w_cache)])) rfl rfl (hb hby d3_21)) ?_
      show Ends p e below s T8 (mkF m 22 #[.val (.int p0)] [(.ref bx)]) _ _ _
      refine Ends.ret X8 hx Bd.notSynchronized (t := (.object "java/lang/Integer")) Bd.returns rfl (Or.inr (Or.inr (Or.inr (Or.inr ⟨rfl, rfl, rfl⟩)))) (hb hby d3_22) (by decide) (by decide) ?_
      rw [e8]
      refine ⟨bx, rfl, N0, K0, Eb.ext O0.2, ?_⟩
      have Fb' : Fld Z h0 bx "java/lang/Integer" "value" "I" (.int (p0 + (128 : Int32) - (128 : Int32))) := Fb.ext O0.2
      rwa [own_cancel] at Fb'
theorem d7_0 : decode jdk_33_method_27_code 0 = .ok (.aload_n 0, 1) := by decide +kernel
theorem d7_1 : decode jdk_33_method_27_code 1 = .ok (.getfield 205, 3) := by decide +kernel
theorem d7_4 : decode jdk_33_method_27_code 4 = .ok (.ireturn, 1) := by decide +kernel
theorem pn7 : plainName "java/lang/Integer" = true := by first | (simp [plainName, overriddenIn]; done) | decide +kernel
theorem ef7 (m : MethodId) (o0 : Addr) : entryFrame m #[(.ref o0)] 1 = mkF m 0 #[.val (.ref o0)] [] := by first | (simp [entryFrame, mkF, argsToLocals, Value.category]; done) | rfl
set_option maxRecDepth 65536 in
set_option maxHeartbeats 40000000 in
theorem rmQ (l : Launch) (Z : State) (a0 : Array Value) (hw : ∀ d ∈ tables_1, d.before a0 Z = true) (ws : List Jvm.Cond) (n0 : Nat) (h0 : Heap) (O0 : Old Z n0 h0) (o0 : Addr) (x : Int32) (F0 : Fld Z h0 o0 "java/lang/Integer" "value" "I" (.int x)) :
    Meets1 l (⟨"java/lang/Integer", "intValue", "()I"⟩ : MethodName) jdk_33_method_27_code 1 (some .int) ws ({ frames := 0, cells := 0, slots := 0, locals := 0 } : Room) #[(.ref o0)] Z h0 (fun v h L => v = some (.int x) ∧ Fr n0 L ∧ h = h0) := by
  refine MetFree.of_bodySF (plainFor_of_name pn7) hisR ?_
  intro p e s m args below meth c s₁ Bd hml0 hP hK
  obtain ⟨rfl, hZ, hh⟩ := hP
  have hx := Bd.exec
  have hby := Bd.bytes
  have hml : c.maxLocals = 1 := hml0
  have hown : s.vm.findClass "java/lang/Integer" = some m.cls := findClass_of_methodNamed Bd.named
  have hnm := (name_of_methodNamed Bd.named Bd.method).1
  have X0 : Stand p l e ({ frames := 0, cells := 0, slots := 0, locals := 0 } : Room) s m #[(.ref o0)] below meth c s₁ [] 0 0 := Stand.of_body Bd
  have e0 : s₁.heap = h0 := by rw [← hh, Bd.state]; rfl
  have N0 := Fr.nil n0
  have Z0 := own_old_le O0
  show Ends p e below s s₁ (entryFrame m #[(.ref o0)] 1) ({ frames := 0, cells := 0, slots := 0, locals := 0 } : Room).cells ({ frames := 0, cells := 0, slots := 0, locals := 0 } : Room).slots (fun v h L => v = some (.int x) ∧ Fr n0 L ∧ h = h0)
  refine Ends.go (fun _ k => castTop (ef7 m o0) k) ?_
  have K0 := Keep.refl h0 []
  show Ends p e below s s₁ (mkF m 0 #[.val (.ref o0)] []) _ _ _
  refine Ends.go (fun _ k => XS.aloadN X0.here hx rfl (hb hby d7_0) rfl rfl k) ?_
  show Ends p e below s s₁ (mkF m 1 #[.val (.ref o0)] [(.ref o0)]) _ _ _
  obtain ⟨T1, X1, e1, st1⟩ := getF X0 hx hZ hown (host := "") (Or.inl (hw _ (List.mem_of_getElem? (i := 30) rfl))) Via.refl e0 F0 (g := (mkF m 1 #[.val (.ref o0)] [(.ref o0)])) rfl rfl (hb hby d7_1)
  refine Ends.go st1 ?_
  show Ends p e below s T1 (mkF m 4 #[.val (.ref o0)] [(.int x)]) _ _ _
  refine Ends.ret X1 hx Bd.notSynchronized (t := .int) Bd.returns rfl (Or.inl ⟨rfl, by simp, _, rfl⟩) (hb hby d7_4) (by decide) (by decide) ?_
  exact ⟨rfl, N0, e1⟩
theorem dz1_0 : decode prog_5_method_4_code 0 = .ok (.getstatic 13, 3) := by decide +kernel
theorem dz1_3 : decode prog_5_method_4_code 3 = .ok (.astore_n 1, 1) := by decide +kernel
theorem dz1_4 : decode prog_5_method_4_code 4 = .ok (.aload_n 0, 1) := by decide +kernel
theorem dz1_5 : decode prog_5_method_4_code 5 = .ok (.ifnull 177, 3) := by decide +kernel
theorem dz1_182 : decode prog_5_method_4_code 182 = .ok (.aload_n 1, 1) := by decide +kernel
theorem dz1_183 : decode prog_5_method_4_code 183 = .ok (.areturn, 1) := by decide +kernel
theorem pnz1 : plainName "com/example/wakeline/wakeline/event/DeclaredType" = true := by first | (simp [plainName, overriddenIn]; done) | decide +kernel
theorem efz1 (m : MethodId)  : entryFrame m #[.null] 2 = mkF m 0 #[.val .null, .unset] [] := by first | (simp [entryFrame, mkF, argsToLocals, Value.category]; done) | rfl
set_option maxRecDepth 65536 in
set_option maxHeartbeats 40000000 in
theorem rmZ (l : Launch) (Z : State) (a0 : Array Value) (hw : ∀ d ∈ tables_1, d.before a0 Z = true) (ws : List Jvm.Cond) (n0 : Nat) (h0 : Heap) (O0 : Old Z n0 h0)  (w_OTHER : Addr) (w_NUMERIC : Addr) (w_CHARACTER : Addr) (w_INTEGER : Addr) (FF : Facts Z w_OTHER w_NUMERIC w_CHARACTER w_INTEGER) :
    Meets1 l (⟨"com/example/wakeline/wakeline/event/DeclaredType", "ofSqlType", "(Ljava/lang/Integer;)Lcom/example/wakeline/wakeline/event/DeclaredType;"⟩ : MethodName) prog_5_method_4_code 2 (some (.object "com/example/wakeline/wakeline/event/DeclaredType")) ws ({ frames := 1, cells := 0, slots := 0, locals := 12 } : Room) #[.null] Z h0 (fun v h L => v = some (.ref w_OTHER) ∧ Fr n0 L ∧ h = h0) := by
  refine MetFree.of_bodySF (plainFor_of_name pnz1) hisR ?_
  intro p e s m args below meth c s₁ Bd hml0 hP hK
  obtain ⟨rfl, hZ, hh⟩ := hP
  have hx := Bd.exec
  have hby := Bd.bytes
  have hml : c.maxLocals = 2 := hml0
  have hown : s.vm.findClass "com/example/wakeline/wakeline/event/DeclaredType" = some m.cls := findClass_of_methodNamed Bd.named
  have hnm := (name_of_methodNamed Bd.named Bd.method).1
  have X0 : Stand p l e ({ frames := 1, cells := 0, slots := 0, locals := 12 } : Room) s m #[.null] below meth c s₁ [] 0 0 := Stand.of_body Bd
  have e0 : s₁.heap = h0 := by rw [← hh, Bd.state]; rfl
  have N0 := Fr.nil n0
  have Z0 := own_old_le O0
  show Ends p e below s s₁ (entryFrame m #[.null] 2) ({ frames := 1, cells := 0, slots := 0, locals := 12 } : Room).cells ({ frames := 1, cells := 0, slots := 0, locals := 12 } : Room).slots (fun v h L => v = some (.ref w_OTHER) ∧ Fr n0 L ∧ h = h0)
  refine Ends.go (fun _ k => castTop (efz1 m) k) ?_
  have K0 := Keep.refl h0 []
  have FF0 := FF
  obtain ⟨S_OTHER, E_OTHER, S_NUMERIC, E_NUMERIC, S_CHARACTER, E_CHARACTER, S_INTEGER, E_INTEGER⟩ := FF
  show Ends p e below s s₁ (mkF m 0 #[.val .null, .unset] []) _ _ _
  obtain ⟨T1, X1, e1, st1⟩ := getS2 X0 hx hZ hown (host := "") (Or.inl (hw _ (List.mem_of_getElem? (i := 4) rfl))) Via.refl e0 (S_OTHER.ext O0.2) (g := (mkF m 0 #[.val .null, .unset] [])) rfl (hb hby dz1_0)
  refine Ends.go st1 ?_
  show Ends p e below s T1 (mkF m 3 #[.val .null, .unset] [(.ref w_OTHER)]) _ _ _
  refine Ends.go (fun _ k => XS.astoreN X1.here hx rfl (hb hby dz1_3) rfl rfl (l' := #[.val .null, .val (.ref w_OTHER)]) rfl k) ?_
  show Ends p e below s T1 (mkF m 4 #[.val .null, .val (.ref w_OTHER)] []) _ _ _
  refine Ends.go (fun _ k => XS.aloadN X1.here hx rfl (hb hby dz1_4) rfl rfl k) ?_
  show Ends p e below s T1 (mkF m 5 #[.val .null, .val (.ref w_OTHER)] [.null]) _ _ _
  refine Ends.go (fun _ k => XS.ifnullYes X1.here hx rfl (pc0 := 5) (pc' := 182) rfl (hb hby dz1_5) rfl (by decide) (by decide) k) ?_
  show Ends p e below s T1 (mkF m 182 #[.val .null, .val (.ref w_OTHER)] []) _ _ _
  refine Ends.go (fun _ k => XS.aloadN X1.here hx rfl (hb hby dz1_182) rfl rfl k) ?_
  show Ends p e below s T1 (mkF m 183 #[.val .null, .val (.ref w_OTHER)] [(.ref w_OTHER)]) _ _ _
  refine Ends.ret X1 hx Bd.notSynchronized (t := (.object "com/example/wakeline/wakeline/event/DeclaredType")) Bd.returns rfl (Or.inr (Or.inr (Or.inr (Or.inr ⟨rfl, rfl, rfl⟩)))) (hb hby dz1_183) (by decide) (by decide) ?_
  exact ⟨rfl, N0, e1⟩
theorem d1_0 : decode prog_5_method_4_code 0 = .ok (.getstatic 13, 3) := by decide +kernel
theorem d1_3 : decode prog_5_method_4_code 3 = .ok (.astore_n 1, 1) := by decide +kernel
theorem d1_4 : decode prog_5_method_4_code 4 = .ok (.aload_n 0, 1) := by decide +kernel
theorem d1_5 : decode prog_5_method_4_code 5 = .ok (.ifnull 177, 3) := by decide +kernel
theorem d1_8 : decode prog_5_method_4_code 8 = .ok (.aload_n 0, 1) := by decide +kernel
theorem d1_9 : decode prog_5_method_4_code 9 = .ok (.invokevirtual 39, 3) := by decide +kernel
theorem d1_12 : decode prog_5_method_4_code 12 = .ok (.lookupswitch 166 #[(-16, 160), (-15, 160), (-9, 160), (-6, 148), (-5, 148), (-1, 160), (1, 160), (2, 154), (3, 154), (4, 148), (5, 148), (6, 154), (7, 154), (8, 154), (12, 160), (2005, 160), (2011, 160)], 148) := by decide +kernel
theorem d1_160 : decode prog_5_method_4_code 160 = .ok (.getstatic 3, 3) := by decide +kernel
theorem d1_163 : decode prog_5_method_4_code 163 = .ok (.goto 18, 3) := by decide +kernel
theorem d1_166 : decode prog_5_method_4_code 166 = .ok (.getstatic 7, 3) := by decide +kernel
theorem d1_169 : decode prog_5_method_4_code 169 = .ok (.goto 12, 3) := by decide +kernel
theorem d1_172 : decode prog_5_method_4_code 172 = .ok (.getstatic 10, 3) := by decide +kernel
theorem d1_175 : decode prog_5_method_4_code 175 = .ok (.goto 6, 3) := by decide +kernel
theorem d1_178 : decode prog_5_method_4_code 178 = .ok (.getstatic 13, 3) := by decide +kernel
theorem d1_181 : decode prog_5_method_4_code 181 = .ok (.astore_n 1, 1) := by decide +kernel
theorem d1_182 : decode prog_5_method_4_code 182 = .ok (.aload_n 1, 1) := by decide +kernel
theorem d1_183 : decode prog_5_method_4_code 183 = .ok (.areturn, 1) := by decide +kernel
theorem pn1 : plainName "com/example/wakeline/wakeline/event/DeclaredType" = true := by first | (simp [plainName, overriddenIn]; done) | decide +kernel
theorem pd1_0 : parseMethodDescriptor "()I" = some ⟨[], some .int⟩ := by decide +kernel
theorem ef1 (m : MethodId) (o0 : Addr) : entryFrame m #[(.ref o0)] 2 = mkF m 0 #[.val (.ref o0), .unset] [] := by first | (simp [entryFrame, mkF, argsToLocals, Value.category]; done) | rfl
set_option maxRecDepth 65536 in
set_option maxHeartbeats 40000000 in
theorem rmS (l : Launch) (Z : State) (a0 : Array Value) (hw : ∀ d ∈ tables_1, d.before a0 Z = true) (ws : List Jvm.Cond) (n0 : Nat) (h0 : Heap) (O0 : Old Z n0 h0) (o0 : Addr) (w_OTHER : Addr) (w_NUMERIC : Addr) (w_CHARACTER : Addr) (w_INTEGER : Addr) (FF : Facts Z w_OTHER w_NUMERIC w_CHARACTER w_INTEGER) (x : Int32) (Ex0 : Exa Z h0 o0 "java/lang/Integer") (F0 : Fld Z h0 o0 "java/lang/Integer" "value" "I" (.int x)) (r : Addr) (hr : r = own_type x w_INTEGER w_NUMERIC w_CHARACTER w_OTHER) :
    Meets1 l (⟨"com/example/wakeline/wakeline/event/DeclaredType", "ofSqlType", "(Ljava/lang/Integer;)Lcom/example/wakeline/wakeline/event/DeclaredType;"⟩ : MethodName) prog_5_method_4_code 2 (some (.object "com/example/wakeline/wakeline/event/DeclaredType")) ws ({ frames := 1, cells := 0, slots := 0, locals := 12 } : Room) #[(.ref o0)] Z h0 (fun v h L => v = some (.ref r) ∧ Fr n0 L ∧ h = h0) := by
  refine MetFree.of_bodySF (plainFor_of_name pn1) hisR ?_
  intro p e s m args below meth c s₁ Bd hml0 hP hK
  obtain ⟨rfl, hZ, hh⟩ := hP
  have hx := Bd.exec
  have hby := Bd.bytes
  have hml : c.maxLocals = 2 := hml0
  have hown : s.vm.findClass "com/example/wakeline/wakeline/event/DeclaredType" = some m.cls := findClass_of_methodNamed Bd.named
  have hnm := (name_of_methodNamed Bd.named Bd.method).1
  have X0 : Stand p l e ({ frames := 1, cells := 0, slots := 0, locals := 12 } : Room) s m #[(.ref o0)] below meth c s₁ [] 0 0 := Stand.of_body Bd
  have e0 : s₁.heap = h0 := by rw [← hh, Bd.state]; rfl
  have N0 := Fr.nil n0
  have Z0 := own_old_le O0
  show Ends p e below s s₁ (entryFrame m #[(.ref o0)] 2) ({ frames := 1, cells := 0, slots := 0, locals := 12 } : Room).cells ({ frames := 1, cells := 0, slots := 0, locals := 12 } : Room).slots (fun v h L => v = some (.ref r) ∧ Fr n0 L ∧ h = h0)
  refine Ends.go (fun _ k => castTop (ef1 m o0) k) ?_
  have K0 := Keep.refl h0 []
  have FF0 := FF
  obtain ⟨S_OTHER, E_OTHER, S_NUMERIC, E_NUMERIC, S_CHARACTER, E_CHARACTER, S_INTEGER, E_INTEGER⟩ := FF
  show Ends p e below s s₁ (mkF m 0 #[.val (.ref o0), .unset] []) _ _ _
  obtain ⟨T1, X1, e1, st1⟩ := getS2 X0 hx hZ hown (host := "") (Or.inl (hw _ (List.mem_of_getElem? (i := 4) rfl))) Via.refl e0 (S_OTHER.ext O0.2) (g := (mkF m 0 #[.val (.ref o0), .unset] [])) rfl (hb hby d1_0)
  refine Ends.go st1 ?_
  show Ends p e below s T1 (mkF m 3 #[.val (.ref o0), .unset] [(.ref w_OTHER)]) _ _ _
  refine Ends.go (fun _ k => XS.astoreN X1.here hx rfl (hb hby d1_3) rfl rfl (l' := #[.val (.ref o0), .val (.ref w_OTHER)]) rfl k) ?_
  show Ends p e below s T1 (mkF m 4 #[.val (.ref o0), .val (.ref w_OTHER)] []) _ _ _
  refine Ends.go (fun _ k => XS.aloadN X1.here hx rfl (hb hby d1_4) rfl rfl k) ?_
  show Ends p e below s T1 (mkF m 5 #[.val (.ref o0), .val (.ref w_OTHER)] [(.ref o0)]) _ _ _
  refine Ends.go (fun _ k => XS.ifnullNo X1.here hx rfl (hb hby d1_5) rfl k) ?_
  show Ends p e below s T1 (mkF m 8 #[.val (.ref o0), .val (.ref w_OTHER)] []) _ _ _
  refine Ends.go (fun _ k => XS.aloadN X1.here hx rfl (hb hby d1_8) rfl rfl k) ?_
  show Ends p e below s T1 (mkF m 9 #[.val (.ref o0), .val (.ref w_OTHER)] [(.ref o0)]) _ _ _
  obtain ⟨cq2, kq2, q2a, q2b, q2c⟩ := isOf hZ e1 Ex0
  obtain ⟨_, _, ⟨T2, L2, k2, n2⟩, -, X2, ⟨Lc2, hQ2, l2, y2, z2⟩, st2⟩ := X1.virtualBack hx (y := (⟨"java/lang/Integer", "intValue", "()I"⟩ : MethodName)) (z := (⟨"java/lang/Integer", "intValue", "()I"⟩ : MethodName)) hown (mvT hZ (hw _ (List.mem_of_getElem? (i := 32) rfl))) (mvT hZ (hw _ (List.mem_of_getElem? (i := 33) rfl))) (notFace_of_selects (args := #[]) (mvT hZ (hw _ (List.mem_of_getElem? (i := 35) rfl)))) (mvT hZ (hw _ (List.mem_of_getElem? (i := 35) rfl))) (mvT hZ (hw _ (List.mem_of_getElem? (i := 34) rfl))) (by decide) (own_backOf (W := 0) (rmQ l Z a0 hw [] n0 h0 O0 o0 x F0) hZ (hw _ (List.mem_of_getElem? (i := 36) rfl)) (hw _ (List.mem_of_getElem? (i := 13) rfl)) (by decide) (by decide)) q2a q2c (g := (mkF m 9 #[.val (.ref o0), .val (.ref w_OTHER)] [(.ref o0)])) rfl (by rw [hml]; rfl) (Steps.refl _) (argsL := []) (rest := []) (lenOf pd1_0 rfl) rfl (by show 2 * 0 + _ ≤ _; exact Nat.le_of_eq rfl) (hb hby d1_9) (fun _ _ => ⟨rfl, e1, (by decide : 0 + 0 ≤ _), (by decide : 0 + 0 ≤ _)⟩)
  dsimp only [Pt.U, Pt.locs, Pt.cells, Pt.slots] at X2 l2 y2 z2 st2 hQ2
  subst l2 y2 z2
  obtain ⟨rfl, N2q, e2q⟩ := hQ2
  have N2 := Fr.app N0 N2q
  refine Ends.go (fun _ k => st2.trans k) ?_
  show Ends p e below s T2 (mkF m 12 #[.val (.ref o0), .val (.ref w_OTHER)] [(.int x)]) _ _ _
  by_cases hs0 : x.toInt = -16
  · refine Ends.go (X2.lookupswitchHit hx (g := (mkF m 12 #[.val (.ref o0), .val (.ref w_OTHER)] [(.int x)])) rfl (k := x) (rest := []) rfl (hb hby d1_12) (by decide) (a := -16) (off := 160) (by rw [hs0]; decide) (by show (0 : Int) ≤ ((12 : Nat) : Int) + 160; decide)) ?_
    show Ends p e below s T2 (mkF m 172 #[.val (.ref o0), .val (.ref w_OTHER)] []) _ _ _
    obtain ⟨T3, X3, e3, st3⟩ := getS2 X2 hx hZ hown (host := "") (Or.inl (hw _ (List.mem_of_getElem? (i := 43) rfl))) Via.refl e2q (S_CHARACTER.ext O0.2) (g := (mkF m 172 #[.val (.ref o0), .val (.ref w_OTHER)] [])) rfl (hb hby d1_172)
    refine Ends.go st3 ?_
    show Ends p e below s T3 (mkF m 175 #[.val (.ref o0), .val (.ref w_OTHER)] [(.ref w_CHARACTER)]) _ _ _
    refine Ends.go (fun _ k => XS.goto X3.here hx rfl (pc0 := 175) (pc' := 181) rfl (hb hby d1_175) (by decide) (by decide) k) ?_
    show Ends p e below s T3 (mkF m 181 #[.val (.ref o0), .val (.ref w_OTHER)] [(.ref w_CHARACTER)]) _ _ _
    refine Ends.go (fun _ k => XS.astoreN X3.here hx rfl (hb hby d1_181) rfl rfl (l' := #[.val (.ref o0), .val (.ref w_CHARACTER)]) rfl k) ?_
    show Ends p e below s T3 (mkF m 182 #[.val (.ref o0), .val (.ref w_CHARACTER)] []) _ _ _
    refine Ends.go (fun _ k => XS.aloadN X3.here hx rfl (hb hby d1_182) rfl rfl k) ?_
    show Ends p e below s T3 (mkF m 183 #[.val (.ref o0), .val (.ref w_CHARACTER)] [(.ref w_CHARACTER)]) _ _ _
    refine Ends.ret X3 hx Bd.notSynchronized (t := (.object "com/example/wakeline/wakeline/event/DeclaredType")) Bd.returns rfl (Or.inr (Or.inr (Or.inr (Or.inr ⟨rfl, rfl, rfl⟩)))) (hb hby d1_183) (by decide) (by decide) ?_
    refine ⟨?_, N2, e3⟩
    show (some (.ref w_CHARACTER) : Option Value) = _
    rw [hr]
    exact congrArg (fun z => some (Value.ref z)) (Eq.symm (own_tC (by omega)))
  · by_cases hs1 : x.toInt = -15
    · refine Ends.go (X2.lookupswitchHit hx (g := (mkF m 12 #[.val (.ref o0), .val (.ref w_OTHER)] [(.int x)])) rfl (k := x) (rest := []) rfl (hb hby d1_12) (by decide) (a := -15) (off := 160) (by rw [hs1]; decide) (by show (0 : Int) ≤ ((12 : Nat) : Int) + 160; decide)) ?_
      show Ends p e below s T2 (mkF m 172 #[.val (.ref o0), .val (.ref w_OTHER)] []) _ _ _
      obtain ⟨T4, X4, e4, st4⟩ := getS2 X2 hx hZ hown (host := "") (Or.inl (hw _ (List.mem_of_getElem? (i := 43) rfl))) Via.refl e2q (S_CHARACTER.ext O0.2) (g := (mkF m 172 #[.val (.ref o0), .val (.ref w_OTHER)] [])) rfl (hb hby d1_172)
      refine Ends.go st4 ?_
      show Ends p e below s T4 (mkF m 175 #[.val (.ref o0), .val (.ref w_OTHER)] [(.ref w_CHARACTER)]) _ _ _
      refine Ends.go (fun _ k => XS.goto X4.here hx rfl (pc0 := 175) (pc' := 181) rfl (hb hby d1_175) (by decide) (by decide) k) ?_
      show Ends p e below s T4 (mkF m 181 #[.val (.ref o0), .val (.ref w_OTHER)] [(.ref w_CHARACTER)]) _ _ _
      refine Ends.go (fun _ k => XS.astoreN X4.here hx rfl (hb hby d1_181) rfl rfl (l' := #[.val (.ref o0), .val (.ref w_CHARACTER)]) rfl k) ?_
      show Ends p e below s T4 (mkF m 182 #[.val (.ref o0), .val (.ref w_CHARACTER)] []) _ _ _
      refine Ends.go (fun _ k => XS.aloadN X4.here hx rfl (hb hby d1_182) rfl rfl k) ?_
      show Ends p e below s T4 (mkF m 183 #[.val (.ref o0), .val (.ref w_CHARACTER)] [(.ref w_CHARACTER)]) _ _ _
      refine Ends.ret X4 hx Bd.notSynchronized (t := (.object "com/example/wakeline/wakeline/event/DeclaredType")) Bd.returns rfl (Or.inr (Or.inr (Or.inr (Or.inr ⟨rfl, rfl, rfl⟩)))) (hb hby d1_183) (by decide) (by decide) ?_
      refine ⟨?_, N2, e4⟩
      show (some (.ref w_CHARACTER) : Option Value) = _
      rw [hr]
      exact congrArg (fun z => some (Value.ref z)) (Eq.symm (own_tC (by omega)))
    · by_cases hs2 : x.toInt = -9
      · refine Ends.go (X2.lookupswitchHit hx (g := (mkF m 12 #[.val (.ref o0), .val (.ref w_OTHER)] [(.int x)])) rfl (k := x) (rest := []) rfl (hb hby d1_12) (by decide) (a := -9) (off := 160) (by rw [hs2]; decide) (by show (0 : Int) ≤ ((12 : Nat) : Int) + 160; decide)) ?_
        show Ends p e below s T2 (mkF m 172 #[.val (.ref o0), .val (.ref w_OTHER)] []) _ _ _
        obtain ⟨T5, X5, e5, st5⟩ := getS2 X2 hx hZ hown (host := "") (Or.inl (hw _ (List.mem_of_getElem? (i := 43) rfl))) Via.refl e2q (S_CHARACTER.ext O0.2) (g := (mkF m 172 #[.val (.ref o0), .val (.ref w_OTHER)] [])) rfl (hb hby d1_172)
        refine Ends.go st5 ?_
        show Ends p e below s T5 (mkF m 175 #[.val (.ref o0), .val (.ref w_OTHER)] [(.ref w_CHARACTER)]) _ _ _
        refine Ends.go (fun _ k => XS.goto X5.here hx rfl (pc0 := 175) (pc' := 181) rfl (hb hby d1_175) (by decide) (by decide) k) ?_
        show Ends p e below s T5 (mkF m 181 #[.val (.ref o0), .val (.ref w_OTHER)] [(.ref w_CHARACTER)]) _ _ _
        refine Ends.go (fun _ k => XS.astoreN X5.here hx rfl (hb hby d1_181) rfl rfl (l' := #[.val (.ref o0), .val (.ref w_CHARACTER)]) rfl k) ?_
        show Ends p e below s T5 (mkF m 182 #[.val (.ref o0), .val (.ref w_CHARACTER)] []) _ _ _
        refine Ends.go (fun _ k => XS.aloadN X5.here hx rfl (hb hby d1_182) rfl rfl k) ?_
        show Ends p e below s T5 (mkF m 183 #[.val (.ref o0), .val (.ref w_CHARACTER)] [(.ref w_CHARACTER)]) _ _ _
        refine Ends.ret X5 hx Bd.notSynchronized (t := (.object "com/example/wakeline/wakeline/event/DeclaredType")) Bd.returns rfl (Or.inr (Or.inr (Or.inr (Or.inr ⟨rfl, rfl, rfl⟩)))) (hb hby d1_183) (by decide) (by decide) ?_
        refine ⟨?_, N2, e5⟩
        show (some (.ref w_CHARACTER) : Option Value) = _
        rw [hr]
        exact congrArg (fun z => some (Value.ref z)) (Eq.symm (own_tC (by omega)))
      · by_cases hs3 : x.toInt = -6
        · refine Ends.go (X2.lookupswitchHit hx (g := (mkF m 12 #[.val (.ref o0), .val (.ref w_OTHER)] [(.int x)])) rfl (k := x) (rest := []) rfl (hb hby d1_12) (by decide) (a := -6) (off := 148) (by rw [hs3]; decide) (by show (0 : Int) ≤ ((12 : Nat) : Int) + 148; decide)) ?_
          show Ends p e below s T2 (mkF m 160 #[.val (.ref o0), .val (.ref w_OTHER)] []) _ _ _
          obtain ⟨T6, X6, e6, st6⟩ := getS2 X2 hx hZ hown (host := "") (Or.inl (hw _ (List.mem_of_getElem? (i := 46) rfl))) Via.refl e2q (S_INTEGER.ext O0.2) (g := (mkF m 160 #[.val (.ref o0), .val (.ref w_OTHER)] [])) rfl (hb hby d1_160)
          refine Ends.go st6 ?_
          show Ends p e below s T6 (mkF m 163 #[.val (.ref o0), .val (.ref w_OTHER)] [(.ref w_INTEGER)]) _ _ _
          refine Ends.go (fun _ k => XS.goto X6.here hx rfl (pc0 := 163) (pc' := 181) rfl (hb hby d1_163) (by decide) (by decide) k) ?_
          show Ends p e below s T6 (mkF m 181 #[.val (.ref o0), .val (.ref w_OTHER)] [(.ref w_INTEGER)]) _ _ _
          refine Ends.go (fun _ k => XS.astoreN X6.here hx rfl (hb hby d1_181) rfl rfl (l' := #[.val (.ref o0), .val (.ref w_INTEGER)]) rfl k) ?_
          show Ends p e below s T6 (mkF m 182 #[.val (.ref o0), .val (.ref w_INTEGER)] []) _ _ _
          refine Ends.go (fun _ k => XS.aloadN X6.here hx rfl (hb hby d1_182) rfl rfl k) ?_
          show Ends p e below s T6 (mkF m 183 #[.val (.ref o0), .val (.ref w_INTEGER)] [(.ref w_INTEGER)]) _ _ _
          refine Ends.ret X6 hx Bd.notSynchronized (t := (.object "com/example/wakeline/wakeline/event/DeclaredType")) Bd.returns rfl (Or.inr (Or.inr (Or.inr (Or.inr ⟨rfl, rfl, rfl⟩)))) (hb hby d1_183) (by decide) (by decide) ?_
          refine ⟨?_, N2, e6⟩
          show (some (.ref w_INTEGER) : Option Value) = _
          rw [hr]
          exact congrArg (fun z => some (Value.ref z)) (Eq.symm (own_tI (by omega)))
        · by_cases hs4 : x.toInt = -5
          · refine Ends.go (X2.lookupswitchHit hx (g := (mkF m 12 #[.val (.ref o0), .val (.ref w_OTHER)] [(.int x)])) rfl (k := x) (rest := []) rfl (hb hby d1_12) (by decide) (a := -5) (off := 148) (by rw [hs4]; decide) (by show (0 : Int) ≤ ((12 : Nat) : Int) + 148; decide)) ?_
            show Ends p e below s T2 (mkF m 160 #[.val (.ref o0), .val (.ref w_OTHER)] []) _ _ _
            obtain ⟨T7, X7, e7, st7⟩ := getS2 X2 hx hZ hown (host := "") (Or.inl (hw _ (List.mem_of_getElem? (i := 46) rfl))) Via.refl e2q (S_INTEGER.ext O0.2) (g := (mkF m 160 #[.val (.ref o0), .val (.ref w_OTHER)] [])) rfl (hb hby d1_160)
            refine Ends.go st7 ?_
            show Ends p e below s T7 (mkF m 163 #[.val (.ref o0), .val (.ref w_OTHER)] [(.ref w_INTEGER)]) _ _ _
            refine Ends.go (fun _ k => XS.goto X7.here hx rfl (pc0 := 163) (pc' := 181) rfl (hb hby d1_163) (by decide) (by decide) k) ?_
            show Ends p e below s T7 (mkF m 181 #[.val (.ref o0), .val (.ref w_OTHER)] [(.ref w_INTEGER)]) _ _ _
            refine Ends.go (fun _ k => XS.astoreN X7.here hx rfl (hb hby d1_181) rfl rfl (l' := #[.val (.ref o0), .val (.ref w_INTEGER)]) rfl k) ?_
            show Ends p e below s T7 (mkF m 182 #[.val (.ref o0), .val (.ref w_INTEGER)] []) _ _ _
            refine Ends.go (fun _ k => XS.aloadN X7.here hx rfl (hb hby d1_182) rfl rfl k) ?_
            show Ends p e below s T7 (mkF m 183 #[.val (.ref o0), .val (.ref w_INTEGER)] [(.ref w_INTEGER)]) _ _ _
            refine Ends.ret X7 hx Bd.notSynchronized (t := (.object "com/example/wakeline/wakeline/event/DeclaredType")) Bd.returns rfl (Or.inr (Or.inr (Or.inr (Or.inr ⟨rfl, rfl, rfl⟩)))) (hb hby d1_183) (by decide) (by decide) ?_
            refine ⟨?_, N2, e7⟩
            show (some (.ref w_INTEGER) : Option Value) = _
            rw [hr]
            exact congrArg (fun z => some (Value.ref z)) (Eq.symm (own_tI (by omega)))
          · by_cases hs5 : x.toInt = -1
            · refine Ends.go (X2.lookupswitchHit hx (g := (mkF m 12 #[.val (.ref o0), .val (.ref w_OTHER)] [(.int x)])) rfl (k := x) (rest := []) rfl (hb hby d1_12) (by decide) (a := -1) (off := 160) (by rw [hs5]; decide) (by show (0 : Int) ≤ ((12 : Nat) : Int) + 160; decide)) ?_
              show Ends p e below s T2 (mkF m 172 #[.val (.ref o0), .val (.ref w_OTHER)] []) _ _ _
              obtain ⟨T8, X8, e8, st8⟩ := getS2 X2 hx hZ hown (host := "") (Or.inl (hw _ (List.mem_of_getElem? (i := 43) rfl))) Via.refl e2q (S_CHARACTER.ext O0.2) (g := (mkF m 172 #[.val (.ref o0), .val (.ref w_OTHER)] [])) rfl (hb hby d1_172)
              refine Ends.go st8 ?_
              show Ends p e below s T8 (mkF m 175 #[.val (.ref o0), .val (.ref w_OTHER)] [(.ref w_CHARACTER)]) _ _ _
              refine Ends.go (fun _ k => XS.goto X8.here hx rfl (pc0 := 175) (pc' := 181) rfl (hb hby d1_175) (by decide) (by decide) k) ?_
              show Ends p e below s T8 (mkF m 181 #[.val (.ref o0), .val (.ref w_OTHER)] [(.ref w_CHARACTER)]) _ _ _
              refine Ends.go (fun _ k => XS.astoreN X8.here hx rfl (hb hby d1_181) rfl rfl (l' := #[.val (.ref o0), .val (.ref w_CHARACTER)]) rfl k) ?_
              show Ends p e below s T8 (mkF m 182 #[.val (.ref o0), .val (.ref w_CHARACTER)] []) _ _ _
              refine Ends.go (fun _ k => XS.aloadN X8.here hx rfl (hb hby d1_182) rfl rfl k) ?_
              show Ends p e below s T8 (mkF m 183 #[.val (.ref o0), .val (.ref w_CHARACTER)] [(.ref w_CHARACTER)]) _ _ _
              refine Ends.ret X8 hx Bd.notSynchronized (t := (.object "com/example/wakeline/wakeline/event/DeclaredType")) Bd.returns rfl (Or.inr (Or.inr (Or.inr (Or.inr ⟨rfl, rfl, rfl⟩)))) (hb hby d1_183) (by decide) (by decide) ?_
              refine ⟨?_, N2, e8⟩
              show (some (.ref w_CHARACTER) : Option Value) = _
              rw [hr]
              exact congrArg (fun z => some (Value.ref z)) (Eq.symm (own_tC (by omega)))
            · by_cases hs6 : x.toInt = 1
              · refine Ends.go (X2.lookupswitchHit hx (g := (mkF m 12 #[.val (.ref o0), .val (.ref w_OTHER)] [(.int x)])) rfl (k := x) (rest := []) rfl (hb hby d1_12) (by decide) (a := 1) (off := 160) (by rw [hs6]; decide) (by show (0 : Int) ≤ ((12 : Nat) : Int) + 160; decide)) ?_
                show Ends p e below s T2 (mkF m 172 #[.val (.ref o0), .val (.ref w_OTHER)] []) _ _ _
                obtain ⟨T9, X9, e9, st9⟩ := getS2 X2 hx hZ hown (host := "") (Or.inl (hw _ (List.mem_of_getElem? (i := 43) rfl))) Via.refl e2q (S_CHARACTER.ext O0.2) (g := (mkF m 172 #[.val (.ref o0), .val (.ref w_OTHER)] [])) rfl (hb hby d1_172)
                refine Ends.go st9 ?_
                show Ends p e below s T9 (mkF m 175 #[.val (.ref o0), .val (.ref w_OTHER)] [(.ref w_CHARACTER)]) _ _ _
                refine Ends.go (fun _ k => XS.goto X9.here hx rfl (pc0 := 175) (pc' := 181) rfl (hb hby d1_175) (by decide) (by decide) k) ?_
                show Ends p e below s T9 (mkF m 181 #[.val (.ref o0), .val (.ref w_OTHER)] [(.ref w_CHARACTER)]) _ _ _
                refine Ends.go (fun _ k => XS.astoreN X9.here hx rfl (hb hby d1_181) rfl rfl (l' := #[.val (.ref o0), .val (.ref w_CHARACTER)]) rfl k) ?_
                show Ends p e below s T9 (mkF m 182 #[.val (.ref o0), .val (.ref w_CHARACTER)] []) _ _ _
                refine Ends.go (fun _ k => XS.aloadN X9.here hx rfl (hb hby d1_182) rfl rfl k) ?_
                show Ends p e below s T9 (mkF m 183 #[.val (.ref o0), .val (.ref w_CHARACTER)] [(.ref w_CHARACTER)]) _ _ _
                refine Ends.ret X9 hx Bd.notSynchronized (t := (.object "com/example/wakeline/wakeline/event/DeclaredType")) Bd.returns rfl (Or.inr (Or.inr (Or.inr (Or.inr ⟨rfl, rfl, rfl⟩)))) (hb hby d1_183) (by decide) (by decide) ?_
                refine ⟨?_, N2, e9⟩
                show (some (.ref w_CHARACTER) : Option Value) = _
                rw [hr]
                exact congrArg (fun z => some (Value.ref z)) (Eq.symm (own_tC (by omega)))
              · by_cases hs7 : x.toInt = 2
                · refine Ends.go (X2.lookupswitchHit hx (g := (mkF m 12 #[.val (.ref o0), .val (.ref w_OTHER)] [(.int x)])) rfl (k := x) (rest := []) rfl (hb hby d1_12) (by decide) (a := 2) (off := 154) (by rw [hs7]; decide) (by show (0 : Int) ≤ ((12 : Nat) : Int) + 154; decide)) ?_
                  show Ends p e below s T2 (mkF m 166 #[.val (.ref o0), .val (.ref w_OTHER)] []) _ _ _
                  obtain ⟨T10, X10, e10, st10⟩ := getS2 X2 hx hZ hown (host := "") (Or.inl (hw _ (List.mem_of_getElem? (i := 40) rfl))) Via.refl e2q (S_NUMERIC.ext O0.2) (g := (mkF m 166 #[.val (.ref o0), .val (.ref w_OTHER)] [])) rfl (hb hby d1_166)
                  refine Ends.go st10 ?_
                  show Ends p e below s T10 (mkF m 169 #[.val (.ref o0), .val (.ref w_OTHER)] [(.ref w_NUMERIC)]) _ _ _
                  refine Ends.go (fun _ k => XS.goto X10.here hx rfl (pc0 := 169) (pc' := 181) rfl (hb hby d1_169) (by decide) (by decide) k) ?_
                  show Ends p e below s T10 (mkF m 181 #[.val (.ref o0), .val (.ref w_OTHER)] [(.ref w_NUMERIC)]) _ _ _
                  refine Ends.go (fun _ k => XS.astoreN X10.here hx rfl (hb hby d1_181) rfl rfl (l' := #[.val (.ref o0), .val (.ref w_NUMERIC)]) rfl k) ?_
                  show Ends p e below s T10 (mkF m 182 #[.val (.ref o0), .val (.ref w_NUMERIC)] []) _ _ _
                  refine Ends.go (fun _ k => XS.aloadN X10.here hx rfl (hb hby d1_182) rfl rfl k) ?_
                  show Ends p e below s T10 (mkF m 183 #[.val (.ref o0), .val (.ref w_NUMERIC)] [(.ref w_NUMERIC)]) _ _ _
                  refine Ends.ret X10 hx Bd.notSynchronized (t := (.object "com/example/wakeline/wakeline/event/DeclaredType")) Bd.returns rfl (Or.inr (Or.inr (Or.inr (Or.inr ⟨rfl, rfl, rfl⟩)))) (hb hby d1_183) (by decide) (by decide) ?_
                  refine ⟨?_, N2, e10⟩
                  show (some (.ref w_NUMERIC) : Option Value) = _
                  rw [hr]
                  exact congrArg (fun z => some (Value.ref z)) (Eq.symm (own_tN (by omega)))
                · by_cases hs8 : x.toInt = 3
                  · refine Ends.go (X2.lookupswitchHit hx (g := (mkF m 12 #[.val (.ref o0), .val (.ref w_OTHER)] [(.int x)])) rfl (k := x) (rest := []) rfl (hb hby d1_12) (by decide) (a := 3) (off := 154) (by rw [hs8]; decide) (by show (0 : Int) ≤ ((12 : Nat) : Int) + 154; decide)) ?_
                    show Ends p e below s T2 (mkF m 166 #[.val (.ref o0), .val (.ref w_OTHER)] []) _ _ _
                    obtain ⟨T11, X11, e11, st11⟩ := getS2 X2 hx hZ hown (host := "") (Or.inl (hw _ (List.mem_of_getElem? (i := 40) rfl))) Via.refl e2q (S_NUMERIC.ext O0.2) (g := (mkF m 166 #[.val (.ref o0), .val (.ref w_OTHER)] [])) rfl (hb hby d1_166)
                    refine Ends.go st11 ?_
                    show Ends p e below s T11 (mkF m 169 #[.val (.ref o0), .val (.ref w_OTHER)] [(.ref w_NUMERIC)]) _ _ _
                    refine Ends.go (fun _ k => XS.goto X11.here hx rfl (pc0 := 169) (pc' := 181) rfl (hb hby d1_169) (by decide) (by decide) k) ?_
                    show Ends p e below s T11 (mkF m 181 #[.val (.ref o0), .val (.ref w_OTHER)] [(.ref w_NUMERIC)]) _ _ _
                    refine Ends.go (fun _ k => XS.astoreN X11.here hx rfl (hb hby d1_181) rfl rfl (l' := #[.val (.ref o0), .val (.ref w_NUMERIC)]) rfl k) ?_
                    show Ends p e below s T11 (mkF m 182 #[.val (.ref o0), .val (.ref w_NUMERIC)] []) _ _ _
                    refine Ends.go (fun _ k => XS.aloadN X11.here hx rfl (hb hby d1_182) rfl rfl k) ?_
                    show Ends p e below s T11 (mkF m 183 #[.val (.ref o0), .val (.ref w_NUMERIC)] [(.ref w_NUMERIC)]) _ _ _
                    refine Ends.ret X11 hx Bd.notSynchronized (t := (.object "com/example/wakeline/wakeline/event/DeclaredType")) Bd.returns rfl (Or.inr (Or.inr (Or.inr (Or.inr ⟨rfl, rfl, rfl⟩)))) (hb hby d1_183) (by decide) (by decide) ?_
                    refine ⟨?_, N2, e11⟩
                    show (some (.ref w_NUMERIC) : Option Value) = _
                    rw [hr]
                    exact congrArg (fun z => some (Value.ref z)) (Eq.symm (own_tN (by omega)))
                  · by_cases hs9 : x.toInt = 4
                    · refine Ends.go (X2.lookupswitchHit hx (g := (mkF m 12 #[.val (.ref o0), .val (.ref w_OTHER)] [(.int x)])) rfl (k := x) (rest := []) rfl (hb hby d1_12) (by decide) (a := 4) (off := 148) (by rw [hs9]; decide) (by show (0 : Int) ≤ ((12 : Nat) : Int) + 148; decide)) ?_
                      show Ends p e below s T2 (mkF m 160 #[.val (.ref o0), .val (.ref w_OTHER)] []) _ _ _
                      obtain ⟨T12, X12, e12, st12⟩ := getS2 X2 hx hZ hown (host := "") (Or.inl (hw _ (List.mem_of_getElem? (i := 46) rfl))) Via.refl e2q (S_INTEGER.ext O0.2) (g := (mkF m 160 #[.val (.ref o0), .val (.ref w_OTHER)] [])) rfl (hb hby d1_160)
                      refine Ends.go st12 ?_
                      show Ends p e below s T12 (mkF m 163 #[.val (.ref o0), .val (.ref w_OTHER)] [(.ref w_INTEGER)]) _ _ _
                      refine Ends.go (fun _ k => XS.goto X12.here hx rfl (pc0 := 163) (pc' := 181) rfl (hb hby d1_163) (by decide) (by decide) k) ?_
                      show Ends p e below s T12 (mkF m 181 #[.val (.ref o0), .val (.ref w_OTHER)] [(.ref w_INTEGER)]) _ _ _
                      refine Ends.go (fun _ k => XS.astoreN X12.here hx rfl (hb hby d1_181) rfl rfl (l' := #[.val (.ref o0), .val (.ref w_INTEGER)]) rfl k) ?_
                      show Ends p e below s T12 (mkF m 182 #[.val (.ref o0), .val (.ref w_INTEGER)] []) _ _ _
                      refine Ends.go (fun _ k => XS.aloadN X12.here hx rfl (hb hby d1_182) rfl rfl k) ?_
                      show Ends p e below s T12 (mkF m 183 #[.val (.ref o0), .val (.ref w_INTEGER)] [(.ref w_INTEGER)]) _ _ _
                      refine Ends.ret X12 hx Bd.notSynchronized (t := (.object "com/example/wakeline/wakeline/event/DeclaredType")) Bd.returns rfl (Or.inr (Or.inr (Or.inr (Or.inr ⟨rfl, rfl, rfl⟩)))) (hb hby d1_183) (by decide) (by decide) ?_
                      refine ⟨?_, N2, e12⟩
                      show (some (.ref w_INTEGER) : Option Value) = _
                      rw [hr]
                      exact congrArg (fun z => some (Value.ref z)) (Eq.symm (own_tI (by omega)))
                    · by_cases hs10 : x.toInt = 5
                      · refine Ends.go (X2.lookupswitchHit hx (g := (mkF m 12 #[.val (.ref o0), .val (.ref w_OTHER)] [(.int x)])) rfl (k := x) (rest := []) rfl (hb hby d1_12) (by decide) (a := 5) (off := 148) (by rw [hs10]; decide) (by show (0 : Int) ≤ ((12 : Nat) : Int) + 148; decide)) ?_
                        show Ends p e below s T2 (mkF m 160 #[.val (.ref o0), .val (.ref w_OTHER)] []) _ _ _
                        obtain ⟨T13, X13, e13, st13⟩ := getS2 X2 hx hZ hown (host := "") (Or.inl (hw _ (List.mem_of_getElem? (i := 46) rfl))) Via.refl e2q (S_INTEGER.ext O0.2) (g := (mkF m 160 #[.val (.ref o0), .val (.ref w_OTHER)] [])) rfl (hb hby d1_160)
                        refine Ends.go st13 ?_
                        show Ends p e below s T13 (mkF m 163 #[.val (.ref o0), .val (.ref w_OTHER)] [(.ref w_INTEGER)]) _ _ _
                        refine Ends.go (fun _ k => XS.goto X13.here hx rfl (pc0 := 163) (pc' := 181) rfl (hb hby d1_163) (by decide) (by decide) k) ?_
                        show Ends p e below s T13 (mkF m 181 #[.val (.ref o0), .val (.ref w_OTHER)] [(.ref w_INTEGER)]) _ _ _
                        refine Ends.go (fun _ k => XS.astoreN X13.here hx rfl (hb hby d1_181) rfl rfl (l' := #[.val (.ref o0), .val (.ref w_INTEGER)]) rfl k) ?_
                        show Ends p e below s T13 (mkF m 182 #[.val (.ref o0), .val (.ref w_INTEGER)] []) _ _ _
                        refine Ends.go (fun _ k => XS.aloadN X13.here hx rfl (hb hby d1_182) rfl rfl k) ?_
                        show Ends p e below s T13 (mkF m 183 #[.val (.ref o0), .val (.ref w_INTEGER)] [(.ref w_INTEGER)]) _ _ _
                        refine Ends.ret X13 hx Bd.notSynchronized (t := (.object "com/example/wakeline/wakeline/event/DeclaredType")) Bd.returns rfl (Or.inr (Or.inr (Or.inr (Or.inr ⟨rfl, rfl, rfl⟩)))) (hb hby d1_183) (by decide) (by decide) ?_
                        refine ⟨?_, N2, e13⟩
                        show (some (.ref w_INTEGER) : Option Value) = _
                        rw [hr]
                        exact congrArg (fun z => some (Value.ref z)) (Eq.symm (own_tI (by omega)))
                      · by_cases hs11 : x.toInt = 6
                        · refine Ends.go (X2.lookupswitchHit hx (g := (mkF m 12 #[.val (.ref o0), .val (.ref w_OTHER)] [(.int x)])) rfl (k := x) (rest := []) rfl (hb hby d1_12) (by decide) (a := 6) (off := 154) (by rw [hs11]; decide) (by show (0 : Int) ≤ ((12 : Nat) : Int) + 154; decide)) ?_
                          show Ends p e below s T2 (mkF m 166 #[.val (.ref o0), .val (.ref w_OTHER)] []) _ _ _
                          obtain ⟨T14, X14, e14, st14⟩ := getS2 X2 hx hZ hown (host := "") (Or.inl (hw _ (List.mem_of_getElem? (i := 40) rfl))) Via.refl e2q (S_NUMERIC.ext O0.2) (g := (mkF m 166 #[.val (.ref o0), .val (.ref w_OTHER)] [])) rfl (hb hby d1_166)
                          refine Ends.go st14 ?_
                          show Ends p e below s T14 (mkF m 169 #[.val (.ref o0), .val (.ref w_OTHER)] [(.ref w_NUMERIC)]) _ _ _
                          refine Ends.go (fun _ k => XS.goto X14.here hx rfl (pc0 := 169) (pc' := 181) rfl (hb hby d1_169) (by decide) (by decide) k) ?_
                          show Ends p e below s T14 (mkF m 181 #[.val (.ref o0), .val (.ref w_OTHER)] [(.ref w_NUMERIC)]) _ _ _
                          refine Ends.go (fun _ k => XS.astoreN X14.here hx rfl (hb hby d1_181) rfl rfl (l' := #[.val (.ref o0), .val (.ref w_NUMERIC)]) rfl k) ?_
                          show Ends p e below s T14 (mkF m 182 #[.val (.ref o0), .val (.ref w_NUMERIC)] []) _ _ _
                          refine Ends.go (fun _ k => XS.aloadN X14.here hx rfl (hb hby d1_182) rfl rfl k) ?_
                          show Ends p e below s T14 (mkF m 183 #[.val (.ref o0), .val (.ref w_NUMERIC)] [(.ref w_NUMERIC)]) _ _ _
                          refine Ends.ret X14 hx Bd.notSynchronized (t := (.object "com/example/wakeline/wakeline/event/DeclaredType")) Bd.returns rfl (Or.inr (Or.inr (Or.inr (Or.inr ⟨rfl, rfl, rfl⟩)))) (hb hby d1_183) (by decide) (by decide) ?_
                          refine ⟨?_, N2, e14⟩
                          show (some (.ref w_NUMERIC) : Option Value) = _
                          rw [hr]
                          exact congrArg (fun z => some (Value.ref z)) (Eq.symm (own_tN (by omega)))
                        · by_cases hs12 : x.toInt = 7
                          · refine Ends.go (X2.lookupswitchHit hx (g := (mkF m 12 #[.val (.ref o0), .val (.ref w_OTHER)] [(.int x)])) rfl (k := x) (rest := []) rfl (hb hby d1_12) (by decide) (a := 7) (off := 154) (by rw [hs12]; decide) (by show (0 : Int) ≤ ((12 : Nat) : Int) + 154; decide)) ?_
                            show Ends p e below s T2 (mkF m 166 #[.val (.ref o0), .val (.ref w_OTHER)] []) _ _ _
                            obtain ⟨T15, X15, e15, st15⟩ := getS2 X2 hx hZ hown (host := "") (Or.inl (hw _ (List.mem_of_getElem? (i := 40) rfl))) Via.refl e2q (S_NUMERIC.ext O0.2) (g := (mkF m 166 #[.val (.ref o0), .val (.ref w_OTHER)] [])) rfl (hb hby d1_166)
                            refine Ends.go st15 ?_
                            show Ends p e below s T15 (mkF m 169 #[.val (.ref o0), .val (.ref w_OTHER)] [(.ref w_NUMERIC)]) _ _ _
                            refine Ends.go (fun _ k => XS.goto X15.here hx rfl (pc0 := 169) (pc' := 181) rfl (hb hby d1_169) (by decide) (by decide) k) ?_
                            show Ends p e below s T15 (mkF m 181 #[.val (.ref o0), .val (.ref w_OTHER)] [(.ref w_NUMERIC)]) _ _ _
                            refine Ends.go (fun _ k => XS.astoreN X15.here hx rfl (hb hby d1_181) rfl rfl (l' := #[.val (.ref o0), .val (.ref w_NUMERIC)]) rfl k) ?_
                            show Ends p e below s T15 (mkF m 182 #[.val (.ref o0), .val (.ref w_NUMERIC)] []) _ _ _
                            refine Ends.go (fun _ k => XS.aloadN X15.here hx rfl (hb hby d1_182) rfl rfl k) ?_
                            show Ends p e below s T15 (mkF m 183 #[.val (.ref o0), .val (.ref w_NUMERIC)] [(.ref w_NUMERIC)]) _ _ _
                            refine Ends.ret X15 hx Bd.notSynchronized (t := (.object "com/example/wakeline/wakeline/event/DeclaredType")) Bd.returns rfl (Or.inr (Or.inr (Or.inr (Or.inr ⟨rfl, rfl, rfl⟩)))) (hb hby d1_183) (by decide) (by decide) ?_
                            refine ⟨?_, N2, e15⟩
                            show (some (.ref w_NUMERIC) : Option Value) = _
                            rw [hr]
                            exact congrArg (fun z => some (Value.ref z)) (Eq.symm (own_tN (by omega)))
                          · by_cases hs13 : x.toInt = 8
                            · refine Ends.go (X2.lookupswitchHit hx (g := (mkF m 12 #[.val (.ref o0), .val (.ref w_OTHER)] [(.int x)])) rfl (k := x) (rest := []) rfl (hb hby d1_12) (by decide) (a := 8) (off := 154) (by rw [hs13]; decide) (by show (0 : Int) ≤ ((12 : Nat) : Int) + 154; decide)) ?_
                              show Ends p e below s T2 (mkF m 166 #[.val (.ref o0), .val (.ref w_OTHER)] []) _ _ _
                              obtain ⟨T16, X16, e16, st16⟩ := getS2 X2 hx hZ hown (host := "") (Or.inl (hw _ (List.mem_of_getElem? (i := 40) rfl))) Via.refl e2q (S_NUMERIC.ext O0.2) (g := (mkF m 166 #[.val (.ref o0), .val (.ref w_OTHER)] [])) rfl (hb hby d1_166)
                              refine Ends.go st16 ?_
                              show Ends p e below s T16 (mkF m 169 #[.val (.ref o0), .val (.ref w_OTHER)] [(.ref w_NUMERIC)]) _ _ _
                              refine Ends.go (fun _ k => XS.goto X16.here hx rfl (pc0 := 169) (pc' := 181) rfl (hb hby d1_169) (by decide) (by decide) k) ?_
                              show Ends p e below s T16 (mkF m 181 #[.val (.ref o0), .val (.ref w_OTHER)] [(.ref w_NUMERIC)]) _ _ _
                              refine Ends.go (fun _ k => XS.astoreN X16.here hx rfl (hb hby d1_181) rfl rfl (l' := #[.val (.ref o0), .val (.ref w_NUMERIC)]) rfl k) ?_
                              show Ends p e below s T16 (mkF m 182 #[.val (.ref o0), .val (.ref w_NUMERIC)] []) _ _ _
                              refine Ends.go (fun _ k => XS.aloadN X16.here hx rfl (hb hby d1_182) rfl rfl k) ?_
                              show Ends p e below s T16 (mkF m 183 #[.val (.ref o0), .val (.ref w_NUMERIC)] [(.ref w_NUMERIC)]) _ _ _
                              refine Ends.ret X16 hx Bd.notSynchronized (t := (.object "com/example/wakeline/wakeline/event/DeclaredType")) Bd.returns rfl (Or.inr (Or.inr (Or.inr (Or.inr ⟨rfl, rfl, rfl⟩)))) (hb hby d1_183) (by decide) (by decide) ?_
                              refine ⟨?_, N2, e16⟩
                              show (some (.ref w_NUMERIC) : Option Value) = _
                              rw [hr]
                              exact congrArg (fun z => some (Value.ref z)) (Eq.symm (own_tN (by omega)))
                            · by_cases hs14 : x.toInt = 12
                              · refine Ends.go (X2.lookupswitchHit hx (g := (mkF m 12 #[.val (.ref o0), .val (.ref w_OTHER)] [(.int x)])) rfl (k := x) (rest := []) rfl (hb hby d1_12) (by decide) (a := 12) (off := 160) (by rw [hs14]; decide) (by show (0 : Int) ≤ ((12 : Nat) : Int) + 160; decide)) ?_
                                show Ends p e below s T2 (mkF m 172 #[.val (.ref o0), .val (.ref w_OTHER)] []) _ _ _
                                obtain ⟨T17, X17, e17, st17⟩ := getS2 X2 hx hZ hown (host := "") (Or.inl (hw _ (List.mem_of_getElem? (i := 43) rfl))) Via.refl e2q (S_CHARACTER.ext O0.2) (g := (mkF m 172 #[.val (.ref o0), .val (.ref w_OTHER)] [])) rfl (hb hby d1_172)
                                refine Ends.go st17 ?_
                                show Ends p e below s T17 (mkF m 175 #[.val (.ref o0), .val (.ref w_OTHER)] [(.ref w_CHARACTER)]) _ _ _
                                refine Ends.go (fun _ k => XS.goto X17.here hx rfl (pc0 := 175) (pc' := 181) rfl (hb hby d1_175) (by decide) (by decide) k) ?_
                                show Ends p e below s T17 (mkF m 181 #[.val (.ref o0), .val (.ref w_OTHER)] [(.ref w_CHARACTER)]) _ _ _
                                refine Ends.go (fun _ k => XS.astoreN X17.here hx rfl (hb hby d1_181) rfl rfl (l' := #[.val (.ref o0), .val (.ref w_CHARACTER)]) rfl k) ?_
                                show Ends p e below s T17 (mkF m 182 #[.val (.ref o0), .val (.ref w_CHARACTER)] []) _ _ _
                                refine Ends.go (fun _ k => XS.aloadN X17.here hx rfl (hb hby d1_182) rfl rfl k) ?_
                                show Ends p e below s T17 (mkF m 183 #[.val (.ref o0), .val (.ref w_CHARACTER)] [(.ref w_CHARACTER)]) _ _ _
                                refine Ends.ret X17 hx Bd.notSynchronized (t := (.object "com/example/wakeline/wakeline/event/DeclaredType")) Bd.returns rfl (Or.inr (Or.inr (Or.inr (Or.inr ⟨rfl, rfl, rfl⟩)))) (hb hby d1_183) (by decide) (by decide) ?_
                                refine ⟨?_, N2, e17⟩
                                show (some (.ref w_CHARACTER) : Option Value) = _
                                rw [hr]
                                exact congrArg (fun z => some (Value.ref z)) (Eq.symm (own_tC (by omega)))
                              · by_cases hs15 : x.toInt = 2005
                                · refine Ends.go (X2.lookupswitchHit hx (g := (mkF m 12 #[.val (.ref o0), .val (.ref w_OTHER)] [(.int x)])) rfl (k := x) (rest := []) rfl (hb hby d1_12) (by decide) (a := 2005) (off := 160) (by rw [hs15]; decide) (by show (0 : Int) ≤ ((12 : Nat) : Int) + 160; decide)) ?_
                                  show Ends p e below s T2 (mkF m 172 #[.val (.ref o0), .val (.ref w_OTHER)] []) _ _ _
                                  obtain ⟨T18, X18, e18, st18⟩ := getS2 X2 hx hZ hown (host := "") (Or.inl (hw _ (List.mem_of_getElem? (i := 43) rfl))) Via.refl e2q (S_CHARACTER.ext O0.2) (g := (mkF m 172 #[.val (.ref o0), .val (.ref w_OTHER)] [])) rfl (hb hby d1_172)
                                  refine Ends.go st18 ?_
                                  show Ends p e below s T18 (mkF m 175 #[.val (.ref o0), .val (.ref w_OTHER)] [(.ref w_CHARACTER)]) _ _ _
                                  refine Ends.go (fun _ k => XS.goto X18.here hx rfl (pc0 := 175) (pc' := 181) rfl (hb hby d1_175) (by decide) (by decide) k) ?_
                                  show Ends p e below s T18 (mkF m 181 #[.val (.ref o0), .val (.ref w_OTHER)] [(.ref w_CHARACTER)]) _ _ _
                                  refine Ends.go (fun _ k => XS.astoreN X18.here hx rfl (hb hby d1_181) rfl rfl (l' := #[.val (.ref o0), .val (.ref w_CHARACTER)]) rfl k) ?_
                                  show Ends p e below s T18 (mkF m 182 #[.val (.ref o0), .val (.ref w_CHARACTER)] []) _ _ _
                                  refine Ends.go (fun _ k => XS.aloadN X18.here hx rfl (hb hby d1_182) rfl rfl k) ?_
                                  show Ends p e below s T18 (mkF m 183 #[.val (.ref o0), .val (.ref w_CHARACTER)] [(.ref w_CHARACTER)]) _ _ _
                                  refine Ends.ret X18 hx Bd.notSynchronized (t := (.object "com/example/wakeline/wakeline/event/DeclaredType")) Bd.returns rfl (Or.inr (Or.inr (Or.inr (Or.inr ⟨rfl, rfl, rfl⟩)))) (hb hby d1_183) (by decide) (by decide) ?_
                                  refine ⟨?_, N2, e18⟩
                                  show (some (.ref w_CHARACTER) : Option Value) = _
                                  rw [hr]
                                  exact congrArg (fun z => some (Value.ref z)) (Eq.symm (own_tC (by omega)))
                                · by_cases hs16 : x.toInt = 2011
                                  · refine Ends.go (X2.lookupswitchHit hx (g := (mkF m 12 #[.val (.ref o0), .val (.ref w_OTHER)] [(.int x)])) rfl (k := x) (rest := []) rfl (hb hby d1_12) (by decide) (a := 2011) (off := 160) (by rw [hs16]; decide) (by show (0 : Int) ≤ ((12 : Nat) : Int) + 160; decide)) ?_
                                    show Ends p e below s T2 (mkF m 172 #[.val (.ref o0), .val (.ref w_OTHER)] []) _ _ _
                                    obtain ⟨T19, X19, e19, st19⟩ := getS2 X2 hx hZ hown (host := "") (Or.inl (hw _ (List.mem_of_getElem? (i := 43) rfl))) Via.refl e2q (S_CHARACTER.ext O0.2) (g := (mkF m 172 #[.val (.ref o0), .val (.ref w_OTHER)] [])) rfl (hb hby d1_172)
                                    refine Ends.go st19 ?_
                                    show Ends p e below s T19 (mkF m 175 #[.val (.ref o0), .val (.ref w_OTHER)] [(.ref w_CHARACTER)]) _ _ _
                                    refine Ends.go (fun _ k => XS.goto X19.here hx rfl (pc0 := 175) (pc' := 181) rfl (hb hby d1_175) (by decide) (by decide) k) ?_
                                    show Ends p e below s T19 (mkF m 181 #[.val (.ref o0), .val (.ref w_OTHER)] [(.ref w_CHARACTER)]) _ _ _
                                    refine Ends.go (fun _ k => XS.astoreN X19.here hx rfl (hb hby d1_181) rfl rfl (l' := #[.val (.ref o0), .val (.ref w_CHARACTER)]) rfl k) ?_
                                    show Ends p e below s T19 (mkF m 182 #[.val (.ref o0), .val (.ref w_CHARACTER)] []) _ _ _
                                    refine Ends.go (fun _ k => XS.aloadN X19.here hx rfl (hb hby d1_182) rfl rfl k) ?_
                                    show Ends p e below s T19 (mkF m 183 #[.val (.ref o0), .val (.ref w_CHARACTER)] [(.ref w_CHARACTER)]) _ _ _
                                    refine Ends.ret X19 hx Bd.notSynchronized (t := (.object "com/example/wakeline/wakeline/event/DeclaredType")) Bd.returns rfl (Or.inr (Or.inr (Or.inr (Or.inr ⟨rfl, rfl, rfl⟩)))) (hb hby d1_183) (by decide) (by decide) ?_
                                    refine ⟨?_, N2, e19⟩
                                    show (some (.ref w_CHARACTER) : Option Value) = _
                                    rw [hr]
                                    exact congrArg (fun z => some (Value.ref z)) (Eq.symm (own_tC (by omega)))
                                  · refine Ends.go (X2.lookupswitchMiss hx (g := (mkF m 12 #[.val (.ref o0), .val (.ref w_OTHER)] [(.int x)])) rfl (k := x) (rest := []) rfl (hb hby d1_12) (by decide) (by rw [Array.find?_eq_none]; intro q hq hb; have hb' : q.1 = x.toInt := (by simpa using hb); simp at hq; rcases hq with rfl | rfl | rfl | rfl | rfl | rfl | rfl | rfl | rfl | rfl | rfl | rfl | rfl | rfl | rfl | rfl | rfl <;> simp at hb' <;> omega) (by show (0 : Int) ≤ ((12 : Nat) : Int) + 166; decide)) ?_
                                    show Ends p e below s T2 (mkF m 178 #[.val (.ref o0), .val (.ref w_OTHER)] []) _ _ _
                                    obtain ⟨T20, X20, e20, st20⟩ := getS2 X2 hx hZ hown (host := "") (Or.inl (hw _ (List.mem_of_getElem? (i := 4) rfl))) Via.refl e2q (S_OTHER.ext O0.2) (g := (mkF m 178 #[.val (.ref o0), .val (.ref w_OTHER)] [])) rfl (hb hby d1_178)
                                    refine Ends.go st20 ?_
                                    show Ends p e below s T20 (mkF m 181 #[.val (.ref o0), .val (.ref w_OTHER)] [(.ref w_OTHER)]) _ _ _
                                    refine Ends.go (fun _ k => XS.astoreN X20.here hx rfl (hb hby d1_181) rfl rfl (l' := #[.val (.ref o0), .val (.ref w_OTHER)]) rfl k) ?_
                                    show Ends p e below s T20 (mkF m 182 #[.val (.ref o0), .val (.ref w_OTHER)] []) _ _ _
                                    refine Ends.go (fun _ k => XS.aloadN X20.here hx rfl (hb hby d1_182) rfl rfl k) ?_
                                    show Ends p e below s T20 (mkF m 183 #[.val (.ref o0), .val (.ref w_OTHER)] [(.ref w_OTHER)]) _ _ _
                                    refine Ends.ret X20 hx Bd.notSynchronized (t := (.object "com/example/wakeline/wakeline/event/DeclaredType")) Bd.returns rfl (Or.inr (Or.inr (Or.inr (Or.inr ⟨rfl, rfl, rfl⟩)))) (hb hby d1_183) (by decide) (by decide) ?_
                                    refine ⟨?_, N2, e20⟩
                                    show (some (.ref w_OTHER) : Option Value) = _
                                    rw [hr]
                                    exact congrArg (fun z => some (Value.ref z)) (Eq.symm (own_tO (by omega) (by omega) (by omega)))
theorem d2_0 : decode method_3_code 0 = .ok (.iload_n 0, 1) := by decide +kernel
theorem d2_1 : decode method_3_code 1 = .ok (.ifCond .eq 7, 3) := by decide +kernel
theorem d2_4 : decode method_3_code 4 = .ok (.getstatic 25, 3) := by decide +kernel
theorem d2_7 : decode method_3_code 7 = .ok (.areturn, 1) := by decide +kernel
theorem d2_8 : decode method_3_code 8 = .ok (.iload_n 1, 1) := by decide +kernel
theorem d2_9 : decode method_3_code 9 = .ok (.bipush (-6), 2) := by decide +kernel
theorem d2_11 : decode method_3_code 11 = .ok (.if_icmp .eq 19, 3) := by decide +kernel
theorem d2_14 : decode method_3_code 14 = .ok (.iload_n 1, 1) := by decide +kernel
theorem d2_15 : decode method_3_code 15 = .ok (.bipush (-5), 2) := by decide +kernel
theorem d2_17 : decode method_3_code 17 = .ok (.if_icmp .eq 13, 3) := by decide +kernel
theorem d2_20 : decode method_3_code 20 = .ok (.iload_n 1, 1) := by decide +kernel
theorem d2_21 : decode method_3_code 21 = .ok (.iconst 4, 1) := by decide +kernel
theorem d2_22 : decode method_3_code 22 = .ok (.if_icmp .eq 8, 3) := by decide +kernel
theorem d2_25 : decode method_3_code 25 = .ok (.iload_n 1, 1) := by decide +kernel
theorem d2_26 : decode method_3_code 26 = .ok (.iconst 5, 1) := by decide +kernel
theorem d2_27 : decode method_3_code 27 = .ok (.if_icmp .ne 7, 3) := by decide +kernel
theorem d2_30 : decode method_3_code 30 = .ok (.getstatic 29, 3) := by decide +kernel
theorem d2_33 : decode method_3_code 33 = .ok (.areturn, 1) := by decide +kernel
theorem d2_34 : decode method_3_code 34 = .ok (.iload_n 1, 1) := by decide +kernel
theorem d2_35 : decode method_3_code 35 = .ok (.iconst 2, 1) := by decide +kernel
theorem d2_36 : decode method_3_code 36 = .ok (.if_icmp .lt 8, 3) := by decide +kernel
theorem d2_39 : decode method_3_code 39 = .ok (.iload_n 1, 1) := by decide +kernel
theorem d2_40 : decode method_3_code 40 = .ok (.iconst 3, 1) := by decide +kernel
theorem d2_41 : decode method_3_code 41 = .ok (.if_icmp .le 15, 3) := by decide +kernel
theorem d2_44 : decode method_3_code 44 = .ok (.iload_n 1, 1) := by decide +kernel
theorem d2_45 : decode method_3_code 45 = .ok (.bipush 6, 2) := by decide +kernel
theorem d2_47 : decode method_3_code 47 = .ok (.if_icmp .lt 13, 3) := by decide +kernel
theorem d2_50 : decode method_3_code 50 = .ok (.iload_n 1, 1) := by decide +kernel
theorem d2_51 : decode method_3_code 51 = .ok (.bipush 8, 2) := by decide +kernel
theorem d2_53 : decode method_3_code 53 = .ok (.if_icmp .gt 7, 3) := by decide +kernel
theorem d2_56 : decode method_3_code 56 = .ok (.getstatic 32, 3) := by decide +kernel
theorem d2_59 : decode method_3_code 59 = .ok (.areturn, 1) := by decide +kernel
theorem d2_60 : decode method_3_code 60 = .ok (.iload_n 1, 1) := by decide +kernel
theorem d2_61 : decode method_3_code 61 = .ok (.iconst 1, 1) := by decide +kernel
theorem d2_62 : decode method_3_code 62 = .ok (.if_icmp .eq 46, 3) := by decide +kernel
theorem d2_65 : decode method_3_code 65 = .ok (.iload_n 1, 1) := by decide +kernel
theorem d2_66 : decode method_3_code 66 = .ok (.bipush 12, 2) := by decide +kernel
theorem d2_68 : decode method_3_code 68 = .ok (.if_icmp .eq 40, 3) := by decide +kernel
theorem d2_71 : decode method_3_code 71 = .ok (.iload_n 1, 1) := by decide +kernel
theorem d2_72 : decode method_3_code 72 = .ok (.iconst (-1), 1) := by decide +kernel
theorem d2_73 : decode method_3_code 73 = .ok (.if_icmp .eq 35, 3) := by decide +kernel
theorem d2_76 : decode method_3_code 76 = .ok (.iload_n 1, 1) := by decide +kernel
theorem d2_77 : decode method_3_code 77 = .ok (.bipush (-9), 2) := by decide +kernel
theorem d2_79 : decode method_3_code 79 = .ok (.if_icmp .eq 29, 3) := by decide +kernel
theorem d2_82 : decode method_3_code 82 = .ok (.iload_n 1, 1) := by decide +kernel
theorem d2_83 : decode method_3_code 83 = .ok (.bipush (-15), 2) := by decide +kernel
theorem d2_85 : decode method_3_code 85 = .ok (.if_icmp .eq 23, 3) := by decide +kernel
theorem d2_88 : decode method_3_code 88 = .ok (.iload_n 1, 1) := by decide +kernel
theorem d2_89 : decode method_3_code 89 = .ok (.bipush (-16), 2) := by decide +kernel
theorem d2_91 : decode method_3_code 91 = .ok (.if_icmp .eq 17, 3) := by decide +kernel
theorem d2_94 : decode method_3_code 94 = .ok (.iload_n 1, 1) := by decide +kernel
theorem d2_95 : decode method_3_code 95 = .ok (.sipush 2005, 3) := by decide +kernel
theorem d2_98 : decode method_3_code 98 = .ok (.if_icmp .eq 10, 3) := by decide +kernel
theorem d2_101 : decode method_3_code 101 = .ok (.iload_n 1, 1) := by decide +kernel
theorem d2_102 : decode method_3_code 102 = .ok (.sipush 2011, 3) := by decide +kernel
theorem d2_105 : decode method_3_code 105 = .ok (.if_icmp .ne 7, 3) := by decide +kernel
theorem d2_108 : decode method_3_code 108 = .ok (.getstatic 35, 3) := by decide +kernel
theorem d2_111 : decode method_3_code 111 = .ok (.areturn, 1) := by decide +kernel
theorem d2_112 : decode method_3_code 112 = .ok (.getstatic 25, 3) := by decide +kernel
theorem d2_115 : decode method_3_code 115 = .ok (.areturn, 1) := by decide +kernel
theorem pn2 : plainName "com/example/wakeline/wakeline/event/DeclaredTypeOfSqlTypePinLaw" = true := by first | (simp [plainName, overriddenIn]; done) | decide +kernel
theorem ef2 (m : MethodId) (p0 : Int32) (p1 : Int32) : entryFrame m #[(.int p0), (.int p1)] 2 = mkF m 0 #[.val (.int p0), .val (.int p1)] [] := by first | (simp [entryFrame, mkF, argsToLocals, Value.category]; done) | rfl
set_option maxRecDepth 65536 in
set_option maxHeartbeats 40000000 in
theorem rmX (l : Launch) (Z : State) (a0 : Array Value) (hw : ∀ d ∈ tables_1, d.before a0 Z = true) (ws : List Jvm.Cond) (n0 : Nat) (h0 : Heap) (O0 : Old Z n0 h0) (p0 : Int32) (p1 : Int32) (w_OTHER : Addr) (w_NUMERIC : Addr) (w_CHARACTER : Addr) (w_INTEGER : Addr) (FF : Facts Z w_OTHER w_NUMERIC w_CHARACTER w_INTEGER) (r : Addr) (hr : r = if p0 = 0 then own_type p1 w_INTEGER w_NUMERIC w_CHARACTER w_OTHER else w_OTHER) :
    Meets1 l (⟨"com/example/wakeline/wakeline/event/DeclaredTypeOfSqlTypePinLaw", "expected", "(ZI)Lcom/example/wakeline/wakeline/event/DeclaredType;"⟩ : MethodName) method_3_code 2 (some (.object "com/example/wakeline/wakeline/event/DeclaredType")) ws ({ frames := 0, cells := 0, slots := 0, locals := 0 } : Room) #[(.int p0), (.int p1)] Z h0 (fun v h L => v = some (.ref r) ∧ Fr n0 L ∧ h = h0) := by
  refine MetFree.of_bodySF (plainFor_of_name pn2) hisR ?_
  intro p e s m args below meth c s₁ Bd hml0 hP hK
  obtain ⟨rfl, hZ, hh⟩ := hP
  have hx := Bd.exec
  have hby := Bd.bytes
  have hml : c.maxLocals = 2 := hml0
  have hown : s.vm.findClass "com/example/wakeline/wakeline/event/DeclaredTypeOfSqlTypePinLaw" = some m.cls := findClass_of_methodNamed Bd.named
  have hnm := (name_of_methodNamed Bd.named Bd.method).1
  have X0 : Stand p l e ({ frames := 0, cells := 0, slots := 0, locals := 0 } : Room) s m #[(.int p0), (.int p1)] below meth c s₁ [] 0 0 := Stand.of_body Bd
  have e0 : s₁.heap = h0 := by rw [← hh, Bd.state]; rfl
  have N0 := Fr.nil n0
  have Z0 := own_old_le O0
  show Ends p e below s s₁ (entryFrame m #[(.int p0), (.int p1)] 2) ({ frames := 0, cells := 0, slots := 0, locals := 0 } : Room).cells ({ frames := 0, cells := 0, slots := 0, locals := 0 } : Room).slots (fun v h L => v = some (.ref r) ∧ Fr n0 L ∧ h = h0)
  refine Ends.go (fun _ k => castTop (ef2 m p0 p1) k) ?_
  have K0 := Keep.refl h0 []
  have FF0 := FF
  obtain ⟨S_OTHER, E_OTHER, S_NUMERIC, E_NUMERIC, S_CHARACTER, E_CHARACTER, S_INTEGER, E_INTEGER⟩ := FF
  show Ends p e below s s₁ (mkF m 0 #[.val (.int p0), .val (.int p1)] []) _ _ _
  refine Ends.go (fun _ k => XS.iloadN X0.here hx rfl (hb hby d2_0) rfl k) ?_
  show Ends p e below s s₁ (mkF m 1 #[.val (.int p0), .val (.int p1)] [(.int p0)]) _ _ _
  by_cases hc1_1 : p0 = (0 : Int32)
  · refine Ends.go (fun _ k => XS.ifYes X0.here hx rfl (pc0 := 1) (pc' := 8) rfl (hb hby d2_1) rfl ((if0 _ _).trans (teq hc1_1).1) (by decide) (by decide) k) ?_
    show Ends p e below s s₁ (mkF m 8 #[.val (.int p0), .val (.int p1)] []) _ _ _
    refine Ends.go (fun _ k => XS.iloadN X0.here hx rfl (hb hby d2_8) rfl k) ?_
    show Ends p e below s s₁ (mkF m 9 #[.val (.int p0), .val (.int p1)] [(.int p1)]) _ _ _
    refine Ends.go (fun _ k => XS.bipush X0.here hx rfl (hb hby d2_9) k) ?_
    show Ends p e below s s₁ (mkF m 11 #[.val (.int p0), .val (.int p1)] [(.int (-6 : Int32)), (.int p1)]) _ _ _
    by_cases hc11_2 : p1 = (-6 : Int32)
    · refine Ends.go (fun _ k => XS.icmpYes X0.here hx rfl (pc0 := 11) (pc' := 30) rfl (hb hby d2_11) rfl (teq hc11_2).1 (by decide) (by decide) k) ?_
      show Ends p e below s s₁ (mkF m 30 #[.val (.int p0), .val (.int p1)] []) _ _ _
      have hc11_2i : p1.toInt = (-6 : Int) := congrArg Int32.toInt hc11_2
      obtain ⟨T3, X3, e3, st3⟩ := getS2 X0 hx hZ hown (host := "") (Or.inl (hw _ (List.mem_of_getElem? (i := 48) rfl))) Via.refl e0 (S_INTEGER.ext O0.2) (g := (mkF m 30 #[.val (.int p0), .val (.int p1)] [])) rfl (hb hby d2_30)
      refine Ends.go st3 ?_
      show Ends p e below s T3 (mkF m 33 #[.val (.int p0), .val (.int p1)] [(.ref w_INTEGER)]) _ _ _
      refine Ends.ret X3 hx Bd.notSynchronized (t := (.object "com/example/wakeline/wakeline/event/DeclaredType")) Bd.returns rfl (Or.inr (Or.inr (Or.inr (Or.inr ⟨rfl, rfl, rfl⟩)))) (hb hby d2_33) (by decide) (by decide) ?_
      refine ⟨?_, N0, e3⟩
      show (some (.ref w_INTEGER) : Option Value) = _
      rw [hr, if_pos hc1_1]
      exact congrArg (fun z => some (Value.ref z)) (Eq.symm (own_tI (by omega)))
    · refine Ends.go (fun _ k => XS.icmpNo X0.here hx rfl (hb hby d2_11) rfl (feq hc11_2).1 k) ?_
      show Ends p e below s s₁ (mkF m 14 #[.val (.int p0), .val (.int p1)] []) _ _ _
      have hc11_2i : ¬ (p1.toInt = (-6 : Int)) := fun q => hc11_2 (Int32.toInt_inj.mp q)
      refine Ends.go (fun _ k => XS.iloadN X0.here hx rfl (hb hby d2_14) rfl k) ?_
      show Ends p e below s s₁ (mkF m 15 #[.val (.int p0), .val (.int p1)] [(.int p1)]) _ _ _
      refine Ends.go (fun _ k => XS.bipush X0.here hx rfl (hb hby d2_15) k) ?_
      show Ends p e below s s₁ (mkF m 17 #[.val (.int p0), .val (.int p1)] [(.int (-5 : Int32)), (.int p1)]) _ _ _
      by_cases hc17_4 : p1 = (-5 : Int32)
      · refine Ends.go (fun _ k => XS.icmpYes X0.here hx rfl (pc0 := 17) (pc' := 30) rfl (hb hby d2_17) rfl (teq hc17_4).1 (by decide) (by decide) k) ?_
        show Ends p e below s s₁ (mkF m 30 #[.val (.int p0), .val (.int p1)] []) _ _ _
        have hc17_4i : p1.toInt = (-5 : Int) := congrArg Int32.toInt hc17_4
        obtain ⟨T5, X5, e5, st5⟩ := getS2 X0 hx hZ hown (host := "") (Or.inl (hw _ (List.mem_of_getElem? (i := 48) rfl))) Via.refl e0 (S_INTEGER.ext O0.2) (g := (mkF m 30 #[.val (.int p0), .val (.int p1)] [])) rfl (hb hby d2_30)
        refine Ends.go st5 ?_
        show Ends p e below s T5 (mkF m 33 #[.val (.int p0), .val (.int p1)] [(.ref w_INTEGER)]) _ _ _
        refine Ends.ret X5 hx Bd.notSynchronized (t := (.object "com/example/wakeline/wakeline/event/DeclaredType")) Bd.returns rfl (Or.inr (Or.inr (Or.inr (Or.inr ⟨rfl, rfl, rfl⟩)))) (hb hby d2_33) (by decide) (by decide) ?_
        refine ⟨?_, N0, e5⟩
        show (some (.ref w_INTEGER) : Option Value) = _
        rw [hr, if_pos hc1_1]
        exact congrArg (fun z => some (Value.ref z)) (Eq.symm (own_tI (by omega)))
      · refine Ends.go (fun _ k => XS.icmpNo X0.here hx rfl (hb hby d2_17) rfl (feq hc17_4).1 k) ?_
        show Ends p e below s s₁ (mkF m 20 #[.val (.int p0), .val (.int p1)] []) _ _ _
        have hc17_4i : ¬ (p1.toInt = (-5 : Int)) := fun q => hc17_4 (Int32.toInt_inj.mp q)
        refine Ends.go (fun _ k => XS.iloadN X0.here hx rfl (hb hby d2_20) rfl k) ?_
        show Ends p e below s s₁ (mkF m 21 #[.val (.int p0), .val (.int p1)] [(.int p1)]) _ _ _
        refine Ends.go (fun _ k => XS.iconst X0.here hx rfl (hb hby d2_21) k) ?_
        show Ends p e below s s₁ (mkF m 22 #[.val (.int p0), .val (.int p1)] [(.int (4 : Int32)), (.int p1)]) _ _ _
        by_cases hc22_6 : p1 = (4 : Int32)
        · refine Ends.go (fun _ k => XS.icmpYes X0.here hx rfl (pc0 := 22) (pc' := 30) rfl (hb hby d2_22) rfl (teq hc22_6).1 (by decide) (by decide) k) ?_
          show Ends p e below s s₁ (mkF m 30 #[.val (.int p0), .val (.int p1)] []) _ _ _
          have hc22_6i : p1.toInt = 4 := congrArg Int32.toInt hc22_6
          obtain ⟨T7, X7, e7, st7⟩ := getS2 X0 hx hZ hown (host := "") (Or.inl (hw _ (List.mem_of_getElem? (i := 48) rfl))) Via.refl e0 (S_INTEGER.ext O0.2) (g := (mkF m 30 #[.val (.int p0), .val (.int p1)] [])) rfl (hb hby d2_30)
          refine Ends.go st7 ?_
          show Ends p e below s T7 (mkF m 33 #[.val (.int p0), .val (.int p1)] [(.ref w_INTEGER)]) _ _ _
          refine Ends.ret X7 hx Bd.notSynchronized (t := (.object "com/example/wakeline/wakeline/event/DeclaredType")) Bd.returns rfl (Or.inr (Or.inr (Or.inr (Or.inr ⟨rfl, rfl, rfl⟩)))) (hb hby d2_33) (by decide) (by decide) ?_
          refine ⟨?_, N0, e7⟩
          show (some (.ref w_INTEGER) : Option Value) = _
          rw [hr, if_pos hc1_1]
          exact congrArg (fun z => some (Value.ref z)) (Eq.symm (own_tI (by omega)))
        · refine Ends.go (fun _ k => XS.icmpNo X0.here hx rfl (hb hby d2_22) rfl (feq hc22_6).1 k) ?_
          show Ends p e below s s₁ (mkF m 25 #[.val (.int p0), .val (.int p1)] []) _ _ _
          have hc22_6i : ¬ (p1.toInt = 4) := fun q => hc22_6 (Int32.toInt_inj.mp q)
          refine Ends.go (fun _ k => XS.iloadN X0.here hx rfl (hb hby d2_25) rfl k) ?_
          show Ends p e below s s₁ (mkF m 26 #[.val (.int p0), .val (.int p1)] [(.int p1)]) _ _ _
          refine Ends.go (fun _ k => XS.iconst X0.here hx rfl (hb hby d2_26) k) ?_
          show Ends p e below s s₁ (mkF m 27 #[.val (.int p0), .val (.int p1)] [(.int (5 : Int32)), (.int p1)]) _ _ _
          by_cases hc27_8 : p1 = (5 : Int32)
          · refine Ends.go (fun _ k => XS.icmpNo X0.here hx rfl (hb hby d2_27) rfl (teq hc27_8).2 k) ?_
            show Ends p e below s s₁ (mkF m 30 #[.val (.int p0), .val (.int p1)] []) _ _ _
            have hc27_8i : p1.toInt = 5 := congrArg Int32.toInt hc27_8
            obtain ⟨T9, X9, e9, st9⟩ := getS2 X0 hx hZ hown (host := "") (Or.inl (hw _ (List.mem_of_getElem? (i := 48) rfl))) Via.refl e0 (S_INTEGER.ext O0.2) (g := (mkF m 30 #[.val (.int p0), .val (.int p1)] [])) rfl (hb hby d2_30)
            refine Ends.go st9 ?_
            show Ends p e below s T9 (mkF m 33 #[.val (.int p0), .val (.int p1)] [(.ref w_INTEGER)]) _ _ _
            refine Ends.ret X9 hx Bd.notSynchronized (t := (.object "com/example/wakeline/wakeline/event/DeclaredType")) Bd.returns rfl (Or.inr (Or.inr (Or.inr (Or.inr ⟨rfl, rfl, rfl⟩)))) (hb hby d2_33) (by decide) (by decide) ?_
            refine ⟨?_, N0, e9⟩
            show (some (.ref w_INTEGER) : Option Value) = _
            rw [hr, if_pos hc1_1]
            exact congrArg (fun z => some (Value.ref z)) (Eq.symm (own_tI (by omega)))
          · refine Ends.go (fun _ k => XS.icmpYes X0.here hx rfl (pc0 := 27) (pc' := 34) rfl (hb hby d2_27) rfl (feq hc27_8).2 (by decide) (by decide) k) ?_
            show Ends p e below s s₁ (mkF m 34 #[.val (.int p0), .val (.int p1)] []) _ _ _
            have hc27_8i : ¬ (p1.toInt = 5) := fun q => hc27_8 (Int32.toInt_inj.mp q)
            refine Ends.go (fun _ k => XS.iloadN X0.here hx rfl (hb hby d2_34) rfl k) ?_
            show Ends p e below s s₁ (mkF m 35 #[.val (.int p0), .val (.int p1)] [(.int p1)]) _ _ _
            refine Ends.go (fun _ k => XS.iconst X0.here hx rfl (hb hby d2_35) k) ?_
            show Ends p e below s s₁ (mkF m 36 #[.val (.int p0), .val (.int p1)] [(.int (2 : Int32)), (.int p1)]) _ _ _
            by_cases hc36_10 : p1 < (2 : Int32)
            · refine Ends.go (fun _ k => XS.icmpYes X0.here hx rfl (pc0 := 36) (pc' := 44) rfl (hb hby d2_36) rfl (tlt hc36_10).1 (by decide) (by decide) k) ?_
              show Ends p e below s s₁ (mkF m 44 #[.val (.int p0), .val (.int p1)] []) _ _ _
              have hc36_10i : p1.toInt < 2 := Int32.lt_iff_toInt_lt.mp hc36_10
              refine Ends.go (fun _ k => XS.iloadN X0.here hx rfl (hb hby d2_44) rfl k) ?_
              show Ends p e below s s₁ (mkF m 45 #[.val (.int p0), .val (.int p1)] [(.int p1)]) _ _ _
              refine Ends.go (fun _ k => XS.bipush X0.here hx rfl (hb hby d2_45) k) ?_
              show Ends p e below s s₁ (mkF m 47 #[.val (.int p0), .val (.int p1)] [(.int (6 : Int32)), (.int p1)]) _ _ _
              by_cases hc47_11 : p1 < (6 : Int32)
              · refine Ends.go (fun _ k => XS.icmpYes X0.here hx rfl (pc0 := 47) (pc' := 60) rfl (hb hby d2_47) rfl (tlt hc47_11).1 (by decide) (by decide) k) ?_
                show Ends p e below s s₁ (mkF m 60 #[.val (.int p0), .val (.int p1)] []) _ _ _
                have hc47_11i : p1.toInt < 6 := Int32.lt_iff_toInt_lt.mp hc47_11
                refine Ends.go (fun _ k => XS.iloadN X0.here hx rfl (hb hby d2_60) rfl k) ?_
                show Ends p e below s s₁ (mkF m 61 #[.val (.int p0), .val (.int p1)] [(.int p1)]) _ _ _
                refine Ends.go (fun _ k => XS.iconst X0.here hx rfl (hb hby d2_61) k) ?_
                show Ends p e below s s₁ (mkF m 62 #[.val (.int p0), .val (.int p1)] [(.int (1 : Int32)), (.int p1)]) _ _ _
                by_cases hc62_12 : p1 = (1 : Int32)
                · refine Ends.go (fun _ k => XS.icmpYes X0.here hx rfl (pc0 := 62) (pc' := 108) rfl (hb hby d2_62) rfl (teq hc62_12).1 (by decide) (by decide) k) ?_
                  show Ends p e below s s₁ (mkF m 108 #[.val (.int p0), .val (.int p1)] []) _ _ _
                  have hc62_12i : p1.toInt = 1 := congrArg Int32.toInt hc62_12
                  obtain ⟨T13, X13, e13, st13⟩ := getS2 X0 hx hZ hown (host := "") (Or.inl (hw _ (List.mem_of_getElem? (i := 45) rfl))) Via.refl e0 (S_CHARACTER.ext O0.2) (g := (mkF m 108 #[.val (.int p0), .val (.int p1)] [])) rfl (hb hby d2_108)
                  refine Ends.go st13 ?_
                  show Ends p e below s T13 (mkF m 111 #[.val (.int p0), .val (.int p1)] [(.ref w_CHARACTER)]) _ _ _
                  refine Ends.ret X13 hx Bd.notSynchronized (t := (.object "com/example/wakeline/wakeline/event/DeclaredType")) Bd.returns rfl (Or.inr (Or.inr (Or.inr (Or.inr ⟨rfl, rfl, rfl⟩)))) (hb hby d2_111) (by decide) (by decide) ?_
                  refine ⟨?_, N0, e13⟩
                  show (some (.ref w_CHARACTER) : Option Value) = _
                  rw [hr, if_pos hc1_1]
                  exact congrArg (fun z => some (Value.ref z)) (Eq.symm (own_tC (by omega)))
                · refine Ends.go (fun _ k => XS.icmpNo X0.here hx rfl (hb hby d2_62) rfl (feq hc62_12).1 k) ?_
                  show Ends p e below s s₁ (mkF m 65 #[.val (.int p0), .val (.int p1)] []) _ _ _
                  have hc62_12i : ¬ (p1.toInt = 1) := fun q => hc62_12 (Int32.toInt_inj.mp q)
                  refine Ends.go (fun _ k => XS.iloadN X0.here hx rfl (hb hby d2_65) rfl k) ?_
                  show Ends p e below s s₁ (mkF m 66 #[.val (.int p0), .val (.int p1)] [(.int p1)]) _ _ _
                  refine Ends.go (fun _ k => XS.bipush X0.here hx rfl (hb hby d2_66) k) ?_
                  show Ends p e below s s₁ (mkF m 68 #[.val (.int p0), .val (.int p1)] [(.int (12 : Int32)), (.int p1)]) _ _ _
                  by_cases hc68_14 : p1 = (12 : Int32)
                  · refine Ends.go (fun _ k => XS.icmpYes X0.here hx rfl (pc0 := 68) (pc' := 108) rfl (hb hby d2_68) rfl (teq hc68_14).1 (by decide) (by decide) k) ?_
                    show Ends p e below s s₁ (mkF m 108 #[.val (.int p0), .val (.int p1)] []) _ _ _
                    have hc68_14i : p1.toInt = 12 := congrArg Int32.toInt hc68_14
                    obtain ⟨T15, X15, e15, st15⟩ := getS2 X0 hx hZ hown (host := "") (Or.inl (hw _ (List.mem_of_getElem? (i := 45) rfl))) Via.refl e0 (S_CHARACTER.ext O0.2) (g := (mkF m 108 #[.val (.int p0), .val (.int p1)] [])) rfl (hb hby d2_108)
                    refine Ends.go st15 ?_
                    show Ends p e below s T15 (mkF m 111 #[.val (.int p0), .val (.int p1)] [(.ref w_CHARACTER)]) _ _ _
                    refine Ends.ret X15 hx Bd.notSynchronized (t := (.object "com/example/wakeline/wakeline/event/DeclaredType")) Bd.returns rfl (Or.inr (Or.inr (Or.inr (Or.inr ⟨rfl, rfl, rfl⟩)))) (hb hby d2_111) (by decide) (by decide) ?_
                    refine ⟨?_, N0, e15⟩
                    show (some (.ref w_CHARACTER) : Option Value) = _
                    rw [hr, if_pos hc1_1]
                    exact congrArg (fun z => some (Value.ref z)) (Eq.symm (own_tC (by omega)))
                  · refine Ends.go (fun _ k => XS.icmpNo X0.here hx rfl (hb hby d2_68) rfl (feq hc68_14).1 k) ?_
                    show Ends p e below s s₁ (mkF m 71 #[.val (.int p0), .val (.int p1)] []) _ _ _
                    have hc68_14i : ¬ (p1.toInt = 12) := fun q => hc68_14 (Int32.toInt_inj.mp q)
                    refine Ends.go (fun _ k => XS.iloadN X0.here hx rfl (hb hby d2_71) rfl k) ?_
                    show Ends p e below s s₁ (mkF m 72 #[.val (.int p0), .val (.int p1)] [(.int p1)]) _ _ _
                    refine Ends.go (fun _ k => XS.iconst X0.here hx rfl (hb hby d2_72) k) ?_
                    show Ends p e below s s₁ (mkF m 73 #[.val (.int p0), .val (.int p1)] [(.int (-1 : Int32)), (.int p1)]) _ _ _
                    by_cases hc73_16 : p1 = (-1 : Int32)
                    · refine Ends.go (fun _ k => XS.icmpYes X0.here hx rfl (pc0 := 73) (pc' := 108) rfl (hb hby d2_73) rfl (teq hc73_16).1 (by decide) (by decide) k) ?_
                      show Ends p e below s s₁ (mkF m 108 #[.val (.int p0), .val (.int p1)] []) _ _ _
                      have hc73_16i : p1.toInt = (-1 : Int) := congrArg Int32.toInt hc73_16
                      obtain ⟨T17, X17, e17, st17⟩ := getS2 X0 hx hZ hown (host := "") (Or.inl (hw _ (List.mem_of_getElem? (i := 45) rfl))) Via.refl e0 (S_CHARACTER.ext O0.2) (g := (mkF m 108 #[.val (.int p0), .val (.int p1)] [])) rfl (hb hby d2_108)
                      refine Ends.go st17 ?_
                      show Ends p e below s T17 (mkF m 111 #[.val (.int p0), .val (.int p1)] [(.ref w_CHARACTER)]) _ _ _
                      refine Ends.ret X17 hx Bd.notSynchronized (t := (.object "com/example/wakeline/wakeline/event/DeclaredType")) Bd.returns rfl (Or.inr (Or.inr (Or.inr (Or.inr ⟨rfl, rfl, rfl⟩)))) (hb hby d2_111) (by decide) (by decide) ?_
                      refine ⟨?_, N0, e17⟩
                      show (some (.ref w_CHARACTER) : Option Value) = _
                      rw [hr, if_pos hc1_1]
                      exact congrArg (fun z => some (Value.ref z)) (Eq.symm (own_tC (by omega)))
                    · refine Ends.go (fun _ k => XS.icmpNo X0.here hx rfl (hb hby d2_73) rfl (feq hc73_16).1 k) ?_
                      show Ends p e below s s₁ (mkF m 76 #[.val (.int p0), .val (.int p1)] []) _ _ _
                      have hc73_16i : ¬ (p1.toInt = (-1 : Int)) := fun q => hc73_16 (Int32.toInt_inj.mp q)
                      refine Ends.go (fun _ k => XS.iloadN X0.here hx rfl (hb hby d2_76) rfl k) ?_
                      show Ends p e below s s₁ (mkF m 77 #[.val (.int p0), .val (.int p1)] [(.int p1)]) _ _ _
                      refine Ends.go (fun _ k => XS.bipush X0.here hx rfl (hb hby d2_77) k) ?_
                      show Ends p e below s s₁ (mkF m 79 #[.val (.int p0), .val (.int p1)] [(.int (-9 : Int32)), (.int p1)]) _ _ _
                      by_cases hc79_18 : p1 = (-9 : Int32)
                      · refine Ends.go (fun _ k => XS.icmpYes X0.here hx rfl (pc0 := 79) (pc' := 108) rfl (hb hby d2_79) rfl (teq hc79_18).1 (by decide) (by decide) k) ?_
                        show Ends p e below s s₁ (mkF m 108 #[.val (.int p0), .val (.int p1)] []) _ _ _
                        have hc79_18i : p1.toInt = (-9 : Int) := congrArg Int32.toInt hc79_18
                        obtain ⟨T19, X19, e19, st19⟩ := getS2 X0 hx hZ hown (host := "") (Or.inl (hw _ (List.mem_of_getElem? (i := 45) rfl))) Via.refl e0 (S_CHARACTER.ext O0.2) (g := (mkF m 108 #[.val (.int p0), .val (.int p1)] [])) rfl (hb hby d2_108)
                        refine Ends.go st19 ?_
                        show Ends p e below s T19 (mkF m 111 #[.val (.int p0), .val (.int p1)] [(.ref w_CHARACTER)]) _ _ _
                        refine Ends.ret X19 hx Bd.notSynchronized (t := (.object "com/example/wakeline/wakeline/event/DeclaredType")) Bd.returns rfl (Or.inr (Or.inr (Or.inr (Or.inr ⟨rfl, rfl, rfl⟩)))) (hb hby d2_111) (by decide) (by decide) ?_
                        refine ⟨?_, N0, e19⟩
                        show (some (.ref w_CHARACTER) : Option Value) = _
                        rw [hr, if_pos hc1_1]
                        exact congrArg (fun z => some (Value.ref z)) (Eq.symm (own_tC (by omega)))
                      · refine Ends.go (fun _ k => XS.icmpNo X0.here hx rfl (hb hby d2_79) rfl (feq hc79_18).1 k) ?_
                        show Ends p e below s s₁ (mkF m 82 #[.val (.int p0), .val (.int p1)] []) _ _ _
                        have hc79_18i : ¬ (p1.toInt = (-9 : Int)) := fun q => hc79_18 (Int32.toInt_inj.mp q)
                        refine Ends.go (fun _ k => XS.iloadN X0.here hx rfl (hb hby d2_82) rfl k) ?_
                        show Ends p e below s s₁ (mkF m 83 #[.val (.int p0), .val (.int p1)] [(.int p1)]) _ _ _
                        refine Ends.go (fun _ k => XS.bipush X0.here hx rfl (hb hby d2_83) k) ?_
                        show Ends p e below s s₁ (mkF m 85 #[.val (.int p0), .val (.int p1)] [(.int (-15 : Int32)), (.int p1)]) _ _ _
                        by_cases hc85_20 : p1 = (-15 : Int32)
                        · refine Ends.go (fun _ k => XS.icmpYes X0.here hx rfl (pc0 := 85) (pc' := 108) rfl (hb hby d2_85) rfl (teq hc85_20).1 (by decide) (by decide) k) ?_
                          show Ends p e below s s₁ (mkF m 108 #[.val (.int p0), .val (.int p1)] []) _ _ _
                          have hc85_20i : p1.toInt = (-15 : Int) := congrArg Int32.toInt hc85_20
                          obtain ⟨T21, X21, e21, st21⟩ := getS2 X0 hx hZ hown (host := "") (Or.inl (hw _ (List.mem_of_getElem? (i := 45) rfl))) Via.refl e0 (S_CHARACTER.ext O0.2) (g := (mkF m 108 #[.val (.int p0), .val (.int p1)] [])) rfl (hb hby d2_108)
                          refine Ends.go st21 ?_
                          show Ends p e below s T21 (mkF m 111 #[.val (.int p0), .val (.int p1)] [(.ref w_CHARACTER)]) _ _ _
                          refine Ends.ret X21 hx Bd.notSynchronized (t := (.object "com/example/wakeline/wakeline/event/DeclaredType")) Bd.returns rfl (Or.inr (Or.inr (Or.inr (Or.inr ⟨rfl, rfl, rfl⟩)))) (hb hby d2_111) (by decide) (by decide) ?_
                          refine ⟨?_, N0, e21⟩
                          show (some (.ref w_CHARACTER) : Option Value) = _
                          rw [hr, if_pos hc1_1]
                          exact congrArg (fun z => some (Value.ref z)) (Eq.symm (own_tC (by omega)))
                        · refine Ends.go (fun _ k => XS.icmpNo X0.here hx rfl (hb hby d2_85) rfl (feq hc85_20).1 k) ?_
                          show Ends p e below s s₁ (mkF m 88 #[.val (.int p0), .val (.int p1)] []) _ _ _
                          have hc85_20i : ¬ (p1.toInt = (-15 : Int)) := fun q => hc85_20 (Int32.toInt_inj.mp q)
                          refine Ends.go (fun _ k => XS.iloadN X0.here hx rfl (hb hby d2_88) rfl k) ?_
                          show Ends p e below s s₁ (mkF m 89 #[.val (.int p0), .val (.int p1)] [(.int p1)]) _ _ _
                          refine Ends.go (fun _ k => XS.bipush X0.here hx rfl (hb hby d2_89) k) ?_
                          show Ends p e below s s₁ (mkF m 91 #[.val (.int p0), .val (.int p1)] [(.int (-16 : Int32)), (.int p1)]) _ _ _
                          by_cases hc91_22 : p1 = (-16 : Int32)
                          · refine Ends.go (fun _ k => XS.icmpYes X0.here hx rfl (pc0 := 91) (pc' := 108) rfl (hb hby d2_91) rfl (teq hc91_22).1 (by decide) (by decide) k) ?_
                            show Ends p e below s s₁ (mkF m 108 #[.val (.int p0), .val (.int p1)] []) _ _ _
                            have hc91_22i : p1.toInt = (-16 : Int) := congrArg Int32.toInt hc91_22
                            obtain ⟨T23, X23, e23, st23⟩ := getS2 X0 hx hZ hown (host := "") (Or.inl (hw _ (List.mem_of_getElem? (i := 45) rfl))) Via.refl e0 (S_CHARACTER.ext O0.2) (g := (mkF m 108 #[.val (.int p0), .val (.int p1)] [])) rfl (hb hby d2_108)
                            refine Ends.go st23 ?_
                            show Ends p e below s T23 (mkF m 111 #[.val (.int p0), .val (.int p1)] [(.ref w_CHARACTER)]) _ _ _
                            refine Ends.ret X23 hx Bd.notSynchronized (t := (.object "com/example/wakeline/wakeline/event/DeclaredType")) Bd.returns rfl (Or.inr (Or.inr (Or.inr (Or.inr ⟨rfl, rfl, rfl⟩)))) (hb hby d2_111) (by decide) (by decide) ?_
                            refine ⟨?_, N0, e23⟩
                            show (some (.ref w_CHARACTER) : Option Value) = _
                            rw [hr, if_pos hc1_1]
                            exact congrArg (fun z => some (Value.ref z)) (Eq.symm (own_tC (by omega)))
                          · refine Ends.go (fun _ k => XS.icmpNo X0.here hx rfl (hb hby d2_91) rfl (feq hc91_22).1 k) ?_
                            show Ends p e below s s₁ (mkF m 94 #[.val (.int p0), .val (.int p1)] []) _ _ _
                            have hc91_22i : ¬ (p1.toInt = (-16 : Int)) := fun q => hc91_22 (Int32.toInt_inj.mp q)
                            refine Ends.go (fun _ k => XS.iloadN X0.here hx rfl (hb hby d2_94) rfl k) ?_
                            show Ends p e below s s₁ (mkF m 95 #[.val (.int p0), .val (.int p1)] [(.int p1)]) _ _ _
                            refine Ends.go (fun _ k => XS.sipush X0.here hx rfl (hb hby d2_95) k) ?_
                            show Ends p e below s s₁ (mkF m 98 #[.val (.int p0), .val (.int p1)] [(.int (2005 : Int32)), (.int p1)]) _ _ _
                            by_cases hc98_24 : p1 = (2005 : Int32)
                            · refine Ends.go (fun _ k => XS.icmpYes X0.here hx rfl (pc0 := 98) (pc' := 108) rfl (hb hby d2_98) rfl (teq hc98_24).1 (by decide) (by decide) k) ?_
                              show Ends p e below s s₁ (mkF m 108 #[.val (.int p0), .val (.int p1)] []) _ _ _
                              have hc98_24i : p1.toInt = 2005 := congrArg Int32.toInt hc98_24
                              obtain ⟨T25, X25, e25, st25⟩ := getS2 X0 hx hZ hown (host := "") (Or.inl (hw _ (List.mem_of_getElem? (i := 45) rfl))) Via.refl e0 (S_CHARACTER.ext O0.2) (g := (mkF m 108 #[.val (.int p0), .val (.int p1)] [])) rfl (hb hby d2_108)
                              refine Ends.go st25 ?_
                              show Ends p e below s T25 (mkF m 111 #[.val (.int p0), .val (.int p1)] [(.ref w_CHARACTER)]) _ _ _
                              refine Ends.ret X25 hx Bd.notSynchronized (t := (.object "com/example/wakeline/wakeline/event/DeclaredType")) Bd.returns rfl (Or.inr (Or.inr (Or.inr (Or.inr ⟨rfl, rfl, rfl⟩)))) (hb hby d2_111) (by decide) (by decide) ?_
                              refine ⟨?_, N0, e25⟩
                              show (some (.ref w_CHARACTER) : Option Value) = _
                              rw [hr, if_pos hc1_1]
                              exact congrArg (fun z => some (Value.ref z)) (Eq.symm (own_tC (by omega)))
                            · refine Ends.go (fun _ k => XS.icmpNo X0.here hx rfl (hb hby d2_98) rfl (feq hc98_24).1 k) ?_
                              show Ends p e below s s₁ (mkF m 101 #[.val (.int p0), .val (.int p1)] []) _ _ _
                              have hc98_24i : ¬ (p1.toInt = 2005) := fun q => hc98_24 (Int32.toInt_inj.mp q)
                              refine Ends.go (fun _ k => XS.iloadN X0.here hx rfl (hb hby d2_101) rfl k) ?_
                              show Ends p e below s s₁ (mkF m 102 #[.val (.int p0), .val (.int p1)] [(.int p1)]) _ _ _
                              refine Ends.go (fun _ k => XS.sipush X0.here hx rfl (hb hby d2_102) k) ?_
                              show Ends p e below s s₁ (mkF m 105 #[.val (.int p0), .val (.int p1)] [(.int (2011 : Int32)), (.int p1)]) _ _ _
                              by_cases hc105_26 : p1 = (2011 : Int32)
                              · refine Ends.go (fun _ k => XS.icmpNo X0.here hx rfl (hb hby d2_105) rfl (teq hc105_26).2 k) ?_
                                show Ends p e below s s₁ (mkF m 108 #[.val (.int p0), .val (.int p1)] []) _ _ _
                                have hc105_26i : p1.toInt = 2011 := congrArg Int32.toInt hc105_26
                                obtain ⟨T27, X27, e27, st27⟩ := getS2 X0 hx hZ hown (host := "") (Or.inl (hw _ (List.mem_of_getElem? (i := 45) rfl))) Via.refl e0 (S_CHARACTER.ext O0.2) (g := (mkF m 108 #[.val (.int p0), .val (.int p1)] [])) rfl (hb hby d2_108)
                                refine Ends.go st27 ?_
                                show Ends p e below s T27 (mkF m 111 #[.val (.int p0), .val (.int p1)] [(.ref w_CHARACTER)]) _ _ _
                                refine Ends.ret X27 hx Bd.notSynchronized (t := (.object "com/example/wakeline/wakeline/event/DeclaredType")) Bd.returns rfl (Or.inr (Or.inr (Or.inr (Or.inr ⟨rfl, rfl, rfl⟩)))) (hb hby d2_111) (by decide) (by decide) ?_
                                refine ⟨?_, N0, e27⟩
                                show (some (.ref w_CHARACTER) : Option Value) = _
                                rw [hr, if_pos hc1_1]
                                exact congrArg (fun z => some (Value.ref z)) (Eq.symm (own_tC (by omega)))
                              · refine Ends.go (fun _ k => XS.icmpYes X0.here hx rfl (pc0 := 105) (pc' := 112) rfl (hb hby d2_105) rfl (feq hc105_26).2 (by decide) (by decide) k) ?_
                                show Ends p e below s s₁ (mkF m 112 #[.val (.int p0), .val (.int p1)] []) _ _ _
                                have hc105_26i : ¬ (p1.toInt = 2011) := fun q => hc105_26 (Int32.toInt_inj.mp q)
                                obtain ⟨T28, X28, e28, st28⟩ := getS2 X0 hx hZ hown (host := "") (Or.inl (hw _ (List.mem_of_getElem? (i := 10) rfl))) Via.refl e0 (S_OTHER.ext O0.2) (g := (mkF m 112 #[.val (.int p0), .val (.int p1)] [])) rfl (hb hby d2_112)
                                refine Ends.go st28 ?_
                                show Ends p e below s T28 (mkF m 115 #[.val (.int p0), .val (.int p1)] [(.ref w_OTHER)]) _ _ _
                                refine Ends.ret X28 hx Bd.notSynchronized (t := (.object "com/example/wakeline/wakeline/event/DeclaredType")) Bd.returns rfl (Or.inr (Or.inr (Or.inr (Or.inr ⟨rfl, rfl, rfl⟩)))) (hb hby d2_115) (by decide) (by decide) ?_
                                refine ⟨?_, N0, e28⟩
                                show (some (.ref w_OTHER) : Option Value) = _
                                rw [hr, if_pos hc1_1]
                                exact congrArg (fun z => some (Value.ref z)) (Eq.symm (own_tO (by omega) (by omega) (by omega)))
              · refine Ends.go (fun _ k => XS.icmpNo X0.here hx rfl (hb hby d2_47) rfl (flt hc47_11).1 k) ?_
                show Ends p e below s s₁ (mkF m 50 #[.val (.int p0), .val (.int p1)] []) _ _ _
                have hc47_11i : ¬ (p1.toInt < 6) := fun q => hc47_11 (Int32.lt_iff_toInt_lt.mpr q)
                refine Ends.go (fun _ k => XS.iloadN X0.here hx rfl (hb hby d2_50) rfl k) ?_
                show Ends p e below s s₁ (mkF m 51 #[.val (.int p0), .val (.int p1)] [(.int p1)]) _ _ _
                refine Ends.go (fun _ k => XS.bipush X0.here hx rfl (hb hby d2_51) k) ?_
                show Ends p e below s s₁ (mkF m 53 #[.val (.int p0), .val (.int p1)] [(.int (8 : Int32)), (.int p1)]) _ _ _
                by_cases hc53_29 : (8 : Int32) < p1
                · refine Ends.go (fun _ k => XS.icmpYes X0.here hx rfl (pc0 := 53) (pc' := 60) rfl (hb hby d2_53) rfl (tlt hc53_29).2.2.1 (by decide) (by decide) k) ?_
                  show Ends p e below s s₁ (mkF m 60 #[.val (.int p0), .val (.int p1)] []) _ _ _
                  have hc53_29i : 8 < p1.toInt := Int32.lt_iff_toInt_lt.mp hc53_29
                  refine Ends.go (fun _ k => XS.iloadN X0.here hx rfl (hb hby d2_60) rfl k) ?_
                  show Ends p e below s s₁ (mkF m 61 #[.val (.int p0), .val (.int p1)] [(.int p1)]) _ _ _
                  refine Ends.go (fun _ k => XS.iconst X0.here hx rfl (hb hby d2_61) k) ?_
                  show Ends p e below s s₁ (mkF m 62 #[.val (.int p0), .val (.int p1)] [(.int (1 : Int32)), (.int p1)]) _ _ _
                  by_cases hc62_30 : p1 = (1 : Int32)
                  · refine Ends.go (fun _ k => XS.icmpYes X0.here hx rfl (pc0 := 62) (pc' := 108) rfl (hb hby d2_62) rfl (teq hc62_30).1 (by decide) (by decide) k) ?_
                    show Ends p e below s s₁ (mkF m 108 #[.val (.int p0), .val (.int p1)] []) _ _ _
                    have hc62_30i : p1.toInt = 1 := congrArg Int32.toInt hc62_30
                    obtain ⟨T31, X31, e31, st31⟩ := getS2 X0 hx hZ hown (host := "") (Or.inl (hw _ (List.mem_of_getElem? (i := 45) rfl))) Via.refl e0 (S_CHARACTER.ext O0.2) (g := (mkF m 108 #[.val (.int p0), .val (.int p1)] [])) rfl (hb hby d2_108)
                    refine Ends.go st31 ?_
                    show Ends p e below s T31 (mkF m 111 #[.val (.int p0), .val (.int p1)] [(.ref w_CHARACTER)]) _ _ _
                    refine Ends.ret X31 hx Bd.notSynchronized (t := (.object "com/example/wakeline/wakeline/event/DeclaredType")) Bd.returns rfl (Or.inr (Or.inr (Or.inr (Or.inr ⟨rfl, rfl, rfl⟩)))) (hb hby d2_111) (by decide) (by decide) ?_
                    refine ⟨?_, N0, e31⟩
                    show (some (.ref w_CHARACTER) : Option Value) = _
                    rw [hr, if_pos hc1_1]
                    exact congrArg (fun z => some (Value.ref z)) (Eq.symm (own_tC (by omega)))
                  · refine Ends.go (fun _ k => XS.icmpNo X0.here hx rfl (hb hby d2_62) rfl (feq hc62_30).1 k) ?_
                    show Ends p e below s s₁ (mkF m 65 #[.val (.int p0), .val (.int p1)] []) _ _ _
                    have hc62_30i : ¬ (p1.toInt = 1) := fun q => hc62_30 (Int32.toInt_inj.mp q)
                    refine Ends.go (fun _ k => XS.iloadN X0.here hx rfl (hb hby d2_65) rfl k) ?_
                    show Ends p e below s s₁ (mkF m 66 #[.val (.int p0), .val (.int p1)] [(.int p1)]) _ _ _
                    refine Ends.go (fun _ k => XS.bipush X0.here hx rfl (hb hby d2_66) k) ?_
                    show Ends p e below s s₁ (mkF m 68 #[.val (.int p0), .val (.int p1)] [(.int (12 : Int32)), (.int p1)]) _ _ _
                    by_cases hc68_32 : p1 = (12 : Int32)
                    · refine Ends.go (fun _ k => XS.icmpYes X0.here hx rfl (pc0 := 68) (pc' := 108) rfl (hb hby d2_68) rfl (teq hc68_32).1 (by decide) (by decide) k) ?_
                      show Ends p e below s s₁ (mkF m 108 #[.val (.int p0), .val (.int p1)] []) _ _ _
                      have hc68_32i : p1.toInt = 12 := congrArg Int32.toInt hc68_32
                      obtain ⟨T33, X33, e33, st33⟩ := getS2 X0 hx hZ hown (host := "") (Or.inl (hw _ (List.mem_of_getElem? (i := 45) rfl))) Via.refl e0 (S_CHARACTER.ext O0.2) (g := (mkF m 108 #[.val (.int p0), .val (.int p1)] [])) rfl (hb hby d2_108)
                      refine Ends.go st33 ?_
                      show Ends p e below s T33 (mkF m 111 #[.val (.int p0), .val (.int p1)] [(.ref w_CHARACTER)]) _ _ _
                      refine Ends.ret X33 hx Bd.notSynchronized (t := (.object "com/example/wakeline/wakeline/event/DeclaredType")) Bd.returns rfl (Or.inr (Or.inr (Or.inr (Or.inr ⟨rfl, rfl, rfl⟩)))) (hb hby d2_111) (by decide) (by decide) ?_
                      refine ⟨?_, N0, e33⟩
                      show (some (.ref w_CHARACTER) : Option Value) = _
                      rw [hr, if_pos hc1_1]
                      exact congrArg (fun z => some (Value.ref z)) (Eq.symm (own_tC (by omega)))
                    · refine Ends.go (fun _ k => XS.icmpNo X0.here hx rfl (hb hby d2_68) rfl (feq hc68_32).1 k) ?_
                      show Ends p e below s s₁ (mkF m 71 #[.val (.int p0), .val (.int p1)] []) _ _ _
                      have hc68_32i : ¬ (p1.toInt = 12) := fun q => hc68_32 (Int32.toInt_inj.mp q)
                      refine Ends.go (fun _ k => XS.iloadN X0.here hx rfl (hb hby d2_71) rfl k) ?_
                      show Ends p e below s s₁ (mkF m 72 #[.val (.int p0), .val (.int p1)] [(.int p1)]) _ _ _
                      refine Ends.go (fun _ k => XS.iconst X0.here hx rfl (hb hby d2_72) k) ?_
                      show Ends p e below s s₁ (mkF m 73 #[.val (.int p0), .val (.int p1)] [(.int (-1 : Int32)), (.int p1)]) _ _ _
                      by_cases hc73_34 : p1 = (-1 : Int32)
                      · refine Ends.go (fun _ k => XS.icmpYes X0.here hx rfl (pc0 := 73) (pc' := 108) rfl (hb hby d2_73) rfl (teq hc73_34).1 (by decide) (by decide) k) ?_
                        show Ends p e below s s₁ (mkF m 108 #[.val (.int p0), .val (.int p1)] []) _ _ _
                        have hc73_34i : p1.toInt = (-1 : Int) := congrArg Int32.toInt hc73_34
                        obtain ⟨T35, X35, e35, st35⟩ := getS2 X0 hx hZ hown (host := "") (Or.inl (hw _ (List.mem_of_getElem? (i := 45) rfl))) Via.refl e0 (S_CHARACTER.ext O0.2) (g := (mkF m 108 #[.val (.int p0), .val (.int p1)] [])) rfl (hb hby d2_108)
                        refine Ends.go st35 ?_
                        show Ends p e below s T35 (mkF m 111 #[.val (.int p0), .val (.int p1)] [(.ref w_CHARACTER)]) _ _ _
                        refine Ends.ret X35 hx Bd.notSynchronized (t := (.object "com/example/wakeline/wakeline/event/DeclaredType")) Bd.returns rfl (Or.inr (Or.inr (Or.inr (Or.inr ⟨rfl, rfl, rfl⟩)))) (hb hby d2_111) (by decide) (by decide) ?_
                        refine ⟨?_, N0, e35⟩
                        show (some (.ref w_CHARACTER) : Option Value) = _
                        rw [hr, if_pos hc1_1]
                        exact congrArg (fun z => some (Value.ref z)) (Eq.symm (own_tC (by omega)))
                      · refine Ends.go (fun _ k => XS.icmpNo X0.here hx rfl (hb hby d2_73) rfl (feq hc73_34).1 k) ?_
                        show Ends p e below s s₁ (mkF m 76 #[.val (.int p0), .val (.int p1)] []) _ _ _
                        have hc73_34i : ¬ (p1.toInt = (-1 : Int)) := fun q => hc73_34 (Int32.toInt_inj.mp q)
                        refine Ends.go (fun _ k => XS.iloadN X0.here hx rfl (hb hby d2_76) rfl k) ?_
                        show Ends p e below s s₁ (mkF m 77 #[.val (.int p0), .val (.int p1)] [(.int p1)]) _ _ _
                        refine Ends.go (fun _ k => XS.bipush X0.here hx rfl (hb hby d2_77) k) ?_
                        show Ends p e below s s₁ (mkF m 79 #[.val (.int p0), .val (.int p1)] [(.int (-9 : Int32)), (.int p1)]) _ _ _
                        by_cases hc79_36 : p1 = (-9 : Int32)
                        · refine Ends.go (fun _ k => XS.icmpYes X0.here hx rfl (pc0 := 79) (pc' := 108) rfl (hb hby d2_79) rfl (teq hc79_36).1 (by decide) (by decide) k) ?_
                          show Ends p e below s s₁ (mkF m 108 #[.val (.int p0), .val (.int p1)] []) _ _ _
                          have hc79_36i : p1.toInt = (-9 : Int) := congrArg Int32.toInt hc79_36
                          obtain ⟨T37, X37, e37, st37⟩ := getS2 X0 hx hZ hown (host := "") (Or.inl (hw _ (List.mem_of_getElem? (i := 45) rfl))) Via.refl e0 (S_CHARACTER.ext O0.2) (g := (mkF m 108 #[.val (.int p0), .val (.int p1)] [])) rfl (hb hby d2_108)
                          refine Ends.go st37 ?_
                          show Ends p e below s T37 (mkF m 111 #[.val (.int p0), .val (.int p1)] [(.ref w_CHARACTER)]) _ _ _
                          refine Ends.ret X37 hx Bd.notSynchronized (t := (.object "com/example/wakeline/wakeline/event/DeclaredType")) Bd.returns rfl (Or.inr (Or.inr (Or.inr (Or.inr ⟨rfl, rfl, rfl⟩)))) (hb hby d2_111) (by decide) (by decide) ?_
                          refine ⟨?_, N0, e37⟩
                          show (some (.ref w_CHARACTER) : Option Value) = _
                          rw [hr, if_pos hc1_1]
                          exact congrArg (fun z => some (Value.ref z)) (Eq.symm (own_tC (by omega)))
                        · refine Ends.go (fun _ k => XS.icmpNo X0.here hx rfl (hb hby d2_79) rfl (feq hc79_36).1 k) ?_
                          show Ends p e below s s₁ (mkF m 82 #[.val (.int p0), .val (.int p1)] []) _ _ _
                          have hc79_36i : ¬ (p1.toInt = (-9 : Int)) := fun q => hc79_36 (Int32.toInt_inj.mp q)
                          refine Ends.go (fun _ k => XS.iloadN X0.here hx rfl (hb hby d2_82) rfl k) ?_
                          show Ends p e below s s₁ (mkF m 83 #[.val (.int p0), .val (.int p1)] [(.int p1)]) _ _ _
                          refine Ends.go (fun _ k => XS.bipush X0.here hx rfl (hb hby d2_83) k) ?_
                          show Ends p e below s s₁ (mkF m 85 #[.val (.int p0), .val (.int p1)] [(.int (-15 : Int32)), (.int p1)]) _ _ _
                          by_cases hc85_38 : p1 = (-15 : Int32)
                          · refine Ends.go (fun _ k => XS.icmpYes X0.here hx rfl (pc0 := 85) (pc' := 108) rfl (hb hby d2_85) rfl (teq hc85_38).1 (by decide) (by decide) k) ?_
                            show Ends p e below s s₁ (mkF m 108 #[.val (.int p0), .val (.int p1)] []) _ _ _
                            have hc85_38i : p1.toInt = (-15 : Int) := congrArg Int32.toInt hc85_38
                            obtain ⟨T39, X39, e39, st39⟩ := getS2 X0 hx hZ hown (host := "") (Or.inl (hw _ (List.mem_of_getElem? (i := 45) rfl))) Via.refl e0 (S_CHARACTER.ext O0.2) (g := (mkF m 108 #[.val (.int p0), .val (.int p1)] [])) rfl (hb hby d2_108)
                            refine Ends.go st39 ?_
                            show Ends p e below s T39 (mkF m 111 #[.val (.int p0), .val (.int p1)] [(.ref w_CHARACTER)]) _ _ _
                            refine Ends.ret X39 hx Bd.notSynchronized (t := (.object "com/example/wakeline/wakeline/event/DeclaredType")) Bd.returns rfl (Or.inr (Or.inr (Or.inr (Or.inr ⟨rfl, rfl, rfl⟩)))) (hb hby d2_111) (by decide) (by decide) ?_
                            refine ⟨?_, N0, e39⟩
                            show (some (.ref w_CHARACTER) : Option Value) = _
                            rw [hr, if_pos hc1_1]
                            exact congrArg (fun z => some (Value.ref z)) (Eq.symm (own_tC (by omega)))
                          · refine Ends.go (fun _ k => XS.icmpNo X0.here hx rfl (hb hby d2_85) rfl (feq hc85_38).1 k) ?_
                            show Ends p e below s s₁ (mkF m 88 #[.val (.int p0), .val (.int p1)] []) _ _ _
                            have hc85_38i : ¬ (p1.toInt = (-15 : Int)) := fun q => hc85_38 (Int32.toInt_inj.mp q)
                            refine Ends.go (fun _ k => XS.iloadN X0.here hx rfl (hb hby d2_88) rfl k) ?_
                            show Ends p e below s s₁ (mkF m 89 #[.val (.int p0), .val (.int p1)] [(.int p1)]) _ _ _
                            refine Ends.go (fun _ k => XS.bipush X0.here hx rfl (hb hby d2_89) k) ?_
                            show Ends p e below s s₁ (mkF m 91 #[.val (.int p0), .val (.int p1)] [(.int (-16 : Int32)), (.int p1)]) _ _ _
                            by_cases hc91_40 : p1 = (-16 : Int32)
                            · refine Ends.go (fun _ k => XS.icmpYes X0.here hx rfl (pc0 := 91) (pc' := 108) rfl (hb hby d2_91) rfl (teq hc91_40).1 (by decide) (by decide) k) ?_
                              show Ends p e below s s₁ (mkF m 108 #[.val (.int p0), .val (.int p1)] []) _ _ _
                              have hc91_40i : p1.toInt = (-16 : Int) := congrArg Int32.toInt hc91_40
                              obtain ⟨T41, X41, e41, st41⟩ := getS2 X0 hx hZ hown (host := "") (Or.inl (hw _ (List.mem_of_getElem? (i := 45) rfl))) Via.refl e0 (S_CHARACTER.ext O0.2) (g := (mkF m 108 #[.val (.int p0), .val (.int p1)] [])) rfl (hb hby d2_108)
                              refine Ends.go st41 ?_
                              show Ends p e below s T41 (mkF m 111 #[.val (.int p0), .val (.int p1)] [(.ref w_CHARACTER)]) _ _ _
                              refine Ends.ret X41 hx Bd.notSynchronized (t := (.object "com/example/wakeline/wakeline/event/DeclaredType")) Bd.returns rfl (Or.inr (Or.inr (Or.inr (Or.inr ⟨rfl, rfl, rfl⟩)))) (hb hby d2_111) (by decide) (by decide) ?_
                              refine ⟨?_, N0, e41⟩
                              show (some (.ref w_CHARACTER) : Option Value) = _
                              rw [hr, if_pos hc1_1]
                              exact congrArg (fun z => some (Value.ref z)) (Eq.symm (own_tC (by omega)))
                            · refine Ends.go (fun _ k => XS.icmpNo X0.here hx rfl (hb hby d2_91) rfl (feq hc91_40).1 k) ?_
                              show Ends p e below s s₁ (mkF m 94 #[.val (.int p0), .val (.int p1)] []) _ _ _
                              have hc91_40i : ¬ (p1.toInt = (-16 : Int)) := fun q => hc91_40 (Int32.toInt_inj.mp q)
                              refine Ends.go (fun _ k => XS.iloadN X0.here hx rfl (hb hby d2_94) rfl k) ?_
                              show Ends p e below s s₁ (mkF m 95 #[.val (.int p0), .val (.int p1)] [(.int p1)]) _ _ _
                              refine Ends.go (fun _ k => XS.sipush X0.here hx rfl (hb hby d2_95) k) ?_
                              show Ends p e below s s₁ (mkF m 98 #[.val (.int p0), .val (.int p1)] [(.int (2005 : Int32)), (.int p1)]) _ _ _
                              by_cases hc98_42 : p1 = (2005 : Int32)
                              · refine Ends.go (fun _ k => XS.icmpYes X0.here hx rfl (pc0 := 98) (pc' := 108) rfl (hb hby d2_98) rfl (teq hc98_42).1 (by decide) (by decide) k) ?_
                                show Ends p e below s s₁ (mkF m 108 #[.val (.int p0), .val (.int p1)] []) _ _ _
                                have hc98_42i : p1.toInt = 2005 := congrArg Int32.toInt hc98_42
                                obtain ⟨T43, X43, e43, st43⟩ := getS2 X0 hx hZ hown (host := "") (Or.inl (hw _ (List.mem_of_getElem? (i := 45) rfl))) Via.refl e0 (S_CHARACTER.ext O0.2) (g := (mkF m 108 #[.val (.int p0), .val (.int p1)] [])) rfl (hb hby d2_108)
                                refine Ends.go st43 ?_
                                show Ends p e below s T43 (mkF m 111 #[.val (.int p0), .val (.int p1)] [(.ref w_CHARACTER)]) _ _ _
                                refine Ends.ret X43 hx Bd.notSynchronized (t := (.object "com/example/wakeline/wakeline/event/DeclaredType")) Bd.returns rfl (Or.inr (Or.inr (Or.inr (Or.inr ⟨rfl, rfl, rfl⟩)))) (hb hby d2_111) (by decide) (by decide) ?_
                                refine ⟨?_, N0, e43⟩
                                show (some (.ref w_CHARACTER) : Option Value) = _
                                rw [hr, if_pos hc1_1]
                                exact congrArg (fun z => some (Value.ref z)) (Eq.symm (own_tC (by omega)))
                              · refine Ends.go (fun _ k => XS.icmpNo X0.here hx rfl (hb hby d2_98) rfl (feq hc98_42).1 k) ?_
                                show Ends p e below s s₁ (mkF m 101 #[.val (.int p0), .val (.int p1)] []) _ _ _
                                have hc98_42i : ¬ (p1.toInt = 2005) := fun q => hc98_42 (Int32.toInt_inj.mp q)
                                refine Ends.go (fun _ k => XS.iloadN X0.here hx rfl (hb hby d2_101) rfl k) ?_
                                show Ends p e below s s₁ (mkF m 102 #[.val (.int p0), .val (.int p1)] [(.int p1)]) _ _ _
                                refine Ends.go (fun _ k => XS.sipush X0.here hx rfl (hb hby d2_102) k) ?_
                                show Ends p e below s s₁ (mkF m 105 #[.val (.int p0), .val (.int p1)] [(.int (2011 : Int32)), (.int p1)]) _ _ _
                                by_cases hc105_44 : p1 = (2011 : Int32)
                                · refine Ends.go (fun _ k => XS.icmpNo X0.here hx rfl (hb hby d2_105) rfl (teq hc105_44).2 k) ?_
                                  show Ends p e below s s₁ (mkF m 108 #[.val (.int p0), .val (.int p1)] []) _ _ _
                                  have hc105_44i : p1.toInt = 2011 := congrArg Int32.toInt hc105_44
                                  obtain ⟨T45, X45, e45, st45⟩ := getS2 X0 hx hZ hown (host := "") (Or.inl (hw _ (List.mem_of_getElem? (i := 45) rfl))) Via.refl e0 (S_CHARACTER.ext O0.2) (g := (mkF m 108 #[.val (.int p0), .val (.int p1)] [])) rfl (hb hby d2_108)
                                  refine Ends.go st45 ?_
                                  show Ends p e below s T45 (mkF m 111 #[.val (.int p0), .val (.int p1)] [(.ref w_CHARACTER)]) _ _ _
                                  refine Ends.ret X45 hx Bd.notSynchronized (t := (.object "com/example/wakeline/wakeline/event/DeclaredType")) Bd.returns rfl (Or.inr (Or.inr (Or.inr (Or.inr ⟨rfl, rfl, rfl⟩)))) (hb hby d2_111) (by decide) (by decide) ?_
                                  refine ⟨?_, N0, e45⟩
                                  show (some (.ref w_CHARACTER) : Option Value) = _
                                  rw [hr, if_pos hc1_1]
                                  exact congrArg (fun z => some (Value.ref z)) (Eq.symm (own_tC (by omega)))
                                · refine Ends.go (fun _ k => XS.icmpYes X0.here hx rfl (pc0 := 105) (pc' := 112) rfl (hb hby d2_105) rfl (feq hc105_44).2 (by decide) (by decide) k) ?_
                                  show Ends p e below s s₁ (mkF m 112 #[.val (.int p0), .val (.int p1)] []) _ _ _
                                  have hc105_44i : ¬ (p1.toInt = 2011) := fun q => hc105_44 (Int32.toInt_inj.mp q)
                                  obtain ⟨T46, X46, e46, st46⟩ := getS2 X0 hx hZ hown (host := "") (Or.inl (hw _ (List.mem_of_getElem? (i := 10) rfl))) Via.refl e0 (S_OTHER.ext O0.2) (g := (mkF m 112 #[.val (.int p0), .val (.int p1)] [])) rfl (hb hby d2_112)
                                  refine Ends.go st46 ?_
                                  show Ends p e below s T46 (mkF m 115 #[.val (.int p0), .val (.int p1)] [(.ref w_OTHER)]) _ _ _
                                  refine Ends.ret X46 hx Bd.notSynchronized (t := (.object "com/example/wakeline/wakeline/event/DeclaredType")) Bd.returns rfl (Or.inr (Or.inr (Or.inr (Or.inr ⟨rfl, rfl, rfl⟩)))) (hb hby d2_115) (by decide) (by decide) ?_
                                  refine ⟨?_, N0, e46⟩
                                  show (some (.ref w_OTHER) : Option Value) = _
                                  rw [hr, if_pos hc1_1]
                                  exact congrArg (fun z => some (Value.ref z)) (Eq.symm (own_tO (by omega) (by omega) (by omega)))
                · refine Ends.go (fun _ k => XS.icmpNo X0.here hx rfl (hb hby d2_53) rfl (flt hc53_29).2.2.1 k) ?_
                  show Ends p e below s s₁ (mkF m 56 #[.val (.int p0), .val (.int p1)] []) _ _ _
                  have hc53_29i : ¬ (8 < p1.toInt) := fun q => hc53_29 (Int32.lt_iff_toInt_lt.mpr q)
                  obtain ⟨T47, X47, e47, st47⟩ := getS2 X0 hx hZ hown (host := "") (Or.inl (hw _ (List.mem_of_getElem? (i := 42) rfl))) Via.refl e0 (S_NUMERIC.ext O0.2) (g := (mkF m 56 #[.val (.int p0), .val (.int p1)] [])) rfl (hb hby d2_56)
                  refine Ends.go st47 ?_
                  show Ends p e below s T47 (mkF m 59 #[.val (.int p0), .val (.int p1)] [(.ref w_NUMERIC)]) _ _ _
                  refine Ends.ret X47 hx Bd.notSynchronized (t := (.object "com/example/wakeline/wakeline/event/DeclaredType")) Bd.returns rfl (Or.inr (Or.inr (Or.inr (Or.inr ⟨rfl, rfl, rfl⟩)))) (hb hby d2_59) (by decide) (by decide) ?_
                  refine ⟨?_, N0, e47⟩
                  show (some (.ref w_NUMERIC) : Option Value) = _
                  rw [hr, if_pos hc1_1]
                  exact congrArg (fun z => some (Value.ref z)) (Eq.symm (own_tN (by omega)))
            · refine Ends.go (fun _ k => XS.icmpNo X0.here hx rfl (hb hby d2_36) rfl (flt hc36_10).1 k) ?_
              show Ends p e below s s₁ (mkF m 39 #[.val (.int p0), .val (.int p1)] []) _ _ _
              have hc36_10i : ¬ (p1.toInt < 2) := fun q => hc36_10 (Int32.lt_iff_toInt_lt.mpr q)
              refine Ends.go (fun _ k => XS.iloadN X0.here hx rfl (hb hby d2_39) rfl k) ?_
              show Ends p e below s s₁ (mkF m 40 #[.val (.int p0), .val (.int p1)] [(.int p1)]) _ _ _
              refine Ends.go (fun _ k => XS.iconst X0.here hx rfl (hb hby d2_40) k) ?_
              show Ends p e below s s₁ (mkF m 41 #[.val (.int p0), .val (.int p1)] [(.int (3 : Int32)), (.int p1)]) _ _ _
              by_cases hc41_48 : (3 : Int32) < p1
              · refine Ends.go (fun _ k => XS.icmpNo X0.here hx rfl (hb hby d2_41) rfl (tlt hc41_48).2.2.2 k) ?_
                show Ends p e below s s₁ (mkF m 44 #[.val (.int p0), .val (.int p1)] []) _ _ _
                have hc41_48i : 3 < p1.toInt := Int32.lt_iff_toInt_lt.mp hc41_48
                refine Ends.go (fun _ k => XS.iloadN X0.here hx rfl (hb hby d2_44) rfl k) ?_
                show Ends p e below s s₁ (mkF m 45 #[.val (.int p0), .val (.int p1)] [(.int p1)]) _ _ _
                refine Ends.go (fun _ k => XS.bipush X0.here hx rfl (hb hby d2_45) k) ?_
                show Ends p e below s s₁ (mkF m 47 #[.val (.int p0), .val (.int p1)] [(.int (6 : Int32)), (.int p1)]) _ _ _
                by_cases hc47_49 : p1 < (6 : Int32)
                · refine Ends.go (fun _ k => XS.icmpYes X0.here hx rfl (pc0 := 47) (pc' := 60) rfl (hb hby d2_47) rfl (tlt hc47_49).1 (by decide) (by decide) k) ?_
                  show Ends p e below s s₁ (mkF m 60 #[.val (.int p0), .val (.int p1)] []) _ _ _
                  have hc47_49i : p1.toInt < 6 := Int32.lt_iff_toInt_lt.mp hc47_49
                  refine Ends.go (fun _ k => XS.iloadN X0.here hx rfl (hb hby d2_60) rfl k) ?_
                  show Ends p e below s s₁ (mkF m 61 #[.val (.int p0), .val (.int p1)] [(.int p1)]) _ _ _
                  refine Ends.go (fun _ k => XS.iconst X0.here hx rfl (hb hby d2_61) k) ?_
                  show Ends p e below s s₁ (mkF m 62 #[.val (.int p0), .val (.int p1)] [(.int (1 : Int32)), (.int p1)]) _ _ _
                  by_cases hc62_50 : p1 = (1 : Int32)
                  · refine Ends.go (fun _ k => XS.icmpYes X0.here hx rfl (pc0 := 62) (pc' := 108) rfl (hb hby d2_62) rfl (teq hc62_50).1 (by decide) (by decide) k) ?_
                    show Ends p e below s s₁ (mkF m 108 #[.val (.int p0), .val (.int p1)] []) _ _ _
                    have hc62_50i : p1.toInt = 1 := congrArg Int32.toInt hc62_50
                    obtain ⟨T51, X51, e51, st51⟩ := getS2 X0 hx hZ hown (host := "") (Or.inl (hw _ (List.mem_of_getElem? (i := 45) rfl))) Via.refl e0 (S_CHARACTER.ext O0.2) (g := (mkF m 108 #[.val (.int p0), .val (.int p1)] [])) rfl (hb hby d2_108)
                    refine Ends.go st51 ?_
                    show Ends p e below s T51 (mkF m 111 #[.val (.int p0), .val (.int p1)] [(.ref w_CHARACTER)]) _ _ _
                    refine Ends.ret X51 hx Bd.notSynchronized (t := (.object "com/example/wakeline/wakeline/event/DeclaredType")) Bd.returns rfl (Or.inr (Or.inr (Or.inr (Or.inr ⟨rfl, rfl, rfl⟩)))) (hb hby d2_111) (by decide) (by decide) ?_
                    refine ⟨?_, N0, e51⟩
                    show (some (.ref w_CHARACTER) : Option Value) = _
                    rw [hr, if_pos hc1_1]
                    exact congrArg (fun z => some (Value.ref z)) (Eq.symm (own_tC (by omega)))
                  · refine Ends.go (fun _ k => XS.icmpNo X0.here hx rfl (hb hby d2_62) rfl (feq hc62_50).1 k) ?_
                    show Ends p e below s s₁ (mkF m 65 #[.val (.int p0), .val (.int p1)] []) _ _ _
                    have hc62_50i : ¬ (p1.toInt = 1) := fun q => hc62_50 (Int32.toInt_inj.mp q)
                    refine Ends.go (fun _ k => XS.iloadN X0.here hx rfl (hb hby d2_65) rfl k) ?_
                    show Ends p e below s s₁ (mkF m 66 #[.val (.int p0), .val (.int p1)] [(.int p1)]) _ _ _
                    refine Ends.go (fun _ k => XS.bipush X0.here hx rfl (hb hby d2_66) k) ?_
                    show Ends p e below s s₁ (mkF m 68 #[.val (.int p0), .val (.int p1)] [(.int (12 : Int32)), (.int p1)]) _ _ _
                    by_cases hc68_52 : p1 = (12 : Int32)
                    · refine Ends.go (fun _ k => XS.icmpYes X0.here hx rfl (pc0 := 68) (pc' := 108) rfl (hb hby d2_68) rfl (teq hc68_52).1 (by decide) (by decide) k) ?_
                      show Ends p e below s s₁ (mkF m 108 #[.val (.int p0), .val (.int p1)] []) _ _ _
                      have hc68_52i : p1.toInt = 12 := congrArg Int32.toInt hc68_52
                      obtain ⟨T53, X53, e53, st53⟩ := getS2 X0 hx hZ hown (host := "") (Or.inl (hw _ (List.mem_of_getElem? (i := 45) rfl))) Via.refl e0 (S_CHARACTER.ext O0.2) (g := (mkF m 108 #[.val (.int p0), .val (.int p1)] [])) rfl (hb hby d2_108)
                      refine Ends.go st53 ?_
                      show Ends p e below s T53 (mkF m 111 #[.val (.int p0), .val (.int p1)] [(.ref w_CHARACTER)]) _ _ _
                      refine Ends.ret X53 hx Bd.notSynchronized (t := (.object "com/example/wakeline/wakeline/event/DeclaredType")) Bd.returns rfl (Or.inr (Or.inr (Or.inr (Or.inr ⟨rfl, rfl, rfl⟩)))) (hb hby d2_111) (by decide) (by decide) ?_
                      refine ⟨?_, N0, e53⟩
                      show (some (.ref w_CHARACTER) : Option Value) = _
                      rw [hr, if_pos hc1_1]
                      exact congrArg (fun z => some (Value.ref z)) (Eq.symm (own_tC (by omega)))
                    · refine Ends.go (fun _ k => XS.icmpNo X0.here hx rfl (hb hby d2_68) rfl (feq hc68_52).1 k) ?_
                      show Ends p e below s s₁ (mkF m 71 #[.val (.int p0), .val (.int p1)] []) _ _ _
                      have hc68_52i : ¬ (p1.toInt = 12) := fun q => hc68_52 (Int32.toInt_inj.mp q)
                      refine Ends.go (fun _ k => XS.iloadN X0.here hx rfl (hb hby d2_71) rfl k) ?_
                      show Ends p e below s s₁ (mkF m 72 #[.val (.int p0), .val (.int p1)] [(.int p1)]) _ _ _
                      refine Ends.go (fun _ k => XS.iconst X0.here hx rfl (hb hby d2_72) k) ?_
                      show Ends p e below s s₁ (mkF m 73 #[.val (.int p0), .val (.int p1)] [(.int (-1 : Int32)), (.int p1)]) _ _ _
                      by_cases hc73_54 : p1 = (-1 : Int32)
                      · refine Ends.go (fun _ k => XS.icmpYes X0.here hx rfl (pc0 := 73) (pc' := 108) rfl (hb hby d2_73) rfl (teq hc73_54).1 (by decide) (by decide) k) ?_
                        show Ends p e below s s₁ (mkF m 108 #[.val (.int p0), .val (.int p1)] []) _ _ _
                        have hc73_54i : p1.toInt = (-1 : Int) := congrArg Int32.toInt hc73_54
                        obtain ⟨T55, X55, e55, st55⟩ := getS2 X0 hx hZ hown (host := "") (Or.inl (hw _ (List.mem_of_getElem? (i := 45) rfl))) Via.refl e0 (S_CHARACTER.ext O0.2) (g := (mkF m 108 #[.val (.int p0), .val (.int p1)] [])) rfl (hb hby d2_108)
                        refine Ends.go st55 ?_
                        show Ends p e below s T55 (mkF m 111 #[.val (.int p0), .val (.int p1)] [(.ref w_CHARACTER)]) _ _ _
                        refine Ends.ret X55 hx Bd.notSynchronized (t := (.object "com/example/wakeline/wakeline/event/DeclaredType")) Bd.returns rfl (Or.inr (Or.inr (Or.inr (Or.inr ⟨rfl, rfl, rfl⟩)))) (hb hby d2_111) (by decide) (by decide) ?_
                        refine ⟨?_, N0, e55⟩
                        show (some (.ref w_CHARACTER) : Option Value) = _
                        rw [hr, if_pos hc1_1]
                        exact congrArg (fun z => some (Value.ref z)) (Eq.symm (own_tC (by omega)))
                      · refine Ends.go (fun _ k => XS.icmpNo X0.here hx rfl (hb hby d2_73) rfl (feq hc73_54).1 k) ?_
                        show Ends p e below s s₁ (mkF m 76 #[.val (.int p0), .val (.int p1)] []) _ _ _
                        have hc73_54i : ¬ (p1.toInt = (-1 : Int)) := fun q => hc73_54 (Int32.toInt_inj.mp q)
                        refine Ends.go (fun _ k => XS.iloadN X0.here hx rfl (hb hby d2_76) rfl k) ?_
                        show Ends p e below s s₁ (mkF m 77 #[.val (.int p0), .val (.int p1)] [(.int p1)]) _ _ _
                        refine Ends.go (fun _ k => XS.bipush X0.here hx rfl (hb hby d2_77) k) ?_
                        show Ends p e below s s₁ (mkF m 79 #[.val (.int p0), .val (.int p1)] [(.int (-9 : Int32)), (.int p1)]) _ _ _
                        by_cases hc79_56 : p1 = (-9 : Int32)
                        · refine Ends.go (fun _ k => XS.icmpYes X0.here hx rfl (pc0 := 79) (pc' := 108) rfl (hb hby d2_79) rfl (teq hc79_56).1 (by decide) (by decide) k) ?_
                          show Ends p e below s s₁ (mkF m 108 #[.val (.int p0), .val (.int p1)] []) _ _ _
                          have hc79_56i : p1.toInt = (-9 : Int) := congrArg Int32.toInt hc79_56
                          obtain ⟨T57, X57, e57, st57⟩ := getS2 X0 hx hZ hown (host := "") (Or.inl (hw _ (List.mem_of_getElem? (i := 45) rfl))) Via.refl e0 (S_CHARACTER.ext O0.2) (g := (mkF m 108 #[.val (.int p0), .val (.int p1)] [])) rfl (hb hby d2_108)
                          refine Ends.go st57 ?_
                          show Ends p e below s T57 (mkF m 111 #[.val (.int p0), .val (.int p1)] [(.ref w_CHARACTER)]) _ _ _
                          refine Ends.ret X57 hx Bd.notSynchronized (t := (.object "com/example/wakeline/wakeline/event/DeclaredType")) Bd.returns rfl (Or.inr (Or.inr (Or.inr (Or.inr ⟨rfl, rfl, rfl⟩)))) (hb hby d2_111) (by decide) (by decide) ?_
                          refine ⟨?_, N0, e57⟩
                          show (some (.ref w_CHARACTER) : Option Value) = _
                          rw [hr, if_pos hc1_1]
                          exact congrArg (fun z => some (Value.ref z)) (Eq.symm (own_tC (by omega)))
                        · refine Ends.go (fun _ k => XS.icmpNo X0.here hx rfl (hb hby d2_79) rfl (feq hc79_56).1 k) ?_
                          show Ends p e below s s₁ (mkF m 82 #[.val (.int p0), .val (.int p1)] []) _ _ _
                          have hc79_56i : ¬ (p1.toInt = (-9 : Int)) := fun q => hc79_56 (Int32.toInt_inj.mp q)
                          refine Ends.go (fun _ k => XS.iloadN X0.here hx rfl (hb hby d2_82) rfl k) ?_
                          show Ends p e below s s₁ (mkF m 83 #[.val (.int p0), .val (.int p1)] [(.int p1)]) _ _ _
                          refine Ends.go (fun _ k => XS.bipush X0.here hx rfl (hb hby d2_83) k) ?_
                          show Ends p e below s s₁ (mkF m 85 #[.val (.int p0), .val (.int p1)] [(.int (-15 : Int32)), (.int p1)]) _ _ _
                          by_cases hc85_58 : p1 = (-15 : Int32)
                          · refine Ends.go (fun _ k => XS.icmpYes X0.here hx rfl (pc0 := 85) (pc' := 108) rfl (hb hby d2_85) rfl (teq hc85_58).1 (by decide) (by decide) k) ?_
                            show Ends p e below s s₁ (mkF m 108 #[.val (.int p0), .val (.int p1)] []) _ _ _
                            have hc85_58i : p1.toInt = (-15 : Int) := congrArg Int32.toInt hc85_58
                            obtain ⟨T59, X59, e59, st59⟩ := getS2 X0 hx hZ hown (host := "") (Or.inl (hw _ (List.mem_of_getElem? (i := 45) rfl))) Via.refl e0 (S_CHARACTER.ext O0.2) (g := (mkF m 108 #[.val (.int p0), .val (.int p1)] [])) rfl (hb hby d2_108)
                            refine Ends.go st59 ?_
                            show Ends p e below s T59 (mkF m 111 #[.val (.int p0), .val (.int p1)] [(.ref w_CHARACTER)]) _ _ _
                            refine Ends.ret X59 hx Bd.notSynchronized (t := (.object "com/example/wakeline/wakeline/event/DeclaredType")) Bd.returns rfl (Or.inr (Or.inr (Or.inr (Or.inr ⟨rfl, rfl, rfl⟩)))) (hb hby d2_111) (by decide) (by decide) ?_
                            refine ⟨?_, N0, e59⟩
                            show (some (.ref w_CHARACTER) : Option Value) = _
                            rw [hr, if_pos hc1_1]
                            exact congrArg (fun z => some (Value.ref z)) (Eq.symm (own_tC (by omega)))
                          · refine Ends.go (fun _ k => XS.icmpNo X0.here hx rfl (hb hby d2_85) rfl (feq hc85_58).1 k) ?_
                            show Ends p e below s s₁ (mkF m 88 #[.val (.int p0), .val (.int p1)] []) _ _ _
                            have hc85_58i : ¬ (p1.toInt = (-15 : Int)) := fun q => hc85_58 (Int32.toInt_inj.mp q)
                            refine Ends.go (fun _ k => XS.iloadN X0.here hx rfl (hb hby d2_88) rfl k) ?_
                            show Ends p e below s s₁ (mkF m 89 #[.val (.int p0), .val (.int p1)] [(.int p1)]) _ _ _
                            refine Ends.go (fun _ k => XS.bipush X0.here hx rfl (hb hby d2_89) k) ?_
                            show Ends p e below s s₁ (mkF m 91 #[.val (.int p0), .val (.int p1)] [(.int (-16 : Int32)), (.int p1)]) _ _ _
                            by_cases hc91_60 : p1 = (-16 : Int32)
                            · refine Ends.go (fun _ k => XS.icmpYes X0.here hx rfl (pc0 := 91) (pc' := 108) rfl (hb hby d2_91) rfl (teq hc91_60).1 (by decide) (by decide) k) ?_
                              show Ends p e below s s₁ (mkF m 108 #[.val (.int p0), .val (.int p1)] []) _ _ _
                              have hc91_60i : p1.toInt = (-16 : Int) := congrArg Int32.toInt hc91_60
                              obtain ⟨T61, X61, e61, st61⟩ := getS2 X0 hx hZ hown (host := "") (Or.inl (hw _ (List.mem_of_getElem? (i := 45) rfl))) Via.refl e0 (S_CHARACTER.ext O0.2) (g := (mkF m 108 #[.val (.int p0), .val (.int p1)] [])) rfl (hb hby d2_108)
                              refine Ends.go st61 ?_
                              show Ends p e below s T61 (mkF m 111 #[.val (.int p0), .val (.int p1)] [(.ref w_CHARACTER)]) _ _ _
                              refine Ends.ret X61 hx Bd.notSynchronized (t := (.object "com/example/wakeline/wakeline/event/DeclaredType")) Bd.returns rfl (Or.inr (Or.inr (Or.inr (Or.inr ⟨rfl, rfl, rfl⟩)))) (hb hby d2_111) (by decide) (by decide) ?_
                              refine ⟨?_, N0, e61⟩
                              show (some (.ref w_CHARACTER) : Option Value) = _
                              rw [hr, if_pos hc1_1]
                              exact congrArg (fun z => some (Value.ref z)) (Eq.symm (own_tC (by omega)))
                            · refine Ends.go (fun _ k => XS.icmpNo X0.here hx rfl (hb hby d2_91) rfl (feq hc91_60).1 k) ?_
                              show Ends p e below s s₁ (mkF m 94 #[.val (.int p0), .val (.int p1)] []) _ _ _
                              have hc91_60i : ¬ (p1.toInt = (-16 : Int)) := fun q => hc91_60 (Int32.toInt_inj.mp q)
                              refine Ends.go (fun _ k => XS.iloadN X0.here hx rfl (hb hby d2_94) rfl k) ?_
                              show Ends p e below s s₁ (mkF m 95 #[.val (.int p0), .val (.int p1)] [(.int p1)]) _ _ _
                              refine Ends.go (fun _ k => XS.sipush X0.here hx rfl (hb hby d2_95) k) ?_
                              show Ends p e below s s₁ (mkF m 98 #[.val (.int p0), .val (.int p1)] [(.int (2005 : Int32)), (.int p1)]) _ _ _
                              by_cases hc98_62 : p1 = (2005 : Int32)
                              · refine Ends.go (fun _ k => XS.icmpYes X0.here hx rfl (pc0 := 98) (pc' := 108) rfl (hb hby d2_98) rfl (teq hc98_62).1 (by decide) (by decide) k) ?_
                                show Ends p e below s s₁ (mkF m 108 #[.val (.int p0), .val (.int p1)] []) _ _ _
                                have hc98_62i : p1.toInt = 2005 := congrArg Int32.toInt hc98_62
                                obtain ⟨T63, X63, e63, st63⟩ := getS2 X0 hx hZ hown (host := "") (Or.inl (hw _ (List.mem_of_getElem? (i := 45) rfl))) Via.refl e0 (S_CHARACTER.ext O0.2) (g := (mkF m 108 #[.val (.int p0), .val (.int p1)] [])) rfl (hb hby d2_108)
                                refine Ends.go st63 ?_
                                show Ends p e below s T63 (mkF m 111 #[.val (.int p0), .val (.int p1)] [(.ref w_CHARACTER)]) _ _ _
                                refine Ends.ret X63 hx Bd.notSynchronized (t := (.object "com/example/wakeline/wakeline/event/DeclaredType")) Bd.returns rfl (Or.inr (Or.inr (Or.inr (Or.inr ⟨rfl, rfl, rfl⟩)))) (hb hby d2_111) (by decide) (by decide) ?_
                                refine ⟨?_, N0, e63⟩
                                show (some (.ref w_CHARACTER) : Option Value) = _
                                rw [hr, if_pos hc1_1]
                                exact congrArg (fun z => some (Value.ref z)) (Eq.symm (own_tC (by omega)))
                              · refine Ends.go (fun _ k => XS.icmpNo X0.here hx rfl (hb hby d2_98) rfl (feq hc98_62).1 k) ?_
                                show Ends p e below s s₁ (mkF m 101 #[.val (.int p0), .val (.int p1)] []) _ _ _
                                have hc98_62i : ¬ (p1.toInt = 2005) := fun q => hc98_62 (Int32.toInt_inj.mp q)
                                refine Ends.go (fun _ k => XS.iloadN X0.here hx rfl (hb hby d2_101) rfl k) ?_
                                show Ends p e below s s₁ (mkF m 102 #[.val (.int p0), .val (.int p1)] [(.int p1)]) _ _ _
                                refine Ends.go (fun _ k => XS.sipush X0.here hx rfl (hb hby d2_102) k) ?_
                                show Ends p e below s s₁ (mkF m 105 #[.val (.int p0), .val (.int p1)] [(.int (2011 : Int32)), (.int p1)]) _ _ _
                                by_cases hc105_64 : p1 = (2011 : Int32)
                                · refine Ends.go (fun _ k => XS.icmpNo X0.here hx rfl (hb hby d2_105) rfl (teq hc105_64).2 k) ?_
                                  show Ends p e below s s₁ (mkF m 108 #[.val (.int p0), .val (.int p1)] []) _ _ _
                                  have hc105_64i : p1.toInt = 2011 := congrArg Int32.toInt hc105_64
                                  obtain ⟨T65, X65, e65, st65⟩ := getS2 X0 hx hZ hown (host := "") (Or.inl (hw _ (List.mem_of_getElem? (i := 45) rfl))) Via.refl e0 (S_CHARACTER.ext O0.2) (g := (mkF m 108 #[.val (.int p0), .val (.int p1)] [])) rfl (hb hby d2_108)
                                  refine Ends.go st65 ?_
                                  show Ends p e below s T65 (mkF m 111 #[.val (.int p0), .val (.int p1)] [(.ref w_CHARACTER)]) _ _ _
                                  refine Ends.ret X65 hx Bd.notSynchronized (t := (.object "com/example/wakeline/wakeline/event/DeclaredType")) Bd.returns rfl (Or.inr (Or.inr (Or.inr (Or.inr ⟨rfl, rfl, rfl⟩)))) (hb hby d2_111) (by decide) (by decide) ?_
                                  refine ⟨?_, N0, e65⟩
                                  show (some (.ref w_CHARACTER) : Option Value) = _
                                  rw [hr, if_pos hc1_1]
                                  exact congrArg (fun z => some (Value.ref z)) (Eq.symm (own_tC (by omega)))
                                · refine Ends.go (fun _ k => XS.icmpYes X0.here hx rfl (pc0 := 105) (pc' := 112) rfl (hb hby d2_105) rfl (feq hc105_64).2 (by decide) (by decide) k) ?_
                                  show Ends p e below s s₁ (mkF m 112 #[.val (.int p0), .val (.int p1)] []) _ _ _
                                  have hc105_64i : ¬ (p1.toInt = 2011) := fun q => hc105_64 (Int32.toInt_inj.mp q)
                                  obtain ⟨T66, X66, e66, st66⟩ := getS2 X0 hx hZ hown (host := "") (Or.inl (hw _ (List.mem_of_getElem? (i := 10) rfl))) Via.refl e0 (S_OTHER.ext O0.2) (g := (mkF m 112 #[.val (.int p0), .val (.int p1)] [])) rfl (hb hby d2_112)
                                  refine Ends.go st66 ?_
                                  show Ends p e below s T66 (mkF m 115 #[.val (.int p0), .val (.int p1)] [(.ref w_OTHER)]) _ _ _
                                  refine Ends.ret X66 hx Bd.notSynchronized (t := (.object "com/example/wakeline/wakeline/event/DeclaredType")) Bd.returns rfl (Or.inr (Or.inr (Or.inr (Or.inr ⟨rfl, rfl, rfl⟩)))) (hb hby d2_115) (by decide) (by decide) ?_
                                  refine ⟨?_, N0, e66⟩
                                  show (some (.ref w_OTHER) : Option Value) = _
                                  rw [hr, if_pos hc1_1]
                                  exact congrArg (fun z => some (Value.ref z)) (Eq.symm (own_tO (by omega) (by omega) (by omega)))
                · refine Ends.go (fun _ k => XS.icmpNo X0.here hx rfl (hb hby d2_47) rfl (flt hc47_49).1 k) ?_
                  show Ends p e below s s₁ (mkF m 50 #[.val (.int p0), .val (.int p1)] []) _ _ _
                  have hc47_49i : ¬ (p1.toInt < 6) := fun q => hc47_49 (Int32.lt_iff_toInt_lt.mpr q)
                  refine Ends.go (fun _ k => XS.iloadN X0.here hx rfl (hb hby d2_50) rfl k) ?_
                  show Ends p e below s s₁ (mkF m 51 #[.val (.int p0), .val (.int p1)] [(.int p1)]) _ _ _
                  refine Ends.go (fun _ k => XS.bipush X0.here hx rfl (hb hby d2_51) k) ?_
                  show Ends p e below s s₁ (mkF m 53 #[.val (.int p0), .val (.int p1)] [(.int (8 : Int32)), (.int p1)]) _ _ _
                  by_cases hc53_67 : (8 : Int32) < p1
                  · refine Ends.go (fun _ k => XS.icmpYes X0.here hx rfl (pc0 := 53) (pc' := 60) rfl (hb hby d2_53) rfl (tlt hc53_67).2.2.1 (by decide) (by decide) k) ?_
                    show Ends p e below s s₁ (mkF m 60 #[.val (.int p0), .val (.int p1)] []) _ _ _
                    have hc53_67i : 8 < p1.toInt := Int32.lt_iff_toInt_lt.mp hc53_67
                    refine Ends.go (fun _ k => XS.iloadN X0.here hx rfl (hb hby d2_60) rfl k) ?_
                    show Ends p e below s s₁ (mkF m 61 #[.val (.int p0), .val (.int p1)] [(.int p1)]) _ _ _
                    refine Ends.go (fun _ k => XS.iconst X0.here hx rfl (hb hby d2_61) k) ?_
                    show Ends p e below s s₁ (mkF m 62 #[.val (.int p0), .val (.int p1)] [(.int (1 : Int32)), (.int p1)]) _ _ _
                    by_cases hc62_68 : p1 = (1 : Int32)
                    · refine Ends.go (fun _ k => XS.icmpYes X0.here hx rfl (pc0 := 62) (pc' := 108) rfl (hb hby d2_62) rfl (teq hc62_68).1 (by decide) (by decide) k) ?_
                      show Ends p e below s s₁ (mkF m 108 #[.val (.int p0), .val (.int p1)] []) _ _ _
                      have hc62_68i : p1.toInt = 1 := congrArg Int32.toInt hc62_68
                      obtain ⟨T69, X69, e69, st69⟩ := getS2 X0 hx hZ hown (host := "") (Or.inl (hw _ (List.mem_of_getElem? (i := 45) rfl))) Via.refl e0 (S_CHARACTER.ext O0.2) (g := (mkF m 108 #[.val (.int p0), .val (.int p1)] [])) rfl (hb hby d2_108)
                      refine Ends.go st69 ?_
                      show Ends p e below s T69 (mkF m 111 #[.val (.int p0), .val (.int p1)] [(.ref w_CHARACTER)]) _ _ _
                      refine Ends.ret X69 hx Bd.notSynchronized (t := (.object "com/example/wakeline/wakeline/event/DeclaredType")) Bd.returns rfl (Or.inr (Or.inr (Or.inr (Or.inr ⟨rfl, rfl, rfl⟩)))) (hb hby d2_111) (by decide) (by decide) ?_
                      refine ⟨?_, N0, e69⟩
                      show (some (.ref w_CHARACTER) : Option Value) = _
                      rw [hr, if_pos hc1_1]
                      exact congrArg (fun z => some (Value.ref z)) (Eq.symm (own_tC (by omega)))
                    · refine Ends.go (fun _ k => XS.icmpNo X0.here hx rfl (hb hby d2_62) rfl (feq hc62_68).1 k) ?_
                      show Ends p e below s s₁ (mkF m 65 #[.val (.int p0), .val (.int p1)] []) _ _ _
                      have hc62_68i : ¬ (p1.toInt = 1) := fun q => hc62_68 (Int32.toInt_inj.mp q)
                      refine Ends.go (fun _ k => XS.iloadN X0.here hx rfl (hb hby d2_65) rfl k) ?_
                      show Ends p e below s s₁ (mkF m 66 #[.val (.int p0), .val (.int p1)] [(.int p1)]) _ _ _
                      refine Ends.go (fun _ k => XS.bipush X0.here hx rfl (hb hby d2_66) k) ?_
                      show Ends p e below s s₁ (mkF m 68 #[.val (.int p0), .val (.int p1)] [(.int (12 : Int32)), (.int p1)]) _ _ _
                      by_cases hc68_70 : p1 = (12 : Int32)
                      · refine Ends.go (fun _ k => XS.icmpYes X0.here hx rfl (pc0 := 68) (pc' := 108) rfl (hb hby d2_68) rfl (teq hc68_70).1 (by decide) (by decide) k) ?_
                        show Ends p e below s s₁ (mkF m 108 #[.val (.int p0), .val (.int p1)] []) _ _ _
                        have hc68_70i : p1.toInt = 12 := congrArg Int32.toInt hc68_70
                        obtain ⟨T71, X71, e71, st71⟩ := getS2 X0 hx hZ hown (host := "") (Or.inl (hw _ (List.mem_of_getElem? (i := 45) rfl))) Via.refl e0 (S_CHARACTER.ext O0.2) (g := (mkF m 108 #[.val (.int p0), .val (.int p1)] [])) rfl (hb hby d2_108)
                        refine Ends.go st71 ?_
                        show Ends p e below s T71 (mkF m 111 #[.val (.int p0), .val (.int p1)] [(.ref w_CHARACTER)]) _ _ _
                        refine Ends.ret X71 hx Bd.notSynchronized (t := (.object "com/example/wakeline/wakeline/event/DeclaredType")) Bd.returns rfl (Or.inr (Or.inr (Or.inr (Or.inr ⟨rfl, rfl, rfl⟩)))) (hb hby d2_111) (by decide) (by decide) ?_
                        refine ⟨?_, N0, e71⟩
                        show (some (.ref w_CHARACTER) : Option Value) = _
                        rw [hr, if_pos hc1_1]
                        exact congrArg (fun z => some (Value.ref z)) (Eq.symm (own_tC (by omega)))
                      · refine Ends.go (fun _ k => XS.icmpNo X0.here hx rfl (hb hby d2_68) rfl (feq hc68_70).1 k) ?_
                        show Ends p e below s s₁ (mkF m 71 #[.val (.int p0), .val (.int p1)] []) _ _ _
                        have hc68_70i : ¬ (p1.toInt = 12) := fun q => hc68_70 (Int32.toInt_inj.mp q)
                        refine Ends.go (fun _ k => XS.iloadN X0.here hx rfl (hb hby d2_71) rfl k) ?_
                        show Ends p e below s s₁ (mkF m 72 #[.val (.int p0), .val (.int p1)] [(.int p1)]) _ _ _
                        refine Ends.go (fun _ k => XS.iconst X0.here hx rfl (hb hby d2_72) k) ?_
                        show Ends p e below s s₁ (mkF m 73 #[.val (.int p0), .val (.int p1)] [(.int (-1 : Int32)), (.int p1)]) _ _ _
                        by_cases hc73_72 : p1 = (-1 : Int32)
                        · refine Ends.go (fun _ k => XS.icmpYes X0.here hx rfl (pc0 := 73) (pc' := 108) rfl (hb hby d2_73) rfl (teq hc73_72).1 (by decide) (by decide) k) ?_
                          show Ends p e below s s₁ (mkF m 108 #[.val (.int p0), .val (.int p1)] []) _ _ _
                          have hc73_72i : p1.toInt = (-1 : Int) := congrArg Int32.toInt hc73_72
                          obtain ⟨T73, X73, e73, st73⟩ := getS2 X0 hx hZ hown (host := "") (Or.inl (hw _ (List.mem_of_getElem? (i := 45) rfl))) Via.refl e0 (S_CHARACTER.ext O0.2) (g := (mkF m 108 #[.val (.int p0), .val (.int p1)] [])) rfl (hb hby d2_108)
                          refine Ends.go st73 ?_
                          show Ends p e below s T73 (mkF m 111 #[.val (.int p0), .val (.int p1)] [(.ref w_CHARACTER)]) _ _ _
                          refine Ends.ret X73 hx Bd.notSynchronized (t := (.object "com/example/wakeline/wakeline/event/DeclaredType")) Bd.returns rfl (Or.inr (Or.inr (Or.inr (Or.inr ⟨rfl, rfl, rfl⟩)))) (hb hby d2_111) (by decide) (by decide) ?_
                          refine ⟨?_, N0, e73⟩
                          show (some (.ref w_CHARACTER) : Option Value) = _
                          rw [hr, if_pos hc1_1]
                          exact congrArg (fun z => some (Value.ref z)) (Eq.symm (own_tC (by omega)))
                        · refine Ends.go (fun _ k => XS.icmpNo X0.here hx rfl (hb hby d2_73) rfl (feq hc73_72).1 k) ?_
                          show Ends p e below s s₁ (mkF m 76 #[.val (.int p0), .val (.int p1)] []) _ _ _
                          have hc73_72i : ¬ (p1.toInt = (-1 : Int)) := fun q => hc73_72 (Int32.toInt_inj.mp q)
                          refine Ends.go (fun _ k => XS.iloadN X0.here hx rfl (hb hby d2_76) rfl k) ?_
                          show Ends p e below s s₁ (mkF m 77 #[.val (.int p0), .val (.int p1)] [(.int p1)]) _ _ _
                          refine Ends.go (fun _ k => XS.bipush X0.here hx rfl (hb hby d2_77) k) ?_
                          show Ends p e below s s₁ (mkF m 79 #[.val (.int p0), .val (.int p1)] [(.int (-9 : Int32)), (.int p1)]) _ _ _
                          by_cases hc79_74 : p1 = (-9 : Int32)
                          · refine Ends.go (fun _ k => XS.icmpYes X0.here hx rfl (pc0 := 79) (pc' := 108) rfl (hb hby d2_79) rfl (teq hc79_74).1 (by decide) (by decide) k) ?_
                            show Ends p e below s s₁ (mkF m 108 #[.val (.int p0), .val (.int p1)] []) _ _ _
                            have hc79_74i : p1.toInt = (-9 : Int) := congrArg Int32.toInt hc79_74
                            obtain ⟨T75, X75, e75, st75⟩ := getS2 X0 hx hZ hown (host := "") (Or.inl (hw _ (List.mem_of_getElem? (i := 45) rfl))) Via.refl e0 (S_CHARACTER.ext O0.2) (g := (mkF m 108 #[.val (.int p0), .val (.int p1)] [])) rfl (hb hby d2_108)
                            refine Ends.go st75 ?_
                            show Ends p e below s T75 (mkF m 111 #[.val (.int p0), .val (.int p1)] [(.ref w_CHARACTER)]) _ _ _
                            refine Ends.ret X75 hx Bd.notSynchronized (t := (.object "com/example/wakeline/wakeline/event/DeclaredType")) Bd.returns rfl (Or.inr (Or.inr (Or.inr (Or.inr ⟨rfl, rfl, rfl⟩)))) (hb hby d2_111) (by decide) (by decide) ?_
                            refine ⟨?_, N0, e75⟩
                            show (some (.ref w_CHARACTER) : Option Value) = _
                            rw [hr, if_pos hc1_1]
                            exact congrArg (fun z => some (Value.ref z)) (Eq.symm (own_tC (by omega)))
                          · refine Ends.go (fun _ k => XS.icmpNo X0.here hx rfl (hb hby d2_79) rfl (feq hc79_74).1 k) ?_
                            show Ends p e below s s₁ (mkF m 82 #[.val (.int p0), .val (.int p1)] []) _ _ _
                            have hc79_74i : ¬ (p1.toInt = (-9 : Int)) := fun q => hc79_74 (Int32.toInt_inj.mp q)
                            refine Ends.go (fun _ k => XS.iloadN X0.here hx rfl (hb hby d2_82) rfl k) ?_
                            show Ends p e below s s₁ (mkF m 83 #[.val (.int p0), .val (.int p1)] [(.int p1)]) _ _ _
                            refine Ends.go (fun _ k => XS.bipush X0.here hx rfl (hb hby d2_83) k) ?_
                            show Ends p e below s s₁ (mkF m 85 #[.val (.int p0), .val (.int p1)] [(.int (-15 : Int32)), (.int p1)]) _ _ _
                            by_cases hc85_76 : p1 = (-15 : Int32)
                            · refine Ends.go (fun _ k => XS.icmpYes X0.here hx rfl (pc0 := 85) (pc' := 108) rfl (hb hby d2_85) rfl (teq hc85_76).1 (by decide) (by decide) k) ?_
                              show Ends p e below s s₁ (mkF m 108 #[.val (.int p0), .val (.int p1)] []) _ _ _
                              have hc85_76i : p1.toInt = (-15 : Int) := congrArg Int32.toInt hc85_76
                              obtain ⟨T77, X77, e77, st77⟩ := getS2 X0 hx hZ hown (host := "") (Or.inl (hw _ (List.mem_of_getElem? (i := 45) rfl))) Via.refl e0 (S_CHARACTER.ext O0.2) (g := (mkF m 108 #[.val (.int p0), .val (.int p1)] [])) rfl (hb hby d2_108)
                              refine Ends.go st77 ?_
                              show Ends p e below s T77 (mkF m 111 #[.val (.int p0), .val (.int p1)] [(.ref w_CHARACTER)]) _ _ _
                              refine Ends.ret X77 hx Bd.notSynchronized (t := (.object "com/example/wakeline/wakeline/event/DeclaredType")) Bd.returns rfl (Or.inr (Or.inr (Or.inr (Or.inr ⟨rfl, rfl, rfl⟩)))) (hb hby d2_111) (by decide) (by decide) ?_
                              refine ⟨?_, N0, e77⟩
                              show (some (.ref w_CHARACTER) : Option Value) = _
                              rw [hr, if_pos hc1_1]
                              exact congrArg (fun z => some (Value.ref z)) (Eq.symm (own_tC (by omega)))
                            · refine Ends.go (fun _ k => XS.icmpNo X0.here hx rfl (hb hby d2_85) rfl (feq hc85_76).1 k) ?_
                              show Ends p e below s s₁ (mkF m 88 #[.val (.int p0), .val (.int p1)] []) _ _ _
                              have hc85_76i : ¬ (p1.toInt = (-15 : Int)) := fun q => hc85_76 (Int32.toInt_inj.mp q)
                              refine Ends.go (fun _ k => XS.iloadN X0.here hx rfl (hb hby d2_88) rfl k) ?_
                              show Ends p e below s s₁ (mkF m 89 #[.val (.int p0), .val (.int p1)] [(.int p1)]) _ _ _
                              refine Ends.go (fun _ k => XS.bipush X0.here hx rfl (hb hby d2_89) k) ?_
                              show Ends p e below s s₁ (mkF m 91 #[.val (.int p0), .val (.int p1)] [(.int (-16 : Int32)), (.int p1)]) _ _ _
                              by_cases hc91_78 : p1 = (-16 : Int32)
                              · refine Ends.go (fun _ k => XS.icmpYes X0.here hx rfl (pc0 := 91) (pc' := 108) rfl (hb hby d2_91) rfl (teq hc91_78).1 (by decide) (by decide) k) ?_
                                show Ends p e below s s₁ (mkF m 108 #[.val (.int p0), .val (.int p1)] []) _ _ _
                                have hc91_78i : p1.toInt = (-16 : Int) := congrArg Int32.toInt hc91_78
                                obtain ⟨T79, X79, e79, st79⟩ := getS2 X0 hx hZ hown (host := "") (Or.inl (hw _ (List.mem_of_getElem? (i := 45) rfl))) Via.refl e0 (S_CHARACTER.ext O0.2) (g := (mkF m 108 #[.val (.int p0), .val (.int p1)] [])) rfl (hb hby d2_108)
                                refine Ends.go st79 ?_
                                show Ends p e below s T79 (mkF m 111 #[.val (.int p0), .val (.int p1)] [(.ref w_CHARACTER)]) _ _ _
                                refine Ends.ret X79 hx Bd.notSynchronized (t := (.object "com/example/wakeline/wakeline/event/DeclaredType")) Bd.returns rfl (Or.inr (Or.inr (Or.inr (Or.inr ⟨rfl, rfl, rfl⟩)))) (hb hby d2_111) (by decide) (by decide) ?_
                                refine ⟨?_, N0, e79⟩
                                show (some (.ref w_CHARACTER) : Option Value) = _
                                rw [hr, if_pos hc1_1]
                                exact congrArg (fun z => some (Value.ref z)) (Eq.symm (own_tC (by omega)))
                              · refine Ends.go (fun _ k => XS.icmpNo X0.here hx rfl (hb hby d2_91) rfl (feq hc91_78).1 k) ?_
                                show Ends p e below s s₁ (mkF m 94 #[.val (.int p0), .val (.int p1)] []) _ _ _
                                have hc91_78i : ¬ (p1.toInt = (-16 : Int)) := fun q => hc91_78 (Int32.toInt_inj.mp q)
                                refine Ends.go (fun _ k => XS.iloadN X0.here hx rfl (hb hby d2_94) rfl k) ?_
                                show Ends p e below s s₁ (mkF m 95 #[.val (.int p0), .val (.int p1)] [(.int p1)]) _ _ _
                                refine Ends.go (fun _ k => XS.sipush X0.here hx rfl (hb hby d2_95) k) ?_
                                show Ends p e below s s₁ (mkF m 98 #[.val (.int p0), .val (.int p1)] [(.int (2005 : Int32)), (.int p1)]) _ _ _
                                by_cases hc98_80 : p1 = (2005 : Int32)
                                · refine Ends.go (fun _ k => XS.icmpYes X0.here hx rfl (pc0 := 98) (pc' := 108) rfl (hb hby d2_98) rfl (teq hc98_80).1 (by decide) (by decide) k) ?_
                                  show Ends p e below s s₁ (mkF m 108 #[.val (.int p0), .val (.int p1)] []) _ _ _
                                  have hc98_80i : p1.toInt = 2005 := congrArg Int32.toInt hc98_80
                                  obtain ⟨T81, X81, e81, st81⟩ := getS2 X0 hx hZ hown (host := "") (Or.inl (hw _ (List.mem_of_getElem? (i := 45) rfl))) Via.refl e0 (S_CHARACTER.ext O0.2) (g := (mkF m 108 #[.val (.int p0), .val (.int p1)] [])) rfl (hb hby d2_108)
                                  refine Ends.go st81 ?_
                                  show Ends p e below s T81 (mkF m 111 #[.val (.int p0), .val (.int p1)] [(.ref w_CHARACTER)]) _ _ _
                                  refine Ends.ret X81 hx Bd.notSynchronized (t := (.object "com/example/wakeline/wakeline/event/DeclaredType")) Bd.returns rfl (Or.inr (Or.inr (Or.inr (Or.inr ⟨rfl, rfl, rfl⟩)))) (hb hby d2_111) (by decide) (by decide) ?_
                                  refine ⟨?_, N0, e81⟩
                                  show (some (.ref w_CHARACTER) : Option Value) = _
                                  rw [hr, if_pos hc1_1]
                                  exact congrArg (fun z => some (Value.ref z)) (Eq.symm (own_tC (by omega)))
                                · refine Ends.go (fun _ k => XS.icmpNo X0.here hx rfl (hb hby d2_98) rfl (feq hc98_80).1 k) ?_
                                  show Ends p e below s s₁ (mkF m 101 #[.val (.int p0), .val (.int p1)] []) _ _ _
                                  have hc98_80i : ¬ (p1.toInt = 2005) := fun q => hc98_80 (Int32.toInt_inj.mp q)
                                  refine Ends.go (fun _ k => XS.iloadN X0.here hx rfl (hb hby d2_101) rfl k) ?_
                                  show Ends p e below s s₁ (mkF m 102 #[.val (.int p0), .val (.int p1)] [(.int p1)]) _ _ _
                                  refine Ends.go (fun _ k => XS.sipush X0.here hx rfl (hb hby d2_102) k) ?_
                                  show Ends p e below s s₁ (mkF m 105 #[.val (.int p0), .val (.int p1)] [(.int (2011 : Int32)), (.int p1)]) _ _ _
                                  by_cases hc105_82 : p1 = (2011 : Int32)
                                  · refine Ends.go (fun _ k => XS.icmpNo X0.here hx rfl (hb hby d2_105) rfl (teq hc105_82).2 k) ?_
                                    show Ends p e below s s₁ (mkF m 108 #[.val (.int p0), .val (.int p1)] []) _ _ _
                                    have hc105_82i : p1.toInt = 2011 := congrArg Int32.toInt hc105_82
                                    obtain ⟨T83, X83, e83, st83⟩ := getS2 X0 hx hZ hown (host := "") (Or.inl (hw _ (List.mem_of_getElem? (i := 45) rfl))) Via.refl e0 (S_CHARACTER.ext O0.2) (g := (mkF m 108 #[.val (.int p0), .val (.int p1)] [])) rfl (hb hby d2_108)
                                    refine Ends.go st83 ?_
                                    show Ends p e below s T83 (mkF m 111 #[.val (.int p0), .val (.int p1)] [(.ref w_CHARACTER)]) _ _ _
                                    refine Ends.ret X83 hx Bd.notSynchronized (t := (.object "com/example/wakeline/wakeline/event/DeclaredType")) Bd.returns rfl (Or.inr (Or.inr (Or.inr (Or.inr ⟨rfl, rfl, rfl⟩)))) (hb hby d2_111) (by decide) (by decide) ?_
                                    refine ⟨?_, N0, e83⟩
                                    show (some (.ref w_CHARACTER) : Option Value) = _
                                    rw [hr, if_pos hc1_1]
                                    exact congrArg (fun z => some (Value.ref z)) (Eq.symm (own_tC (by omega)))
                                  · refine Ends.go (fun _ k => XS.icmpYes X0.here hx rfl (pc0 := 105) (pc' := 112) rfl (hb hby d2_105) rfl (feq hc105_82).2 (by decide) (by decide) k) ?_
                                    show Ends p e below s s₁ (mkF m 112 #[.val (.int p0), .val (.int p1)] []) _ _ _
                                    have hc105_82i : ¬ (p1.toInt = 2011) := fun q => hc105_82 (Int32.toInt_inj.mp q)
                                    obtain ⟨T84, X84, e84, st84⟩ := getS2 X0 hx hZ hown (host := "") (Or.inl (hw _ (List.mem_of_getElem? (i := 10) rfl))) Via.refl e0 (S_OTHER.ext O0.2) (g := (mkF m 112 #[.val (.int p0), .val (.int p1)] [])) rfl (hb hby d2_112)
                                    refine Ends.go st84 ?_
                                    show Ends p e below s T84 (mkF m 115 #[.val (.int p0), .val (.int p1)] [(.ref w_OTHER)]) _ _ _
                                    refine Ends.ret X84 hx Bd.notSynchronized (t := (.object "com/example/wakeline/wakeline/event/DeclaredType")) Bd.returns rfl (Or.inr (Or.inr (Or.inr (Or.inr ⟨rfl, rfl, rfl⟩)))) (hb hby d2_115) (by decide) (by decide) ?_
                                    refine ⟨?_, N0, e84⟩
                                    show (some (.ref w_OTHER) : Option Value) = _
                                    rw [hr, if_pos hc1_1]
                                    exact congrArg (fun z => some (Value.ref z)) (Eq.symm (own_tO (by omega) (by omega) (by omega)))
                  · refine Ends.go (fun _ k => XS.icmpNo X0.here hx rfl (hb hby d2_53) rfl (flt hc53_67).2.2.1 k) ?_
                    show Ends p e below s s₁ (mkF m 56 #[.val (.int p0), .val (.int p1)] []) _ _ _
                    have hc53_67i : ¬ (8 < p1.toInt) := fun q => hc53_67 (Int32.lt_iff_toInt_lt.mpr q)
                    obtain ⟨T85, X85, e85, st85⟩ := getS2 X0 hx hZ hown (host := "") (Or.inl (hw _ (List.mem_of_getElem? (i := 42) rfl))) Via.refl e0 (S_NUMERIC.ext O0.2) (g := (mkF m 56 #[.val (.int p0), .val (.int p1)] [])) rfl (hb hby d2_56)
                    refine Ends.go st85 ?_
                    show Ends p e below s T85 (mkF m 59 #[.val (.int p0), .val (.int p1)] [(.ref w_NUMERIC)]) _ _ _
                    refine Ends.ret X85 hx Bd.notSynchronized (t := (.object "com/example/wakeline/wakeline/event/DeclaredType")) Bd.returns rfl (Or.inr (Or.inr (Or.inr (Or.inr ⟨rfl, rfl, rfl⟩)))) (hb hby d2_59) (by decide) (by decide) ?_
                    refine ⟨?_, N0, e85⟩
                    show (some (.ref w_NUMERIC) : Option Value) = _
                    rw [hr, if_pos hc1_1]
                    exact congrArg (fun z => some (Value.ref z)) (Eq.symm (own_tN (by omega)))
              · refine Ends.go (fun _ k => XS.icmpYes X0.here hx rfl (pc0 := 41) (pc' := 56) rfl (hb hby d2_41) rfl (flt hc41_48).2.2.2 (by decide) (by decide) k) ?_
                show Ends p e below s s₁ (mkF m 56 #[.val (.int p0), .val (.int p1)] []) _ _ _
                have hc41_48i : ¬ (3 < p1.toInt) := fun q => hc41_48 (Int32.lt_iff_toInt_lt.mpr q)
                obtain ⟨T86, X86, e86, st86⟩ := getS2 X0 hx hZ hown (host := "") (Or.inl (hw _ (List.mem_of_getElem? (i := 42) rfl))) Via.refl e0 (S_NUMERIC.ext O0.2) (g := (mkF m 56 #[.val (.int p0), .val (.int p1)] [])) rfl (hb hby d2_56)
                refine Ends.go st86 ?_
                show Ends p e below s T86 (mkF m 59 #[.val (.int p0), .val (.int p1)] [(.ref w_NUMERIC)]) _ _ _
                refine Ends.ret X86 hx Bd.notSynchronized (t := (.object "com/example/wakeline/wakeline/event/DeclaredType")) Bd.returns rfl (Or.inr (Or.inr (Or.inr (Or.inr ⟨rfl, rfl, rfl⟩)))) (hb hby d2_59) (by decide) (by decide) ?_
                refine ⟨?_, N0, e86⟩
                show (some (.ref w_NUMERIC) : Option Value) = _
                rw [hr, if_pos hc1_1]
                exact congrArg (fun z => some (Value.ref z)) (Eq.symm (own_tN (by omega)))
  · refine Ends.go (fun _ k => XS.ifNo X0.here hx rfl (hb hby d2_1) rfl ((if0 _ _).trans (feq hc1_1).1) k) ?_
    show Ends p e below s s₁ (mkF m 4 #[.val (.int p0), .val (.int p1)] []) _ _ _
    obtain ⟨T87, X87, e87, st87⟩ := getS2 X0 hx hZ hown (host := "") (Or.inl (hw _ (List.mem_of_getElem? (i := 10) rfl))) Via.refl e0 (S_OTHER.ext O0.2) (g := (mkF m 4 #[.val (.int p0), .val (.int p1)] [])) rfl (hb hby d2_4)
    refine Ends.go st87 ?_
    show Ends p e below s T87 (mkF m 7 #[.val (.int p0), .val (.int p1)] [(.ref w_OTHER)]) _ _ _
    refine Ends.ret X87 hx Bd.notSynchronized (t := (.object "com/example/wakeline/wakeline/event/DeclaredType")) Bd.returns rfl (Or.inr (Or.inr (Or.inr (Or.inr ⟨rfl, rfl, rfl⟩)))) (hb hby d2_7) (by decide) (by decide) ?_
    refine ⟨?_, N0, e87⟩
    show (some (.ref w_OTHER) : Option Value) = _
    rw [hr, if_neg hc1_1]
theorem pn0 : plainName "com/example/wakeline/wakeline/event/DeclaredTypeOfSqlTypePinLaw" = true := by first | (simp [plainName, overriddenIn]; done) | decide +kernel
theorem pd0_0 : parseMethodDescriptor "(I)Ljava/lang/Integer;" = some ⟨[.int], some (.object "java/lang/Integer")⟩ := by decide +kernel
theorem pd0_1 : parseMethodDescriptor "(Ljava/lang/Integer;)Lcom/example/wakeline/wakeline/event/DeclaredType;" = some ⟨[(.object "java/lang/Integer")], some (.object "com/example/wakeline/wakeline/event/DeclaredType")⟩ := by decide +kernel
theorem pd0_2 : parseMethodDescriptor "(ZI)Lcom/example/wakeline/wakeline/event/DeclaredType;" = some ⟨[.boolean, .int], some (.object "com/example/wakeline/wakeline/event/DeclaredType")⟩ := by decide +kernel
theorem ef0 (m : MethodId) (p0 : Int32) (p1 : Int32) : entryFrame m #[(.int p0), (.int p1)] maxLocals = mkF m 0 #[.val (.int p0), .val (.int p1), .unset, .unset, .unset] [] := by first | (simp [entryFrame, mkF, argsToLocals, Value.category, maxLocals]; done) | rfl
set_option maxRecDepth 65536 in
set_option maxHeartbeats 40000000 in
theorem rm0 (l : Launch) (Z : State) (a0 : Array Value) (hw : ∀ d ∈ tables_1, d.before a0 Z = true) (ws : List Jvm.Cond) (n0 : Nat) (h0 : Heap) (O0 : Old Z n0 h0) (p0 : Int32) (p1 : Int32) (w_OTHER : Addr) (w_NUMERIC : Addr) (w_CHARACTER : Addr) (w_INTEGER : Addr) (FF : Facts Z w_OTHER w_NUMERIC w_CHARACTER w_INTEGER) (w_cache : Addr) (cc : Cell) (S_high : Sta Z Z.heap "java/lang/Integer$IntegerCache" "high" "I" (.int (127 : Int32))) (S_cache : Sta Z Z.heap "java/lang/Integer$IntegerCache" "cache" "[Ljava/lang/Integer;" (.ref w_cache)) (B : Bxs Z w_cache cc "java/lang/Integer" "I" (256 : Int32) (fun j => .int (j - (128 : Int32)))) :
    Meets1 l x code maxLocals ret ws room_1 #[(.int p0), (.int p1)] Z h0 (fun v h L => v = some (.int (1 : Int32)) ∧ Fr n0 L) := by
  refine MetFree.of_bodySF (plainFor_of_name pn0) hisR ?_
  intro p e s m args below meth c s₁ Bd hml0 hP hK
  obtain ⟨rfl, hZ, hh⟩ := hP
  have hx := Bd.exec
  have hby := Bd.bytes
  have hml : c.maxLocals = 5 := hml0
  have hown : s.vm.findClass "com/example/wakeline/wakeline/event/DeclaredTypeOfSqlTypePinLaw" = some m.cls := findClass_of_methodNamed Bd.named
  have hnm := (name_of_methodNamed Bd.named Bd.method).1
  have X0 : Stand p l e room_1 s m #[(.int p0), (.int p1)] below meth c s₁ [] 0 0 := Stand.of_body Bd
  have e0 : s₁.heap = h0 := by rw [← hh, Bd.state]; rfl
  have N0 := Fr.nil n0
  have Z0 := own_old_le O0
  show Ends p e below s s₁ (entryFrame m #[(.int p0), (.int p1)] maxLocals) room_1.cells room_1.slots (fun v h L => v = some (.int (1 : Int32)) ∧ Fr n0 L)
  refine Ends.go (fun _ k => castTop (ef0 m p0 p1) k) ?_
  have K0 := Keep.refl h0 []
  have FF0 := FF
  obtain ⟨S_OTHER, E_OTHER, S_NUMERIC, E_NUMERIC, S_CHARACTER, E_CHARACTER, S_INTEGER, E_INTEGER⟩ := FF
  show Ends p e below s s₁ (mkF m 0 #[.val (.int p0), .val (.int p1), .unset, .unset, .unset] []) _ _ _
  refine Ends.go (fun _ k => XS.iloadN X0.here hx rfl (hb hby at_0) rfl k) ?_
  show Ends p e below s s₁ (mkF m 1 #[.val (.int p0), .val (.int p1), .unset, .unset, .unset] [(.int p1)]) _ _ _
  refine Ends.go (fun _ k => XS.iconst X0.here hx rfl (hb hby at_1) k) ?_
  show Ends p e below s s₁ (mkF m 2 #[.val (.int p0), .val (.int p1), .unset, .unset, .unset] [(.int (1 : Int32)), (.int p1)]) _ _ _
  refine Ends.go (fun _ k => XS.iand X0.here hx rfl (hb hby at_2) rfl k) ?_
  show Ends p e below s s₁ (mkF m 3 #[.val (.int p0), .val (.int p1), .unset, .unset, .unset] [(.int (p1 &&& (1 : Int32)))]) _ _ _
  by_cases hc3_1 : (p1 &&& (1 : Int32)) = (0 : Int32)
  · refine Ends.go (fun _ k => XS.ifYes X0.here hx rfl (pc0 := 3) (pc' := 10) rfl (hb hby at_3) rfl ((if0 _ _).trans (teq hc3_1).1) (by decide) (by decide) k) ?_
    show Ends p e below s s₁ (mkF m 10 #[.val (.int p0), .val (.int p1), .unset, .unset, .unset] []) _ _ _
    refine Ends.go (fun _ k => XS.iconst X0.here hx rfl (hb hby at_10) k) ?_
    show Ends p e below s s₁ (mkF m 11 #[.val (.int p0), .val (.int p1), .unset, .unset, .unset] [(.int (0 : Int32))]) _ _ _
    refine Ends.go (fun _ k => XS.istoreN X0.here hx rfl (hb hby at_11) rfl (l' := #[.val (.int p0), .val (.int p1), .val (.int (0 : Int32)), .unset, .unset]) rfl k) ?_
    show Ends p e below s s₁ (mkF m 12 #[.val (.int p0), .val (.int p1), .val (.int (0 : Int32)), .unset, .unset] []) _ _ _
    refine Ends.go (fun _ k => XS.iloadN X0.here hx rfl (hb hby at_12) rfl k) ?_
    show Ends p e below s s₁ (mkF m 13 #[.val (.int p0), .val (.int p1), .val (.int (0 : Int32)), .unset, .unset] [(.int (0 : Int32))]) _ _ _
    refine Ends.go (fun _ k => XS.ifYes X0.here hx rfl (pc0 := 13) (pc' := 20) rfl (hb hby at_13) rfl ((if0 _ _).trans (teq (by decide : (0 : Int32) = (0 : Int32))).1) (by decide) (by decide) k) ?_
    show Ends p e below s s₁ (mkF m 20 #[.val (.int p0), .val (.int p1), .val (.int (0 : Int32)), .unset, .unset] []) _ _ _
    refine Ends.go (fun _ k => XS.iloadN X0.here hx rfl (hb hby at_20) rfl k) ?_
    show Ends p e below s s₁ (mkF m 21 #[.val (.int p0), .val (.int p1), .val (.int (0 : Int32)), .unset, .unset] [(.int p0)]) _ _ _
    obtain ⟨_, _, ⟨T2, L2, k2, n2⟩, -, X2, ⟨Lc2, hQ2, l2, y2, z2⟩, st2⟩ := Jvm.LawKit.callS X0 hx (y := (⟨"java/lang/Integer", "valueOf", "(I)Ljava/lang/Integer;"⟩ : MethodName)) hown (mvT hZ (hw _ (List.mem_of_getElem? (i := 11) rfl))) (mvT hZ (hw _ (List.mem_of_getElem? (i := 12) rfl))) (mvT hZ (hw _ (List.mem_of_getElem? (i := 13) rfl))) (mvT hZ (hw _ (List.mem_of_getElem? (i := 14) rfl))) (by decide) (own_backOf (W := 0) (rmV l Z a0 hw [] n0 h0 O0 p0 w_cache cc S_high S_cache B) hZ (hw _ (List.mem_of_getElem? (i := 14) rfl)) (hw _ (List.mem_of_getElem? (i := 13) rfl)) (by decide) (by decide)) (g := (mkF m 21 #[.val (.int p0), .val (.int p1), .val (.int (0 : Int32)), .unset, .unset] [(.int p0)])) rfl (by rw [hml]; rfl) (argsL := [(.int p0)]) (rest := []) (lenOf pd0_0 rfl) rfl (by show 2 * 0 + _ ≤ _; exact Nat.le_of_eq rfl) (hb hby at_21) (fun _ _ => ⟨rfl, e0, (by decide : 0 + 1 ≤ _), (by decide : 0 + 1 ≤ _)⟩)
    dsimp only [Pt.U, Pt.locs, Pt.cells, Pt.slots] at X2 l2 y2 z2 st2 hQ2
    subst l2 y2 z2
    obtain ⟨b2, rfl, N2q, K2c, Eq2, Fv2⟩ := hQ2
    have N2 := Fr.app N0 N2q
    refine Ends.go st2 ?_
    obtain ⟨h2, e2⟩ : ∃ z, T2.heap = z := ⟨_, rfl⟩
    rw [e2] at K2c Eq2 Fv2
    have K2 := K0.trans K2c all0
    have O2 := O0.keep K2c all0
    show Ends p e below s T2 (mkF m 24 #[.val (.int p0), .val (.int p1), .val (.int (0 : Int32)), .unset, .unset] [(.ref b2)]) _ _ _
    refine Ends.go (fun _ k => XS.astoreN X2.here hx rfl (hb hby at_24) rfl rfl (l' := #[.val (.int p0), .val (.int p1), .val (.int (0 : Int32)), .val (.ref b2), .unset]) rfl k) ?_
    show Ends p e below s T2 (mkF m 25 #[.val (.int p0), .val (.int p1), .val (.int (0 : Int32)), .val (.ref b2), .unset] []) _ _ _
    refine Ends.go (fun _ k => XS.aloadN X2.here hx rfl (hb hby at_25) rfl rfl k) ?_
    show Ends p e below s T2 (mkF m 26 #[.val (.int p0), .val (.int p1), .val (.int (0 : Int32)), .val (.ref b2), .unset] [(.ref b2)]) _ _ _
    obtain ⟨_, _, ⟨T3, L3, k3, n3⟩, -, X3, ⟨Lc3, hQ3, l3, y3, z3⟩, st3⟩ := Jvm.LawKit.callS X2 hx (y := (⟨"com/example/wakeline/wakeline/event/DeclaredType", "ofSqlType", "(Ljava/lang/Integer;)Lcom/example/wakeline/wakeline/event/DeclaredType;"⟩ : MethodName)) hown (mvT hZ (hw _ (List.mem_of_getElem? (i := 0) rfl))) (mvT hZ (hw _ (List.mem_of_getElem? (i := 1) rfl))) (mvT hZ (hw _ (List.mem_of_getElem? (i := 2) rfl))) (mvT hZ (hw _ (List.mem_of_getElem? (i := 3) rfl))) (by decide) (own_backOf (W := 0) (rmS l Z a0 hw [] n0 h2 O2 b2 w_OTHER w_NUMERIC w_CHARACTER w_INTEGER FF0 p0 Eq2 Fv2 (own_type p0 w_INTEGER w_NUMERIC w_CHARACTER w_OTHER) rfl) hZ (hw _ (List.mem_of_getElem? (i := 3) rfl)) (hw _ (List.mem_of_getElem? (i := 2) rfl)) (by decide) (by decide)) (g := (mkF m 26 #[.val (.int p0), .val (.int p1), .val (.int (0 : Int32)), .val (.ref b2), .unset] [(.ref b2)])) rfl (by rw [hml]; rfl) (argsL := [(.ref b2)]) (rest := []) (lenOf pd0_1 rfl) rfl (by show 2 * 0 + _ ≤ _; exact Nat.le_of_eq rfl) (hb hby at_26) (fun _ _ => ⟨rfl, e2, (by decide : 1 + 0 ≤ _), (by decide : 1 + 0 ≤ _)⟩)
    dsimp only [Pt.U, Pt.locs, Pt.cells, Pt.slots] at X3 l3 y3 z3 st3 hQ3
    subst l3 y3 z3
    obtain ⟨rfl, N3q, e3q⟩ := hQ3
    have N3 := Fr.app N2 N3q
    refine Ends.go st3 ?_
    show Ends p e below s T3 (mkF m 29 #[.val (.int p0), .val (.int p1), .val (.int (0 : Int32)), .val (.ref b2), .unset] [(.ref (own_type p0 w_INTEGER w_NUMERIC w_CHARACTER w_OTHER))]) _ _ _
    refine Ends.go (fun _ k => XS.astore X3.here hx rfl (hb hby at_29) rfl rfl (l' := #[.val (.int p0), .val (.int p1), .val (.int (0 : Int32)), .val (.ref b2), .val (.ref (own_type p0 w_INTEGER w_NUMERIC w_CHARACTER w_OTHER))]) rfl k) ?_
    show Ends p e below s T3 (mkF m 31 #[.val (.int p0), .val (.int p1), .val (.int (0 : Int32)), .val (.ref b2), .val (.ref (own_type p0 w_INTEGER w_NUMERIC w_CHARACTER w_OTHER))] []) _ _ _
    refine Ends.go (fun _ k => XS.aload X3.here hx rfl (hb hby at_31) rfl rfl k) ?_
    show Ends p e below s T3 (mkF m 33 #[.val (.int p0), .val (.int p1), .val (.int (0 : Int32)), .val (.ref b2), .val (.ref (own_type p0 w_INTEGER w_NUMERIC w_CHARACTER w_OTHER))] [(.ref (own_type p0 w_INTEGER w_NUMERIC w_CHARACTER w_OTHER))]) _ _ _
    refine Ends.go (fun _ k => XS.iloadN X3.here hx rfl (hb hby at_33) rfl k) ?_
    show Ends p e below s T3 (mkF m 34 #[.val (.int p0), .val (.int p1), .val (.int (0 : Int32)), .val (.ref b2), .val (.ref (own_type p0 w_INTEGER w_NUMERIC w_CHARACTER w_OTHER))] [(.int (0 : Int32)), (.ref (own_type p0 w_INTEGER w_NUMERIC w_CHARACTER w_OTHER))]) _ _ _
    refine Ends.go (fun _ k => XS.iloadN X3.here hx rfl (hb hby at_34) rfl k) ?_
    show Ends p e below s T3 (mkF m 35 #[.val (.int p0), .val (.int p1), .val (.int (0 : Int32)), .val (.ref b2), .val (.ref (own_type p0 w_INTEGER w_NUMERIC w_CHARACTER w_OTHER))] [(.int p0), (.int (0 : Int32)), (.ref (own_type p0 w_INTEGER w_NUMERIC w_CHARACTER w_OTHER))]) _ _ _
    obtain ⟨_, _, ⟨T4, L4, k4, n4⟩, -, X4, ⟨Lc4, hQ4, l4, y4, z4⟩, st4⟩ := Jvm.LawKit.callS X3 hx (y := (⟨"com/example/wakeline/wakeline/event/DeclaredTypeOfSqlTypePinLaw", "expected", "(ZI)Lcom/example/wakeline/wakeline/event/DeclaredType;"⟩ : MethodName)) hown (mvT hZ (hw _ (List.mem_of_getElem? (i := 6) rfl))) (mvT hZ (hw _ (List.mem_of_getElem? (i := 7) rfl))) (mvT hZ (hw _ (List.mem_of_getElem? (i := 8) rfl))) (mvT hZ (hw _ (List.mem_of_getElem? (i := 9) rfl))) (by decide) (own_backOf (W := 1) (rmX l Z a0 hw [] n0 h2 O2 (0 : Int32) p0 w_OTHER w_NUMERIC w_CHARACTER w_INTEGER FF0 (own_type p0 w_INTEGER w_NUMERIC w_CHARACTER w_OTHER) (by simp)) hZ (hw _ (List.mem_of_getElem? (i := 9) rfl)) (hw _ (List.mem_of_getElem? (i := 8) rfl)) (by decide) (by decide)) (g := (mkF m 35 #[.val (.int p0), .val (.int p1), .val (.int (0 : Int32)), .val (.ref b2), .val (.ref (own_type p0 w_INTEGER w_NUMERIC w_CHARACTER w_OTHER))] [(.int p0), (.int (0 : Int32)), (.ref (own_type p0 w_INTEGER w_NUMERIC w_CHARACTER w_OTHER))])) rfl (by rw [hml]; rfl) (argsL := [(.int (0 : Int32)), (.int p0)]) (rest := [(.ref (own_type p0 w_INTEGER w_NUMERIC w_CHARACTER w_OTHER))]) (lenOf pd0_2 rfl) rfl (by show 2 * 0 + _ ≤ _; exact Nat.le_of_eq rfl) (hb hby at_35) (fun _ _ => ⟨rfl, e3q, (by decide : 1 + 0 ≤ _), (by decide : 1 + 0 ≤ _)⟩)
    dsimp only [Pt.U, Pt.locs, Pt.cells, Pt.slots] at X4 l4 y4 z4 st4 hQ4
    subst l4 y4 z4
    obtain ⟨rfl, N4q, e4q⟩ := hQ4
    have N4 := Fr.app N3 N4q
    refine Ends.go st4 ?_
    show Ends p e below s T4 (mkF m 38 #[.val (.int p0), .val (.int p1), .val (.int (0 : Int32)), .val (.ref b2), .val (.ref (own_type p0 w_INTEGER w_NUMERIC w_CHARACTER w_OTHER))] [(.ref (own_type p0 w_INTEGER w_NUMERIC w_CHARACTER w_OTHER)), (.ref (own_type p0 w_INTEGER w_NUMERIC w_CHARACTER w_OTHER))]) _ _ _
    refine Ends.go (fun _ k => Jvm.RoadKit.acmp (g := (mkF m 38 #[.val (.int p0), .val (.int p1), .val (.int (0 : Int32)), .val (.ref b2), .val (.ref (own_type p0 w_INTEGER w_NUMERIC w_CHARACTER w_OTHER))] [(.ref (own_type p0 w_INTEGER w_NUMERIC w_CHARACTER w_OTHER)), (.ref (own_type p0 w_INTEGER w_NUMERIC w_CHARACTER w_OTHER))])) X4 hx rfl rfl rfl (pc0 := 38) (pc' := 41) (same := true) rfl (hb hby at_38) rfl (decide_eq_true rfl) (by decide) (by decide) k) ?_
    show Ends p e below s T4 (mkF m 41 #[.val (.int p0), .val (.int p1), .val (.int (0 : Int32)), .val (.ref b2), .val (.ref (own_type p0 w_INTEGER w_NUMERIC w_CHARACTER w_OTHER))] []) _ _ _
    refine Ends.go (fun _ k => XS.iconst X4.here hx rfl (hb hby at_41) k) ?_
    show Ends p e below s T4 (mkF m 42 #[.val (.int p0), .val (.int p1), .val (.int (0 : Int32)), .val (.ref b2), .val (.ref (own_type p0 w_INTEGER w_NUMERIC w_CHARACTER w_OTHER))] [(.int (1 : Int32))]) _ _ _
    refine Ends.go (fun _ k => XS.goto X4.here hx rfl (pc0 := 42) (pc' := 46) rfl (hb hby at_42) (by decide) (by decide) k) ?_
    show Ends p e below s T4 (mkF m 46 #[.val (.int p0), .val (.int p1), .val (.int (0 : Int32)), .val (.ref b2), .val (.ref (own_type p0 w_INTEGER w_NUMERIC w_CHARACTER w_OTHER))] [(.int (1 : Int32))]) _ _ _
    refine Ends.retZ X4 hx Bd.notSynchronized (t := .boolean) Bd.returns (by simp) (hb hby at_46) (by decide) (by decide) ?_
    exact ⟨rfl, N4⟩
  · refine Ends.go (fun _ k => XS.ifNo X0.here hx rfl (hb hby at_3) rfl ((if0 _ _).trans (feq hc3_1).1) k) ?_
    show Ends p e below s s₁ (mkF m 6 #[.val (.int p0), .val (.int p1), .unset, .unset, .unset] []) _ _ _
    refine Ends.go (fun _ k => XS.iconst X0.here hx rfl (hb hby at_6) k) ?_
    show Ends p e below s s₁ (mkF m 7 #[.val (.int p0), .val (.int p1), .unset, .unset, .unset] [(.int (1 : Int32))]) _ _ _
    refine Ends.go (fun _ k => XS.goto X0.here hx rfl (pc0 := 7) (pc' := 11) rfl (hb hby at_7) (by decide) (by decide) k) ?_
    show Ends p e below s s₁ (mkF m 11 #[.val (.int p0), .val (.int p1), .unset, .unset, .unset] [(.int (1 : Int32))]) _ _ _
    refine Ends.go (fun _ k => XS.istoreN X0.here hx rfl (hb hby at_11) rfl (l' := #[.val (.int p0), .val (.int p1), .val (.int (1 : Int32)), .unset, .unset]) rfl k) ?_
    show Ends p e below s s₁ (mkF m 12 #[.val (.int p0), .val (.int p1), .val (.int (1 : Int32)), .unset, .unset] []) _ _ _
    refine Ends.go (fun _ k => XS.iloadN X0.here hx rfl (hb hby at_12) rfl k) ?_
    show Ends p e below s s₁ (mkF m 13 #[.val (.int p0), .val (.int p1), .val (.int (1 : Int32)), .unset, .unset] [(.int (1 : Int32))]) _ _ _
    refine Ends.go (fun _ k => XS.ifNo X0.here hx rfl (hb hby at_13) rfl ((if0 _ _).trans (feq (by decide : ¬ ((1 : Int32) = (0 : Int32)))).1) k) ?_
    show Ends p e below s s₁ (mkF m 16 #[.val (.int p0), .val (.int p1), .val (.int (1 : Int32)), .unset, .unset] []) _ _ _
    refine Ends.go (fun _ k => XS.aconstNull X0.here hx rfl (hb hby at_16) k) ?_
    show Ends p e below s s₁ (mkF m 17 #[.val (.int p0), .val (.int p1), .val (.int (1 : Int32)), .unset, .unset] [.null]) _ _ _
    refine Ends.go (fun _ k => XS.goto X0.here hx rfl (pc0 := 17) (pc' := 24) rfl (hb hby at_17) (by decide) (by decide) k) ?_
    show Ends p e below s s₁ (mkF m 24 #[.val (.int p0), .val (.int p1), .val (.int (1 : Int32)), .unset, .unset] [.null]) _ _ _
    refine Ends.go (fun _ k => XS.astoreN X0.here hx rfl (hb hby at_24) rfl rfl (l' := #[.val (.int p0), .val (.int p1), .val (.int (1 : Int32)), .val .null, .unset]) rfl k) ?_
    show Ends p e below s s₁ (mkF m 25 #[.val (.int p0), .val (.int p1), .val (.int (1 : Int32)), .val .null, .unset] []) _ _ _
    refine Ends.go (fun _ k => XS.aloadN X0.here hx rfl (hb hby at_25) rfl rfl k) ?_
    show Ends p e below s s₁ (mkF m 26 #[.val (.int p0), .val (.int p1), .val (.int (1 : Int32)), .val .null, .unset] [.null]) _ _ _
    obtain ⟨_, _, ⟨T5, L5, k5, n5⟩, -, X5, ⟨Lc5, hQ5, l5, y5, z5⟩, st5⟩ := Jvm.LawKit.callS X0 hx (y := (⟨"com/example/wakeline/wakeline/event/DeclaredType", "ofSqlType", "(Ljava/lang/Integer;)Lcom/example/wakeline/wakeline/event/DeclaredType;"⟩ : MethodName)) hown (mvT hZ (hw _ (List.mem_of_getElem? (i := 0) rfl))) (mvT hZ (hw _ (List.mem_of_getElem? (i := 1) rfl))) (mvT hZ (hw _ (List.mem_of_getElem? (i := 2) rfl))) (mvT hZ (hw _ (List.mem_of_getElem? (i := 3) rfl))) (by decide) (own_backOf (W := 0) (rmZ l Z a0 hw [] n0 h0 O0  w_OTHER w_NUMERIC w_CHARACTER w_INTEGER FF0) hZ (hw _ (List.mem_of_getElem? (i := 3) rfl)) (hw _ (List.mem_of_getElem? (i := 2) rfl)) (by decide) (by decide)) (g := (mkF m 26 #[.val (.int p0), .val (.int p1), .val (.int (1 : Int32)), .val .null, .unset] [.null])) rfl (by rw [hml]; rfl) (argsL := [.null]) (rest := []) (lenOf pd0_1 rfl) rfl (by show 2 * 0 + _ ≤ _; exact Nat.le_of_eq rfl) (hb hby at_26) (fun _ _ => ⟨rfl, e0, (by decide : 0 + 0 ≤ _), (by decide : 0 + 0 ≤ _)⟩)
    dsimp only [Pt.U, Pt.locs, Pt.cells, Pt.slots] at X5 l5 y5 z5 st5 hQ5
    subst l5 y5 z5
    obtain ⟨rfl, N5q, e5q⟩ := hQ5
    have N5 := Fr.app N0 N5q
    refine Ends.go st5 ?_
    show Ends p e below s T5 (mkF m 29 #[.val (.int p0), .val (.int p1), .val (.int (1 : Int32)), .val .null, .unset] [(.ref w_OTHER)]) _ _ _
    refine Ends.go (fun _ k => XS.astore X5.here hx rfl (hb hby at_29) rfl rfl (l' := #[.val (.int p0), .val (.int p1), .val (.int (1 : Int32)), .val .null, .val (.ref w_OTHER)]) rfl k) ?_
    show Ends p e below s T5 (mkF m 31 #[.val (.int p0), .val (.int p1), .val (.int (1 : Int32)), .val .null, .val (.ref w_OTHER)] []) _ _ _
    refine Ends.go (fun _ k => XS.aload X5.here hx rfl (hb hby at_31) rfl rfl k) ?_
    show Ends p e below s T5 (mkF m 33 #[.val (.int p0), .val (.int p1), .val (.int (1 : Int32)), .val .null, .val (.ref w_OTHER)] [(.ref w_OTHER)]) _ _ _
    refine Ends.go (fun _ k => XS.iloadN X5.here hx rfl (hb hby at_33) rfl k) ?_
    show Ends p e below s T5 (mkF m 34 #[.val (.int p0), .val (.int p1), .val (.int (1 : Int32)), .val .null, .val (.ref w_OTHER)] [(.int (1 : Int32)), (.ref w_OTHER)]) _ _ _
    refine Ends.go (fun _ k => XS.iloadN X5.here hx rfl (hb hby at_34) rfl k) ?_
    show Ends p e below s T5 (mkF m 35 #[.val (.int p0), .val (.int p1), .val (.int (1 : Int32)), .val .null, .val (.ref w_OTHER)] [(.int p0), (.int (1 : Int32)), (.ref w_OTHER)]) _ _ _
    obtain ⟨_, _, ⟨T6, L6, k6, n6⟩, -, X6, ⟨Lc6, hQ6, l6, y6, z6⟩, st6⟩ := Jvm.LawKit.callS X5 hx (y := (⟨"com/example/wakeline/wakeline/event/DeclaredTypeOfSqlTypePinLaw", "expected", "(ZI)Lcom/example/wakeline/wakeline/event/DeclaredType;"⟩ : MethodName)) hown (mvT hZ (hw _ (List.mem_of_getElem? (i := 6) rfl))) (mvT hZ (hw _ (List.mem_of_getElem? (i := 7) rfl))) (mvT hZ (hw _ (List.mem_of_getElem? (i := 8) rfl))) (mvT hZ (hw _ (List.mem_of_getElem? (i := 9) rfl))) (by decide) (own_backOf (W := 1) (rmX l Z a0 hw [] n0 h0 O0 (1 : Int32) p0 w_OTHER w_NUMERIC w_CHARACTER w_INTEGER FF0 w_OTHER (by simp)) hZ (hw _ (List.mem_of_getElem? (i := 9) rfl)) (hw _ (List.mem_of_getElem? (i := 8) rfl)) (by decide) (by decide)) (g := (mkF m 35 #[.val (.int p0), .val (.int p1), .val (.int (1 : Int32)), .val .null, .val (.ref w_OTHER)] [(.int p0), (.int (1 : Int32)), (.ref w_OTHER)])) rfl (by rw [hml]; rfl) (argsL := [(.int (1 : Int32)), (.int p0)]) (rest := [(.ref w_OTHER)]) (lenOf pd0_2 rfl) rfl (by show 2 * 0 + _ ≤ _; exact Nat.le_of_eq rfl) (hb hby at_35) (fun _ _ => ⟨rfl, e5q, (by decide : 0 + 0 ≤ _), (by decide : 0 + 0 ≤ _)⟩)
    dsimp only [Pt.U, Pt.locs, Pt.cells, Pt.slots] at X6 l6 y6 z6 st6 hQ6
    subst l6 y6 z6
    obtain ⟨rfl, N6q, e6q⟩ := hQ6
    have N6 := Fr.app N5 N6q
    refine Ends.go st6 ?_
    show Ends p e below s T6 (mkF m 38 #[.val (.int p0), .val (.int p1), .val (.int (1 : Int32)), .val .null, .val (.ref w_OTHER)] [(.ref w_OTHER), (.ref w_OTHER)]) _ _ _
    refine Ends.go (fun _ k => Jvm.RoadKit.acmp (g := (mkF m 38 #[.val (.int p0), .val (.int p1), .val (.int (1 : Int32)), .val .null, .val (.ref w_OTHER)] [(.ref w_OTHER), (.ref w_OTHER)])) X6 hx rfl rfl rfl (pc0 := 38) (pc' := 41) (same := true) rfl (hb hby at_38) rfl (decide_eq_true rfl) (by decide) (by decide) k) ?_
    show Ends p e below s T6 (mkF m 41 #[.val (.int p0), .val (.int p1), .val (.int (1 : Int32)), .val .null, .val (.ref w_OTHER)] []) _ _ _
    refine Ends.go (fun _ k => XS.iconst X6.here hx rfl (hb hby at_41) k) ?_
    show Ends p e below s T6 (mkF m 42 #[.val (.int p0), .val (.int p1), .val (.int (1 : Int32)), .val .null, .val (.ref w_OTHER)] [(.int (1 : Int32))]) _ _ _
    refine Ends.go (fun _ k => XS.goto X6.here hx rfl (pc0 := 42) (pc' := 46) rfl (hb hby at_42) (by decide) (by decide) k) ?_
    show Ends p e below s T6 (mkF m 46 #[.val (.int p0), .val (.int p1), .val (.int (1 : Int32)), .val .null, .val (.ref w_OTHER)] [(.int (1 : Int32))]) _ _ _
    refine Ends.retZ X6 hx Bd.notSynchronized (t := .boolean) Bd.returns (by simp) (hb hby at_46) (by decide) (by decide) ?_
    exact ⟨rfl, N6⟩
set_option maxRecDepth 65536 in
set_option maxHeartbeats 40000000 in
theorem comes_1 {Post : Tables → Env → Array Value → State → Outcome → State → Prop} (hpost : ∀ tb e args s v u, (limb_1_1.after args s (.returned v) u = true ∧ limb_1_2.after args s (.returned v) u = true ∧ True) → FrameEnd s (.returned v) u (Jvm.fieldLocs frame_1_writes args s ++ Jvm.arrayLocs frame_1_arrays args s ++ Jvm.staticLocs frame_1_statics s) 16 128 → Post tb e args s (.returned v) u) :
    ArmFor flags0 classFile x code maxLocals ret World_1 tables_1 room_1 Calls_1 rest_1 Pre_1 Post := by
  intro l hfl _ _ p e ha hc hk s m args below hf hA hF happ hP
  obtain ⟨hcalls, hrest, hpre⟩ := hP
  obtain ⟨-, -, -, hnamed, -, -, -, hat⟩ := (Spec.applies_iff hf).mp happ
  obtain ⟨hg, hn⟩ := and_e (Cond.before_iff.mp (show (Jvm.Cond.and given_1 narrow_1).before args s = true from hpre))
  obtain ⟨g0a, g0b⟩ := and_e hg
  obtain ⟨g1a, g1b⟩ := and_e g0b
  obtain ⟨w0, w1, rfl⟩ : ∃ w0 w1 : Value, args = #[w0, w1] := by
    have hs : args.size = 2 := by simpa [Cond.value, given_1] using g0a
    obtain ⟨L⟩ := args
    match L, hs with
    | [w0, w1], _ => exact ⟨w0, w1, rfl⟩
  have hw := fun d (hd : d ∈ tables_1) => atoms_spec (ws := Jvm.Cond.code x code maxLocals ret :: tables_1) hat d (List.mem_cons_of_mem _ hd)
  have hfit : Fit s := fun {y c} hc i hi => by
    obtain ⟨ha, rfl⟩ := Array.getElem?_eq_some_iff.mp hc
    have q := List.all_eq_true.mp ((Array.all_eq_true_iff_forall_mem.mp hF) _ (Array.getElem_mem ha)) i (List.mem_range.mpr hi)
    simpa [Array.getElem?_eq_getElem hi] using q
  obtain ⟨hsets, hown0⟩ := atoms_of _ (rest_1_c_eq ▸ (show rest_1_c.before _ s = true from hrest))
  have hr0 := Cond.before_iff.mp hown0
  obtain ⟨i0, ei0⟩ := is_v g1a
  obtain rfl : w0 = (.int i0) := Option.some.inj ei0
  obtain ⟨i1, ei1⟩ := is_v g1b
  obtain rfl : w1 = (.int i1) := Option.some.inj ei1
  obtain ⟨n0a, n0b⟩ := and_e hn
  obtain ⟨w_OTHER, ev_OTHER⟩ := exa_v n0a
  obtain ⟨n1a, n1b⟩ := and_e n0b
  obtain ⟨w_NUMERIC, ev_NUMERIC⟩ := exa_v n1a
  obtain ⟨n2a, n2b⟩ := and_e n1b
  obtain ⟨w_CHARACTER, ev_CHARACTER⟩ := exa_v n2a
  obtain ⟨w_INTEGER, ev_INTEGER⟩ := exa_v n2b
  have ev_high := own_eqI (Cond.before_iff.mp (hsets _ (List.mem_of_getElem? (i := 3) rfl)))
  have S_high := Sta.start ev_high (Or.inl (hsets _ (List.mem_of_getElem? (i := 1) rfl)))
  have hc4 := Cond.before_iff.mp (hsets _ (List.mem_of_getElem? (i := 4) rfl))
  obtain ⟨w_cache, ev_cache⟩ := arr_v hc4
  have S_cache := Sta.start ev_cache (Or.inr ⟨(hw _ (List.mem_of_getElem? (i := 38) rfl)), (hsets _ (List.mem_of_getElem? (i := 2) rfl))⟩)
  obtain ⟨cc, Ac⟩ := Arr.start ev_cache hc4
  have a6 := Ac.fin (Vm.Alike.refl _)
  obtain ⟨l6, v6⟩ := own_len ev_cache a6 (Cond.before_iff.mp (hsets _ (List.mem_of_getElem? (i := 6) rfl)))
  have B := Bxs.start (val := fun j => .int (j - (128 : Int32))) (fun _ => ev_cache) Ac l6 v6 (by decide) (Cond.before_iff.mp (hsets _ (List.mem_of_getElem? (i := 7) rfl))) (fun X j nn h => eqv_i (own_sub nn) h)
  obtain ⟨n, o, h1, h2, h3, _, L, rfl, ⟨rfl, N⟩, hq⟩ := rm0 l s _ hw tables_1 s.heap.size s.heap (Old.start s) i0 i1 w_OTHER w_NUMERIC w_CHARACTER w_INTEGER ⟨Sta.start ev_OTHER (Or.inr ⟨(hw _ (List.mem_of_getElem? (i := 2) rfl)), (hw _ (List.mem_of_getElem? (i := 5) rfl))⟩), Exa.start ev_OTHER n0a, Sta.start ev_NUMERIC (Or.inr ⟨(hw _ (List.mem_of_getElem? (i := 2) rfl)), (hw _ (List.mem_of_getElem? (i := 41) rfl))⟩), Exa.start ev_NUMERIC n1a, Sta.start ev_CHARACTER (Or.inr ⟨(hw _ (List.mem_of_getElem? (i := 2) rfl)), (hw _ (List.mem_of_getElem? (i := 44) rfl))⟩), Exa.start ev_CHARACTER n2a, Sta.start ev_INTEGER (Or.inr ⟨(hw _ (List.mem_of_getElem? (i := 2) rfl)), (hw _ (List.mem_of_getElem? (i := 47) rfl))⟩), Exa.start ev_INTEGER n2b⟩ w_cache _ S_high S_cache B p e ha hc hk s m _ below hf ((Spec.applies_iff_loose hf).mp happ).1 ⟨rfl, State.Warmed39.refl s, rfl⟩ trivial
  refine ⟨n, _, h1, h2, h3, hpost _ _ _ _ _ _ ⟨Cond.after_iff.mpr rfl, Cond.after_iff.mpr (eq_i res_at (Term.int_eval (1)) rfl), trivial⟩ ⟨hq.1, hq.2.1, (hq.2.2.sift fun y hy => Or.inr (N y hy)).mono (by decide) (by decide)⟩⟩
theorem main_1_1 : Claimed_1_1 := comes_1 fun _ _ _ _ _ _ h hF => ⟨h.1, hF⟩
theorem main_1_2 : Claimed_1_2 := comes_1 fun _ _ _ _ _ _ h hF => ⟨h.2.1, hF⟩
end Jvm.Pilot.@@N@@
namespace Jvm.Pilot.@@N@@
open Jvm Jvm.ClassFile Sem Op Lib Jvm.Free Jvm.Stand Jvm.Pilot.@@N@@.Jvm.D
/-! MADE BY PROGRAM (witnessworld.py) out of the Statement's table words and the real class files: 17 classes; the members and pool entries that the words name. The judged class is class 1, her method 1. -/
namespace start1
open Jvm.ClassFile
def u (s : String) : CpInfo := .utf8 (stringToUtf16 s)
/-- a pool by its gaps: so many unusable entries, then the entry; so many at the end -/
def gap : Nat → List CpInfo → List CpInfo
  | 0, r => r
  | n + 1, r => .unusable :: gap n r
def poolList (es : List (Nat × CpInfo)) (last : Nat) : List CpInfo := es.foldr (fun e r => gap e.1 (e.2 :: r)) (gap last [])
def pool (es : List (Nat × CpInfo)) (last : Nat) : Array CpInfo := ⟨poolList es last⟩
def fileOf (pool : Array CpInfo) (this : Nat) (attrs : Array Attribute := #[]) (ms : Array MethodInfo := #[]) (fl : Nat := 33) (sup : Nat := 0) (ifs : Array Nat := #[]) (fds : Array FieldInfo := #[]) : ClassFile where
  minorVersion := 0
  majorVersion := 65
  constantPool := pool
  accessFlags := fl
  thisClass := this
  superClass := sup
  interfaces := ifs
  fields := fds
  methods := ms
  attributes := attrs
def plain (name : String) (sup : Option ClassId) : Class where
  name := name
  kind := .ordinary
  loader := none
  accessFlags := 33
  super := sup
  interfaces := #[]
  cf := none
  fields := #[]
  methods := #[]
  instanceTypes := #[]
  staticTypes := #[]
  resolved := #[]
  callSites := []
  init := .initialized
  statics := none
  mirror := none

def pool0 : Array CpInfo := pool [(5, u "<init>"), (0, u "()V"), (1, .class_ 10), (1, u "java/lang/Object")] 113

def k0c0 : Code := { maxStack := 0, maxLocals := 1, code := object_method_1_code, exceptionTable := #[], attributes := #[] }
def k0m0 : Method := { name := "<init>", desc := "()V", sig := { parameters := [], returnType := none }, accessFlags := 1, code := some k0c0 }
/-- java/lang/Object -/
def k0 : Class := { plain "java/lang/Object" none with
  accessFlags := 33
  interfaces := #[]
  cf := some (fileOf pool0 8 #[] #[{ accessFlags := 1, nameIndex := 5, descriptorIndex := 6, attributes := #[] }] 33 0 #[] #[])
  fields := #[]
  methods := #[k0m0]
  instanceTypes := #[]
  staticTypes := #[]
  resolved := Array.replicate 124 none
  statics := none }

def pool1 : Array CpInfo := pool [(2, .class_ 4), (1, u "java/lang/Object"), (0, u "<init>"), (0, u "()V"), (0, .methodref 8 9), (0, .class_ 10), (0, .nameAndType 11 12), (0, u "java/lang/Integer"), (0, u "valueOf"), (0, u "(I)Ljava/lang/Integer;"), (0, .methodref 14 15), (0, .class_ 16), (0, .nameAndType 17 18), (0, u "com/example/wakeline/wakeline/event/DeclaredType"), (0, u "ofSqlType"), (0, u "(Ljava/lang/Integer;)Lcom/example/wakeline/wakeline/event/DeclaredType;"), (0, .methodref 20 21), (0, .class_ 22), (0, .nameAndType 23 24), (0, u "com/example/wakeline/wakeline/event/DeclaredTypeOfSqlTypePinLaw"), (0, u "expected"), (0, u "(ZI)Lcom/example/wakeline/wakeline/event/DeclaredType;"), (0, .fieldref 14 26), (0, .nameAndType 27 28), (0, u "OTHER"), (0, u "Lcom/example/wakeline/wakeline/event/DeclaredType;"), (0, .fieldref 14 30), (0, .nameAndType 31 28), (0, u "INTEGER"), (0, .fieldref 14 33), (0, .nameAndType 34 28), (0, u "NUMERIC"), (0, .fieldref 14 36), (0, .nameAndType 37 28), (0, u "CHARACTER"), (2, u "law"), (0, u "(II)Z")] 3

def k1m0 : Method := { name := "<init>", desc := "()V", sig := { parameters := [], returnType := none }, accessFlags := 2, code := none }
def k1c1 : Code := { maxStack := 3, maxLocals := 5, code := code, exceptionTable := #[], attributes := #[] }
def k1m1 : Method := { name := "law", desc := "(II)Z", sig := { parameters := [.int, .int], returnType := some .boolean }, accessFlags := 9, code := some k1c1 }
def k1c2 : Code := { maxStack := 2, maxLocals := 2, code := method_3_code, exceptionTable := #[], attributes := #[] }
def k1m2 : Method := { name := "expected", desc := "(ZI)Lcom/example/wakeline/wakeline/event/DeclaredType;", sig := { parameters := [.boolean, .int], returnType := some (.object "com/example/wakeline/wakeline/event/DeclaredType") }, accessFlags := 10, code := some k1c2 }
/-- com/example/wakeline/wakeline/event/DeclaredTypeOfSqlTypePinLaw -/
def k1 : Class := { plain "com/example/wakeline/wakeline/event/DeclaredTypeOfSqlTypePinLaw" (some 0) with
  accessFlags := 49
  interfaces := #[]
  cf := some (fileOf pool1 20 #[] #[{ accessFlags := 2, nameIndex := 5, descriptorIndex := 6, attributes := #[] }, { accessFlags := 9, nameIndex := 40, descriptorIndex := 41, attributes := #[] }, { accessFlags := 10, nameIndex := 23, descriptorIndex := 24, attributes := #[] }] 49 2 #[] #[])
  fields := #[]
  methods := #[k1m0, k1m1, k1m2]
  instanceTypes := #[]
  staticTypes := #[]
  resolved := Array.replicate 45 none
  statics := none }

def pool2 : Array CpInfo := pool [(1, .class_ 2), (0, u "java/lang/constant/Constable"), (0, .class_ 4), (0, u "java/lang/Object")] 6

/-- java/lang/constant/Constable -/
def k2 : Class := { plain "java/lang/constant/Constable" (some 0) with
  accessFlags := 1537
  interfaces := #[]
  cf := some (fileOf pool2 1 #[] #[] 1537 3 #[] #[])
  fields := #[]
  methods := #[]
  instanceTypes := #[]
  staticTypes := #[]
  resolved := Array.replicate 11 none
  statics := none }

def pool3 : Array CpInfo := pool [(1, .class_ 2), (0, u "java/lang/Comparable"), (0, .class_ 4), (0, u "java/lang/Object")] 7

/-- java/lang/Comparable -/
def k3 : Class := { plain "java/lang/Comparable" (some 0) with
  accessFlags := 1537
  interfaces := #[]
  cf := some (fileOf pool3 1 #[] #[] 1537 3 #[] #[])
  fields := #[]
  methods := #[]
  instanceTypes := #[]
  staticTypes := #[]
  resolved := Array.replicate 12 none
  statics := none }

def pool4 : Array CpInfo := pool [(1, .class_ 2), (0, u "java/io/Serializable"), (0, .class_ 4), (0, u "java/lang/Object")] 2

/-- java/io/Serializable -/
def k4 : Class := { plain "java/io/Serializable" (some 0) with
  accessFlags := 1537
  interfaces := #[]
  cf := some (fileOf pool4 1 #[] #[] 1537 3 #[] #[])
  fields := #[]
  methods := #[]
  instanceTypes := #[]
  staticTypes := #[]
  resolved := Array.replicate 7 none
  statics := none }

def pool5 : Array CpInfo := pool [(2, .class_ 4), (1, u "java/lang/Enum"), (0, u "name"), (0, u "Ljava/lang/String;"), (2, u "ordinal"), (0, u "I"), (1, .class_ 14), (1, u "java/lang/Object"), (4, u "hash"), (86, .class_ 108), (1, u "java/lang/Enum$EnumDesc"), (2, .class_ 112), (0, u "java/lang/constant/Constable"), (0, .class_ 114), (0, u "java/lang/Comparable"), (0, .class_ 116), (0, u "java/io/Serializable")] 87

/-- java/lang/Enum -/
def k5 : Class := { plain "java/lang/Enum" (some 0) with
  accessFlags := 1057
  interfaces := #[2, 3, 4]
  cf := some (fileOf pool5 2 #[.nestMembers #[106]] #[] 1057 12 #[111, 113, 115] #[{ accessFlags := 18, nameIndex := 5, descriptorIndex := 6, attributes := #[] }, { accessFlags := 18, nameIndex := 9, descriptorIndex := 10, attributes := #[] }, { accessFlags := 2, nameIndex := 19, descriptorIndex := 10, attributes := #[] }])
  fields := #[{ name := "name", type := (.object "java/lang/String"), accessFlags := 18, slot := 0, constantValue := 0 }, { name := "ordinal", type := .int, accessFlags := 18, slot := 1, constantValue := 0 }, { name := "hash", type := .int, accessFlags := 2, slot := 2, constantValue := 0 }]
  methods := #[]
  instanceTypes := #[(.object "java/lang/String"), .int, .int]
  staticTypes := #[]
  resolved := Array.replicate 204 none
  statics := none }

def pool6 : Array CpInfo := pool [(1, .class_ 2), (0, u "com/example/wakeline/wakeline/event/DeclaredType"), (0, .fieldref 1 4), (0, .nameAndType 5 6), (0, u "INTEGER"), (0, u "Lcom/example/wakeline/wakeline/event/DeclaredType;"), (0, .fieldref 1 8), (0, .nameAndType 9 6), (0, u "NUMERIC"), (0, .fieldref 1 11), (0, .nameAndType 12 6), (0, u "CHARACTER"), (0, .fieldref 1 14), (0, .nameAndType 15 6), (0, u "OTHER"), (2, u "$VALUES"), (0, u "[Lcom/example/wakeline/wakeline/event/DeclaredType;"), (6, .class_ 28), (1, u "java/lang/Enum"), (8, u "description"), (0, u "Ljava/lang/String;"), (0, .methodref 40 41), (0, .class_ 42), (0, .nameAndType 43 44), (0, u "java/lang/Integer"), (0, u "intValue"), (0, u "()I"), (63, u "ofSqlType"), (0, u "(Ljava/lang/Integer;)Lcom/example/wakeline/wakeline/event/DeclaredType;")] 26

def k6c0 : Code := { maxStack := 1, maxLocals := 2, code := prog_5_method_4_code, exceptionTable := #[], attributes := #[] }
def k6m0 : Method := { name := "ofSqlType", desc := "(Ljava/lang/Integer;)Lcom/example/wakeline/wakeline/event/DeclaredType;", sig := { parameters := [(.object "java/lang/Integer")], returnType := some (.object "com/example/wakeline/wakeline/event/DeclaredType") }, accessFlags := 9, code := some k6c0 }
/-- com/example/wakeline/wakeline/event/DeclaredType -/
def k6 : Class := { plain "com/example/wakeline/wakeline/event/DeclaredType" (some 5) with
  accessFlags := 16433
  interfaces := #[]
  cf := some (fileOf pool6 1 #[] #[{ accessFlags := 9, nameIndex := 108, descriptorIndex := 109, attributes := #[] }] 16433 26 #[] #[{ accessFlags := 16409, nameIndex := 5, descriptorIndex := 6, attributes := #[] }, { accessFlags := 16409, nameIndex := 9, descriptorIndex := 6, attributes := #[] }, { accessFlags := 16409, nameIndex := 12, descriptorIndex := 6, attributes := #[] }, { accessFlags := 16409, nameIndex := 15, descriptorIndex := 6, attributes := #[] }, { accessFlags := 18, nameIndex := 37, descriptorIndex := 38, attributes := #[] }, { accessFlags := 4122, nameIndex := 18, descriptorIndex := 19, attributes := #[] }])
  fields := #[{ name := "INTEGER", type := (.object "com/example/wakeline/wakeline/event/DeclaredType"), accessFlags := 16409, slot := 0, constantValue := 0 }, { name := "NUMERIC", type := (.object "com/example/wakeline/wakeline/event/DeclaredType"), accessFlags := 16409, slot := 1, constantValue := 0 }, { name := "CHARACTER", type := (.object "com/example/wakeline/wakeline/event/DeclaredType"), accessFlags := 16409, slot := 2, constantValue := 0 }, { name := "OTHER", type := (.object "com/example/wakeline/wakeline/event/DeclaredType"), accessFlags := 16409, slot := 3, constantValue := 0 }, { name := "description", type := (.object "java/lang/String"), accessFlags := 18, slot := 3, constantValue := 0 }, { name := "$VALUES", type := (.array (.object "com/example/wakeline/wakeline/event/DeclaredType")), accessFlags := 4122, slot := 4, constantValue := 0 }]
  methods := #[k6m0]
  instanceTypes := #[(.object "java/lang/String"), .int, .int, (.object "java/lang/String")]
  staticTypes := #[(.object "com/example/wakeline/wakeline/event/DeclaredType"), (.object "com/example/wakeline/wakeline/event/DeclaredType"), (.object "com/example/wakeline/wakeline/event/DeclaredType"), (.object "com/example/wakeline/wakeline/event/DeclaredType"), (.array (.object "com/example/wakeline/wakeline/event/DeclaredType"))]
  resolved := Array.replicate 136 none
  statics := some 0 }

def pool7 : Array CpInfo := pool [(1, .methodref 2 3), (0, .class_ 4), (0, .nameAndType 5 6), (0, u "java/lang/Object"), (0, u "<init>"), (0, u "()V"), (1, .class_ 10), (1, u "java/lang/Number"), (2, .class_ 14), (0, u "java/io/Serializable"), (0, u "serialVersionUID"), (0, u "J")] 20

def k7c0 : Code := { maxStack := 1, maxLocals := 1, code := jdk_18_method_1_code, exceptionTable := #[], attributes := #[] }
def k7m0 : Method := { name := "<init>", desc := "()V", sig := { parameters := [], returnType := none }, accessFlags := 1, code := some k7c0 }
/-- java/lang/Number -/
def k7 : Class := { plain "java/lang/Number" (some 0) with
  accessFlags := 1057
  interfaces := #[4]
  cf := some (fileOf pool7 8 #[] #[{ accessFlags := 1, nameIndex := 5, descriptorIndex := 6, attributes := #[] }] 1057 2 #[13] #[{ accessFlags := 26, nameIndex := 15, descriptorIndex := 16, attributes := #[] }])
  fields := #[{ name := "serialVersionUID", type := .long, accessFlags := 26, slot := 0, constantValue := 0 }]
  methods := #[k7m0]
  instanceTypes := #[]
  staticTypes := #[.long]
  resolved := Array.replicate 37 none
  statics := none }

def pool8 : Array CpInfo := pool [(1, .class_ 2), (0, u "java/lang/constant/ConstantDesc"), (0, .class_ 4), (0, u "java/lang/Object")] 32

/-- java/lang/constant/ConstantDesc -/
def k8 : Class := { plain "java/lang/constant/ConstantDesc" (some 0) with
  accessFlags := 1537
  interfaces := #[]
  cf := some (fileOf pool8 1 #[] #[] 1537 3 #[] #[])
  fields := #[]
  methods := #[]
  instanceTypes := #[]
  staticTypes := #[]
  resolved := Array.replicate 37 none
  statics := none }

def pool9 : Array CpInfo := pool [(1, .class_ 2), (0, u "java/lang/Integer"), (16, u "digits"), (0, u "[C"), (46, u "<init>"), (17, u "DigitOnes"), (0, u "[B"), (2, u "DigitTens"), (10, .nameAndType 67 101), (0, u "()V"), (19, u "()I"), (65, u "valueOf"), (0, u "(I)Ljava/lang/Integer;"), (0, .class_ 190), (0, u "java/lang/Integer$IntegerCache"), (0, .fieldref 189 192), (0, .nameAndType 193 194), (0, u "high"), (0, u "I"), (0, .fieldref 189 196), (0, .nameAndType 197 198), (0, u "cache"), (0, u "[Ljava/lang/Integer;"), (0, .methodref 1 200), (0, .nameAndType 67 201), (0, u "(I)V"), (0, .methodref 203 100), (0, .class_ 204), (0, u "java/lang/Number"), (0, .fieldref 1 206), (0, .nameAndType 207 194), (0, u "value"), (5, u "intValue"), (88, u "TYPE"), (0, u "Ljava/lang/Class;"), (0, .class_ 305), (0, u "java/lang/Comparable"), (0, .class_ 307), (0, u "java/lang/constant/Constable"), (0, .class_ 309), (0, u "java/lang/constant/ConstantDesc"), (0, u "MIN_VALUE"), (1, u "MAX_VALUE"), (3, u "SIZE"), (1, u "BYTES"), (1, u "serialVersionUID"), (0, u "J")] 131

def k9c0 : Code := { maxStack := 3, maxLocals := 1, code := jdk_33_method_22_code, exceptionTable := #[], attributes := #[] }
def k9m0 : Method := { name := "valueOf", desc := "(I)Ljava/lang/Integer;", sig := { parameters := [.int], returnType := some (.object "java/lang/Integer") }, accessFlags := 9, code := some k9c0 }
def k9c1 : Code := { maxStack := 2, maxLocals := 2, code := jdk_33_method_23_code, exceptionTable := #[], attributes := #[] }
def k9m1 : Method := { name := "<init>", desc := "(I)V", sig := { parameters := [.int], returnType := none }, accessFlags := 1, code := some k9c1 }
def k9c2 : Code := { maxStack := 1, maxLocals := 1, code := jdk_33_method_27_code, exceptionTable := #[], attributes := #[] }
def k9m2 : Method := { name := "intValue", desc := "()I", sig := { parameters := [], returnType := some .int }, accessFlags := 1, code := some k9c2 }
/-- java/lang/Integer -/
def k9 : Class := { plain "java/lang/Integer" (some 7) with
  accessFlags := 49
  interfaces := #[3, 2, 8]
  cf := some (fileOf pool9 1 #[.nestMembers #[189]] #[{ accessFlags := 9, nameIndex := 187, descriptorIndex := 188, attributes := #[] }, { accessFlags := 1, nameIndex := 67, descriptorIndex := 201, attributes := #[] }, { accessFlags := 1, nameIndex := 213, descriptorIndex := 121, attributes := #[] }] 49 203 #[304, 306, 308] #[{ accessFlags := 25, nameIndex := 310, descriptorIndex := 194, attributes := #[] }, { accessFlags := 25, nameIndex := 312, descriptorIndex := 194, attributes := #[] }, { accessFlags := 25, nameIndex := 302, descriptorIndex := 303, attributes := #[] }, { accessFlags := 24, nameIndex := 19, descriptorIndex := 20, attributes := #[] }, { accessFlags := 24, nameIndex := 89, descriptorIndex := 86, attributes := #[] }, { accessFlags := 24, nameIndex := 85, descriptorIndex := 86, attributes := #[] }, { accessFlags := 18, nameIndex := 207, descriptorIndex := 194, attributes := #[] }, { accessFlags := 25, nameIndex := 316, descriptorIndex := 194, attributes := #[] }, { accessFlags := 25, nameIndex := 318, descriptorIndex := 194, attributes := #[] }, { accessFlags := 26, nameIndex := 320, descriptorIndex := 321, attributes := #[] }])
  fields := #[{ name := "MIN_VALUE", type := .int, accessFlags := 25, slot := 0, constantValue := 0 }, { name := "MAX_VALUE", type := .int, accessFlags := 25, slot := 1, constantValue := 0 }, { name := "TYPE", type := (.object "java/lang/Class"), accessFlags := 25, slot := 2, constantValue := 0 }, { name := "digits", type := (.array .char), accessFlags := 24, slot := 3, constantValue := 0 }, { name := "DigitTens", type := (.array .byte), accessFlags := 24, slot := 4, constantValue := 0 }, { name := "DigitOnes", type := (.array .byte), accessFlags := 24, slot := 5, constantValue := 0 }, { name := "value", type := .int, accessFlags := 18, slot := 0, constantValue := 0 }, { name := "SIZE", type := .int, accessFlags := 25, slot := 6, constantValue := 0 }, { name := "BYTES", type := .int, accessFlags := 25, slot := 7, constantValue := 0 }, { name := "serialVersionUID", type := .long, accessFlags := 26, slot := 8, constantValue := 0 }]
  methods := #[k9m0, k9m1, k9m2]
  instanceTypes := #[.int]
  staticTypes := #[.int, .int, (.object "java/lang/Class"), (.array .char), (.array .byte), (.array .byte), .int, .int, .long]
  resolved := Array.replicate 453 none
  statics := none }

def pool10 : Array CpInfo := pool [(2, .class_ 4), (1, u "java/lang/Object"), (0, u "<init>"), (0, u "()V"), (0, .class_ 8), (0, u "java/lang/Integer"), (7, .class_ 18), (1, u "java/lang/Integer$IntegerCache"), (0, u "$assertionsDisabled"), (0, u "Z"), (26, u "high"), (0, u "I"), (8, u "archivedCache"), (0, u "[Ljava/lang/Integer;"), (12, u "cache"), (0, u "low")] 27

def k10m0 : Method := { name := "<init>", desc := "()V", sig := { parameters := [], returnType := none }, accessFlags := 2, code := none }
/-- java/lang/Integer$IntegerCache -/
def k10 : Class := { plain "java/lang/Integer$IntegerCache" (some 0) with
  accessFlags := 48
  interfaces := #[]
  cf := some (fileOf pool10 16 #[.nestHost 7] #[{ accessFlags := 2, nameIndex := 5, descriptorIndex := 6, attributes := #[] }] 48 2 #[] #[{ accessFlags := 24, nameIndex := 72, descriptorIndex := 48, attributes := #[] }, { accessFlags := 24, nameIndex := 47, descriptorIndex := 48, attributes := #[] }, { accessFlags := 24, nameIndex := 71, descriptorIndex := 58, attributes := #[] }, { accessFlags := 8, nameIndex := 57, descriptorIndex := 58, attributes := #[] }, { accessFlags := 4120, nameIndex := 19, descriptorIndex := 20, attributes := #[] }])
  fields := #[{ name := "low", type := .int, accessFlags := 24, slot := 0, constantValue := 0 }, { name := "high", type := .int, accessFlags := 24, slot := 1, constantValue := 0 }, { name := "cache", type := (.array (.object "java/lang/Integer")), accessFlags := 24, slot := 2, constantValue := 0 }, { name := "archivedCache", type := (.array (.object "java/lang/Integer")), accessFlags := 8, slot := 3, constantValue := 0 }, { name := "$assertionsDisabled", type := .boolean, accessFlags := 4120, slot := 4, constantValue := 0 }]
  methods := #[k10m0]
  instanceTypes := #[]
  staticTypes := #[.int, .int, (.array (.object "java/lang/Integer")), (.array (.object "java/lang/Integer")), .boolean]
  resolved := Array.replicate 100 none
  statics := some 1 }

def pool11 : Array CpInfo := pool [(1, u "java/lang/Cloneable"), (0, .class_ 1), (0, u "java/lang/Object"), (0, .class_ 3)] 3

/-- java/lang/Cloneable -/
def k11 : Class := { plain "java/lang/Cloneable" (some 0) with
  accessFlags := 1537
  interfaces := #[]
  cf := some (fileOf pool11 2 #[] #[] 1537 4 #[] #[])
  fields := #[]
  methods := #[]
  instanceTypes := #[]
  staticTypes := #[]
  resolved := Array.replicate 8 none
  statics := none }

/-- the primitive byte -/
def k12 : Class := { plain "byte" none with kind := .primitive 'B', accessFlags := 0x411 }
/-- [B -/
def k13 : Class := { plain "[B" (some 0) with kind := .array 12 .byte, interfaces := #[11, 4], accessFlags := 1041 }

/-- the primitive int -/
def k14 : Class := { plain "int" none with kind := .primitive 'I', accessFlags := 0x411 }
/-- [I -/
def k15 : Class := { plain "[I" (some 0) with kind := .array 14 .int, interfaces := #[11, 4], accessFlags := 1041 }

/-- [Ljava/lang/Integer; -/
def k16 : Class := { plain "[Ljava/lang/Integer;" (some 0) with kind := .array 9 (.object "java/lang/Integer"), interfaces := #[11, 4], accessFlags := 1041 }

def heap : Heap := #[{ cls := 6, slots := #[.ref 6, .ref 4, .ref 5, .ref 3, .null], vm := .statics 6 },
  { cls := 10, slots := #[.int 0, .int 127, .ref 2, .null, .int 0], vm := .statics 10 },
  { cls := 16, slots := #[.ref 7, .ref 8, .ref 9, .ref 10, .ref 11, .ref 12, .ref 13, .ref 14, .ref 15, .ref 16, .ref 17, .ref 18, .ref 19, .ref 20, .ref 21, .ref 22, .ref 23, .ref 24, .ref 25, .ref 26, .ref 27, .ref 28, .ref 29, .ref 30, .ref 31, .ref 32, .ref 33, .ref 34, .ref 35, .ref 36, .ref 37, .ref 38, .ref 39, .ref 40, .ref 41, .ref 42, .ref 43, .ref 44, .ref 45, .ref 46, .ref 47, .ref 48, .ref 49, .ref 50, .ref 51, .ref 52, .ref 53, .ref 54, .ref 55, .ref 56, .ref 57, .ref 58, .ref 59, .ref 60, .ref 61, .ref 62, .ref 63, .ref 64, .ref 65, .ref 66, .ref 67, .ref 68, .ref 69, .ref 70, .ref 71, .ref 72, .ref 73, .ref 74, .ref 75, .ref 76, .ref 77, .ref 78, .ref 79, .ref 80, .ref 81, .ref 82, .ref 83, .ref 84, .ref 85, .ref 86, .ref 87, .ref 88, .ref 89, .ref 90, .ref 91, .ref 92, .ref 93, .ref 94, .ref 95, .ref 96, .ref 97, .ref 98, .ref 99, .ref 100, .ref 101, .ref 102, .ref 103, .ref 104, .ref 105, .ref 106, .ref 107, .ref 108, .ref 109, .ref 110, .ref 111, .ref 112, .ref 113, .ref 114, .ref 115, .ref 116, .ref 117, .ref 118, .ref 119, .ref 120, .ref 121, .ref 122, .ref 123, .ref 124, .ref 125, .ref 126, .ref 127, .ref 128, .ref 129, .ref 130, .ref 131, .ref 132, .ref 133, .ref 134, .ref 135, .ref 136, .ref 137, .ref 138, .ref 139, .ref 140, .ref 141, .ref 142, .ref 143, .ref 144, .ref 145, .ref 146, .ref 147, .ref 148, .ref 149, .ref 150, .ref 151, .ref 152, .ref 153, .ref 154, .ref 155, .ref 156, .ref 157, .ref 158, .ref 159, .ref 160, .ref 161, .ref 162, .ref 163, .ref 164, .ref 165, .ref 166, .ref 167, .ref 168, .ref 169, .ref 170, .ref 171, .ref 172, .ref 173, .ref 174, .ref 175, .ref 176, .ref 177, .ref 178, .ref 179, .ref 180, .ref 181, .ref 182, .ref 183, .ref 184, .ref 185, .ref 186, .ref 187, .ref 188, .ref 189, .ref 190, .ref 191, .ref 192, .ref 193, .ref 194, .ref 195, .ref 196, .ref 197, .ref 198, .ref 199, .ref 200, .ref 201, .ref 202, .ref 203, .ref 204, .ref 205, .ref 206, .ref 207, .ref 208, .ref 209, .ref 210, .ref 211, .ref 212, .ref 213, .ref 214, .ref 215, .ref 216, .ref 217, .ref 218, .ref 219, .ref 220, .ref 221, .ref 222, .ref 223, .ref 224, .ref 225, .ref 226, .ref 227, .ref 228, .ref 229, .ref 230, .ref 231, .ref 232, .ref 233, .ref 234, .ref 235, .ref 236, .ref 237, .ref 238, .ref 239, .ref 240, .ref 241, .ref 242, .ref 243, .ref 244, .ref 245, .ref 246, .ref 247, .ref 248, .ref 249, .ref 250, .ref 251, .ref 252, .ref 253, .ref 254, .ref 255, .ref 256, .ref 257, .ref 258, .ref 259, .ref 260, .ref 261, .ref 262], vm := .none },
  { cls := 6, slots := #[.null, .int 0, .int 0, .null], vm := .none },
  { cls := 6, slots := #[.null, .int 0, .int 0, .null], vm := .none },
  { cls := 6, slots := #[.null, .int 0, .int 0, .null], vm := .none },
  { cls := 6, slots := #[.null, .int 0, .int 0, .null], vm := .none },
  { cls := 9, slots := #[.int (-128)], vm := .none },
  { cls := 9, slots := #[.int (-127)], vm := .none },
  { cls := 9, slots := #[.int (-126)], vm := .none },
  { cls := 9, slots := #[.int (-125)], vm := .none },
  { cls := 9, slots := #[.int (-124)], vm := .none },
  { cls := 9, slots := #[.int (-123)], vm := .none },
  { cls := 9, slots := #[.int (-122)], vm := .none },
  { cls := 9, slots := #[.int (-121)], vm := .none },
  { cls := 9, slots := #[.int (-120)], vm := .none },
  { cls := 9, slots := #[.int (-119)], vm := .none },
  { cls := 9, slots := #[.int (-118)], vm := .none },
  { cls := 9, slots := #[.int (-117)], vm := .none },
  { cls := 9, slots := #[.int (-116)], vm := .none },
  { cls := 9, slots := #[.int (-115)], vm := .none },
  { cls := 9, slots := #[.int (-114)], vm := .none },
  { cls := 9, slots := #[.int (-113)], vm := .none },
  { cls := 9, slots := #[.int (-112)], vm := .none },
  { cls := 9, slots := #[.int (-111)], vm := .none },
  { cls := 9, slots := #[.int (-110)], vm := .none },
  { cls := 9, slots := #[.int (-109)], vm := .none },
  { cls := 9, slots := #[.int (-108)], vm := .none },
  { cls := 9, slots := #[.int (-107)], vm := .none },
  { cls := 9, slots := #[.int (-106)], vm := .none },
  { cls := 9, slots := #[.int (-105)], vm := .none },
  { cls := 9, slots := #[.int (-104)], vm := .none },
  { cls := 9, slots := #[.int (-103)], vm := .none },
  { cls := 9, slots := #[.int (-102)], vm := .none },
  { cls := 9, slots := #[.int (-101)], vm := .none },
  { cls := 9, slots := #[.int (-100)], vm := .none },
  { cls := 9, slots := #[.int (-99)], vm := .none },
  { cls := 9, slots := #[.int (-98)], vm := .none },
  { cls := 9, slots := #[.int (-97)], vm := .none },
  { cls := 9, slots := #[.int (-96)], vm := .none },
  { cls := 9, slots := #[.int (-95)], vm := .none },
  { cls := 9, slots := #[.int (-94)], vm := .none },
  { cls := 9, slots := #[.int (-93)], vm := .none },
  { cls := 9, slots := #[.int (-92)], vm := .none },
  { cls := 9, slots := #[.int (-91)], vm := .none },
  { cls := 9, slots := #[.int (-90)], vm := .none },
  { cls := 9, slots := #[.int (-89)], vm := .none },
  { cls := 9, slots := #[.int (-88)], vm := .none },
  { cls := 9, slots := #[.int (-87)], vm := .none },
  { cls := 9, slots := #[.int (-86)], vm := .none },
  { cls := 9, slots := #[.int (-85)], vm := .none },
  { cls := 9, slots := #[.int (-84)], vm := .none },
  { cls := 9, slots := #[.int (-83)], vm := .none },
  { cls := 9, slots := #[.int (-82)], vm := .none },
  { cls := 9, slots := #[.int (-81)], vm := .none },
  { cls := 9, slots := #[.int (-80)], vm := .none },
  { cls := 9, slots := #[.int (-79)], vm := .none },
  { cls := 9, slots := #[.int (-78)], vm := .none },
  { cls := 9, slots := #[.int (-77)], vm := .none },
  { cls := 9, slots := #[.int (-76)], vm := .none },
  { cls := 9, slots := #[.int (-75)], vm := .none },
  { cls := 9, slots := #[.int (-74)], vm := .none },
  { cls := 9, slots := #[.int (-73)], vm := .none },
  { cls := 9, slots := #[.int (-72)], vm := .none },
  { cls := 9, slots := #[.int (-71)], vm := .none },
  { cls := 9, slots := #[.int (-70)], vm := .none },
  { cls := 9, slots := #[.int (-69)], vm := .none },
  { cls := 9, slots := #[.int (-68)], vm := .none },
  { cls := 9, slots := #[.int (-67)], vm := .none },
  { cls := 9, slots := #[.int (-66)], vm := .none },
  { cls := 9, slots := #[.int (-65)], vm := .none },
  { cls := 9, slots := #[.int (-64)], vm := .none },
  { cls := 9, slots := #[.int (-63)], vm := .none },
  { cls := 9, slots := #[.int (-62)], vm := .none },
  { cls := 9, slots := #[.int (-61)], vm := .none },
  { cls := 9, slots := #[.int (-60)], vm := .none },
  { cls := 9, slots := #[.int (-59)], vm := .none },
  { cls := 9, slots := #[.int (-58)], vm := .none },
  { cls := 9, slots := #[.int (-57)], vm := .none },
  { cls := 9, slots := #[.int (-56)], vm := .none },
  { cls := 9, slots := #[.int (-55)], vm := .none },
  { cls := 9, slots := #[.int (-54)], vm := .none },
  { cls := 9, slots := #[.int (-53)], vm := .none },
  { cls := 9, slots := #[.int (-52)], vm := .none },
  { cls := 9, slots := #[.int (-51)], vm := .none },
  { cls := 9, slots := #[.int (-50)], vm := .none },
  { cls := 9, slots := #[.int (-49)], vm := .none },
  { cls := 9, slots := #[.int (-48)], vm := .none },
  { cls := 9, slots := #[.int (-47)], vm := .none },
  { cls := 9, slots := #[.int (-46)], vm := .none },
  { cls := 9, slots := #[.int (-45)], vm := .none },
  { cls := 9, slots := #[.int (-44)], vm := .none },
  { cls := 9, slots := #[.int (-43)], vm := .none },
  { cls := 9, slots := #[.int (-42)], vm := .none },
  { cls := 9, slots := #[.int (-41)], vm := .none },
  { cls := 9, slots := #[.int (-40)], vm := .none },
  { cls := 9, slots := #[.int (-39)], vm := .none },
  { cls := 9, slots := #[.int (-38)], vm := .none },
  { cls := 9, slots := #[.int (-37)], vm := .none },
  { cls := 9, slots := #[.int (-36)], vm := .none },
  { cls := 9, slots := #[.int (-35)], vm := .none },
  { cls := 9, slots := #[.int (-34)], vm := .none },
  { cls := 9, slots := #[.int (-33)], vm := .none },
  { cls := 9, slots := #[.int (-32)], vm := .none },
  { cls := 9, slots := #[.int (-31)], vm := .none },
  { cls := 9, slots := #[.int (-30)], vm := .none },
  { cls := 9, slots := #[.int (-29)], vm := .none },
  { cls := 9, slots := #[.int (-28)], vm := .none },
  { cls := 9, slots := #[.int (-27)], vm := .none },
  { cls := 9, slots := #[.int (-26)], vm := .none },
  { cls := 9, slots := #[.int (-25)], vm := .none },
  { cls := 9, slots := #[.int (-24)], vm := .none },
  { cls := 9, slots := #[.int (-23)], vm := .none },
  { cls := 9, slots := #[.int (-22)], vm := .none },
  { cls := 9, slots := #[.int (-21)], vm := .none },
  { cls := 9, slots := #[.int (-20)], vm := .none },
  { cls := 9, slots := #[.int (-19)], vm := .none },
  { cls := 9, slots := #[.int (-18)], vm := .none },
  { cls := 9, slots := #[.int (-17)], vm := .none },
  { cls := 9, slots := #[.int (-16)], vm := .none },
  { cls := 9, slots := #[.int (-15)], vm := .none },
  { cls := 9, slots := #[.int (-14)], vm := .none },
  { cls := 9, slots := #[.int (-13)], vm := .none },
  { cls := 9, slots := #[.int (-12)], vm := .none },
  { cls := 9, slots := #[.int (-11)], vm := .none },
  { cls := 9, slots := #[.int (-10)], vm := .none },
  { cls := 9, slots := #[.int (-9)], vm := .none },
  { cls := 9, slots := #[.int (-8)], vm := .none },
  { cls := 9, slots := #[.int (-7)], vm := .none },
  { cls := 9, slots := #[.int (-6)], vm := .none },
  { cls := 9, slots := #[.int (-5)], vm := .none },
  { cls := 9, slots := #[.int (-4)], vm := .none },
  { cls := 9, slots := #[.int (-3)], vm := .none },
  { cls := 9, slots := #[.int (-2)], vm := .none },
  { cls := 9, slots := #[.int (-1)], vm := .none },
  { cls := 9, slots := #[.int 0], vm := .none },
  { cls := 9, slots := #[.int 1], vm := .none },
  { cls := 9, slots := #[.int 2], vm := .none },
  { cls := 9, slots := #[.int 3], vm := .none },
  { cls := 9, slots := #[.int 4], vm := .none },
  { cls := 9, slots := #[.int 5], vm := .none },
  { cls := 9, slots := #[.int 6], vm := .none },
  { cls := 9, slots := #[.int 7], vm := .none },
  { cls := 9, slots := #[.int 8], vm := .none },
  { cls := 9, slots := #[.int 9], vm := .none },
  { cls := 9, slots := #[.int 10], vm := .none },
  { cls := 9, slots := #[.int 11], vm := .none },
  { cls := 9, slots := #[.int 12], vm := .none },
  { cls := 9, slots := #[.int 13], vm := .none },
  { cls := 9, slots := #[.int 14], vm := .none },
  { cls := 9, slots := #[.int 15], vm := .none },
  { cls := 9, slots := #[.int 16], vm := .none },
  { cls := 9, slots := #[.int 17], vm := .none },
  { cls := 9, slots := #[.int 18], vm := .none },
  { cls := 9, slots := #[.int 19], vm := .none },
  { cls := 9, slots := #[.int 20], vm := .none },
  { cls := 9, slots := #[.int 21], vm := .none },
  { cls := 9, slots := #[.int 22], vm := .none },
  { cls := 9, slots := #[.int 23], vm := .none },
  { cls := 9, slots := #[.int 24], vm := .none },
  { cls := 9, slots := #[.int 25], vm := .none },
  { cls := 9, slots := #[.int 26], vm := .none },
  { cls := 9, slots := #[.int 27], vm := .none },
  { cls := 9, slots := #[.int 28], vm := .none },
  { cls := 9, slots := #[.int 29], vm := .none },
  { cls := 9, slots := #[.int 30], vm := .none },
  { cls := 9, slots := #[.int 31], vm := .none },
  { cls := 9, slots := #[.int 32], vm := .none },
  { cls := 9, slots := #[.int 33], vm := .none },
  { cls := 9, slots := #[.int 34], vm := .none },
  { cls := 9, slots := #[.int 35], vm := .none },
  { cls := 9, slots := #[.int 36], vm := .none },
  { cls := 9, slots := #[.int 37], vm := .none },
  { cls := 9, slots := #[.int 38], vm := .none },
  { cls := 9, slots := #[.int 39], vm := .none },
  { cls := 9, slots := #[.int 40], vm := .none },
  { cls := 9, slots := #[.int 41], vm := .none },
  { cls := 9, slots := #[.int 42], vm := .none },
  { cls := 9, slots := #[.int 43], vm := .none },
  { cls := 9, slots := #[.int 44], vm := .none },
  { cls := 9, slots := #[.int 45], vm := .none },
  { cls := 9, slots := #[.int 46], vm := .none },
  { cls := 9, slots := #[.int 47], vm := .none },
  { cls := 9, slots := #[.int 48], vm := .none },
  { cls := 9, slots := #[.int 49], vm := .none },
  { cls := 9, slots := #[.int 50], vm := .none },
  { cls := 9, slots := #[.int 51], vm := .none },
  { cls := 9, slots := #[.int 52], vm := .none },
  { cls := 9, slots := #[.int 53], vm := .none },
  { cls := 9, slots := #[.int 54], vm := .none },
  { cls := 9, slots := #[.int 55], vm := .none },
  { cls := 9, slots := #[.int 56], vm := .none },
  { cls := 9, slots := #[.int 57], vm := .none },
  { cls := 9, slots := #[.int 58], vm := .none },
  { cls := 9, slots := #[.int 59], vm := .none },
  { cls := 9, slots := #[.int 60], vm := .none },
  { cls := 9, slots := #[.int 61], vm := .none },
  { cls := 9, slots := #[.int 62], vm := .none },
  { cls := 9, slots := #[.int 63], vm := .none },
  { cls := 9, slots := #[.int 64], vm := .none },
  { cls := 9, slots := #[.int 65], vm := .none },
  { cls := 9, slots := #[.int 66], vm := .none },
  { cls := 9, slots := #[.int 67], vm := .none },
  { cls := 9, slots := #[.int 68], vm := .none },
  { cls := 9, slots := #[.int 69], vm := .none },
  { cls := 9, slots := #[.int 70], vm := .none },
  { cls := 9, slots := #[.int 71], vm := .none },
  { cls := 9, slots := #[.int 72], vm := .none },
  { cls := 9, slots := #[.int 73], vm := .none },
  { cls := 9, slots := #[.int 74], vm := .none },
  { cls := 9, slots := #[.int 75], vm := .none },
  { cls := 9, slots := #[.int 76], vm := .none },
  { cls := 9, slots := #[.int 77], vm := .none },
  { cls := 9, slots := #[.int 78], vm := .none },
  { cls := 9, slots := #[.int 79], vm := .none },
  { cls := 9, slots := #[.int 80], vm := .none },
  { cls := 9, slots := #[.int 81], vm := .none },
  { cls := 9, slots := #[.int 82], vm := .none },
  { cls := 9, slots := #[.int 83], vm := .none },
  { cls := 9, slots := #[.int 84], vm := .none },
  { cls := 9, slots := #[.int 85], vm := .none },
  { cls := 9, slots := #[.int 86], vm := .none },
  { cls := 9, slots := #[.int 87], vm := .none },
  { cls := 9, slots := #[.int 88], vm := .none },
  { cls := 9, slots := #[.int 89], vm := .none },
  { cls := 9, slots := #[.int 90], vm := .none },
  { cls := 9, slots := #[.int 91], vm := .none },
  { cls := 9, slots := #[.int 92], vm := .none },
  { cls := 9, slots := #[.int 93], vm := .none },
  { cls := 9, slots := #[.int 94], vm := .none },
  { cls := 9, slots := #[.int 95], vm := .none },
  { cls := 9, slots := #[.int 96], vm := .none },
  { cls := 9, slots := #[.int 97], vm := .none },
  { cls := 9, slots := #[.int 98], vm := .none },
  { cls := 9, slots := #[.int 99], vm := .none },
  { cls := 9, slots := #[.int 100], vm := .none },
  { cls := 9, slots := #[.int 101], vm := .none },
  { cls := 9, slots := #[.int 102], vm := .none },
  { cls := 9, slots := #[.int 103], vm := .none },
  { cls := 9, slots := #[.int 104], vm := .none },
  { cls := 9, slots := #[.int 105], vm := .none },
  { cls := 9, slots := #[.int 106], vm := .none },
  { cls := 9, slots := #[.int 107], vm := .none },
  { cls := 9, slots := #[.int 108], vm := .none },
  { cls := 9, slots := #[.int 109], vm := .none },
  { cls := 9, slots := #[.int 110], vm := .none },
  { cls := 9, slots := #[.int 111], vm := .none },
  { cls := 9, slots := #[.int 112], vm := .none },
  { cls := 9, slots := #[.int 113], vm := .none },
  { cls := 9, slots := #[.int 114], vm := .none },
  { cls := 9, slots := #[.int 115], vm := .none },
  { cls := 9, slots := #[.int 116], vm := .none },
  { cls := 9, slots := #[.int 117], vm := .none },
  { cls := 9, slots := #[.int 118], vm := .none },
  { cls := 9, slots := #[.int 119], vm := .none },
  { cls := 9, slots := #[.int 120], vm := .none },
  { cls := 9, slots := #[.int 121], vm := .none },
  { cls := 9, slots := #[.int 122], vm := .none },
  { cls := 9, slots := #[.int 123], vm := .none },
  { cls := 9, slots := #[.int 124], vm := .none },
  { cls := 9, slots := #[.int 125], vm := .none },
  { cls := 9, slots := #[.int 126], vm := .none },
  { cls := 9, slots := #[.int 127], vm := .none }]
def classes : Array Class := #[k0, k1, k2, k3, k4, k5, k6, k7, k8, k9, k10, k11, k12, k13, k14, k15, k16]
def interned : List (Array UInt16 × Addr) := []
def slotsUsed : Nat := 538
def theMethod : MethodId := ⟨1, 1⟩
def args0 : Array Value := #[.int 5, .int 6]
def aboutOver (below : List Frame) : State where
  vm := { classes := classes, interned := interned.toArray }
  heap := heap
  slotsUsed := slotsUsed
  threads := #[{ frames := .invoking theMethod args0 :: below }]
def below0 : List Frame := [.native { method := ⟨0, 0⟩, args := #[] }]
def about1 : State := aboutOver below0
def p0 : Program := .bare "" "" ""
def e0 : Env := launch0.env 0 0 0
theorem w_frames : about1.frames = Frame.invoking theMethod args0 :: below0 := rfl
set_option maxRecDepth 65536 in
theorem w_args : argsFit about1.vm theMethod args0 = true := by decide +kernel
set_option maxRecDepth 65536 in
theorem w_heap : heapFits about1 = true := by decide +kernel
set_option maxRecDepth 65536 in
theorem w_runnable : about1.curStatus? = some .runnable := by decide +kernel
set_option maxRecDepth 65536 in
theorem w_alone : about1.alone = true := by decide +kernel
set_option maxRecDepth 65536 in
theorem w_named : about1.methodNamed? x = some theMethod := by decide +kernel
set_option maxRecDepth 65536 in
theorem w_hears : about1.hears theMethod below0 = true := by decide +kernel
set_option maxRecDepth 65536 in
theorem w_ripe : about1.ripe theMethod args0 below0 = true := by decide +kernel
theorem w_running : about1.status = .running := rfl
set_option maxRecDepth 65536 in
theorem w_room : about1.hasRoom e0.platform room_1 = true :=
  launch0.hasRoom_least _ room_1 (by decide +kernel) (by decide +kernel) (by decide +kernel) (by decide +kernel) (by decide +kernel) (by decide +kernel)
theorem allAtoms_all (ts : List Jvm.Cond) (a : Array Jvm.Value) (st : Jvm.State) : (allAtoms ts).before a st = ts.all (fun c => c.before a st) := by
  induction ts with
  | nil => rfl
  | cons c t ih =>
    show (Jvm.Cond.and c (allAtoms t)).before a st = _
    rw [Jvm.Cond.before_and, ih, List.all_cons]
def words1 : List Jvm.Cond := Jvm.Cond.code x code maxLocals ret :: tables_1
/-- a 'code' word, met by the world's own term for the bytes: nothing is compared byte by byte -/
theorem code_word {y : MethodName} {bytes : ByteArray} {mx : Nat} {rt : Option FieldType} {a : Array Value} {s : State} {m : MethodId} {meth : Method} {c : Code} (h1 : s.methodNamed? y = some m) (h2 : s.vm.method? m = some meth) (h3 : meth.code = some c) (h4 : c.code = bytes)
    (h5 : (c.maxLocals == mx && c.exceptionTable.isEmpty && decide (c.maxStack ≤ mostOperands) && decide (meth.sig.returnType = rt) && !meth.locks && decide (parseMethodDescriptor y.desc = some meth.sig)) = true) : (Jvm.Cond.code y bytes mx rt).before a s = true := by
  simp only [Bool.and_eq_true, beq_iff_eq, Bool.not_eq_true', decide_eq_true_eq] at h5
  obtain ⟨⟨⟨⟨⟨g1, g2⟩, g3⟩, g4⟩, g5⟩, g6⟩ := h5
  simp [Cond.before, Cond.holds, Cond.value, h1, h2, h3, h4, g1, g2, g3, g4, g5, g6]
def isCode : Jvm.Cond → Bool
  | .code _ _ _ _ => true
  | _ => false
theorem all_split {L : List Jvm.Cond} {P : Jvm.Cond → Bool} (h1 : L.all (fun c => isCode c || P c) = true) (h2 : ∀ c ∈ L.filter isCode, P c = true) : L.all P = true := by
  refine List.all_eq_true.mpr fun c hc => ?_
  have h := List.all_eq_true.mp h1 c hc
  rcases Bool.eq_false_or_eq_true (isCode c) with hi | hi
  · exact h2 c (List.mem_filter.mpr ⟨hc, hi⟩)
  · simpa [hi] using h
set_option maxRecDepth 65536 in
theorem w_c0 : (Jvm.Cond.code x code maxLocals ret).before args0 about1 = true := code_word (m := ⟨1, 1⟩) (meth := k1m1) (c := k1c1) (by decide +kernel) rfl rfl rfl (by decide +kernel)
set_option maxRecDepth 65536 in
theorem w_c1 : (Jvm.Cond.code ({ cls := "com/example/wakeline/wakeline/event/DeclaredType", name := "ofSqlType", desc := "(Ljava/lang/Integer;)Lcom/example/wakeline/wakeline/event/DeclaredType;" } : Jvm.MethodName) prog_5_method_4_code (2 : Nat) (Option.some (Jvm.ClassFile.FieldType.object "com/example/wakeline/wakeline/event/DeclaredType"))).before args0 about1 = true := code_word (m := ⟨6, 0⟩) (meth := k6m0) (c := k6c0) (by decide +kernel) rfl rfl rfl (by decide +kernel)
set_option maxRecDepth 65536 in
theorem w_c2 : (Jvm.Cond.code ({ cls := "com/example/wakeline/wakeline/event/DeclaredTypeOfSqlTypePinLaw", name := "expected", desc := "(ZI)Lcom/example/wakeline/wakeline/event/DeclaredType;" } : Jvm.MethodName) method_3_code (2 : Nat) (Option.some (Jvm.ClassFile.FieldType.object "com/example/wakeline/wakeline/event/DeclaredType"))).before args0 about1 = true := code_word (m := ⟨1, 2⟩) (meth := k1m2) (c := k1c2) (by decide +kernel) rfl rfl rfl (by decide +kernel)
set_option maxRecDepth 65536 in
theorem w_c3 : (Jvm.Cond.code ({ cls := "java/lang/Integer", name := "valueOf", desc := "(I)Ljava/lang/Integer;" } : Jvm.MethodName) jdk_33_method_22_code (1 : Nat) (Option.some (Jvm.ClassFile.FieldType.object "java/lang/Integer"))).before args0 about1 = true := code_word (m := ⟨9, 0⟩) (meth := k9m0) (c := k9c0) (by decide +kernel) rfl rfl rfl (by decide +kernel)
set_option maxRecDepth 65536 in
theorem w_c4 : (Jvm.Cond.code ({ cls := "java/lang/Integer", name := "<init>", desc := "(I)V" } : Jvm.MethodName) jdk_33_method_23_code (2 : Nat) (Option.none : Option Jvm.ClassFile.FieldType)).before args0 about1 = true := code_word (m := ⟨9, 1⟩) (meth := k9m1) (c := k9c1) (by decide +kernel) rfl rfl rfl (by decide +kernel)
set_option maxRecDepth 65536 in
theorem w_c5 : (Jvm.Cond.code ({ cls := "java/lang/Number", name := "<init>", desc := "()V" } : Jvm.MethodName) jdk_18_method_1_code (1 : Nat) (Option.none : Option Jvm.ClassFile.FieldType)).before args0 about1 = true := code_word (m := ⟨7, 0⟩) (meth := k7m0) (c := k7c0) (by decide +kernel) rfl rfl rfl (by decide +kernel)
set_option maxRecDepth 65536 in
theorem w_c6 : (Jvm.Cond.code ({ cls := "java/lang/Object", name := "<init>", desc := "()V" } : Jvm.MethodName) object_method_1_code (1 : Nat) (Option.none : Option Jvm.ClassFile.FieldType)).before args0 about1 = true := code_word (m := ⟨0, 0⟩) (meth := k0m0) (c := k0c0) (by decide +kernel) rfl rfl rfl (by decide +kernel)
set_option maxRecDepth 65536 in
theorem w_c7 : (Jvm.Cond.code ({ cls := "java/lang/Integer", name := "intValue", desc := "()I" } : Jvm.MethodName) jdk_33_method_27_code (1 : Nat) (Option.some Jvm.ClassFile.FieldType.int)).before args0 about1 = true := code_word (m := ⟨9, 2⟩) (meth := k9m2) (c := k9c2) (by decide +kernel) rfl rfl rfl (by decide +kernel)
def codes1 : List Jvm.Cond := [Jvm.Cond.code x code maxLocals ret, Jvm.Cond.code ({ cls := "com/example/wakeline/wakeline/event/DeclaredType", name := "ofSqlType", desc := "(Ljava/lang/Integer;)Lcom/example/wakeline/wakeline/event/DeclaredType;" } : Jvm.MethodName) prog_5_method_4_code (2 : Nat) (Option.some (Jvm.ClassFile.FieldType.object "com/example/wakeline/wakeline/event/DeclaredType")), Jvm.Cond.code ({ cls := "com/example/wakeline/wakeline/event/DeclaredTypeOfSqlTypePinLaw", name := "expected", desc := "(ZI)Lcom/example/wakeline/wakeline/event/DeclaredType;" } : Jvm.MethodName) method_3_code (2 : Nat) (Option.some (Jvm.ClassFile.FieldType.object "com/example/wakeline/wakeline/event/DeclaredType")), Jvm.Cond.code ({ cls := "java/lang/Integer", name := "valueOf", desc := "(I)Ljava/lang/Integer;" } : Jvm.MethodName) jdk_33_method_22_code (1 : Nat) (Option.some (Jvm.ClassFile.FieldType.object "java/lang/Integer")), Jvm.Cond.code ({ cls := "java/lang/Integer", name := "<init>", desc := "(I)V" } : Jvm.MethodName) jdk_33_method_23_code (2 : Nat) (Option.none : Option Jvm.ClassFile.FieldType), Jvm.Cond.code ({ cls := "java/lang/Number", name := "<init>", desc := "()V" } : Jvm.MethodName) jdk_18_method_1_code (1 : Nat) (Option.none : Option Jvm.ClassFile.FieldType), Jvm.Cond.code ({ cls := "java/lang/Object", name := "<init>", desc := "()V" } : Jvm.MethodName) object_method_1_code (1 : Nat) (Option.none : Option Jvm.ClassFile.FieldType), Jvm.Cond.code ({ cls := "java/lang/Integer", name := "intValue", desc := "()I" } : Jvm.MethodName) jdk_33_method_27_code (1 : Nat) (Option.some Jvm.ClassFile.FieldType.int)]
set_option maxRecDepth 65536 in
theorem codes_eq : words1.filter isCode = codes1 := rfl
theorem w_codes : ∀ c ∈ words1.filter isCode, c.before args0 about1 = true := by
  rw [codes_eq]
  intro c hc
  simp only [codes1, List.mem_cons, List.not_mem_nil, or_false] at hc
  rcases hc with rfl | rfl | rfl | rfl | rfl | rfl | rfl | rfl
  · exact w_c0
  · exact w_c1
  · exact w_c2
  · exact w_c3
  · exact w_c4
  · exact w_c5
  · exact w_c6
  · exact w_c7
set_option maxRecDepth 65536 in
theorem w_t1 : (words1.take 24).all (fun c => isCode c || c.before args0 about1) = true := by decide +kernel
set_option maxRecDepth 65536 in
theorem w_t2 : ((words1.drop 24).take 24).all (fun c => isCode c || c.before args0 about1) = true := by decide +kernel
set_option maxRecDepth 65536 in
theorem w_t3 : ((words1.drop 24).drop 24).all (fun c => isCode c || c.before args0 about1) = true := by decide +kernel
theorem w_tables : (allAtoms (Jvm.Cond.code x code maxLocals ret :: tables_1)).before args0 about1 = true := by
  rw [allAtoms_all]
  show words1.all (fun c => c.before args0 about1) = true
  refine all_split ?_ w_codes
  rw [← List.take_append_drop 24 words1, List.all_append, w_t1, ← List.take_append_drop 24 (words1.drop 24), List.all_append, w_t2, w_t3]
  rfl
set_option maxRecDepth 65536 in
theorem w_rest : rest_1_c.before args0 about1 = true := by decide +kernel
set_option maxRecDepth 65536 in
theorem w_case : (Jvm.Cond.and given_1 narrow_1).before args0 about1 = true := by decide +kernel
theorem w_applies : (headSpec (Jvm.Cond.code x code maxLocals ret :: tables_1) room_1).applies x e0.platform about1 = true :=
  (Spec.applies_iff w_frames).mpr ⟨w_running, w_runnable, w_alone, w_named, w_hears, w_ripe, w_room, w_tables⟩
theorem atStart : AtStart classFile x code maxLocals ret World_1 tables_1 room_1 Calls_1 rest_1 Pre_1 launch0 p0 e0 about1 theMethod args0 below0 :=
  ⟨lists_1, trivial, launch0.admits_env _ _ _, launch0.least_env, fairChoices_fair.cas, fairChoices_fair.clock, w_frames, w_args, w_heap, w_applies, trivial, w_rest, w_case⟩
end start1
theorem witness_1 : WitnessClaimed_1 := ⟨start1.p0, start1.e0, start1.about1, start1.theMethod, start1.args0, start1.below0, start1.atStart⟩
end Jvm.Pilot.@@N@@
