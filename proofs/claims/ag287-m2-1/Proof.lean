import JvmDerived
import JvmDerived.Pilot.@@N@@Statement
import JvmDerived.Pilot.@@N@@Code
set_option linter.unusedVariables false
set_option linter.unusedSimpArgs false
namespace Jvm.Pilot.@@N@@
open Jvm Jvm.ClassFile Sem Op Lib Jvm.Free Jvm.Stand Jvm.LawKit Jvm.RoadKit Bundle Jvm.Pilot.@@N@@.Jvm.D

section OwnEnds
variable {p : Program} {l : Launch} {e : Env} {R : Room} {s : State} {m : MethodId} {args : Array Value} {below : List Frame} {meth : Method} {c : Code} {T : State} {locs : List Loc} {cells slots : Nat}
/-- from here the body comes to its end, returns, and leaves what Q says -/
def Ends (p : Program) (e : Env) (below : List Frame) (s T : State) (g : JFrame) (kc ks : Nat) (Q : Option Value → Heap → List Loc → Prop) : Prop :=
  ∃ s₂ o, Steps p.tables e below (T.setTop g) s₂ ∧ s₂.status = .running ∧ Ended s₂ below o ∧ ∃ v L, o = .returned v ∧ Q v s₂.heap L ∧ FrameEnd s o s₂ L kc ks
theorem Ends.go {T' : State} {g g' : JFrame} {kc ks : Nat} {Q : Option Value → Heap → List Loc → Prop} (h : ∀ target, Steps p.tables e below (T'.setTop g') target → Steps p.tables e below (T.setTop g) target) (k : Ends p e below s T' g' kc ks Q) : Ends p e below s T g kc ks Q := by
  obtain ⟨s₂, o, h1, h2⟩ := k
  exact ⟨s₂, o, h _ h1, h2⟩
theorem Ends.ret (X : Stand p l e R s m args below meth c T locs cells slots) (hx : p.tables.exec = Jvm.exec) (hlocks : meth.locks = false) {pc : Nat} {Ls : Array Slot} {w : Value} {t : FieldType} {i : Instr} {rest : List Value} (hret : meth.sig.returnType = some t) (hn : narrow t w = w)
    (hi : (i = .ireturn ∧ (t = .int ∨ t = .boolean ∨ t = .byte ∨ t = .char ∨ t = .short) ∧ ∃ z, w = .int z) ∨ (i = .lreturn ∧ t = .long ∧ ∃ z, w = .long z) ∨ (i = .dreturn ∧ t = .double ∧ ∃ z, w = .double z) ∨ (i = .freturn ∧ t = .float ∧ ∃ z, w = .float z) ∨ (i = .areturn ∧ t.isReference = true ∧ w.isRef = true))
    (hd : decode c.code pc = .ok (i, 1)) {kc ks : Nat} {Q : Option Value → Heap → List Loc → Prop} (hc : cells ≤ kc) (hs : slots ≤ ks) (hq : Q (some w) T.heap locs) : Ends p e below s T (mkF m pc Ls (w :: rest)) kc ks Q := by
  obtain ⟨fs, hr, hrun, hended, hW, hsame⟩ := X.leave (v := some w) (fun h => by rw [hret] at h; cases h) hlocks
  exact ⟨_, _, retOut X hx hret hn hi hd hr, hrun, hended, _, _, rfl, hq, ⟨_, rfl⟩, hW, hsame.mono hc hs⟩
theorem Ends.retZ (X : Stand p l e R s m args below meth c T locs cells slots) (hx : p.tables.exec = Jvm.exec) (hlocks : meth.locks = false) {pc : Nat} {Ls : Array Slot} {z : Int32} {t : FieldType} {rest : List Value} (hret : meth.sig.returnType = some t) (ht : t = .boolean ∨ t = .byte ∨ t = .char ∨ t = .short)
    (hd : decode c.code pc = .ok (.ireturn, 1)) {kc ks : Nat} {Q : Option Value → Heap → List Loc → Prop} (hc : cells ≤ kc) (hs : slots ≤ ks) (hq : Q (some (.int (nar t z))) T.heap locs) : Ends p e below s T (mkF m pc Ls (.int z :: rest)) kc ks Q := by
  obtain ⟨fs, hr, hrun, hended, hW, hsame⟩ := X.leave (v := some (.int (nar t z))) (fun h => by rw [hret] at h; cases h) hlocks
  exact ⟨_, _, retN X hx hret ht hd hr, hrun, hended, _, _, rfl, hq, ⟨_, rfl⟩, hW, hsame.mono hc hs⟩
theorem Ends.retV (X : Stand p l e R s m args below meth c T locs cells slots) (hx : p.tables.exec = Jvm.exec) (hlocks : meth.locks = false) {pc : Nat} {Ls : Array Slot} (hret : meth.sig.returnType = none)
    (hd : decode c.code pc = .ok (.return_, 1)) {kc ks : Nat} {Q : Option Value → Heap → List Loc → Prop} (hc : cells ≤ kc) (hs : slots ≤ ks) (hq : Q none T.heap locs) : Ends p e below s T (mkF m pc Ls []) kc ks Q := by
  obtain ⟨fs, hr, hrun, hended, hW, hsame⟩ := X.leave (v := none) (fun _ => rfl) hlocks
  exact ⟨_, _, X.returnOut hx hret hd hr, hrun, hended, _, _, rfl, hq, ⟨_, rfl⟩, hW, hsame.mono hc hs⟩
end OwnEnds
abbrev Meets1 (l : Launch) (y : MethodName) (bytes : ByteArray) (ml : Nat) (rt : Option FieldType) (ws : List Jvm.Cond) (rm : Room) (av : Array Value) (Z : State) (h0 : Heap) (Q : Option Value → Heap → List Loc → Prop) : Prop :=
  MetFree l y (head1 (Jvm.Cond.code y bytes ml rt :: ws) rm) (fun a U => a = av ∧ Z.Warmed39 U.vm ∧ U.heap = h0) (fun _ _ _ _ _ => True) (fun _ U o U' => ∃ v L, o = .returned v ∧ Q v U'.heap L ∧ FrameEnd U o U' L rm.cells rm.slots)
theorem own_backOf {p : Program} {l : Launch} {e : Env} {R : Room} {s : State} {args : Array Value} {below : List Frame} {Z : State} {a0 : Array Value} {h : Heap} {y : MethodName} {bytes : ByteArray} {maxL : Nat} {ret : Option FieldType} {rm : Room} {len W : Nat} {as' : Array Value} {Q : Option Value → Heap → List Loc → Prop}
    (hM : Meets1 l y bytes maxL ret [] rm as' Z h Q) (hZ : Z.Warmed39 s.vm) (wc : (Jvm.Cond.code y bytes maxL ret).before a0 Z = true) (wz : (Jvm.Cond.initialized y.cls).before a0 Z = true) (hf : rm.frames + 1 ≤ R.frames) (hl : W + (maxL + 11) + rm.locals ≤ R.locals) :
    Back l R p e below s args y len W (fun A a => a = as' ∧ A.U.heap = h ∧ A.cells + rm.cells ≤ R.cells ∧ A.slots + rm.slots ≤ R.slots)
      (fun A _ v B => ∃ L, Q v B.U.heap L ∧ B.locs = A.locs ++ L ∧ B.cells = A.cells + rm.cells ∧ B.slots = A.slots + rm.slots) := backOf (Q := Q) hM hZ wc wz hf hl
theorem own_old_le {Z : State} {n0 : Nat} {h : Heap} (O : Old Z n0 h) : n0 ≤ h.size := O.1 ▸ O.2.1
theorem own_eqI {args : Array Value} {s : State} {t : Term} {k : Int32} (h : (Jvm.Cond.eq t (.int k)).value args s none s [] = some true) : t.eval args s none [] s = some (.int k) := by
  cases ht : t.eval args s none [] s with
  | none => simp [Cond.value, ht] at h
  | some x => cases x <;> simp_all [Cond.value, Term.eval]
theorem own_gcls {p : Program} {l : Launch} {e : Env} {R : Room} {s : State} {m : MethodId} {args : Array Value} {below : List Frame} {meth : Method} {c : Code} {T : State} {locs : List Loc} {cells slots : Nat} {Z : State} {a0 : Array Value} {h : Heap} {a : Addr}
    (X : Stand p l e R s m args below meth c T locs cells slots) (hx : p.tables.exec = Jvm.exec) (hZ : Z.Warmed39 s.vm) {own C : String} {index : Nat} (hown : s.vm.findClass own = some m.cls)
    (w1 : (Jvm.Cond.methodLink own index ⟨"java/lang/Object", "getClass", "()Ljava/lang/Class;"⟩).before a0 Z = true) (w2 : (Jvm.Cond.declares ⟨"java/lang/Object", "getClass", "()Ljava/lang/Class;"⟩).before a0 Z = true) (w4 : (Jvm.Cond.selects C ⟨"java/lang/Object", "getClass", "()Ljava/lang/Class;"⟩ ⟨"java/lang/Object", "getClass", "()Ljava/lang/Class;"⟩).before a0 Z = true)
    (w5 : (Jvm.Cond.instanceMethod ⟨"java/lang/Object", "getClass", "()Ljava/lang/Class;"⟩).before a0 Z = true) (w6 : (Jvm.Cond.native ⟨"java/lang/Object", "getClass", "()Ljava/lang/Class;"⟩).before a0 Z = true) (eT : T.heap = h) (E : Exa Z h a C) {mr : Addr} (M : ∃ (c : ClassId) (k : Class), Z.vm.findClass C = some c ∧ Z.vm.classes[c]? = some k ∧ k.mirror = some mr)
    {g : JFrame} (hg : g.method = m) (hsize : g.locals.size = c.maxLocals) {rest : List Value} (hs : g.stack = .ref a :: rest) (hd : decode c.code g.pc = .ok (.invokevirtual index, 3)) (hf : 1 ≤ R.frames) {W : Nat} (hW : 2 * g.monitorRoom + (rest.map fun v => v.category).sum ≤ W) (hl : W + (nativeFrameWords "java/lang/Object" "getClass" 1 + 11) ≤ R.locals) :
    ∃ T', Stand p l e R s m args below meth c T' locs cells slots ∧ T'.heap = h ∧ ∀ target, Steps p.tables e below (T'.setTop { g with pc := g.pc + 3, stack := .ref mr :: rest }) target → Steps p.tables e below (T.setTop g) target := by
  obtain ⟨c0, k0, m1, m2, m3⟩ := M
  obtain ⟨cB, kB, i1, i2, i3⟩ := isOf hZ eT E
  have i4 : Z.vm.findClass C = some cB := by rw [← hZ.alike.findClass]; exact i1
  obtain rfl : cB = c0 := Option.some.inj (i4.symm.trans m1)
  obtain ⟨k', q, ek⟩ := hZ.alike.2.2 _ _ m2
  obtain ⟨vm', X', st⟩ := X.getClassOf hx hown (mvT hZ w1) (mvT hZ w2) (notFace_of_selects (args := #[]) (mvT hZ w4)) (mvT hZ w4) (mvT hZ w5) (mvT hZ w6) i1 i3 q (by rw [ek]; exact m3) hg hsize hs hd hf (Nat.le_trans (Nat.add_le_add_right hW _) hl)
  exact ⟨_, X', eT, st⟩
theorem own_and3 (p0 i : Int32) (h : (p0 &&& (3 : Int32)) = i) : i = 0 ∨ i = 1 ∨ i = 2 ∨ i = 3 := by
  have h1 : 0 ≤ (p0 &&& (3 : Int32)).toInt ∧ (p0 &&& (3 : Int32)).toInt ≤ 3 := c_and p0 3 (by decide)
  rw [h] at h1
  have h3 : i.toInt = 0 ∨ i.toInt = 1 ∨ i.toInt = 2 ∨ i.toInt = 3 := by omega
  rcases h3 with q | q | q | q
  · exact Or.inl (Int32.toInt_inj.mp q)
  · exact Or.inr (Or.inl (Int32.toInt_inj.mp q))
  · exact Or.inr (Or.inr (Or.inl (Int32.toInt_inj.mp q)))
  · exact Or.inr (Or.inr (Or.inr (Int32.toInt_inj.mp q)))
def Facts (Z : State) (w_NONE : Addr) (w_OWNER : Addr) (w_WRITE : Addr) (w_READ : Addr) : Prop :=
  Sta Z Z.heap "com/example/usher_paths/usherpaths/Level" "NONE" "Lcom/example/usher_paths/usherpaths/Level;" (.ref w_NONE) ∧
  Exa Z Z.heap w_NONE "com/example/usher_paths/usherpaths/Level" ∧
  Sta Z Z.heap "com/example/usher_paths/usherpaths/Level" "OWNER" "Lcom/example/usher_paths/usherpaths/Level;" (.ref w_OWNER) ∧
  Exa Z Z.heap w_OWNER "com/example/usher_paths/usherpaths/Level" ∧
  Fld Z Z.heap w_NONE "java/lang/Enum" "ordinal" "I" (.int (0 : Int32)) ∧
  Fld Z Z.heap w_OWNER "java/lang/Enum" "ordinal" "I" (.int (3 : Int32)) ∧
  Sta Z Z.heap "com/example/usher_paths/usherpaths/Level" "WRITE" "Lcom/example/usher_paths/usherpaths/Level;" (.ref w_WRITE) ∧
  Exa Z Z.heap w_WRITE "com/example/usher_paths/usherpaths/Level" ∧
  Sta Z Z.heap "com/example/usher_paths/usherpaths/Level" "READ" "Lcom/example/usher_paths/usherpaths/Level;" (.ref w_READ) ∧
  Exa Z Z.heap w_READ "com/example/usher_paths/usherpaths/Level" ∧
  Fld Z Z.heap w_WRITE "java/lang/Enum" "ordinal" "I" (.int (2 : Int32)) ∧
  Fld Z Z.heap w_READ "java/lang/Enum" "ordinal" "I" (.int (1 : Int32))
theorem d1_0 : decode method_2_code 0 = .ok (.iload_n 0, 1) := by decide +kernel
theorem d1_1 : decode method_2_code 1 = .ok (.ifCond .ne 7, 3) := by decide +kernel
theorem d1_4 : decode method_2_code 4 = .ok (.getstatic 7, 3) := by decide +kernel
theorem d1_7 : decode method_2_code 7 = .ok (.areturn, 1) := by decide +kernel
theorem d1_8 : decode method_2_code 8 = .ok (.iload_n 0, 1) := by decide +kernel
theorem d1_9 : decode method_2_code 9 = .ok (.iconst 1, 1) := by decide +kernel
theorem d1_10 : decode method_2_code 10 = .ok (.if_icmp .ne 7, 3) := by decide +kernel
theorem d1_13 : decode method_2_code 13 = .ok (.getstatic 13, 3) := by decide +kernel
theorem d1_16 : decode method_2_code 16 = .ok (.areturn, 1) := by decide +kernel
theorem d1_17 : decode method_2_code 17 = .ok (.iload_n 0, 1) := by decide +kernel
theorem d1_18 : decode method_2_code 18 = .ok (.iconst 2, 1) := by decide +kernel
theorem d1_19 : decode method_2_code 19 = .ok (.if_icmp .ne 7, 3) := by decide +kernel
theorem d1_22 : decode method_2_code 22 = .ok (.getstatic 16, 3) := by decide +kernel
theorem d1_25 : decode method_2_code 25 = .ok (.areturn, 1) := by decide +kernel
theorem d1_26 : decode method_2_code 26 = .ok (.getstatic 19, 3) := by decide +kernel
theorem d1_29 : decode method_2_code 29 = .ok (.areturn, 1) := by decide +kernel
theorem pn1 : plainName "com/example/usher_paths/usherpaths/LevelMaxPinLaw" = true := by first | (simp [plainName, overriddenIn]; done) | decide +kernel
theorem ef1 (m : MethodId) (p0 : Int32) : entryFrame m #[(.int p0)] 1 = mkF m 0 #[.val (.int p0)] [] := by first | (simp [entryFrame, mkF, argsToLocals, Value.category]; done) | rfl
set_option maxRecDepth 65536 in
set_option maxHeartbeats 40000000 in
theorem rmP (l : Launch) (Z : State) (a0 : Array Value) (hw : ∀ d ∈ tables_1, d.before a0 Z = true) (ws : List Jvm.Cond) (n0 : Nat) (h0 : Heap) (O0 : Old Z n0 h0) (p0 : Int32) (w_NONE : Addr) (w_OWNER : Addr) (w_WRITE : Addr) (w_READ : Addr) (FF : Facts Z w_NONE w_OWNER w_WRITE w_READ) (mr : Addr) (MM : ∃ (c : ClassId) (k : Class), Z.vm.findClass "com/example/usher_paths/usherpaths/Level" = some c ∧ Z.vm.classes[c]? = some k ∧ k.mirror = some mr) (r : Addr) (hr : r = if p0 = 0 then w_NONE else if p0 = 1 then w_READ else if p0 = 2 then w_WRITE else w_OWNER) :
    Meets1 l (⟨"com/example/usher_paths/usherpaths/LevelMaxPinLaw", "pick", "(I)Lcom/example/usher_paths/usherpaths/Level;"⟩ : MethodName) method_2_code 1 (some (.object "com/example/usher_paths/usherpaths/Level")) ws ({ frames := 0, cells := 0, slots := 0, locals := 0 } : Room) #[(.int p0)] Z h0 (fun v h L => v = some (.ref r) ∧ Fr n0 L ∧ h = h0) := by
  refine MetFree.of_bodySF (plainFor_of_name pn1) hisR ?_
  intro p e s m args below meth c s₁ Bd hml0 hP hK
  obtain ⟨rfl, hZ, hh⟩ := hP
  have hx := Bd.exec
  have hby := Bd.bytes
  have hml : c.maxLocals = 1 := hml0
  have hown : s.vm.findClass "com/example/usher_paths/usherpaths/LevelMaxPinLaw" = some m.cls := findClass_of_methodNamed Bd.named
  have hnm := (name_of_methodNamed Bd.named Bd.method).1
  have X0 : Stand p l e ({ frames := 0, cells := 0, slots := 0, locals := 0 } : Room) s m #[(.int p0)] below meth c s₁ [] 0 0 := Stand.of_body Bd
  have e0 : s₁.heap = h0 := by rw [← hh, Bd.state]; rfl
  have N0 := Fr.nil n0
  have Z0 := own_old_le O0
  show Ends p e below s s₁ (entryFrame m #[(.int p0)] 1) ({ frames := 0, cells := 0, slots := 0, locals := 0 } : Room).cells ({ frames := 0, cells := 0, slots := 0, locals := 0 } : Room).slots (fun v h L => v = some (.ref r) ∧ Fr n0 L ∧ h = h0)
  refine Ends.go (fun _ k => castTop (ef1 m p0) k) ?_
  have K0 := Keep.refl h0 []
  have FF0 := FF
  obtain ⟨S_NONE, E_NONE, S_OWNER, E_OWNER, F_ordinal_NONE, F_ordinal_OWNER, S_WRITE, E_WRITE, S_READ, E_READ, F_ordinal_WRITE, F_ordinal_READ⟩ := FF
  show Ends p e below s s₁ (mkF m 0 #[.val (.int p0)] []) _ _ _
  refine Ends.go (fun _ k => XS.iloadN X0.here hx rfl (hb hby d1_0) rfl k) ?_
  show Ends p e below s s₁ (mkF m 1 #[.val (.int p0)] [(.int p0)]) _ _ _
  by_cases hc1_1 : p0 = (0 : Int32)
  · refine Ends.go (fun _ k => XS.ifNo X0.here hx rfl (hb hby d1_1) rfl ((if0 _ _).trans (teq hc1_1).2) k) ?_
    show Ends p e below s s₁ (mkF m 4 #[.val (.int p0)] []) _ _ _
    obtain ⟨T2, X2, e2, st2⟩ := getS2 X0 hx hZ hown (host := "") (Or.inl (hw _ (List.mem_of_getElem? (i := 4) rfl))) Via.refl e0 (S_NONE.ext O0.2) (g := (mkF m 4 #[.val (.int p0)] [])) rfl (hb hby d1_4)
    refine Ends.go st2 ?_
    show Ends p e below s T2 (mkF m 7 #[.val (.int p0)] [(.ref w_NONE)]) _ _ _
    refine Ends.ret X2 hx Bd.notSynchronized (t := (.object "com/example/usher_paths/usherpaths/Level")) Bd.returns rfl (Or.inr (Or.inr (Or.inr (Or.inr ⟨rfl, rfl, rfl⟩)))) (hb hby d1_7) (by decide) (by decide) ?_
    refine ⟨?_, N0, e2⟩
    show (some (.ref w_NONE) : Option Value) = _
    rw [hr]; simp [hc1_1]
  · refine Ends.go (fun _ k => XS.ifYes X0.here hx rfl (pc0 := 1) (pc' := 8) rfl (hb hby d1_1) rfl ((if0 _ _).trans (feq hc1_1).2) (by decide) (by decide) k) ?_
    show Ends p e below s s₁ (mkF m 8 #[.val (.int p0)] []) _ _ _
    refine Ends.go (fun _ k => XS.iloadN X0.here hx rfl (hb hby d1_8) rfl k) ?_
    show Ends p e below s s₁ (mkF m 9 #[.val (.int p0)] [(.int p0)]) _ _ _
    refine Ends.go (fun _ k => XS.iconst X0.here hx rfl (hb hby d1_9) k) ?_
    show Ends p e below s s₁ (mkF m 10 #[.val (.int p0)] [(.int (1 : Int32)), (.int p0)]) _ _ _
    by_cases hc10_3 : p0 = (1 : Int32)
    · refine Ends.go (fun _ k => XS.icmpNo X0.here hx rfl (hb hby d1_10) rfl (teq hc10_3).2 k) ?_
      show Ends p e below s s₁ (mkF m 13 #[.val (.int p0)] []) _ _ _
      obtain ⟨T4, X4, e4, st4⟩ := getS2 X0 hx hZ hown (host := "") (Or.inl (hw _ (List.mem_of_getElem? (i := 40) rfl))) Via.refl e0 (S_READ.ext O0.2) (g := (mkF m 13 #[.val (.int p0)] [])) rfl (hb hby d1_13)
      refine Ends.go st4 ?_
      show Ends p e below s T4 (mkF m 16 #[.val (.int p0)] [(.ref w_READ)]) _ _ _
      refine Ends.ret X4 hx Bd.notSynchronized (t := (.object "com/example/usher_paths/usherpaths/Level")) Bd.returns rfl (Or.inr (Or.inr (Or.inr (Or.inr ⟨rfl, rfl, rfl⟩)))) (hb hby d1_16) (by decide) (by decide) ?_
      refine ⟨?_, N0, e4⟩
      show (some (.ref w_READ) : Option Value) = _
      rw [hr]; simp [hc1_1, hc10_3]
    · refine Ends.go (fun _ k => XS.icmpYes X0.here hx rfl (pc0 := 10) (pc' := 17) rfl (hb hby d1_10) rfl (feq hc10_3).2 (by decide) (by decide) k) ?_
      show Ends p e below s s₁ (mkF m 17 #[.val (.int p0)] []) _ _ _
      refine Ends.go (fun _ k => XS.iloadN X0.here hx rfl (hb hby d1_17) rfl k) ?_
      show Ends p e below s s₁ (mkF m 18 #[.val (.int p0)] [(.int p0)]) _ _ _
      refine Ends.go (fun _ k => XS.iconst X0.here hx rfl (hb hby d1_18) k) ?_
      show Ends p e below s s₁ (mkF m 19 #[.val (.int p0)] [(.int (2 : Int32)), (.int p0)]) _ _ _
      by_cases hc19_5 : p0 = (2 : Int32)
      · refine Ends.go (fun _ k => XS.icmpNo X0.here hx rfl (hb hby d1_19) rfl (teq hc19_5).2 k) ?_
        show Ends p e below s s₁ (mkF m 22 #[.val (.int p0)] []) _ _ _
        obtain ⟨T6, X6, e6, st6⟩ := getS2 X0 hx hZ hown (host := "") (Or.inl (hw _ (List.mem_of_getElem? (i := 38) rfl))) Via.refl e0 (S_WRITE.ext O0.2) (g := (mkF m 22 #[.val (.int p0)] [])) rfl (hb hby d1_22)
        refine Ends.go st6 ?_
        show Ends p e below s T6 (mkF m 25 #[.val (.int p0)] [(.ref w_WRITE)]) _ _ _
        refine Ends.ret X6 hx Bd.notSynchronized (t := (.object "com/example/usher_paths/usherpaths/Level")) Bd.returns rfl (Or.inr (Or.inr (Or.inr (Or.inr ⟨rfl, rfl, rfl⟩)))) (hb hby d1_25) (by decide) (by decide) ?_
        refine ⟨?_, N0, e6⟩
        show (some (.ref w_WRITE) : Option Value) = _
        rw [hr]; simp [hc1_1, hc10_3, hc19_5]
      · refine Ends.go (fun _ k => XS.icmpYes X0.here hx rfl (pc0 := 19) (pc' := 26) rfl (hb hby d1_19) rfl (feq hc19_5).2 (by decide) (by decide) k) ?_
        show Ends p e below s s₁ (mkF m 26 #[.val (.int p0)] []) _ _ _
        obtain ⟨T7, X7, e7, st7⟩ := getS2 X0 hx hZ hown (host := "") (Or.inl (hw _ (List.mem_of_getElem? (i := 7) rfl))) Via.refl e0 (S_OWNER.ext O0.2) (g := (mkF m 26 #[.val (.int p0)] [])) rfl (hb hby d1_26)
        refine Ends.go st7 ?_
        show Ends p e below s T7 (mkF m 29 #[.val (.int p0)] [(.ref w_OWNER)]) _ _ _
        refine Ends.ret X7 hx Bd.notSynchronized (t := (.object "com/example/usher_paths/usherpaths/Level")) Bd.returns rfl (Or.inr (Or.inr (Or.inr (Or.inr ⟨rfl, rfl, rfl⟩)))) (hb hby d1_29) (by decide) (by decide) ?_
        refine ⟨?_, N0, e7⟩
        show (some (.ref w_OWNER) : Option Value) = _
        rw [hr]; simp [hc1_1, hc10_3, hc19_5]
theorem d5_0 : decode jdk_37_method_8_code 0 = .ok (.aload_n 1, 1) := by decide +kernel
theorem d5_1 : decode jdk_37_method_8_code 1 = .ok (.astore_n 2, 1) := by decide +kernel
theorem d5_2 : decode jdk_37_method_8_code 2 = .ok (.aload_n 0, 1) := by decide +kernel
theorem d5_3 : decode jdk_37_method_8_code 3 = .ok (.astore_n 3, 1) := by decide +kernel
theorem d5_4 : decode jdk_37_method_8_code 4 = .ok (.aload_n 3, 1) := by decide +kernel
theorem d5_5 : decode jdk_37_method_8_code 5 = .ok (.invokevirtual 29, 3) := by decide +kernel
theorem d5_8 : decode jdk_37_method_8_code 8 = .ok (.aload_n 2, 1) := by decide +kernel
theorem d5_9 : decode jdk_37_method_8_code 9 = .ok (.invokevirtual 29, 3) := by decide +kernel
theorem d5_12 : decode jdk_37_method_8_code 12 = .ok (.if_acmp .eq 22, 3) := by decide +kernel
theorem d5_34 : decode jdk_37_method_8_code 34 = .ok (.aload_n 3, 1) := by decide +kernel
theorem d5_35 : decode jdk_37_method_8_code 35 = .ok (.getfield 7, 3) := by decide +kernel
theorem d5_38 : decode jdk_37_method_8_code 38 = .ok (.aload_n 2, 1) := by decide +kernel
theorem d5_39 : decode jdk_37_method_8_code 39 = .ok (.getfield 7, 3) := by decide +kernel
theorem d5_42 : decode jdk_37_method_8_code 42 = .ok (.isub, 1) := by decide +kernel
theorem d5_43 : decode jdk_37_method_8_code 43 = .ok (.ireturn, 1) := by decide +kernel
theorem pn5 : plainName "java/lang/Enum" = true := by first | (simp [plainName, overriddenIn]; done) | decide +kernel
theorem ef5 (m : MethodId) (o0 : Addr) (o1 : Addr) : entryFrame m #[(.ref o0), (.ref o1)] 4 = mkF m 0 #[.val (.ref o0), .val (.ref o1), .unset, .unset] [] := by first | (simp [entryFrame, mkF, argsToLocals, Value.category]; done) | rfl
set_option maxRecDepth 65536 in
set_option maxHeartbeats 40000000 in
theorem rmC (l : Launch) (Z : State) (a0 : Array Value) (hw : ∀ d ∈ tables_1, d.before a0 Z = true) (ws : List Jvm.Cond) (n0 : Nat) (h0 : Heap) (O0 : Old Z n0 h0) (o0 : Addr) (o1 : Addr) (w_NONE : Addr) (w_OWNER : Addr) (w_WRITE : Addr) (w_READ : Addr) (FF : Facts Z w_NONE w_OWNER w_WRITE w_READ) (mr : Addr) (MM : ∃ (c : ClassId) (k : Class), Z.vm.findClass "com/example/usher_paths/usherpaths/Level" = some c ∧ Z.vm.classes[c]? = some k ∧ k.mirror = some mr) (x : Int32) (Fox : Fld Z Z.heap o0 "java/lang/Enum" "ordinal" "I" (.int x)) (Exx : Exa Z Z.heap o0 "com/example/usher_paths/usherpaths/Level") (y : Int32) (Foy : Fld Z Z.heap o1 "java/lang/Enum" "ordinal" "I" (.int y)) (Exy : Exa Z Z.heap o1 "com/example/usher_paths/usherpaths/Level") :
    Meets1 l (⟨"java/lang/Enum", "compareTo", "(Ljava/lang/Enum;)I"⟩ : MethodName) jdk_37_method_8_code 4 (some .int) ws ({ frames := 1, cells := 0, slots := 0, locals := 15 } : Room) #[(.ref o0), (.ref o1)] Z h0 (fun v h L => v = some (.int (x - y)) ∧ Fr n0 L ∧ h = h0) := by
  refine MetFree.of_bodySF (plainFor_of_name pn5) hisR ?_
  intro p e s m args below meth c s₁ Bd hml0 hP hK
  obtain ⟨rfl, hZ, hh⟩ := hP
  have hx := Bd.exec
  have hby := Bd.bytes
  have hml : c.maxLocals = 4 := hml0
  have hown : s.vm.findClass "java/lang/Enum" = some m.cls := findClass_of_methodNamed Bd.named
  have hnm := (name_of_methodNamed Bd.named Bd.method).1
  have X0 : Stand p l e ({ frames := 1, cells := 0, slots := 0, locals := 15 } : Room) s m #[(.ref o0), (.ref o1)] below meth c s₁ [] 0 0 := Stand.of_body Bd
  have e0 : s₁.heap = h0 := by rw [← hh, Bd.state]; rfl
  have N0 := Fr.nil n0
  have Z0 := own_old_le O0
  show Ends p e below s s₁ (entryFrame m #[(.ref o0), (.ref o1)] 4) ({ frames := 1, cells := 0, slots := 0, locals := 15 } : Room).cells ({ frames := 1, cells := 0, slots := 0, locals := 15 } : Room).slots (fun v h L => v = some (.int (x - y)) ∧ Fr n0 L ∧ h = h0)
  refine Ends.go (fun _ k => castTop (ef5 m o0 o1) k) ?_
  have K0 := Keep.refl h0 []
  have FF0 := FF
  obtain ⟨S_NONE, E_NONE, S_OWNER, E_OWNER, F_ordinal_NONE, F_ordinal_OWNER, S_WRITE, E_WRITE, S_READ, E_READ, F_ordinal_WRITE, F_ordinal_READ⟩ := FF
  show Ends p e below s s₁ (mkF m 0 #[.val (.ref o0), .val (.ref o1), .unset, .unset] []) _ _ _
  refine Ends.go (fun _ k => XS.aloadN X0.here hx rfl (hb hby d5_0) rfl rfl k) ?_
  show Ends p e below s s₁ (mkF m 1 #[.val (.ref o0), .val (.ref o1), .unset, .unset] [(.ref o1)]) _ _ _
  refine Ends.go (fun _ k => XS.astoreN X0.here hx rfl (hb hby d5_1) rfl rfl (l' := #[.val (.ref o0), .val (.ref o1), .val (.ref o1), .unset]) rfl k) ?_
  show Ends p e below s s₁ (mkF m 2 #[.val (.ref o0), .val (.ref o1), .val (.ref o1), .unset] []) _ _ _
  refine Ends.go (fun _ k => XS.aloadN X0.here hx rfl (hb hby d5_2) rfl rfl k) ?_
  show Ends p e below s s₁ (mkF m 3 #[.val (.ref o0), .val (.ref o1), .val (.ref o1), .unset] [(.ref o0)]) _ _ _
  refine Ends.go (fun _ k => XS.astoreN X0.here hx rfl (hb hby d5_3) rfl rfl (l' := #[.val (.ref o0), .val (.ref o1), .val (.ref o1), .val (.ref o0)]) rfl k) ?_
  show Ends p e below s s₁ (mkF m 4 #[.val (.ref o0), .val (.ref o1), .val (.ref o1), .val (.ref o0)] []) _ _ _
  refine Ends.go (fun _ k => XS.aloadN X0.here hx rfl (hb hby d5_4) rfl rfl k) ?_
  show Ends p e below s s₁ (mkF m 5 #[.val (.ref o0), .val (.ref o1), .val (.ref o1), .val (.ref o0)] [(.ref o0)]) _ _ _
  obtain ⟨T1, X1, e1, st1⟩ := own_gcls X0 hx hZ hown (hw _ (List.mem_of_getElem? (i := 30) rfl)) (hw _ (List.mem_of_getElem? (i := 31) rfl)) (hw _ (List.mem_of_getElem? (i := 33) rfl)) (hw _ (List.mem_of_getElem? (i := 32) rfl)) (hw _ (List.mem_of_getElem? (i := 34) rfl)) e0 (Exx.ext O0.2) MM (g := (mkF m 5 #[.val (.ref o0), .val (.ref o1), .val (.ref o1), .val (.ref o0)] [(.ref o0)])) rfl (by rw [hml]; rfl) rfl (hb hby d5_5) (by decide) (W := 0) (by show 2 * 0 + _ ≤ _; exact Nat.le_of_eq rfl) (by decide)
  refine Ends.go st1 ?_
  show Ends p e below s T1 (mkF m 8 #[.val (.ref o0), .val (.ref o1), .val (.ref o1), .val (.ref o0)] [(.ref mr)]) _ _ _
  refine Ends.go (fun _ k => XS.aloadN X1.here hx rfl (hb hby d5_8) rfl rfl k) ?_
  show Ends p e below s T1 (mkF m 9 #[.val (.ref o0), .val (.ref o1), .val (.ref o1), .val (.ref o0)] [(.ref o1), (.ref mr)]) _ _ _
  obtain ⟨T2, X2, e2, st2⟩ := own_gcls X1 hx hZ hown (hw _ (List.mem_of_getElem? (i := 30) rfl)) (hw _ (List.mem_of_getElem? (i := 31) rfl)) (hw _ (List.mem_of_getElem? (i := 33) rfl)) (hw _ (List.mem_of_getElem? (i := 32) rfl)) (hw _ (List.mem_of_getElem? (i := 34) rfl)) e1 (Exy.ext O0.2) MM (g := (mkF m 9 #[.val (.ref o0), .val (.ref o1), .val (.ref o1), .val (.ref o0)] [(.ref o1), (.ref mr)])) rfl (by rw [hml]; rfl) rfl (hb hby d5_9) (by decide) (W := 1) (by show 2 * 0 + _ ≤ _; exact Nat.le_of_eq rfl) (by decide)
  refine Ends.go st2 ?_
  show Ends p e below s T2 (mkF m 12 #[.val (.ref o0), .val (.ref o1), .val (.ref o1), .val (.ref o0)] [(.ref mr), (.ref mr)]) _ _ _
  refine Ends.go (fun _ k => Jvm.RoadKit.acmp (g := (mkF m 12 #[.val (.ref o0), .val (.ref o1), .val (.ref o1), .val (.ref o0)] [(.ref mr), (.ref mr)])) X2 hx rfl rfl rfl (pc0 := 12) (pc' := 34) (same := true) rfl (hb hby d5_12) rfl (decide_eq_true rfl) (by decide) (by decide) k) ?_
  show Ends p e below s T2 (mkF m 34 #[.val (.ref o0), .val (.ref o1), .val (.ref o1), .val (.ref o0)] []) _ _ _
  refine Ends.go (fun _ k => XS.aloadN X2.here hx rfl (hb hby d5_34) rfl rfl k) ?_
  show Ends p e below s T2 (mkF m 35 #[.val (.ref o0), .val (.ref o1), .val (.ref o1), .val (.ref o0)] [(.ref o0)]) _ _ _
  obtain ⟨T3, X3, e3, st3⟩ := getF X2 hx hZ hown (host := "") (Or.inl (hw _ (List.mem_of_getElem? (i := 36) rfl))) Via.refl e2 (Fox.ext O0.2) (g := (mkF m 35 #[.val (.ref o0), .val (.ref o1), .val (.ref o1), .val (.ref o0)] [(.ref o0)])) rfl rfl (hb hby d5_35)
  refine Ends.go st3 ?_
  show Ends p e below s T3 (mkF m 38 #[.val (.ref o0), .val (.ref o1), .val (.ref o1), .val (.ref o0)] [(.int x)]) _ _ _
  refine Ends.go (fun _ k => XS.aloadN X3.here hx rfl (hb hby d5_38) rfl rfl k) ?_
  show Ends p e below s T3 (mkF m 39 #[.val (.ref o0), .val (.ref o1), .val (.ref o1), .val (.ref o0)] [(.ref o1), (.int x)]) _ _ _
  obtain ⟨T4, X4, e4, st4⟩ := getF X3 hx hZ hown (host := "") (Or.inl (hw _ (List.mem_of_getElem? (i := 36) rfl))) Via.refl e3 (Foy.ext O0.2) (g := (mkF m 39 #[.val (.ref o0), .val (.ref o1), .val (.ref o1), .val (.ref o0)] [(.ref o1), (.int x)])) rfl rfl (hb hby d5_39)
  refine Ends.go st4 ?_
  show Ends p e below s T4 (mkF m 42 #[.val (.ref o0), .val (.ref o1), .val (.ref o1), .val (.ref o0)] [(.int y), (.int x)]) _ _ _
  refine Ends.go (fun _ k => XS.isub X4.here hx rfl (hb hby d5_42) rfl k) ?_
  show Ends p e below s T4 (mkF m 43 #[.val (.ref o0), .val (.ref o1), .val (.ref o1), .val (.ref o0)] [(.int (x - y))]) _ _ _
  refine Ends.ret X4 hx Bd.notSynchronized (t := .int) Bd.returns rfl (Or.inl ⟨rfl, by simp, _, rfl⟩) (hb hby d5_43) (by decide) (by decide) ?_
  exact ⟨rfl, N0, e4⟩
theorem d4_0 : decode prog_7_method_5_code 0 = .ok (.aload_n 0, 1) := by decide +kernel
theorem d4_1 : decode prog_7_method_5_code 1 = .ok (.aload_n 1, 1) := by decide +kernel
theorem d4_2 : decode prog_7_method_5_code 2 = .ok (.invokevirtual 51, 3) := by decide +kernel
theorem d4_5 : decode prog_7_method_5_code 5 = .ok (.ifCond .lt 7, 3) := by decide +kernel
theorem d4_8 : decode prog_7_method_5_code 8 = .ok (.iconst 1, 1) := by decide +kernel
theorem d4_9 : decode prog_7_method_5_code 9 = .ok (.goto 4, 3) := by decide +kernel
theorem d4_12 : decode prog_7_method_5_code 12 = .ok (.iconst 0, 1) := by decide +kernel
theorem d4_13 : decode prog_7_method_5_code 13 = .ok (.ireturn, 1) := by decide +kernel
theorem pn4 : plainName "com/example/usher_paths/usherpaths/Level" = true := by first | (simp [plainName, overriddenIn]; done) | decide +kernel
theorem pd4_0 : parseMethodDescriptor "(Ljava/lang/Enum;)I" = some ⟨[(.object "java/lang/Enum")], some .int⟩ := by decide +kernel
theorem ef4 (m : MethodId) (o0 : Addr) (o1 : Addr) : entryFrame m #[(.ref o0), (.ref o1)] 2 = mkF m 0 #[.val (.ref o0), .val (.ref o1)] [] := by first | (simp [entryFrame, mkF, argsToLocals, Value.category]; done) | rfl
set_option maxRecDepth 65536 in
set_option maxHeartbeats 40000000 in
theorem rmA (l : Launch) (Z : State) (a0 : Array Value) (hw : ∀ d ∈ tables_1, d.before a0 Z = true) (ws : List Jvm.Cond) (n0 : Nat) (h0 : Heap) (O0 : Old Z n0 h0) (o0 : Addr) (o1 : Addr) (w_NONE : Addr) (w_OWNER : Addr) (w_WRITE : Addr) (w_READ : Addr) (FF : Facts Z w_NONE w_OWNER w_WRITE w_READ) (mr : Addr) (MM : ∃ (c : ClassId) (k : Class), Z.vm.findClass "com/example/usher_paths/usherpaths/Level" = some c ∧ Z.vm.classes[c]? = some k ∧ k.mirror = some mr) (x : Int32) (Fox : Fld Z Z.heap o0 "java/lang/Enum" "ordinal" "I" (.int x)) (Exx : Exa Z Z.heap o0 "com/example/usher_paths/usherpaths/Level") (y : Int32) (Foy : Fld Z Z.heap o1 "java/lang/Enum" "ordinal" "I" (.int y)) (Exy : Exa Z Z.heap o1 "com/example/usher_paths/usherpaths/Level") (r : Int32) (hr : r = if (x - y) < 0 then 0 else 1) :
    Meets1 l (⟨"com/example/usher_paths/usherpaths/Level", "atLeast", "(Lcom/example/usher_paths/usherpaths/Level;)Z"⟩ : MethodName) prog_7_method_5_code 2 (some .boolean) ws ({ frames := 2, cells := 0, slots := 0, locals := 30 } : Room) #[(.ref o0), (.ref o1)] Z h0 (fun v h L => v = some (.int r) ∧ Fr n0 L ∧ h = h0) := by
  refine MetFree.of_bodySF (plainFor_of_name pn4) hisR ?_
  intro p e s m args below meth c s₁ Bd hml0 hP hK
  obtain ⟨rfl, hZ, hh⟩ := hP
  have hx := Bd.exec
  have hby := Bd.bytes
  have hml : c.maxLocals = 2 := hml0
  have hown : s.vm.findClass "com/example/usher_paths/usherpaths/Level" = some m.cls := findClass_of_methodNamed Bd.named
  have hnm := (name_of_methodNamed Bd.named Bd.method).1
  have X0 : Stand p l e ({ frames := 2, cells := 0, slots := 0, locals := 30 } : Room) s m #[(.ref o0), (.ref o1)] below meth c s₁ [] 0 0 := Stand.of_body Bd
  have e0 : s₁.heap = h0 := by rw [← hh, Bd.state]; rfl
  have N0 := Fr.nil n0
  have Z0 := own_old_le O0
  show Ends p e below s s₁ (entryFrame m #[(.ref o0), (.ref o1)] 2) ({ frames := 2, cells := 0, slots := 0, locals := 30 } : Room).cells ({ frames := 2, cells := 0, slots := 0, locals := 30 } : Room).slots (fun v h L => v = some (.int r) ∧ Fr n0 L ∧ h = h0)
  refine Ends.go (fun _ k => castTop (ef4 m o0 o1) k) ?_
  have K0 := Keep.refl h0 []
  have FF0 := FF
  obtain ⟨S_NONE, E_NONE, S_OWNER, E_OWNER, F_ordinal_NONE, F_ordinal_OWNER, S_WRITE, E_WRITE, S_READ, E_READ, F_ordinal_WRITE, F_ordinal_READ⟩ := FF
  show Ends p e below s s₁ (mkF m 0 #[.val (.ref o0), .val (.ref o1)] []) _ _ _
  refine Ends.go (fun _ k => XS.aloadN X0.here hx rfl (hb hby d4_0) rfl rfl k) ?_
  show Ends p e below s s₁ (mkF m 1 #[.val (.ref o0), .val (.ref o1)] [(.ref o0)]) _ _ _
  refine Ends.go (fun _ k => XS.aloadN X0.here hx rfl (hb hby d4_1) rfl rfl k) ?_
  show Ends p e below s s₁ (mkF m 2 #[.val (.ref o0), .val (.ref o1)] [(.ref o1), (.ref o0)]) _ _ _
  obtain ⟨cq1, kq1, q1a, q1b, q1c⟩ := isOf hZ e0 (Exx.ext O0.2)
  obtain ⟨_, _, ⟨T1, L1, k1, n1⟩, -, X1, ⟨Lc1, hQ1, l1, y1, z1⟩, st1⟩ := X0.virtualBackUp hx (x := (⟨"com/example/usher_paths/usherpaths/Level", "compareTo", "(Ljava/lang/Enum;)I"⟩ : MethodName)) (y := (⟨"java/lang/Enum", "compareTo", "(Ljava/lang/Enum;)I"⟩ : MethodName)) hown (mvT hZ (hw _ (List.mem_of_getElem? (i := 23) rfl))) (mvT hZ (hw _ (List.mem_of_getElem? (i := 24) rfl))) (mvT hZ (hw _ (List.mem_of_getElem? (i := 25) rfl))) (by decide) (mvT hZ (hw _ (List.mem_of_getElem? (i := 27) rfl))) (mvT hZ (hw _ (List.mem_of_getElem? (i := 26) rfl))) (own_backOf (W := 0) (rmC l Z a0 hw [] n0 h0 O0 o0 o1 w_NONE w_OWNER w_WRITE w_READ FF0 mr MM x Fox Exx y Foy Exy) hZ (hw _ (List.mem_of_getElem? (i := 29) rfl)) (hw _ (List.mem_of_getElem? (i := 28) rfl)) (by decide) (by decide)) q1a q1c (g := (mkF m 2 #[.val (.ref o0), .val (.ref o1)] [(.ref o1), (.ref o0)])) rfl (by rw [hml]; rfl) (Steps.refl _) (argsL := [(.ref o1)]) (rest := []) (lenOf pd4_0 rfl) rfl (by show 2 * 0 + _ ≤ _; exact Nat.le_of_eq rfl) (hb hby d4_2) (fun _ _ => ⟨rfl, e0, (by decide : 0 + 0 ≤ _), (by decide : 0 + 0 ≤ _)⟩)
  dsimp only [Pt.U, Pt.locs, Pt.cells, Pt.slots] at X1 l1 y1 z1 st1 hQ1
  subst l1 y1 z1
  obtain ⟨rfl, N1q, e1q⟩ := hQ1
  have N1 := Fr.app N0 N1q
  refine Ends.go (fun _ k => st1.trans k) ?_
  show Ends p e below s T1 (mkF m 5 #[.val (.ref o0), .val (.ref o1)] [(.int (x - y))]) _ _ _
  by_cases hc5_2 : (x - y) < (0 : Int32)
  · refine Ends.go (fun _ k => XS.ifYes X1.here hx rfl (pc0 := 5) (pc' := 12) rfl (hb hby d4_5) rfl ((if0 _ _).trans (tlt hc5_2).1) (by decide) (by decide) k) ?_
    show Ends p e below s T1 (mkF m 12 #[.val (.ref o0), .val (.ref o1)] []) _ _ _
    refine Ends.go (fun _ k => XS.iconst X1.here hx rfl (hb hby d4_12) k) ?_
    show Ends p e below s T1 (mkF m 13 #[.val (.ref o0), .val (.ref o1)] [(.int (0 : Int32))]) _ _ _
    refine Ends.retZ X1 hx Bd.notSynchronized (t := .boolean) Bd.returns (by simp) (hb hby d4_13) (by decide) (by decide) ?_
    refine ⟨?_, N1, e1q⟩
    show (some (.int (0 : Int32)) : Option Value) = _
    rw [hr]; simp [hc5_2]
  · refine Ends.go (fun _ k => XS.ifNo X1.here hx rfl (hb hby d4_5) rfl ((if0 _ _).trans (flt hc5_2).1) k) ?_
    show Ends p e below s T1 (mkF m 8 #[.val (.ref o0), .val (.ref o1)] []) _ _ _
    refine Ends.go (fun _ k => XS.iconst X1.here hx rfl (hb hby d4_8) k) ?_
    show Ends p e below s T1 (mkF m 9 #[.val (.ref o0), .val (.ref o1)] [(.int (1 : Int32))]) _ _ _
    refine Ends.go (fun _ k => XS.goto X1.here hx rfl (pc0 := 9) (pc' := 13) rfl (hb hby d4_9) (by decide) (by decide) k) ?_
    show Ends p e below s T1 (mkF m 13 #[.val (.ref o0), .val (.ref o1)] [(.int (1 : Int32))]) _ _ _
    refine Ends.retZ X1 hx Bd.notSynchronized (t := .boolean) Bd.returns (by simp) (hb hby d4_13) (by decide) (by decide) ?_
    refine ⟨?_, N1, e1q⟩
    show (some (.int (1 : Int32)) : Option Value) = _
    rw [hr]; simp [hc5_2]
theorem d3_0 : decode prog_7_method_6_code 0 = .ok (.aload_n 0, 1) := by decide +kernel
theorem d3_1 : decode prog_7_method_6_code 1 = .ok (.aload_n 1, 1) := by decide +kernel
theorem d3_2 : decode prog_7_method_6_code 2 = .ok (.invokevirtual 55, 3) := by decide +kernel
theorem d3_5 : decode prog_7_method_6_code 5 = .ok (.ifCond .eq 7, 3) := by decide +kernel
theorem d3_8 : decode prog_7_method_6_code 8 = .ok (.aload_n 0, 1) := by decide +kernel
theorem d3_9 : decode prog_7_method_6_code 9 = .ok (.goto 4, 3) := by decide +kernel
theorem d3_12 : decode prog_7_method_6_code 12 = .ok (.aload_n 1, 1) := by decide +kernel
theorem d3_13 : decode prog_7_method_6_code 13 = .ok (.areturn, 1) := by decide +kernel
theorem pn3 : plainName "com/example/usher_paths/usherpaths/Level" = true := by first | (simp [plainName, overriddenIn]; done) | decide +kernel
theorem pd3_0 : parseMethodDescriptor "(Lcom/example/usher_paths/usherpaths/Level;)Z" = some ⟨[(.object "com/example/usher_paths/usherpaths/Level")], some .boolean⟩ := by decide +kernel
theorem ef3 (m : MethodId) (o0 : Addr) (o1 : Addr) : entryFrame m #[(.ref o0), (.ref o1)] 2 = mkF m 0 #[.val (.ref o0), .val (.ref o1)] [] := by first | (simp [entryFrame, mkF, argsToLocals, Value.category]; done) | rfl
set_option maxRecDepth 65536 in
set_option maxHeartbeats 40000000 in
theorem rmM (l : Launch) (Z : State) (a0 : Array Value) (hw : ∀ d ∈ tables_1, d.before a0 Z = true) (ws : List Jvm.Cond) (n0 : Nat) (h0 : Heap) (O0 : Old Z n0 h0) (o0 : Addr) (o1 : Addr) (w_NONE : Addr) (w_OWNER : Addr) (w_WRITE : Addr) (w_READ : Addr) (FF : Facts Z w_NONE w_OWNER w_WRITE w_READ) (mr : Addr) (MM : ∃ (c : ClassId) (k : Class), Z.vm.findClass "com/example/usher_paths/usherpaths/Level" = some c ∧ Z.vm.classes[c]? = some k ∧ k.mirror = some mr) (x : Int32) (Fox : Fld Z Z.heap o0 "java/lang/Enum" "ordinal" "I" (.int x)) (Exx : Exa Z Z.heap o0 "com/example/usher_paths/usherpaths/Level") (y : Int32) (Foy : Fld Z Z.heap o1 "java/lang/Enum" "ordinal" "I" (.int y)) (Exy : Exa Z Z.heap o1 "com/example/usher_paths/usherpaths/Level") (t : Int32) (ht : t = if (x - y) < 0 then 0 else 1) (r : Addr) (hr : r = if t = 0 then o1 else o0) :
    Meets1 l (⟨"com/example/usher_paths/usherpaths/Level", "max", "(Lcom/example/usher_paths/usherpaths/Level;)Lcom/example/usher_paths/usherpaths/Level;"⟩ : MethodName) prog_7_method_6_code 2 (some (.object "com/example/usher_paths/usherpaths/Level")) ws ({ frames := 3, cells := 0, slots := 0, locals := 43 } : Room) #[(.ref o0), (.ref o1)] Z h0 (fun v h L => v = some (.ref r) ∧ Fr n0 L ∧ h = h0) := by
  refine MetFree.of_bodySF (plainFor_of_name pn3) hisR ?_
  intro p e s m args below meth c s₁ Bd hml0 hP hK
  obtain ⟨rfl, hZ, hh⟩ := hP
  have hx := Bd.exec
  have hby := Bd.bytes
  have hml : c.maxLocals = 2 := hml0
  have hown : s.vm.findClass "com/example/usher_paths/usherpaths/Level" = some m.cls := findClass_of_methodNamed Bd.named
  have hnm := (name_of_methodNamed Bd.named Bd.method).1
  have X0 : Stand p l e ({ frames := 3, cells := 0, slots := 0, locals := 43 } : Room) s m #[(.ref o0), (.ref o1)] below meth c s₁ [] 0 0 := Stand.of_body Bd
  have e0 : s₁.heap = h0 := by rw [← hh, Bd.state]; rfl
  have N0 := Fr.nil n0
  have Z0 := own_old_le O0
  show Ends p e below s s₁ (entryFrame m #[(.ref o0), (.ref o1)] 2) ({ frames := 3, cells := 0, slots := 0, locals := 43 } : Room).cells ({ frames := 3, cells := 0, slots := 0, locals := 43 } : Room).slots (fun v h L => v = some (.ref r) ∧ Fr n0 L ∧ h = h0)
  refine Ends.go (fun _ k => castTop (ef3 m o0 o1) k) ?_
  have K0 := Keep.refl h0 []
  have FF0 := FF
  obtain ⟨S_NONE, E_NONE, S_OWNER, E_OWNER, F_ordinal_NONE, F_ordinal_OWNER, S_WRITE, E_WRITE, S_READ, E_READ, F_ordinal_WRITE, F_ordinal_READ⟩ := FF
  show Ends p e below s s₁ (mkF m 0 #[.val (.ref o0), .val (.ref o1)] []) _ _ _
  refine Ends.go (fun _ k => XS.aloadN X0.here hx rfl (hb hby d3_0) rfl rfl k) ?_
  show Ends p e below s s₁ (mkF m 1 #[.val (.ref o0), .val (.ref o1)] [(.ref o0)]) _ _ _
  refine Ends.go (fun _ k => XS.aloadN X0.here hx rfl (hb hby d3_1) rfl rfl k) ?_
  show Ends p e below s s₁ (mkF m 2 #[.val (.ref o0), .val (.ref o1)] [(.ref o1), (.ref o0)]) _ _ _
  obtain ⟨cq1, kq1, q1a, q1b, q1c⟩ := isOf hZ e0 (Exx.ext O0.2)
  obtain ⟨_, _, ⟨T1, L1, k1, n1⟩, -, X1, ⟨Lc1, hQ1, l1, y1, z1⟩, st1⟩ := X0.virtualBack hx (y := (⟨"com/example/usher_paths/usherpaths/Level", "atLeast", "(Lcom/example/usher_paths/usherpaths/Level;)Z"⟩ : MethodName)) (z := (⟨"com/example/usher_paths/usherpaths/Level", "atLeast", "(Lcom/example/usher_paths/usherpaths/Level;)Z"⟩ : MethodName)) hown (mvT hZ (hw _ (List.mem_of_getElem? (i := 18) rfl))) (mvT hZ (hw _ (List.mem_of_getElem? (i := 19) rfl))) (notFace_of_selects (args := #[]) (mvT hZ (hw _ (List.mem_of_getElem? (i := 21) rfl)))) (mvT hZ (hw _ (List.mem_of_getElem? (i := 21) rfl))) (mvT hZ (hw _ (List.mem_of_getElem? (i := 20) rfl))) (by decide) (own_backOf (W := 0) (rmA l Z a0 hw [] n0 h0 O0 o0 o1 w_NONE w_OWNER w_WRITE w_READ FF0 mr MM x Fox Exx y Foy Exy t ht) hZ (hw _ (List.mem_of_getElem? (i := 22) rfl)) (hw _ (List.mem_of_getElem? (i := 5) rfl)) (by decide) (by decide)) q1a q1c (g := (mkF m 2 #[.val (.ref o0), .val (.ref o1)] [(.ref o1), (.ref o0)])) rfl (by rw [hml]; rfl) (Steps.refl _) (argsL := [(.ref o1)]) (rest := []) (lenOf pd3_0 rfl) rfl (by show 2 * 0 + _ ≤ _; exact Nat.le_of_eq rfl) (hb hby d3_2) (fun _ _ => ⟨rfl, e0, (by decide : 0 + 0 ≤ _), (by decide : 0 + 0 ≤ _)⟩)
  dsimp only [Pt.U, Pt.locs, Pt.cells, Pt.slots] at X1 l1 y1 z1 st1 hQ1
  subst l1 y1 z1
  obtain ⟨rfl, N1q, e1q⟩ := hQ1
  have N1 := Fr.app N0 N1q
  refine Ends.go (fun _ k => st1.trans k) ?_
  show Ends p e below s T1 (mkF m 5 #[.val (.ref o0), .val (.ref o1)] [(.int t)]) _ _ _
  by_cases hc5_2 : t = (0 : Int32)
  · refine Ends.go (fun _ k => XS.ifYes X1.here hx rfl (pc0 := 5) (pc' := 12) rfl (hb hby d3_5) rfl ((if0 _ _).trans (teq hc5_2).1) (by decide) (by decide) k) ?_
    show Ends p e below s T1 (mkF m 12 #[.val (.ref o0), .val (.ref o1)] []) _ _ _
    refine Ends.go (fun _ k => XS.aloadN X1.here hx rfl (hb hby d3_12) rfl rfl k) ?_
    show Ends p e below s T1 (mkF m 13 #[.val (.ref o0), .val (.ref o1)] [(.ref o1)]) _ _ _
    refine Ends.ret X1 hx Bd.notSynchronized (t := (.object "com/example/usher_paths/usherpaths/Level")) Bd.returns rfl (Or.inr (Or.inr (Or.inr (Or.inr ⟨rfl, rfl, rfl⟩)))) (hb hby d3_13) (by decide) (by decide) ?_
    refine ⟨?_, N1, e1q⟩
    show (some (.ref o1) : Option Value) = _
    rw [hr]; simp [hc5_2]
  · refine Ends.go (fun _ k => XS.ifNo X1.here hx rfl (hb hby d3_5) rfl ((if0 _ _).trans (feq hc5_2).1) k) ?_
    show Ends p e below s T1 (mkF m 8 #[.val (.ref o0), .val (.ref o1)] []) _ _ _
    refine Ends.go (fun _ k => XS.aloadN X1.here hx rfl (hb hby d3_8) rfl rfl k) ?_
    show Ends p e below s T1 (mkF m 9 #[.val (.ref o0), .val (.ref o1)] [(.ref o0)]) _ _ _
    refine Ends.go (fun _ k => XS.goto X1.here hx rfl (pc0 := 9) (pc' := 13) rfl (hb hby d3_9) (by decide) (by decide) k) ?_
    show Ends p e below s T1 (mkF m 13 #[.val (.ref o0), .val (.ref o1)] [(.ref o0)]) _ _ _
    refine Ends.ret X1 hx Bd.notSynchronized (t := (.object "com/example/usher_paths/usherpaths/Level")) Bd.returns rfl (Or.inr (Or.inr (Or.inr (Or.inr ⟨rfl, rfl, rfl⟩)))) (hb hby d3_13) (by decide) (by decide) ?_
    refine ⟨?_, N1, e1q⟩
    show (some (.ref o0) : Option Value) = _
    rw [hr]; simp [hc5_2]
theorem d2_0 : decode jdk_29_method_65_code 0 = .ok (.iload_n 0, 1) := by decide +kernel
theorem d2_1 : decode jdk_29_method_65_code 1 = .ok (.iload_n 1, 1) := by decide +kernel
theorem d2_2 : decode jdk_29_method_65_code 2 = .ok (.if_icmp .lt 7, 3) := by decide +kernel
theorem d2_5 : decode jdk_29_method_65_code 5 = .ok (.iload_n 0, 1) := by decide +kernel
theorem d2_6 : decode jdk_29_method_65_code 6 = .ok (.goto 4, 3) := by decide +kernel
theorem d2_9 : decode jdk_29_method_65_code 9 = .ok (.iload_n 1, 1) := by decide +kernel
theorem d2_10 : decode jdk_29_method_65_code 10 = .ok (.ireturn, 1) := by decide +kernel
theorem ef2 (m : MethodId) (p0 : Int32) (p1 : Int32) : entryFrame m #[(.int p0), (.int p1)] 2 = mkF m 0 #[.val (.int p0), .val (.int p1)] [] := by first | (simp [entryFrame, mkF, argsToLocals, Value.category]; done) | rfl
set_option maxRecDepth 65536 in
set_option maxHeartbeats 40000000 in
theorem rmX (l : Launch) (Z : State) (a0 : Array Value) (hw : ∀ d ∈ tables_1, d.before a0 Z = true) (ws : List Jvm.Cond) (n0 : Nat) (h0 : Heap) (O0 : Old Z n0 h0) (p0 : Int32) (p1 : Int32) (w_NONE : Addr) (w_OWNER : Addr) (w_WRITE : Addr) (w_READ : Addr) (FF : Facts Z w_NONE w_OWNER w_WRITE w_READ) (mr : Addr) (MM : ∃ (c : ClassId) (k : Class), Z.vm.findClass "com/example/usher_paths/usherpaths/Level" = some c ∧ Z.vm.classes[c]? = some k ∧ k.mirror = some mr) (r : Int32) (hr : r = if p0 < p1 then p1 else p0) :
    Meets1 l (⟨"java/lang/Math", "max", "(II)I"⟩ : MethodName) jdk_29_method_65_code 2 (some .int) ws ({ frames := 0, cells := 0, slots := 0, locals := 0 } : Room) #[(.int p0), (.int p1)] Z h0 (fun v h L => v = some (.int r) ∧ Fr n0 L ∧ h = h0) := by
  refine MetFree.of_bodySF (Jvm.Free.JP.mathPlain rfl (by decide +kernel)) hisR ?_
  intro p e s m args below meth c s₁ Bd hml0 hP hK
  obtain ⟨rfl, hZ, hh⟩ := hP
  have hx := Bd.exec
  have hby := Bd.bytes
  have hml : c.maxLocals = 2 := hml0
  have hown : s.vm.findClass "java/lang/Math" = some m.cls := findClass_of_methodNamed Bd.named
  have hnm := (name_of_methodNamed Bd.named Bd.method).1
  have X0 : Stand p l e ({ frames := 0, cells := 0, slots := 0, locals := 0 } : Room) s m #[(.int p0), (.int p1)] below meth c s₁ [] 0 0 := Stand.of_body Bd
  have e0 : s₁.heap = h0 := by rw [← hh, Bd.state]; rfl
  have N0 := Fr.nil n0
  have Z0 := own_old_le O0
  show Ends p e below s s₁ (entryFrame m #[(.int p0), (.int p1)] 2) ({ frames := 0, cells := 0, slots := 0, locals := 0 } : Room).cells ({ frames := 0, cells := 0, slots := 0, locals := 0 } : Room).slots (fun v h L => v = some (.int r) ∧ Fr n0 L ∧ h = h0)
  refine Ends.go (fun _ k => castTop (ef2 m p0 p1) k) ?_
  have K0 := Keep.refl h0 []
  show Ends p e below s s₁ (mkF m 0 #[.val (.int p0), .val (.int p1)] []) _ _ _
  refine Ends.go (fun _ k => XS.iloadN X0.here hx rfl (hb hby d2_0) rfl k) ?_
  show Ends p e below s s₁ (mkF m 1 #[.val (.int p0), .val (.int p1)] [(.int p0)]) _ _ _
  refine Ends.go (fun _ k => XS.iloadN X0.here hx rfl (hb hby d2_1) rfl k) ?_
  show Ends p e below s s₁ (mkF m 2 #[.val (.int p0), .val (.int p1)] [(.int p1), (.int p0)]) _ _ _
  by_cases hc2_1 : p0 < p1
  · refine Ends.go (fun _ k => XS.icmpYes X0.here hx rfl (pc0 := 2) (pc' := 9) rfl (hb hby d2_2) rfl (tlt hc2_1).1 (by decide) (by decide) k) ?_
    show Ends p e below s s₁ (mkF m 9 #[.val (.int p0), .val (.int p1)] []) _ _ _
    refine Ends.go (fun _ k => XS.iloadN X0.here hx rfl (hb hby d2_9) rfl k) ?_
    show Ends p e below s s₁ (mkF m 10 #[.val (.int p0), .val (.int p1)] [(.int p1)]) _ _ _
    refine Ends.ret X0 hx Bd.notSynchronized (t := .int) Bd.returns rfl (Or.inl ⟨rfl, by simp, _, rfl⟩) (hb hby d2_10) (by decide) (by decide) ?_
    refine ⟨?_, N0, e0⟩
    show (some (.int p1) : Option Value) = _
    rw [hr]; simp [hc2_1]
  · refine Ends.go (fun _ k => XS.icmpNo X0.here hx rfl (hb hby d2_2) rfl (flt hc2_1).1 k) ?_
    show Ends p e below s s₁ (mkF m 5 #[.val (.int p0), .val (.int p1)] []) _ _ _
    refine Ends.go (fun _ k => XS.iloadN X0.here hx rfl (hb hby d2_5) rfl k) ?_
    show Ends p e below s s₁ (mkF m 6 #[.val (.int p0), .val (.int p1)] [(.int p0)]) _ _ _
    refine Ends.go (fun _ k => XS.goto X0.here hx rfl (pc0 := 6) (pc' := 10) rfl (hb hby d2_6) (by decide) (by decide) k) ?_
    show Ends p e below s s₁ (mkF m 10 #[.val (.int p0), .val (.int p1)] [(.int p0)]) _ _ _
    refine Ends.ret X0 hx Bd.notSynchronized (t := .int) Bd.returns rfl (Or.inl ⟨rfl, by simp, _, rfl⟩) (hb hby d2_10) (by decide) (by decide) ?_
    refine ⟨?_, N0, e0⟩
    show (some (.int p0) : Option Value) = _
    rw [hr]; simp [hc2_1]
theorem pn0 : plainName "com/example/usher_paths/usherpaths/LevelMaxPinLaw" = true := by first | (simp [plainName, overriddenIn]; done) | decide +kernel
theorem pd0_0 : parseMethodDescriptor "(I)Lcom/example/usher_paths/usherpaths/Level;" = some ⟨[.int], some (.object "com/example/usher_paths/usherpaths/Level")⟩ := by decide +kernel
theorem pd0_1 : parseMethodDescriptor "(II)I" = some ⟨[.int, .int], some .int⟩ := by decide +kernel
theorem pd0_2 : parseMethodDescriptor "(Lcom/example/usher_paths/usherpaths/Level;)Lcom/example/usher_paths/usherpaths/Level;" = some ⟨[(.object "com/example/usher_paths/usherpaths/Level")], some (.object "com/example/usher_paths/usherpaths/Level")⟩ := by decide +kernel
theorem ef0 (m : MethodId) (p0 : Int32) (p1 : Int32) : entryFrame m #[(.int p0), (.int p1)] maxLocals = mkF m 0 #[.val (.int p0), .val (.int p1), .unset, .unset, .unset, .unset, .unset, .unset, .unset] [] := by first | (simp [entryFrame, mkF, argsToLocals, Value.category, maxLocals]; done) | rfl
set_option maxRecDepth 65536 in
set_option maxHeartbeats 40000000 in
theorem rm0 (l : Launch) (Z : State) (a0 : Array Value) (hw : ∀ d ∈ tables_1, d.before a0 Z = true) (ws : List Jvm.Cond) (n0 : Nat) (h0 : Heap) (O0 : Old Z n0 h0) (p0 : Int32) (p1 : Int32) (w_NONE : Addr) (w_OWNER : Addr) (w_WRITE : Addr) (w_READ : Addr) (FF : Facts Z w_NONE w_OWNER w_WRITE w_READ) (mr : Addr) (MM : ∃ (c : ClassId) (k : Class), Z.vm.findClass "com/example/usher_paths/usherpaths/Level" = some c ∧ Z.vm.classes[c]? = some k ∧ k.mirror = some mr) :
    Meets1 l x code maxLocals ret ws room_1 #[(.int p0), (.int p1)] Z h0 (fun v h L => v = some (.int (1 : Int32)) ∧ Fr n0 L) := by
  refine MetFree.of_bodySF (plainFor_of_name pn0) hisR ?_
  intro p e s m args below meth c s₁ Bd hml0 hP hK
  obtain ⟨rfl, hZ, hh⟩ := hP
  have hx := Bd.exec
  have hby := Bd.bytes
  have hml : c.maxLocals = 9 := hml0
  have hown : s.vm.findClass "com/example/usher_paths/usherpaths/LevelMaxPinLaw" = some m.cls := findClass_of_methodNamed Bd.named
  have hnm := (name_of_methodNamed Bd.named Bd.method).1
  have X0 : Stand p l e room_1 s m #[(.int p0), (.int p1)] below meth c s₁ [] 0 0 := Stand.of_body Bd
  have e0 : s₁.heap = h0 := by rw [← hh, Bd.state]; rfl
  have N0 := Fr.nil n0
  have Z0 := own_old_le O0
  show Ends p e below s s₁ (entryFrame m #[(.int p0), (.int p1)] maxLocals) room_1.cells room_1.slots (fun v h L => v = some (.int (1 : Int32)) ∧ Fr n0 L)
  refine Ends.go (fun _ k => castTop (ef0 m p0 p1) k) ?_
  have K0 := Keep.refl h0 []
  have FF0 := FF
  obtain ⟨S_NONE, E_NONE, S_OWNER, E_OWNER, F_ordinal_NONE, F_ordinal_OWNER, S_WRITE, E_WRITE, S_READ, E_READ, F_ordinal_WRITE, F_ordinal_READ⟩ := FF
  show Ends p e below s s₁ (mkF m 0 #[.val (.int p0), .val (.int p1), .unset, .unset, .unset, .unset, .unset, .unset, .unset] []) _ _ _
  refine Ends.go (fun _ k => XS.iloadN X0.here hx rfl (hb hby at_0) rfl k) ?_
  show Ends p e below s s₁ (mkF m 1 #[.val (.int p0), .val (.int p1), .unset, .unset, .unset, .unset, .unset, .unset, .unset] [(.int p0)]) _ _ _
  refine Ends.go (fun _ k => XS.iconst X0.here hx rfl (hb hby at_1) k) ?_
  show Ends p e below s s₁ (mkF m 2 #[.val (.int p0), .val (.int p1), .unset, .unset, .unset, .unset, .unset, .unset, .unset] [(.int (3 : Int32)), (.int p0)]) _ _ _
  refine Ends.go (fun _ k => XS.iand X0.here hx rfl (hb hby at_2) rfl k) ?_
  show Ends p e below s s₁ (mkF m 3 #[.val (.int p0), .val (.int p1), .unset, .unset, .unset, .unset, .unset, .unset, .unset] [(.int (p0 &&& (3 : Int32)))]) _ _ _
  generalize hi1 : (p0 &&& (3 : Int32)) = i1
  rcases own_and3 p0 i1 hi1 with rfl | rfl | rfl | rfl
  · show Ends p e below s s₁ (mkF m 3 #[.val (.int p0), .val (.int p1), .unset, .unset, .unset, .unset, .unset, .unset, .unset] [(.int (0 : Int32))]) _ _ _
    refine Ends.go (fun _ k => XS.istoreN X0.here hx rfl (hb hby at_3) rfl (l' := #[.val (.int p0), .val (.int p1), .val (.int (0 : Int32)), .unset, .unset, .unset, .unset, .unset, .unset]) rfl k) ?_
    show Ends p e below s s₁ (mkF m 4 #[.val (.int p0), .val (.int p1), .val (.int (0 : Int32)), .unset, .unset, .unset, .unset, .unset, .unset] []) _ _ _
    refine Ends.go (fun _ k => XS.iloadN X0.here hx rfl (hb hby at_4) rfl k) ?_
    show Ends p e below s s₁ (mkF m 5 #[.val (.int p0), .val (.int p1), .val (.int (0 : Int32)), .unset, .unset, .unset, .unset, .unset, .unset] [(.int p1)]) _ _ _
    refine Ends.go (fun _ k => XS.iconst X0.here hx rfl (hb hby at_5) k) ?_
    show Ends p e below s s₁ (mkF m 6 #[.val (.int p0), .val (.int p1), .val (.int (0 : Int32)), .unset, .unset, .unset, .unset, .unset, .unset] [(.int (3 : Int32)), (.int p1)]) _ _ _
    refine Ends.go (fun _ k => XS.iand X0.here hx rfl (hb hby at_6) rfl k) ?_
    show Ends p e below s s₁ (mkF m 7 #[.val (.int p0), .val (.int p1), .val (.int (0 : Int32)), .unset, .unset, .unset, .unset, .unset, .unset] [(.int (p1 &&& (3 : Int32)))]) _ _ _
    generalize hi2 : (p1 &&& (3 : Int32)) = i2
    rcases own_and3 p1 i2 hi2 with rfl | rfl | rfl | rfl
    · show Ends p e below s s₁ (mkF m 7 #[.val (.int p0), .val (.int p1), .val (.int (0 : Int32)), .unset, .unset, .unset, .unset, .unset, .unset] [(.int (0 : Int32))]) _ _ _
      refine Ends.go (fun _ k => XS.istoreN X0.here hx rfl (hb hby at_7) rfl (l' := #[.val (.int p0), .val (.int p1), .val (.int (0 : Int32)), .val (.int (0 : Int32)), .unset, .unset, .unset, .unset, .unset]) rfl k) ?_
      show Ends p e below s s₁ (mkF m 8 #[.val (.int p0), .val (.int p1), .val (.int (0 : Int32)), .val (.int (0 : Int32)), .unset, .unset, .unset, .unset, .unset] []) _ _ _
      refine Ends.go (fun _ k => XS.iloadN X0.here hx rfl (hb hby at_8) rfl k) ?_
      show Ends p e below s s₁ (mkF m 9 #[.val (.int p0), .val (.int p1), .val (.int (0 : Int32)), .val (.int (0 : Int32)), .unset, .unset, .unset, .unset, .unset] [(.int (0 : Int32))]) _ _ _
      obtain ⟨_, _, ⟨T3, L3, k3, n3⟩, -, X3, ⟨Lc3, hQ3, l3, y3, z3⟩, st3⟩ := Jvm.LawKit.callS X0 hx (y := (⟨"com/example/usher_paths/usherpaths/LevelMaxPinLaw", "pick", "(I)Lcom/example/usher_paths/usherpaths/Level;"⟩ : MethodName)) hown (mvT hZ (hw _ (List.mem_of_getElem? (i := 0) rfl))) (mvT hZ (hw _ (List.mem_of_getElem? (i := 1) rfl))) (mvT hZ (hw _ (List.mem_of_getElem? (i := 2) rfl))) (mvT hZ (hw _ (List.mem_of_getElem? (i := 3) rfl))) (by decide) (own_backOf (W := 0) (rmP l Z a0 hw [] n0 h0 O0 (0 : Int32) w_NONE w_OWNER w_WRITE w_READ FF0 mr MM w_NONE (by simp)) hZ (hw _ (List.mem_of_getElem? (i := 3) rfl)) (hw _ (List.mem_of_getElem? (i := 2) rfl)) (by decide) (by decide)) (g := (mkF m 9 #[.val (.int p0), .val (.int p1), .val (.int (0 : Int32)), .val (.int (0 : Int32)), .unset, .unset, .unset, .unset, .unset] [(.int (0 : Int32))])) rfl (by rw [hml]; rfl) (argsL := [(.int (0 : Int32))]) (rest := []) (lenOf pd0_0 rfl) rfl (by show 2 * 0 + _ ≤ _; exact Nat.le_of_eq rfl) (hb hby at_9) (fun _ _ => ⟨rfl, e0, (by decide : 0 + 0 ≤ _), (by decide : 0 + 0 ≤ _)⟩)
      dsimp only [Pt.U, Pt.locs, Pt.cells, Pt.slots] at X3 l3 y3 z3 st3 hQ3
      subst l3 y3 z3
      obtain ⟨rfl, N3q, e3q⟩ := hQ3
      have N3 := Fr.app N0 N3q
      refine Ends.go st3 ?_
      show Ends p e below s T3 (mkF m 12 #[.val (.int p0), .val (.int p1), .val (.int (0 : Int32)), .val (.int (0 : Int32)), .unset, .unset, .unset, .unset, .unset] [(.ref w_NONE)]) _ _ _
      refine Ends.go (fun _ k => XS.astore X3.here hx rfl (hb hby at_12) rfl rfl (l' := #[.val (.int p0), .val (.int p1), .val (.int (0 : Int32)), .val (.int (0 : Int32)), .val (.ref w_NONE), .unset, .unset, .unset, .unset]) rfl k) ?_
      show Ends p e below s T3 (mkF m 14 #[.val (.int p0), .val (.int p1), .val (.int (0 : Int32)), .val (.int (0 : Int32)), .val (.ref w_NONE), .unset, .unset, .unset, .unset] []) _ _ _
      refine Ends.go (fun _ k => XS.iloadN X3.here hx rfl (hb hby at_14) rfl k) ?_
      show Ends p e below s T3 (mkF m 15 #[.val (.int p0), .val (.int p1), .val (.int (0 : Int32)), .val (.int (0 : Int32)), .val (.ref w_NONE), .unset, .unset, .unset, .unset] [(.int (0 : Int32))]) _ _ _
      obtain ⟨_, _, ⟨T4, L4, k4, n4⟩, -, X4, ⟨Lc4, hQ4, l4, y4, z4⟩, st4⟩ := Jvm.LawKit.callS X3 hx (y := (⟨"com/example/usher_paths/usherpaths/LevelMaxPinLaw", "pick", "(I)Lcom/example/usher_paths/usherpaths/Level;"⟩ : MethodName)) hown (mvT hZ (hw _ (List.mem_of_getElem? (i := 0) rfl))) (mvT hZ (hw _ (List.mem_of_getElem? (i := 1) rfl))) (mvT hZ (hw _ (List.mem_of_getElem? (i := 2) rfl))) (mvT hZ (hw _ (List.mem_of_getElem? (i := 3) rfl))) (by decide) (own_backOf (W := 0) (rmP l Z a0 hw [] n0 h0 O0 (0 : Int32) w_NONE w_OWNER w_WRITE w_READ FF0 mr MM w_NONE (by simp)) hZ (hw _ (List.mem_of_getElem? (i := 3) rfl)) (hw _ (List.mem_of_getElem? (i := 2) rfl)) (by decide) (by decide)) (g := (mkF m 15 #[.val (.int p0), .val (.int p1), .val (.int (0 : Int32)), .val (.int (0 : Int32)), .val (.ref w_NONE), .unset, .unset, .unset, .unset] [(.int (0 : Int32))])) rfl (by rw [hml]; rfl) (argsL := [(.int (0 : Int32))]) (rest := []) (lenOf pd0_0 rfl) rfl (by show 2 * 0 + _ ≤ _; exact Nat.le_of_eq rfl) (hb hby at_15) (fun _ _ => ⟨rfl, e3q, (by decide : 0 + 0 ≤ _), (by decide : 0 + 0 ≤ _)⟩)
      dsimp only [Pt.U, Pt.locs, Pt.cells, Pt.slots] at X4 l4 y4 z4 st4 hQ4
      subst l4 y4 z4
      obtain ⟨rfl, N4q, e4q⟩ := hQ4
      have N4 := Fr.app N3 N4q
      refine Ends.go st4 ?_
      show Ends p e below s T4 (mkF m 18 #[.val (.int p0), .val (.int p1), .val (.int (0 : Int32)), .val (.int (0 : Int32)), .val (.ref w_NONE), .unset, .unset, .unset, .unset] [(.ref w_NONE)]) _ _ _
      refine Ends.go (fun _ k => XS.astore X4.here hx rfl (hb hby at_18) rfl rfl (l' := #[.val (.int p0), .val (.int p1), .val (.int (0 : Int32)), .val (.int (0 : Int32)), .val (.ref w_NONE), .val (.ref w_NONE), .unset, .unset, .unset]) rfl k) ?_
      show Ends p e below s T4 (mkF m 20 #[.val (.int p0), .val (.int p1), .val (.int (0 : Int32)), .val (.int (0 : Int32)), .val (.ref w_NONE), .val (.ref w_NONE), .unset, .unset, .unset] []) _ _ _
      refine Ends.go (fun _ k => XS.iloadN X4.here hx rfl (hb hby at_20) rfl k) ?_
      show Ends p e below s T4 (mkF m 21 #[.val (.int p0), .val (.int p1), .val (.int (0 : Int32)), .val (.int (0 : Int32)), .val (.ref w_NONE), .val (.ref w_NONE), .unset, .unset, .unset] [(.int (0 : Int32))]) _ _ _
      refine Ends.go (fun _ k => XS.iloadN X4.here hx rfl (hb hby at_21) rfl k) ?_
      show Ends p e below s T4 (mkF m 22 #[.val (.int p0), .val (.int p1), .val (.int (0 : Int32)), .val (.int (0 : Int32)), .val (.ref w_NONE), .val (.ref w_NONE), .unset, .unset, .unset] [(.int (0 : Int32)), (.int (0 : Int32))]) _ _ _
      obtain ⟨_, _, ⟨T5, L5, k5, n5⟩, -, X5, ⟨Lc5, hQ5, l5, y5, z5⟩, st5⟩ := Jvm.LawKit.callS X4 hx (y := (⟨"java/lang/Math", "max", "(II)I"⟩ : MethodName)) hown (mvT hZ (hw _ (List.mem_of_getElem? (i := 9) rfl))) (mvT hZ (hw _ (List.mem_of_getElem? (i := 10) rfl))) (mvT hZ (hw _ (List.mem_of_getElem? (i := 11) rfl))) (mvT hZ (hw _ (List.mem_of_getElem? (i := 12) rfl))) (by decide) (own_backOf (W := 0) (rmX l Z a0 hw [] n0 h0 O0 (0 : Int32) (0 : Int32) w_NONE w_OWNER w_WRITE w_READ FF0 mr MM (0 : Int32) (by decide)) hZ (hw _ (List.mem_of_getElem? (i := 12) rfl)) (hw _ (List.mem_of_getElem? (i := 11) rfl)) (by decide) (by decide)) (g := (mkF m 22 #[.val (.int p0), .val (.int p1), .val (.int (0 : Int32)), .val (.int (0 : Int32)), .val (.ref w_NONE), .val (.ref w_NONE), .unset, .unset, .unset] [(.int (0 : Int32)), (.int (0 : Int32))])) rfl (by rw [hml]; rfl) (argsL := [(.int (0 : Int32)), (.int (0 : Int32))]) (rest := []) (lenOf pd0_1 rfl) rfl (by show 2 * 0 + _ ≤ _; exact Nat.le_of_eq rfl) (hb hby at_22) (fun _ _ => ⟨rfl, e4q, (by decide : 0 + 0 ≤ _), (by decide : 0 + 0 ≤ _)⟩)
      dsimp only [Pt.U, Pt.locs, Pt.cells, Pt.slots] at X5 l5 y5 z5 st5 hQ5
      subst l5 y5 z5
      obtain ⟨rfl, N5q, e5q⟩ := hQ5
      have N5 := Fr.app N4 N5q
      refine Ends.go st5 ?_
      show Ends p e below s T5 (mkF m 25 #[.val (.int p0), .val (.int p1), .val (.int (0 : Int32)), .val (.int (0 : Int32)), .val (.ref w_NONE), .val (.ref w_NONE), .unset, .unset, .unset] [(.int (0 : Int32))]) _ _ _
      obtain ⟨_, _, ⟨T6, L6, k6, n6⟩, -, X6, ⟨Lc6, hQ6, l6, y6, z6⟩, st6⟩ := Jvm.LawKit.callS X5 hx (y := (⟨"com/example/usher_paths/usherpaths/LevelMaxPinLaw", "pick", "(I)Lcom/example/usher_paths/usherpaths/Level;"⟩ : MethodName)) hown (mvT hZ (hw _ (List.mem_of_getElem? (i := 0) rfl))) (mvT hZ (hw _ (List.mem_of_getElem? (i := 1) rfl))) (mvT hZ (hw _ (List.mem_of_getElem? (i := 2) rfl))) (mvT hZ (hw _ (List.mem_of_getElem? (i := 3) rfl))) (by decide) (own_backOf (W := 0) (rmP l Z a0 hw [] n0 h0 O0 (0 : Int32) w_NONE w_OWNER w_WRITE w_READ FF0 mr MM w_NONE (by simp)) hZ (hw _ (List.mem_of_getElem? (i := 3) rfl)) (hw _ (List.mem_of_getElem? (i := 2) rfl)) (by decide) (by decide)) (g := (mkF m 25 #[.val (.int p0), .val (.int p1), .val (.int (0 : Int32)), .val (.int (0 : Int32)), .val (.ref w_NONE), .val (.ref w_NONE), .unset, .unset, .unset] [(.int (0 : Int32))])) rfl (by rw [hml]; rfl) (argsL := [(.int (0 : Int32))]) (rest := []) (lenOf pd0_0 rfl) rfl (by show 2 * 0 + _ ≤ _; exact Nat.le_of_eq rfl) (hb hby at_25) (fun _ _ => ⟨rfl, e5q, (by decide : 0 + 0 ≤ _), (by decide : 0 + 0 ≤ _)⟩)
      dsimp only [Pt.U, Pt.locs, Pt.cells, Pt.slots] at X6 l6 y6 z6 st6 hQ6
      subst l6 y6 z6
      obtain ⟨rfl, N6q, e6q⟩ := hQ6
      have N6 := Fr.app N5 N6q
      refine Ends.go st6 ?_
      show Ends p e below s T6 (mkF m 28 #[.val (.int p0), .val (.int p1), .val (.int (0 : Int32)), .val (.int (0 : Int32)), .val (.ref w_NONE), .val (.ref w_NONE), .unset, .unset, .unset] [(.ref w_NONE)]) _ _ _
      refine Ends.go (fun _ k => XS.astore X6.here hx rfl (hb hby at_28) rfl rfl (l' := #[.val (.int p0), .val (.int p1), .val (.int (0 : Int32)), .val (.int (0 : Int32)), .val (.ref w_NONE), .val (.ref w_NONE), .val (.ref w_NONE), .unset, .unset]) rfl k) ?_
      show Ends p e below s T6 (mkF m 30 #[.val (.int p0), .val (.int p1), .val (.int (0 : Int32)), .val (.int (0 : Int32)), .val (.ref w_NONE), .val (.ref w_NONE), .val (.ref w_NONE), .unset, .unset] []) _ _ _
      refine Ends.go (fun _ k => XS.aload X6.here hx rfl (hb hby at_30) rfl rfl k) ?_
      show Ends p e below s T6 (mkF m 32 #[.val (.int p0), .val (.int p1), .val (.int (0 : Int32)), .val (.int (0 : Int32)), .val (.ref w_NONE), .val (.ref w_NONE), .val (.ref w_NONE), .unset, .unset] [(.ref w_NONE)]) _ _ _
      refine Ends.go (fun _ k => XS.aload X6.here hx rfl (hb hby at_32) rfl rfl k) ?_
      show Ends p e below s T6 (mkF m 34 #[.val (.int p0), .val (.int p1), .val (.int (0 : Int32)), .val (.int (0 : Int32)), .val (.ref w_NONE), .val (.ref w_NONE), .val (.ref w_NONE), .unset, .unset] [(.ref w_NONE), (.ref w_NONE)]) _ _ _
      obtain ⟨cq7, kq7, q7a, q7b, q7c⟩ := isOf hZ e6q (E_NONE.ext O0.2)
      obtain ⟨_, _, ⟨T7, L7, k7, n7⟩, -, X7, ⟨Lc7, hQ7, l7, y7, z7⟩, st7⟩ := X6.virtualBack hx (y := (⟨"com/example/usher_paths/usherpaths/Level", "max", "(Lcom/example/usher_paths/usherpaths/Level;)Lcom/example/usher_paths/usherpaths/Level;"⟩ : MethodName)) (z := (⟨"com/example/usher_paths/usherpaths/Level", "max", "(Lcom/example/usher_paths/usherpaths/Level;)Lcom/example/usher_paths/usherpaths/Level;"⟩ : MethodName)) hown (mvT hZ (hw _ (List.mem_of_getElem? (i := 13) rfl))) (mvT hZ (hw _ (List.mem_of_getElem? (i := 14) rfl))) (notFace_of_selects (args := #[]) (mvT hZ (hw _ (List.mem_of_getElem? (i := 16) rfl)))) (mvT hZ (hw _ (List.mem_of_getElem? (i := 16) rfl))) (mvT hZ (hw _ (List.mem_of_getElem? (i := 15) rfl))) (by decide) (own_backOf (W := 0) (rmM l Z a0 hw [] n0 h0 O0 w_NONE w_NONE w_NONE w_OWNER w_WRITE w_READ FF0 mr MM (0 : Int32) F_ordinal_NONE E_NONE (0 : Int32) F_ordinal_NONE E_NONE (1 : Int32) (by decide) w_NONE (by simp)) hZ (hw _ (List.mem_of_getElem? (i := 17) rfl)) (hw _ (List.mem_of_getElem? (i := 5) rfl)) (by decide) (by decide)) q7a q7c (g := (mkF m 34 #[.val (.int p0), .val (.int p1), .val (.int (0 : Int32)), .val (.int (0 : Int32)), .val (.ref w_NONE), .val (.ref w_NONE), .val (.ref w_NONE), .unset, .unset] [(.ref w_NONE), (.ref w_NONE)])) rfl (by rw [hml]; rfl) (Steps.refl _) (argsL := [(.ref w_NONE)]) (rest := []) (lenOf pd0_2 rfl) rfl (by show 2 * 0 + _ ≤ _; exact Nat.le_of_eq rfl) (hb hby at_34) (fun _ _ => ⟨rfl, e6q, (by decide : 0 + 0 ≤ _), (by decide : 0 + 0 ≤ _)⟩)
      dsimp only [Pt.U, Pt.locs, Pt.cells, Pt.slots] at X7 l7 y7 z7 st7 hQ7
      subst l7 y7 z7
      obtain ⟨rfl, N7q, e7q⟩ := hQ7
      have N7 := Fr.app N6 N7q
      refine Ends.go (fun _ k => st7.trans k) ?_
      show Ends p e below s T7 (mkF m 37 #[.val (.int p0), .val (.int p1), .val (.int (0 : Int32)), .val (.int (0 : Int32)), .val (.ref w_NONE), .val (.ref w_NONE), .val (.ref w_NONE), .unset, .unset] [(.ref w_NONE)]) _ _ _
      refine Ends.go (fun _ k => XS.astore X7.here hx rfl (hb hby at_37) rfl rfl (l' := #[.val (.int p0), .val (.int p1), .val (.int (0 : Int32)), .val (.int (0 : Int32)), .val (.ref w_NONE), .val (.ref w_NONE), .val (.ref w_NONE), .val (.ref w_NONE), .unset]) rfl k) ?_
      show Ends p e below s T7 (mkF m 39 #[.val (.int p0), .val (.int p1), .val (.int (0 : Int32)), .val (.int (0 : Int32)), .val (.ref w_NONE), .val (.ref w_NONE), .val (.ref w_NONE), .val (.ref w_NONE), .unset] []) _ _ _
      refine Ends.go (fun _ k => XS.aload X7.here hx rfl (hb hby at_39) rfl rfl k) ?_
      show Ends p e below s T7 (mkF m 41 #[.val (.int p0), .val (.int p1), .val (.int (0 : Int32)), .val (.int (0 : Int32)), .val (.ref w_NONE), .val (.ref w_NONE), .val (.ref w_NONE), .val (.ref w_NONE), .unset] [(.ref w_NONE)]) _ _ _
      refine Ends.go (fun _ k => XS.aload X7.here hx rfl (hb hby at_41) rfl rfl k) ?_
      show Ends p e below s T7 (mkF m 43 #[.val (.int p0), .val (.int p1), .val (.int (0 : Int32)), .val (.int (0 : Int32)), .val (.ref w_NONE), .val (.ref w_NONE), .val (.ref w_NONE), .val (.ref w_NONE), .unset] [(.ref w_NONE), (.ref w_NONE)]) _ _ _
      obtain ⟨cq8, kq8, q8a, q8b, q8c⟩ := isOf hZ e7q (E_NONE.ext O0.2)
      obtain ⟨_, _, ⟨T8, L8, k8, n8⟩, -, X8, ⟨Lc8, hQ8, l8, y8, z8⟩, st8⟩ := X7.virtualBack hx (y := (⟨"com/example/usher_paths/usherpaths/Level", "max", "(Lcom/example/usher_paths/usherpaths/Level;)Lcom/example/usher_paths/usherpaths/Level;"⟩ : MethodName)) (z := (⟨"com/example/usher_paths/usherpaths/Level", "max", "(Lcom/example/usher_paths/usherpaths/Level;)Lcom/example/usher_paths/usherpaths/Level;"⟩ : MethodName)) hown (mvT hZ (hw _ (List.mem_of_getElem? (i := 13) rfl))) (mvT hZ (hw _ (List.mem_of_getElem? (i := 14) rfl))) (notFace_of_selects (args := #[]) (mvT hZ (hw _ (List.mem_of_getElem? (i := 16) rfl)))) (mvT hZ (hw _ (List.mem_of_getElem? (i := 16) rfl))) (mvT hZ (hw _ (List.mem_of_getElem? (i := 15) rfl))) (by decide) (own_backOf (W := 0) (rmM l Z a0 hw [] n0 h0 O0 w_NONE w_NONE w_NONE w_OWNER w_WRITE w_READ FF0 mr MM (0 : Int32) F_ordinal_NONE E_NONE (0 : Int32) F_ordinal_NONE E_NONE (1 : Int32) (by decide) w_NONE (by simp)) hZ (hw _ (List.mem_of_getElem? (i := 17) rfl)) (hw _ (List.mem_of_getElem? (i := 5) rfl)) (by decide) (by decide)) q8a q8c (g := (mkF m 43 #[.val (.int p0), .val (.int p1), .val (.int (0 : Int32)), .val (.int (0 : Int32)), .val (.ref w_NONE), .val (.ref w_NONE), .val (.ref w_NONE), .val (.ref w_NONE), .unset] [(.ref w_NONE), (.ref w_NONE)])) rfl (by rw [hml]; rfl) (Steps.refl _) (argsL := [(.ref w_NONE)]) (rest := []) (lenOf pd0_2 rfl) rfl (by show 2 * 0 + _ ≤ _; exact Nat.le_of_eq rfl) (hb hby at_43) (fun _ _ => ⟨rfl, e7q, (by decide : 0 + 0 ≤ _), (by decide : 0 + 0 ≤ _)⟩)
      dsimp only [Pt.U, Pt.locs, Pt.cells, Pt.slots] at X8 l8 y8 z8 st8 hQ8
      subst l8 y8 z8
      obtain ⟨rfl, N8q, e8q⟩ := hQ8
      have N8 := Fr.app N7 N8q
      refine Ends.go (fun _ k => st8.trans k) ?_
      show Ends p e below s T8 (mkF m 46 #[.val (.int p0), .val (.int p1), .val (.int (0 : Int32)), .val (.int (0 : Int32)), .val (.ref w_NONE), .val (.ref w_NONE), .val (.ref w_NONE), .val (.ref w_NONE), .unset] [(.ref w_NONE)]) _ _ _
      refine Ends.go (fun _ k => XS.astore X8.here hx rfl (hb hby at_46) rfl rfl (l' := #[.val (.int p0), .val (.int p1), .val (.int (0 : Int32)), .val (.int (0 : Int32)), .val (.ref w_NONE), .val (.ref w_NONE), .val (.ref w_NONE), .val (.ref w_NONE), .val (.ref w_NONE)]) rfl k) ?_
      show Ends p e below s T8 (mkF m 48 #[.val (.int p0), .val (.int p1), .val (.int (0 : Int32)), .val (.int (0 : Int32)), .val (.ref w_NONE), .val (.ref w_NONE), .val (.ref w_NONE), .val (.ref w_NONE), .val (.ref w_NONE)] []) _ _ _
      refine Ends.go (fun _ k => XS.aload X8.here hx rfl (hb hby at_48) rfl rfl k) ?_
      show Ends p e below s T8 (mkF m 50 #[.val (.int p0), .val (.int p1), .val (.int (0 : Int32)), .val (.int (0 : Int32)), .val (.ref w_NONE), .val (.ref w_NONE), .val (.ref w_NONE), .val (.ref w_NONE), .val (.ref w_NONE)] [(.ref w_NONE)]) _ _ _
      refine Ends.go (fun _ k => XS.aload X8.here hx rfl (hb hby at_50) rfl rfl k) ?_
      show Ends p e below s T8 (mkF m 52 #[.val (.int p0), .val (.int p1), .val (.int (0 : Int32)), .val (.int (0 : Int32)), .val (.ref w_NONE), .val (.ref w_NONE), .val (.ref w_NONE), .val (.ref w_NONE), .val (.ref w_NONE)] [(.ref w_NONE), (.ref w_NONE)]) _ _ _
      refine Ends.go (fun _ k => Jvm.RoadKit.acmp (g := (mkF m 52 #[.val (.int p0), .val (.int p1), .val (.int (0 : Int32)), .val (.int (0 : Int32)), .val (.ref w_NONE), .val (.ref w_NONE), .val (.ref w_NONE), .val (.ref w_NONE), .val (.ref w_NONE)] [(.ref w_NONE), (.ref w_NONE)])) X8 hx rfl rfl rfl (pc0 := 52) (pc' := 55) (same := true) rfl (hb hby at_52) rfl (decide_eq_true rfl) (by decide) (by decide) k) ?_
      show Ends p e below s T8 (mkF m 55 #[.val (.int p0), .val (.int p1), .val (.int (0 : Int32)), .val (.int (0 : Int32)), .val (.ref w_NONE), .val (.ref w_NONE), .val (.ref w_NONE), .val (.ref w_NONE), .val (.ref w_NONE)] []) _ _ _
      refine Ends.go (fun _ k => XS.aload X8.here hx rfl (hb hby at_55) rfl rfl k) ?_
      show Ends p e below s T8 (mkF m 57 #[.val (.int p0), .val (.int p1), .val (.int (0 : Int32)), .val (.int (0 : Int32)), .val (.ref w_NONE), .val (.ref w_NONE), .val (.ref w_NONE), .val (.ref w_NONE), .val (.ref w_NONE)] [(.ref w_NONE)]) _ _ _
      refine Ends.go (fun _ k => XS.aload X8.here hx rfl (hb hby at_57) rfl rfl k) ?_
      show Ends p e below s T8 (mkF m 59 #[.val (.int p0), .val (.int p1), .val (.int (0 : Int32)), .val (.int (0 : Int32)), .val (.ref w_NONE), .val (.ref w_NONE), .val (.ref w_NONE), .val (.ref w_NONE), .val (.ref w_NONE)] [(.ref w_NONE), (.ref w_NONE)]) _ _ _
      refine Ends.go (fun _ k => Jvm.RoadKit.acmp (g := (mkF m 59 #[.val (.int p0), .val (.int p1), .val (.int (0 : Int32)), .val (.int (0 : Int32)), .val (.ref w_NONE), .val (.ref w_NONE), .val (.ref w_NONE), .val (.ref w_NONE), .val (.ref w_NONE)] [(.ref w_NONE), (.ref w_NONE)])) X8 hx rfl rfl rfl (pc0 := 59) (pc' := 62) (same := true) rfl (hb hby at_59) rfl (decide_eq_true rfl) (by decide) (by decide) k) ?_
      show Ends p e below s T8 (mkF m 62 #[.val (.int p0), .val (.int p1), .val (.int (0 : Int32)), .val (.int (0 : Int32)), .val (.ref w_NONE), .val (.ref w_NONE), .val (.ref w_NONE), .val (.ref w_NONE), .val (.ref w_NONE)] []) _ _ _
      refine Ends.go (fun _ k => XS.iconst X8.here hx rfl (hb hby at_62) k) ?_
      show Ends p e below s T8 (mkF m 63 #[.val (.int p0), .val (.int p1), .val (.int (0 : Int32)), .val (.int (0 : Int32)), .val (.ref w_NONE), .val (.ref w_NONE), .val (.ref w_NONE), .val (.ref w_NONE), .val (.ref w_NONE)] [(.int (1 : Int32))]) _ _ _
      refine Ends.go (fun _ k => XS.goto X8.here hx rfl (pc0 := 63) (pc' := 67) rfl (hb hby at_63) (by decide) (by decide) k) ?_
      show Ends p e below s T8 (mkF m 67 #[.val (.int p0), .val (.int p1), .val (.int (0 : Int32)), .val (.int (0 : Int32)), .val (.ref w_NONE), .val (.ref w_NONE), .val (.ref w_NONE), .val (.ref w_NONE), .val (.ref w_NONE)] [(.int (1 : Int32))]) _ _ _
      refine Ends.retZ X8 hx Bd.notSynchronized (t := .boolean) Bd.returns (by simp) (hb hby at_67) (by decide) (by decide) ?_
      exact ⟨rfl, N8⟩
    · show Ends p e below s s₁ (mkF m 7 #[.val (.int p0), .val (.int p1), .val (.int (0 : Int32)), .unset, .unset, .unset, .unset, .unset, .unset] [(.int (1 : Int32))]) _ _ _
      refine Ends.go (fun _ k => XS.istoreN X0.here hx rfl (hb hby at_7) rfl (l' := #[.val (.int p0), .val (.int p1), .val (.int (0 : Int32)), .val (.int (1 : Int32)), .unset, .unset, .unset, .unset, .unset]) rfl k) ?_
      show Ends p e below s s₁ (mkF m 8 #[.val (.int p0), .val (.int p1), .val (.int (0 : Int32)), .val (.int (1 : Int32)), .unset, .unset, .unset, .unset, .unset] []) _ _ _
      refine Ends.go (fun _ k => XS.iloadN X0.here hx rfl (hb hby at_8) rfl k) ?_
      show Ends p e below s s₁ (mkF m 9 #[.val (.int p0), .val (.int p1), .val (.int (0 : Int32)), .val (.int (1 : Int32)), .unset, .unset, .unset, .unset, .unset] [(.int (0 : Int32))]) _ _ _
      obtain ⟨_, _, ⟨T9, L9, k9, n9⟩, -, X9, ⟨Lc9, hQ9, l9, y9, z9⟩, st9⟩ := Jvm.LawKit.callS X0 hx (y := (⟨"com/example/usher_paths/usherpaths/LevelMaxPinLaw", "pick", "(I)Lcom/example/usher_paths/usherpaths/Level;"⟩ : MethodName)) hown (mvT hZ (hw _ (List.mem_of_getElem? (i := 0) rfl))) (mvT hZ (hw _ (List.mem_of_getElem? (i := 1) rfl))) (mvT hZ (hw _ (List.mem_of_getElem? (i := 2) rfl))) (mvT hZ (hw _ (List.mem_of_getElem? (i := 3) rfl))) (by decide) (own_backOf (W := 0) (rmP l Z a0 hw [] n0 h0 O0 (0 : Int32) w_NONE w_OWNER w_WRITE w_READ FF0 mr MM w_NONE (by simp)) hZ (hw _ (List.mem_of_getElem? (i := 3) rfl)) (hw _ (List.mem_of_getElem? (i := 2) rfl)) (by decide) (by decide)) (g := (mkF m 9 #[.val (.int p0), .val (.int p1), .val (.int (0 : Int32)), .val (.int (1 : Int32)), .unset, .unset, .unset, .unset, .unset] [(.int (0 : Int32))])) rfl (by rw [hml]; rfl) (argsL := [(.int (0 : Int32))]) (rest := []) (lenOf pd0_0 rfl) rfl (by show 2 * 0 + _ ≤ _; exact Nat.le_of_eq rfl) (hb hby at_9) (fun _ _ => ⟨rfl, e0, (by decide : 0 + 0 ≤ _), (by decide : 0 + 0 ≤ _)⟩)
      dsimp only [Pt.U, Pt.locs, Pt.cells, Pt.slots] at X9 l9 y9 z9 st9 hQ9
      subst l9 y9 z9
      obtain ⟨rfl, N9q, e9q⟩ := hQ9
      have N9 := Fr.app N0 N9q
      refine Ends.go st9 ?_
      show Ends p e below s T9 (mkF m 12 #[.val (.int p0), .val (.int p1), .val (.int (0 : Int32)), .val (.int (1 : Int32)), .unset, .unset, .unset, .unset, .unset] [(.ref w_NONE)]) _ _ _
      refine Ends.go (fun _ k => XS.astore X9.here hx rfl (hb hby at_12) rfl rfl (l' := #[.val (.int p0), .val (.int p1), .val (.int (0 : Int32)), .val (.int (1 : Int32)), .val (.ref w_NONE), .unset, .unset, .unset, .unset]) rfl k) ?_
      show Ends p e below s T9 (mkF m 14 #[.val (.int p0), .val (.int p1), .val (.int (0 : Int32)), .val (.int (1 : Int32)), .val (.ref w_NONE), .unset, .unset, .unset, .unset] []) _ _ _
      refine Ends.go (fun _ k => XS.iloadN X9.here hx rfl (hb hby at_14) rfl k) ?_
      show Ends p e below s T9 (mkF m 15 #[.val (.int p0), .val (.int p1), .val (.int (0 : Int32)), .val (.int (1 : Int32)), .val (.ref w_NONE), .unset, .unset, .unset, .unset] [(.int (1 : Int32))]) _ _ _
      obtain ⟨_, _, ⟨T10, L10, k10, n10⟩, -, X10, ⟨Lc10, hQ10, l10, y10, z10⟩, st10⟩ := Jvm.LawKit.callS X9 hx (y := (⟨"com/example/usher_paths/usherpaths/LevelMaxPinLaw", "pick", "(I)Lcom/example/usher_paths/usherpaths/Level;"⟩ : MethodName)) hown (mvT hZ (hw _ (List.mem_of_getElem? (i := 0) rfl))) (mvT hZ (hw _ (List.mem_of_getElem? (i := 1) rfl))) (mvT hZ (hw _ (List.mem_of_getElem? (i := 2) rfl))) (mvT hZ (hw _ (List.mem_of_getElem? (i := 3) rfl))) (by decide) (own_backOf (W := 0) (rmP l Z a0 hw [] n0 h0 O0 (1 : Int32) w_NONE w_OWNER w_WRITE w_READ FF0 mr MM w_READ (by simp)) hZ (hw _ (List.mem_of_getElem? (i := 3) rfl)) (hw _ (List.mem_of_getElem? (i := 2) rfl)) (by decide) (by decide)) (g := (mkF m 15 #[.val (.int p0), .val (.int p1), .val (.int (0 : Int32)), .val (.int (1 : Int32)), .val (.ref w_NONE), .unset, .unset, .unset, .unset] [(.int (1 : Int32))])) rfl (by rw [hml]; rfl) (argsL := [(.int (1 : Int32))]) (rest := []) (lenOf pd0_0 rfl) rfl (by show 2 * 0 + _ ≤ _; exact Nat.le_of_eq rfl) (hb hby at_15) (fun _ _ => ⟨rfl, e9q, (by decide : 0 + 0 ≤ _), (by decide : 0 + 0 ≤ _)⟩)
      dsimp only [Pt.U, Pt.locs, Pt.cells, Pt.slots] at X10 l10 y10 z10 st10 hQ10
      subst l10 y10 z10
      obtain ⟨rfl, N10q, e10q⟩ := hQ10
      have N10 := Fr.app N9 N10q
      refine Ends.go st10 ?_
      show Ends p e below s T10 (mkF m 18 #[.val (.int p0), .val (.int p1), .val (.int (0 : Int32)), .val (.int (1 : Int32)), .val (.ref w_NONE), .unset, .unset, .unset, .unset] [(.ref w_READ)]) _ _ _
      refine Ends.go (fun _ k => XS.astore X10.here hx rfl (hb hby at_18) rfl rfl (l' := #[.val (.int p0), .val (.int p1), .val (.int (0 : Int32)), .val (.int (1 : Int32)), .val (.ref w_NONE), .val (.ref w_READ), .unset, .unset, .unset]) rfl k) ?_
      show Ends p e below s T10 (mkF m 20 #[.val (.int p0), .val (.int p1), .val (.int (0 : Int32)), .val (.int (1 : Int32)), .val (.ref w_NONE), .val (.ref w_READ), .unset, .unset, .unset] []) _ _ _
      refine Ends.go (fun _ k => XS.iloadN X10.here hx rfl (hb hby at_20) rfl k) ?_
      show Ends p e below s T10 (mkF m 21 #[.val (.int p0), .val (.int p1), .val (.int (0 : Int32)), .val (.int (1 : Int32)), .val (.ref w_NONE), .val (.ref w_READ), .unset, .unset, .unset] [(.int (0 : Int32))]) _ _ _
      refine Ends.go (fun _ k => XS.iloadN X10.here hx rfl (hb hby at_21) rfl k) ?_
      show Ends p e below s T10 (mkF m 22 #[.val (.int p0), .val (.int p1), .val (.int (0 : Int32)), .val (.int (1 : Int32)), .val (.ref w_NONE), .val (.ref w_READ), .unset, .unset, .unset] [(.int (1 : Int32)), (.int (0 : Int32))]) _ _ _
      obtain ⟨_, _, ⟨T11, L11, k11, n11⟩, -, X11, ⟨Lc11, hQ11, l11, y11, z11⟩, st11⟩ := Jvm.LawKit.callS X10 hx (y := (⟨"java/lang/Math", "max", "(II)I"⟩ : MethodName)) hown (mvT hZ (hw _ (List.mem_of_getElem? (i := 9) rfl))) (mvT hZ (hw _ (List.mem_of_getElem? (i := 10) rfl))) (mvT hZ (hw _ (List.mem_of_getElem? (i := 11) rfl))) (mvT hZ (hw _ (List.mem_of_getElem? (i := 12) rfl))) (by decide) (own_backOf (W := 0) (rmX l Z a0 hw [] n0 h0 O0 (0 : Int32) (1 : Int32) w_NONE w_OWNER w_WRITE w_READ FF0 mr MM (1 : Int32) (by decide)) hZ (hw _ (List.mem_of_getElem? (i := 12) rfl)) (hw _ (List.mem_of_getElem? (i := 11) rfl)) (by decide) (by decide)) (g := (mkF m 22 #[.val (.int p0), .val (.int p1), .val (.int (0 : Int32)), .val (.int (1 : Int32)), .val (.ref w_NONE), .val (.ref w_READ), .unset, .unset, .unset] [(.int (1 : Int32)), (.int (0 : Int32))])) rfl (by rw [hml]; rfl) (argsL := [(.int (0 : Int32)), (.int (1 : Int32))]) (rest := []) (lenOf pd0_1 rfl) rfl (by show 2 * 0 + _ ≤ _; exact Nat.le_of_eq rfl) (hb hby at_22) (fun _ _ => ⟨rfl, e10q, (by decide : 0 + 0 ≤ _), (by decide : 0 + 0 ≤ _)⟩)
      dsimp only [Pt.U, Pt.locs, Pt.cells, Pt.slots] at X11 l11 y11 z11 st11 hQ11
      subst l11 y11 z11
      obtain ⟨rfl, N11q, e11q⟩ := hQ11
      have N11 := Fr.app N10 N11q
      refine Ends.go st11 ?_
      show Ends p e below s T11 (mkF m 25 #[.val (.int p0), .val (.int p1), .val (.int (0 : Int32)), .val (.int (1 : Int32)), .val (.ref w_NONE), .val (.ref w_READ), .unset, .unset, .unset] [(.int (1 : Int32))]) _ _ _
      obtain ⟨_, _, ⟨T12, L12, k12, n12⟩, -, X12, ⟨Lc12, hQ12, l12, y12, z12⟩, st12⟩ := Jvm.LawKit.callS X11 hx (y := (⟨"com/example/usher_paths/usherpaths/LevelMaxPinLaw", "pick", "(I)Lcom/example/usher_paths/usherpaths/Level;"⟩ : MethodName)) hown (mvT hZ (hw _ (List.mem_of_getElem? (i := 0) rfl))) (mvT hZ (hw _ (List.mem_of_getElem? (i := 1) rfl))) (mvT hZ (hw _ (List.mem_of_getElem? (i := 2) rfl))) (mvT hZ (hw _ (List.mem_of_getElem? (i := 3) rfl))) (by decide) (own_backOf (W := 0) (rmP l Z a0 hw [] n0 h0 O0 (1 : Int32) w_NONE w_OWNER w_WRITE w_READ FF0 mr MM w_READ (by simp)) hZ (hw _ (List.mem_of_getElem? (i := 3) rfl)) (hw _ (List.mem_of_getElem? (i := 2) rfl)) (by decide) (by decide)) (g := (mkF m 25 #[.val (.int p0), .val (.int p1), .val (.int (0 : Int32)), .val (.int (1 : Int32)), .val (.ref w_NONE), .val (.ref w_READ), .unset, .unset, .unset] [(.int (1 : Int32))])) rfl (by rw [hml]; rfl) (argsL := [(.int (1 : Int32))]) (rest := []) (lenOf pd0_0 rfl) rfl (by show 2 * 0 + _ ≤ _; exact Nat.le_of_eq rfl) (hb hby at_25) (fun _ _ => ⟨rfl, e11q, (by decide : 0 + 0 ≤ _), (by decide : 0 + 0 ≤ _)⟩)
      dsimp only [Pt.U, Pt.locs, Pt.cells, Pt.slots] at X12 l12 y12 z12 st12 hQ12
      subst l12 y12 z12
      obtain ⟨rfl, N12q, e12q⟩ := hQ12
      have N12 := Fr.app N11 N12q
      refine Ends.go st12 ?_
      show Ends p e below s T12 (mkF m 28 #[.val (.int p0), .val (.int p1), .val (.int (0 : Int32)), .val (.int (1 : Int32)), .val (.ref w_NONE), .val (.ref w_READ), .unset, .unset, .unset] [(.ref w_READ)]) _ _ _
      refine Ends.go (fun _ k => XS.astore X12.here hx rfl (hb hby at_28) rfl rfl (l' := #[.val (.int p0), .val (.int p1), .val (.int (0 : Int32)), .val (.int (1 : Int32)), .val (.ref w_NONE), .val (.ref w_READ), .val (.ref w_READ), .unset, .unset]) rfl k) ?_
      show Ends p e below s T12 (mkF m 30 #[.val (.int p0), .val (.int p1), .val (.int (0 : Int32)), .val (.int (1 : Int32)), .val (.ref w_NONE), .val (.ref w_READ), .val (.ref w_READ), .unset, .unset] []) _ _ _
      refine Ends.go (fun _ k => XS.aload X12.here hx rfl (hb hby at_30) rfl rfl k) ?_
      show Ends p e below s T12 (mkF m 32 #[.val (.int p0), .val (.int p1), .val (.int (0 : Int32)), .val (.int (1 : Int32)), .val (.ref w_NONE), .val (.ref w_READ), .val (.ref w_READ), .unset, .unset] [(.ref w_NONE)]) _ _ _
      refine Ends.go (fun _ k => XS.aload X12.here hx rfl (hb hby at_32) rfl rfl k) ?_
      show Ends p e below s T12 (mkF m 34 #[.val (.int p0), .val (.int p1), .val (.int (0 : Int32)), .val (.int (1 : Int32)), .val (.ref w_NONE), .val (.ref w_READ), .val (.ref w_READ), .unset, .unset] [(.ref w_READ), (.ref w_NONE)]) _ _ _
      obtain ⟨cq13, kq13, q13a, q13b, q13c⟩ := isOf hZ e12q (E_NONE.ext O0.2)
      obtain ⟨_, _, ⟨T13, L13, k13, n13⟩, -, X13, ⟨Lc13, hQ13, l13, y13, z13⟩, st13⟩ := X12.virtualBack hx (y := (⟨"com/example/usher_paths/usherpaths/Level", "max", "(Lcom/example/usher_paths/usherpaths/Level;)Lcom/example/usher_paths/usherpaths/Level;"⟩ : MethodName)) (z := (⟨"com/example/usher_paths/usherpaths/Level", "max", "(Lcom/example/usher_paths/usherpaths/Level;)Lcom/example/usher_paths/usherpaths/Level;"⟩ : MethodName)) hown (mvT hZ (hw _ (List.mem_of_getElem? (i := 13) rfl))) (mvT hZ (hw _ (List.mem_of_getElem? (i := 14) rfl))) (notFace_of_selects (args := #[]) (mvT hZ (hw _ (List.mem_of_getElem? (i := 16) rfl)))) (mvT hZ (hw _ (List.mem_of_getElem? (i := 16) rfl))) (mvT hZ (hw _ (List.mem_of_getElem? (i := 15) rfl))) (by decide) (own_backOf (W := 0) (rmM l Z a0 hw [] n0 h0 O0 w_NONE w_READ w_NONE w_OWNER w_WRITE w_READ FF0 mr MM (0 : Int32) F_ordinal_NONE E_NONE (1 : Int32) F_ordinal_READ E_READ (0 : Int32) (by decide) w_READ (by simp)) hZ (hw _ (List.mem_of_getElem? (i := 17) rfl)) (hw _ (List.mem_of_getElem? (i := 5) rfl)) (by decide) (by decide)) q13a q13c (g := (mkF m 34 #[.val (.int p0), .val (.int p1), .val (.int (0 : Int32)), .val (.int (1 : Int32)), .val (.ref w_NONE), .val (.ref w_READ), .val (.ref w_READ), .unset, .unset] [(.ref w_READ), (.ref w_NONE)])) rfl (by rw [hml]; rfl) (Steps.refl _) (argsL := [(.ref w_READ)]) (rest := []) (lenOf pd0_2 rfl) rfl (by show 2 * 0 + _ ≤ _; exact Nat.le_of_eq rfl) (hb hby at_34) (fun _ _ => ⟨rfl, e12q, (by decide : 0 + 0 ≤ _), (by decide : 0 + 0 ≤ _)⟩)
      dsimp only [Pt.U, Pt.locs, Pt.cells, Pt.slots] at X13 l13 y13 z13 st13 hQ13
      subst l13 y13 z13
      obtain ⟨rfl, N13q, e13q⟩ := hQ13
      have N13 := Fr.app N12 N13q
      refine Ends.go (fun _ k => st13.trans k) ?_
      show Ends p e below s T13 (mkF m 37 #[.val (.int p0), .val (.int p1), .val (.int (0 : Int32)), .val (.int (1 : Int32)), .val (.ref w_NONE), .val (.ref w_READ), .val (.ref w_READ), .unset, .unset] [(.ref w_READ)]) _ _ _
      refine Ends.go (fun _ k => XS.astore X13.here hx rfl (hb hby at_37) rfl rfl (l' := #[.val (.int p0), .val (.int p1), .val (.int (0 : Int32)), .val (.int (1 : Int32)), .val (.ref w_NONE), .val (.ref w_READ), .val (.ref w_READ), .val (.ref w_READ), .unset]) rfl k) ?_
      show Ends p e below s T13 (mkF m 39 #[.val (.int p0), .val (.int p1), .val (.int (0 : Int32)), .val (.int (1 : Int32)), .val (.ref w_NONE), .val (.ref w_READ), .val (.ref w_READ), .val (.ref w_READ), .unset] []) _ _ _
      refine Ends.go (fun _ k => XS.aload X13.here hx rfl (hb hby at_39) rfl rfl k) ?_
      show Ends p e below s T13 (mkF m 41 #[.val (.int p0), .val (.int p1), .val (.int (0 : Int32)), .val (.int (1 : Int32)), .val (.ref w_NONE), .val (.ref w_READ), .val (.ref w_READ), .val (.ref w_READ), .unset] [(.ref w_READ)]) _ _ _
      refine Ends.go (fun _ k => XS.aload X13.here hx rfl (hb hby at_41) rfl rfl k) ?_
      show Ends p e below s T13 (mkF m 43 #[.val (.int p0), .val (.int p1), .val (.int (0 : Int32)), .val (.int (1 : Int32)), .val (.ref w_NONE), .val (.ref w_READ), .val (.ref w_READ), .val (.ref w_READ), .unset] [(.ref w_NONE), (.ref w_READ)]) _ _ _
      obtain ⟨cq14, kq14, q14a, q14b, q14c⟩ := isOf hZ e13q (E_READ.ext O0.2)
      obtain ⟨_, _, ⟨T14, L14, k14, n14⟩, -, X14, ⟨Lc14, hQ14, l14, y14, z14⟩, st14⟩ := X13.virtualBack hx (y := (⟨"com/example/usher_paths/usherpaths/Level", "max", "(Lcom/example/usher_paths/usherpaths/Level;)Lcom/example/usher_paths/usherpaths/Level;"⟩ : MethodName)) (z := (⟨"com/example/usher_paths/usherpaths/Level", "max", "(Lcom/example/usher_paths/usherpaths/Level;)Lcom/example/usher_paths/usherpaths/Level;"⟩ : MethodName)) hown (mvT hZ (hw _ (List.mem_of_getElem? (i := 13) rfl))) (mvT hZ (hw _ (List.mem_of_getElem? (i := 14) rfl))) (notFace_of_selects (args := #[]) (mvT hZ (hw _ (List.mem_of_getElem? (i := 16) rfl)))) (mvT hZ (hw _ (List.mem_of_getElem? (i := 16) rfl))) (mvT hZ (hw _ (List.mem_of_getElem? (i := 15) rfl))) (by decide) (own_backOf (W := 0) (rmM l Z a0 hw [] n0 h0 O0 w_READ w_NONE w_NONE w_OWNER w_WRITE w_READ FF0 mr MM (1 : Int32) F_ordinal_READ E_READ (0 : Int32) F_ordinal_NONE E_NONE (1 : Int32) (by decide) w_READ (by simp)) hZ (hw _ (List.mem_of_getElem? (i := 17) rfl)) (hw _ (List.mem_of_getElem? (i := 5) rfl)) (by decide) (by decide)) q14a q14c (g := (mkF m 43 #[.val (.int p0), .val (.int p1), .val (.int (0 : Int32)), .val (.int (1 : Int32)), .val (.ref w_NONE), .val (.ref w_READ), .val (.ref w_READ), .val (.ref w_READ), .unset] [(.ref w_NONE), (.ref w_READ)])) rfl (by rw [hml]; rfl) (Steps.refl _) (argsL := [(.ref w_NONE)]) (rest := []) (lenOf pd0_2 rfl) rfl (by show 2 * 0 + _ ≤ _; exact Nat.le_of_eq rfl) (hb hby at_43) (fun _ _ => ⟨rfl, e13q, (by decide : 0 + 0 ≤ _), (by decide : 0 + 0 ≤ _)⟩)
      dsimp only [Pt.U, Pt.locs, Pt.cells, Pt.slots] at X14 l14 y14 z14 st14 hQ14
      subst l14 y14 z14
      obtain ⟨rfl, N14q, e14q⟩ := hQ14
      have N14 := Fr.app N13 N14q
      refine Ends.go (fun _ k => st14.trans k) ?_
      show Ends p e below s T14 (mkF m 46 #[.val (.int p0), .val (.int p1), .val (.int (0 : Int32)), .val (.int (1 : Int32)), .val (.ref w_NONE), .val (.ref w_READ), .val (.ref w_READ), .val (.ref w_READ), .unset] [(.ref w_READ)]) _ _ _
      refine Ends.go (fun _ k => XS.astore X14.here hx rfl (hb hby at_46) rfl rfl (l' := #[.val (.int p0), .val (.int p1), .val (.int (0 : Int32)), .val (.int (1 : Int32)), .val (.ref w_NONE), .val (.ref w_READ), .val (.ref w_READ), .val (.ref w_READ), .val (.ref w_READ)]) rfl k) ?_
      show Ends p e below s T14 (mkF m 48 #[.val (.int p0), .val (.int p1), .val (.int (0 : Int32)), .val (.int (1 : Int32)), .val (.ref w_NONE), .val (.ref w_READ), .val (.ref w_READ), .val (.ref w_READ), .val (.ref w_READ)] []) _ _ _
      refine Ends.go (fun _ k => XS.aload X14.here hx rfl (hb hby at_48) rfl rfl k) ?_
      show Ends p e below s T14 (mkF m 50 #[.val (.int p0), .val (.int p1), .val (.int (0 : Int32)), .val (.int (1 : Int32)), .val (.ref w_NONE), .val (.ref w_READ), .val (.ref w_READ), .val (.ref w_READ), .val (.ref w_READ)] [(.ref w_READ)]) _ _ _
      refine Ends.go (fun _ k => XS.aload X14.here hx rfl (hb hby at_50) rfl rfl k) ?_
      show Ends p e below s T14 (mkF m 52 #[.val (.int p0), .val (.int p1), .val (.int (0 : Int32)), .val (.int (1 : Int32)), .val (.ref w_NONE), .val (.ref w_READ), .val (.ref w_READ), .val (.ref w_READ), .val (.ref w_READ)] [(.ref w_READ), (.ref w_READ)]) _ _ _
      refine Ends.go (fun _ k => Jvm.RoadKit.acmp (g := (mkF m 52 #[.val (.int p0), .val (.int p1), .val (.int (0 : Int32)), .val (.int (1 : Int32)), .val (.ref w_NONE), .val (.ref w_READ), .val (.ref w_READ), .val (.ref w_READ), .val (.ref w_READ)] [(.ref w_READ), (.ref w_READ)])) X14 hx rfl rfl rfl (pc0 := 52) (pc' := 55) (same := true) rfl (hb hby at_52) rfl (decide_eq_true rfl) (by decide) (by decide) k) ?_
      show Ends p e below s T14 (mkF m 55 #[.val (.int p0), .val (.int p1), .val (.int (0 : Int32)), .val (.int (1 : Int32)), .val (.ref w_NONE), .val (.ref w_READ), .val (.ref w_READ), .val (.ref w_READ), .val (.ref w_READ)] []) _ _ _
      refine Ends.go (fun _ k => XS.aload X14.here hx rfl (hb hby at_55) rfl rfl k) ?_
      show Ends p e below s T14 (mkF m 57 #[.val (.int p0), .val (.int p1), .val (.int (0 : Int32)), .val (.int (1 : Int32)), .val (.ref w_NONE), .val (.ref w_READ), .val (.ref w_READ), .val (.ref w_READ), .val (.ref w_READ)] [(.ref w_READ)]) _ _ _
      refine Ends.go (fun _ k => XS.aload X14.here hx rfl (hb hby at_57) rfl rfl k) ?_
      show Ends p e below s T14 (mkF m 59 #[.val (.int p0), .val (.int p1), .val (.int (0 : Int32)), .val (.int (1 : Int32)), .val (.ref w_NONE), .val (.ref w_READ), .val (.ref w_READ), .val (.ref w_READ), .val (.ref w_READ)] [(.ref w_READ), (.ref w_READ)]) _ _ _
      refine Ends.go (fun _ k => Jvm.RoadKit.acmp (g := (mkF m 59 #[.val (.int p0), .val (.int p1), .val (.int (0 : Int32)), .val (.int (1 : Int32)), .val (.ref w_NONE), .val (.ref w_READ), .val (.ref w_READ), .val (.ref w_READ), .val (.ref w_READ)] [(.ref w_READ), (.ref w_READ)])) X14 hx rfl rfl rfl (pc0 := 59) (pc' := 62) (same := true) rfl (hb hby at_59) rfl (decide_eq_true rfl) (by decide) (by decide) k) ?_
      show Ends p e below s T14 (mkF m 62 #[.val (.int p0), .val (.int p1), .val (.int (0 : Int32)), .val (.int (1 : Int32)), .val (.ref w_NONE), .val (.ref w_READ), .val (.ref w_READ), .val (.ref w_READ), .val (.ref w_READ)] []) _ _ _
      refine Ends.go (fun _ k => XS.iconst X14.here hx rfl (hb hby at_62) k) ?_
      show Ends p e below s T14 (mkF m 63 #[.val (.int p0), .val (.int p1), .val (.int (0 : Int32)), .val (.int (1 : Int32)), .val (.ref w_NONE), .val (.ref w_READ), .val (.ref w_READ), .val (.ref w_READ), .val (.ref w_READ)] [(.int (1 : Int32))]) _ _ _
      refine Ends.go (fun _ k => XS.goto X14.here hx rfl (pc0 := 63) (pc' := 67) rfl (hb hby at_63) (by decide) (by decide) k) ?_
      show Ends p e below s T14 (mkF m 67 #[.val (.int p0), .val (.int p1), .val (.int (0 : Int32)), .val (.int (1 : Int32)), .val (.ref w_NONE), .val (.ref w_READ), .val (.ref w_READ), .val (.ref w_READ), .val (.ref w_READ)] [(.int (1 : Int32))]) _ _ _
      refine Ends.retZ X14 hx Bd.notSynchronized (t := .boolean) Bd.returns (by simp) (hb hby at_67) (by decide) (by decide) ?_
      exact ⟨rfl, N14⟩
    · show Ends p e below s s₁ (mkF m 7 #[.val (.int p0), .val (.int p1), .val (.int (0 : Int32)), .unset, .unset, .unset, .unset, .unset, .unset] [(.int (2 : Int32))]) _ _ _
      refine Ends.go (fun _ k => XS.istoreN X0.here hx rfl (hb hby at_7) rfl (l' := #[.val (.int p0), .val (.int p1), .val (.int (0 : Int32)), .val (.int (2 : Int32)), .unset, .unset, .unset, .unset, .unset]) rfl k) ?_
      show Ends p e below s s₁ (mkF m 8 #[.val (.int p0), .val (.int p1), .val (.int (0 : Int32)), .val (.int (2 : Int32)), .unset, .unset, .unset, .unset, .unset] []) _ _ _
      refine Ends.go (fun _ k => XS.iloadN X0.here hx rfl (hb hby at_8) rfl k) ?_
      show Ends p e below s s₁ (mkF m 9 #[.val (.int p0), .val (.int p1), .val (.int (0 : Int32)), .val (.int (2 : Int32)), .unset, .unset, .unset, .unset, .unset] [(.int (0 : Int32))]) _ _ _
      obtain ⟨_, _, ⟨T15, L15, k15, n15⟩, -, X15, ⟨Lc15, hQ15, l15, y15, z15⟩, st15⟩ := Jvm.LawKit.callS X0 hx (y := (⟨"com/example/usher_paths/usherpaths/LevelMaxPinLaw", "pick", "(I)Lcom/example/usher_paths/usherpaths/Level;"⟩ : MethodName)) hown (mvT hZ (hw _ (List.mem_of_getElem? (i := 0) rfl))) (mvT hZ (hw _ (List.mem_of_getElem? (i := 1) rfl))) (mvT hZ (hw _ (List.mem_of_getElem? (i := 2) rfl))) (mvT hZ (hw _ (List.mem_of_getElem? (i := 3) rfl))) (by decide) (own_backOf (W := 0) (rmP l Z a0 hw [] n0 h0 O0 (0 : Int32) w_NONE w_OWNER w_WRITE w_READ FF0 mr MM w_NONE (by simp)) hZ (hw _ (List.mem_of_getElem? (i := 3) rfl)) (hw _ (List.mem_of_getElem? (i := 2) rfl)) (by decide) (by decide)) (g := (mkF m 9 #[.val (.int p0), .val (.int p1), .val (.int (0 : Int32)), .val (.int (2 : Int32)), .unset, .unset, .unset, .unset, .unset] [(.int (0 : Int32))])) rfl (by rw [hml]; rfl) (argsL := [(.int (0 : Int32))]) (rest := []) (lenOf pd0_0 rfl) rfl (by show 2 * 0 + _ ≤ _; exact Nat.le_of_eq rfl) (hb hby at_9) (fun _ _ => ⟨rfl, e0, (by decide : 0 + 0 ≤ _), (by decide : 0 + 0 ≤ _)⟩)
      dsimp only [Pt.U, Pt.locs, Pt.cells, Pt.slots] at X15 l15 y15 z15 st15 hQ15
      subst l15 y15 z15
      obtain ⟨rfl, N15q, e15q⟩ := hQ15
      have N15 := Fr.app N0 N15q
      refine Ends.go st15 ?_
      show Ends p e below s T15 (mkF m 12 #[.val (.int p0), .val (.int p1), .val (.int (0 : Int32)), .val (.int (2 : Int32)), .unset, .unset, .unset, .unset, .unset] [(.ref w_NONE)]) _ _ _
      refine Ends.go (fun _ k => XS.astore X15.here hx rfl (hb hby at_12) rfl rfl (l' := #[.val (.int p0), .val (.int p1), .val (.int (0 : Int32)), .val (.int (2 : Int32)), .val (.ref w_NONE), .unset, .unset, .unset, .unset]) rfl k) ?_
      show Ends p e below s T15 (mkF m 14 #[.val (.int p0), .val (.int p1), .val (.int (0 : Int32)), .val (.int (2 : Int32)), .val (.ref w_NONE), .unset, .unset, .unset, .unset] []) _ _ _
      refine Ends.go (fun _ k => XS.iloadN X15.here hx rfl (hb hby at_14) rfl k) ?_
      show Ends p e below s T15 (mkF m 15 #[.val (.int p0), .val (.int p1), .val (.int (0 : Int32)), .val (.int (2 : Int32)), .val (.ref w_NONE), .unset, .unset, .unset, .unset] [(.int (2 : Int32))]) _ _ _
      obtain ⟨_, _, ⟨T16, L16, k16, n16⟩, -, X16, ⟨Lc16, hQ16, l16, y16, z16⟩, st16⟩ := Jvm.LawKit.callS X15 hx (y := (⟨"com/example/usher_paths/usherpaths/LevelMaxPinLaw", "pick", "(I)Lcom/example/usher_paths/usherpaths/Level;"⟩ : MethodName)) hown (mvT hZ (hw _ (List.mem_of_getElem? (i := 0) rfl))) (mvT hZ (hw _ (List.mem_of_getElem? (i := 1) rfl))) (mvT hZ (hw _ (List.mem_of_getElem? (i := 2) rfl))) (mvT hZ (hw _ (List.mem_of_getElem? (i := 3) rfl))) (by decide) (own_backOf (W := 0) (rmP l Z a0 hw [] n0 h0 O0 (2 : Int32) w_NONE w_OWNER w_WRITE w_READ FF0 mr MM w_WRITE (by simp)) hZ (hw _ (List.mem_of_getElem? (i := 3) rfl)) (hw _ (List.mem_of_getElem? (i := 2) rfl)) (by decide) (by decide)) (g := (mkF m 15 #[.val (.int p0), .val (.int p1), .val (.int (0 : Int32)), .val (.int (2 : Int32)), .val (.ref w_NONE), .unset, .unset, .unset, .unset] [(.int (2 : Int32))])) rfl (by rw [hml]; rfl) (argsL := [(.int (2 : Int32))]) (rest := []) (lenOf pd0_0 rfl) rfl (by show 2 * 0 + _ ≤ _; exact Nat.le_of_eq rfl) (hb hby at_15) (fun _ _ => ⟨rfl, e15q, (by decide : 0 + 0 ≤ _), (by decide : 0 + 0 ≤ _)⟩)
      dsimp only [Pt.U, Pt.locs, Pt.cells, Pt.slots] at X16 l16 y16 z16 st16 hQ16
      subst l16 y16 z16
      obtain ⟨rfl, N16q, e16q⟩ := hQ16
      have N16 := Fr.app N15 N16q
      refine Ends.go st16 ?_
      show Ends p e below s T16 (mkF m 18 #[.val (.int p0), .val (.int p1), .val (.int (0 : Int32)), .val (.int (2 : Int32)), .val (.ref w_NONE), .unset, .unset, .unset, .unset] [(.ref w_WRITE)]) _ _ _
      refine Ends.go (fun _ k => XS.astore X16.here hx rfl (hb hby at_18) rfl rfl (l' := #[.val (.int p0), .val (.int p1), .val (.int (0 : Int32)), .val (.int (2 : Int32)), .val (.ref w_NONE), .val (.ref w_WRITE), .unset, .unset, .unset]) rfl k) ?_
      show Ends p e below s T16 (mkF m 20 #[.val (.int p0), .val (.int p1), .val (.int (0 : Int32)), .val (.int (2 : Int32)), .val (.ref w_NONE), .val (.ref w_WRITE), .unset, .unset, .unset] []) _ _ _
      refine Ends.go (fun _ k => XS.iloadN X16.here hx rfl (hb hby at_20) rfl k) ?_
      show Ends p e below s T16 (mkF m 21 #[.val (.int p0), .val (.int p1), .val (.int (0 : Int32)), .val (.int (2 : Int32)), .val (.ref w_NONE), .val (.ref w_WRITE), .unset, .unset, .unset] [(.int (0 : Int32))]) _ _ _
      refine Ends.go (fun _ k => XS.iloadN X16.here hx rfl (hb hby at_21) rfl k) ?_
      show Ends p e below s T16 (mkF m 22 #[.val (.int p0), .val (.int p1), .val (.int (0 : Int32)), .val (.int (2 : Int32)), .val (.ref w_NONE), .val (.ref w_WRITE), .unset, .unset, .unset] [(.int (2 : Int32)), (.int (0 : Int32))]) _ _ _
      obtain ⟨_, _, ⟨T17, L17, k17, n17⟩, -, X17, ⟨Lc17, hQ17, l17, y17, z17⟩, st17⟩ := Jvm.LawKit.callS X16 hx (y := (⟨"java/lang/Math", "max", "(II)I"⟩ : MethodName)) hown (mvT hZ (hw _ (List.mem_of_getElem? (i := 9) rfl))) (mvT hZ (hw _ (List.mem_of_getElem? (i := 10) rfl))) (mvT hZ (hw _ (List.mem_of_getElem? (i := 11) rfl))) (mvT hZ (hw _ (List.mem_of_getElem? (i := 12) rfl))) (by decide) (own_backOf (W := 0) (rmX l Z a0 hw [] n0 h0 O0 (0 : Int32) (2 : Int32) w_NONE w_OWNER w_WRITE w_READ FF0 mr MM (2 : Int32) (by decide)) hZ (hw _ (List.mem_of_getElem? (i := 12) rfl)) (hw _ (List.mem_of_getElem? (i := 11) rfl)) (by decide) (by decide)) (g := (mkF m 22 #[.val (.int p0), .val (.int p1), .val (.int (0 : Int32)), .val (.int (2 : Int32)), .val (.ref w_NONE), .val (.ref w_WRITE), .unset, .unset, .unset] [(.int (2 : Int32)), (.int (0 : Int32))])) rfl (by rw [hml]; rfl) (argsL := [(.int (0 : Int32)), (.int (2 : Int32))]) (rest := []) (lenOf pd0_1 rfl) rfl (by show 2 * 0 + _ ≤ _; exact Nat.le_of_eq rfl) (hb hby at_22) (fun _ _ => ⟨rfl, e16q, (by decide : 0 + 0 ≤ _), (by decide : 0 + 0 ≤ _)⟩)
      dsimp only [Pt.U, Pt.locs, Pt.cells, Pt.slots] at X17 l17 y17 z17 st17 hQ17
      subst l17 y17 z17
      obtain ⟨rfl, N17q, e17q⟩ := hQ17
      have N17 := Fr.app N16 N17q
      refine Ends.go st17 ?_
      show Ends p e below s T17 (mkF m 25 #[.val (.int p0), .val (.int p1), .val (.int (0 : Int32)), .val (.int (2 : Int32)), .val (.ref w_NONE), .val (.ref w_WRITE), .unset, .unset, .unset] [(.int (2 : Int32))]) _ _ _
      obtain ⟨_, _, ⟨T18, L18, k18, n18⟩, -, X18, ⟨Lc18, hQ18, l18, y18, z18⟩, st18⟩ := Jvm.LawKit.callS X17 hx (y := (⟨"com/example/usher_paths/usherpaths/LevelMaxPinLaw", "pick", "(I)Lcom/example/usher_paths/usherpaths/Level;"⟩ : MethodName)) hown (mvT hZ (hw _ (List.mem_of_getElem? (i := 0) rfl))) (mvT hZ (hw _ (List.mem_of_getElem? (i := 1) rfl))) (mvT hZ (hw _ (List.mem_of_getElem? (i := 2) rfl))) (mvT hZ (hw _ (List.mem_of_getElem? (i := 3) rfl))) (by decide) (own_backOf (W := 0) (rmP l Z a0 hw [] n0 h0 O0 (2 : Int32) w_NONE w_OWNER w_WRITE w_READ FF0 mr MM w_WRITE (by simp)) hZ (hw _ (List.mem_of_getElem? (i := 3) rfl)) (hw _ (List.mem_of_getElem? (i := 2) rfl)) (by decide) (by decide)) (g := (mkF m 25 #[.val (.int p0), .val (.int p1), .val (.int (0 : Int32)), .val (.int (2 : Int32)), .val (.ref w_NONE), .val (.ref w_WRITE), .unset, .unset, .unset] [(.int (2 : Int32))])) rfl (by rw [hml]; rfl) (argsL := [(.int (2 : Int32))]) (rest := []) (lenOf pd0_0 rfl) rfl (by show 2 * 0 + _ ≤ _; exact Nat.le_of_eq rfl) (hb hby at_25) (fun _ _ => ⟨rfl, e17q, (by decide : 0 + 0 ≤ _), (by decide : 0 + 0 ≤ _)⟩)
      dsimp only [Pt.U, Pt.locs, Pt.cells, Pt.slots] at X18 l18 y18 z18 st18 hQ18
      subst l18 y18 z18
      obtain ⟨rfl, N18q, e18q⟩ := hQ18
      have N18 := Fr.app N17 N18q
      refine Ends.go st18 ?_
      show Ends p e below s T18 (mkF m 28 #[.val (.int p0), .val (.int p1), .val (.int (0 : Int32)), .val (.int (2 : Int32)), .val (.ref w_NONE), .val (.ref w_WRITE), .unset, .unset, .unset] [(.ref w_WRITE)]) _ _ _
      refine Ends.go (fun _ k => XS.astore X18.here hx rfl (hb hby at_28) rfl rfl (l' := #[.val (.int p0), .val (.int p1), .val (.int (0 : Int32)), .val (.int (2 : Int32)), .val (.ref w_NONE), .val (.ref w_WRITE), .val (.ref w_WRITE), .unset, .unset]) rfl k) ?_
      show Ends p e below s T18 (mkF m 30 #[.val (.int p0), .val (.int p1), .val (.int (0 : Int32)), .val (.int (2 : Int32)), .val (.ref w_NONE), .val (.ref w_WRITE), .val (.ref w_WRITE), .unset, .unset] []) _ _ _
      refine Ends.go (fun _ k => XS.aload X18.here hx rfl (hb hby at_30) rfl rfl k) ?_
      show Ends p e below s T18 (mkF m 32 #[.val (.int p0), .val (.int p1), .val (.int (0 : Int32)), .val (.int (2 : Int32)), .val (.ref w_NONE), .val (.ref w_WRITE), .val (.ref w_WRITE), .unset, .unset] [(.ref w_NONE)]) _ _ _
      refine Ends.go (fun _ k => XS.aload X18.here hx rfl (hb hby at_32) rfl rfl k) ?_
      show Ends p e below s T18 (mkF m 34 #[.val (.int p0), .val (.int p1), .val (.int (0 : Int32)), .val (.int (2 : Int32)), .val (.ref w_NONE), .val (.ref w_WRITE), .val (.ref w_WRITE), .unset, .unset] [(.ref w_WRITE), (.ref w_NONE)]) _ _ _
      obtain ⟨cq19, kq19, q19a, q19b, q19c⟩ := isOf hZ e18q (E_NONE.ext O0.2)
      obtain ⟨_, _, ⟨T19, L19, k19, n19⟩, -, X19, ⟨Lc19, hQ19, l19, y19, z19⟩, st19⟩ := X18.virtualBack hx (y := (⟨"com/example/usher_paths/usherpaths/Level", "max", "(Lcom/example/usher_paths/usherpaths/Level;)Lcom/example/usher_paths/usherpaths/Level;"⟩ : MethodName)) (z := (⟨"com/example/usher_paths/usherpaths/Level", "max", "(Lcom/example/usher_paths/usherpaths/Level;)Lcom/example/usher_paths/usherpaths/Level;"⟩ : MethodName)) hown (mvT hZ (hw _ (List.mem_of_getElem? (i := 13) rfl))) (mvT hZ (hw _ (List.mem_of_getElem? (i := 14) rfl))) (notFace_of_selects (args := #[]) (mvT hZ (hw _ (List.mem_of_getElem? (i := 16) rfl)))) (mvT hZ (hw _ (List.mem_of_getElem? (i := 16) rfl))) (mvT hZ (hw _ (List.mem_of_getElem? (i := 15) rfl))) (by decide) (own_backOf (W := 0) (rmM l Z a0 hw [] n0 h0 O0 w_NONE w_WRITE w_NONE w_OWNER w_WRITE w_READ FF0 mr MM (0 : Int32) F_ordinal_NONE E_NONE (2 : Int32) F_ordinal_WRITE E_WRITE (0 : Int32) (by decide) w_WRITE (by simp)) hZ (hw _ (List.mem_of_getElem? (i := 17) rfl)) (hw _ (List.mem_of_getElem? (i := 5) rfl)) (by decide) (by decide)) q19a q19c (g := (mkF m 34 #[.val (.int p0), .val (.int p1), .val (.int (0 : Int32)), .val (.int (2 : Int32)), .val (.ref w_NONE), .val (.ref w_WRITE), .val (.ref w_WRITE), .unset, .unset] [(.ref w_WRITE), (.ref w_NONE)])) rfl (by rw [hml]; rfl) (Steps.refl _) (argsL := [(.ref w_WRITE)]) (rest := []) (lenOf pd0_2 rfl) rfl (by show 2 * 0 + _ ≤ _; exact Nat.le_of_eq rfl) (hb hby at_34) (fun _ _ => ⟨rfl, e18q, (by decide : 0 + 0 ≤ _), (by decide : 0 + 0 ≤ _)⟩)
      dsimp only [Pt.U, Pt.locs, Pt.cells, Pt.slots] at X19 l19 y19 z19 st19 hQ19
      subst l19 y19 z19
      obtain ⟨rfl, N19q, e19q⟩ := hQ19
      have N19 := Fr.app N18 N19q
      refine Ends.go (fun _ k => st19.trans k) ?_
      show Ends p e below s T19 (mkF m 37 #[.val (.int p0), .val (.int p1), .val (.int (0 : Int32)), .val (.int (2 : Int32)), .val (.ref w_NONE), .val (.ref w_WRITE), .val (.ref w_WRITE), .unset, .unset] [(.ref w_WRITE)]) _ _ _
      refine Ends.go (fun _ k => XS.astore X19.here hx rfl (hb hby at_37) rfl rfl (l' := #[.val (.int p0), .val (.int p1), .val (.int (0 : Int32)), .val (.int (2 : Int32)), .val (.ref w_NONE), .val (.ref w_WRITE), .val (.ref w_WRITE), .val (.ref w_WRITE), .unset]) rfl k) ?_
      show Ends p e below s T19 (mkF m 39 #[.val (.int p0), .val (.int p1), .val (.int (0 : Int32)), .val (.int (2 : Int32)), .val (.ref w_NONE), .val (.ref w_WRITE), .val (.ref w_WRITE), .val (.ref w_WRITE), .unset] []) _ _ _
      refine Ends.go (fun _ k => XS.aload X19.here hx rfl (hb hby at_39) rfl rfl k) ?_
      show Ends p e below s T19 (mkF m 41 #[.val (.int p0), .val (.int p1), .val (.int (0 : Int32)), .val (.int (2 : Int32)), .val (.ref w_NONE), .val (.ref w_WRITE), .val (.ref w_WRITE), .val (.ref w_WRITE), .unset] [(.ref w_WRITE)]) _ _ _
      refine Ends.go (fun _ k => XS.aload X19.here hx rfl (hb hby at_41) rfl rfl k) ?_
      show Ends p e below s T19 (mkF m 43 #[.val (.int p0), .val (.int p1), .val (.int (0 : Int32)), .val (.int (2 : Int32)), .val (.ref w_NONE), .val (.ref w_WRITE), .val (.ref w_WRITE), .val (.ref w_WRITE), .unset] [(.ref w_NONE), (.ref w_WRITE)]) _ _ _
      obtain ⟨cq20, kq20, q20a, q20b, q20c⟩ := isOf hZ e19q (E_WRITE.ext O0.2)
      obtain ⟨_, _, ⟨T20, L20, k20, n20⟩, -, X20, ⟨Lc20, hQ20, l20, y20, z20⟩, st20⟩ := X19.virtualBack hx (y := (⟨"com/example/usher_paths/usherpaths/Level", "max", "(Lcom/example/usher_paths/usherpaths/Level;)Lcom/example/usher_paths/usherpaths/Level;"⟩ : MethodName)) (z := (⟨"com/example/usher_paths/usherpaths/Level", "max", "(Lcom/example/usher_paths/usherpaths/Level;)Lcom/example/usher_paths/usherpaths/Level;"⟩ : MethodName)) hown (mvT hZ (hw _ (List.mem_of_getElem? (i := 13) rfl))) (mvT hZ (hw _ (List.mem_of_getElem? (i := 14) rfl))) (notFace_of_selects (args := #[]) (mvT hZ (hw _ (List.mem_of_getElem? (i := 16) rfl)))) (mvT hZ (hw _ (List.mem_of_getElem? (i := 16) rfl))) (mvT hZ (hw _ (List.mem_of_getElem? (i := 15) rfl))) (by decide) (own_backOf (W := 0) (rmM l Z a0 hw [] n0 h0 O0 w_WRITE w_NONE w_NONE w_OWNER w_WRITE w_READ FF0 mr MM (2 : Int32) F_ordinal_WRITE E_WRITE (0 : Int32) F_ordinal_NONE E_NONE (1 : Int32) (by decide) w_WRITE (by simp)) hZ (hw _ (List.mem_of_getElem? (i := 17) rfl)) (hw _ (List.mem_of_getElem? (i := 5) rfl)) (by decide) (by decide)) q20a q20c (g := (mkF m 43 #[.val (.int p0), .val (.int p1), .val (.int (0 : Int32)), .val (.int (2 : Int32)), .val (.ref w_NONE), .val (.ref w_WRITE), .val (.ref w_WRITE), .val (.ref w_WRITE), .unset] [(.ref w_NONE), (.ref w_WRITE)])) rfl (by rw [hml]; rfl) (Steps.refl _) (argsL := [(.ref w_NONE)]) (rest := []) (lenOf pd0_2 rfl) rfl (by show 2 * 0 + _ ≤ _; exact Nat.le_of_eq rfl) (hb hby at_43) (fun _ _ => ⟨rfl, e19q, (by decide : 0 + 0 ≤ _), (by decide : 0 + 0 ≤ _)⟩)
      dsimp only [Pt.U, Pt.locs, Pt.cells, Pt.slots] at X20 l20 y20 z20 st20 hQ20
      subst l20 y20 z20
      obtain ⟨rfl, N20q, e20q⟩ := hQ20
      have N20 := Fr.app N19 N20q
      refine Ends.go (fun _ k => st20.trans k) ?_
      show Ends p e below s T20 (mkF m 46 #[.val (.int p0), .val (.int p1), .val (.int (0 : Int32)), .val (.int (2 : Int32)), .val (.ref w_NONE), .val (.ref w_WRITE), .val (.ref w_WRITE), .val (.ref w_WRITE), .unset] [(.ref w_WRITE)]) _ _ _
      refine Ends.go (fun _ k => XS.astore X20.here hx rfl (hb hby at_46) rfl rfl (l' := #[.val (.int p0), .val (.int p1), .val (.int (0 : Int32)), .val (.int (2 : Int32)), .val (.ref w_NONE), .val (.ref w_WRITE), .val (.ref w_WRITE), .val (.ref w_WRITE), .val (.ref w_WRITE)]) rfl k) ?_
      show Ends p e below s T20 (mkF m 48 #[.val (.int p0), .val (.int p1), .val (.int (0 : Int32)), .val (.int (2 : Int32)), .val (.ref w_NONE), .val (.ref w_WRITE), .val (.ref w_WRITE), .val (.ref w_WRITE), .val (.ref w_WRITE)] []) _ _ _
      refine Ends.go (fun _ k => XS.aload X20.here hx rfl (hb hby at_48) rfl rfl k) ?_
      show Ends p e below s T20 (mkF m 50 #[.val (.int p0), .val (.int p1), .val (.int (0 : Int32)), .val (.int (2 : Int32)), .val (.ref w_NONE), .val (.ref w_WRITE), .val (.ref w_WRITE), .val (.ref w_WRITE), .val (.ref w_WRITE)] [(.ref w_WRITE)]) _ _ _
      refine Ends.go (fun _ k => XS.aload X20.here hx rfl (hb hby at_50) rfl rfl k) ?_
      show Ends p e below s T20 (mkF m 52 #[.val (.int p0), .val (.int p1), .val (.int (0 : Int32)), .val (.int (2 : Int32)), .val (.ref w_NONE), .val (.ref w_WRITE), .val (.ref w_WRITE), .val (.ref w_WRITE), .val (.ref w_WRITE)] [(.ref w_WRITE), (.ref w_WRITE)]) _ _ _
      refine Ends.go (fun _ k => Jvm.RoadKit.acmp (g := (mkF m 52 #[.val (.int p0), .val (.int p1), .val (.int (0 : Int32)), .val (.int (2 : Int32)), .val (.ref w_NONE), .val (.ref w_WRITE), .val (.ref w_WRITE), .val (.ref w_WRITE), .val (.ref w_WRITE)] [(.ref w_WRITE), (.ref w_WRITE)])) X20 hx rfl rfl rfl (pc0 := 52) (pc' := 55) (same := true) rfl (hb hby at_52) rfl (decide_eq_true rfl) (by decide) (by decide) k) ?_
      show Ends p e below s T20 (mkF m 55 #[.val (.int p0), .val (.int p1), .val (.int (0 : Int32)), .val (.int (2 : Int32)), .val (.ref w_NONE), .val (.ref w_WRITE), .val (.ref w_WRITE), .val (.ref w_WRITE), .val (.ref w_WRITE)] []) _ _ _
      refine Ends.go (fun _ k => XS.aload X20.here hx rfl (hb hby at_55) rfl rfl k) ?_
      show Ends p e below s T20 (mkF m 57 #[.val (.int p0), .val (.int p1), .val (.int (0 : Int32)), .val (.int (2 : Int32)), .val (.ref w_NONE), .val (.ref w_WRITE), .val (.ref w_WRITE), .val (.ref w_WRITE), .val (.ref w_WRITE)] [(.ref w_WRITE)]) _ _ _
      refine Ends.go (fun _ k => XS.aload X20.here hx rfl (hb hby at_57) rfl rfl k) ?_
      show Ends p e below s T20 (mkF m 59 #[.val (.int p0), .val (.int p1), .val (.int (0 : Int32)), .val (.int (2 : Int32)), .val (.ref w_NONE), .val (.ref w_WRITE), .val (.ref w_WRITE), .val (.ref w_WRITE), .val (.ref w_WRITE)] [(.ref w_WRITE), (.ref w_WRITE)]) _ _ _
      refine Ends.go (fun _ k => Jvm.RoadKit.acmp (g := (mkF m 59 #[.val (.int p0), .val (.int p1), .val (.int (0 : Int32)), .val (.int (2 : Int32)), .val (.ref w_NONE), .val (.ref w_WRITE), .val (.ref w_WRITE), .val (.ref w_WRITE), .val (.ref w_WRITE)] [(.ref w_WRITE), (.ref w_WRITE)])) X20 hx rfl rfl rfl (pc0 := 59) (pc' := 62) (same := true) rfl (hb hby at_59) rfl (decide_eq_true rfl) (by decide) (by decide) k) ?_
      show Ends p e below s T20 (mkF m 62 #[.val (.int p0), .val (.int p1), .val (.int (0 : Int32)), .val (.int (2 : Int32)), .val (.ref w_NONE), .val (.ref w_WRITE), .val (.ref w_WRITE), .val (.ref w_WRITE), .val (.ref w_WRITE)] []) _ _ _
      refine Ends.go (fun _ k => XS.iconst X20.here hx rfl (hb hby at_62) k) ?_
      show Ends p e below s T20 (mkF m 63 #[.val (.int p0), .val (.int p1), .val (.int (0 : Int32)), .val (.int (2 : Int32)), .val (.ref w_NONE), .val (.ref w_WRITE), .val (.ref w_WRITE), .val (.ref w_WRITE), .val (.ref w_WRITE)] [(.int (1 : Int32))]) _ _ _
      refine Ends.go (fun _ k => XS.goto X20.here hx rfl (pc0 := 63) (pc' := 67) rfl (hb hby at_63) (by decide) (by decide) k) ?_
      show Ends p e below s T20 (mkF m 67 #[.val (.int p0), .val (.int p1), .val (.int (0 : Int32)), .val (.int (2 : Int32)), .val (.ref w_NONE), .val (.ref w_WRITE), .val (.ref w_WRITE), .val (.ref w_WRITE), .val (.ref w_WRITE)] [(.int (1 : Int32))]) _ _ _
      refine Ends.retZ X20 hx Bd.notSynchronized (t := .boolean) Bd.returns (by simp) (hb hby at_67) (by decide) (by decide) ?_
      exact ⟨rfl, N20⟩
    · show Ends p e below s s₁ (mkF m 7 #[.val (.int p0), .val (.int p1), .val (.int (0 : Int32)), .unset, .unset, .unset, .unset, .unset, .unset] [(.int (3 : Int32))]) _ _ _
      refine Ends.go (fun _ k => XS.istoreN X0.here hx rfl (hb hby at_7) rfl (l' := #[.val (.int p0), .val (.int p1), .val (.int (0 : Int32)), .val (.int (3 : Int32)), .unset, .unset, .unset, .unset, .unset]) rfl k) ?_
      show Ends p e below s s₁ (mkF m 8 #[.val (.int p0), .val (.int p1), .val (.int (0 : Int32)), .val (.int (3 : Int32)), .unset, .unset, .unset, .unset, .unset] []) _ _ _
      refine Ends.go (fun _ k => XS.iloadN X0.here hx rfl (hb hby at_8) rfl k) ?_
      show Ends p e below s s₁ (mkF m 9 #[.val (.int p0), .val (.int p1), .val (.int (0 : Int32)), .val (.int (3 : Int32)), .unset, .unset, .unset, .unset, .unset] [(.int (0 : Int32))]) _ _ _
      obtain ⟨_, _, ⟨T21, L21, k21, n21⟩, -, X21, ⟨Lc21, hQ21, l21, y21, z21⟩, st21⟩ := Jvm.LawKit.callS X0 hx (y := (⟨"com/example/usher_paths/usherpaths/LevelMaxPinLaw", "pick", "(I)Lcom/example/usher_paths/usherpaths/Level;"⟩ : MethodName)) hown (mvT hZ (hw _ (List.mem_of_getElem? (i := 0) rfl))) (mvT hZ (hw _ (List.mem_of_getElem? (i := 1) rfl))) (mvT hZ (hw _ (List.mem_of_getElem? (i := 2) rfl))) (mvT hZ (hw _ (List.mem_of_getElem? (i := 3) rfl))) (by decide) (own_backOf (W := 0) (rmP l Z a0 hw [] n0 h0 O0 (0 : Int32) w_NONE w_OWNER w_WRITE w_READ FF0 mr MM w_NONE (by simp)) hZ (hw _ (List.mem_of_getElem? (i := 3) rfl)) (hw _ (List.mem_of_getElem? (i := 2) rfl)) (by decide) (by decide)) (g := (mkF m 9 #[.val (.int p0), .val (.int p1), .val (.int (0 : Int32)), .val (.int (3 : Int32)), .unset, .unset, .unset, .unset, .unset] [(.int (0 : Int32))])) rfl (by rw [hml]; rfl) (argsL := [(.int (0 : Int32))]) (rest := []) (lenOf pd0_0 rfl) rfl (by show 2 * 0 + _ ≤ _; exact Nat.le_of_eq rfl) (hb hby at_9) (fun _ _ => ⟨rfl, e0, (by decide : 0 + 0 ≤ _), (by decide : 0 + 0 ≤ _)⟩)
      dsimp only [Pt.U, Pt.locs, Pt.cells, Pt.slots] at X21 l21 y21 z21 st21 hQ21
      subst l21 y21 z21
      obtain ⟨rfl, N21q, e21q⟩ := hQ21
      have N21 := Fr.app N0 N21q
      refine Ends.go st21 ?_
      show Ends p e below s T21 (mkF m 12 #[.val (.int p0), .val (.int p1), .val (.int (0 : Int32)), .val (.int (3 : Int32)), .unset, .unset, .unset, .unset, .unset] [(.ref w_NONE)]) _ _ _
      refine Ends.go (fun _ k => XS.astore X21.here hx rfl (hb hby at_12) rfl rfl (l' := #[.val (.int p0), .val (.int p1), .val (.int (0 : Int32)), .val (.int (3 : Int32)), .val (.ref w_NONE), .unset, .unset, .unset, .unset]) rfl k) ?_
      show Ends p e below s T21 (mkF m 14 #[.val (.int p0), .val (.int p1), .val (.int (0 : Int32)), .val (.int (3 : Int32)), .val (.ref w_NONE), .unset, .unset, .unset, .unset] []) _ _ _
      refine Ends.go (fun _ k => XS.iloadN X21.here hx rfl (hb hby at_14) rfl k) ?_
      show Ends p e below s T21 (mkF m 15 #[.val (.int p0), .val (.int p1), .val (.int (0 : Int32)), .val (.int (3 : Int32)), .val (.ref w_NONE), .unset, .unset, .unset, .unset] [(.int (3 : Int32))]) _ _ _
      obtain ⟨_, _, ⟨T22, L22, k22, n22⟩, -, X22, ⟨Lc22, hQ22, l22, y22, z22⟩, st22⟩ := Jvm.LawKit.callS X21 hx (y := (⟨"com/example/usher_paths/usherpaths/LevelMaxPinLaw", "pick", "(I)Lcom/example/usher_paths/usherpaths/Level;"⟩ : MethodName)) hown (mvT hZ (hw _ (List.mem_of_getElem? (i := 0) rfl))) (mvT hZ (hw _ (List.mem_of_getElem? (i := 1) rfl))) (mvT hZ (hw _ (List.mem_of_getElem? (i := 2) rfl))) (mvT hZ (hw _ (List.mem_of_getElem? (i := 3) rfl))) (by decide) (own_backOf (W := 0) (rmP l Z a0 hw [] n0 h0 O0 (3 : Int32) w_NONE w_OWNER w_WRITE w_READ FF0 mr MM w_OWNER (by simp)) hZ (hw _ (List.mem_of_getElem? (i := 3) rfl)) (hw _ (List.mem_of_getElem? (i := 2) rfl)) (by decide) (by decide)) (g := (mkF m 15 #[.val (.int p0), .val (.int p1), .val (.int (0 : Int32)), .val (.int (3 : Int32)), .val (.ref w_NONE), .unset, .unset, .unset, .unset] [(.int (3 : Int32))])) rfl (by rw [hml]; rfl) (argsL := [(.int (3 : Int32))]) (rest := []) (lenOf pd0_0 rfl) rfl (by show 2 * 0 + _ ≤ _; exact Nat.le_of_eq rfl) (hb hby at_15) (fun _ _ => ⟨rfl, e21q, (by decide : 0 + 0 ≤ _), (by decide : 0 + 0 ≤ _)⟩)
      dsimp only [Pt.U, Pt.locs, Pt.cells, Pt.slots] at X22 l22 y22 z22 st22 hQ22
      subst l22 y22 z22
      obtain ⟨rfl, N22q, e22q⟩ := hQ22
      have N22 := Fr.app N21 N22q
      refine Ends.go st22 ?_
      show Ends p e below s T22 (mkF m 18 #[.val (.int p0), .val (.int p1), .val (.int (0 : Int32)), .val (.int (3 : Int32)), .val (.ref w_NONE), .unset, .unset, .unset, .unset] [(.ref w_OWNER)]) _ _ _
      refine Ends.go (fun _ k => XS.astore X22.here hx rfl (hb hby at_18) rfl rfl (l' := #[.val (.int p0), .val (.int p1), .val (.int (0 : Int32)), .val (.int (3 : Int32)), .val (.ref w_NONE), .val (.ref w_OWNER), .unset, .unset, .unset]) rfl k) ?_
      show Ends p e below s T22 (mkF m 20 #[.val (.int p0), .val (.int p1), .val (.int (0 : Int32)), .val (.int (3 : Int32)), .val (.ref w_NONE), .val (.ref w_OWNER), .unset, .unset, .unset] []) _ _ _
      refine Ends.go (fun _ k => XS.iloadN X22.here hx rfl (hb hby at_20) rfl k) ?_
      show Ends p e below s T22 (mkF m 21 #[.val (.int p0), .val (.int p1), .val (.int (0 : Int32)), .val (.int (3 : Int32)), .val (.ref w_NONE), .val (.ref w_OWNER), .unset, .unset, .unset] [(.int (0 : Int32))]) _ _ _
      refine Ends.go (fun _ k => XS.iloadN X22.here hx rfl (hb hby at_21) rfl k) ?_
      show Ends p e below s T22 (mkF m 22 #[.val (.int p0), .val (.int p1), .val (.int (0 : Int32)), .val (.int (3 : Int32)), .val (.ref w_NONE), .val (.ref w_OWNER), .unset, .unset, .unset] [(.int (3 : Int32)), (.int (0 : Int32))]) _ _ _
      obtain ⟨_, _, ⟨T23, L23, k23, n23⟩, -, X23, ⟨Lc23, hQ23, l23, y23, z23⟩, st23⟩ := Jvm.LawKit.callS X22 hx (y := (⟨"java/lang/Math", "max", "(II)I"⟩ : MethodName)) hown (mvT hZ (hw _ (List.mem_of_getElem? (i := 9) rfl))) (mvT hZ (hw _ (List.mem_of_getElem? (i := 10) rfl))) (mvT hZ (hw _ (List.mem_of_getElem? (i := 11) rfl))) (mvT hZ (hw _ (List.mem_of_getElem? (i := 12) rfl))) (by decide) (own_backOf (W := 0) (rmX l Z a0 hw [] n0 h0 O0 (0 : Int32) (3 : Int32) w_NONE w_OWNER w_WRITE w_READ FF0 mr MM (3 : Int32) (by decide)) hZ (hw _ (List.mem_of_getElem? (i := 12) rfl)) (hw _ (List.mem_of_getElem? (i := 11) rfl)) (by decide) (by decide)) (g := (mkF m 22 #[.val (.int p0), .val (.int p1), .val (.int (0 : Int32)), .val (.int (3 : Int32)), .val (.ref w_NONE), .val (.ref w_OWNER), .unset, .unset, .unset] [(.int (3 : Int32)), (.int (0 : Int32))])) rfl (by rw [hml]; rfl) (argsL := [(.int (0 : Int32)), (.int (3 : Int32))]) (rest := []) (lenOf pd0_1 rfl) rfl (by show 2 * 0 + _ ≤ _; exact Nat.le_of_eq rfl) (hb hby at_22) (fun _ _ => ⟨rfl, e22q, (by decide : 0 + 0 ≤ _), (by decide : 0 + 0 ≤ _)⟩)
      dsimp only [Pt.U, Pt.locs, Pt.cells, Pt.slots] at X23 l23 y23 z23 st23 hQ23
      subst l23 y23 z23
      obtain ⟨rfl, N23q, e23q⟩ := hQ23
      have N23 := Fr.app N22 N23q
      refine Ends.go st23 ?_
      show Ends p e below s T23 (mkF m 25 #[.val (.int p0), .val (.int p1), .val (.int (0 : Int32)), .val (.int (3 : Int32)), .val (.ref w_NONE), .val (.ref w_OWNER), .unset, .unset, .unset] [(.int (3 : Int32))]) _ _ _
      obtain ⟨_, _, ⟨T24, L24, k24, n24⟩, -, X24, ⟨Lc24, hQ24, l24, y24, z24⟩, st24⟩ := Jvm.LawKit.callS X23 hx (y := (⟨"com/example/usher_paths/usherpaths/LevelMaxPinLaw", "pick", "(I)Lcom/example/usher_paths/usherpaths/Level;"⟩ : MethodName)) hown (mvT hZ (hw _ (List.mem_of_getElem? (i := 0) rfl))) (mvT hZ (hw _ (List.mem_of_getElem? (i := 1) rfl))) (mvT hZ (hw _ (List.mem_of_getElem? (i := 2) rfl))) (mvT hZ (hw _ (List.mem_of_getElem? (i := 3) rfl))) (by decide) (own_backOf (W := 0) (rmP l Z a0 hw [] n0 h0 O0 (3 : Int32) w_NONE w_OWNER w_WRITE w_READ FF0 mr MM w_OWNER (by simp)) hZ (hw _ (List.mem_of_getElem? (i := 3) rfl)) (hw _ (List.mem_of_getElem? (i := 2) rfl)) (by decide) (by decide)) (g := (mkF m 25 #[.val (.int p0), .val (.int p1), .val (.int (0 : Int32)), .val (.int (3 : Int32)), .val (.ref w_NONE), .val (.ref w_OWNER), .unset, .unset, .unset] [(.int (3 : Int32))])) rfl (by rw [hml]; rfl) (argsL := [(.int (3 : Int32))]) (rest := []) (lenOf pd0_0 rfl) rfl (by show 2 * 0 + _ ≤ _; exact Nat.le_of_eq rfl) (hb hby at_25) (fun _ _ => ⟨rfl, e23q, (by decide : 0 + 0 ≤ _), (by decide : 0 + 0 ≤ _)⟩)
      dsimp only [Pt.U, Pt.locs, Pt.cells, Pt.slots] at X24 l24 y24 z24 st24 hQ24
      subst l24 y24 z24
      obtain ⟨rfl, N24q, e24q⟩ := hQ24
      have N24 := Fr.app N23 N24q
      refine Ends.go st24 ?_
      show Ends p e below s T24 (mkF m 28 #[.val (.int p0), .val (.int p1), .val (.int (0 : Int32)), .val (.int (3 : Int32)), .val (.ref w_NONE), .val (.ref w_OWNER), .unset, .unset, .unset] [(.ref w_OWNER)]) _ _ _
      refine Ends.go (fun _ k => XS.astore X24.here hx rfl (hb hby at_28) rfl rfl (l' := #[.val (.int p0), .val (.int p1), .val (.int (0 : Int32)), .val (.int (3 : Int32)), .val (.ref w_NONE), .val (.ref w_OWNER), .val (.ref w_OWNER), .unset, .unset]) rfl k) ?_
      show Ends p e below s T24 (mkF m 30 #[.val (.int p0), .val (.int p1), .val (.int (0 : Int32)), .val (.int (3 : Int32)), .val (.ref w_NONE), .val (.ref w_OWNER), .val (.ref w_OWNER), .unset, .unset] []) _ _ _
      refine Ends.go (fun _ k => XS.aload X24.here hx rfl (hb hby at_30) rfl rfl k) ?_
      show Ends p e below s T24 (mkF m 32 #[.val (.int p0), .val (.int p1), .val (.int (0 : Int32)), .val (.int (3 : Int32)), .val (.ref w_NONE), .val (.ref w_OWNER), .val (.ref w_OWNER), .unset, .unset] [(.ref w_NONE)]) _ _ _
      refine Ends.go (fun _ k => XS.aload X24.here hx rfl (hb hby at_32) rfl rfl k) ?_
      show Ends p e below s T24 (mkF m 34 #[.val (.int p0), .val (.int p1), .val (.int (0 : Int32)), .val (.int (3 : Int32)), .val (.ref w_NONE), .val (.ref w_OWNER), .val (.ref w_OWNER), .unset, .unset] [(.ref w_OWNER), (.ref w_NONE)]) _ _ _
      obtain ⟨cq25, kq25, q25a, q25b, q25c⟩ := isOf hZ e24q (E_NONE.ext O0.2)
      obtain ⟨_, _, ⟨T25, L25, k25, n25⟩, -, X25, ⟨Lc25, hQ25, l25, y25, z25⟩, st25⟩ := X24.virtualBack hx (y := (⟨"com/example/usher_paths/usherpaths/Level", "max", "(Lcom/example/usher_paths/usherpaths/Level;)Lcom/example/usher_paths/usherpaths/Level;"⟩ : MethodName)) (z := (⟨"com/example/usher_paths/usherpaths/Level", "max", "(Lcom/example/usher_paths/usherpaths/Level;)Lcom/example/usher_paths/usherpaths/Level;"⟩ : MethodName)) hown (mvT hZ (hw _ (List.mem_of_getElem? (i := 13) rfl))) (mvT hZ (hw _ (List.mem_of_getElem? (i := 14) rfl))) (notFace_of_selects (args := #[]) (mvT hZ (hw _ (List.mem_of_getElem? (i := 16) rfl)))) (mvT hZ (hw _ (List.mem_of_getElem? (i := 16) rfl))) (mvT hZ (hw _ (List.mem_of_getElem? (i := 15) rfl))) (by decide) (own_backOf (W := 0) (rmM l Z a0 hw [] n0 h0 O0 w_NONE w_OWNER w_NONE w_OWNER w_WRITE w_READ FF0 mr MM (0 : Int32) F_ordinal_NONE E_NONE (3 : Int32) F_ordinal_OWNER E_OWNER (0 : Int32) (by decide) w_OWNER (by simp)) hZ (hw _ (List.mem_of_getElem? (i := 17) rfl)) (hw _ (List.mem_of_getElem? (i := 5) rfl)) (by decide) (by decide)) q25a q25c (g := (mkF m 34 #[.val (.int p0), .val (.int p1), .val (.int (0 : Int32)), .val (.int (3 : Int32)), .val (.ref w_NONE), .val (.ref w_OWNER), .val (.ref w_OWNER), .unset, .unset] [(.ref w_OWNER), (.ref w_NONE)])) rfl (by rw [hml]; rfl) (Steps.refl _) (argsL := [(.ref w_OWNER)]) (rest := []) (lenOf pd0_2 rfl) rfl (by show 2 * 0 + _ ≤ _; exact Nat.le_of_eq rfl) (hb hby at_34) (fun _ _ => ⟨rfl, e24q, (by decide : 0 + 0 ≤ _), (by decide : 0 + 0 ≤ _)⟩)
      dsimp only [Pt.U, Pt.locs, Pt.cells, Pt.slots] at X25 l25 y25 z25 st25 hQ25
      subst l25 y25 z25
      obtain ⟨rfl, N25q, e25q⟩ := hQ25
      have N25 := Fr.app N24 N25q
      refine Ends.go (fun _ k => st25.trans k) ?_
      show Ends p e below s T25 (mkF m 37 #[.val (.int p0), .val (.int p1), .val (.int (0 : Int32)), .val (.int (3 : Int32)), .val (.ref w_NONE), .val (.ref w_OWNER), .val (.ref w_OWNER), .unset, .unset] [(.ref w_OWNER)]) _ _ _
      refine Ends.go (fun _ k => XS.astore X25.here hx rfl (hb hby at_37) rfl rfl (l' := #[.val (.int p0), .val (.int p1), .val (.int (0 : Int32)), .val (.int (3 : Int32)), .val (.ref w_NONE), .val (.ref w_OWNER), .val (.ref w_OWNER), .val (.ref w_OWNER), .unset]) rfl k) ?_
      show Ends p e below s T25 (mkF m 39 #[.val (.int p0), .val (.int p1), .val (.int (0 : Int32)), .val (.int (3 : Int32)), .val (.ref w_NONE), .val (.ref w_OWNER), .val (.ref w_OWNER), .val (.ref w_OWNER), .unset] []) _ _ _
      refine Ends.go (fun _ k => XS.aload X25.here hx rfl (hb hby at_39) rfl rfl k) ?_
      show Ends p e below s T25 (mkF m 41 #[.val (.int p0), .val (.int p1), .val (.int (0 : Int32)), .val (.int (3 : Int32)), .val (.ref w_NONE), .val (.ref w_OWNER), .val (.ref w_OWNER), .val (.ref w_OWNER), .unset] [(.ref w_OWNER)]) _ _ _
      refine Ends.go (fun _ k => XS.aload X25.here hx rfl (hb hby at_41) rfl rfl k) ?_
      show Ends p e below s T25 (mkF m 43 #[.val (.int p0), .val (.int p1), .val (.int (0 : Int32)), .val (.int (3 : Int32)), .val (.ref w_NONE), .val (.ref w_OWNER), .val (.ref w_OWNER), .val (.ref w_OWNER), .unset] [(.ref w_NONE), (.ref w_OWNER)]) _ _ _
      obtain ⟨cq26, kq26, q26a, q26b, q26c⟩ := isOf hZ e25q (E_OWNER.ext O0.2)
      obtain ⟨_, _, ⟨T26, L26, k26, n26⟩, -, X26, ⟨Lc26, hQ26, l26, y26, z26⟩, st26⟩ := X25.virtualBack hx (y := (⟨"com/example/usher_paths/usherpaths/Level", "max", "(Lcom/example/usher_paths/usherpaths/Level;)Lcom/example/usher_paths/usherpaths/Level;"⟩ : MethodName)) (z := (⟨"com/example/usher_paths/usherpaths/Level", "max", "(Lcom/example/usher_paths/usherpaths/Level;)Lcom/example/usher_paths/usherpaths/Level;"⟩ : MethodName)) hown (mvT hZ (hw _ (List.mem_of_getElem? (i := 13) rfl))) (mvT hZ (hw _ (List.mem_of_getElem? (i := 14) rfl))) (notFace_of_selects (args := #[]) (mvT hZ (hw _ (List.mem_of_getElem? (i := 16) rfl)))) (mvT hZ (hw _ (List.mem_of_getElem? (i := 16) rfl))) (mvT hZ (hw _ (List.mem_of_getElem? (i := 15) rfl))) (by decide) (own_backOf (W := 0) (rmM l Z a0 hw [] n0 h0 O0 w_OWNER w_NONE w_NONE w_OWNER w_WRITE w_READ FF0 mr MM (3 : Int32) F_ordinal_OWNER E_OWNER (0 : Int32) F_ordinal_NONE E_NONE (1 : Int32) (by decide) w_OWNER (by simp)) hZ (hw _ (List.mem_of_getElem? (i := 17) rfl)) (hw _ (List.mem_of_getElem? (i := 5) rfl)) (by decide) (by decide)) q26a q26c (g := (mkF m 43 #[.val (.int p0), .val (.int p1), .val (.int (0 : Int32)), .val (.int (3 : Int32)), .val (.ref w_NONE), .val (.ref w_OWNER), .val (.ref w_OWNER), .val (.ref w_OWNER), .unset] [(.ref w_NONE), (.ref w_OWNER)])) rfl (by rw [hml]; rfl) (Steps.refl _) (argsL := [(.ref w_NONE)]) (rest := []) (lenOf pd0_2 rfl) rfl (by show 2 * 0 + _ ≤ _; exact Nat.le_of_eq rfl) (hb hby at_43) (fun _ _ => ⟨rfl, e25q, (by decide : 0 + 0 ≤ _), (by decide : 0 + 0 ≤ _)⟩)
      dsimp only [Pt.U, Pt.locs, Pt.cells, Pt.slots] at X26 l26 y26 z26 st26 hQ26
      subst l26 y26 z26
      obtain ⟨rfl, N26q, e26q⟩ := hQ26
      have N26 := Fr.app N25 N26q
      refine Ends.go (fun _ k => st26.trans k) ?_
      show Ends p e below s T26 (mkF m 46 #[.val (.int p0), .val (.int p1), .val (.int (0 : Int32)), .val (.int (3 : Int32)), .val (.ref w_NONE), .val (.ref w_OWNER), .val (.ref w_OWNER), .val (.ref w_OWNER), .unset] [(.ref w_OWNER)]) _ _ _
      refine Ends.go (fun _ k => XS.astore X26.here hx rfl (hb hby at_46) rfl rfl (l' := #[.val (.int p0), .val (.int p1), .val (.int (0 : Int32)), .val (.int (3 : Int32)), .val (.ref w_NONE), .val (.ref w_OWNER), .val (.ref w_OWNER), .val (.ref w_OWNER), .val (.ref w_OWNER)]) rfl k) ?_
      show Ends p e below s T26 (mkF m 48 #[.val (.int p0), .val (.int p1), .val (.int (0 : Int32)), .val (.int (3 : Int32)), .val (.ref w_NONE), .val (.ref w_OWNER), .val (.ref w_OWNER), .val (.ref w_OWNER), .val (.ref w_OWNER)] []) _ _ _
      refine Ends.go (fun _ k => XS.aload X26.here hx rfl (hb hby at_48) rfl rfl k) ?_
      show Ends p e below s T26 (mkF m 50 #[.val (.int p0), .val (.int p1), .val (.int (0 : Int32)), .val (.int (3 : Int32)), .val (.ref w_NONE), .val (.ref w_OWNER), .val (.ref w_OWNER), .val (.ref w_OWNER), .val (.ref w_OWNER)] [(.ref w_OWNER)]) _ _ _
      refine Ends.go (fun _ k => XS.aload X26.here hx rfl (hb hby at_50) rfl rfl k) ?_
      show Ends p e below s T26 (mkF m 52 #[.val (.int p0), .val (.int p1), .val (.int (0 : Int32)), .val (.int (3 : Int32)), .val (.ref w_NONE), .val (.ref w_OWNER), .val (.ref w_OWNER), .val (.ref w_OWNER), .val (.ref w_OWNER)] [(.ref w_OWNER), (.ref w_OWNER)]) _ _ _
      refine Ends.go (fun _ k => Jvm.RoadKit.acmp (g := (mkF m 52 #[.val (.int p0), .val (.int p1), .val (.int (0 : Int32)), .val (.int (3 : Int32)), .val (.ref w_NONE), .val (.ref w_OWNER), .val (.ref w_OWNER), .val (.ref w_OWNER), .val (.ref w_OWNER)] [(.ref w_OWNER), (.ref w_OWNER)])) X26 hx rfl rfl rfl (pc0 := 52) (pc' := 55) (same := true) rfl (hb hby at_52) rfl (decide_eq_true rfl) (by decide) (by decide) k) ?_
      show Ends p e below s T26 (mkF m 55 #[.val (.int p0), .val (.int p1), .val (.int (0 : Int32)), .val (.int (3 : Int32)), .val (.ref w_NONE), .val (.ref w_OWNER), .val (.ref w_OWNER), .val (.ref w_OWNER), .val (.ref w_OWNER)] []) _ _ _
      refine Ends.go (fun _ k => XS.aload X26.here hx rfl (hb hby at_55) rfl rfl k) ?_
      show Ends p e below s T26 (mkF m 57 #[.val (.int p0), .val (.int p1), .val (.int (0 : Int32)), .val (.int (3 : Int32)), .val (.ref w_NONE), .val (.ref w_OWNER), .val (.ref w_OWNER), .val (.ref w_OWNER), .val (.ref w_OWNER)] [(.ref w_OWNER)]) _ _ _
      refine Ends.go (fun _ k => XS.aload X26.here hx rfl (hb hby at_57) rfl rfl k) ?_
      show Ends p e below s T26 (mkF m 59 #[.val (.int p0), .val (.int p1), .val (.int (0 : Int32)), .val (.int (3 : Int32)), .val (.ref w_NONE), .val (.ref w_OWNER), .val (.ref w_OWNER), .val (.ref w_OWNER), .val (.ref w_OWNER)] [(.ref w_OWNER), (.ref w_OWNER)]) _ _ _
      refine Ends.go (fun _ k => Jvm.RoadKit.acmp (g := (mkF m 59 #[.val (.int p0), .val (.int p1), .val (.int (0 : Int32)), .val (.int (3 : Int32)), .val (.ref w_NONE), .val (.ref w_OWNER), .val (.ref w_OWNER), .val (.ref w_OWNER), .val (.ref w_OWNER)] [(.ref w_OWNER), (.ref w_OWNER)])) X26 hx rfl rfl rfl (pc0 := 59) (pc' := 62) (same := true) rfl (hb hby at_59) rfl (decide_eq_true rfl) (by decide) (by decide) k) ?_
      show Ends p e below s T26 (mkF m 62 #[.val (.int p0), .val (.int p1), .val (.int (0 : Int32)), .val (.int (3 : Int32)), .val (.ref w_NONE), .val (.ref w_OWNER), .val (.ref w_OWNER), .val (.ref w_OWNER), .val (.ref w_OWNER)] []) _ _ _
      refine Ends.go (fun _ k => XS.iconst X26.here hx rfl (hb hby at_62) k) ?_
      show Ends p e below s T26 (mkF m 63 #[.val (.int p0), .val (.int p1), .val (.int (0 : Int32)), .val (.int (3 : Int32)), .val (.ref w_NONE), .val (.ref w_OWNER), .val (.ref w_OWNER), .val (.ref w_OWNER), .val (.ref w_OWNER)] [(.int (1 : Int32))]) _ _ _
      refine Ends.go (fun _ k => XS.goto X26.here hx rfl (pc0 := 63) (pc' := 67) rfl (hb hby at_63) (by decide) (by decide) k) ?_
      show Ends p e below s T26 (mkF m 67 #[.val (.int p0), .val (.int p1), .val (.int (0 : Int32)), .val (.int (3 : Int32)), .val (.ref w_NONE), .val (.ref w_OWNER), .val (.ref w_OWNER), .val (.ref w_OWNER), .val (.ref w_OWNER)] [(.int (1 : Int32))]) _ _ _
      refine Ends.retZ X26 hx Bd.notSynchronized (t := .boolean) Bd.returns (by simp) (hb hby at_67) (by decide) (by decide) ?_
      exact ⟨rfl, N26⟩
  · show Ends p e below s s₁ (mkF m 3 #[.val (.int p0), .val (.int p1), .unset, .unset, .unset, .unset, .unset, .unset, .unset] [(.int (1 : Int32))]) _ _ _
    refine Ends.go (fun _ k => XS.istoreN X0.here hx rfl (hb hby at_3) rfl (l' := #[.val (.int p0), .val (.int p1), .val (.int (1 : Int32)), .unset, .unset, .unset, .unset, .unset, .unset]) rfl k) ?_
    show Ends p e below s s₁ (mkF m 4 #[.val (.int p0), .val (.int p1), .val (.int (1 : Int32)), .unset, .unset, .unset, .unset, .unset, .unset] []) _ _ _
    refine Ends.go (fun _ k => XS.iloadN X0.here hx rfl (hb hby at_4) rfl k) ?_
    show Ends p e below s s₁ (mkF m 5 #[.val (.int p0), .val (.int p1), .val (.int (1 : Int32)), .unset, .unset, .unset, .unset, .unset, .unset] [(.int p1)]) _ _ _
    refine Ends.go (fun _ k => XS.iconst X0.here hx rfl (hb hby at_5) k) ?_
    show Ends p e below s s₁ (mkF m 6 #[.val (.int p0), .val (.int p1), .val (.int (1 : Int32)), .unset, .unset, .unset, .unset, .unset, .unset] [(.int (3 : Int32)), (.int p1)]) _ _ _
    refine Ends.go (fun _ k => XS.iand X0.here hx rfl (hb hby at_6) rfl k) ?_
    show Ends p e below s s₁ (mkF m 7 #[.val (.int p0), .val (.int p1), .val (.int (1 : Int32)), .unset, .unset, .unset, .unset, .unset, .unset] [(.int (p1 &&& (3 : Int32)))]) _ _ _
    generalize hi27 : (p1 &&& (3 : Int32)) = i27
    rcases own_and3 p1 i27 hi27 with rfl | rfl | rfl | rfl
    · show Ends p e below s s₁ (mkF m 7 #[.val (.int p0), .val (.int p1), .val (.int (1 : Int32)), .unset, .unset, .unset, .unset, .unset, .unset] [(.int (0 : Int32))]) _ _ _
      refine Ends.go (fun _ k => XS.istoreN X0.here hx rfl (hb hby at_7) rfl (l' := #[.val (.int p0), .val (.int p1), .val (.int (1 : Int32)), .val (.int (0 : Int32)), .unset, .unset, .unset, .unset, .unset]) rfl k) ?_
      show Ends p e below s s₁ (mkF m 8 #[.val (.int p0), .val (.int p1), .val (.int (1 : Int32)), .val (.int (0 : Int32)), .unset, .unset, .unset, .unset, .unset] []) _ _ _
      refine Ends.go (fun _ k => XS.iloadN X0.here hx rfl (hb hby at_8) rfl k) ?_
      show Ends p e below s s₁ (mkF m 9 #[.val (.int p0), .val (.int p1), .val (.int (1 : Int32)), .val (.int (0 : Int32)), .unset, .unset, .unset, .unset, .unset] [(.int (1 : Int32))]) _ _ _
      obtain ⟨_, _, ⟨T28, L28, k28, n28⟩, -, X28, ⟨Lc28, hQ28, l28, y28, z28⟩, st28⟩ := Jvm.LawKit.callS X0 hx (y := (⟨"com/example/usher_paths/usherpaths/LevelMaxPinLaw", "pick", "(I)Lcom/example/usher_paths/usherpaths/Level;"⟩ : MethodName)) hown (mvT hZ (hw _ (List.mem_of_getElem? (i := 0) rfl))) (mvT hZ (hw _ (List.mem_of_getElem? (i := 1) rfl))) (mvT hZ (hw _ (List.mem_of_getElem? (i := 2) rfl))) (mvT hZ (hw _ (List.mem_of_getElem? (i := 3) rfl))) (by decide) (own_backOf (W := 0) (rmP l Z a0 hw [] n0 h0 O0 (1 : Int32) w_NONE w_OWNER w_WRITE w_READ FF0 mr MM w_READ (by simp)) hZ (hw _ (List.mem_of_getElem? (i := 3) rfl)) (hw _ (List.mem_of_getElem? (i := 2) rfl)) (by decide) (by decide)) (g := (mkF m 9 #[.val (.int p0), .val (.int p1), .val (.int (1 : Int32)), .val (.int (0 : Int32)), .unset, .unset, .unset, .unset, .unset] [(.int (1 : Int32))])) rfl (by rw [hml]; rfl) (argsL := [(.int (1 : Int32))]) (rest := []) (lenOf pd0_0 rfl) rfl (by show 2 * 0 + _ ≤ _; exact Nat.le_of_eq rfl) (hb hby at_9) (fun _ _ => ⟨rfl, e0, (by decide : 0 + 0 ≤ _), (by decide : 0 + 0 ≤ _)⟩)
      dsimp only [Pt.U, Pt.locs, Pt.cells, Pt.slots] at X28 l28 y28 z28 st28 hQ28
      subst l28 y28 z28
      obtain ⟨rfl, N28q, e28q⟩ := hQ28
      have N28 := Fr.app N0 N28q
      refine Ends.go st28 ?_
      show Ends p e below s T28 (mkF m 12 #[.val (.int p0), .val (.int p1), .val (.int (1 : Int32)), .val (.int (0 : Int32)), .unset, .unset, .unset, .unset, .unset] [(.ref w_READ)]) _ _ _
      refine Ends.go (fun _ k => XS.astore X28.here hx rfl (hb hby at_12) rfl rfl (l' := #[.val (.int p0), .val (.int p1), .val (.int (1 : Int32)), .val (.int (0 : Int32)), .val (.ref w_READ), .unset, .unset, .unset, .unset]) rfl k) ?_
      show Ends p e below s T28 (mkF m 14 #[.val (.int p0), .val (.int p1), .val (.int (1 : Int32)), .val (.int (0 : Int32)), .val (.ref w_READ), .unset, .unset, .unset, .unset] []) _ _ _
      refine Ends.go (fun _ k => XS.iloadN X28.here hx rfl (hb hby at_14) rfl k) ?_
      show Ends p e below s T28 (mkF m 15 #[.val (.int p0), .val (.int p1), .val (.int (1 : Int32)), .val (.int (0 : Int32)), .val (.ref w_READ), .unset, .unset, .unset, .unset] [(.int (0 : Int32))]) _ _ _
      obtain ⟨_, _, ⟨T29, L29, k29, n29⟩, -, X29, ⟨Lc29, hQ29, l29, y29, z29⟩, st29⟩ := Jvm.LawKit.callS X28 hx (y := (⟨"com/example/usher_paths/usherpaths/LevelMaxPinLaw", "pick", "(I)Lcom/example/usher_paths/usherpaths/Level;"⟩ : MethodName)) hown (mvT hZ (hw _ (List.mem_of_getElem? (i := 0) rfl))) (mvT hZ (hw _ (List.mem_of_getElem? (i := 1) rfl))) (mvT hZ (hw _ (List.mem_of_getElem? (i := 2) rfl))) (mvT hZ (hw _ (List.mem_of_getElem? (i := 3) rfl))) (by decide) (own_backOf (W := 0) (rmP l Z a0 hw [] n0 h0 O0 (0 : Int32) w_NONE w_OWNER w_WRITE w_READ FF0 mr MM w_NONE (by simp)) hZ (hw _ (List.mem_of_getElem? (i := 3) rfl)) (hw _ (List.mem_of_getElem? (i := 2) rfl)) (by decide) (by decide)) (g := (mkF m 15 #[.val (.int p0), .val (.int p1), .val (.int (1 : Int32)), .val (.int (0 : Int32)), .val (.ref w_READ), .unset, .unset, .unset, .unset] [(.int (0 : Int32))])) rfl (by rw [hml]; rfl) (argsL := [(.int (0 : Int32))]) (rest := []) (lenOf pd0_0 rfl) rfl (by show 2 * 0 + _ ≤ _; exact Nat.le_of_eq rfl) (hb hby at_15) (fun _ _ => ⟨rfl, e28q, (by decide : 0 + 0 ≤ _), (by decide : 0 + 0 ≤ _)⟩)
      dsimp only [Pt.U, Pt.locs, Pt.cells, Pt.slots] at X29 l29 y29 z29 st29 hQ29
      subst l29 y29 z29
      obtain ⟨rfl, N29q, e29q⟩ := hQ29
      have N29 := Fr.app N28 N29q
      refine Ends.go st29 ?_
      show Ends p e below s T29 (mkF m 18 #[.val (.int p0), .val (.int p1), .val (.int (1 : Int32)), .val (.int (0 : Int32)), .val (.ref w_READ), .unset, .unset, .unset, .unset] [(.ref w_NONE)]) _ _ _
      refine Ends.go (fun _ k => XS.astore X29.here hx rfl (hb hby at_18) rfl rfl (l' := #[.val (.int p0), .val (.int p1), .val (.int (1 : Int32)), .val (.int (0 : Int32)), .val (.ref w_READ), .val (.ref w_NONE), .unset, .unset, .unset]) rfl k) ?_
      show Ends p e below s T29 (mkF m 20 #[.val (.int p0), .val (.int p1), .val (.int (1 : Int32)), .val (.int (0 : Int32)), .val (.ref w_READ), .val (.ref w_NONE), .unset, .unset, .unset] []) _ _ _
      refine Ends.go (fun _ k => XS.iloadN X29.here hx rfl (hb hby at_20) rfl k) ?_
      show Ends p e below s T29 (mkF m 21 #[.val (.int p0), .val (.int p1), .val (.int (1 : Int32)), .val (.int (0 : Int32)), .val (.ref w_READ), .val (.ref w_NONE), .unset, .unset, .unset] [(.int (1 : Int32))]) _ _ _
      refine Ends.go (fun _ k => XS.iloadN X29.here hx rfl (hb hby at_21) rfl k) ?_
      show Ends p e below s T29 (mkF m 22 #[.val (.int p0), .val (.int p1), .val (.int (1 : Int32)), .val (.int (0 : Int32)), .val (.ref w_READ), .val (.ref w_NONE), .unset, .unset, .unset] [(.int (0 : Int32)), (.int (1 : Int32))]) _ _ _
      obtain ⟨_, _, ⟨T30, L30, k30, n30⟩, -, X30, ⟨Lc30, hQ30, l30, y30, z30⟩, st30⟩ := Jvm.LawKit.callS X29 hx (y := (⟨"java/lang/Math", "max", "(II)I"⟩ : MethodName)) hown (mvT hZ (hw _ (List.mem_of_getElem? (i := 9) rfl))) (mvT hZ (hw _ (List.mem_of_getElem? (i := 10) rfl))) (mvT hZ (hw _ (List.mem_of_getElem? (i := 11) rfl))) (mvT hZ (hw _ (List.mem_of_getElem? (i := 12) rfl))) (by decide) (own_backOf (W := 0) (rmX l Z a0 hw [] n0 h0 O0 (1 : Int32) (0 : Int32) w_NONE w_OWNER w_WRITE w_READ FF0 mr MM (1 : Int32) (by decide)) hZ (hw _ (List.mem_of_getElem? (i := 12) rfl)) (hw _ (List.mem_of_getElem? (i := 11) rfl)) (by decide) (by decide)) (g := (mkF m 22 #[.val (.int p0), .val (.int p1), .val (.int (1 : Int32)), .val (.int (0 : Int32)), .val (.ref w_READ), .val (.ref w_NONE), .unset, .unset, .unset] [(.int (0 : Int32)), (.int (1 : Int32))])) rfl (by rw [hml]; rfl) (argsL := [(.int (1 : Int32)), (.int (0 : Int32))]) (rest := []) (lenOf pd0_1 rfl) rfl (by show 2 * 0 + _ ≤ _; exact Nat.le_of_eq rfl) (hb hby at_22) (fun _ _ => ⟨rfl, e29q, (by decide : 0 + 0 ≤ _), (by decide : 0 + 0 ≤ _)⟩)
      dsimp only [Pt.U, Pt.locs, Pt.cells, Pt.slots] at X30 l30 y30 z30 st30 hQ30
      subst l30 y30 z30
      obtain ⟨rfl, N30q, e30q⟩ := hQ30
      have N30 := Fr.app N29 N30q
      refine Ends.go st30 ?_
      show Ends p e below s T30 (mkF m 25 #[.val (.int p0), .val (.int p1), .val (.int (1 : Int32)), .val (.int (0 : Int32)), .val (.ref w_READ), .val (.ref w_NONE), .unset, .unset, .unset] [(.int (1 : Int32))]) _ _ _
      obtain ⟨_, _, ⟨T31, L31, k31, n31⟩, -, X31, ⟨Lc31, hQ31, l31, y31, z31⟩, st31⟩ := Jvm.LawKit.callS X30 hx (y := (⟨"com/example/usher_paths/usherpaths/LevelMaxPinLaw", "pick", "(I)Lcom/example/usher_paths/usherpaths/Level;"⟩ : MethodName)) hown (mvT hZ (hw _ (List.mem_of_getElem? (i := 0) rfl))) (mvT hZ (hw _ (List.mem_of_getElem? (i := 1) rfl))) (mvT hZ (hw _ (List.mem_of_getElem? (i := 2) rfl))) (mvT hZ (hw _ (List.mem_of_getElem? (i := 3) rfl))) (by decide) (own_backOf (W := 0) (rmP l Z a0 hw [] n0 h0 O0 (1 : Int32) w_NONE w_OWNER w_WRITE w_READ FF0 mr MM w_READ (by simp)) hZ (hw _ (List.mem_of_getElem? (i := 3) rfl)) (hw _ (List.mem_of_getElem? (i := 2) rfl)) (by decide) (by decide)) (g := (mkF m 25 #[.val (.int p0), .val (.int p1), .val (.int (1 : Int32)), .val (.int (0 : Int32)), .val (.ref w_READ), .val (.ref w_NONE), .unset, .unset, .unset] [(.int (1 : Int32))])) rfl (by rw [hml]; rfl) (argsL := [(.int (1 : Int32))]) (rest := []) (lenOf pd0_0 rfl) rfl (by show 2 * 0 + _ ≤ _; exact Nat.le_of_eq rfl) (hb hby at_25) (fun _ _ => ⟨rfl, e30q, (by decide : 0 + 0 ≤ _), (by decide : 0 + 0 ≤ _)⟩)
      dsimp only [Pt.U, Pt.locs, Pt.cells, Pt.slots] at X31 l31 y31 z31 st31 hQ31
      subst l31 y31 z31
      obtain ⟨rfl, N31q, e31q⟩ := hQ31
      have N31 := Fr.app N30 N31q
      refine Ends.go st31 ?_
      show Ends p e below s T31 (mkF m 28 #[.val (.int p0), .val (.int p1), .val (.int (1 : Int32)), .val (.int (0 : Int32)), .val (.ref w_READ), .val (.ref w_NONE), .unset, .unset, .unset] [(.ref w_READ)]) _ _ _
      refine Ends.go (fun _ k => XS.astore X31.here hx rfl (hb hby at_28) rfl rfl (l' := #[.val (.int p0), .val (.int p1), .val (.int (1 : Int32)), .val (.int (0 : Int32)), .val (.ref w_READ), .val (.ref w_NONE), .val (.ref w_READ), .unset, .unset]) rfl k) ?_
      show Ends p e below s T31 (mkF m 30 #[.val (.int p0), .val (.int p1), .val (.int (1 : Int32)), .val (.int (0 : Int32)), .val (.ref w_READ), .val (.ref w_NONE), .val (.ref w_READ), .unset, .unset] []) _ _ _
      refine Ends.go (fun _ k => XS.aload X31.here hx rfl (hb hby at_30) rfl rfl k) ?_
      show Ends p e below s T31 (mkF m 32 #[.val (.int p0), .val (.int p1), .val (.int (1 : Int32)), .val (.int (0 : Int32)), .val (.ref w_READ), .val (.ref w_NONE), .val (.ref w_READ), .unset, .unset] [(.ref w_READ)]) _ _ _
      refine Ends.go (fun _ k => XS.aload X31.here hx rfl (hb hby at_32) rfl rfl k) ?_
      show Ends p e below s T31 (mkF m 34 #[.val (.int p0), .val (.int p1), .val (.int (1 : Int32)), .val (.int (0 : Int32)), .val (.ref w_READ), .val (.ref w_NONE), .val (.ref w_READ), .unset, .unset] [(.ref w_NONE), (.ref w_READ)]) _ _ _
      obtain ⟨cq32, kq32, q32a, q32b, q32c⟩ := isOf hZ e31q (E_READ.ext O0.2)
      obtain ⟨_, _, ⟨T32, L32, k32, n32⟩, -, X32, ⟨Lc32, hQ32, l32, y32, z32⟩, st32⟩ := X31.virtualBack hx (y := (⟨"com/example/usher_paths/usherpaths/Level", "max", "(Lcom/example/usher_paths/usherpaths/Level;)Lcom/example/usher_paths/usherpaths/Level;"⟩ : MethodName)) (z := (⟨"com/example/usher_paths/usherpaths/Level", "max", "(Lcom/example/usher_paths/usherpaths/Level;)Lcom/example/usher_paths/usherpaths/Level;"⟩ : MethodName)) hown (mvT hZ (hw _ (List.mem_of_getElem? (i := 13) rfl))) (mvT hZ (hw _ (List.mem_of_getElem? (i := 14) rfl))) (notFace_of_selects (args := #[]) (mvT hZ (hw _ (List.mem_of_getElem? (i := 16) rfl)))) (mvT hZ (hw _ (List.mem_of_getElem? (i := 16) rfl))) (mvT hZ (hw _ (List.mem_of_getElem? (i := 15) rfl))) (by decide) (own_backOf (W := 0) (rmM l Z a0 hw [] n0 h0 O0 w_READ w_NONE w_NONE w_OWNER w_WRITE w_READ FF0 mr MM (1 : Int32) F_ordinal_READ E_READ (0 : Int32) F_ordinal_NONE E_NONE (1 : Int32) (by decide) w_READ (by simp)) hZ (hw _ (List.mem_of_getElem? (i := 17) rfl)) (hw _ (List.mem_of_getElem? (i := 5) rfl)) (by decide) (by decide)) q32a q32c (g := (mkF m 34 #[.val (.int p0), .val (.int p1), .val (.int (1 : Int32)), .val (.int (0 : Int32)), .val (.ref w_READ), .val (.ref w_NONE), .val (.ref w_READ), .unset, .unset] [(.ref w_NONE), (.ref w_READ)])) rfl (by rw [hml]; rfl) (Steps.refl _) (argsL := [(.ref w_NONE)]) (rest := []) (lenOf pd0_2 rfl) rfl (by show 2 * 0 + _ ≤ _; exact Nat.le_of_eq rfl) (hb hby at_34) (fun _ _ => ⟨rfl, e31q, (by decide : 0 + 0 ≤ _), (by decide : 0 + 0 ≤ _)⟩)
      dsimp only [Pt.U, Pt.locs, Pt.cells, Pt.slots] at X32 l32 y32 z32 st32 hQ32
      subst l32 y32 z32
      obtain ⟨rfl, N32q, e32q⟩ := hQ32
      have N32 := Fr.app N31 N32q
      refine Ends.go (fun _ k => st32.trans k) ?_
      show Ends p e below s T32 (mkF m 37 #[.val (.int p0), .val (.int p1), .val (.int (1 : Int32)), .val (.int (0 : Int32)), .val (.ref w_READ), .val (.ref w_NONE), .val (.ref w_READ), .unset, .unset] [(.ref w_READ)]) _ _ _
      refine Ends.go (fun _ k => XS.astore X32.here hx rfl (hb hby at_37) rfl rfl (l' := #[.val (.int p0), .val (.int p1), .val (.int (1 : Int32)), .val (.int (0 : Int32)), .val (.ref w_READ), .val (.ref w_NONE), .val (.ref w_READ), .val (.ref w_READ), .unset]) rfl k) ?_
      show Ends p e below s T32 (mkF m 39 #[.val (.int p0), .val (.int p1), .val (.int (1 : Int32)), .val (.int (0 : Int32)), .val (.ref w_READ), .val (.ref w_NONE), .val (.ref w_READ), .val (.ref w_READ), .unset] []) _ _ _
      refine Ends.go (fun _ k => XS.aload X32.here hx rfl (hb hby at_39) rfl rfl k) ?_
      show Ends p e below s T32 (mkF m 41 #[.val (.int p0), .val (.int p1), .val (.int (1 : Int32)), .val (.int (0 : Int32)), .val (.ref w_READ), .val (.ref w_NONE), .val (.ref w_READ), .val (.ref w_READ), .unset] [(.ref w_NONE)]) _ _ _
      refine Ends.go (fun _ k => XS.aload X32.here hx rfl (hb hby at_41) rfl rfl k) ?_
      show Ends p e below s T32 (mkF m 43 #[.val (.int p0), .val (.int p1), .val (.int (1 : Int32)), .val (.int (0 : Int32)), .val (.ref w_READ), .val (.ref w_NONE), .val (.ref w_READ), .val (.ref w_READ), .unset] [(.ref w_READ), (.ref w_NONE)]) _ _ _
      obtain ⟨cq33, kq33, q33a, q33b, q33c⟩ := isOf hZ e32q (E_NONE.ext O0.2)
      obtain ⟨_, _, ⟨T33, L33, k33, n33⟩, -, X33, ⟨Lc33, hQ33, l33, y33, z33⟩, st33⟩ := X32.virtualBack hx (y := (⟨"com/example/usher_paths/usherpaths/Level", "max", "(Lcom/example/usher_paths/usherpaths/Level;)Lcom/example/usher_paths/usherpaths/Level;"⟩ : MethodName)) (z := (⟨"com/example/usher_paths/usherpaths/Level", "max", "(Lcom/example/usher_paths/usherpaths/Level;)Lcom/example/usher_paths/usherpaths/Level;"⟩ : MethodName)) hown (mvT hZ (hw _ (List.mem_of_getElem? (i := 13) rfl))) (mvT hZ (hw _ (List.mem_of_getElem? (i := 14) rfl))) (notFace_of_selects (args := #[]) (mvT hZ (hw _ (List.mem_of_getElem? (i := 16) rfl)))) (mvT hZ (hw _ (List.mem_of_getElem? (i := 16) rfl))) (mvT hZ (hw _ (List.mem_of_getElem? (i := 15) rfl))) (by decide) (own_backOf (W := 0) (rmM l Z a0 hw [] n0 h0 O0 w_NONE w_READ w_NONE w_OWNER w_WRITE w_READ FF0 mr MM (0 : Int32) F_ordinal_NONE E_NONE (1 : Int32) F_ordinal_READ E_READ (0 : Int32) (by decide) w_READ (by simp)) hZ (hw _ (List.mem_of_getElem? (i := 17) rfl)) (hw _ (List.mem_of_getElem? (i := 5) rfl)) (by decide) (by decide)) q33a q33c (g := (mkF m 43 #[.val (.int p0), .val (.int p1), .val (.int (1 : Int32)), .val (.int (0 : Int32)), .val (.ref w_READ), .val (.ref w_NONE), .val (.ref w_READ), .val (.ref w_READ), .unset] [(.ref w_READ), (.ref w_NONE)])) rfl (by rw [hml]; rfl) (Steps.refl _) (argsL := [(.ref w_READ)]) (rest := []) (lenOf pd0_2 rfl) rfl (by show 2 * 0 + _ ≤ _; exact Nat.le_of_eq rfl) (hb hby at_43) (fun _ _ => ⟨rfl, e32q, (by decide : 0 + 0 ≤ _), (by decide : 0 + 0 ≤ _)⟩)
      dsimp only [Pt.U, Pt.locs, Pt.cells, Pt.slots] at X33 l33 y33 z33 st33 hQ33
      subst l33 y33 z33
      obtain ⟨rfl, N33q, e33q⟩ := hQ33
      have N33 := Fr.app N32 N33q
      refine Ends.go (fun _ k => st33.trans k) ?_
      show Ends p e below s T33 (mkF m 46 #[.val (.int p0), .val (.int p1), .val (.int (1 : Int32)), .val (.int (0 : Int32)), .val (.ref w_READ), .val (.ref w_NONE), .val (.ref w_READ), .val (.ref w_READ), .unset] [(.ref w_READ)]) _ _ _
      refine Ends.go (fun _ k => XS.astore X33.here hx rfl (hb hby at_46) rfl rfl (l' := #[.val (.int p0), .val (.int p1), .val (.int (1 : Int32)), .val (.int (0 : Int32)), .val (.ref w_READ), .val (.ref w_NONE), .val (.ref w_READ), .val (.ref w_READ), .val (.ref w_READ)]) rfl k) ?_
      show Ends p e below s T33 (mkF m 48 #[.val (.int p0), .val (.int p1), .val (.int (1 : Int32)), .val (.int (0 : Int32)), .val (.ref w_READ), .val (.ref w_NONE), .val (.ref w_READ), .val (.ref w_READ), .val (.ref w_READ)] []) _ _ _
      refine Ends.go (fun _ k => XS.aload X33.here hx rfl (hb hby at_48) rfl rfl k) ?_
      show Ends p e below s T33 (mkF m 50 #[.val (.int p0), .val (.int p1), .val (.int (1 : Int32)), .val (.int (0 : Int32)), .val (.ref w_READ), .val (.ref w_NONE), .val (.ref w_READ), .val (.ref w_READ), .val (.ref w_READ)] [(.ref w_READ)]) _ _ _
      refine Ends.go (fun _ k => XS.aload X33.here hx rfl (hb hby at_50) rfl rfl k) ?_
      show Ends p e below s T33 (mkF m 52 #[.val (.int p0), .val (.int p1), .val (.int (1 : Int32)), .val (.int (0 : Int32)), .val (.ref w_READ), .val (.ref w_NONE), .val (.ref w_READ), .val (.ref w_READ), .val (.ref w_READ)] [(.ref w_READ), (.ref w_READ)]) _ _ _
      refine Ends.go (fun _ k => Jvm.RoadKit.acmp (g := (mkF m 52 #[.val (.int p0), .val (.int p1), .val (.int (1 : Int32)), .val (.int (0 : Int32)), .val (.ref w_READ), .val (.ref w_NONE), .val (.ref w_READ), .val (.ref w_READ), .val (.ref w_READ)] [(.ref w_READ), (.ref w_READ)])) X33 hx rfl rfl rfl (pc0 := 52) (pc' := 55) (same := true) rfl (hb hby at_52) rfl (decide_eq_true rfl) (by decide) (by decide) k) ?_
      show Ends p e below s T33 (mkF m 55 #[.val (.int p0), .val (.int p1), .val (.int (1 : Int32)), .val (.int (0 : Int32)), .val (.ref w_READ), .val (.ref w_NONE), .val (.ref w_READ), .val (.ref w_READ), .val (.ref w_READ)] []) _ _ _
      refine Ends.go (fun _ k => XS.aload X33.here hx rfl (hb hby at_55) rfl rfl k) ?_
      show Ends p e below s T33 (mkF m 57 #[.val (.int p0), .val (.int p1), .val (.int (1 : Int32)), .val (.int (0 : Int32)), .val (.ref w_READ), .val (.ref w_NONE), .val (.ref w_READ), .val (.ref w_READ), .val (.ref w_READ)] [(.ref w_READ)]) _ _ _
      refine Ends.go (fun _ k => XS.aload X33.here hx rfl (hb hby at_57) rfl rfl k) ?_
      show Ends p e below s T33 (mkF m 59 #[.val (.int p0), .val (.int p1), .val (.int (1 : Int32)), .val (.int (0 : Int32)), .val (.ref w_READ), .val (.ref w_NONE), .val (.ref w_READ), .val (.ref w_READ), .val (.ref w_READ)] [(.ref w_READ), (.ref w_READ)]) _ _ _
      refine Ends.go (fun _ k => Jvm.RoadKit.acmp (g := (mkF m 59 #[.val (.int p0), .val (.int p1), .val (.int (1 : Int32)), .val (.int (0 : Int32)), .val (.ref w_READ), .val (.ref w_NONE), .val (.ref w_READ), .val (.ref w_READ), .val (.ref w_READ)] [(.ref w_READ), (.ref w_READ)])) X33 hx rfl rfl rfl (pc0 := 59) (pc' := 62) (same := true) rfl (hb hby at_59) rfl (decide_eq_true rfl) (by decide) (by decide) k) ?_
      show Ends p e below s T33 (mkF m 62 #[.val (.int p0), .val (.int p1), .val (.int (1 : Int32)), .val (.int (0 : Int32)), .val (.ref w_READ), .val (.ref w_NONE), .val (.ref w_READ), .val (.ref w_READ), .val (.ref w_READ)] []) _ _ _
      refine Ends.go (fun _ k => XS.iconst X33.here hx rfl (hb hby at_62) k) ?_
      show Ends p e below s T33 (mkF m 63 #[.val (.int p0), .val (.int p1), .val (.int (1 : Int32)), .val (.int (0 : Int32)), .val (.ref w_READ), .val (.ref w_NONE), .val (.ref w_READ), .val (.ref w_READ), .val (.ref w_READ)] [(.int (1 : Int32))]) _ _ _
      refine Ends.go (fun _ k => XS.goto X33.here hx rfl (pc0 := 63) (pc' := 67) rfl (hb hby at_63) (by decide) (by decide) k) ?_
      show Ends p e below s T33 (mkF m 67 #[.val (.int p0), .val (.int p1), .val (.int (1 : Int32)), .val (.int (0 : Int32)), .val (.ref w_READ), .val (.ref w_NONE), .val (.ref w_READ), .val (.ref w_READ), .val (.ref w_READ)] [(.int (1 : Int32))]) _ _ _
      refine Ends.retZ X33 hx Bd.notSynchronized (t := .boolean) Bd.returns (by simp) (hb hby at_67) (by decide) (by decide) ?_
      exact ⟨rfl, N33⟩
    · show Ends p e below s s₁ (mkF m 7 #[.val (.int p0), .val (.int p1), .val (.int (1 : Int32)), .unset, .unset, .unset, .unset, .unset, .unset] [(.int (1 : Int32))]) _ _ _
      refine Ends.go (fun _ k => XS.istoreN X0.here hx rfl (hb hby at_7) rfl (l' := #[.val (.int p0), .val (.int p1), .val (.int (1 : Int32)), .val (.int (1 : Int32)), .unset, .unset, .unset, .unset, .unset]) rfl k) ?_
      show Ends p e below s s₁ (mkF m 8 #[.val (.int p0), .val (.int p1), .val (.int (1 : Int32)), .val (.int (1 : Int32)), .unset, .unset, .unset, .unset, .unset] []) _ _ _
      refine Ends.go (fun _ k => XS.iloadN X0.here hx rfl (hb hby at_8) rfl k) ?_
      show Ends p e below s s₁ (mkF m 9 #[.val (.int p0), .val (.int p1), .val (.int (1 : Int32)), .val (.int (1 : Int32)), .unset, .unset, .unset, .unset, .unset] [(.int (1 : Int32))]) _ _ _
      obtain ⟨_, _, ⟨T34, L34, k34, n34⟩, -, X34, ⟨Lc34, hQ34, l34, y34, z34⟩, st34⟩ := Jvm.LawKit.callS X0 hx (y := (⟨"com/example/usher_paths/usherpaths/LevelMaxPinLaw", "pick", "(I)Lcom/example/usher_paths/usherpaths/Level;"⟩ : MethodName)) hown (mvT hZ (hw _ (List.mem_of_getElem? (i := 0) rfl))) (mvT hZ (hw _ (List.mem_of_getElem? (i := 1) rfl))) (mvT hZ (hw _ (List.mem_of_getElem? (i := 2) rfl))) (mvT hZ (hw _ (List.mem_of_getElem? (i := 3) rfl))) (by decide) (own_backOf (W := 0) (rmP l Z a0 hw [] n0 h0 O0 (1 : Int32) w_NONE w_OWNER w_WRITE w_READ FF0 mr MM w_READ (by simp)) hZ (hw _ (List.mem_of_getElem? (i := 3) rfl)) (hw _ (List.mem_of_getElem? (i := 2) rfl)) (by decide) (by decide)) (g := (mkF m 9 #[.val (.int p0), .val (.int p1), .val (.int (1 : Int32)), .val (.int (1 : Int32)), .unset, .unset, .unset, .unset, .unset] [(.int (1 : Int32))])) rfl (by rw [hml]; rfl) (argsL := [(.int (1 : Int32))]) (rest := []) (lenOf pd0_0 rfl) rfl (by show 2 * 0 + _ ≤ _; exact Nat.le_of_eq rfl) (hb hby at_9) (fun _ _ => ⟨rfl, e0, (by decide : 0 + 0 ≤ _), (by decide : 0 + 0 ≤ _)⟩)
      dsimp only [Pt.U, Pt.locs, Pt.cells, Pt.slots] at X34 l34 y34 z34 st34 hQ34
      subst l34 y34 z34
      obtain ⟨rfl, N34q, e34q⟩ := hQ34
      have N34 := Fr.app N0 N34q
      refine Ends.go st34 ?_
      show Ends p e below s T34 (mkF m 12 #[.val (.int p0), .val (.int p1), .val (.int (1 : Int32)), .val (.int (1 : Int32)), .unset, .unset, .unset, .unset, .unset] [(.ref w_READ)]) _ _ _
      refine Ends.go (fun _ k => XS.astore X34.here hx rfl (hb hby at_12) rfl rfl (l' := #[.val (.int p0), .val (.int p1), .val (.int (1 : Int32)), .val (.int (1 : Int32)), .val (.ref w_READ), .unset, .unset, .unset, .unset]) rfl k) ?_
      show Ends p e below s T34 (mkF m 14 #[.val (.int p0), .val (.int p1), .val (.int (1 : Int32)), .val (.int (1 : Int32)), .val (.ref w_READ), .unset, .unset, .unset, .unset] []) _ _ _
      refine Ends.go (fun _ k => XS.iloadN X34.here hx rfl (hb hby at_14) rfl k) ?_
      show Ends p e below s T34 (mkF m 15 #[.val (.int p0), .val (.int p1), .val (.int (1 : Int32)), .val (.int (1 : Int32)), .val (.ref w_READ), .unset, .unset, .unset, .unset] [(.int (1 : Int32))]) _ _ _
      obtain ⟨_, _, ⟨T35, L35, k35, n35⟩, -, X35, ⟨Lc35, hQ35, l35, y35, z35⟩, st35⟩ := Jvm.LawKit.callS X34 hx (y := (⟨"com/example/usher_paths/usherpaths/LevelMaxPinLaw", "pick", "(I)Lcom/example/usher_paths/usherpaths/Level;"⟩ : MethodName)) hown (mvT hZ (hw _ (List.mem_of_getElem? (i := 0) rfl))) (mvT hZ (hw _ (List.mem_of_getElem? (i := 1) rfl))) (mvT hZ (hw _ (List.mem_of_getElem? (i := 2) rfl))) (mvT hZ (hw _ (List.mem_of_getElem? (i := 3) rfl))) (by decide) (own_backOf (W := 0) (rmP l Z a0 hw [] n0 h0 O0 (1 : Int32) w_NONE w_OWNER w_WRITE w_READ FF0 mr MM w_READ (by simp)) hZ (hw _ (List.mem_of_getElem? (i := 3) rfl)) (hw _ (List.mem_of_getElem? (i := 2) rfl)) (by decide) (by decide)) (g := (mkF m 15 #[.val (.int p0), .val (.int p1), .val (.int (1 : Int32)), .val (.int (1 : Int32)), .val (.ref w_READ), .unset, .unset, .unset, .unset] [(.int (1 : Int32))])) rfl (by rw [hml]; rfl) (argsL := [(.int (1 : Int32))]) (rest := []) (lenOf pd0_0 rfl) rfl (by show 2 * 0 + _ ≤ _; exact Nat.le_of_eq rfl) (hb hby at_15) (fun _ _ => ⟨rfl, e34q, (by decide : 0 + 0 ≤ _), (by decide : 0 + 0 ≤ _)⟩)
      dsimp only [Pt.U, Pt.locs, Pt.cells, Pt.slots] at X35 l35 y35 z35 st35 hQ35
      subst l35 y35 z35
      obtain ⟨rfl, N35q, e35q⟩ := hQ35
      have N35 := Fr.app N34 N35q
      refine Ends.go st35 ?_
      show Ends p e below s T35 (mkF m 18 #[.val (.int p0), .val (.int p1), .val (.int (1 : Int32)), .val (.int (1 : Int32)), .val (.ref w_READ), .unset, .unset, .unset, .unset] [(.ref w_READ)]) _ _ _
      refine Ends.go (fun _ k => XS.astore X35.here hx rfl (hb hby at_18) rfl rfl (l' := #[.val (.int p0), .val (.int p1), .val (.int (1 : Int32)), .val (.int (1 : Int32)), .val (.ref w_READ), .val (.ref w_READ), .unset, .unset, .unset]) rfl k) ?_
      show Ends p e below s T35 (mkF m 20 #[.val (.int p0), .val (.int p1), .val (.int (1 : Int32)), .val (.int (1 : Int32)), .val (.ref w_READ), .val (.ref w_READ), .unset, .unset, .unset] []) _ _ _
      refine Ends.go (fun _ k => XS.iloadN X35.here hx rfl (hb hby at_20) rfl k) ?_
      show Ends p e below s T35 (mkF m 21 #[.val (.int p0), .val (.int p1), .val (.int (1 : Int32)), .val (.int (1 : Int32)), .val (.ref w_READ), .val (.ref w_READ), .unset, .unset, .unset] [(.int (1 : Int32))]) _ _ _
      refine Ends.go (fun _ k => XS.iloadN X35.here hx rfl (hb hby at_21) rfl k) ?_
      show Ends p e below s T35 (mkF m 22 #[.val (.int p0), .val (.int p1), .val (.int (1 : Int32)), .val (.int (1 : Int32)), .val (.ref w_READ), .val (.ref w_READ), .unset, .unset, .unset] [(.int (1 : Int32)), (.int (1 : Int32))]) _ _ _
      obtain ⟨_, _, ⟨T36, L36, k36, n36⟩, -, X36, ⟨Lc36, hQ36, l36, y36, z36⟩, st36⟩ := Jvm.LawKit.callS X35 hx (y := (⟨"java/lang/Math", "max", "(II)I"⟩ : MethodName)) hown (mvT hZ (hw _ (List.mem_of_getElem? (i := 9) rfl))) (mvT hZ (hw _ (List.mem_of_getElem? (i := 10) rfl))) (mvT hZ (hw _ (List.mem_of_getElem? (i := 11) rfl))) (mvT hZ (hw _ (List.mem_of_getElem? (i := 12) rfl))) (by decide) (own_backOf (W := 0) (rmX l Z a0 hw [] n0 h0 O0 (1 : Int32) (1 : Int32) w_NONE w_OWNER w_WRITE w_READ FF0 mr MM (1 : Int32) (by decide)) hZ (hw _ (List.mem_of_getElem? (i := 12) rfl)) (hw _ (List.mem_of_getElem? (i := 11) rfl)) (by decide) (by decide)) (g := (mkF m 22 #[.val (.int p0), .val (.int p1), .val (.int (1 : Int32)), .val (.int (1 : Int32)), .val (.ref w_READ), .val (.ref w_READ), .unset, .unset, .unset] [(.int (1 : Int32)), (.int (1 : Int32))])) rfl (by rw [hml]; rfl) (argsL := [(.int (1 : Int32)), (.int (1 : Int32))]) (rest := []) (lenOf pd0_1 rfl) rfl (by show 2 * 0 + _ ≤ _; exact Nat.le_of_eq rfl) (hb hby at_22) (fun _ _ => ⟨rfl, e35q, (by decide : 0 + 0 ≤ _), (by decide : 0 + 0 ≤ _)⟩)
      dsimp only [Pt.U, Pt.locs, Pt.cells, Pt.slots] at X36 l36 y36 z36 st36 hQ36
      subst l36 y36 z36
      obtain ⟨rfl, N36q, e36q⟩ := hQ36
      have N36 := Fr.app N35 N36q
      refine Ends.go st36 ?_
      show Ends p e below s T36 (mkF m 25 #[.val (.int p0), .val (.int p1), .val (.int (1 : Int32)), .val (.int (1 : Int32)), .val (.ref w_READ), .val (.ref w_READ), .unset, .unset, .unset] [(.int (1 : Int32))]) _ _ _
      obtain ⟨_, _, ⟨T37, L37, k37, n37⟩, -, X37, ⟨Lc37, hQ37, l37, y37, z37⟩, st37⟩ := Jvm.LawKit.callS X36 hx (y := (⟨"com/example/usher_paths/usherpaths/LevelMaxPinLaw", "pick", "(I)Lcom/example/usher_paths/usherpaths/Level;"⟩ : MethodName)) hown (mvT hZ (hw _ (List.mem_of_getElem? (i := 0) rfl))) (mvT hZ (hw _ (List.mem_of_getElem? (i := 1) rfl))) (mvT hZ (hw _ (List.mem_of_getElem? (i := 2) rfl))) (mvT hZ (hw _ (List.mem_of_getElem? (i := 3) rfl))) (by decide) (own_backOf (W := 0) (rmP l Z a0 hw [] n0 h0 O0 (1 : Int32) w_NONE w_OWNER w_WRITE w_READ FF0 mr MM w_READ (by simp)) hZ (hw _ (List.mem_of_getElem? (i := 3) rfl)) (hw _ (List.mem_of_getElem? (i := 2) rfl)) (by decide) (by decide)) (g := (mkF m 25 #[.val (.int p0), .val (.int p1), .val (.int (1 : Int32)), .val (.int (1 : Int32)), .val (.ref w_READ), .val (.ref w_READ), .unset, .unset, .unset] [(.int (1 : Int32))])) rfl (by rw [hml]; rfl) (argsL := [(.int (1 : Int32))]) (rest := []) (lenOf pd0_0 rfl) rfl (by show 2 * 0 + _ ≤ _; exact Nat.le_of_eq rfl) (hb hby at_25) (fun _ _ => ⟨rfl, e36q, (by decide : 0 + 0 ≤ _), (by decide : 0 + 0 ≤ _)⟩)
      dsimp only [Pt.U, Pt.locs, Pt.cells, Pt.slots] at X37 l37 y37 z37 st37 hQ37
      subst l37 y37 z37
      obtain ⟨rfl, N37q, e37q⟩ := hQ37
      have N37 := Fr.app N36 N37q
      refine Ends.go st37 ?_
      show Ends p e below s T37 (mkF m 28 #[.val (.int p0), .val (.int p1), .val (.int (1 : Int32)), .val (.int (1 : Int32)), .val (.ref w_READ), .val (.ref w_READ), .unset, .unset, .unset] [(.ref w_READ)]) _ _ _
      refine Ends.go (fun _ k => XS.astore X37.here hx rfl (hb hby at_28) rfl rfl (l' := #[.val (.int p0), .val (.int p1), .val (.int (1 : Int32)), .val (.int (1 : Int32)), .val (.ref w_READ), .val (.ref w_READ), .val (.ref w_READ), .unset, .unset]) rfl k) ?_
      show Ends p e below s T37 (mkF m 30 #[.val (.int p0), .val (.int p1), .val (.int (1 : Int32)), .val (.int (1 : Int32)), .val (.ref w_READ), .val (.ref w_READ), .val (.ref w_READ), .unset, .unset] []) _ _ _
      refine Ends.go (fun _ k => XS.aload X37.here hx rfl (hb hby at_30) rfl rfl k) ?_
      show Ends p e below s T37 (mkF m 32 #[.val (.int p0), .val (.int p1), .val (.int (1 : Int32)), .val (.int (1 : Int32)), .val (.ref w_READ), .val (.ref w_READ), .val (.ref w_READ), .unset, .unset] [(.ref w_READ)]) _ _ _
      refine Ends.go (fun _ k => XS.aload X37.here hx rfl (hb hby at_32) rfl rfl k) ?_
      show Ends p e below s T37 (mkF m 34 #[.val (.int p0), .val (.int p1), .val (.int (1 : Int32)), .val (.int (1 : Int32)), .val (.ref w_READ), .val (.ref w_READ), .val (.ref w_READ), .unset, .unset] [(.ref w_READ), (.ref w_READ)]) _ _ _
      obtain ⟨cq38, kq38, q38a, q38b, q38c⟩ := isOf hZ e37q (E_READ.ext O0.2)
      obtain ⟨_, _, ⟨T38, L38, k38, n38⟩, -, X38, ⟨Lc38, hQ38, l38, y38, z38⟩, st38⟩ := X37.virtualBack hx (y := (⟨"com/example/usher_paths/usherpaths/Level", "max", "(Lcom/example/usher_paths/usherpaths/Level;)Lcom/example/usher_paths/usherpaths/Level;"⟩ : MethodName)) (z := (⟨"com/example/usher_paths/usherpaths/Level", "max", "(Lcom/example/usher_paths/usherpaths/Level;)Lcom/example/usher_paths/usherpaths/Level;"⟩ : MethodName)) hown (mvT hZ (hw _ (List.mem_of_getElem? (i := 13) rfl))) (mvT hZ (hw _ (List.mem_of_getElem? (i := 14) rfl))) (notFace_of_selects (args := #[]) (mvT hZ (hw _ (List.mem_of_getElem? (i := 16) rfl)))) (mvT hZ (hw _ (List.mem_of_getElem? (i := 16) rfl))) (mvT hZ (hw _ (List.mem_of_getElem? (i := 15) rfl))) (by decide) (own_backOf (W := 0) (rmM l Z a0 hw [] n0 h0 O0 w_READ w_READ w_NONE w_OWNER w_WRITE w_READ FF0 mr MM (1 : Int32) F_ordinal_READ E_READ (1 : Int32) F_ordinal_READ E_READ (1 : Int32) (by decide) w_READ (by simp)) hZ (hw _ (List.mem_of_getElem? (i := 17) rfl)) (hw _ (List.mem_of_getElem? (i := 5) rfl)) (by decide) (by decide)) q38a q38c (g := (mkF m 34 #[.val (.int p0), .val (.int p1), .val (.int (1 : Int32)), .val (.int (1 : Int32)), .val (.ref w_READ), .val (.ref w_READ), .val (.ref w_READ), .unset, .unset] [(.ref w_READ), (.ref w_READ)])) rfl (by rw [hml]; rfl) (Steps.refl _) (argsL := [(.ref w_READ)]) (rest := []) (lenOf pd0_2 rfl) rfl (by show 2 * 0 + _ ≤ _; exact Nat.le_of_eq rfl) (hb hby at_34) (fun _ _ => ⟨rfl, e37q, (by decide : 0 + 0 ≤ _), (by decide : 0 + 0 ≤ _)⟩)
      dsimp only [Pt.U, Pt.locs, Pt.cells, Pt.slots] at X38 l38 y38 z38 st38 hQ38
      subst l38 y38 z38
      obtain ⟨rfl, N38q, e38q⟩ := hQ38
      have N38 := Fr.app N37 N38q
      refine Ends.go (fun _ k => st38.trans k) ?_
      show Ends p e below s T38 (mkF m 37 #[.val (.int p0), .val (.int p1), .val (.int (1 : Int32)), .val (.int (1 : Int32)), .val (.ref w_READ), .val (.ref w_READ), .val (.ref w_READ), .unset, .unset] [(.ref w_READ)]) _ _ _
      refine Ends.go (fun _ k => XS.astore X38.here hx rfl (hb hby at_37) rfl rfl (l' := #[.val (.int p0), .val (.int p1), .val (.int (1 : Int32)), .val (.int (1 : Int32)), .val (.ref w_READ), .val (.ref w_READ), .val (.ref w_READ), .val (.ref w_READ), .unset]) rfl k) ?_
      show Ends p e below s T38 (mkF m 39 #[.val (.int p0), .val (.int p1), .val (.int (1 : Int32)), .val (.int (1 : Int32)), .val (.ref w_READ), .val (.ref w_READ), .val (.ref w_READ), .val (.ref w_READ), .unset] []) _ _ _
      refine Ends.go (fun _ k => XS.aload X38.here hx rfl (hb hby at_39) rfl rfl k) ?_
      show Ends p e below s T38 (mkF m 41 #[.val (.int p0), .val (.int p1), .val (.int (1 : Int32)), .val (.int (1 : Int32)), .val (.ref w_READ), .val (.ref w_READ), .val (.ref w_READ), .val (.ref w_READ), .unset] [(.ref w_READ)]) _ _ _
      refine Ends.go (fun _ k => XS.aload X38.here hx rfl (hb hby at_41) rfl rfl k) ?_
      show Ends p e below s T38 (mkF m 43 #[.val (.int p0), .val (.int p1), .val (.int (1 : Int32)), .val (.int (1 : Int32)), .val (.ref w_READ), .val (.ref w_READ), .val (.ref w_READ), .val (.ref w_READ), .unset] [(.ref w_READ), (.ref w_READ)]) _ _ _
      obtain ⟨cq39, kq39, q39a, q39b, q39c⟩ := isOf hZ e38q (E_READ.ext O0.2)
      obtain ⟨_, _, ⟨T39, L39, k39, n39⟩, -, X39, ⟨Lc39, hQ39, l39, y39, z39⟩, st39⟩ := X38.virtualBack hx (y := (⟨"com/example/usher_paths/usherpaths/Level", "max", "(Lcom/example/usher_paths/usherpaths/Level;)Lcom/example/usher_paths/usherpaths/Level;"⟩ : MethodName)) (z := (⟨"com/example/usher_paths/usherpaths/Level", "max", "(Lcom/example/usher_paths/usherpaths/Level;)Lcom/example/usher_paths/usherpaths/Level;"⟩ : MethodName)) hown (mvT hZ (hw _ (List.mem_of_getElem? (i := 13) rfl))) (mvT hZ (hw _ (List.mem_of_getElem? (i := 14) rfl))) (notFace_of_selects (args := #[]) (mvT hZ (hw _ (List.mem_of_getElem? (i := 16) rfl)))) (mvT hZ (hw _ (List.mem_of_getElem? (i := 16) rfl))) (mvT hZ (hw _ (List.mem_of_getElem? (i := 15) rfl))) (by decide) (own_backOf (W := 0) (rmM l Z a0 hw [] n0 h0 O0 w_READ w_READ w_NONE w_OWNER w_WRITE w_READ FF0 mr MM (1 : Int32) F_ordinal_READ E_READ (1 : Int32) F_ordinal_READ E_READ (1 : Int32) (by decide) w_READ (by simp)) hZ (hw _ (List.mem_of_getElem? (i := 17) rfl)) (hw _ (List.mem_of_getElem? (i := 5) rfl)) (by decide) (by decide)) q39a q39c (g := (mkF m 43 #[.val (.int p0), .val (.int p1), .val (.int (1 : Int32)), .val (.int (1 : Int32)), .val (.ref w_READ), .val (.ref w_READ), .val (.ref w_READ), .val (.ref w_READ), .unset] [(.ref w_READ), (.ref w_READ)])) rfl (by rw [hml]; rfl) (Steps.refl _) (argsL := [(.ref w_READ)]) (rest := []) (lenOf pd0_2 rfl) rfl (by show 2 * 0 + _ ≤ _; exact Nat.le_of_eq rfl) (hb hby at_43) (fun _ _ => ⟨rfl, e38q, (by decide : 0 + 0 ≤ _), (by decide : 0 + 0 ≤ _)⟩)
      dsimp only [Pt.U, Pt.locs, Pt.cells, Pt.slots] at X39 l39 y39 z39 st39 hQ39
      subst l39 y39 z39
      obtain ⟨rfl, N39q, e39q⟩ := hQ39
      have N39 := Fr.app N38 N39q
      refine Ends.go (fun _ k => st39.trans k) ?_
      show Ends p e below s T39 (mkF m 46 #[.val (.int p0), .val (.int p1), .val (.int (1 : Int32)), .val (.int (1 : Int32)), .val (.ref w_READ), .val (.ref w_READ), .val (.ref w_READ), .val (.ref w_READ), .unset] [(.ref w_READ)]) _ _ _
      refine Ends.go (fun _ k => XS.astore X39.here hx rfl (hb hby at_46) rfl rfl (l' := #[.val (.int p0), .val (.int p1), .val (.int (1 : Int32)), .val (.int (1 : Int32)), .val (.ref w_READ), .val (.ref w_READ), .val (.ref w_READ), .val (.ref w_READ), .val (.ref w_READ)]) rfl k) ?_
      show Ends p e below s T39 (mkF m 48 #[.val (.int p0), .val (.int p1), .val (.int (1 : Int32)), .val (.int (1 : Int32)), .val (.ref w_READ), .val (.ref w_READ), .val (.ref w_READ), .val (.ref w_READ), .val (.ref w_READ)] []) _ _ _
      refine Ends.go (fun _ k => XS.aload X39.here hx rfl (hb hby at_48) rfl rfl k) ?_
      show Ends p e below s T39 (mkF m 50 #[.val (.int p0), .val (.int p1), .val (.int (1 : Int32)), .val (.int (1 : Int32)), .val (.ref w_READ), .val (.ref w_READ), .val (.ref w_READ), .val (.ref w_READ), .val (.ref w_READ)] [(.ref w_READ)]) _ _ _
      refine Ends.go (fun _ k => XS.aload X39.here hx rfl (hb hby at_50) rfl rfl k) ?_
      show Ends p e below s T39 (mkF m 52 #[.val (.int p0), .val (.int p1), .val (.int (1 : Int32)), .val (.int (1 : Int32)), .val (.ref w_READ), .val (.ref w_READ), .val (.ref w_READ), .val (.ref w_READ), .val (.ref w_READ)] [(.ref w_READ), (.ref w_READ)]) _ _ _
      refine Ends.go (fun _ k => Jvm.RoadKit.acmp (g := (mkF m 52 #[.val (.int p0), .val (.int p1), .val (.int (1 : Int32)), .val (.int (1 : Int32)), .val (.ref w_READ), .val (.ref w_READ), .val (.ref w_READ), .val (.ref w_READ), .val (.ref w_READ)] [(.ref w_READ), (.ref w_READ)])) X39 hx rfl rfl rfl (pc0 := 52) (pc' := 55) (same := true) rfl (hb hby at_52) rfl (decide_eq_true rfl) (by decide) (by decide) k) ?_
      show Ends p e below s T39 (mkF m 55 #[.val (.int p0), .val (.int p1), .val (.int (1 : Int32)), .val (.int (1 : Int32)), .val (.ref w_READ), .val (.ref w_READ), .val (.ref w_READ), .val (.ref w_READ), .val (.ref w_READ)] []) _ _ _
      refine Ends.go (fun _ k => XS.aload X39.here hx rfl (hb hby at_55) rfl rfl k) ?_
      show Ends p e below s T39 (mkF m 57 #[.val (.int p0), .val (.int p1), .val (.int (1 : Int32)), .val (.int (1 : Int32)), .val (.ref w_READ), .val (.ref w_READ), .val (.ref w_READ), .val (.ref w_READ), .val (.ref w_READ)] [(.ref w_READ)]) _ _ _
      refine Ends.go (fun _ k => XS.aload X39.here hx rfl (hb hby at_57) rfl rfl k) ?_
      show Ends p e below s T39 (mkF m 59 #[.val (.int p0), .val (.int p1), .val (.int (1 : Int32)), .val (.int (1 : Int32)), .val (.ref w_READ), .val (.ref w_READ), .val (.ref w_READ), .val (.ref w_READ), .val (.ref w_READ)] [(.ref w_READ), (.ref w_READ)]) _ _ _
      refine Ends.go (fun _ k => Jvm.RoadKit.acmp (g := (mkF m 59 #[.val (.int p0), .val (.int p1), .val (.int (1 : Int32)), .val (.int (1 : Int32)), .val (.ref w_READ), .val (.ref w_READ), .val (.ref w_READ), .val (.ref w_READ), .val (.ref w_READ)] [(.ref w_READ), (.ref w_READ)])) X39 hx rfl rfl rfl (pc0 := 59) (pc' := 62) (same := true) rfl (hb hby at_59) rfl (decide_eq_true rfl) (by decide) (by decide) k) ?_
      show Ends p e below s T39 (mkF m 62 #[.val (.int p0), .val (.int p1), .val (.int (1 : Int32)), .val (.int (1 : Int32)), .val (.ref w_READ), .val (.ref w_READ), .val (.ref w_READ), .val (.ref w_READ), .val (.ref w_READ)] []) _ _ _
      refine Ends.go (fun _ k => XS.iconst X39.here hx rfl (hb hby at_62) k) ?_
      show Ends p e below s T39 (mkF m 63 #[.val (.int p0), .val (.int p1), .val (.int (1 : Int32)), .val (.int (1 : Int32)), .val (.ref w_READ), .val (.ref w_READ), .val (.ref w_READ), .val (.ref w_READ), .val (.ref w_READ)] [(.int (1 : Int32))]) _ _ _
      refine Ends.go (fun _ k => XS.goto X39.here hx rfl (pc0 := 63) (pc' := 67) rfl (hb hby at_63) (by decide) (by decide) k) ?_
      show Ends p e below s T39 (mkF m 67 #[.val (.int p0), .val (.int p1), .val (.int (1 : Int32)), .val (.int (1 : Int32)), .val (.ref w_READ), .val (.ref w_READ), .val (.ref w_READ), .val (.ref w_READ), .val (.ref w_READ)] [(.int (1 : Int32))]) _ _ _
      refine Ends.retZ X39 hx Bd.notSynchronized (t := .boolean) Bd.returns (by simp) (hb hby at_67) (by decide) (by decide) ?_
      exact ⟨rfl, N39⟩
    · show Ends p e below s s₁ (mkF m 7 #[.val (.int p0), .val (.int p1), .val (.int (1 : Int32)), .unset, .unset, .unset, .unset, .unset, .unset] [(.int (2 : Int32))]) _ _ _
      refine Ends.go (fun _ k => XS.istoreN X0.here hx rfl (hb hby at_7) rfl (l' := #[.val (.int p0), .val (.int p1), .val (.int (1 : Int32)), .val (.int (2 : Int32)), .unset, .unset, .unset, .unset, .unset]) rfl k) ?_
      show Ends p e below s s₁ (mkF m 8 #[.val (.int p0), .val (.int p1), .val (.int (1 : Int32)), .val (.int (2 : Int32)), .unset, .unset, .unset, .unset, .unset] []) _ _ _
      refine Ends.go (fun _ k => XS.iloadN X0.here hx rfl (hb hby at_8) rfl k) ?_
      show Ends p e below s s₁ (mkF m 9 #[.val (.int p0), .val (.int p1), .val (.int (1 : Int32)), .val (.int (2 : Int32)), .unset, .unset, .unset, .unset, .unset] [(.int (1 : Int32))]) _ _ _
      obtain ⟨_, _, ⟨T40, L40, k40, n40⟩, -, X40, ⟨Lc40, hQ40, l40, y40, z40⟩, st40⟩ := Jvm.LawKit.callS X0 hx (y := (⟨"com/example/usher_paths/usherpaths/LevelMaxPinLaw", "pick", "(I)Lcom/example/usher_paths/usherpaths/Level;"⟩ : MethodName)) hown (mvT hZ (hw _ (List.mem_of_getElem? (i := 0) rfl))) (mvT hZ (hw _ (List.mem_of_getElem? (i := 1) rfl))) (mvT hZ (hw _ (List.mem_of_getElem? (i := 2) rfl))) (mvT hZ (hw _ (List.mem_of_getElem? (i := 3) rfl))) (by decide) (own_backOf (W := 0) (rmP l Z a0 hw [] n0 h0 O0 (1 : Int32) w_NONE w_OWNER w_WRITE w_READ FF0 mr MM w_READ (by simp)) hZ (hw _ (List.mem_of_getElem? (i := 3) rfl)) (hw _ (List.mem_of_getElem? (i := 2) rfl)) (by decide) (by decide)) (g := (mkF m 9 #[.val (.int p0), .val (.int p1), .val (.int (1 : Int32)), .val (.int (2 : Int32)), .unset, .unset, .unset, .unset, .unset] [(.int (1 : Int32))])) rfl (by rw [hml]; rfl) (argsL := [(.int (1 : Int32))]) (rest := []) (lenOf pd0_0 rfl) rfl (by show 2 * 0 + _ ≤ _; exact Nat.le_of_eq rfl) (hb hby at_9) (fun _ _ => ⟨rfl, e0, (by decide : 0 + 0 ≤ _), (by decide : 0 + 0 ≤ _)⟩)
      dsimp only [Pt.U, Pt.locs, Pt.cells, Pt.slots] at X40 l40 y40 z40 st40 hQ40
      subst l40 y40 z40
      obtain ⟨rfl, N40q, e40q⟩ := hQ40
      have N40 := Fr.app N0 N40q
      refine Ends.go st40 ?_
      show Ends p e below s T40 (mkF m 12 #[.val (.int p0), .val (.int p1), .val (.int (1 : Int32)), .val (.int (2 : Int32)), .unset, .unset, .unset, .unset, .unset] [(.ref w_READ)]) _ _ _
      refine Ends.go (fun _ k => XS.astore X40.here hx rfl (hb hby at_12) rfl rfl (l' := #[.val (.int p0), .val (.int p1), .val (.int (1 : Int32)), .val (.int (2 : Int32)), .val (.ref w_READ), .unset, .unset, .unset, .unset]) rfl k) ?_
      show Ends p e below s T40 (mkF m 14 #[.val (.int p0), .val (.int p1), .val (.int (1 : Int32)), .val (.int (2 : Int32)), .val (.ref w_READ), .unset, .unset, .unset, .unset] []) _ _ _
      refine Ends.go (fun _ k => XS.iloadN X40.here hx rfl (hb hby at_14) rfl k) ?_
      show Ends p e below s T40 (mkF m 15 #[.val (.int p0), .val (.int p1), .val (.int (1 : Int32)), .val (.int (2 : Int32)), .val (.ref w_READ), .unset, .unset, .unset, .unset] [(.int (2 : Int32))]) _ _ _
      obtain ⟨_, _, ⟨T41, L41, k41, n41⟩, -, X41, ⟨Lc41, hQ41, l41, y41, z41⟩, st41⟩ := Jvm.LawKit.callS X40 hx (y := (⟨"com/example/usher_paths/usherpaths/LevelMaxPinLaw", "pick", "(I)Lcom/example/usher_paths/usherpaths/Level;"⟩ : MethodName)) hown (mvT hZ (hw _ (List.mem_of_getElem? (i := 0) rfl))) (mvT hZ (hw _ (List.mem_of_getElem? (i := 1) rfl))) (mvT hZ (hw _ (List.mem_of_getElem? (i := 2) rfl))) (mvT hZ (hw _ (List.mem_of_getElem? (i := 3) rfl))) (by decide) (own_backOf (W := 0) (rmP l Z a0 hw [] n0 h0 O0 (2 : Int32) w_NONE w_OWNER w_WRITE w_READ FF0 mr MM w_WRITE (by simp)) hZ (hw _ (List.mem_of_getElem? (i := 3) rfl)) (hw _ (List.mem_of_getElem? (i := 2) rfl)) (by decide) (by decide)) (g := (mkF m 15 #[.val (.int p0), .val (.int p1), .val (.int (1 : Int32)), .val (.int (2 : Int32)), .val (.ref w_READ), .unset, .unset, .unset, .unset] [(.int (2 : Int32))])) rfl (by rw [hml]; rfl) (argsL := [(.int (2 : Int32))]) (rest := []) (lenOf pd0_0 rfl) rfl (by show 2 * 0 + _ ≤ _; exact Nat.le_of_eq rfl) (hb hby at_15) (fun _ _ => ⟨rfl, e40q, (by decide : 0 + 0 ≤ _), (by decide : 0 + 0 ≤ _)⟩)
      dsimp only [Pt.U, Pt.locs, Pt.cells, Pt.slots] at X41 l41 y41 z41 st41 hQ41
      subst l41 y41 z41
      obtain ⟨rfl, N41q, e41q⟩ := hQ41
      have N41 := Fr.app N40 N41q
      refine Ends.go st41 ?_
      show Ends p e below s T41 (mkF m 18 #[.val (.int p0), .val (.int p1), .val (.int (1 : Int32)), .val (.int (2 : Int32)), .val (.ref w_READ), .unset, .unset, .unset, .unset] [(.ref w_WRITE)]) _ _ _
      refine Ends.go (fun _ k => XS.astore X41.here hx rfl (hb hby at_18) rfl rfl (l' := #[.val (.int p0), .val (.int p1), .val (.int (1 : Int32)), .val (.int (2 : Int32)), .val (.ref w_READ), .val (.ref w_WRITE), .unset, .unset, .unset]) rfl k) ?_
      show Ends p e below s T41 (mkF m 20 #[.val (.int p0), .val (.int p1), .val (.int (1 : Int32)), .val (.int (2 : Int32)), .val (.ref w_READ), .val (.ref w_WRITE), .unset, .unset, .unset] []) _ _ _
      refine Ends.go (fun _ k => XS.iloadN X41.here hx rfl (hb hby at_20) rfl k) ?_
      show Ends p e below s T41 (mkF m 21 #[.val (.int p0), .val (.int p1), .val (.int (1 : Int32)), .val (.int (2 : Int32)), .val (.ref w_READ), .val (.ref w_WRITE), .unset, .unset, .unset] [(.int (1 : Int32))]) _ _ _
      refine Ends.go (fun _ k => XS.iloadN X41.here hx rfl (hb hby at_21) rfl k) ?_
      show Ends p e below s T41 (mkF m 22 #[.val (.int p0), .val (.int p1), .val (.int (1 : Int32)), .val (.int (2 : Int32)), .val (.ref w_READ), .val (.ref w_WRITE), .unset, .unset, .unset] [(.int (2 : Int32)), (.int (1 : Int32))]) _ _ _
      obtain ⟨_, _, ⟨T42, L42, k42, n42⟩, -, X42, ⟨Lc42, hQ42, l42, y42, z42⟩, st42⟩ := Jvm.LawKit.callS X41 hx (y := (⟨"java/lang/Math", "max", "(II)I"⟩ : MethodName)) hown (mvT hZ (hw _ (List.mem_of_getElem? (i := 9) rfl))) (mvT hZ (hw _ (List.mem_of_getElem? (i := 10) rfl))) (mvT hZ (hw _ (List.mem_of_getElem? (i := 11) rfl))) (mvT hZ (hw _ (List.mem_of_getElem? (i := 12) rfl))) (by decide) (own_backOf (W := 0) (rmX l Z a0 hw [] n0 h0 O0 (1 : Int32) (2 : Int32) w_NONE w_OWNER w_WRITE w_READ FF0 mr MM (2 : Int32) (by decide)) hZ (hw _ (List.mem_of_getElem? (i := 12) rfl)) (hw _ (List.mem_of_getElem? (i := 11) rfl)) (by decide) (by decide)) (g := (mkF m 22 #[.val (.int p0), .val (.int p1), .val (.int (1 : Int32)), .val (.int (2 : Int32)), .val (.ref w_READ), .val (.ref w_WRITE), .unset, .unset, .unset] [(.int (2 : Int32)), (.int (1 : Int32))])) rfl (by rw [hml]; rfl) (argsL := [(.int (1 : Int32)), (.int (2 : Int32))]) (rest := []) (lenOf pd0_1 rfl) rfl (by show 2 * 0 + _ ≤ _; exact Nat.le_of_eq rfl) (hb hby at_22) (fun _ _ => ⟨rfl, e41q, (by decide : 0 + 0 ≤ _), (by decide : 0 + 0 ≤ _)⟩)
      dsimp only [Pt.U, Pt.locs, Pt.cells, Pt.slots] at X42 l42 y42 z42 st42 hQ42
      subst l42 y42 z42
      obtain ⟨rfl, N42q, e42q⟩ := hQ42
      have N42 := Fr.app N41 N42q
      refine Ends.go st42 ?_
      show Ends p e below s T42 (mkF m 25 #[.val (.int p0), .val (.int p1), .val (.int (1 : Int32)), .val (.int (2 : Int32)), .val (.ref w_READ), .val (.ref w_WRITE), .unset, .unset, .unset] [(.int (2 : Int32))]) _ _ _
      obtain ⟨_, _, ⟨T43, L43, k43, n43⟩, -, X43, ⟨Lc43, hQ43, l43, y43, z43⟩, st43⟩ := Jvm.LawKit.callS X42 hx (y := (⟨"com/example/usher_paths/usherpaths/LevelMaxPinLaw", "pick", "(I)Lcom/example/usher_paths/usherpaths/Level;"⟩ : MethodName)) hown (mvT hZ (hw _ (List.mem_of_getElem? (i := 0) rfl))) (mvT hZ (hw _ (List.mem_of_getElem? (i := 1) rfl))) (mvT hZ (hw _ (List.mem_of_getElem? (i := 2) rfl))) (mvT hZ (hw _ (List.mem_of_getElem? (i := 3) rfl))) (by decide) (own_backOf (W := 0) (rmP l Z a0 hw [] n0 h0 O0 (2 : Int32) w_NONE w_OWNER w_WRITE w_READ FF0 mr MM w_WRITE (by simp)) hZ (hw _ (List.mem_of_getElem? (i := 3) rfl)) (hw _ (List.mem_of_getElem? (i := 2) rfl)) (by decide) (by decide)) (g := (mkF m 25 #[.val (.int p0), .val (.int p1), .val (.int (1 : Int32)), .val (.int (2 : Int32)), .val (.ref w_READ), .val (.ref w_WRITE), .unset, .unset, .unset] [(.int (2 : Int32))])) rfl (by rw [hml]; rfl) (argsL := [(.int (2 : Int32))]) (rest := []) (lenOf pd0_0 rfl) rfl (by show 2 * 0 + _ ≤ _; exact Nat.le_of_eq rfl) (hb hby at_25) (fun _ _ => ⟨rfl, e42q, (by decide : 0 + 0 ≤ _), (by decide : 0 + 0 ≤ _)⟩)
      dsimp only [Pt.U, Pt.locs, Pt.cells, Pt.slots] at X43 l43 y43 z43 st43 hQ43
      subst l43 y43 z43
      obtain ⟨rfl, N43q, e43q⟩ := hQ43
      have N43 := Fr.app N42 N43q
      refine Ends.go st43 ?_
      show Ends p e below s T43 (mkF m 28 #[.val (.int p0), .val (.int p1), .val (.int (1 : Int32)), .val (.int (2 : Int32)), .val (.ref w_READ), .val (.ref w_WRITE), .unset, .unset, .unset] [(.ref w_WRITE)]) _ _ _
      refine Ends.go (fun _ k => XS.astore X43.here hx rfl (hb hby at_28) rfl rfl (l' := #[.val (.int p0), .val (.int p1), .val (.int (1 : Int32)), .val (.int (2 : Int32)), .val (.ref w_READ), .val (.ref w_WRITE), .val (.ref w_WRITE), .unset, .unset]) rfl k) ?_
      show Ends p e below s T43 (mkF m 30 #[.val (.int p0), .val (.int p1), .val (.int (1 : Int32)), .val (.int (2 : Int32)), .val (.ref w_READ), .val (.ref w_WRITE), .val (.ref w_WRITE), .unset, .unset] []) _ _ _
      refine Ends.go (fun _ k => XS.aload X43.here hx rfl (hb hby at_30) rfl rfl k) ?_
      show Ends p e below s T43 (mkF m 32 #[.val (.int p0), .val (.int p1), .val (.int (1 : Int32)), .val (.int (2 : Int32)), .val (.ref w_READ), .val (.ref w_WRITE), .val (.ref w_WRITE), .unset, .unset] [(.ref w_READ)]) _ _ _
      refine Ends.go (fun _ k => XS.aload X43.here hx rfl (hb hby at_32) rfl rfl k) ?_
      show Ends p e below s T43 (mkF m 34 #[.val (.int p0), .val (.int p1), .val (.int (1 : Int32)), .val (.int (2 : Int32)), .val (.ref w_READ), .val (.ref w_WRITE), .val (.ref w_WRITE), .unset, .unset] [(.ref w_WRITE), (.ref w_READ)]) _ _ _
      obtain ⟨cq44, kq44, q44a, q44b, q44c⟩ := isOf hZ e43q (E_READ.ext O0.2)
      obtain ⟨_, _, ⟨T44, L44, k44, n44⟩, -, X44, ⟨Lc44, hQ44, l44, y44, z44⟩, st44⟩ := X43.virtualBack hx (y := (⟨"com/example/usher_paths/usherpaths/Level", "max", "(Lcom/example/usher_paths/usherpaths/Level;)Lcom/example/usher_paths/usherpaths/Level;"⟩ : MethodName)) (z := (⟨"com/example/usher_paths/usherpaths/Level", "max", "(Lcom/example/usher_paths/usherpaths/Level;)Lcom/example/usher_paths/usherpaths/Level;"⟩ : MethodName)) hown (mvT hZ (hw _ (List.mem_of_getElem? (i := 13) rfl))) (mvT hZ (hw _ (List.mem_of_getElem? (i := 14) rfl))) (notFace_of_selects (args := #[]) (mvT hZ (hw _ (List.mem_of_getElem? (i := 16) rfl)))) (mvT hZ (hw _ (List.mem_of_getElem? (i := 16) rfl))) (mvT hZ (hw _ (List.mem_of_getElem? (i := 15) rfl))) (by decide) (own_backOf (W := 0) (rmM l Z a0 hw [] n0 h0 O0 w_READ w_WRITE w_NONE w_OWNER w_WRITE w_READ FF0 mr MM (1 : Int32) F_ordinal_READ E_READ (2 : Int32) F_ordinal_WRITE E_WRITE (0 : Int32) (by decide) w_WRITE (by simp)) hZ (hw _ (List.mem_of_getElem? (i := 17) rfl)) (hw _ (List.mem_of_getElem? (i := 5) rfl)) (by decide) (by decide)) q44a q44c (g := (mkF m 34 #[.val (.int p0), .val (.int p1), .val (.int (1 : Int32)), .val (.int (2 : Int32)), .val (.ref w_READ), .val (.ref w_WRITE), .val (.ref w_WRITE), .unset, .unset] [(.ref w_WRITE), (.ref w_READ)])) rfl (by rw [hml]; rfl) (Steps.refl _) (argsL := [(.ref w_WRITE)]) (rest := []) (lenOf pd0_2 rfl) rfl (by show 2 * 0 + _ ≤ _; exact Nat.le_of_eq rfl) (hb hby at_34) (fun _ _ => ⟨rfl, e43q, (by decide : 0 + 0 ≤ _), (by decide : 0 + 0 ≤ _)⟩)
      dsimp only [Pt.U, Pt.locs, Pt.cells, Pt.slots] at X44 l44 y44 z44 st44 hQ44
      subst l44 y44 z44
      obtain ⟨rfl, N44q, e44q⟩ := hQ44
      have N44 := Fr.app N43 N44q
      refine Ends.go (fun _ k => st44.trans k) ?_
      show Ends p e below s T44 (mkF m 37 #[.val (.int p0), .val (.int p1), .val (.int (1 : Int32)), .val (.int (2 : Int32)), .val (.ref w_READ), .val (.ref w_WRITE), .val (.ref w_WRITE), .unset, .unset] [(.ref w_WRITE)]) _ _ _
      refine Ends.go (fun _ k => XS.astore X44.here hx rfl (hb hby at_37) rfl rfl (l' := #[.val (.int p0), .val (.int p1), .val (.int (1 : Int32)), .val (.int (2 : Int32)), .val (.ref w_READ), .val (.ref w_WRITE), .val (.ref w_WRITE), .val (.ref w_WRITE), .unset]) rfl k) ?_
      show Ends p e below s T44 (mkF m 39 #[.val (.int p0), .val (.int p1), .val (.int (1 : Int32)), .val (.int (2 : Int32)), .val (.ref w_READ), .val (.ref w_WRITE), .val (.ref w_WRITE), .val (.ref w_WRITE), .unset] []) _ _ _
      refine Ends.go (fun _ k => XS.aload X44.here hx rfl (hb hby at_39) rfl rfl k) ?_
      show Ends p e below s T44 (mkF m 41 #[.val (.int p0), .val (.int p1), .val (.int (1 : Int32)), .val (.int (2 : Int32)), .val (.ref w_READ), .val (.ref w_WRITE), .val (.ref w_WRITE), .val (.ref w_WRITE), .unset] [(.ref w_WRITE)]) _ _ _
      refine Ends.go (fun _ k => XS.aload X44.here hx rfl (hb hby at_41) rfl rfl k) ?_
      show Ends p e below s T44 (mkF m 43 #[.val (.int p0), .val (.int p1), .val (.int (1 : Int32)), .val (.int (2 : Int32)), .val (.ref w_READ), .val (.ref w_WRITE), .val (.ref w_WRITE), .val (.ref w_WRITE), .unset] [(.ref w_READ), (.ref w_WRITE)]) _ _ _
      obtain ⟨cq45, kq45, q45a, q45b, q45c⟩ := isOf hZ e44q (E_WRITE.ext O0.2)
      obtain ⟨_, _, ⟨T45, L45, k45, n45⟩, -, X45, ⟨Lc45, hQ45, l45, y45, z45⟩, st45⟩ := X44.virtualBack hx (y := (⟨"com/example/usher_paths/usherpaths/Level", "max", "(Lcom/example/usher_paths/usherpaths/Level;)Lcom/example/usher_paths/usherpaths/Level;"⟩ : MethodName)) (z := (⟨"com/example/usher_paths/usherpaths/Level", "max", "(Lcom/example/usher_paths/usherpaths/Level;)Lcom/example/usher_paths/usherpaths/Level;"⟩ : MethodName)) hown (mvT hZ (hw _ (List.mem_of_getElem? (i := 13) rfl))) (mvT hZ (hw _ (List.mem_of_getElem? (i := 14) rfl))) (notFace_of_selects (args := #[]) (mvT hZ (hw _ (List.mem_of_getElem? (i := 16) rfl)))) (mvT hZ (hw _ (List.mem_of_getElem? (i := 16) rfl))) (mvT hZ (hw _ (List.mem_of_getElem? (i := 15) rfl))) (by decide) (own_backOf (W := 0) (rmM l Z a0 hw [] n0 h0 O0 w_WRITE w_READ w_NONE w_OWNER w_WRITE w_READ FF0 mr MM (2 : Int32) F_ordinal_WRITE E_WRITE (1 : Int32) F_ordinal_READ E_READ (1 : Int32) (by decide) w_WRITE (by simp)) hZ (hw _ (List.mem_of_getElem? (i := 17) rfl)) (hw _ (List.mem_of_getElem? (i := 5) rfl)) (by decide) (by decide)) q45a q45c (g := (mkF m 43 #[.val (.int p0), .val (.int p1), .val (.int (1 : Int32)), .val (.int (2 : Int32)), .val (.ref w_READ), .val (.ref w_WRITE), .val (.ref w_WRITE), .val (.ref w_WRITE), .unset] [(.ref w_READ), (.ref w_WRITE)])) rfl (by rw [hml]; rfl) (Steps.refl _) (argsL := [(.ref w_READ)]) (rest := []) (lenOf pd0_2 rfl) rfl (by show 2 * 0 + _ ≤ _; exact Nat.le_of_eq rfl) (hb hby at_43) (fun _ _ => ⟨rfl, e44q, (by decide : 0 + 0 ≤ _), (by decide : 0 + 0 ≤ _)⟩)
      dsimp only [Pt.U, Pt.locs, Pt.cells, Pt.slots] at X45 l45 y45 z45 st45 hQ45
      subst l45 y45 z45
      obtain ⟨rfl, N45q, e45q⟩ := hQ45
      have N45 := Fr.app N44 N45q
      refine Ends.go (fun _ k => st45.trans k) ?_
      show Ends p e below s T45 (mkF m 46 #[.val (.int p0), .val (.int p1), .val (.int (1 : Int32)), .val (.int (2 : Int32)), .val (.ref w_READ), .val (.ref w_WRITE), .val (.ref w_WRITE), .val (.ref w_WRITE), .unset] [(.ref w_WRITE)]) _ _ _
      refine Ends.go (fun _ k => XS.astore X45.here hx rfl (hb hby at_46) rfl rfl (l' := #[.val (.int p0), .val (.int p1), .val (.int (1 : Int32)), .val (.int (2 : Int32)), .val (.ref w_READ), .val (.ref w_WRITE), .val (.ref w_WRITE), .val (.ref w_WRITE), .val (.ref w_WRITE)]) rfl k) ?_
      show Ends p e below s T45 (mkF m 48 #[.val (.int p0), .val (.int p1), .val (.int (1 : Int32)), .val (.int (2 : Int32)), .val (.ref w_READ), .val (.ref w_WRITE), .val (.ref w_WRITE), .val (.ref w_WRITE), .val (.ref w_WRITE)] []) _ _ _
      refine Ends.go (fun _ k => XS.aload X45.here hx rfl (hb hby at_48) rfl rfl k) ?_
      show Ends p e below s T45 (mkF m 50 #[.val (.int p0), .val (.int p1), .val (.int (1 : Int32)), .val (.int (2 : Int32)), .val (.ref w_READ), .val (.ref w_WRITE), .val (.ref w_WRITE), .val (.ref w_WRITE), .val (.ref w_WRITE)] [(.ref w_WRITE)]) _ _ _
      refine Ends.go (fun _ k => XS.aload X45.here hx rfl (hb hby at_50) rfl rfl k) ?_
      show Ends p e below s T45 (mkF m 52 #[.val (.int p0), .val (.int p1), .val (.int (1 : Int32)), .val (.int (2 : Int32)), .val (.ref w_READ), .val (.ref w_WRITE), .val (.ref w_WRITE), .val (.ref w_WRITE), .val (.ref w_WRITE)] [(.ref w_WRITE), (.ref w_WRITE)]) _ _ _
      refine Ends.go (fun _ k => Jvm.RoadKit.acmp (g := (mkF m 52 #[.val (.int p0), .val (.int p1), .val (.int (1 : Int32)), .val (.int (2 : Int32)), .val (.ref w_READ), .val (.ref w_WRITE), .val (.ref w_WRITE), .val (.ref w_WRITE), .val (.ref w_WRITE)] [(.ref w_WRITE), (.ref w_WRITE)])) X45 hx rfl rfl rfl (pc0 := 52) (pc' := 55) (same := true) rfl (hb hby at_52) rfl (decide_eq_true rfl) (by decide) (by decide) k) ?_
      show Ends p e below s T45 (mkF m 55 #[.val (.int p0), .val (.int p1), .val (.int (1 : Int32)), .val (.int (2 : Int32)), .val (.ref w_READ), .val (.ref w_WRITE), .val (.ref w_WRITE), .val (.ref w_WRITE), .val (.ref w_WRITE)] []) _ _ _
      refine Ends.go (fun _ k => XS.aload X45.here hx rfl (hb hby at_55) rfl rfl k) ?_
      show Ends p e below s T45 (mkF m 57 #[.val (.int p0), .val (.int p1), .val (.int (1 : Int32)), .val (.int (2 : Int32)), .val (.ref w_READ), .val (.ref w_WRITE), .val (.ref w_WRITE), .val (.ref w_WRITE), .val (.ref w_WRITE)] [(.ref w_WRITE)]) _ _ _
      refine Ends.go (fun _ k => XS.aload X45.here hx rfl (hb hby at_57) rfl rfl k) ?_
      show Ends p e below s T45 (mkF m 59 #[.val (.int p0), .val (.int p1), .val (.int (1 : Int32)), .val (.int (2 : Int32)), .val (.ref w_READ), .val (.ref w_WRITE), .val (.ref w_WRITE), .val (.ref w_WRITE), .val (.ref w_WRITE)] [(.ref w_WRITE), (.ref w_WRITE)]) _ _ _
      refine Ends.go (fun _ k => Jvm.RoadKit.acmp (g := (mkF m 59 #[.val (.int p0), .val (.int p1), .val (.int (1 : Int32)), .val (.int (2 : Int32)), .val (.ref w_READ), .val (.ref w_WRITE), .val (.ref w_WRITE), .val (.ref w_WRITE), .val (.ref w_WRITE)] [(.ref w_WRITE), (.ref w_WRITE)])) X45 hx rfl rfl rfl (pc0 := 59) (pc' := 62) (same := true) rfl (hb hby at_59) rfl (decide_eq_true rfl) (by decide) (by decide) k) ?_
      show Ends p e below s T45 (mkF m 62 #[.val (.int p0), .val (.int p1), .val (.int (1 : Int32)), .val (.int (2 : Int32)), .val (.ref w_READ), .val (.ref w_WRITE), .val (.ref w_WRITE), .val (.ref w_WRITE), .val (.ref w_WRITE)] []) _ _ _
      refine Ends.go (fun _ k => XS.iconst X45.here hx rfl (hb hby at_62) k) ?_
      show Ends p e below s T45 (mkF m 63 #[.val (.int p0), .val (.int p1), .val (.int (1 : Int32)), .val (.int (2 : Int32)), .val (.ref w_READ), .val (.ref w_WRITE), .val (.ref w_WRITE), .val (.ref w_WRITE), .val (.ref w_WRITE)] [(.int (1 : Int32))]) _ _ _
      refine Ends.go (fun _ k => XS.goto X45.here hx rfl (pc0 := 63) (pc' := 67) rfl (hb hby at_63) (by decide) (by decide) k) ?_
      show Ends p e below s T45 (mkF m 67 #[.val (.int p0), .val (.int p1), .val (.int (1 : Int32)), .val (.int (2 : Int32)), .val (.ref w_READ), .val (.ref w_WRITE), .val (.ref w_WRITE), .val (.ref w_WRITE), .val (.ref w_WRITE)] [(.int (1 : Int32))]) _ _ _
      refine Ends.retZ X45 hx Bd.notSynchronized (t := .boolean) Bd.returns (by simp) (hb hby at_67) (by decide) (by decide) ?_
      exact ⟨rfl, N45⟩
    · show Ends p e below s s₁ (mkF m 7 #[.val (.int p0), .val (.int p1), .val (.int (1 : Int32)), .unset, .unset, .unset, .unset, .unset, .unset] [(.int (3 : Int32))]) _ _ _
      refine Ends.go (fun _ k => XS.istoreN X0.here hx rfl (hb hby at_7) rfl (l' := #[.val (.int p0), .val (.int p1), .val (.int (1 : Int32)), .val (.int (3 : Int32)), .unset, .unset, .unset, .unset, .unset]) rfl k) ?_
      show Ends p e below s s₁ (mkF m 8 #[.val (.int p0), .val (.int p1), .val (.int (1 : Int32)), .val (.int (3 : Int32)), .unset, .unset, .unset, .unset, .unset] []) _ _ _
      refine Ends.go (fun _ k => XS.iloadN X0.here hx rfl (hb hby at_8) rfl k) ?_
      show Ends p e below s s₁ (mkF m 9 #[.val (.int p0), .val (.int p1), .val (.int (1 : Int32)), .val (.int (3 : Int32)), .unset, .unset, .unset, .unset, .unset] [(.int (1 : Int32))]) _ _ _
      obtain ⟨_, _, ⟨T46, L46, k46, n46⟩, -, X46, ⟨Lc46, hQ46, l46, y46, z46⟩, st46⟩ := Jvm.LawKit.callS X0 hx (y := (⟨"com/example/usher_paths/usherpaths/LevelMaxPinLaw", "pick", "(I)Lcom/example/usher_paths/usherpaths/Level;"⟩ : MethodName)) hown (mvT hZ (hw _ (List.mem_of_getElem? (i := 0) rfl))) (mvT hZ (hw _ (List.mem_of_getElem? (i := 1) rfl))) (mvT hZ (hw _ (List.mem_of_getElem? (i := 2) rfl))) (mvT hZ (hw _ (List.mem_of_getElem? (i := 3) rfl))) (by decide) (own_backOf (W := 0) (rmP l Z a0 hw [] n0 h0 O0 (1 : Int32) w_NONE w_OWNER w_WRITE w_READ FF0 mr MM w_READ (by simp)) hZ (hw _ (List.mem_of_getElem? (i := 3) rfl)) (hw _ (List.mem_of_getElem? (i := 2) rfl)) (by decide) (by decide)) (g := (mkF m 9 #[.val (.int p0), .val (.int p1), .val (.int (1 : Int32)), .val (.int (3 : Int32)), .unset, .unset, .unset, .unset, .unset] [(.int (1 : Int32))])) rfl (by rw [hml]; rfl) (argsL := [(.int (1 : Int32))]) (rest := []) (lenOf pd0_0 rfl) rfl (by show 2 * 0 + _ ≤ _; exact Nat.le_of_eq rfl) (hb hby at_9) (fun _ _ => ⟨rfl, e0, (by decide : 0 + 0 ≤ _), (by decide : 0 + 0 ≤ _)⟩)
      dsimp only [Pt.U, Pt.locs, Pt.cells, Pt.slots] at X46 l46 y46 z46 st46 hQ46
      subst l46 y46 z46
      obtain ⟨rfl, N46q, e46q⟩ := hQ46
      have N46 := Fr.app N0 N46q
      refine Ends.go st46 ?_
      show Ends p e below s T46 (mkF m 12 #[.val (.int p0), .val (.int p1), .val (.int (1 : Int32)), .val (.int (3 : Int32)), .unset, .unset, .unset, .unset, .unset] [(.ref w_READ)]) _ _ _
      refine Ends.go (fun _ k => XS.astore X46.here hx rfl (hb hby at_12) rfl rfl (l' := #[.val (.int p0), .val (.int p1), .val (.int (1 : Int32)), .val (.int (3 : Int32)), .val (.ref w_READ), .unset, .unset, .unset, .unset]) rfl k) ?_
      show Ends p e below s T46 (mkF m 14 #[.val (.int p0), .val (.int p1), .val (.int (1 : Int32)), .val (.int (3 : Int32)), .val (.ref w_READ), .unset, .unset, .unset, .unset] []) _ _ _
      refine Ends.go (fun _ k => XS.iloadN X46.here hx rfl (hb hby at_14) rfl k) ?_
      show Ends p e below s T46 (mkF m 15 #[.val (.int p0), .val (.int p1), .val (.int (1 : Int32)), .val (.int (3 : Int32)), .val (.ref w_READ), .unset, .unset, .unset, .unset] [(.int (3 : Int32))]) _ _ _
      obtain ⟨_, _, ⟨T47, L47, k47, n47⟩, -, X47, ⟨Lc47, hQ47, l47, y47, z47⟩, st47⟩ := Jvm.LawKit.callS X46 hx (y := (⟨"com/example/usher_paths/usherpaths/LevelMaxPinLaw", "pick", "(I)Lcom/example/usher_paths/usherpaths/Level;"⟩ : MethodName)) hown (mvT hZ (hw _ (List.mem_of_getElem? (i := 0) rfl))) (mvT hZ (hw _ (List.mem_of_getElem? (i := 1) rfl))) (mvT hZ (hw _ (List.mem_of_getElem? (i := 2) rfl))) (mvT hZ (hw _ (List.mem_of_getElem? (i := 3) rfl))) (by decide) (own_backOf (W := 0) (rmP l Z a0 hw [] n0 h0 O0 (3 : Int32) w_NONE w_OWNER w_WRITE w_READ FF0 mr MM w_OWNER (by simp)) hZ (hw _ (List.mem_of_getElem? (i := 3) rfl)) (hw _ (List.mem_of_getElem? (i := 2) rfl)) (by decide) (by decide)) (g := (mkF m 15 #[.val (.int p0), .val (.int p1), .val (.int (1 : Int32)), .val (.int (3 : Int32)), .val (.ref w_READ), .unset, .unset, .unset, .unset] [(.int (3 : Int32))])) rfl (by rw [hml]; rfl) (argsL := [(.int (3 : Int32))]) (rest := []) (lenOf pd0_0 rfl) rfl (by show 2 * 0 + _ ≤ _; exact Nat.le_of_eq rfl) (hb hby at_15) (fun _ _ => ⟨rfl, e46q, (by decide : 0 + 0 ≤ _), (by decide : 0 + 0 ≤ _)⟩)
      dsimp only [Pt.U, Pt.locs, Pt.cells, Pt.slots] at X47 l47 y47 z47 st47 hQ47
      subst l47 y47 z47
      obtain ⟨rfl, N47q, e47q⟩ := hQ47
      have N47 := Fr.app N46 N47q
      refine Ends.go st47 ?_
      show Ends p e below s T47 (mkF m 18 #[.val (.int p0), .val (.int p1), .val (.int (1 : Int32)), .val (.int (3 : Int32)), .val (.ref w_READ), .unset, .unset, .unset, .unset] [(.ref w_OWNER)]) _ _ _
      refine Ends.go (fun _ k => XS.astore X47.here hx rfl (hb hby at_18) rfl rfl (l' := #[.val (.int p0), .val (.int p1), .val (.int (1 : Int32)), .val (.int (3 : Int32)), .val (.ref w_READ), .val (.ref w_OWNER), .unset, .unset, .unset]) rfl k) ?_
      show Ends p e below s T47 (mkF m 20 #[.val (.int p0), .val (.int p1), .val (.int (1 : Int32)), .val (.int (3 : Int32)), .val (.ref w_READ), .val (.ref w_OWNER), .unset, .unset, .unset] []) _ _ _
      refine Ends.go (fun _ k => XS.iloadN X47.here hx rfl (hb hby at_20) rfl k) ?_
      show Ends p e below s T47 (mkF m 21 #[.val (.int p0), .val (.int p1), .val (.int (1 : Int32)), .val (.int (3 : Int32)), .val (.ref w_READ), .val (.ref w_OWNER), .unset, .unset, .unset] [(.int (1 : Int32))]) _ _ _
      refine Ends.go (fun _ k => XS.iloadN X47.here hx rfl (hb hby at_21) rfl k) ?_
      show Ends p e below s T47 (mkF m 22 #[.val (.int p0), .val (.int p1), .val (.int (1 : Int32)), .val (.int (3 : Int32)), .val (.ref w_READ), .val (.ref w_OWNER), .unset, .unset, .unset] [(.int (3 : Int32)), (.int (1 : Int32))]) _ _ _
      obtain ⟨_, _, ⟨T48, L48, k48, n48⟩, -, X48, ⟨Lc48, hQ48, l48, y48, z48⟩, st48⟩ := Jvm.LawKit.callS X47 hx (y := (⟨"java/lang/Math", "max", "(II)I"⟩ : MethodName)) hown (mvT hZ (hw _ (List.mem_of_getElem? (i := 9) rfl))) (mvT hZ (hw _ (List.mem_of_getElem? (i := 10) rfl))) (mvT hZ (hw _ (List.mem_of_getElem? (i := 11) rfl))) (mvT hZ (hw _ (List.mem_of_getElem? (i := 12) rfl))) (by decide) (own_backOf (W := 0) (rmX l Z a0 hw [] n0 h0 O0 (1 : Int32) (3 : Int32) w_NONE w_OWNER w_WRITE w_READ FF0 mr MM (3 : Int32) (by decide)) hZ (hw _ (List.mem_of_getElem? (i := 12) rfl)) (hw _ (List.mem_of_getElem? (i := 11) rfl)) (by decide) (by decide)) (g := (mkF m 22 #[.val (.int p0), .val (.int p1), .val (.int (1 : Int32)), .val (.int (3 : Int32)), .val (.ref w_READ), .val (.ref w_OWNER), .unset, .unset, .unset] [(.int (3 : Int32)), (.int (1 : Int32))])) rfl (by rw [hml]; rfl) (argsL := [(.int (1 : Int32)), (.int (3 : Int32))]) (rest := []) (lenOf pd0_1 rfl) rfl (by show 2 * 0 + _ ≤ _; exact Nat.le_of_eq rfl) (hb hby at_22) (fun _ _ => ⟨rfl, e47q, (by decide : 0 + 0 ≤ _), (by decide : 0 + 0 ≤ _)⟩)
      dsimp only [Pt.U, Pt.locs, Pt.cells, Pt.slots] at X48 l48 y48 z48 st48 hQ48
      subst l48 y48 z48
      obtain ⟨rfl, N48q, e48q⟩ := hQ48
      have N48 := Fr.app N47 N48q
      refine Ends.go st48 ?_
      show Ends p e below s T48 (mkF m 25 #[.val (.int p0), .val (.int p1), .val (.int (1 : Int32)), .val (.int (3 : Int32)), .val (.ref w_READ), .val (.ref w_OWNER), .unset, .unset, .unset] [(.int (3 : Int32))]) _ _ _
      obtain ⟨_, _, ⟨T49, L49, k49, n49⟩, -, X49, ⟨Lc49, hQ49, l49, y49, z49⟩, st49⟩ := Jvm.LawKit.callS X48 hx (y := (⟨"com/example/usher_paths/usherpaths/LevelMaxPinLaw", "pick", "(I)Lcom/example/usher_paths/usherpaths/Level;"⟩ : MethodName)) hown (mvT hZ (hw _ (List.mem_of_getElem? (i := 0) rfl))) (mvT hZ (hw _ (List.mem_of_getElem? (i := 1) rfl))) (mvT hZ (hw _ (List.mem_of_getElem? (i := 2) rfl))) (mvT hZ (hw _ (List.mem_of_getElem? (i := 3) rfl))) (by decide) (own_backOf (W := 0) (rmP l Z a0 hw [] n0 h0 O0 (3 : Int32) w_NONE w_OWNER w_WRITE w_READ FF0 mr MM w_OWNER (by simp)) hZ (hw _ (List.mem_of_getElem? (i := 3) rfl)) (hw _ (List.mem_of_getElem? (i := 2) rfl)) (by decide) (by decide)) (g := (mkF m 25 #[.val (.int p0), .val (.int p1), .val (.int (1 : Int32)), .val (.int (3 : Int32)), .val (.ref w_READ), .val (.ref w_OWNER), .unset, .unset, .unset] [(.int (3 : Int32))])) rfl (by rw [hml]; rfl) (argsL := [(.int (3 : Int32))]) (rest := []) (lenOf pd0_0 rfl) rfl (by show 2 * 0 + _ ≤ _; exact Nat.le_of_eq rfl) (hb hby at_25) (fun _ _ => ⟨rfl, e48q, (by decide : 0 + 0 ≤ _), (by decide : 0 + 0 ≤ _)⟩)
      dsimp only [Pt.U, Pt.locs, Pt.cells, Pt.slots] at X49 l49 y49 z49 st49 hQ49
      subst l49 y49 z49
      obtain ⟨rfl, N49q, e49q⟩ := hQ49
      have N49 := Fr.app N48 N49q
      refine Ends.go st49 ?_
      show Ends p e below s T49 (mkF m 28 #[.val (.int p0), .val (.int p1), .val (.int (1 : Int32)), .val (.int (3 : Int32)), .val (.ref w_READ), .val (.ref w_OWNER), .unset, .unset, .unset] [(.ref w_OWNER)]) _ _ _
      refine Ends.go (fun _ k => XS.astore X49.here hx rfl (hb hby at_28) rfl rfl (l' := #[.val (.int p0), .val (.int p1), .val (.int (1 : Int32)), .val (.int (3 : Int32)), .val (.ref w_READ), .val (.ref w_OWNER), .val (.ref w_OWNER), .unset, .unset]) rfl k) ?_
      show Ends p e below s T49 (mkF m 30 #[.val (.int p0), .val (.int p1), .val (.int (1 : Int32)), .val (.int (3 : Int32)), .val (.ref w_READ), .val (.ref w_OWNER), .val (.ref w_OWNER), .unset, .unset] []) _ _ _
      refine Ends.go (fun _ k => XS.aload X49.here hx rfl (hb hby at_30) rfl rfl k) ?_
      show Ends p e below s T49 (mkF m 32 #[.val (.int p0), .val (.int p1), .val (.int (1 : Int32)), .val (.int (3 : Int32)), .val (.ref w_READ), .val (.ref w_OWNER), .val (.ref w_OWNER), .unset, .unset] [(.ref w_READ)]) _ _ _
      refine Ends.go (fun _ k => XS.aload X49.here hx rfl (hb hby at_32) rfl rfl k) ?_
      show Ends p e below s T49 (mkF m 34 #[.val (.int p0), .val (.int p1), .val (.int (1 : Int32)), .val (.int (3 : Int32)), .val (.ref w_READ), .val (.ref w_OWNER), .val (.ref w_OWNER), .unset, .unset] [(.ref w_OWNER), (.ref w_READ)]) _ _ _
      obtain ⟨cq50, kq50, q50a, q50b, q50c⟩ := isOf hZ e49q (E_READ.ext O0.2)
      obtain ⟨_, _, ⟨T50, L50, k50, n50⟩, -, X50, ⟨Lc50, hQ50, l50, y50, z50⟩, st50⟩ := X49.virtualBack hx (y := (⟨"com/example/usher_paths/usherpaths/Level", "max", "(Lcom/example/usher_paths/usherpaths/Level;)Lcom/example/usher_paths/usherpaths/Level;"⟩ : MethodName)) (z := (⟨"com/example/usher_paths/usherpaths/Level", "max", "(Lcom/example/usher_paths/usherpaths/Level;)Lcom/example/usher_paths/usherpaths/Level;"⟩ : MethodName)) hown (mvT hZ (hw _ (List.mem_of_getElem? (i := 13) rfl))) (mvT hZ (hw _ (List.mem_of_getElem? (i := 14) rfl))) (notFace_of_selects (args := #[]) (mvT hZ (hw _ (List.mem_of_getElem? (i := 16) rfl)))) (mvT hZ (hw _ (List.mem_of_getElem? (i := 16) rfl))) (mvT hZ (hw _ (List.mem_of_getElem? (i := 15) rfl))) (by decide) (own_backOf (W := 0) (rmM l Z a0 hw [] n0 h0 O0 w_READ w_OWNER w_NONE w_OWNER w_WRITE w_READ FF0 mr MM (1 : Int32) F_ordinal_READ E_READ (3 : Int32) F_ordinal_OWNER E_OWNER (0 : Int32) (by decide) w_OWNER (by simp)) hZ (hw _ (List.mem_of_getElem? (i := 17) rfl)) (hw _ (List.mem_of_getElem? (i := 5) rfl)) (by decide) (by decide)) q50a q50c (g := (mkF m 34 #[.val (.int p0), .val (.int p1), .val (.int (1 : Int32)), .val (.int (3 : Int32)), .val (.ref w_READ), .val (.ref w_OWNER), .val (.ref w_OWNER), .unset, .unset] [(.ref w_OWNER), (.ref w_READ)])) rfl (by rw [hml]; rfl) (Steps.refl _) (argsL := [(.ref w_OWNER)]) (rest := []) (lenOf pd0_2 rfl) rfl (by show 2 * 0 + _ ≤ _; exact Nat.le_of_eq rfl) (hb hby at_34) (fun _ _ => ⟨rfl, e49q, (by decide : 0 + 0 ≤ _), (by decide : 0 + 0 ≤ _)⟩)
      dsimp only [Pt.U, Pt.locs, Pt.cells, Pt.slots] at X50 l50 y50 z50 st50 hQ50
      subst l50 y50 z50
      obtain ⟨rfl, N50q, e50q⟩ := hQ50
      have N50 := Fr.app N49 N50q
      refine Ends.go (fun _ k => st50.trans k) ?_
      show Ends p e below s T50 (mkF m 37 #[.val (.int p0), .val (.int p1), .val (.int (1 : Int32)), .val (.int (3 : Int32)), .val (.ref w_READ), .val (.ref w_OWNER), .val (.ref w_OWNER), .unset, .unset] [(.ref w_OWNER)]) _ _ _
      refine Ends.go (fun _ k => XS.astore X50.here hx rfl (hb hby at_37) rfl rfl (l' := #[.val (.int p0), .val (.int p1), .val (.int (1 : Int32)), .val (.int (3 : Int32)), .val (.ref w_READ), .val (.ref w_OWNER), .val (.ref w_OWNER), .val (.ref w_OWNER), .unset]) rfl k) ?_
      show Ends p e below s T50 (mkF m 39 #[.val (.int p0), .val (.int p1), .val (.int (1 : Int32)), .val (.int (3 : Int32)), .val (.ref w_READ), .val (.ref w_OWNER), .val (.ref w_OWNER), .val (.ref w_OWNER), .unset] []) _ _ _
      refine Ends.go (fun _ k => XS.aload X50.here hx rfl (hb hby at_39) rfl rfl k) ?_
      show Ends p e below s T50 (mkF m 41 #[.val (.int p0), .val (.int p1), .val (.int (1 : Int32)), .val (.int (3 : Int32)), .val (.ref w_READ), .val (.ref w_OWNER), .val (.ref w_OWNER), .val (.ref w_OWNER), .unset] [(.ref w_OWNER)]) _ _ _
      refine Ends.go (fun _ k => XS.aload X50.here hx rfl (hb hby at_41) rfl rfl k) ?_
      show Ends p e below s T50 (mkF m 43 #[.val (.int p0), .val (.int p1), .val (.int (1 : Int32)), .val (.int (3 : Int32)), .val (.ref w_READ), .val (.ref w_OWNER), .val (.ref w_OWNER), .val (.ref w_OWNER), .unset] [(.ref w_READ), (.ref w_OWNER)]) _ _ _
      obtain ⟨cq51, kq51, q51a, q51b, q51c⟩ := isOf hZ e50q (E_OWNER.ext O0.2)
      obtain ⟨_, _, ⟨T51, L51, k51, n51⟩, -, X51, ⟨Lc51, hQ51, l51, y51, z51⟩, st51⟩ := X50.virtualBack hx (y := (⟨"com/example/usher_paths/usherpaths/Level", "max", "(Lcom/example/usher_paths/usherpaths/Level;)Lcom/example/usher_paths/usherpaths/Level;"⟩ : MethodName)) (z := (⟨"com/example/usher_paths/usherpaths/Level", "max", "(Lcom/example/usher_paths/usherpaths/Level;)Lcom/example/usher_paths/usherpaths/Level;"⟩ : MethodName)) hown (mvT hZ (hw _ (List.mem_of_getElem? (i := 13) rfl))) (mvT hZ (hw _ (List.mem_of_getElem? (i := 14) rfl))) (notFace_of_selects (args := #[]) (mvT hZ (hw _ (List.mem_of_getElem? (i := 16) rfl)))) (mvT hZ (hw _ (List.mem_of_getElem? (i := 16) rfl))) (mvT hZ (hw _ (List.mem_of_getElem? (i := 15) rfl))) (by decide) (own_backOf (W := 0) (rmM l Z a0 hw [] n0 h0 O0 w_OWNER w_READ w_NONE w_OWNER w_WRITE w_READ FF0 mr MM (3 : Int32) F_ordinal_OWNER E_OWNER (1 : Int32) F_ordinal_READ E_READ (1 : Int32) (by decide) w_OWNER (by simp)) hZ (hw _ (List.mem_of_getElem? (i := 17) rfl)) (hw _ (List.mem_of_getElem? (i := 5) rfl)) (by decide) (by decide)) q51a q51c (g := (mkF m 43 #[.val (.int p0), .val (.int p1), .val (.int (1 : Int32)), .val (.int (3 : Int32)), .val (.ref w_READ), .val (.ref w_OWNER), .val (.ref w_OWNER), .val (.ref w_OWNER), .unset] [(.ref w_READ), (.ref w_OWNER)])) rfl (by rw [hml]; rfl) (Steps.refl _) (argsL := [(.ref w_READ)]) (rest := []) (lenOf pd0_2 rfl) rfl (by show 2 * 0 + _ ≤ _; exact Nat.le_of_eq rfl) (hb hby at_43) (fun _ _ => ⟨rfl, e50q, (by decide : 0 + 0 ≤ _), (by decide : 0 + 0 ≤ _)⟩)
      dsimp only [Pt.U, Pt.locs, Pt.cells, Pt.slots] at X51 l51 y51 z51 st51 hQ51
      subst l51 y51 z51
      obtain ⟨rfl, N51q, e51q⟩ := hQ51
      have N51 := Fr.app N50 N51q
      refine Ends.go (fun _ k => st51.trans k) ?_
      show Ends p e below s T51 (mkF m 46 #[.val (.int p0), .val (.int p1), .val (.int (1 : Int32)), .val (.int (3 : Int32)), .val (.ref w_READ), .val (.ref w_OWNER), .val (.ref w_OWNER), .val (.ref w_OWNER), .unset] [(.ref w_OWNER)]) _ _ _
      refine Ends.go (fun _ k => XS.astore X51.here hx rfl (hb hby at_46) rfl rfl (l' := #[.val (.int p0), .val (.int p1), .val (.int (1 : Int32)), .val (.int (3 : Int32)), .val (.ref w_READ), .val (.ref w_OWNER), .val (.ref w_OWNER), .val (.ref w_OWNER), .val (.ref w_OWNER)]) rfl k) ?_
      show Ends p e below s T51 (mkF m 48 #[.val (.int p0), .val (.int p1), .val (.int (1 : Int32)), .val (.int (3 : Int32)), .val (.ref w_READ), .val (.ref w_OWNER), .val (.ref w_OWNER), .val (.ref w_OWNER), .val (.ref w_OWNER)] []) _ _ _
      refine Ends.go (fun _ k => XS.aload X51.here hx rfl (hb hby at_48) rfl rfl k) ?_
      show Ends p e below s T51 (mkF m 50 #[.val (.int p0), .val (.int p1), .val (.int (1 : Int32)), .val (.int (3 : Int32)), .val (.ref w_READ), .val (.ref w_OWNER), .val (.ref w_OWNER), .val (.ref w_OWNER), .val (.ref w_OWNER)] [(.ref w_OWNER)]) _ _ _
      refine Ends.go (fun _ k => XS.aload X51.here hx rfl (hb hby at_50) rfl rfl k) ?_
      show Ends p e below s T51 (mkF m 52 #[.val (.int p0), .val (.int p1), .val (.int (1 : Int32)), .val (.int (3 : Int32)), .val (.ref w_READ), .val (.ref w_OWNER), .val (.ref w_OWNER), .val (.ref w_OWNER), .val (.ref w_OWNER)] [(.ref w_OWNER), (.ref w_OWNER)]) _ _ _
      refine Ends.go (fun _ k => Jvm.RoadKit.acmp (g := (mkF m 52 #[.val (.int p0), .val (.int p1), .val (.int (1 : Int32)), .val (.int (3 : Int32)), .val (.ref w_READ), .val (.ref w_OWNER), .val (.ref w_OWNER), .val (.ref w_OWNER), .val (.ref w_OWNER)] [(.ref w_OWNER), (.ref w_OWNER)])) X51 hx rfl rfl rfl (pc0 := 52) (pc' := 55) (same := true) rfl (hb hby at_52) rfl (decide_eq_true rfl) (by decide) (by decide) k) ?_
      show Ends p e below s T51 (mkF m 55 #[.val (.int p0), .val (.int p1), .val (.int (1 : Int32)), .val (.int (3 : Int32)), .val (.ref w_READ), .val (.ref w_OWNER), .val (.ref w_OWNER), .val (.ref w_OWNER), .val (.ref w_OWNER)] []) _ _ _
      refine Ends.go (fun _ k => XS.aload X51.here hx rfl (hb hby at_55) rfl rfl k) ?_
      show Ends p e below s T51 (mkF m 57 #[.val (.int p0), .val (.int p1), .val (.int (1 : Int32)), .val (.int (3 : Int32)), .val (.ref w_READ), .val (.ref w_OWNER), .val (.ref w_OWNER), .val (.ref w_OWNER), .val (.ref w_OWNER)] [(.ref w_OWNER)]) _ _ _
      refine Ends.go (fun _ k => XS.aload X51.here hx rfl (hb hby at_57) rfl rfl k) ?_
      show Ends p e below s T51 (mkF m 59 #[.val (.int p0), .val (.int p1), .val (.int (1 : Int32)), .val (.int (3 : Int32)), .val (.ref w_READ), .val (.ref w_OWNER), .val (.ref w_OWNER), .val (.ref w_OWNER), .val (.ref w_OWNER)] [(.ref w_OWNER), (.ref w_OWNER)]) _ _ _
      refine Ends.go (fun _ k => Jvm.RoadKit.acmp (g := (mkF m 59 #[.val (.int p0), .val (.int p1), .val (.int (1 : Int32)), .val (.int (3 : Int32)), .val (.ref w_READ), .val (.ref w_OWNER), .val (.ref w_OWNER), .val (.ref w_OWNER), .val (.ref w_OWNER)] [(.ref w_OWNER), (.ref w_OWNER)])) X51 hx rfl rfl rfl (pc0 := 59) (pc' := 62) (same := true) rfl (hb hby at_59) rfl (decide_eq_true rfl) (by decide) (by decide) k) ?_
      show Ends p e below s T51 (mkF m 62 #[.val (.int p0), .val (.int p1), .val (.int (1 : Int32)), .val (.int (3 : Int32)), .val (.ref w_READ), .val (.ref w_OWNER), .val (.ref w_OWNER), .val (.ref w_OWNER), .val (.ref w_OWNER)] []) _ _ _
      refine Ends.go (fun _ k => XS.iconst X51.here hx rfl (hb hby at_62) k) ?_
      show Ends p e below s T51 (mkF m 63 #[.val (.int p0), .val (.int p1), .val (.int (1 : Int32)), .val (.int (3 : Int32)), .val (.ref w_READ), .val (.ref w_OWNER), .val (.ref w_OWNER), .val (.ref w_OWNER), .val (.ref w_OWNER)] [(.int (1 : Int32))]) _ _ _
      refine Ends.go (fun _ k => XS.goto X51.here hx rfl (pc0 := 63) (pc' := 67) rfl (hb hby at_63) (by decide) (by decide) k) ?_
      show Ends p e below s T51 (mkF m 67 #[.val (.int p0), .val (.int p1), .val (.int (1 : Int32)), .val (.int (3 : Int32)), .val (.ref w_READ), .val (.ref w_OWNER), .val (.ref w_OWNER), .val (.ref w_OWNER), .val (.ref w_OWNER)] [(.int (1 : Int32))]) _ _ _
      refine Ends.retZ X51 hx Bd.notSynchronized (t := .boolean) Bd.returns (by simp) (hb hby at_67) (by decide) (by decide) ?_
      exact ⟨rfl, N51⟩
  · show Ends p e below s s₁ (mkF m 3 #[.val (.int p0), .val (.int p1), .unset, .unset, .unset, .unset, .unset, .unset, .unset] [(.int (2 : Int32))]) _ _ _
    refine Ends.go (fun _ k => XS.istoreN X0.here hx rfl (hb hby at_3) rfl (l' := #[.val (.int p0), .val (.int p1), .val (.int (2 : Int32)), .unset, .unset, .unset, .unset, .unset, .unset]) rfl k) ?_
    show Ends p e below s s₁ (mkF m 4 #[.val (.int p0), .val (.int p1), .val (.int (2 : Int32)), .unset, .unset, .unset, .unset, .unset, .unset] []) _ _ _
    refine Ends.go (fun _ k => XS.iloadN X0.here hx rfl (hb hby at_4) rfl k) ?_
    show Ends p e below s s₁ (mkF m 5 #[.val (.int p0), .val (.int p1), .val (.int (2 : Int32)), .unset, .unset, .unset, .unset, .unset, .unset] [(.int p1)]) _ _ _
    refine Ends.go (fun _ k => XS.iconst X0.here hx rfl (hb hby at_5) k) ?_
    show Ends p e below s s₁ (mkF m 6 #[.val (.int p0), .val (.int p1), .val (.int (2 : Int32)), .unset, .unset, .unset, .unset, .unset, .unset] [(.int (3 : Int32)), (.int p1)]) _ _ _
    refine Ends.go (fun _ k => XS.iand X0.here hx rfl (hb hby at_6) rfl k) ?_
    show Ends p e below s s₁ (mkF m 7 #[.val (.int p0), .val (.int p1), .val (.int (2 : Int32)), .unset, .unset, .unset, .unset, .unset, .unset] [(.int (p1 &&& (3 : Int32)))]) _ _ _
    generalize hi52 : (p1 &&& (3 : Int32)) = i52
    rcases own_and3 p1 i52 hi52 with rfl | rfl | rfl | rfl
    · show Ends p e below s s₁ (mkF m 7 #[.val (.int p0), .val (.int p1), .val (.int (2 : Int32)), .unset, .unset, .unset, .unset, .unset, .unset] [(.int (0 : Int32))]) _ _ _
      refine Ends.go (fun _ k => XS.istoreN X0.here hx rfl (hb hby at_7) rfl (l' := #[.val (.int p0), .val (.int p1), .val (.int (2 : Int32)), .val (.int (0 : Int32)), .unset, .unset, .unset, .unset, .unset]) rfl k) ?_
      show Ends p e below s s₁ (mkF m 8 #[.val (.int p0), .val (.int p1), .val (.int (2 : Int32)), .val (.int (0 : Int32)), .unset, .unset, .unset, .unset, .unset] []) _ _ _
      refine Ends.go (fun _ k => XS.iloadN X0.here hx rfl (hb hby at_8) rfl k) ?_
      show Ends p e below s s₁ (mkF m 9 #[.val (.int p0), .val (.int p1), .val (.int (2 : Int32)), .val (.int (0 : Int32)), .unset, .unset, .unset, .unset, .unset] [(.int (2 : Int32))]) _ _ _
      obtain ⟨_, _, ⟨T53, L53, k53, n53⟩, -, X53, ⟨Lc53, hQ53, l53, y53, z53⟩, st53⟩ := Jvm.LawKit.callS X0 hx (y := (⟨"com/example/usher_paths/usherpaths/LevelMaxPinLaw", "pick", "(I)Lcom/example/usher_paths/usherpaths/Level;"⟩ : MethodName)) hown (mvT hZ (hw _ (List.mem_of_getElem? (i := 0) rfl))) (mvT hZ (hw _ (List.mem_of_getElem? (i := 1) rfl))) (mvT hZ (hw _ (List.mem_of_getElem? (i := 2) rfl))) (mvT hZ (hw _ (List.mem_of_getElem? (i := 3) rfl))) (by decide) (own_backOf (W := 0) (rmP l Z a0 hw [] n0 h0 O0 (2 : Int32) w_NONE w_OWNER w_WRITE w_READ FF0 mr MM w_WRITE (by simp)) hZ (hw _ (List.mem_of_getElem? (i := 3) rfl)) (hw _ (List.mem_of_getElem? (i := 2) rfl)) (by decide) (by decide)) (g := (mkF m 9 #[.val (.int p0), .val (.int p1), .val (.int (2 : Int32)), .val (.int (0 : Int32)), .unset, .unset, .unset, .unset, .unset] [(.int (2 : Int32))])) rfl (by rw [hml]; rfl) (argsL := [(.int (2 : Int32))]) (rest := []) (lenOf pd0_0 rfl) rfl (by show 2 * 0 + _ ≤ _; exact Nat.le_of_eq rfl) (hb hby at_9) (fun _ _ => ⟨rfl, e0, (by decide : 0 + 0 ≤ _), (by decide : 0 + 0 ≤ _)⟩)
      dsimp only [Pt.U, Pt.locs, Pt.cells, Pt.slots] at X53 l53 y53 z53 st53 hQ53
      subst l53 y53 z53
      obtain ⟨rfl, N53q, e53q⟩ := hQ53
      have N53 := Fr.app N0 N53q
      refine Ends.go st53 ?_
      show Ends p e below s T53 (mkF m 12 #[.val (.int p0), .val (.int p1), .val (.int (2 : Int32)), .val (.int (0 : Int32)), .unset, .unset, .unset, .unset, .unset] [(.ref w_WRITE)]) _ _ _
      refine Ends.go (fun _ k => XS.astore X53.here hx rfl (hb hby at_12) rfl rfl (l' := #[.val (.int p0), .val (.int p1), .val (.int (2 : Int32)), .val (.int (0 : Int32)), .val (.ref w_WRITE), .unset, .unset, .unset, .unset]) rfl k) ?_
      show Ends p e below s T53 (mkF m 14 #[.val (.int p0), .val (.int p1), .val (.int (2 : Int32)), .val (.int (0 : Int32)), .val (.ref w_WRITE), .unset, .unset, .unset, .unset] []) _ _ _
      refine Ends.go (fun _ k => XS.iloadN X53.here hx rfl (hb hby at_14) rfl k) ?_
      show Ends p e below s T53 (mkF m 15 #[.val (.int p0), .val (.int p1), .val (.int (2 : Int32)), .val (.int (0 : Int32)), .val (.ref w_WRITE), .unset, .unset, .unset, .unset] [(.int (0 : Int32))]) _ _ _
      obtain ⟨_, _, ⟨T54, L54, k54, n54⟩, -, X54, ⟨Lc54, hQ54, l54, y54, z54⟩, st54⟩ := Jvm.LawKit.callS X53 hx (y := (⟨"com/example/usher_paths/usherpaths/LevelMaxPinLaw", "pick", "(I)Lcom/example/usher_paths/usherpaths/Level;"⟩ : MethodName)) hown (mvT hZ (hw _ (List.mem_of_getElem? (i := 0) rfl))) (mvT hZ (hw _ (List.mem_of_getElem? (i := 1) rfl))) (mvT hZ (hw _ (List.mem_of_getElem? (i := 2) rfl))) (mvT hZ (hw _ (List.mem_of_getElem? (i := 3) rfl))) (by decide) (own_backOf (W := 0) (rmP l Z a0 hw [] n0 h0 O0 (0 : Int32) w_NONE w_OWNER w_WRITE w_READ FF0 mr MM w_NONE (by simp)) hZ (hw _ (List.mem_of_getElem? (i := 3) rfl)) (hw _ (List.mem_of_getElem? (i := 2) rfl)) (by decide) (by decide)) (g := (mkF m 15 #[.val (.int p0), .val (.int p1), .val (.int (2 : Int32)), .val (.int (0 : Int32)), .val (.ref w_WRITE), .unset, .unset, .unset, .unset] [(.int (0 : Int32))])) rfl (by rw [hml]; rfl) (argsL := [(.int (0 : Int32))]) (rest := []) (lenOf pd0_0 rfl) rfl (by show 2 * 0 + _ ≤ _; exact Nat.le_of_eq rfl) (hb hby at_15) (fun _ _ => ⟨rfl, e53q, (by decide : 0 + 0 ≤ _), (by decide : 0 + 0 ≤ _)⟩)
      dsimp only [Pt.U, Pt.locs, Pt.cells, Pt.slots] at X54 l54 y54 z54 st54 hQ54
      subst l54 y54 z54
      obtain ⟨rfl, N54q, e54q⟩ := hQ54
      have N54 := Fr.app N53 N54q
      refine Ends.go st54 ?_
      show Ends p e below s T54 (mkF m 18 #[.val (.int p0), .val (.int p1), .val (.int (2 : Int32)), .val (.int (0 : Int32)), .val (.ref w_WRITE), .unset, .unset, .unset, .unset] [(.ref w_NONE)]) _ _ _
      refine Ends.go (fun _ k => XS.astore X54.here hx rfl (hb hby at_18) rfl rfl (l' := #[.val (.int p0), .val (.int p1), .val (.int (2 : Int32)), .val (.int (0 : Int32)), .val (.ref w_WRITE), .val (.ref w_NONE), .unset, .unset, .unset]) rfl k) ?_
      show Ends p e below s T54 (mkF m 20 #[.val (.int p0), .val (.int p1), .val (.int (2 : Int32)), .val (.int (0 : Int32)), .val (.ref w_WRITE), .val (.ref w_NONE), .unset, .unset, .unset] []) _ _ _
      refine Ends.go (fun _ k => XS.iloadN X54.here hx rfl (hb hby at_20) rfl k) ?_
      show Ends p e below s T54 (mkF m 21 #[.val (.int p0), .val (.int p1), .val (.int (2 : Int32)), .val (.int (0 : Int32)), .val (.ref w_WRITE), .val (.ref w_NONE), .unset, .unset, .unset] [(.int (2 : Int32))]) _ _ _
      refine Ends.go (fun _ k => XS.iloadN X54.here hx rfl (hb hby at_21) rfl k) ?_
      show Ends p e below s T54 (mkF m 22 #[.val (.int p0), .val (.int p1), .val (.int (2 : Int32)), .val (.int (0 : Int32)), .val (.ref w_WRITE), .val (.ref w_NONE), .unset, .unset, .unset] [(.int (0 : Int32)), (.int (2 : Int32))]) _ _ _
      obtain ⟨_, _, ⟨T55, L55, k55, n55⟩, -, X55, ⟨Lc55, hQ55, l55, y55, z55⟩, st55⟩ := Jvm.LawKit.callS X54 hx (y := (⟨"java/lang/Math", "max", "(II)I"⟩ : MethodName)) hown (mvT hZ (hw _ (List.mem_of_getElem? (i := 9) rfl))) (mvT hZ (hw _ (List.mem_of_getElem? (i := 10) rfl))) (mvT hZ (hw _ (List.mem_of_getElem? (i := 11) rfl))) (mvT hZ (hw _ (List.mem_of_getElem? (i := 12) rfl))) (by decide) (own_backOf (W := 0) (rmX l Z a0 hw [] n0 h0 O0 (2 : Int32) (0 : Int32) w_NONE w_OWNER w_WRITE w_READ FF0 mr MM (2 : Int32) (by decide)) hZ (hw _ (List.mem_of_getElem? (i := 12) rfl)) (hw _ (List.mem_of_getElem? (i := 11) rfl)) (by decide) (by decide)) (g := (mkF m 22 #[.val (.int p0), .val (.int p1), .val (.int (2 : Int32)), .val (.int (0 : Int32)), .val (.ref w_WRITE), .val (.ref w_NONE), .unset, .unset, .unset] [(.int (0 : Int32)), (.int (2 : Int32))])) rfl (by rw [hml]; rfl) (argsL := [(.int (2 : Int32)), (.int (0 : Int32))]) (rest := []) (lenOf pd0_1 rfl) rfl (by show 2 * 0 + _ ≤ _; exact Nat.le_of_eq rfl) (hb hby at_22) (fun _ _ => ⟨rfl, e54q, (by decide : 0 + 0 ≤ _), (by decide : 0 + 0 ≤ _)⟩)
      dsimp only [Pt.U, Pt.locs, Pt.cells, Pt.slots] at X55 l55 y55 z55 st55 hQ55
      subst l55 y55 z55
      obtain ⟨rfl, N55q, e55q⟩ := hQ55
      have N55 := Fr.app N54 N55q
      refine Ends.go st55 ?_
      show Ends p e below s T55 (mkF m 25 #[.val (.int p0), .val (.int p1), .val (.int (2 : Int32)), .val (.int (0 : Int32)), .val (.ref w_WRITE), .val (.ref w_NONE), .unset, .unset, .unset] [(.int (2 : Int32))]) _ _ _
      obtain ⟨_, _, ⟨T56, L56, k56, n56⟩, -, X56, ⟨Lc56, hQ56, l56, y56, z56⟩, st56⟩ := Jvm.LawKit.callS X55 hx (y := (⟨"com/example/usher_paths/usherpaths/LevelMaxPinLaw", "pick", "(I)Lcom/example/usher_paths/usherpaths/Level;"⟩ : MethodName)) hown (mvT hZ (hw _ (List.mem_of_getElem? (i := 0) rfl))) (mvT hZ (hw _ (List.mem_of_getElem? (i := 1) rfl))) (mvT hZ (hw _ (List.mem_of_getElem? (i := 2) rfl))) (mvT hZ (hw _ (List.mem_of_getElem? (i := 3) rfl))) (by decide) (own_backOf (W := 0) (rmP l Z a0 hw [] n0 h0 O0 (2 : Int32) w_NONE w_OWNER w_WRITE w_READ FF0 mr MM w_WRITE (by simp)) hZ (hw _ (List.mem_of_getElem? (i := 3) rfl)) (hw _ (List.mem_of_getElem? (i := 2) rfl)) (by decide) (by decide)) (g := (mkF m 25 #[.val (.int p0), .val (.int p1), .val (.int (2 : Int32)), .val (.int (0 : Int32)), .val (.ref w_WRITE), .val (.ref w_NONE), .unset, .unset, .unset] [(.int (2 : Int32))])) rfl (by rw [hml]; rfl) (argsL := [(.int (2 : Int32))]) (rest := []) (lenOf pd0_0 rfl) rfl (by show 2 * 0 + _ ≤ _; exact Nat.le_of_eq rfl) (hb hby at_25) (fun _ _ => ⟨rfl, e55q, (by decide : 0 + 0 ≤ _), (by decide : 0 + 0 ≤ _)⟩)
      dsimp only [Pt.U, Pt.locs, Pt.cells, Pt.slots] at X56 l56 y56 z56 st56 hQ56
      subst l56 y56 z56
      obtain ⟨rfl, N56q, e56q⟩ := hQ56
      have N56 := Fr.app N55 N56q
      refine Ends.go st56 ?_
      show Ends p e below s T56 (mkF m 28 #[.val (.int p0), .val (.int p1), .val (.int (2 : Int32)), .val (.int (0 : Int32)), .val (.ref w_WRITE), .val (.ref w_NONE), .unset, .unset, .unset] [(.ref w_WRITE)]) _ _ _
      refine Ends.go (fun _ k => XS.astore X56.here hx rfl (hb hby at_28) rfl rfl (l' := #[.val (.int p0), .val (.int p1), .val (.int (2 : Int32)), .val (.int (0 : Int32)), .val (.ref w_WRITE), .val (.ref w_NONE), .val (.ref w_WRITE), .unset, .unset]) rfl k) ?_
      show Ends p e below s T56 (mkF m 30 #[.val (.int p0), .val (.int p1), .val (.int (2 : Int32)), .val (.int (0 : Int32)), .val (.ref w_WRITE), .val (.ref w_NONE), .val (.ref w_WRITE), .unset, .unset] []) _ _ _
      refine Ends.go (fun _ k => XS.aload X56.here hx rfl (hb hby at_30) rfl rfl k) ?_
      show Ends p e below s T56 (mkF m 32 #[.val (.int p0), .val (.int p1), .val (.int (2 : Int32)), .val (.int (0 : Int32)), .val (.ref w_WRITE), .val (.ref w_NONE), .val (.ref w_WRITE), .unset, .unset] [(.ref w_WRITE)]) _ _ _
      refine Ends.go (fun _ k => XS.aload X56.here hx rfl (hb hby at_32) rfl rfl k) ?_
      show Ends p e below s T56 (mkF m 34 #[.val (.int p0), .val (.int p1), .val (.int (2 : Int32)), .val (.int (0 : Int32)), .val (.ref w_WRITE), .val (.ref w_NONE), .val (.ref w_WRITE), .unset, .unset] [(.ref w_NONE), (.ref w_WRITE)]) _ _ _
      obtain ⟨cq57, kq57, q57a, q57b, q57c⟩ := isOf hZ e56q (E_WRITE.ext O0.2)
      obtain ⟨_, _, ⟨T57, L57, k57, n57⟩, -, X57, ⟨Lc57, hQ57, l57, y57, z57⟩, st57⟩ := X56.virtualBack hx (y := (⟨"com/example/usher_paths/usherpaths/Level", "max", "(Lcom/example/usher_paths/usherpaths/Level;)Lcom/example/usher_paths/usherpaths/Level;"⟩ : MethodName)) (z := (⟨"com/example/usher_paths/usherpaths/Level", "max", "(Lcom/example/usher_paths/usherpaths/Level;)Lcom/example/usher_paths/usherpaths/Level;"⟩ : MethodName)) hown (mvT hZ (hw _ (List.mem_of_getElem? (i := 13) rfl))) (mvT hZ (hw _ (List.mem_of_getElem? (i := 14) rfl))) (notFace_of_selects (args := #[]) (mvT hZ (hw _ (List.mem_of_getElem? (i := 16) rfl)))) (mvT hZ (hw _ (List.mem_of_getElem? (i := 16) rfl))) (mvT hZ (hw _ (List.mem_of_getElem? (i := 15) rfl))) (by decide) (own_backOf (W := 0) (rmM l Z a0 hw [] n0 h0 O0 w_WRITE w_NONE w_NONE w_OWNER w_WRITE w_READ FF0 mr MM (2 : Int32) F_ordinal_WRITE E_WRITE (0 : Int32) F_ordinal_NONE E_NONE (1 : Int32) (by decide) w_WRITE (by simp)) hZ (hw _ (List.mem_of_getElem? (i := 17) rfl)) (hw _ (List.mem_of_getElem? (i := 5) rfl)) (by decide) (by decide)) q57a q57c (g := (mkF m 34 #[.val (.int p0), .val (.int p1), .val (.int (2 : Int32)), .val (.int (0 : Int32)), .val (.ref w_WRITE), .val (.ref w_NONE), .val (.ref w_WRITE), .unset, .unset] [(.ref w_NONE), (.ref w_WRITE)])) rfl (by rw [hml]; rfl) (Steps.refl _) (argsL := [(.ref w_NONE)]) (rest := []) (lenOf pd0_2 rfl) rfl (by show 2 * 0 + _ ≤ _; exact Nat.le_of_eq rfl) (hb hby at_34) (fun _ _ => ⟨rfl, e56q, (by decide : 0 + 0 ≤ _), (by decide : 0 + 0 ≤ _)⟩)
      dsimp only [Pt.U, Pt.locs, Pt.cells, Pt.slots] at X57 l57 y57 z57 st57 hQ57
      subst l57 y57 z57
      obtain ⟨rfl, N57q, e57q⟩ := hQ57
      have N57 := Fr.app N56 N57q
      refine Ends.go (fun _ k => st57.trans k) ?_
      show Ends p e below s T57 (mkF m 37 #[.val (.int p0), .val (.int p1), .val (.int (2 : Int32)), .val (.int (0 : Int32)), .val (.ref w_WRITE), .val (.ref w_NONE), .val (.ref w_WRITE), .unset, .unset] [(.ref w_WRITE)]) _ _ _
      refine Ends.go (fun _ k => XS.astore X57.here hx rfl (hb hby at_37) rfl rfl (l' := #[.val (.int p0), .val (.int p1), .val (.int (2 : Int32)), .val (.int (0 : Int32)), .val (.ref w_WRITE), .val (.ref w_NONE), .val (.ref w_WRITE), .val (.ref w_WRITE), .unset]) rfl k) ?_
      show Ends p e below s T57 (mkF m 39 #[.val (.int p0), .val (.int p1), .val (.int (2 : Int32)), .val (.int (0 : Int32)), .val (.ref w_WRITE), .val (.ref w_NONE), .val (.ref w_WRITE), .val (.ref w_WRITE), .unset] []) _ _ _
      refine Ends.go (fun _ k => XS.aload X57.here hx rfl (hb hby at_39) rfl rfl k) ?_
      show Ends p e below s T57 (mkF m 41 #[.val (.int p0), .val (.int p1), .val (.int (2 : Int32)), .val (.int (0 : Int32)), .val (.ref w_WRITE), .val (.ref w_NONE), .val (.ref w_WRITE), .val (.ref w_WRITE), .unset] [(.ref w_NONE)]) _ _ _
      refine Ends.go (fun _ k => XS.aload X57.here hx rfl (hb hby at_41) rfl rfl k) ?_
      show Ends p e below s T57 (mkF m 43 #[.val (.int p0), .val (.int p1), .val (.int (2 : Int32)), .val (.int (0 : Int32)), .val (.ref w_WRITE), .val (.ref w_NONE), .val (.ref w_WRITE), .val (.ref w_WRITE), .unset] [(.ref w_WRITE), (.ref w_NONE)]) _ _ _
      obtain ⟨cq58, kq58, q58a, q58b, q58c⟩ := isOf hZ e57q (E_NONE.ext O0.2)
      obtain ⟨_, _, ⟨T58, L58, k58, n58⟩, -, X58, ⟨Lc58, hQ58, l58, y58, z58⟩, st58⟩ := X57.virtualBack hx (y := (⟨"com/example/usher_paths/usherpaths/Level", "max", "(Lcom/example/usher_paths/usherpaths/Level;)Lcom/example/usher_paths/usherpaths/Level;"⟩ : MethodName)) (z := (⟨"com/example/usher_paths/usherpaths/Level", "max", "(Lcom/example/usher_paths/usherpaths/Level;)Lcom/example/usher_paths/usherpaths/Level;"⟩ : MethodName)) hown (mvT hZ (hw _ (List.mem_of_getElem? (i := 13) rfl))) (mvT hZ (hw _ (List.mem_of_getElem? (i := 14) rfl))) (notFace_of_selects (args := #[]) (mvT hZ (hw _ (List.mem_of_getElem? (i := 16) rfl)))) (mvT hZ (hw _ (List.mem_of_getElem? (i := 16) rfl))) (mvT hZ (hw _ (List.mem_of_getElem? (i := 15) rfl))) (by decide) (own_backOf (W := 0) (rmM l Z a0 hw [] n0 h0 O0 w_NONE w_WRITE w_NONE w_OWNER w_WRITE w_READ FF0 mr MM (0 : Int32) F_ordinal_NONE E_NONE (2 : Int32) F_ordinal_WRITE E_WRITE (0 : Int32) (by decide) w_WRITE (by simp)) hZ (hw _ (List.mem_of_getElem? (i := 17) rfl)) (hw _ (List.mem_of_getElem? (i := 5) rfl)) (by decide) (by decide)) q58a q58c (g := (mkF m 43 #[.val (.int p0), .val (.int p1), .val (.int (2 : Int32)), .val (.int (0 : Int32)), .val (.ref w_WRITE), .val (.ref w_NONE), .val (.ref w_WRITE), .val (.ref w_WRITE), .unset] [(.ref w_WRITE), (.ref w_NONE)])) rfl (by rw [hml]; rfl) (Steps.refl _) (argsL := [(.ref w_WRITE)]) (rest := []) (lenOf pd0_2 rfl) rfl (by show 2 * 0 + _ ≤ _; exact Nat.le_of_eq rfl) (hb hby at_43) (fun _ _ => ⟨rfl, e57q, (by decide : 0 + 0 ≤ _), (by decide : 0 + 0 ≤ _)⟩)
      dsimp only [Pt.U, Pt.locs, Pt.cells, Pt.slots] at X58 l58 y58 z58 st58 hQ58
      subst l58 y58 z58
      obtain ⟨rfl, N58q, e58q⟩ := hQ58
      have N58 := Fr.app N57 N58q
      refine Ends.go (fun _ k => st58.trans k) ?_
      show Ends p e below s T58 (mkF m 46 #[.val (.int p0), .val (.int p1), .val (.int (2 : Int32)), .val (.int (0 : Int32)), .val (.ref w_WRITE), .val (.ref w_NONE), .val (.ref w_WRITE), .val (.ref w_WRITE), .unset] [(.ref w_WRITE)]) _ _ _
      refine Ends.go (fun _ k => XS.astore X58.here hx rfl (hb hby at_46) rfl rfl (l' := #[.val (.int p0), .val (.int p1), .val (.int (2 : Int32)), .val (.int (0 : Int32)), .val (.ref w_WRITE), .val (.ref w_NONE), .val (.ref w_WRITE), .val (.ref w_WRITE), .val (.ref w_WRITE)]) rfl k) ?_
      show Ends p e below s T58 (mkF m 48 #[.val (.int p0), .val (.int p1), .val (.int (2 : Int32)), .val (.int (0 : Int32)), .val (.ref w_WRITE), .val (.ref w_NONE), .val (.ref w_WRITE), .val (.ref w_WRITE), .val (.ref w_WRITE)] []) _ _ _
      refine Ends.go (fun _ k => XS.aload X58.here hx rfl (hb hby at_48) rfl rfl k) ?_
      show Ends p e below s T58 (mkF m 50 #[.val (.int p0), .val (.int p1), .val (.int (2 : Int32)), .val (.int (0 : Int32)), .val (.ref w_WRITE), .val (.ref w_NONE), .val (.ref w_WRITE), .val (.ref w_WRITE), .val (.ref w_WRITE)] [(.ref w_WRITE)]) _ _ _
      refine Ends.go (fun _ k => XS.aload X58.here hx rfl (hb hby at_50) rfl rfl k) ?_
      show Ends p e below s T58 (mkF m 52 #[.val (.int p0), .val (.int p1), .val (.int (2 : Int32)), .val (.int (0 : Int32)), .val (.ref w_WRITE), .val (.ref w_NONE), .val (.ref w_WRITE), .val (.ref w_WRITE), .val (.ref w_WRITE)] [(.ref w_WRITE), (.ref w_WRITE)]) _ _ _
      refine Ends.go (fun _ k => Jvm.RoadKit.acmp (g := (mkF m 52 #[.val (.int p0), .val (.int p1), .val (.int (2 : Int32)), .val (.int (0 : Int32)), .val (.ref w_WRITE), .val (.ref w_NONE), .val (.ref w_WRITE), .val (.ref w_WRITE), .val (.ref w_WRITE)] [(.ref w_WRITE), (.ref w_WRITE)])) X58 hx rfl rfl rfl (pc0 := 52) (pc' := 55) (same := true) rfl (hb hby at_52) rfl (decide_eq_true rfl) (by decide) (by decide) k) ?_
      show Ends p e below s T58 (mkF m 55 #[.val (.int p0), .val (.int p1), .val (.int (2 : Int32)), .val (.int (0 : Int32)), .val (.ref w_WRITE), .val (.ref w_NONE), .val (.ref w_WRITE), .val (.ref w_WRITE), .val (.ref w_WRITE)] []) _ _ _
      refine Ends.go (fun _ k => XS.aload X58.here hx rfl (hb hby at_55) rfl rfl k) ?_
      show Ends p e below s T58 (mkF m 57 #[.val (.int p0), .val (.int p1), .val (.int (2 : Int32)), .val (.int (0 : Int32)), .val (.ref w_WRITE), .val (.ref w_NONE), .val (.ref w_WRITE), .val (.ref w_WRITE), .val (.ref w_WRITE)] [(.ref w_WRITE)]) _ _ _
      refine Ends.go (fun _ k => XS.aload X58.here hx rfl (hb hby at_57) rfl rfl k) ?_
      show Ends p e below s T58 (mkF m 59 #[.val (.int p0), .val (.int p1), .val (.int (2 : Int32)), .val (.int (0 : Int32)), .val (.ref w_WRITE), .val (.ref w_NONE), .val (.ref w_WRITE), .val (.ref w_WRITE), .val (.ref w_WRITE)] [(.ref w_WRITE), (.ref w_WRITE)]) _ _ _
      refine Ends.go (fun _ k => Jvm.RoadKit.acmp (g := (mkF m 59 #[.val (.int p0), .val (.int p1), .val (.int (2 : Int32)), .val (.int (0 : Int32)), .val (.ref w_WRITE), .val (.ref w_NONE), .val (.ref w_WRITE), .val (.ref w_WRITE), .val (.ref w_WRITE)] [(.ref w_WRITE), (.ref w_WRITE)])) X58 hx rfl rfl rfl (pc0 := 59) (pc' := 62) (same := true) rfl (hb hby at_59) rfl (decide_eq_true rfl) (by decide) (by decide) k) ?_
      show Ends p e below s T58 (mkF m 62 #[.val (.int p0), .val (.int p1), .val (.int (2 : Int32)), .val (.int (0 : Int32)), .val (.ref w_WRITE), .val (.ref w_NONE), .val (.ref w_WRITE), .val (.ref w_WRITE), .val (.ref w_WRITE)] []) _ _ _
      refine Ends.go (fun _ k => XS.iconst X58.here hx rfl (hb hby at_62) k) ?_
      show Ends p e below s T58 (mkF m 63 #[.val (.int p0), .val (.int p1), .val (.int (2 : Int32)), .val (.int (0 : Int32)), .val (.ref w_WRITE), .val (.ref w_NONE), .val (.ref w_WRITE), .val (.ref w_WRITE), .val (.ref w_WRITE)] [(.int (1 : Int32))]) _ _ _
      refine Ends.go (fun _ k => XS.goto X58.here hx rfl (pc0 := 63) (pc' := 67) rfl (hb hby at_63) (by decide) (by decide) k) ?_
      show Ends p e below s T58 (mkF m 67 #[.val (.int p0), .val (.int p1), .val (.int (2 : Int32)), .val (.int (0 : Int32)), .val (.ref w_WRITE), .val (.ref w_NONE), .val (.ref w_WRITE), .val (.ref w_WRITE), .val (.ref w_WRITE)] [(.int (1 : Int32))]) _ _ _
      refine Ends.retZ X58 hx Bd.notSynchronized (t := .boolean) Bd.returns (by simp) (hb hby at_67) (by decide) (by decide) ?_
      exact ⟨rfl, N58⟩
    · show Ends p e below s s₁ (mkF m 7 #[.val (.int p0), .val (.int p1), .val (.int (2 : Int32)), .unset, .unset, .unset, .unset, .unset, .unset] [(.int (1 : Int32))]) _ _ _
      refine Ends.go (fun _ k => XS.istoreN X0.here hx rfl (hb hby at_7) rfl (l' := #[.val (.int p0), .val (.int p1), .val (.int (2 : Int32)), .val (.int (1 : Int32)), .unset, .unset, .unset, .unset, .unset]) rfl k) ?_
      show Ends p e below s s₁ (mkF m 8 #[.val (.int p0), .val (.int p1), .val (.int (2 : Int32)), .val (.int (1 : Int32)), .unset, .unset, .unset, .unset, .unset] []) _ _ _
      refine Ends.go (fun _ k => XS.iloadN X0.here hx rfl (hb hby at_8) rfl k) ?_
      show Ends p e below s s₁ (mkF m 9 #[.val (.int p0), .val (.int p1), .val (.int (2 : Int32)), .val (.int (1 : Int32)), .unset, .unset, .unset, .unset, .unset] [(.int (2 : Int32))]) _ _ _
      obtain ⟨_, _, ⟨T59, L59, k59, n59⟩, -, X59, ⟨Lc59, hQ59, l59, y59, z59⟩, st59⟩ := Jvm.LawKit.callS X0 hx (y := (⟨"com/example/usher_paths/usherpaths/LevelMaxPinLaw", "pick", "(I)Lcom/example/usher_paths/usherpaths/Level;"⟩ : MethodName)) hown (mvT hZ (hw _ (List.mem_of_getElem? (i := 0) rfl))) (mvT hZ (hw _ (List.mem_of_getElem? (i := 1) rfl))) (mvT hZ (hw _ (List.mem_of_getElem? (i := 2) rfl))) (mvT hZ (hw _ (List.mem_of_getElem? (i := 3) rfl))) (by decide) (own_backOf (W := 0) (rmP l Z a0 hw [] n0 h0 O0 (2 : Int32) w_NONE w_OWNER w_WRITE w_READ FF0 mr MM w_WRITE (by simp)) hZ (hw _ (List.mem_of_getElem? (i := 3) rfl)) (hw _ (List.mem_of_getElem? (i := 2) rfl)) (by decide) (by decide)) (g := (mkF m 9 #[.val (.int p0), .val (.int p1), .val (.int (2 : Int32)), .val (.int (1 : Int32)), .unset, .unset, .unset, .unset, .unset] [(.int (2 : Int32))])) rfl (by rw [hml]; rfl) (argsL := [(.int (2 : Int32))]) (rest := []) (lenOf pd0_0 rfl) rfl (by show 2 * 0 + _ ≤ _; exact Nat.le_of_eq rfl) (hb hby at_9) (fun _ _ => ⟨rfl, e0, (by decide : 0 + 0 ≤ _), (by decide : 0 + 0 ≤ _)⟩)
      dsimp only [Pt.U, Pt.locs, Pt.cells, Pt.slots] at X59 l59 y59 z59 st59 hQ59
      subst l59 y59 z59
      obtain ⟨rfl, N59q, e59q⟩ := hQ59
      have N59 := Fr.app N0 N59q
      refine Ends.go st59 ?_
      show Ends p e below s T59 (mkF m 12 #[.val (.int p0), .val (.int p1), .val (.int (2 : Int32)), .val (.int (1 : Int32)), .unset, .unset, .unset, .unset, .unset] [(.ref w_WRITE)]) _ _ _
      refine Ends.go (fun _ k => XS.astore X59.here hx rfl (hb hby at_12) rfl rfl (l' := #[.val (.int p0), .val (.int p1), .val (.int (2 : Int32)), .val (.int (1 : Int32)), .val (.ref w_WRITE), .unset, .unset, .unset, .unset]) rfl k) ?_
      show Ends p e below s T59 (mkF m 14 #[.val (.int p0), .val (.int p1), .val (.int (2 : Int32)), .val (.int (1 : Int32)), .val (.ref w_WRITE), .unset, .unset, .unset, .unset] []) _ _ _
      refine Ends.go (fun _ k => XS.iloadN X59.here hx rfl (hb hby at_14) rfl k) ?_
      show Ends p e below s T59 (mkF m 15 #[.val (.int p0), .val (.int p1), .val (.int (2 : Int32)), .val (.int (1 : Int32)), .val (.ref w_WRITE), .unset, .unset, .unset, .unset] [(.int (1 : Int32))]) _ _ _
      obtain ⟨_, _, ⟨T60, L60, k60, n60⟩, -, X60, ⟨Lc60, hQ60, l60, y60, z60⟩, st60⟩ := Jvm.LawKit.callS X59 hx (y := (⟨"com/example/usher_paths/usherpaths/LevelMaxPinLaw", "pick", "(I)Lcom/example/usher_paths/usherpaths/Level;"⟩ : MethodName)) hown (mvT hZ (hw _ (List.mem_of_getElem? (i := 0) rfl))) (mvT hZ (hw _ (List.mem_of_getElem? (i := 1) rfl))) (mvT hZ (hw _ (List.mem_of_getElem? (i := 2) rfl))) (mvT hZ (hw _ (List.mem_of_getElem? (i := 3) rfl))) (by decide) (own_backOf (W := 0) (rmP l Z a0 hw [] n0 h0 O0 (1 : Int32) w_NONE w_OWNER w_WRITE w_READ FF0 mr MM w_READ (by simp)) hZ (hw _ (List.mem_of_getElem? (i := 3) rfl)) (hw _ (List.mem_of_getElem? (i := 2) rfl)) (by decide) (by decide)) (g := (mkF m 15 #[.val (.int p0), .val (.int p1), .val (.int (2 : Int32)), .val (.int (1 : Int32)), .val (.ref w_WRITE), .unset, .unset, .unset, .unset] [(.int (1 : Int32))])) rfl (by rw [hml]; rfl) (argsL := [(.int (1 : Int32))]) (rest := []) (lenOf pd0_0 rfl) rfl (by show 2 * 0 + _ ≤ _; exact Nat.le_of_eq rfl) (hb hby at_15) (fun _ _ => ⟨rfl, e59q, (by decide : 0 + 0 ≤ _), (by decide : 0 + 0 ≤ _)⟩)
      dsimp only [Pt.U, Pt.locs, Pt.cells, Pt.slots] at X60 l60 y60 z60 st60 hQ60
      subst l60 y60 z60
      obtain ⟨rfl, N60q, e60q⟩ := hQ60
      have N60 := Fr.app N59 N60q
      refine Ends.go st60 ?_
      show Ends p e below s T60 (mkF m 18 #[.val (.int p0), .val (.int p1), .val (.int (2 : Int32)), .val (.int (1 : Int32)), .val (.ref w_WRITE), .unset, .unset, .unset, .unset] [(.ref w_READ)]) _ _ _
      refine Ends.go (fun _ k => XS.astore X60.here hx rfl (hb hby at_18) rfl rfl (l' := #[.val (.int p0), .val (.int p1), .val (.int (2 : Int32)), .val (.int (1 : Int32)), .val (.ref w_WRITE), .val (.ref w_READ), .unset, .unset, .unset]) rfl k) ?_
      show Ends p e below s T60 (mkF m 20 #[.val (.int p0), .val (.int p1), .val (.int (2 : Int32)), .val (.int (1 : Int32)), .val (.ref w_WRITE), .val (.ref w_READ), .unset, .unset, .unset] []) _ _ _
      refine Ends.go (fun _ k => XS.iloadN X60.here hx rfl (hb hby at_20) rfl k) ?_
      show Ends p e below s T60 (mkF m 21 #[.val (.int p0), .val (.int p1), .val (.int (2 : Int32)), .val (.int (1 : Int32)), .val (.ref w_WRITE), .val (.ref w_READ), .unset, .unset, .unset] [(.int (2 : Int32))]) _ _ _
      refine Ends.go (fun _ k => XS.iloadN X60.here hx rfl (hb hby at_21) rfl k) ?_
      show Ends p e below s T60 (mkF m 22 #[.val (.int p0), .val (.int p1), .val (.int (2 : Int32)), .val (.int (1 : Int32)), .val (.ref w_WRITE), .val (.ref w_READ), .unset, .unset, .unset] [(.int (1 : Int32)), (.int (2 : Int32))]) _ _ _
      obtain ⟨_, _, ⟨T61, L61, k61, n61⟩, -, X61, ⟨Lc61, hQ61, l61, y61, z61⟩, st61⟩ := Jvm.LawKit.callS X60 hx (y := (⟨"java/lang/Math", "max", "(II)I"⟩ : MethodName)) hown (mvT hZ (hw _ (List.mem_of_getElem? (i := 9) rfl))) (mvT hZ (hw _ (List.mem_of_getElem? (i := 10) rfl))) (mvT hZ (hw _ (List.mem_of_getElem? (i := 11) rfl))) (mvT hZ (hw _ (List.mem_of_getElem? (i := 12) rfl))) (by decide) (own_backOf (W := 0) (rmX l Z a0 hw [] n0 h0 O0 (2 : Int32) (1 : Int32) w_NONE w_OWNER w_WRITE w_READ FF0 mr MM (2 : Int32) (by decide)) hZ (hw _ (List.mem_of_getElem? (i := 12) rfl)) (hw _ (List.mem_of_getElem? (i := 11) rfl)) (by decide) (by decide)) (g := (mkF m 22 #[.val (.int p0), .val (.int p1), .val (.int (2 : Int32)), .val (.int (1 : Int32)), .val (.ref w_WRITE), .val (.ref w_READ), .unset, .unset, .unset] [(.int (1 : Int32)), (.int (2 : Int32))])) rfl (by rw [hml]; rfl) (argsL := [(.int (2 : Int32)), (.int (1 : Int32))]) (rest := []) (lenOf pd0_1 rfl) rfl (by show 2 * 0 + _ ≤ _; exact Nat.le_of_eq rfl) (hb hby at_22) (fun _ _ => ⟨rfl, e60q, (by decide : 0 + 0 ≤ _), (by decide : 0 + 0 ≤ _)⟩)
      dsimp only [Pt.U, Pt.locs, Pt.cells, Pt.slots] at X61 l61 y61 z61 st61 hQ61
      subst l61 y61 z61
      obtain ⟨rfl, N61q, e61q⟩ := hQ61
      have N61 := Fr.app N60 N61q
      refine Ends.go st61 ?_
      show Ends p e below s T61 (mkF m 25 #[.val (.int p0), .val (.int p1), .val (.int (2 : Int32)), .val (.int (1 : Int32)), .val (.ref w_WRITE), .val (.ref w_READ), .unset, .unset, .unset] [(.int (2 : Int32))]) _ _ _
      obtain ⟨_, _, ⟨T62, L62, k62, n62⟩, -, X62, ⟨Lc62, hQ62, l62, y62, z62⟩, st62⟩ := Jvm.LawKit.callS X61 hx (y := (⟨"com/example/usher_paths/usherpaths/LevelMaxPinLaw", "pick", "(I)Lcom/example/usher_paths/usherpaths/Level;"⟩ : MethodName)) hown (mvT hZ (hw _ (List.mem_of_getElem? (i := 0) rfl))) (mvT hZ (hw _ (List.mem_of_getElem? (i := 1) rfl))) (mvT hZ (hw _ (List.mem_of_getElem? (i := 2) rfl))) (mvT hZ (hw _ (List.mem_of_getElem? (i := 3) rfl))) (by decide) (own_backOf (W := 0) (rmP l Z a0 hw [] n0 h0 O0 (2 : Int32) w_NONE w_OWNER w_WRITE w_READ FF0 mr MM w_WRITE (by simp)) hZ (hw _ (List.mem_of_getElem? (i := 3) rfl)) (hw _ (List.mem_of_getElem? (i := 2) rfl)) (by decide) (by decide)) (g := (mkF m 25 #[.val (.int p0), .val (.int p1), .val (.int (2 : Int32)), .val (.int (1 : Int32)), .val (.ref w_WRITE), .val (.ref w_READ), .unset, .unset, .unset] [(.int (2 : Int32))])) rfl (by rw [hml]; rfl) (argsL := [(.int (2 : Int32))]) (rest := []) (lenOf pd0_0 rfl) rfl (by show 2 * 0 + _ ≤ _; exact Nat.le_of_eq rfl) (hb hby at_25) (fun _ _ => ⟨rfl, e61q, (by decide : 0 + 0 ≤ _), (by decide : 0 + 0 ≤ _)⟩)
      dsimp only [Pt.U, Pt.locs, Pt.cells, Pt.slots] at X62 l62 y62 z62 st62 hQ62
      subst l62 y62 z62
      obtain ⟨rfl, N62q, e62q⟩ := hQ62
      have N62 := Fr.app N61 N62q
      refine Ends.go st62 ?_
      show Ends p e below s T62 (mkF m 28 #[.val (.int p0), .val (.int p1), .val (.int (2 : Int32)), .val (.int (1 : Int32)), .val (.ref w_WRITE), .val (.ref w_READ), .unset, .unset, .unset] [(.ref w_WRITE)]) _ _ _
      refine Ends.go (fun _ k => XS.astore X62.here hx rfl (hb hby at_28) rfl rfl (l' := #[.val (.int p0), .val (.int p1), .val (.int (2 : Int32)), .val (.int (1 : Int32)), .val (.ref w_WRITE), .val (.ref w_READ), .val (.ref w_WRITE), .unset, .unset]) rfl k) ?_
      show Ends p e below s T62 (mkF m 30 #[.val (.int p0), .val (.int p1), .val (.int (2 : Int32)), .val (.int (1 : Int32)), .val (.ref w_WRITE), .val (.ref w_READ), .val (.ref w_WRITE), .unset, .unset] []) _ _ _
      refine Ends.go (fun _ k => XS.aload X62.here hx rfl (hb hby at_30) rfl rfl k) ?_
      show Ends p e below s T62 (mkF m 32 #[.val (.int p0), .val (.int p1), .val (.int (2 : Int32)), .val (.int (1 : Int32)), .val (.ref w_WRITE), .val (.ref w_READ), .val (.ref w_WRITE), .unset, .unset] [(.ref w_WRITE)]) _ _ _
      refine Ends.go (fun _ k => XS.aload X62.here hx rfl (hb hby at_32) rfl rfl k) ?_
      show Ends p e below s T62 (mkF m 34 #[.val (.int p0), .val (.int p1), .val (.int (2 : Int32)), .val (.int (1 : Int32)), .val (.ref w_WRITE), .val (.ref w_READ), .val (.ref w_WRITE), .unset, .unset] [(.ref w_READ), (.ref w_WRITE)]) _ _ _
      obtain ⟨cq63, kq63, q63a, q63b, q63c⟩ := isOf hZ e62q (E_WRITE.ext O0.2)
      obtain ⟨_, _, ⟨T63, L63, k63, n63⟩, -, X63, ⟨Lc63, hQ63, l63, y63, z63⟩, st63⟩ := X62.virtualBack hx (y := (⟨"com/example/usher_paths/usherpaths/Level", "max", "(Lcom/example/usher_paths/usherpaths/Level;)Lcom/example/usher_paths/usherpaths/Level;"⟩ : MethodName)) (z := (⟨"com/example/usher_paths/usherpaths/Level", "max", "(Lcom/example/usher_paths/usherpaths/Level;)Lcom/example/usher_paths/usherpaths/Level;"⟩ : MethodName)) hown (mvT hZ (hw _ (List.mem_of_getElem? (i := 13) rfl))) (mvT hZ (hw _ (List.mem_of_getElem? (i := 14) rfl))) (notFace_of_selects (args := #[]) (mvT hZ (hw _ (List.mem_of_getElem? (i := 16) rfl)))) (mvT hZ (hw _ (List.mem_of_getElem? (i := 16) rfl))) (mvT hZ (hw _ (List.mem_of_getElem? (i := 15) rfl))) (by decide) (own_backOf (W := 0) (rmM l Z a0 hw [] n0 h0 O0 w_WRITE w_READ w_NONE w_OWNER w_WRITE w_READ FF0 mr MM (2 : Int32) F_ordinal_WRITE E_WRITE (1 : Int32) F_ordinal_READ E_READ (1 : Int32) (by decide) w_WRITE (by simp)) hZ (hw _ (List.mem_of_getElem? (i := 17) rfl)) (hw _ (List.mem_of_getElem? (i := 5) rfl)) (by decide) (by decide)) q63a q63c (g := (mkF m 34 #[.val (.int p0), .val (.int p1), .val (.int (2 : Int32)), .val (.int (1 : Int32)), .val (.ref w_WRITE), .val (.ref w_READ), .val (.ref w_WRITE), .unset, .unset] [(.ref w_READ), (.ref w_WRITE)])) rfl (by rw [hml]; rfl) (Steps.refl _) (argsL := [(.ref w_READ)]) (rest := []) (lenOf pd0_2 rfl) rfl (by show 2 * 0 + _ ≤ _; exact Nat.le_of_eq rfl) (hb hby at_34) (fun _ _ => ⟨rfl, e62q, (by decide : 0 + 0 ≤ _), (by decide : 0 + 0 ≤ _)⟩)
      dsimp only [Pt.U, Pt.locs, Pt.cells, Pt.slots] at X63 l63 y63 z63 st63 hQ63
      subst l63 y63 z63
      obtain ⟨rfl, N63q, e63q⟩ := hQ63
      have N63 := Fr.app N62 N63q
      refine Ends.go (fun _ k => st63.trans k) ?_
      show Ends p e below s T63 (mkF m 37 #[.val (.int p0), .val (.int p1), .val (.int (2 : Int32)), .val (.int (1 : Int32)), .val (.ref w_WRITE), .val (.ref w_READ), .val (.ref w_WRITE), .unset, .unset] [(.ref w_WRITE)]) _ _ _
      refine Ends.go (fun _ k => XS.astore X63.here hx rfl (hb hby at_37) rfl rfl (l' := #[.val (.int p0), .val (.int p1), .val (.int (2 : Int32)), .val (.int (1 : Int32)), .val (.ref w_WRITE), .val (.ref w_READ), .val (.ref w_WRITE), .val (.ref w_WRITE), .unset]) rfl k) ?_
      show Ends p e below s T63 (mkF m 39 #[.val (.int p0), .val (.int p1), .val (.int (2 : Int32)), .val (.int (1 : Int32)), .val (.ref w_WRITE), .val (.ref w_READ), .val (.ref w_WRITE), .val (.ref w_WRITE), .unset] []) _ _ _
      refine Ends.go (fun _ k => XS.aload X63.here hx rfl (hb hby at_39) rfl rfl k) ?_
      show Ends p e below s T63 (mkF m 41 #[.val (.int p0), .val (.int p1), .val (.int (2 : Int32)), .val (.int (1 : Int32)), .val (.ref w_WRITE), .val (.ref w_READ), .val (.ref w_WRITE), .val (.ref w_WRITE), .unset] [(.ref w_READ)]) _ _ _
      refine Ends.go (fun _ k => XS.aload X63.here hx rfl (hb hby at_41) rfl rfl k) ?_
      show Ends p e below s T63 (mkF m 43 #[.val (.int p0), .val (.int p1), .val (.int (2 : Int32)), .val (.int (1 : Int32)), .val (.ref w_WRITE), .val (.ref w_READ), .val (.ref w_WRITE), .val (.ref w_WRITE), .unset] [(.ref w_WRITE), (.ref w_READ)]) _ _ _
      obtain ⟨cq64, kq64, q64a, q64b, q64c⟩ := isOf hZ e63q (E_READ.ext O0.2)
      obtain ⟨_, _, ⟨T64, L64, k64, n64⟩, -, X64, ⟨Lc64, hQ64, l64, y64, z64⟩, st64⟩ := X63.virtualBack hx (y := (⟨"com/example/usher_paths/usherpaths/Level", "max", "(Lcom/example/usher_paths/usherpaths/Level;)Lcom/example/usher_paths/usherpaths/Level;"⟩ : MethodName)) (z := (⟨"com/example/usher_paths/usherpaths/Level", "max", "(Lcom/example/usher_paths/usherpaths/Level;)Lcom/example/usher_paths/usherpaths/Level;"⟩ : MethodName)) hown (mvT hZ (hw _ (List.mem_of_getElem? (i := 13) rfl))) (mvT hZ (hw _ (List.mem_of_getElem? (i := 14) rfl))) (notFace_of_selects (args := #[]) (mvT hZ (hw _ (List.mem_of_getElem? (i := 16) rfl)))) (mvT hZ (hw _ (List.mem_of_getElem? (i := 16) rfl))) (mvT hZ (hw _ (List.mem_of_getElem? (i := 15) rfl))) (by decide) (own_backOf (W := 0) (rmM l Z a0 hw [] n0 h0 O0 w_READ w_WRITE w_NONE w_OWNER w_WRITE w_READ FF0 mr MM (1 : Int32) F_ordinal_READ E_READ (2 : Int32) F_ordinal_WRITE E_WRITE (0 : Int32) (by decide) w_WRITE (by simp)) hZ (hw _ (List.mem_of_getElem? (i := 17) rfl)) (hw _ (List.mem_of_getElem? (i := 5) rfl)) (by decide) (by decide)) q64a q64c (g := (mkF m 43 #[.val (.int p0), .val (.int p1), .val (.int (2 : Int32)), .val (.int (1 : Int32)), .val (.ref w_WRITE), .val (.ref w_READ), .val (.ref w_WRITE), .val (.ref w_WRITE), .unset] [(.ref w_WRITE), (.ref w_READ)])) rfl (by rw [hml]; rfl) (Steps.refl _) (argsL := [(.ref w_WRITE)]) (rest := []) (lenOf pd0_2 rfl) rfl (by show 2 * 0 + _ ≤ _; exact Nat.le_of_eq rfl) (hb hby at_43) (fun _ _ => ⟨rfl, e63q, (by decide : 0 + 0 ≤ _), (by decide : 0 + 0 ≤ _)⟩)
      dsimp only [Pt.U, Pt.locs, Pt.cells, Pt.slots] at X64 l64 y64 z64 st64 hQ64
      subst l64 y64 z64
      obtain ⟨rfl, N64q, e64q⟩ := hQ64
      have N64 := Fr.app N63 N64q
      refine Ends.go (fun _ k => st64.trans k) ?_
      show Ends p e below s T64 (mkF m 46 #[.val (.int p0), .val (.int p1), .val (.int (2 : Int32)), .val (.int (1 : Int32)), .val (.ref w_WRITE), .val (.ref w_READ), .val (.ref w_WRITE), .val (.ref w_WRITE), .unset] [(.ref w_WRITE)]) _ _ _
      refine Ends.go (fun _ k => XS.astore X64.here hx rfl (hb hby at_46) rfl rfl (l' := #[.val (.int p0), .val (.int p1), .val (.int (2 : Int32)), .val (.int (1 : Int32)), .val (.ref w_WRITE), .val (.ref w_READ), .val (.ref w_WRITE), .val (.ref w_WRITE), .val (.ref w_WRITE)]) rfl k) ?_
      show Ends p e below s T64 (mkF m 48 #[.val (.int p0), .val (.int p1), .val (.int (2 : Int32)), .val (.int (1 : Int32)), .val (.ref w_WRITE), .val (.ref w_READ), .val (.ref w_WRITE), .val (.ref w_WRITE), .val (.ref w_WRITE)] []) _ _ _
      refine Ends.go (fun _ k => XS.aload X64.here hx rfl (hb hby at_48) rfl rfl k) ?_
      show Ends p e below s T64 (mkF m 50 #[.val (.int p0), .val (.int p1), .val (.int (2 : Int32)), .val (.int (1 : Int32)), .val (.ref w_WRITE), .val (.ref w_READ), .val (.ref w_WRITE), .val (.ref w_WRITE), .val (.ref w_WRITE)] [(.ref w_WRITE)]) _ _ _
      refine Ends.go (fun _ k => XS.aload X64.here hx rfl (hb hby at_50) rfl rfl k) ?_
      show Ends p e below s T64 (mkF m 52 #[.val (.int p0), .val (.int p1), .val (.int (2 : Int32)), .val (.int (1 : Int32)), .val (.ref w_WRITE), .val (.ref w_READ), .val (.ref w_WRITE), .val (.ref w_WRITE), .val (.ref w_WRITE)] [(.ref w_WRITE), (.ref w_WRITE)]) _ _ _
      refine Ends.go (fun _ k => Jvm.RoadKit.acmp (g := (mkF m 52 #[.val (.int p0), .val (.int p1), .val (.int (2 : Int32)), .val (.int (1 : Int32)), .val (.ref w_WRITE), .val (.ref w_READ), .val (.ref w_WRITE), .val (.ref w_WRITE), .val (.ref w_WRITE)] [(.ref w_WRITE), (.ref w_WRITE)])) X64 hx rfl rfl rfl (pc0 := 52) (pc' := 55) (same := true) rfl (hb hby at_52) rfl (decide_eq_true rfl) (by decide) (by decide) k) ?_
      show Ends p e below s T64 (mkF m 55 #[.val (.int p0), .val (.int p1), .val (.int (2 : Int32)), .val (.int (1 : Int32)), .val (.ref w_WRITE), .val (.ref w_READ), .val (.ref w_WRITE), .val (.ref w_WRITE), .val (.ref w_WRITE)] []) _ _ _
      refine Ends.go (fun _ k => XS.aload X64.here hx rfl (hb hby at_55) rfl rfl k) ?_
      show Ends p e below s T64 (mkF m 57 #[.val (.int p0), .val (.int p1), .val (.int (2 : Int32)), .val (.int (1 : Int32)), .val (.ref w_WRITE), .val (.ref w_READ), .val (.ref w_WRITE), .val (.ref w_WRITE), .val (.ref w_WRITE)] [(.ref w_WRITE)]) _ _ _
      refine Ends.go (fun _ k => XS.aload X64.here hx rfl (hb hby at_57) rfl rfl k) ?_
      show Ends p e below s T64 (mkF m 59 #[.val (.int p0), .val (.int p1), .val (.int (2 : Int32)), .val (.int (1 : Int32)), .val (.ref w_WRITE), .val (.ref w_READ), .val (.ref w_WRITE), .val (.ref w_WRITE), .val (.ref w_WRITE)] [(.ref w_WRITE), (.ref w_WRITE)]) _ _ _
      refine Ends.go (fun _ k => Jvm.RoadKit.acmp (g := (mkF m 59 #[.val (.int p0), .val (.int p1), .val (.int (2 : Int32)), .val (.int (1 : Int32)), .val (.ref w_WRITE), .val (.ref w_READ), .val (.ref w_WRITE), .val (.ref w_WRITE), .val (.ref w_WRITE)] [(.ref w_WRITE), (.ref w_WRITE)])) X64 hx rfl rfl rfl (pc0 := 59) (pc' := 62) (same := true) rfl (hb hby at_59) rfl (decide_eq_true rfl) (by decide) (by decide) k) ?_
      show Ends p e below s T64 (mkF m 62 #[.val (.int p0), .val (.int p1), .val (.int (2 : Int32)), .val (.int (1 : Int32)), .val (.ref w_WRITE), .val (.ref w_READ), .val (.ref w_WRITE), .val (.ref w_WRITE), .val (.ref w_WRITE)] []) _ _ _
      refine Ends.go (fun _ k => XS.iconst X64.here hx rfl (hb hby at_62) k) ?_
      show Ends p e below s T64 (mkF m 63 #[.val (.int p0), .val (.int p1), .val (.int (2 : Int32)), .val (.int (1 : Int32)), .val (.ref w_WRITE), .val (.ref w_READ), .val (.ref w_WRITE), .val (.ref w_WRITE), .val (.ref w_WRITE)] [(.int (1 : Int32))]) _ _ _
      refine Ends.go (fun _ k => XS.goto X64.here hx rfl (pc0 := 63) (pc' := 67) rfl (hb hby at_63) (by decide) (by decide) k) ?_
      show Ends p e below s T64 (mkF m 67 #[.val (.int p0), .val (.int p1), .val (.int (2 : Int32)), .val (.int (1 : Int32)), .val (.ref w_WRITE), .val (.ref w_READ), .val (.ref w_WRITE), .val (.ref w_WRITE), .val (.ref w_WRITE)] [(.int (1 : Int32))]) _ _ _
      refine Ends.retZ X64 hx Bd.notSynchronized (t := .boolean) Bd.returns (by simp) (hb hby at_67) (by decide) (by decide) ?_
      exact ⟨rfl, N64⟩
    · show Ends p e below s s₁ (mkF m 7 #[.val (.int p0), .val (.int p1), .val (.int (2 : Int32)), .unset, .unset, .unset, .unset, .unset, .unset] [(.int (2 : Int32))]) _ _ _
      refine Ends.go (fun _ k => XS.istoreN X0.here hx rfl (hb hby at_7) rfl (l' := #[.val (.int p0), .val (.int p1), .val (.int (2 : Int32)), .val (.int (2 : Int32)), .unset, .unset, .unset, .unset, .unset]) rfl k) ?_
      show Ends p e below s s₁ (mkF m 8 #[.val (.int p0), .val (.int p1), .val (.int (2 : Int32)), .val (.int (2 : Int32)), .unset, .unset, .unset, .unset, .unset] []) _ _ _
      refine Ends.go (fun _ k => XS.iloadN X0.here hx rfl (hb hby at_8) rfl k) ?_
      show Ends p e below s s₁ (mkF m 9 #[.val (.int p0), .val (.int p1), .val (.int (2 : Int32)), .val (.int (2 : Int32)), .unset, .unset, .unset, .unset, .unset] [(.int (2 : Int32))]) _ _ _
      obtain ⟨_, _, ⟨T65, L65, k65, n65⟩, -, X65, ⟨Lc65, hQ65, l65, y65, z65⟩, st65⟩ := Jvm.LawKit.callS X0 hx (y := (⟨"com/example/usher_paths/usherpaths/LevelMaxPinLaw", "pick", "(I)Lcom/example/usher_paths/usherpaths/Level;"⟩ : MethodName)) hown (mvT hZ (hw _ (List.mem_of_getElem? (i := 0) rfl))) (mvT hZ (hw _ (List.mem_of_getElem? (i := 1) rfl))) (mvT hZ (hw _ (List.mem_of_getElem? (i := 2) rfl))) (mvT hZ (hw _ (List.mem_of_getElem? (i := 3) rfl))) (by decide) (own_backOf (W := 0) (rmP l Z a0 hw [] n0 h0 O0 (2 : Int32) w_NONE w_OWNER w_WRITE w_READ FF0 mr MM w_WRITE (by simp)) hZ (hw _ (List.mem_of_getElem? (i := 3) rfl)) (hw _ (List.mem_of_getElem? (i := 2) rfl)) (by decide) (by decide)) (g := (mkF m 9 #[.val (.int p0), .val (.int p1), .val (.int (2 : Int32)), .val (.int (2 : Int32)), .unset, .unset, .unset, .unset, .unset] [(.int (2 : Int32))])) rfl (by rw [hml]; rfl) (argsL := [(.int (2 : Int32))]) (rest := []) (lenOf pd0_0 rfl) rfl (by show 2 * 0 + _ ≤ _; exact Nat.le_of_eq rfl) (hb hby at_9) (fun _ _ => ⟨rfl, e0, (by decide : 0 + 0 ≤ _), (by decide : 0 + 0 ≤ _)⟩)
      dsimp only [Pt.U, Pt.locs, Pt.cells, Pt.slots] at X65 l65 y65 z65 st65 hQ65
      subst l65 y65 z65
      obtain ⟨rfl, N65q, e65q⟩ := hQ65
      have N65 := Fr.app N0 N65q
      refine Ends.go st65 ?_
      show Ends p e below s T65 (mkF m 12 #[.val (.int p0), .val (.int p1), .val (.int (2 : Int32)), .val (.int (2 : Int32)), .unset, .unset, .unset, .unset, .unset] [(.ref w_WRITE)]) _ _ _
      refine Ends.go (fun _ k => XS.astore X65.here hx rfl (hb hby at_12) rfl rfl (l' := #[.val (.int p0), .val (.int p1), .val (.int (2 : Int32)), .val (.int (2 : Int32)), .val (.ref w_WRITE), .unset, .unset, .unset, .unset]) rfl k) ?_
      show Ends p e below s T65 (mkF m 14 #[.val (.int p0), .val (.int p1), .val (.int (2 : Int32)), .val (.int (2 : Int32)), .val (.ref w_WRITE), .unset, .unset, .unset, .unset] []) _ _ _
      refine Ends.go (fun _ k => XS.iloadN X65.here hx rfl (hb hby at_14) rfl k) ?_
      show Ends p e below s T65 (mkF m 15 #[.val (.int p0), .val (.int p1), .val (.int (2 : Int32)), .val (.int (2 : Int32)), .val (.ref w_WRITE), .unset, .unset, .unset, .unset] [(.int (2 : Int32))]) _ _ _
      obtain ⟨_, _, ⟨T66, L66, k66, n66⟩, -, X66, ⟨Lc66, hQ66, l66, y66, z66⟩, st66⟩ := Jvm.LawKit.callS X65 hx (y := (⟨"com/example/usher_paths/usherpaths/LevelMaxPinLaw", "pick", "(I)Lcom/example/usher_paths/usherpaths/Level;"⟩ : MethodName)) hown (mvT hZ (hw _ (List.mem_of_getElem? (i := 0) rfl))) (mvT hZ (hw _ (List.mem_of_getElem? (i := 1) rfl))) (mvT hZ (hw _ (List.mem_of_getElem? (i := 2) rfl))) (mvT hZ (hw _ (List.mem_of_getElem? (i := 3) rfl))) (by decide) (own_backOf (W := 0) (rmP l Z a0 hw [] n0 h0 O0 (2 : Int32) w_NONE w_OWNER w_WRITE w_READ FF0 mr MM w_WRITE (by simp)) hZ (hw _ (List.mem_of_getElem? (i := 3) rfl)) (hw _ (List.mem_of_getElem? (i := 2) rfl)) (by decide) (by decide)) (g := (mkF m 15 #[.val (.int p0), .val (.int p1), .val (.int (2 : Int32)), .val (.int (2 : Int32)), .val (.ref w_WRITE), .unset, .unset, .unset, .unset] [(.int (2 : Int32))])) rfl (by rw [hml]; rfl) (argsL := [(.int (2 : Int32))]) (rest := []) (lenOf pd0_0 rfl) rfl (by show 2 * 0 + _ ≤ _; exact Nat.le_of_eq rfl) (hb hby at_15) (fun _ _ => ⟨rfl, e65q, (by decide : 0 + 0 ≤ _), (by decide : 0 + 0 ≤ _)⟩)
      dsimp only [Pt.U, Pt.locs, Pt.cells, Pt.slots] at X66 l66 y66 z66 st66 hQ66
      subst l66 y66 z66
      obtain ⟨rfl, N66q, e66q⟩ := hQ66
      have N66 := Fr.app N65 N66q
      refine Ends.go st66 ?_
      show Ends p e below s T66 (mkF m 18 #[.val (.int p0), .val (.int p1), .val (.int (2 : Int32)), .val (.int (2 : Int32)), .val (.ref w_WRITE), .unset, .unset, .unset, .unset] [(.ref w_WRITE)]) _ _ _
      refine Ends.go (fun _ k => XS.astore X66.here hx rfl (hb hby at_18) rfl rfl (l' := #[.val (.int p0), .val (.int p1), .val (.int (2 : Int32)), .val (.int (2 : Int32)), .val (.ref w_WRITE), .val (.ref w_WRITE), .unset, .unset, .unset]) rfl k) ?_
      show Ends p e below s T66 (mkF m 20 #[.val (.int p0), .val (.int p1), .val (.int (2 : Int32)), .val (.int (2 : Int32)), .val (.ref w_WRITE), .val (.ref w_WRITE), .unset, .unset, .unset] []) _ _ _
      refine Ends.go (fun _ k => XS.iloadN X66.here hx rfl (hb hby at_20) rfl k) ?_
      show Ends p e below s T66 (mkF m 21 #[.val (.int p0), .val (.int p1), .val (.int (2 : Int32)), .val (.int (2 : Int32)), .val (.ref w_WRITE), .val (.ref w_WRITE), .unset, .unset, .unset] [(.int (2 : Int32))]) _ _ _
      refine Ends.go (fun _ k => XS.iloadN X66.here hx rfl (hb hby at_21) rfl k) ?_
      show Ends p e below s T66 (mkF m 22 #[.val (.int p0), .val (.int p1), .val (.int (2 : Int32)), .val (.int (2 : Int32)), .val (.ref w_WRITE), .val (.ref w_WRITE), .unset, .unset, .unset] [(.int (2 : Int32)), (.int (2 : Int32))]) _ _ _
      obtain ⟨_, _, ⟨T67, L67, k67, n67⟩, -, X67, ⟨Lc67, hQ67, l67, y67, z67⟩, st67⟩ := Jvm.LawKit.callS X66 hx (y := (⟨"java/lang/Math", "max", "(II)I"⟩ : MethodName)) hown (mvT hZ (hw _ (List.mem_of_getElem? (i := 9) rfl))) (mvT hZ (hw _ (List.mem_of_getElem? (i := 10) rfl))) (mvT hZ (hw _ (List.mem_of_getElem? (i := 11) rfl))) (mvT hZ (hw _ (List.mem_of_getElem? (i := 12) rfl))) (by decide) (own_backOf (W := 0) (rmX l Z a0 hw [] n0 h0 O0 (2 : Int32) (2 : Int32) w_NONE w_OWNER w_WRITE w_READ FF0 mr MM (2 : Int32) (by decide)) hZ (hw _ (List.mem_of_getElem? (i := 12) rfl)) (hw _ (List.mem_of_getElem? (i := 11) rfl)) (by decide) (by decide)) (g := (mkF m 22 #[.val (.int p0), .val (.int p1), .val (.int (2 : Int32)), .val (.int (2 : Int32)), .val (.ref w_WRITE), .val (.ref w_WRITE), .unset, .unset, .unset] [(.int (2 : Int32)), (.int (2 : Int32))])) rfl (by rw [hml]; rfl) (argsL := [(.int (2 : Int32)), (.int (2 : Int32))]) (rest := []) (lenOf pd0_1 rfl) rfl (by show 2 * 0 + _ ≤ _; exact Nat.le_of_eq rfl) (hb hby at_22) (fun _ _ => ⟨rfl, e66q, (by decide : 0 + 0 ≤ _), (by decide : 0 + 0 ≤ _)⟩)
      dsimp only [Pt.U, Pt.locs, Pt.cells, Pt.slots] at X67 l67 y67 z67 st67 hQ67
      subst l67 y67 z67
      obtain ⟨rfl, N67q, e67q⟩ := hQ67
      have N67 := Fr.app N66 N67q
      refine Ends.go st67 ?_
      show Ends p e below s T67 (mkF m 25 #[.val (.int p0), .val (.int p1), .val (.int (2 : Int32)), .val (.int (2 : Int32)), .val (.ref w_WRITE), .val (.ref w_WRITE), .unset, .unset, .unset] [(.int (2 : Int32))]) _ _ _
      obtain ⟨_, _, ⟨T68, L68, k68, n68⟩, -, X68, ⟨Lc68, hQ68, l68, y68, z68⟩, st68⟩ := Jvm.LawKit.callS X67 hx (y := (⟨"com/example/usher_paths/usherpaths/LevelMaxPinLaw", "pick", "(I)Lcom/example/usher_paths/usherpaths/Level;"⟩ : MethodName)) hown (mvT hZ (hw _ (List.mem_of_getElem? (i := 0) rfl))) (mvT hZ (hw _ (List.mem_of_getElem? (i := 1) rfl))) (mvT hZ (hw _ (List.mem_of_getElem? (i := 2) rfl))) (mvT hZ (hw _ (List.mem_of_getElem? (i := 3) rfl))) (by decide) (own_backOf (W := 0) (rmP l Z a0 hw [] n0 h0 O0 (2 : Int32) w_NONE w_OWNER w_WRITE w_READ FF0 mr MM w_WRITE (by simp)) hZ (hw _ (List.mem_of_getElem? (i := 3) rfl)) (hw _ (List.mem_of_getElem? (i := 2) rfl)) (by decide) (by decide)) (g := (mkF m 25 #[.val (.int p0), .val (.int p1), .val (.int (2 : Int32)), .val (.int (2 : Int32)), .val (.ref w_WRITE), .val (.ref w_WRITE), .unset, .unset, .unset] [(.int (2 : Int32))])) rfl (by rw [hml]; rfl) (argsL := [(.int (2 : Int32))]) (rest := []) (lenOf pd0_0 rfl) rfl (by show 2 * 0 + _ ≤ _; exact Nat.le_of_eq rfl) (hb hby at_25) (fun _ _ => ⟨rfl, e67q, (by decide : 0 + 0 ≤ _), (by decide : 0 + 0 ≤ _)⟩)
      dsimp only [Pt.U, Pt.locs, Pt.cells, Pt.slots] at X68 l68 y68 z68 st68 hQ68
      subst l68 y68 z68
      obtain ⟨rfl, N68q, e68q⟩ := hQ68
      have N68 := Fr.app N67 N68q
      refine Ends.go st68 ?_
      show Ends p e below s T68 (mkF m 28 #[.val (.int p0), .val (.int p1), .val (.int (2 : Int32)), .val (.int (2 : Int32)), .val (.ref w_WRITE), .val (.ref w_WRITE), .unset, .unset, .unset] [(.ref w_WRITE)]) _ _ _
      refine Ends.go (fun _ k => XS.astore X68.here hx rfl (hb hby at_28) rfl rfl (l' := #[.val (.int p0), .val (.int p1), .val (.int (2 : Int32)), .val (.int (2 : Int32)), .val (.ref w_WRITE), .val (.ref w_WRITE), .val (.ref w_WRITE), .unset, .unset]) rfl k) ?_
      show Ends p e below s T68 (mkF m 30 #[.val (.int p0), .val (.int p1), .val (.int (2 : Int32)), .val (.int (2 : Int32)), .val (.ref w_WRITE), .val (.ref w_WRITE), .val (.ref w_WRITE), .unset, .unset] []) _ _ _
      refine Ends.go (fun _ k => XS.aload X68.here hx rfl (hb hby at_30) rfl rfl k) ?_
      show Ends p e below s T68 (mkF m 32 #[.val (.int p0), .val (.int p1), .val (.int (2 : Int32)), .val (.int (2 : Int32)), .val (.ref w_WRITE), .val (.ref w_WRITE), .val (.ref w_WRITE), .unset, .unset] [(.ref w_WRITE)]) _ _ _
      refine Ends.go (fun _ k => XS.aload X68.here hx rfl (hb hby at_32) rfl rfl k) ?_
      show Ends p e below s T68 (mkF m 34 #[.val (.int p0), .val (.int p1), .val (.int (2 : Int32)), .val (.int (2 : Int32)), .val (.ref w_WRITE), .val (.ref w_WRITE), .val (.ref w_WRITE), .unset, .unset] [(.ref w_WRITE), (.ref w_WRITE)]) _ _ _
      obtain ⟨cq69, kq69, q69a, q69b, q69c⟩ := isOf hZ e68q (E_WRITE.ext O0.2)
      obtain ⟨_, _, ⟨T69, L69, k69, n69⟩, -, X69, ⟨Lc69, hQ69, l69, y69, z69⟩, st69⟩ := X68.virtualBack hx (y := (⟨"com/example/usher_paths/usherpaths/Level", "max", "(Lcom/example/usher_paths/usherpaths/Level;)Lcom/example/usher_paths/usherpaths/Level;"⟩ : MethodName)) (z := (⟨"com/example/usher_paths/usherpaths/Level", "max", "(Lcom/example/usher_paths/usherpaths/Level;)Lcom/example/usher_paths/usherpaths/Level;"⟩ : MethodName)) hown (mvT hZ (hw _ (List.mem_of_getElem? (i := 13) rfl))) (mvT hZ (hw _ (List.mem_of_getElem? (i := 14) rfl))) (notFace_of_selects (args := #[]) (mvT hZ (hw _ (List.mem_of_getElem? (i := 16) rfl)))) (mvT hZ (hw _ (List.mem_of_getElem? (i := 16) rfl))) (mvT hZ (hw _ (List.mem_of_getElem? (i := 15) rfl))) (by decide) (own_backOf (W := 0) (rmM l Z a0 hw [] n0 h0 O0 w_WRITE w_WRITE w_NONE w_OWNER w_WRITE w_READ FF0 mr MM (2 : Int32) F_ordinal_WRITE E_WRITE (2 : Int32) F_ordinal_WRITE E_WRITE (1 : Int32) (by decide) w_WRITE (by simp)) hZ (hw _ (List.mem_of_getElem? (i := 17) rfl)) (hw _ (List.mem_of_getElem? (i := 5) rfl)) (by decide) (by decide)) q69a q69c (g := (mkF m 34 #[.val (.int p0), .val (.int p1), .val (.int (2 : Int32)), .val (.int (2 : Int32)), .val (.ref w_WRITE), .val (.ref w_WRITE), .val (.ref w_WRITE), .unset, .unset] [(.ref w_WRITE), (.ref w_WRITE)])) rfl (by rw [hml]; rfl) (Steps.refl _) (argsL := [(.ref w_WRITE)]) (rest := []) (lenOf pd0_2 rfl) rfl (by show 2 * 0 + _ ≤ _; exact Nat.le_of_eq rfl) (hb hby at_34) (fun _ _ => ⟨rfl, e68q, (by decide : 0 + 0 ≤ _), (by decide : 0 + 0 ≤ _)⟩)
      dsimp only [Pt.U, Pt.locs, Pt.cells, Pt.slots] at X69 l69 y69 z69 st69 hQ69
      subst l69 y69 z69
      obtain ⟨rfl, N69q, e69q⟩ := hQ69
      have N69 := Fr.app N68 N69q
      refine Ends.go (fun _ k => st69.trans k) ?_
      show Ends p e below s T69 (mkF m 37 #[.val (.int p0), .val (.int p1), .val (.int (2 : Int32)), .val (.int (2 : Int32)), .val (.ref w_WRITE), .val (.ref w_WRITE), .val (.ref w_WRITE), .unset, .unset] [(.ref w_WRITE)]) _ _ _
      refine Ends.go (fun _ k => XS.astore X69.here hx rfl (hb hby at_37) rfl rfl (l' := #[.val (.int p0), .val (.int p1), .val (.int (2 : Int32)), .val (.int (2 : Int32)), .val (.ref w_WRITE), .val (.ref w_WRITE), .val (.ref w_WRITE), .val (.ref w_WRITE), .unset]) rfl k) ?_
      show Ends p e below s T69 (mkF m 39 #[.val (.int p0), .val (.int p1), .val (.int (2 : Int32)), .val (.int (2 : Int32)), .val (.ref w_WRITE), .val (.ref w_WRITE), .val (.ref w_WRITE), .val (.ref w_WRITE), .unset] []) _ _ _
      refine Ends.go (fun _ k => XS.aload X69.here hx rfl (hb hby at_39) rfl rfl k) ?_
      show Ends p e below s T69 (mkF m 41 #[.val (.int p0), .val (.int p1), .val (.int (2 : Int32)), .val (.int (2 : Int32)), .val (.ref w_WRITE), .val (.ref w_WRITE), .val (.ref w_WRITE), .val (.ref w_WRITE), .unset] [(.ref w_WRITE)]) _ _ _
      refine Ends.go (fun _ k => XS.aload X69.here hx rfl (hb hby at_41) rfl rfl k) ?_
      show Ends p e below s T69 (mkF m 43 #[.val (.int p0), .val (.int p1), .val (.int (2 : Int32)), .val (.int (2 : Int32)), .val (.ref w_WRITE), .val (.ref w_WRITE), .val (.ref w_WRITE), .val (.ref w_WRITE), .unset] [(.ref w_WRITE), (.ref w_WRITE)]) _ _ _
      obtain ⟨cq70, kq70, q70a, q70b, q70c⟩ := isOf hZ e69q (E_WRITE.ext O0.2)
      obtain ⟨_, _, ⟨T70, L70, k70, n70⟩, -, X70, ⟨Lc70, hQ70, l70, y70, z70⟩, st70⟩ := X69.virtualBack hx (y := (⟨"com/example/usher_paths/usherpaths/Level", "max", "(Lcom/example/usher_paths/usherpaths/Level;)Lcom/example/usher_paths/usherpaths/Level;"⟩ : MethodName)) (z := (⟨"com/example/usher_paths/usherpaths/Level", "max", "(Lcom/example/usher_paths/usherpaths/Level;)Lcom/example/usher_paths/usherpaths/Level;"⟩ : MethodName)) hown (mvT hZ (hw _ (List.mem_of_getElem? (i := 13) rfl))) (mvT hZ (hw _ (List.mem_of_getElem? (i := 14) rfl))) (notFace_of_selects (args := #[]) (mvT hZ (hw _ (List.mem_of_getElem? (i := 16) rfl)))) (mvT hZ (hw _ (List.mem_of_getElem? (i := 16) rfl))) (mvT hZ (hw _ (List.mem_of_getElem? (i := 15) rfl))) (by decide) (own_backOf (W := 0) (rmM l Z a0 hw [] n0 h0 O0 w_WRITE w_WRITE w_NONE w_OWNER w_WRITE w_READ FF0 mr MM (2 : Int32) F_ordinal_WRITE E_WRITE (2 : Int32) F_ordinal_WRITE E_WRITE (1 : Int32) (by decide) w_WRITE (by simp)) hZ (hw _ (List.mem_of_getElem? (i := 17) rfl)) (hw _ (List.mem_of_getElem? (i := 5) rfl)) (by decide) (by decide)) q70a q70c (g := (mkF m 43 #[.val (.int p0), .val (.int p1), .val (.int (2 : Int32)), .val (.int (2 : Int32)), .val (.ref w_WRITE), .val (.ref w_WRITE), .val (.ref w_WRITE), .val (.ref w_WRITE), .unset] [(.ref w_WRITE), (.ref w_WRITE)])) rfl (by rw [hml]; rfl) (Steps.refl _) (argsL := [(.ref w_WRITE)]) (rest := []) (lenOf pd0_2 rfl) rfl (by show 2 * 0 + _ ≤ _; exact Nat.le_of_eq rfl) (hb hby at_43) (fun _ _ => ⟨rfl, e69q, (by decide : 0 + 0 ≤ _), (by decide : 0 + 0 ≤ _)⟩)
      dsimp only [Pt.U, Pt.locs, Pt.cells, Pt.slots] at X70 l70 y70 z70 st70 hQ70
      subst l70 y70 z70
      obtain ⟨rfl, N70q, e70q⟩ := hQ70
      have N70 := Fr.app N69 N70q
      refine Ends.go (fun _ k => st70.trans k) ?_
      show Ends p e below s T70 (mkF m 46 #[.val (.int p0), .val (.int p1), .val (.int (2 : Int32)), .val (.int (2 : Int32)), .val (.ref w_WRITE), .val (.ref w_WRITE), .val (.ref w_WRITE), .val (.ref w_WRITE), .unset] [(.ref w_WRITE)]) _ _ _
      refine Ends.go (fun _ k => XS.astore X70.here hx rfl (hb hby at_46) rfl rfl (l' := #[.val (.int p0), .val (.int p1), .val (.int (2 : Int32)), .val (.int (2 : Int32)), .val (.ref w_WRITE), .val (.ref w_WRITE), .val (.ref w_WRITE), .val (.ref w_WRITE), .val (.ref w_WRITE)]) rfl k) ?_
      show Ends p e below s T70 (mkF m 48 #[.val (.int p0), .val (.int p1), .val (.int (2 : Int32)), .val (.int (2 : Int32)), .val (.ref w_WRITE), .val (.ref w_WRITE), .val (.ref w_WRITE), .val (.ref w_WRITE), .val (.ref w_WRITE)] []) _ _ _
      refine Ends.go (fun _ k => XS.aload X70.here hx rfl (hb hby at_48) rfl rfl k) ?_
      show Ends p e below s T70 (mkF m 50 #[.val (.int p0), .val (.int p1), .val (.int (2 : Int32)), .val (.int (2 : Int32)), .val (.ref w_WRITE), .val (.ref w_WRITE), .val (.ref w_WRITE), .val (.ref w_WRITE), .val (.ref w_WRITE)] [(.ref w_WRITE)]) _ _ _
      refine Ends.go (fun _ k => XS.aload X70.here hx rfl (hb hby at_50) rfl rfl k) ?_
      show Ends p e below s T70 (mkF m 52 #[.val (.int p0), .val (.int p1), .val (.int (2 : Int32)), .val (.int (2 : Int32)), .val (.ref w_WRITE), .val (.ref w_WRITE), .val (.ref w_WRITE), .val (.ref w_WRITE), .val (.ref w_WRITE)] [(.ref w_WRITE), (.ref w_WRITE)]) _ _ _
      refine Ends.go (fun _ k => Jvm.RoadKit.acmp (g := (mkF m 52 #[.val (.int p0), .val (.int p1), .val (.int (2 : Int32)), .val (.int (2 : Int32)), .val (.ref w_WRITE), .val (.ref w_WRITE), .val (.ref w_WRITE), .val (.ref w_WRITE), .val (.ref w_WRITE)] [(.ref w_WRITE), (.ref w_WRITE)])) X70 hx rfl rfl rfl (pc0 := 52) (pc' := 55) (same := true) rfl (hb hby at_52) rfl (decide_eq_true rfl) (by decide) (by decide) k) ?_
      show Ends p e below s T70 (mkF m 55 #[.val (.int p0), .val (.int p1), .val (.int (2 : Int32)), .val (.int (2 : Int32)), .val (.ref w_WRITE), .val (.ref w_WRITE), .val (.ref w_WRITE), .val (.ref w_WRITE), .val (.ref w_WRITE)] []) _ _ _
      refine Ends.go (fun _ k => XS.aload X70.here hx rfl (hb hby at_55) rfl rfl k) ?_
      show Ends p e below s T70 (mkF m 57 #[.val (.int p0), .val (.int p1), .val (.int (2 : Int32)), .val (.int (2 : Int32)), .val (.ref w_WRITE), .val (.ref w_WRITE), .val (.ref w_WRITE), .val (.ref w_WRITE), .val (.ref w_WRITE)] [(.ref w_WRITE)]) _ _ _
      refine Ends.go (fun _ k => XS.aload X70.here hx rfl (hb hby at_57) rfl rfl k) ?_
      show Ends p e below s T70 (mkF m 59 #[.val (.int p0), .val (.int p1), .val (.int (2 : Int32)), .val (.int (2 : Int32)), .val (.ref w_WRITE), .val (.ref w_WRITE), .val (.ref w_WRITE), .val (.ref w_WRITE), .val (.ref w_WRITE)] [(.ref w_WRITE), (.ref w_WRITE)]) _ _ _
      refine Ends.go (fun _ k => Jvm.RoadKit.acmp (g := (mkF m 59 #[.val (.int p0), .val (.int p1), .val (.int (2 : Int32)), .val (.int (2 : Int32)), .val (.ref w_WRITE), .val (.ref w_WRITE), .val (.ref w_WRITE), .val (.ref w_WRITE), .val (.ref w_WRITE)] [(.ref w_WRITE), (.ref w_WRITE)])) X70 hx rfl rfl rfl (pc0 := 59) (pc' := 62) (same := true) rfl (hb hby at_59) rfl (decide_eq_true rfl) (by decide) (by decide) k) ?_
      show Ends p e below s T70 (mkF m 62 #[.val (.int p0), .val (.int p1), .val (.int (2 : Int32)), .val (.int (2 : Int32)), .val (.ref w_WRITE), .val (.ref w_WRITE), .val (.ref w_WRITE), .val (.ref w_WRITE), .val (.ref w_WRITE)] []) _ _ _
      refine Ends.go (fun _ k => XS.iconst X70.here hx rfl (hb hby at_62) k) ?_
      show Ends p e below s T70 (mkF m 63 #[.val (.int p0), .val (.int p1), .val (.int (2 : Int32)), .val (.int (2 : Int32)), .val (.ref w_WRITE), .val (.ref w_WRITE), .val (.ref w_WRITE), .val (.ref w_WRITE), .val (.ref w_WRITE)] [(.int (1 : Int32))]) _ _ _
      refine Ends.go (fun _ k => XS.goto X70.here hx rfl (pc0 := 63) (pc' := 67) rfl (hb hby at_63) (by decide) (by decide) k) ?_
      show Ends p e below s T70 (mkF m 67 #[.val (.int p0), .val (.int p1), .val (.int (2 : Int32)), .val (.int (2 : Int32)), .val (.ref w_WRITE), .val (.ref w_WRITE), .val (.ref w_WRITE), .val (.ref w_WRITE), .val (.ref w_WRITE)] [(.int (1 : Int32))]) _ _ _
      refine Ends.retZ X70 hx Bd.notSynchronized (t := .boolean) Bd.returns (by simp) (hb hby at_67) (by decide) (by decide) ?_
      exact ⟨rfl, N70⟩
    · show Ends p e below s s₁ (mkF m 7 #[.val (.int p0), .val (.int p1), .val (.int (2 : Int32)), .unset, .unset, .unset, .unset, .unset, .unset] [(.int (3 : Int32))]) _ _ _
      refine Ends.go (fun _ k => XS.istoreN X0.here hx rfl (hb hby at_7) rfl (l' := #[.val (.int p0), .val (.int p1), .val (.int (2 : Int32)), .val (.int (3 : Int32)), .unset, .unset, .unset, .unset, .unset]) rfl k) ?_
      show Ends p e below s s₁ (mkF m 8 #[.val (.int p0), .val (.int p1), .val (.int (2 : Int32)), .val (.int (3 : Int32)), .unset, .unset, .unset, .unset, .unset] []) _ _ _
      refine Ends.go (fun _ k => XS.iloadN X0.here hx rfl (hb hby at_8) rfl k) ?_
      show Ends p e below s s₁ (mkF m 9 #[.val (.int p0), .val (.int p1), .val (.int (2 : Int32)), .val (.int (3 : Int32)), .unset, .unset, .unset, .unset, .unset] [(.int (2 : Int32))]) _ _ _
      obtain ⟨_, _, ⟨T71, L71, k71, n71⟩, -, X71, ⟨Lc71, hQ71, l71, y71, z71⟩, st71⟩ := Jvm.LawKit.callS X0 hx (y := (⟨"com/example/usher_paths/usherpaths/LevelMaxPinLaw", "pick", "(I)Lcom/example/usher_paths/usherpaths/Level;"⟩ : MethodName)) hown (mvT hZ (hw _ (List.mem_of_getElem? (i := 0) rfl))) (mvT hZ (hw _ (List.mem_of_getElem? (i := 1) rfl))) (mvT hZ (hw _ (List.mem_of_getElem? (i := 2) rfl))) (mvT hZ (hw _ (List.mem_of_getElem? (i := 3) rfl))) (by decide) (own_backOf (W := 0) (rmP l Z a0 hw [] n0 h0 O0 (2 : Int32) w_NONE w_OWNER w_WRITE w_READ FF0 mr MM w_WRITE (by simp)) hZ (hw _ (List.mem_of_getElem? (i := 3) rfl)) (hw _ (List.mem_of_getElem? (i := 2) rfl)) (by decide) (by decide)) (g := (mkF m 9 #[.val (.int p0), .val (.int p1), .val (.int (2 : Int32)), .val (.int (3 : Int32)), .unset, .unset, .unset, .unset, .unset] [(.int (2 : Int32))])) rfl (by rw [hml]; rfl) (argsL := [(.int (2 : Int32))]) (rest := []) (lenOf pd0_0 rfl) rfl (by show 2 * 0 + _ ≤ _; exact Nat.le_of_eq rfl) (hb hby at_9) (fun _ _ => ⟨rfl, e0, (by decide : 0 + 0 ≤ _), (by decide : 0 + 0 ≤ _)⟩)
      dsimp only [Pt.U, Pt.locs, Pt.cells, Pt.slots] at X71 l71 y71 z71 st71 hQ71
      subst l71 y71 z71
      obtain ⟨rfl, N71q, e71q⟩ := hQ71
      have N71 := Fr.app N0 N71q
      refine Ends.go st71 ?_
      show Ends p e below s T71 (mkF m 12 #[.val (.int p0), .val (.int p1), .val (.int (2 : Int32)), .val (.int (3 : Int32)), .unset, .unset, .unset, .unset, .unset] [(.ref w_WRITE)]) _ _ _
      refine Ends.go (fun _ k => XS.astore X71.here hx rfl (hb hby at_12) rfl rfl (l' := #[.val (.int p0), .val (.int p1), .val (.int (2 : Int32)), .val (.int (3 : Int32)), .val (.ref w_WRITE), .unset, .unset, .unset, .unset]) rfl k) ?_
      show Ends p e below s T71 (mkF m 14 #[.val (.int p0), .val (.int p1), .val (.int (2 : Int32)), .val (.int (3 : Int32)), .val (.ref w_WRITE), .unset, .unset, .unset, .unset] []) _ _ _
      refine Ends.go (fun _ k => XS.iloadN X71.here hx rfl (hb hby at_14) rfl k) ?_
      show Ends p e below s T71 (mkF m 15 #[.val (.int p0), .val (.int p1), .val (.int (2 : Int32)), .val (.int (3 : Int32)), .val (.ref w_WRITE), .unset, .unset, .unset, .unset] [(.int (3 : Int32))]) _ _ _
      obtain ⟨_, _, ⟨T72, L72, k72, n72⟩, -, X72, ⟨Lc72, hQ72, l72, y72, z72⟩, st72⟩ := Jvm.LawKit.callS X71 hx (y := (⟨"com/example/usher_paths/usherpaths/LevelMaxPinLaw", "pick", "(I)Lcom/example/usher_paths/usherpaths/Level;"⟩ : MethodName)) hown (mvT hZ (hw _ (List.mem_of_getElem? (i := 0) rfl))) (mvT hZ (hw _ (List.mem_of_getElem? (i := 1) rfl))) (mvT hZ (hw _ (List.mem_of_getElem? (i := 2) rfl))) (mvT hZ (hw _ (List.mem_of_getElem? (i := 3) rfl))) (by decide) (own_backOf (W := 0) (rmP l Z a0 hw [] n0 h0 O0 (3 : Int32) w_NONE w_OWNER w_WRITE w_READ FF0 mr MM w_OWNER (by simp)) hZ (hw _ (List.mem_of_getElem? (i := 3) rfl)) (hw _ (List.mem_of_getElem? (i := 2) rfl)) (by decide) (by decide)) (g := (mkF m 15 #[.val (.int p0), .val (.int p1), .val (.int (2 : Int32)), .val (.int (3 : Int32)), .val (.ref w_WRITE), .unset, .unset, .unset, .unset] [(.int (3 : Int32))])) rfl (by rw [hml]; rfl) (argsL := [(.int (3 : Int32))]) (rest := []) (lenOf pd0_0 rfl) rfl (by show 2 * 0 + _ ≤ _; exact Nat.le_of_eq rfl) (hb hby at_15) (fun _ _ => ⟨rfl, e71q, (by decide : 0 + 0 ≤ _), (by decide : 0 + 0 ≤ _)⟩)
      dsimp only [Pt.U, Pt.locs, Pt.cells, Pt.slots] at X72 l72 y72 z72 st72 hQ72
      subst l72 y72 z72
      obtain ⟨rfl, N72q, e72q⟩ := hQ72
      have N72 := Fr.app N71 N72q
      refine Ends.go st72 ?_
      show Ends p e below s T72 (mkF m 18 #[.val (.int p0), .val (.int p1), .val (.int (2 : Int32)), .val (.int (3 : Int32)), .val (.ref w_WRITE), .unset, .unset, .unset, .unset] [(.ref w_OWNER)]) _ _ _
      refine Ends.go (fun _ k => XS.astore X72.here hx rfl (hb hby at_18) rfl rfl (l' := #[.val (.int p0), .val (.int p1), .val (.int (2 : Int32)), .val (.int (3 : Int32)), .val (.ref w_WRITE), .val (.ref w_OWNER), .unset, .unset, .unset]) rfl k) ?_
      show Ends p e below s T72 (mkF m 20 #[.val (.int p0), .val (.int p1), .val (.int (2 : Int32)), .val (.int (3 : Int32)), .val (.ref w_WRITE), .val (.ref w_OWNER), .unset, .unset, .unset] []) _ _ _
      refine Ends.go (fun _ k => XS.iloadN X72.here hx rfl (hb hby at_20) rfl k) ?_
      show Ends p e below s T72 (mkF m 21 #[.val (.int p0), .val (.int p1), .val (.int (2 : Int32)), .val (.int (3 : Int32)), .val (.ref w_WRITE), .val (.ref w_OWNER), .unset, .unset, .unset] [(.int (2 : Int32))]) _ _ _
      refine Ends.go (fun _ k => XS.iloadN X72.here hx rfl (hb hby at_21) rfl k) ?_
      show Ends p e below s T72 (mkF m 22 #[.val (.int p0), .val (.int p1), .val (.int (2 : Int32)), .val (.int (3 : Int32)), .val (.ref w_WRITE), .val (.ref w_OWNER), .unset, .unset, .unset] [(.int (3 : Int32)), (.int (2 : Int32))]) _ _ _
      obtain ⟨_, _, ⟨T73, L73, k73, n73⟩, -, X73, ⟨Lc73, hQ73, l73, y73, z73⟩, st73⟩ := Jvm.LawKit.callS X72 hx (y := (⟨"java/lang/Math", "max", "(II)I"⟩ : MethodName)) hown (mvT hZ (hw _ (List.mem_of_getElem? (i := 9) rfl))) (mvT hZ (hw _ (List.mem_of_getElem? (i := 10) rfl))) (mvT hZ (hw _ (List.mem_of_getElem? (i := 11) rfl))) (mvT hZ (hw _ (List.mem_of_getElem? (i := 12) rfl))) (by decide) (own_backOf (W := 0) (rmX l Z a0 hw [] n0 h0 O0 (2 : Int32) (3 : Int32) w_NONE w_OWNER w_WRITE w_READ FF0 mr MM (3 : Int32) (by decide)) hZ (hw _ (List.mem_of_getElem? (i := 12) rfl)) (hw _ (List.mem_of_getElem? (i := 11) rfl)) (by decide) (by decide)) (g := (mkF m 22 #[.val (.int p0), .val (.int p1), .val (.int (2 : Int32)), .val (.int (3 : Int32)), .val (.ref w_WRITE), .val (.ref w_OWNER), .unset, .unset, .unset] [(.int (3 : Int32)), (.int (2 : Int32))])) rfl (by rw [hml]; rfl) (argsL := [(.int (2 : Int32)), (.int (3 : Int32))]) (rest := []) (lenOf pd0_1 rfl) rfl (by show 2 * 0 + _ ≤ _; exact Nat.le_of_eq rfl) (hb hby at_22) (fun _ _ => ⟨rfl, e72q, (by decide : 0 + 0 ≤ _), (by decide : 0 + 0 ≤ _)⟩)
      dsimp only [Pt.U, Pt.locs, Pt.cells, Pt.slots] at X73 l73 y73 z73 st73 hQ73
      subst l73 y73 z73
      obtain ⟨rfl, N73q, e73q⟩ := hQ73
      have N73 := Fr.app N72 N73q
      refine Ends.go st73 ?_
      show Ends p e below s T73 (mkF m 25 #[.val (.int p0), .val (.int p1), .val (.int (2 : Int32)), .val (.int (3 : Int32)), .val (.ref w_WRITE), .val (.ref w_OWNER), .unset, .unset, .unset] [(.int (3 : Int32))]) _ _ _
      obtain ⟨_, _, ⟨T74, L74, k74, n74⟩, -, X74, ⟨Lc74, hQ74, l74, y74, z74⟩, st74⟩ := Jvm.LawKit.callS X73 hx (y := (⟨"com/example/usher_paths/usherpaths/LevelMaxPinLaw", "pick", "(I)Lcom/example/usher_paths/usherpaths/Level;"⟩ : MethodName)) hown (mvT hZ (hw _ (List.mem_of_getElem? (i := 0) rfl))) (mvT hZ (hw _ (List.mem_of_getElem? (i := 1) rfl))) (mvT hZ (hw _ (List.mem_of_getElem? (i := 2) rfl))) (mvT hZ (hw _ (List.mem_of_getElem? (i := 3) rfl))) (by decide) (own_backOf (W := 0) (rmP l Z a0 hw [] n0 h0 O0 (3 : Int32) w_NONE w_OWNER w_WRITE w_READ FF0 mr MM w_OWNER (by simp)) hZ (hw _ (List.mem_of_getElem? (i := 3) rfl)) (hw _ (List.mem_of_getElem? (i := 2) rfl)) (by decide) (by decide)) (g := (mkF m 25 #[.val (.int p0), .val (.int p1), .val (.int (2 : Int32)), .val (.int (3 : Int32)), .val (.ref w_WRITE), .val (.ref w_OWNER), .unset, .unset, .unset] [(.int (3 : Int32))])) rfl (by rw [hml]; rfl) (argsL := [(.int (3 : Int32))]) (rest := []) (lenOf pd0_0 rfl) rfl (by show 2 * 0 + _ ≤ _; exact Nat.le_of_eq rfl) (hb hby at_25) (fun _ _ => ⟨rfl, e73q, (by decide : 0 + 0 ≤ _), (by decide : 0 + 0 ≤ _)⟩)
      dsimp only [Pt.U, Pt.locs, Pt.cells, Pt.slots] at X74 l74 y74 z74 st74 hQ74
      subst l74 y74 z74
      obtain ⟨rfl, N74q, e74q⟩ := hQ74
      have N74 := Fr.app N73 N74q
      refine Ends.go st74 ?_
      show Ends p e below s T74 (mkF m 28 #[.val (.int p0), .val (.int p1), .val (.int (2 : Int32)), .val (.int (3 : Int32)), .val (.ref w_WRITE), .val (.ref w_OWNER), .unset, .unset, .unset] [(.ref w_OWNER)]) _ _ _
      refine Ends.go (fun _ k => XS.astore X74.here hx rfl (hb hby at_28) rfl rfl (l' := #[.val (.int p0), .val (.int p1), .val (.int (2 : Int32)), .val (.int (3 : Int32)), .val (.ref w_WRITE), .val (.ref w_OWNER), .val (.ref w_OWNER), .unset, .unset]) rfl k) ?_
      show Ends p e below s T74 (mkF m 30 #[.val (.int p0), .val (.int p1), .val (.int (2 : Int32)), .val (.int (3 : Int32)), .val (.ref w_WRITE), .val (.ref w_OWNER), .val (.ref w_OWNER), .unset, .unset] []) _ _ _
      refine Ends.go (fun _ k => XS.aload X74.here hx rfl (hb hby at_30) rfl rfl k) ?_
      show Ends p e below s T74 (mkF m 32 #[.val (.int p0), .val (.int p1), .val (.int (2 : Int32)), .val (.int (3 : Int32)), .val (.ref w_WRITE), .val (.ref w_OWNER), .val (.ref w_OWNER), .unset, .unset] [(.ref w_WRITE)]) _ _ _
      refine Ends.go (fun _ k => XS.aload X74.here hx rfl (hb hby at_32) rfl rfl k) ?_
      show Ends p e below s T74 (mkF m 34 #[.val (.int p0), .val (.int p1), .val (.int (2 : Int32)), .val (.int (3 : Int32)), .val (.ref w_WRITE), .val (.ref w_OWNER), .val (.ref w_OWNER), .unset, .unset] [(.ref w_OWNER), (.ref w_WRITE)]) _ _ _
      obtain ⟨cq75, kq75, q75a, q75b, q75c⟩ := isOf hZ e74q (E_WRITE.ext O0.2)
      obtain ⟨_, _, ⟨T75, L75, k75, n75⟩, -, X75, ⟨Lc75, hQ75, l75, y75, z75⟩, st75⟩ := X74.virtualBack hx (y := (⟨"com/example/usher_paths/usherpaths/Level", "max", "(Lcom/example/usher_paths/usherpaths/Level;)Lcom/example/usher_paths/usherpaths/Level;"⟩ : MethodName)) (z := (⟨"com/example/usher_paths/usherpaths/Level", "max", "(Lcom/example/usher_paths/usherpaths/Level;)Lcom/example/usher_paths/usherpaths/Level;"⟩ : MethodName)) hown (mvT hZ (hw _ (List.mem_of_getElem? (i := 13) rfl))) (mvT hZ (hw _ (List.mem_of_getElem? (i := 14) rfl))) (notFace_of_selects (args := #[]) (mvT hZ (hw _ (List.mem_of_getElem? (i := 16) rfl)))) (mvT hZ (hw _ (List.mem_of_getElem? (i := 16) rfl))) (mvT hZ (hw _ (List.mem_of_getElem? (i := 15) rfl))) (by decide) (own_backOf (W := 0) (rmM l Z a0 hw [] n0 h0 O0 w_WRITE w_OWNER w_NONE w_OWNER w_WRITE w_READ FF0 mr MM (2 : Int32) F_ordinal_WRITE E_WRITE (3 : Int32) F_ordinal_OWNER E_OWNER (0 : Int32) (by decide) w_OWNER (by simp)) hZ (hw _ (List.mem_of_getElem? (i := 17) rfl)) (hw _ (List.mem_of_getElem? (i := 5) rfl)) (by decide) (by decide)) q75a q75c (g := (mkF m 34 #[.val (.int p0), .val (.int p1), .val (.int (2 : Int32)), .val (.int (3 : Int32)), .val (.ref w_WRITE), .val (.ref w_OWNER), .val (.ref w_OWNER), .unset, .unset] [(.ref w_OWNER), (.ref w_WRITE)])) rfl (by rw [hml]; rfl) (Steps.refl _) (argsL := [(.ref w_OWNER)]) (rest := []) (lenOf pd0_2 rfl) rfl (by show 2 * 0 + _ ≤ _; exact Nat.le_of_eq rfl) (hb hby at_34) (fun _ _ => ⟨rfl, e74q, (by decide : 0 + 0 ≤ _), (by decide : 0 + 0 ≤ _)⟩)
      dsimp only [Pt.U, Pt.locs, Pt.cells, Pt.slots] at X75 l75 y75 z75 st75 hQ75
      subst l75 y75 z75
      obtain ⟨rfl, N75q, e75q⟩ := hQ75
      have N75 := Fr.app N74 N75q
      refine Ends.go (fun _ k => st75.trans k) ?_
      show Ends p e below s T75 (mkF m 37 #[.val (.int p0), .val (.int p1), .val (.int (2 : Int32)), .val (.int (3 : Int32)), .val (.ref w_WRITE), .val (.ref w_OWNER), .val (.ref w_OWNER), .unset, .unset] [(.ref w_OWNER)]) _ _ _
      refine Ends.go (fun _ k => XS.astore X75.here hx rfl (hb hby at_37) rfl rfl (l' := #[.val (.int p0), .val (.int p1), .val (.int (2 : Int32)), .val (.int (3 : Int32)), .val (.ref w_WRITE), .val (.ref w_OWNER), .val (.ref w_OWNER), .val (.ref w_OWNER), .unset]) rfl k) ?_
      show Ends p e below s T75 (mkF m 39 #[.val (.int p0), .val (.int p1), .val (.int (2 : Int32)), .val (.int (3 : Int32)), .val (.ref w_WRITE), .val (.ref w_OWNER), .val (.ref w_OWNER), .val (.ref w_OWNER), .unset] []) _ _ _
      refine Ends.go (fun _ k => XS.aload X75.here hx rfl (hb hby at_39) rfl rfl k) ?_
      show Ends p e below s T75 (mkF m 41 #[.val (.int p0), .val (.int p1), .val (.int (2 : Int32)), .val (.int (3 : Int32)), .val (.ref w_WRITE), .val (.ref w_OWNER), .val (.ref w_OWNER), .val (.ref w_OWNER), .unset] [(.ref w_OWNER)]) _ _ _
      refine Ends.go (fun _ k => XS.aload X75.here hx rfl (hb hby at_41) rfl rfl k) ?_
      show Ends p e below s T75 (mkF m 43 #[.val (.int p0), .val (.int p1), .val (.int (2 : Int32)), .val (.int (3 : Int32)), .val (.ref w_WRITE), .val (.ref w_OWNER), .val (.ref w_OWNER), .val (.ref w_OWNER), .unset] [(.ref w_WRITE), (.ref w_OWNER)]) _ _ _
      obtain ⟨cq76, kq76, q76a, q76b, q76c⟩ := isOf hZ e75q (E_OWNER.ext O0.2)
      obtain ⟨_, _, ⟨T76, L76, k76, n76⟩, -, X76, ⟨Lc76, hQ76, l76, y76, z76⟩, st76⟩ := X75.virtualBack hx (y := (⟨"com/example/usher_paths/usherpaths/Level", "max", "(Lcom/example/usher_paths/usherpaths/Level;)Lcom/example/usher_paths/usherpaths/Level;"⟩ : MethodName)) (z := (⟨"com/example/usher_paths/usherpaths/Level", "max", "(Lcom/example/usher_paths/usherpaths/Level;)Lcom/example/usher_paths/usherpaths/Level;"⟩ : MethodName)) hown (mvT hZ (hw _ (List.mem_of_getElem? (i := 13) rfl))) (mvT hZ (hw _ (List.mem_of_getElem? (i := 14) rfl))) (notFace_of_selects (args := #[]) (mvT hZ (hw _ (List.mem_of_getElem? (i := 16) rfl)))) (mvT hZ (hw _ (List.mem_of_getElem? (i := 16) rfl))) (mvT hZ (hw _ (List.mem_of_getElem? (i := 15) rfl))) (by decide) (own_backOf (W := 0) (rmM l Z a0 hw [] n0 h0 O0 w_OWNER w_WRITE w_NONE w_OWNER w_WRITE w_READ FF0 mr MM (3 : Int32) F_ordinal_OWNER E_OWNER (2 : Int32) F_ordinal_WRITE E_WRITE (1 : Int32) (by decide) w_OWNER (by simp)) hZ (hw _ (List.mem_of_getElem? (i := 17) rfl)) (hw _ (List.mem_of_getElem? (i := 5) rfl)) (by decide) (by decide)) q76a q76c (g := (mkF m 43 #[.val (.int p0), .val (.int p1), .val (.int (2 : Int32)), .val (.int (3 : Int32)), .val (.ref w_WRITE), .val (.ref w_OWNER), .val (.ref w_OWNER), .val (.ref w_OWNER), .unset] [(.ref w_WRITE), (.ref w_OWNER)])) rfl (by rw [hml]; rfl) (Steps.refl _) (argsL := [(.ref w_WRITE)]) (rest := []) (lenOf pd0_2 rfl) rfl (by show 2 * 0 + _ ≤ _; exact Nat.le_of_eq rfl) (hb hby at_43) (fun _ _ => ⟨rfl, e75q, (by decide : 0 + 0 ≤ _), (by decide : 0 + 0 ≤ _)⟩)
      dsimp only [Pt.U, Pt.locs, Pt.cells, Pt.slots] at X76 l76 y76 z76 st76 hQ76
      subst l76 y76 z76
      obtain ⟨rfl, N76q, e76q⟩ := hQ76
      have N76 := Fr.app N75 N76q
      refine Ends.go (fun _ k => st76.trans k) ?_
      show Ends p e below s T76 (mkF m 46 #[.val (.int p0), .val (.int p1), .val (.int (2 : Int32)), .val (.int (3 : Int32)), .val (.ref w_WRITE), .val (.ref w_OWNER), .val (.ref w_OWNER), .val (.ref w_OWNER), .unset] [(.ref w_OWNER)]) _ _ _
      refine Ends.go (fun _ k => XS.astore X76.here hx rfl (hb hby at_46) rfl rfl (l' := #[.val (.int p0), .val (.int p1), .val (.int (2 : Int32)), .val (.int (3 : Int32)), .val (.ref w_WRITE), .val (.ref w_OWNER), .val (.ref w_OWNER), .val (.ref w_OWNER), .val (.ref w_OWNER)]) rfl k) ?_
      show Ends p e below s T76 (mkF m 48 #[.val (.int p0), .val (.int p1), .val (.int (2 : Int32)), .val (.int (3 : Int32)), .val (.ref w_WRITE), .val (.ref w_OWNER), .val (.ref w_OWNER), .val (.ref w_OWNER), .val (.ref w_OWNER)] []) _ _ _
      refine Ends.go (fun _ k => XS.aload X76.here hx rfl (hb hby at_48) rfl rfl k) ?_
      show Ends p e below s T76 (mkF m 50 #[.val (.int p0), .val (.int p1), .val (.int (2 : Int32)), .val (.int (3 : Int32)), .val (.ref w_WRITE), .val (.ref w_OWNER), .val (.ref w_OWNER), .val (.ref w_OWNER), .val (.ref w_OWNER)] [(.ref w_OWNER)]) _ _ _
      refine Ends.go (fun _ k => XS.aload X76.here hx rfl (hb hby at_50) rfl rfl k) ?_
      show Ends p e below s T76 (mkF m 52 #[.val (.int p0), .val (.int p1), .val (.int (2 : Int32)), .val (.int (3 : Int32)), .val (.ref w_WRITE), .val (.ref w_OWNER), .val (.ref w_OWNER), .val (.ref w_OWNER), .val (.ref w_OWNER)] [(.ref w_OWNER), (.ref w_OWNER)]) _ _ _
      refine Ends.go (fun _ k => Jvm.RoadKit.acmp (g := (mkF m 52 #[.val (.int p0), .val (.int p1), .val (.int (2 : Int32)), .val (.int (3 : Int32)), .val (.ref w_WRITE), .val (.ref w_OWNER), .val (.ref w_OWNER), .val (.ref w_OWNER), .val (.ref w_OWNER)] [(.ref w_OWNER), (.ref w_OWNER)])) X76 hx rfl rfl rfl (pc0 := 52) (pc' := 55) (same := true) rfl (hb hby at_52) rfl (decide_eq_true rfl) (by decide) (by decide) k) ?_
      show Ends p e below s T76 (mkF m 55 #[.val (.int p0), .val (.int p1), .val (.int (2 : Int32)), .val (.int (3 : Int32)), .val (.ref w_WRITE), .val (.ref w_OWNER), .val (.ref w_OWNER), .val (.ref w_OWNER), .val (.ref w_OWNER)] []) _ _ _
      refine Ends.go (fun _ k => XS.aload X76.here hx rfl (hb hby at_55) rfl rfl k) ?_
      show Ends p e below s T76 (mkF m 57 #[.val (.int p0), .val (.int p1), .val (.int (2 : Int32)), .val (.int (3 : Int32)), .val (.ref w_WRITE), .val (.ref w_OWNER), .val (.ref w_OWNER), .val (.ref w_OWNER), .val (.ref w_OWNER)] [(.ref w_OWNER)]) _ _ _
      refine Ends.go (fun _ k => XS.aload X76.here hx rfl (hb hby at_57) rfl rfl k) ?_
      show Ends p e below s T76 (mkF m 59 #[.val (.int p0), .val (.int p1), .val (.int (2 : Int32)), .val (.int (3 : Int32)), .val (.ref w_WRITE), .val (.ref w_OWNER), .val (.ref w_OWNER), .val (.ref w_OWNER), .val (.ref w_OWNER)] [(.ref w_OWNER), (.ref w_OWNER)]) _ _ _
      refine Ends.go (fun _ k => Jvm.RoadKit.acmp (g := (mkF m 59 #[.val (.int p0), .val (.int p1), .val (.int (2 : Int32)), .val (.int (3 : Int32)), .val (.ref w_WRITE), .val (.ref w_OWNER), .val (.ref w_OWNER), .val (.ref w_OWNER), .val (.ref w_OWNER)] [(.ref w_OWNER), (.ref w_OWNER)])) X76 hx rfl rfl rfl (pc0 := 59) (pc' := 62) (same := true) rfl (hb hby at_59) rfl (decide_eq_true rfl) (by decide) (by decide) k) ?_
      show Ends p e below s T76 (mkF m 62 #[.val (.int p0), .val (.int p1), .val (.int (2 : Int32)), .val (.int (3 : Int32)), .val (.ref w_WRITE), .val (.ref w_OWNER), .val (.ref w_OWNER), .val (.ref w_OWNER), .val (.ref w_OWNER)] []) _ _ _
      refine Ends.go (fun _ k => XS.iconst X76.here hx rfl (hb hby at_62) k) ?_
      show Ends p e below s T76 (mkF m 63 #[.val (.int p0), .val (.int p1), .val (.int (2 : Int32)), .val (.int (3 : Int32)), .val (.ref w_WRITE), .val (.ref w_OWNER), .val (.ref w_OWNER), .val (.ref w_OWNER), .val (.ref w_OWNER)] [(.int (1 : Int32))]) _ _ _
      refine Ends.go (fun _ k => XS.goto X76.here hx rfl (pc0 := 63) (pc' := 67) rfl (hb hby at_63) (by decide) (by decide) k) ?_
      show Ends p e below s T76 (mkF m 67 #[.val (.int p0), .val (.int p1), .val (.int (2 : Int32)), .val (.int (3 : Int32)), .val (.ref w_WRITE), .val (.ref w_OWNER), .val (.ref w_OWNER), .val (.ref w_OWNER), .val (.ref w_OWNER)] [(.int (1 : Int32))]) _ _ _
      refine Ends.retZ X76 hx Bd.notSynchronized (t := .boolean) Bd.returns (by simp) (hb hby at_67) (by decide) (by decide) ?_
      exact ⟨rfl, N76⟩
  · show Ends p e below s s₁ (mkF m 3 #[.val (.int p0), .val (.int p1), .unset, .unset, .unset, .unset, .unset, .unset, .unset] [(.int (3 : Int32))]) _ _ _
    refine Ends.go (fun _ k => XS.istoreN X0.here hx rfl (hb hby at_3) rfl (l' := #[.val (.int p0), .val (.int p1), .val (.int (3 : Int32)), .unset, .unset, .unset, .unset, .unset, .unset]) rfl k) ?_
    show Ends p e below s s₁ (mkF m 4 #[.val (.int p0), .val (.int p1), .val (.int (3 : Int32)), .unset, .unset, .unset, .unset, .unset, .unset] []) _ _ _
    refine Ends.go (fun _ k => XS.iloadN X0.here hx rfl (hb hby at_4) rfl k) ?_
    show Ends p e below s s₁ (mkF m 5 #[.val (.int p0), .val (.int p1), .val (.int (3 : Int32)), .unset, .unset, .unset, .unset, .unset, .unset] [(.int p1)]) _ _ _
    refine Ends.go (fun _ k => XS.iconst X0.here hx rfl (hb hby at_5) k) ?_
    show Ends p e below s s₁ (mkF m 6 #[.val (.int p0), .val (.int p1), .val (.int (3 : Int32)), .unset, .unset, .unset, .unset, .unset, .unset] [(.int (3 : Int32)), (.int p1)]) _ _ _
    refine Ends.go (fun _ k => XS.iand X0.here hx rfl (hb hby at_6) rfl k) ?_
    show Ends p e below s s₁ (mkF m 7 #[.val (.int p0), .val (.int p1), .val (.int (3 : Int32)), .unset, .unset, .unset, .unset, .unset, .unset] [(.int (p1 &&& (3 : Int32)))]) _ _ _
    generalize hi77 : (p1 &&& (3 : Int32)) = i77
    rcases own_and3 p1 i77 hi77 with rfl | rfl | rfl | rfl
    · show Ends p e below s s₁ (mkF m 7 #[.val (.int p0), .val (.int p1), .val (.int (3 : Int32)), .unset, .unset, .unset, .unset, .unset, .unset] [(.int (0 : Int32))]) _ _ _
      refine Ends.go (fun _ k => XS.istoreN X0.here hx rfl (hb hby at_7) rfl (l' := #[.val (.int p0), .val (.int p1), .val (.int (3 : Int32)), .val (.int (0 : Int32)), .unset, .unset, .unset, .unset, .unset]) rfl k) ?_
      show Ends p e below s s₁ (mkF m 8 #[.val (.int p0), .val (.int p1), .val (.int (3 : Int32)), .val (.int (0 : Int32)), .unset, .unset, .unset, .unset, .unset] []) _ _ _
      refine Ends.go (fun _ k => XS.iloadN X0.here hx rfl (hb hby at_8) rfl k) ?_
      show Ends p e below s s₁ (mkF m 9 #[.val (.int p0), .val (.int p1), .val (.int (3 : Int32)), .val (.int (0 : Int32)), .unset, .unset, .unset, .unset, .unset] [(.int (3 : Int32))]) _ _ _
      obtain ⟨_, _, ⟨T78, L78, k78, n78⟩, -, X78, ⟨Lc78, hQ78, l78, y78, z78⟩, st78⟩ := Jvm.LawKit.callS X0 hx (y := (⟨"com/example/usher_paths/usherpaths/LevelMaxPinLaw", "pick", "(I)Lcom/example/usher_paths/usherpaths/Level;"⟩ : MethodName)) hown (mvT hZ (hw _ (List.mem_of_getElem? (i := 0) rfl))) (mvT hZ (hw _ (List.mem_of_getElem? (i := 1) rfl))) (mvT hZ (hw _ (List.mem_of_getElem? (i := 2) rfl))) (mvT hZ (hw _ (List.mem_of_getElem? (i := 3) rfl))) (by decide) (own_backOf (W := 0) (rmP l Z a0 hw [] n0 h0 O0 (3 : Int32) w_NONE w_OWNER w_WRITE w_READ FF0 mr MM w_OWNER (by simp)) hZ (hw _ (List.mem_of_getElem? (i := 3) rfl)) (hw _ (List.mem_of_getElem? (i := 2) rfl)) (by decide) (by decide)) (g := (mkF m 9 #[.val (.int p0), .val (.int p1), .val (.int (3 : Int32)), .val (.int (0 : Int32)), .unset, .unset, .unset, .unset, .unset] [(.int (3 : Int32))])) rfl (by rw [hml]; rfl) (argsL := [(.int (3 : Int32))]) (rest := []) (lenOf pd0_0 rfl) rfl (by show 2 * 0 + _ ≤ _; exact Nat.le_of_eq rfl) (hb hby at_9) (fun _ _ => ⟨rfl, e0, (by decide : 0 + 0 ≤ _), (by decide : 0 + 0 ≤ _)⟩)
      dsimp only [Pt.U, Pt.locs, Pt.cells, Pt.slots] at X78 l78 y78 z78 st78 hQ78
      subst l78 y78 z78
      obtain ⟨rfl, N78q, e78q⟩ := hQ78
      have N78 := Fr.app N0 N78q
      refine Ends.go st78 ?_
      show Ends p e below s T78 (mkF m 12 #[.val (.int p0), .val (.int p1), .val (.int (3 : Int32)), .val (.int (0 : Int32)), .unset, .unset, .unset, .unset, .unset] [(.ref w_OWNER)]) _ _ _
      refine Ends.go (fun _ k => XS.astore X78.here hx rfl (hb hby at_12) rfl rfl (l' := #[.val (.int p0), .val (.int p1), .val (.int (3 : Int32)), .val (.int (0 : Int32)), .val (.ref w_OWNER), .unset, .unset, .unset, .unset]) rfl k) ?_
      show Ends p e below s T78 (mkF m 14 #[.val (.int p0), .val (.int p1), .val (.int (3 : Int32)), .val (.int (0 : Int32)), .val (.ref w_OWNER), .unset, .unset, .unset, .unset] []) _ _ _
      refine Ends.go (fun _ k => XS.iloadN X78.here hx rfl (hb hby at_14) rfl k) ?_
      show Ends p e below s T78 (mkF m 15 #[.val (.int p0), .val (.int p1), .val (.int (3 : Int32)), .val (.int (0 : Int32)), .val (.ref w_OWNER), .unset, .unset, .unset, .unset] [(.int (0 : Int32))]) _ _ _
      obtain ⟨_, _, ⟨T79, L79, k79, n79⟩, -, X79, ⟨Lc79, hQ79, l79, y79, z79⟩, st79⟩ := Jvm.LawKit.callS X78 hx (y := (⟨"com/example/usher_paths/usherpaths/LevelMaxPinLaw", "pick", "(I)Lcom/example/usher_paths/usherpaths/Level;"⟩ : MethodName)) hown (mvT hZ (hw _ (List.mem_of_getElem? (i := 0) rfl))) (mvT hZ (hw _ (List.mem_of_getElem? (i := 1) rfl))) (mvT hZ (hw _ (List.mem_of_getElem? (i := 2) rfl))) (mvT hZ (hw _ (List.mem_of_getElem? (i := 3) rfl))) (by decide) (own_backOf (W := 0) (rmP l Z a0 hw [] n0 h0 O0 (0 : Int32) w_NONE w_OWNER w_WRITE w_READ FF0 mr MM w_NONE (by simp)) hZ (hw _ (List.mem_of_getElem? (i := 3) rfl)) (hw _ (List.mem_of_getElem? (i := 2) rfl)) (by decide) (by decide)) (g := (mkF m 15 #[.val (.int p0), .val (.int p1), .val (.int (3 : Int32)), .val (.int (0 : Int32)), .val (.ref w_OWNER), .unset, .unset, .unset, .unset] [(.int (0 : Int32))])) rfl (by rw [hml]; rfl) (argsL := [(.int (0 : Int32))]) (rest := []) (lenOf pd0_0 rfl) rfl (by show 2 * 0 + _ ≤ _; exact Nat.le_of_eq rfl) (hb hby at_15) (fun _ _ => ⟨rfl, e78q, (by decide : 0 + 0 ≤ _), (by decide : 0 + 0 ≤ _)⟩)
      dsimp only [Pt.U, Pt.locs, Pt.cells, Pt.slots] at X79 l79 y79 z79 st79 hQ79
      subst l79 y79 z79
      obtain ⟨rfl, N79q, e79q⟩ := hQ79
      have N79 := Fr.app N78 N79q
      refine Ends.go st79 ?_
      show Ends p e below s T79 (mkF m 18 #[.val (.int p0), .val (.int p1), .val (.int (3 : Int32)), .val (.int (0 : Int32)), .val (.ref w_OWNER), .unset, .unset, .unset, .unset] [(.ref w_NONE)]) _ _ _
      refine Ends.go (fun _ k => XS.astore X79.here hx rfl (hb hby at_18) rfl rfl (l' := #[.val (.int p0), .val (.int p1), .val (.int (3 : Int32)), .val (.int (0 : Int32)), .val (.ref w_OWNER), .val (.ref w_NONE), .unset, .unset, .unset]) rfl k) ?_
      show Ends p e below s T79 (mkF m 20 #[.val (.int p0), .val (.int p1), .val (.int (3 : Int32)), .val (.int (0 : Int32)), .val (.ref w_OWNER), .val (.ref w_NONE), .unset, .unset, .unset] []) _ _ _
      refine Ends.go (fun _ k => XS.iloadN X79.here hx rfl (hb hby at_20) rfl k) ?_
      show Ends p e below s T79 (mkF m 21 #[.val (.int p0), .val (.int p1), .val (.int (3 : Int32)), .val (.int (0 : Int32)), .val (.ref w_OWNER), .val (.ref w_NONE), .unset, .unset, .unset] [(.int (3 : Int32))]) _ _ _
      refine Ends.go (fun _ k => XS.iloadN X79.here hx rfl (hb hby at_21) rfl k) ?_
      show Ends p e below s T79 (mkF m 22 #[.val (.int p0), .val (.int p1), .val (.int (3 : Int32)), .val (.int (0 : Int32)), .val (.ref w_OWNER), .val (.ref w_NONE), .unset, .unset, .unset] [(.int (0 : Int32)), (.int (3 : Int32))]) _ _ _
      obtain ⟨_, _, ⟨T80, L80, k80, n80⟩, -, X80, ⟨Lc80, hQ80, l80, y80, z80⟩, st80⟩ := Jvm.LawKit.callS X79 hx (y := (⟨"java/lang/Math", "max", "(II)I"⟩ : MethodName)) hown (mvT hZ (hw _ (List.mem_of_getElem? (i := 9) rfl))) (mvT hZ (hw _ (List.mem_of_getElem? (i := 10) rfl))) (mvT hZ (hw _ (List.mem_of_getElem? (i := 11) rfl))) (mvT hZ (hw _ (List.mem_of_getElem? (i := 12) rfl))) (by decide) (own_backOf (W := 0) (rmX l Z a0 hw [] n0 h0 O0 (3 : Int32) (0 : Int32) w_NONE w_OWNER w_WRITE w_READ FF0 mr MM (3 : Int32) (by decide)) hZ (hw _ (List.mem_of_getElem? (i := 12) rfl)) (hw _ (List.mem_of_getElem? (i := 11) rfl)) (by decide) (by decide)) (g := (mkF m 22 #[.val (.int p0), .val (.int p1), .val (.int (3 : Int32)), .val (.int (0 : Int32)), .val (.ref w_OWNER), .val (.ref w_NONE), .unset, .unset, .unset] [(.int (0 : Int32)), (.int (3 : Int32))])) rfl (by rw [hml]; rfl) (argsL := [(.int (3 : Int32)), (.int (0 : Int32))]) (rest := []) (lenOf pd0_1 rfl) rfl (by show 2 * 0 + _ ≤ _; exact Nat.le_of_eq rfl) (hb hby at_22) (fun _ _ => ⟨rfl, e79q, (by decide : 0 + 0 ≤ _), (by decide : 0 + 0 ≤ _)⟩)
      dsimp only [Pt.U, Pt.locs, Pt.cells, Pt.slots] at X80 l80 y80 z80 st80 hQ80
      subst l80 y80 z80
      obtain ⟨rfl, N80q, e80q⟩ := hQ80
      have N80 := Fr.app N79 N80q
      refine Ends.go st80 ?_
      show Ends p e below s T80 (mkF m 25 #[.val (.int p0), .val (.int p1), .val (.int (3 : Int32)), .val (.int (0 : Int32)), .val (.ref w_OWNER), .val (.ref w_NONE), .unset, .unset, .unset] [(.int (3 : Int32))]) _ _ _
      obtain ⟨_, _, ⟨T81, L81, k81, n81⟩, -, X81, ⟨Lc81, hQ81, l81, y81, z81⟩, st81⟩ := Jvm.LawKit.callS X80 hx (y := (⟨"com/example/usher_paths/usherpaths/LevelMaxPinLaw", "pick", "(I)Lcom/example/usher_paths/usherpaths/Level;"⟩ : MethodName)) hown (mvT hZ (hw _ (List.mem_of_getElem? (i := 0) rfl))) (mvT hZ (hw _ (List.mem_of_getElem? (i := 1) rfl))) (mvT hZ (hw _ (List.mem_of_getElem? (i := 2) rfl))) (mvT hZ (hw _ (List.mem_of_getElem? (i := 3) rfl))) (by decide) (own_backOf (W := 0) (rmP l Z a0 hw [] n0 h0 O0 (3 : Int32) w_NONE w_OWNER w_WRITE w_READ FF0 mr MM w_OWNER (by simp)) hZ (hw _ (List.mem_of_getElem? (i := 3) rfl)) (hw _ (List.mem_of_getElem? (i := 2) rfl)) (by decide) (by decide)) (g := (mkF m 25 #[.val (.int p0), .val (.int p1), .val (.int (3 : Int32)), .val (.int (0 : Int32)), .val (.ref w_OWNER), .val (.ref w_NONE), .unset, .unset, .unset] [(.int (3 : Int32))])) rfl (by rw [hml]; rfl) (argsL := [(.int (3 : Int32))]) (rest := []) (lenOf pd0_0 rfl) rfl (by show 2 * 0 + _ ≤ _; exact Nat.le_of_eq rfl) (hb hby at_25) (fun _ _ => ⟨rfl, e80q, (by decide : 0 + 0 ≤ _), (by decide : 0 + 0 ≤ _)⟩)
      dsimp only [Pt.U, Pt.locs, Pt.cells, Pt.slots] at X81 l81 y81 z81 st81 hQ81
      subst l81 y81 z81
      obtain ⟨rfl, N81q, e81q⟩ := hQ81
      have N81 := Fr.app N80 N81q
      refine Ends.go st81 ?_
      show Ends p e below s T81 (mkF m 28 #[.val (.int p0), .val (.int p1), .val (.int (3 : Int32)), .val (.int (0 : Int32)), .val (.ref w_OWNER), .val (.ref w_NONE), .unset, .unset, .unset] [(.ref w_OWNER)]) _ _ _
      refine Ends.go (fun _ k => XS.astore X81.here hx rfl (hb hby at_28) rfl rfl (l' := #[.val (.int p0), .val (.int p1), .val (.int (3 : Int32)), .val (.int (0 : Int32)), .val (.ref w_OWNER), .val (.ref w_NONE), .val (.ref w_OWNER), .unset, .unset]) rfl k) ?_
      show Ends p e below s T81 (mkF m 30 #[.val (.int p0), .val (.int p1), .val (.int (3 : Int32)), .val (.int (0 : Int32)), .val (.ref w_OWNER), .val (.ref w_NONE), .val (.ref w_OWNER), .unset, .unset] []) _ _ _
      refine Ends.go (fun _ k => XS.aload X81.here hx rfl (hb hby at_30) rfl rfl k) ?_
      show Ends p e below s T81 (mkF m 32 #[.val (.int p0), .val (.int p1), .val (.int (3 : Int32)), .val (.int (0 : Int32)), .val (.ref w_OWNER), .val (.ref w_NONE), .val (.ref w_OWNER), .unset, .unset] [(.ref w_OWNER)]) _ _ _
      refine Ends.go (fun _ k => XS.aload X81.here hx rfl (hb hby at_32) rfl rfl k) ?_
      show Ends p e below s T81 (mkF m 34 #[.val (.int p0), .val (.int p1), .val (.int (3 : Int32)), .val (.int (0 : Int32)), .val (.ref w_OWNER), .val (.ref w_NONE), .val (.ref w_OWNER), .unset, .unset] [(.ref w_NONE), (.ref w_OWNER)]) _ _ _
      obtain ⟨cq82, kq82, q82a, q82b, q82c⟩ := isOf hZ e81q (E_OWNER.ext O0.2)
      obtain ⟨_, _, ⟨T82, L82, k82, n82⟩, -, X82, ⟨Lc82, hQ82, l82, y82, z82⟩, st82⟩ := X81.virtualBack hx (y := (⟨"com/example/usher_paths/usherpaths/Level", "max", "(Lcom/example/usher_paths/usherpaths/Level;)Lcom/example/usher_paths/usherpaths/Level;"⟩ : MethodName)) (z := (⟨"com/example/usher_paths/usherpaths/Level", "max", "(Lcom/example/usher_paths/usherpaths/Level;)Lcom/example/usher_paths/usherpaths/Level;"⟩ : MethodName)) hown (mvT hZ (hw _ (List.mem_of_getElem? (i := 13) rfl))) (mvT hZ (hw _ (List.mem_of_getElem? (i := 14) rfl))) (notFace_of_selects (args := #[]) (mvT hZ (hw _ (List.mem_of_getElem? (i := 16) rfl)))) (mvT hZ (hw _ (List.mem_of_getElem? (i := 16) rfl))) (mvT hZ (hw _ (List.mem_of_getElem? (i := 15) rfl))) (by decide) (own_backOf (W := 0) (rmM l Z a0 hw [] n0 h0 O0 w_OWNER w_NONE w_NONE w_OWNER w_WRITE w_READ FF0 mr MM (3 : Int32) F_ordinal_OWNER E_OWNER (0 : Int32) F_ordinal_NONE E_NONE (1 : Int32) (by decide) w_OWNER (by simp)) hZ (hw _ (List.mem_of_getElem? (i := 17) rfl)) (hw _ (List.mem_of_getElem? (i := 5) rfl)) (by decide) (by decide)) q82a q82c (g := (mkF m 34 #[.val (.int p0), .val (.int p1), .val (.int (3 : Int32)), .val (.int (0 : Int32)), .val (.ref w_OWNER), .val (.ref w_NONE), .val (.ref w_OWNER), .unset, .unset] [(.ref w_NONE), (.ref w_OWNER)])) rfl (by rw [hml]; rfl) (Steps.refl _) (argsL := [(.ref w_NONE)]) (rest := []) (lenOf pd0_2 rfl) rfl (by show 2 * 0 + _ ≤ _; exact Nat.le_of_eq rfl) (hb hby at_34) (fun _ _ => ⟨rfl, e81q, (by decide : 0 + 0 ≤ _), (by decide : 0 + 0 ≤ _)⟩)
      dsimp only [Pt.U, Pt.locs, Pt.cells, Pt.slots] at X82 l82 y82 z82 st82 hQ82
      subst l82 y82 z82
      obtain ⟨rfl, N82q, e82q⟩ := hQ82
      have N82 := Fr.app N81 N82q
      refine Ends.go (fun _ k => st82.trans k) ?_
      show Ends p e below s T82 (mkF m 37 #[.val (.int p0), .val (.int p1), .val (.int (3 : Int32)), .val (.int (0 : Int32)), .val (.ref w_OWNER), .val (.ref w_NONE), .val (.ref w_OWNER), .unset, .unset] [(.ref w_OWNER)]) _ _ _
      refine Ends.go (fun _ k => XS.astore X82.here hx rfl (hb hby at_37) rfl rfl (l' := #[.val (.int p0), .val (.int p1), .val (.int (3 : Int32)), .val (.int (0 : Int32)), .val (.ref w_OWNER), .val (.ref w_NONE), .val (.ref w_OWNER), .val (.ref w_OWNER), .unset]) rfl k) ?_
      show Ends p e below s T82 (mkF m 39 #[.val (.int p0), .val (.int p1), .val (.int (3 : Int32)), .val (.int (0 : Int32)), .val (.ref w_OWNER), .val (.ref w_NONE), .val (.ref w_OWNER), .val (.ref w_OWNER), .unset] []) _ _ _
      refine Ends.go (fun _ k => XS.aload X82.here hx rfl (hb hby at_39) rfl rfl k) ?_
      show Ends p e below s T82 (mkF m 41 #[.val (.int p0), .val (.int p1), .val (.int (3 : Int32)), .val (.int (0 : Int32)), .val (.ref w_OWNER), .val (.ref w_NONE), .val (.ref w_OWNER), .val (.ref w_OWNER), .unset] [(.ref w_NONE)]) _ _ _
      refine Ends.go (fun _ k => XS.aload X82.here hx rfl (hb hby at_41) rfl rfl k) ?_
      show Ends p e below s T82 (mkF m 43 #[.val (.int p0), .val (.int p1), .val (.int (3 : Int32)), .val (.int (0 : Int32)), .val (.ref w_OWNER), .val (.ref w_NONE), .val (.ref w_OWNER), .val (.ref w_OWNER), .unset] [(.ref w_OWNER), (.ref w_NONE)]) _ _ _
      obtain ⟨cq83, kq83, q83a, q83b, q83c⟩ := isOf hZ e82q (E_NONE.ext O0.2)
      obtain ⟨_, _, ⟨T83, L83, k83, n83⟩, -, X83, ⟨Lc83, hQ83, l83, y83, z83⟩, st83⟩ := X82.virtualBack hx (y := (⟨"com/example/usher_paths/usherpaths/Level", "max", "(Lcom/example/usher_paths/usherpaths/Level;)Lcom/example/usher_paths/usherpaths/Level;"⟩ : MethodName)) (z := (⟨"com/example/usher_paths/usherpaths/Level", "max", "(Lcom/example/usher_paths/usherpaths/Level;)Lcom/example/usher_paths/usherpaths/Level;"⟩ : MethodName)) hown (mvT hZ (hw _ (List.mem_of_getElem? (i := 13) rfl))) (mvT hZ (hw _ (List.mem_of_getElem? (i := 14) rfl))) (notFace_of_selects (args := #[]) (mvT hZ (hw _ (List.mem_of_getElem? (i := 16) rfl)))) (mvT hZ (hw _ (List.mem_of_getElem? (i := 16) rfl))) (mvT hZ (hw _ (List.mem_of_getElem? (i := 15) rfl))) (by decide) (own_backOf (W := 0) (rmM l Z a0 hw [] n0 h0 O0 w_NONE w_OWNER w_NONE w_OWNER w_WRITE w_READ FF0 mr MM (0 : Int32) F_ordinal_NONE E_NONE (3 : Int32) F_ordinal_OWNER E_OWNER (0 : Int32) (by decide) w_OWNER (by simp)) hZ (hw _ (List.mem_of_getElem? (i := 17) rfl)) (hw _ (List.mem_of_getElem? (i := 5) rfl)) (by decide) (by decide)) q83a q83c (g := (mkF m 43 #[.val (.int p0), .val (.int p1), .val (.int (3 : Int32)), .val (.int (0 : Int32)), .val (.ref w_OWNER), .val (.ref w_NONE), .val (.ref w_OWNER), .val (.ref w_OWNER), .unset] [(.ref w_OWNER), (.ref w_NONE)])) rfl (by rw [hml]; rfl) (Steps.refl _) (argsL := [(.ref w_OWNER)]) (rest := []) (lenOf pd0_2 rfl) rfl (by show 2 * 0 + _ ≤ _; exact Nat.le_of_eq rfl) (hb hby at_43) (fun _ _ => ⟨rfl, e82q, (by decide : 0 + 0 ≤ _), (by decide : 0 + 0 ≤ _)⟩)
      dsimp only [Pt.U, Pt.locs, Pt.cells, Pt.slots] at X83 l83 y83 z83 st83 hQ83
      subst l83 y83 z83
      obtain ⟨rfl, N83q, e83q⟩ := hQ83
      have N83 := Fr.app N82 N83q
      refine Ends.go (fun _ k => st83.trans k) ?_
      show Ends p e below s T83 (mkF m 46 #[.val (.int p0), .val (.int p1), .val (.int (3 : Int32)), .val (.int (0 : Int32)), .val (.ref w_OWNER), .val (.ref w_NONE), .val (.ref w_OWNER), .val (.ref w_OWNER), .unset] [(.ref w_OWNER)]) _ _ _
      refine Ends.go (fun _ k => XS.astore X83.here hx rfl (hb hby at_46) rfl rfl (l' := #[.val (.int p0), .val (.int p1), .val (.int (3 : Int32)), .val (.int (0 : Int32)), .val (.ref w_OWNER), .val (.ref w_NONE), .val (.ref w_OWNER), .val (.ref w_OWNER), .val (.ref w_OWNER)]) rfl k) ?_
      show Ends p e below s T83 (mkF m 48 #[.val (.int p0), .val (.int p1), .val (.int (3 : Int32)), .val (.int (0 : Int32)), .val (.ref w_OWNER), .val (.ref w_NONE), .val (.ref w_OWNER), .val (.ref w_OWNER), .val (.ref w_OWNER)] []) _ _ _
      refine Ends.go (fun _ k => XS.aload X83.here hx rfl (hb hby at_48) rfl rfl k) ?_
      show Ends p e below s T83 (mkF m 50 #[.val (.int p0), .val (.int p1), .val (.int (3 : Int32)), .val (.int (0 : Int32)), .val (.ref w_OWNER), .val (.ref w_NONE), .val (.ref w_OWNER), .val (.ref w_OWNER), .val (.ref w_OWNER)] [(.ref w_OWNER)]) _ _ _
      refine Ends.go (fun _ k => XS.aload X83.here hx rfl (hb hby at_50) rfl rfl k) ?_
      show Ends p e below s T83 (mkF m 52 #[.val (.int p0), .val (.int p1), .val (.int (3 : Int32)), .val (.int (0 : Int32)), .val (.ref w_OWNER), .val (.ref w_NONE), .val (.ref w_OWNER), .val (.ref w_OWNER), .val (.ref w_OWNER)] [(.ref w_OWNER), (.ref w_OWNER)]) _ _ _
      refine Ends.go (fun _ k => Jvm.RoadKit.acmp (g := (mkF m 52 #[.val (.int p0), .val (.int p1), .val (.int (3 : Int32)), .val (.int (0 : Int32)), .val (.ref w_OWNER), .val (.ref w_NONE), .val (.ref w_OWNER), .val (.ref w_OWNER), .val (.ref w_OWNER)] [(.ref w_OWNER), (.ref w_OWNER)])) X83 hx rfl rfl rfl (pc0 := 52) (pc' := 55) (same := true) rfl (hb hby at_52) rfl (decide_eq_true rfl) (by decide) (by decide) k) ?_
      show Ends p e below s T83 (mkF m 55 #[.val (.int p0), .val (.int p1), .val (.int (3 : Int32)), .val (.int (0 : Int32)), .val (.ref w_OWNER), .val (.ref w_NONE), .val (.ref w_OWNER), .val (.ref w_OWNER), .val (.ref w_OWNER)] []) _ _ _
      refine Ends.go (fun _ k => XS.aload X83.here hx rfl (hb hby at_55) rfl rfl k) ?_
      show Ends p e below s T83 (mkF m 57 #[.val (.int p0), .val (.int p1), .val (.int (3 : Int32)), .val (.int (0 : Int32)), .val (.ref w_OWNER), .val (.ref w_NONE), .val (.ref w_OWNER), .val (.ref w_OWNER), .val (.ref w_OWNER)] [(.ref w_OWNER)]) _ _ _
      refine Ends.go (fun _ k => XS.aload X83.here hx rfl (hb hby at_57) rfl rfl k) ?_
      show Ends p e below s T83 (mkF m 59 #[.val (.int p0), .val (.int p1), .val (.int (3 : Int32)), .val (.int (0 : Int32)), .val (.ref w_OWNER), .val (.ref w_NONE), .val (.ref w_OWNER), .val (.ref w_OWNER), .val (.ref w_OWNER)] [(.ref w_OWNER), (.ref w_OWNER)]) _ _ _
      refine Ends.go (fun _ k => Jvm.RoadKit.acmp (g := (mkF m 59 #[.val (.int p0), .val (.int p1), .val (.int (3 : Int32)), .val (.int (0 : Int32)), .val (.ref w_OWNER), .val (.ref w_NONE), .val (.ref w_OWNER), .val (.ref w_OWNER), .val (.ref w_OWNER)] [(.ref w_OWNER), (.ref w_OWNER)])) X83 hx rfl rfl rfl (pc0 := 59) (pc' := 62) (same := true) rfl (hb hby at_59) rfl (decide_eq_true rfl) (by decide) (by decide) k) ?_
      show Ends p e below s T83 (mkF m 62 #[.val (.int p0), .val (.int p1), .val (.int (3 : Int32)), .val (.int (0 : Int32)), .val (.ref w_OWNER), .val (.ref w_NONE), .val (.ref w_OWNER), .val (.ref w_OWNER), .val (.ref w_OWNER)] []) _ _ _
      refine Ends.go (fun _ k => XS.iconst X83.here hx rfl (hb hby at_62) k) ?_
      show Ends p e below s T83 (mkF m 63 #[.val (.int p0), .val (.int p1), .val (.int (3 : Int32)), .val (.int (0 : Int32)), .val (.ref w_OWNER), .val (.ref w_NONE), .val (.ref w_OWNER), .val (.ref w_OWNER), .val (.ref w_OWNER)] [(.int (1 : Int32))]) _ _ _
      refine Ends.go (fun _ k => XS.goto X83.here hx rfl (pc0 := 63) (pc' := 67) rfl (hb hby at_63) (by decide) (by decide) k) ?_
      show Ends p e below s T83 (mkF m 67 #[.val (.int p0), .val (.int p1), .val (.int (3 : Int32)), .val (.int (0 : Int32)), .val (.ref w_OWNER), .val (.ref w_NONE), .val (.ref w_OWNER), .val (.ref w_OWNER), .val (.ref w_OWNER)] [(.int (1 : Int32))]) _ _ _
      refine Ends.retZ X83 hx Bd.notSynchronized (t := .boolean) Bd.returns (by simp) (hb hby at_67) (by decide) (by decide) ?_
      exact ⟨rfl, N83⟩
    · show Ends p e below s s₁ (mkF m 7 #[.val (.int p0), .val (.int p1), .val (.int (3 : Int32)), .unset, .unset, .unset, .unset, .unset, .unset] [(.int (1 : Int32))]) _ _ _
      refine Ends.go (fun _ k => XS.istoreN X0.here hx rfl (hb hby at_7) rfl (l' := #[.val (.int p0), .val (.int p1), .val (.int (3 : Int32)), .val (.int (1 : Int32)), .unset, .unset, .unset, .unset, .unset]) rfl k) ?_
      show Ends p e below s s₁ (mkF m 8 #[.val (.int p0), .val (.int p1), .val (.int (3 : Int32)), .val (.int (1 : Int32)), .unset, .unset, .unset, .unset, .unset] []) _ _ _
      refine Ends.go (fun _ k => XS.iloadN X0.here hx rfl (hb hby at_8) rfl k) ?_
      show Ends p e below s s₁ (mkF m 9 #[.val (.int p0), .val (.int p1), .val (.int (3 : Int32)), .val (.int (1 : Int32)), .unset, .unset, .unset, .unset, .unset] [(.int (3 : Int32))]) _ _ _
      obtain ⟨_, _, ⟨T84, L84, k84, n84⟩, -, X84, ⟨Lc84, hQ84, l84, y84, z84⟩, st84⟩ := Jvm.LawKit.callS X0 hx (y := (⟨"com/example/usher_paths/usherpaths/LevelMaxPinLaw", "pick", "(I)Lcom/example/usher_paths/usherpaths/Level;"⟩ : MethodName)) hown (mvT hZ (hw _ (List.mem_of_getElem? (i := 0) rfl))) (mvT hZ (hw _ (List.mem_of_getElem? (i := 1) rfl))) (mvT hZ (hw _ (List.mem_of_getElem? (i := 2) rfl))) (mvT hZ (hw _ (List.mem_of_getElem? (i := 3) rfl))) (by decide) (own_backOf (W := 0) (rmP l Z a0 hw [] n0 h0 O0 (3 : Int32) w_NONE w_OWNER w_WRITE w_READ FF0 mr MM w_OWNER (by simp)) hZ (hw _ (List.mem_of_getElem? (i := 3) rfl)) (hw _ (List.mem_of_getElem? (i := 2) rfl)) (by decide) (by decide)) (g := (mkF m 9 #[.val (.int p0), .val (.int p1), .val (.int (3 : Int32)), .val (.int (1 : Int32)), .unset, .unset, .unset, .unset, .unset] [(.int (3 : Int32))])) rfl (by rw [hml]; rfl) (argsL := [(.int (3 : Int32))]) (rest := []) (lenOf pd0_0 rfl) rfl (by show 2 * 0 + _ ≤ _; exact Nat.le_of_eq rfl) (hb hby at_9) (fun _ _ => ⟨rfl, e0, (by decide : 0 + 0 ≤ _), (by decide : 0 + 0 ≤ _)⟩)
      dsimp only [Pt.U, Pt.locs, Pt.cells, Pt.slots] at X84 l84 y84 z84 st84 hQ84
      subst l84 y84 z84
      obtain ⟨rfl, N84q, e84q⟩ := hQ84
      have N84 := Fr.app N0 N84q
      refine Ends.go st84 ?_
      show Ends p e below s T84 (mkF m 12 #[.val (.int p0), .val (.int p1), .val (.int (3 : Int32)), .val (.int (1 : Int32)), .unset, .unset, .unset, .unset, .unset] [(.ref w_OWNER)]) _ _ _
      refine Ends.go (fun _ k => XS.astore X84.here hx rfl (hb hby at_12) rfl rfl (l' := #[.val (.int p0), .val (.int p1), .val (.int (3 : Int32)), .val (.int (1 : Int32)), .val (.ref w_OWNER), .unset, .unset, .unset, .unset]) rfl k) ?_
      show Ends p e below s T84 (mkF m 14 #[.val (.int p0), .val (.int p1), .val (.int (3 : Int32)), .val (.int (1 : Int32)), .val (.ref w_OWNER), .unset, .unset, .unset, .unset] []) _ _ _
      refine Ends.go (fun _ k => XS.iloadN X84.here hx rfl (hb hby at_14) rfl k) ?_
      show Ends p e below s T84 (mkF m 15 #[.val (.int p0), .val (.int p1), .val (.int (3 : Int32)), .val (.int (1 : Int32)), .val (.ref w_OWNER), .unset, .unset, .unset, .unset] [(.int (1 : Int32))]) _ _ _
      obtain ⟨_, _, ⟨T85, L85, k85, n85⟩, -, X85, ⟨Lc85, hQ85, l85, y85, z85⟩, st85⟩ := Jvm.LawKit.callS X84 hx (y := (⟨"com/example/usher_paths/usherpaths/LevelMaxPinLaw", "pick", "(I)Lcom/example/usher_paths/usherpaths/Level;"⟩ : MethodName)) hown (mvT hZ (hw _ (List.mem_of_getElem? (i := 0) rfl))) (mvT hZ (hw _ (List.mem_of_getElem? (i := 1) rfl))) (mvT hZ (hw _ (List.mem_of_getElem? (i := 2) rfl))) (mvT hZ (hw _ (List.mem_of_getElem? (i := 3) rfl))) (by decide) (own_backOf (W := 0) (rmP l Z a0 hw [] n0 h0 O0 (1 : Int32) w_NONE w_OWNER w_WRITE w_READ FF0 mr MM w_READ (by simp)) hZ (hw _ (List.mem_of_getElem? (i := 3) rfl)) (hw _ (List.mem_of_getElem? (i := 2) rfl)) (by decide) (by decide)) (g := (mkF m 15 #[.val (.int p0), .val (.int p1), .val (.int (3 : Int32)), .val (.int (1 : Int32)), .val (.ref w_OWNER), .unset, .unset, .unset, .unset] [(.int (1 : Int32))])) rfl (by rw [hml]; rfl) (argsL := [(.int (1 : Int32))]) (rest := []) (lenOf pd0_0 rfl) rfl (by show 2 * 0 + _ ≤ _; exact Nat.le_of_eq rfl) (hb hby at_15) (fun _ _ => ⟨rfl, e84q, (by decide : 0 + 0 ≤ _), (by decide : 0 + 0 ≤ _)⟩)
      dsimp only [Pt.U, Pt.locs, Pt.cells, Pt.slots] at X85 l85 y85 z85 st85 hQ85
      subst l85 y85 z85
      obtain ⟨rfl, N85q, e85q⟩ := hQ85
      have N85 := Fr.app N84 N85q
      refine Ends.go st85 ?_
      show Ends p e below s T85 (mkF m 18 #[.val (.int p0), .val (.int p1), .val (.int (3 : Int32)), .val (.int (1 : Int32)), .val (.ref w_OWNER), .unset, .unset, .unset, .unset] [(.ref w_READ)]) _ _ _
      refine Ends.go (fun _ k => XS.astore X85.here hx rfl (hb hby at_18) rfl rfl (l' := #[.val (.int p0), .val (.int p1), .val (.int (3 : Int32)), .val (.int (1 : Int32)), .val (.ref w_OWNER), .val (.ref w_READ), .unset, .unset, .unset]) rfl k) ?_
      show Ends p e below s T85 (mkF m 20 #[.val (.int p0), .val (.int p1), .val (.int (3 : Int32)), .val (.int (1 : Int32)), .val (.ref w_OWNER), .val (.ref w_READ), .unset, .unset, .unset] []) _ _ _
      refine Ends.go (fun _ k => XS.iloadN X85.here hx rfl (hb hby at_20) rfl k) ?_
      show Ends p e below s T85 (mkF m 21 #[.val (.int p0), .val (.int p1), .val (.int (3 : Int32)), .val (.int (1 : Int32)), .val (.ref w_OWNER), .val (.ref w_READ), .unset, .unset, .unset] [(.int (3 : Int32))]) _ _ _
      refine Ends.go (fun _ k => XS.iloadN X85.here hx rfl (hb hby at_21) rfl k) ?_
      show Ends p e below s T85 (mkF m 22 #[.val (.int p0), .val (.int p1), .val (.int (3 : Int32)), .val (.int (1 : Int32)), .val (.ref w_OWNER), .val (.ref w_READ), .unset, .unset, .unset] [(.int (1 : Int32)), (.int (3 : Int32))]) _ _ _
      obtain ⟨_, _, ⟨T86, L86, k86, n86⟩, -, X86, ⟨Lc86, hQ86, l86, y86, z86⟩, st86⟩ := Jvm.LawKit.callS X85 hx (y := (⟨"java/lang/Math", "max", "(II)I"⟩ : MethodName)) hown (mvT hZ (hw _ (List.mem_of_getElem? (i := 9) rfl))) (mvT hZ (hw _ (List.mem_of_getElem? (i := 10) rfl))) (mvT hZ (hw _ (List.mem_of_getElem? (i := 11) rfl))) (mvT hZ (hw _ (List.mem_of_getElem? (i := 12) rfl))) (by decide) (own_backOf (W := 0) (rmX l Z a0 hw [] n0 h0 O0 (3 : Int32) (1 : Int32) w_NONE w_OWNER w_WRITE w_READ FF0 mr MM (3 : Int32) (by decide)) hZ (hw _ (List.mem_of_getElem? (i := 12) rfl)) (hw _ (List.mem_of_getElem? (i := 11) rfl)) (by decide) (by decide)) (g := (mkF m 22 #[.val (.int p0), .val (.int p1), .val (.int (3 : Int32)), .val (.int (1 : Int32)), .val (.ref w_OWNER), .val (.ref w_READ), .unset, .unset, .unset] [(.int (1 : Int32)), (.int (3 : Int32))])) rfl (by rw [hml]; rfl) (argsL := [(.int (3 : Int32)), (.int (1 : Int32))]) (rest := []) (lenOf pd0_1 rfl) rfl (by show 2 * 0 + _ ≤ _; exact Nat.le_of_eq rfl) (hb hby at_22) (fun _ _ => ⟨rfl, e85q, (by decide : 0 + 0 ≤ _), (by decide : 0 + 0 ≤ _)⟩)
      dsimp only [Pt.U, Pt.locs, Pt.cells, Pt.slots] at X86 l86 y86 z86 st86 hQ86
      subst l86 y86 z86
      obtain ⟨rfl, N86q, e86q⟩ := hQ86
      have N86 := Fr.app N85 N86q
      refine Ends.go st86 ?_
      show Ends p e below s T86 (mkF m 25 #[.val (.int p0), .val (.int p1), .val (.int (3 : Int32)), .val (.int (1 : Int32)), .val (.ref w_OWNER), .val (.ref w_READ), .unset, .unset, .unset] [(.int (3 : Int32))]) _ _ _
      obtain ⟨_, _, ⟨T87, L87, k87, n87⟩, -, X87, ⟨Lc87, hQ87, l87, y87, z87⟩, st87⟩ := Jvm.LawKit.callS X86 hx (y := (⟨"com/example/usher_paths/usherpaths/LevelMaxPinLaw", "pick", "(I)Lcom/example/usher_paths/usherpaths/Level;"⟩ : MethodName)) hown (mvT hZ (hw _ (List.mem_of_getElem? (i := 0) rfl))) (mvT hZ (hw _ (List.mem_of_getElem? (i := 1) rfl))) (mvT hZ (hw _ (List.mem_of_getElem? (i := 2) rfl))) (mvT hZ (hw _ (List.mem_of_getElem? (i := 3) rfl))) (by decide) (own_backOf (W := 0) (rmP l Z a0 hw [] n0 h0 O0 (3 : Int32) w_NONE w_OWNER w_WRITE w_READ FF0 mr MM w_OWNER (by simp)) hZ (hw _ (List.mem_of_getElem? (i := 3) rfl)) (hw _ (List.mem_of_getElem? (i := 2) rfl)) (by decide) (by decide)) (g := (mkF m 25 #[.val (.int p0), .val (.int p1), .val (.int (3 : Int32)), .val (.int (1 : Int32)), .val (.ref w_OWNER), .val (.ref w_READ), .unset, .unset, .unset] [(.int (3 : Int32))])) rfl (by rw [hml]; rfl) (argsL := [(.int (3 : Int32))]) (rest := []) (lenOf pd0_0 rfl) rfl (by show 2 * 0 + _ ≤ _; exact Nat.le_of_eq rfl) (hb hby at_25) (fun _ _ => ⟨rfl, e86q, (by decide : 0 + 0 ≤ _), (by decide : 0 + 0 ≤ _)⟩)
      dsimp only [Pt.U, Pt.locs, Pt.cells, Pt.slots] at X87 l87 y87 z87 st87 hQ87
      subst l87 y87 z87
      obtain ⟨rfl, N87q, e87q⟩ := hQ87
      have N87 := Fr.app N86 N87q
      refine Ends.go st87 ?_
      show Ends p e below s T87 (mkF m 28 #[.val (.int p0), .val (.int p1), .val (.int (3 : Int32)), .val (.int (1 : Int32)), .val (.ref w_OWNER), .val (.ref w_READ), .unset, .unset, .unset] [(.ref w_OWNER)]) _ _ _
      refine Ends.go (fun _ k => XS.astore X87.here hx rfl (hb hby at_28) rfl rfl (l' := #[.val (.int p0), .val (.int p1), .val (.int (3 : Int32)), .val (.int (1 : Int32)), .val (.ref w_OWNER), .val (.ref w_READ), .val (.ref w_OWNER), .unset, .unset]) rfl k) ?_
      show Ends p e below s T87 (mkF m 30 #[.val (.int p0), .val (.int p1), .val (.int (3 : Int32)), .val (.int (1 : Int32)), .val (.ref w_OWNER), .val (.ref w_READ), .val (.ref w_OWNER), .unset, .unset] []) _ _ _
      refine Ends.go (fun _ k => XS.aload X87.here hx rfl (hb hby at_30) rfl rfl k) ?_
      show Ends p e below s T87 (mkF m 32 #[.val (.int p0), .val (.int p1), .val (.int (3 : Int32)), .val (.int (1 : Int32)), .val (.ref w_OWNER), .val (.ref w_READ), .val (.ref w_OWNER), .unset, .unset] [(.ref w_OWNER)]) _ _ _
      refine Ends.go (fun _ k => XS.aload X87.here hx rfl (hb hby at_32) rfl rfl k) ?_
      show Ends p e below s T87 (mkF m 34 #[.val (.int p0), .val (.int p1), .val (.int (3 : Int32)), .val (.int (1 : Int32)), .val (.ref w_OWNER), .val (.ref w_READ), .val (.ref w_OWNER), .unset, .unset] [(.ref w_READ), (.ref w_OWNER)]) _ _ _
      obtain ⟨cq88, kq88, q88a, q88b, q88c⟩ := isOf hZ e87q (E_OWNER.ext O0.2)
      obtain ⟨_, _, ⟨T88, L88, k88, n88⟩, -, X88, ⟨Lc88, hQ88, l88, y88, z88⟩, st88⟩ := X87.virtualBack hx (y := (⟨"com/example/usher_paths/usherpaths/Level", "max", "(Lcom/example/usher_paths/usherpaths/Level;)Lcom/example/usher_paths/usherpaths/Level;"⟩ : MethodName)) (z := (⟨"com/example/usher_paths/usherpaths/Level", "max", "(Lcom/example/usher_paths/usherpaths/Level;)Lcom/example/usher_paths/usherpaths/Level;"⟩ : MethodName)) hown (mvT hZ (hw _ (List.mem_of_getElem? (i := 13) rfl))) (mvT hZ (hw _ (List.mem_of_getElem? (i := 14) rfl))) (notFace_of_selects (args := #[]) (mvT hZ (hw _ (List.mem_of_getElem? (i := 16) rfl)))) (mvT hZ (hw _ (List.mem_of_getElem? (i := 16) rfl))) (mvT hZ (hw _ (List.mem_of_getElem? (i := 15) rfl))) (by decide) (own_backOf (W := 0) (rmM l Z a0 hw [] n0 h0 O0 w_OWNER w_READ w_NONE w_OWNER w_WRITE w_READ FF0 mr MM (3 : Int32) F_ordinal_OWNER E_OWNER (1 : Int32) F_ordinal_READ E_READ (1 : Int32) (by decide) w_OWNER (by simp)) hZ (hw _ (List.mem_of_getElem? (i := 17) rfl)) (hw _ (List.mem_of_getElem? (i := 5) rfl)) (by decide) (by decide)) q88a q88c (g := (mkF m 34 #[.val (.int p0), .val (.int p1), .val (.int (3 : Int32)), .val (.int (1 : Int32)), .val (.ref w_OWNER), .val (.ref w_READ), .val (.ref w_OWNER), .unset, .unset] [(.ref w_READ), (.ref w_OWNER)])) rfl (by rw [hml]; rfl) (Steps.refl _) (argsL := [(.ref w_READ)]) (rest := []) (lenOf pd0_2 rfl) rfl (by show 2 * 0 + _ ≤ _; exact Nat.le_of_eq rfl) (hb hby at_34) (fun _ _ => ⟨rfl, e87q, (by decide : 0 + 0 ≤ _), (by decide : 0 + 0 ≤ _)⟩)
      dsimp only [Pt.U, Pt.locs, Pt.cells, Pt.slots] at X88 l88 y88 z88 st88 hQ88
      subst l88 y88 z88
      obtain ⟨rfl, N88q, e88q⟩ := hQ88
      have N88 := Fr.app N87 N88q
      refine Ends.go (fun _ k => st88.trans k) ?_
      show Ends p e below s T88 (mkF m 37 #[.val (.int p0), .val (.int p1), .val (.int (3 : Int32)), .val (.int (1 : Int32)), .val (.ref w_OWNER), .val (.ref w_READ), .val (.ref w_OWNER), .unset, .unset] [(.ref w_OWNER)]) _ _ _
      refine Ends.go (fun _ k => XS.astore X88.here hx rfl (hb hby at_37) rfl rfl (l' := #[.val (.int p0), .val (.int p1), .val (.int (3 : Int32)), .val (.int (1 : Int32)), .val (.ref w_OWNER), .val (.ref w_READ), .val (.ref w_OWNER), .val (.ref w_OWNER), .unset]) rfl k) ?_
      show Ends p e below s T88 (mkF m 39 #[.val (.int p0), .val (.int p1), .val (.int (3 : Int32)), .val (.int (1 : Int32)), .val (.ref w_OWNER), .val (.ref w_READ), .val (.ref w_OWNER), .val (.ref w_OWNER), .unset] []) _ _ _
      refine Ends.go (fun _ k => XS.aload X88.here hx rfl (hb hby at_39) rfl rfl k) ?_
      show Ends p e below s T88 (mkF m 41 #[.val (.int p0), .val (.int p1), .val (.int (3 : Int32)), .val (.int (1 : Int32)), .val (.ref w_OWNER), .val (.ref w_READ), .val (.ref w_OWNER), .val (.ref w_OWNER), .unset] [(.ref w_READ)]) _ _ _
      refine Ends.go (fun _ k => XS.aload X88.here hx rfl (hb hby at_41) rfl rfl k) ?_
      show Ends p e below s T88 (mkF m 43 #[.val (.int p0), .val (.int p1), .val (.int (3 : Int32)), .val (.int (1 : Int32)), .val (.ref w_OWNER), .val (.ref w_READ), .val (.ref w_OWNER), .val (.ref w_OWNER), .unset] [(.ref w_OWNER), (.ref w_READ)]) _ _ _
      obtain ⟨cq89, kq89, q89a, q89b, q89c⟩ := isOf hZ e88q (E_READ.ext O0.2)
      obtain ⟨_, _, ⟨T89, L89, k89, n89⟩, -, X89, ⟨Lc89, hQ89, l89, y89, z89⟩, st89⟩ := X88.virtualBack hx (y := (⟨"com/example/usher_paths/usherpaths/Level", "max", "(Lcom/example/usher_paths/usherpaths/Level;)Lcom/example/usher_paths/usherpaths/Level;"⟩ : MethodName)) (z := (⟨"com/example/usher_paths/usherpaths/Level", "max", "(Lcom/example/usher_paths/usherpaths/Level;)Lcom/example/usher_paths/usherpaths/Level;"⟩ : MethodName)) hown (mvT hZ (hw _ (List.mem_of_getElem? (i := 13) rfl))) (mvT hZ (hw _ (List.mem_of_getElem? (i := 14) rfl))) (notFace_of_selects (args := #[]) (mvT hZ (hw _ (List.mem_of_getElem? (i := 16) rfl)))) (mvT hZ (hw _ (List.mem_of_getElem? (i := 16) rfl))) (mvT hZ (hw _ (List.mem_of_getElem? (i := 15) rfl))) (by decide) (own_backOf (W := 0) (rmM l Z a0 hw [] n0 h0 O0 w_READ w_OWNER w_NONE w_OWNER w_WRITE w_READ FF0 mr MM (1 : Int32) F_ordinal_READ E_READ (3 : Int32) F_ordinal_OWNER E_OWNER (0 : Int32) (by decide) w_OWNER (by simp)) hZ (hw _ (List.mem_of_getElem? (i := 17) rfl)) (hw _ (List.mem_of_getElem? (i := 5) rfl)) (by decide) (by decide)) q89a q89c (g := (mkF m 43 #[.val (.int p0), .val (.int p1), .val (.int (3 : Int32)), .val (.int (1 : Int32)), .val (.ref w_OWNER), .val (.ref w_READ), .val (.ref w_OWNER), .val (.ref w_OWNER), .unset] [(.ref w_OWNER), (.ref w_READ)])) rfl (by rw [hml]; rfl) (Steps.refl _) (argsL := [(.ref w_OWNER)]) (rest := []) (lenOf pd0_2 rfl) rfl (by show 2 * 0 + _ ≤ _; exact Nat.le_of_eq rfl) (hb hby at_43) (fun _ _ => ⟨rfl, e88q, (by decide : 0 + 0 ≤ _), (by decide : 0 + 0 ≤ _)⟩)
      dsimp only [Pt.U, Pt.locs, Pt.cells, Pt.slots] at X89 l89 y89 z89 st89 hQ89
      subst l89 y89 z89
      obtain ⟨rfl, N89q, e89q⟩ := hQ89
      have N89 := Fr.app N88 N89q
      refine Ends.go (fun _ k => st89.trans k) ?_
      show Ends p e below s T89 (mkF m 46 #[.val (.int p0), .val (.int p1), .val (.int (3 : Int32)), .val (.int (1 : Int32)), .val (.ref w_OWNER), .val (.ref w_READ), .val (.ref w_OWNER), .val (.ref w_OWNER), .unset] [(.ref w_OWNER)]) _ _ _
      refine Ends.go (fun _ k => XS.astore X89.here hx rfl (hb hby at_46) rfl rfl (l' := #[.val (.int p0), .val (.int p1), .val (.int (3 : Int32)), .val (.int (1 : Int32)), .val (.ref w_OWNER), .val (.ref w_READ), .val (.ref w_OWNER), .val (.ref w_OWNER), .val (.ref w_OWNER)]) rfl k) ?_
      show Ends p e below s T89 (mkF m 48 #[.val (.int p0), .val (.int p1), .val (.int (3 : Int32)), .val (.int (1 : Int32)), .val (.ref w_OWNER), .val (.ref w_READ), .val (.ref w_OWNER), .val (.ref w_OWNER), .val (.ref w_OWNER)] []) _ _ _
      refine Ends.go (fun _ k => XS.aload X89.here hx rfl (hb hby at_48) rfl rfl k) ?_
      show Ends p e below s T89 (mkF m 50 #[.val (.int p0), .val (.int p1), .val (.int (3 : Int32)), .val (.int (1 : Int32)), .val (.ref w_OWNER), .val (.ref w_READ), .val (.ref w_OWNER), .val (.ref w_OWNER), .val (.ref w_OWNER)] [(.ref w_OWNER)]) _ _ _
      refine Ends.go (fun _ k => XS.aload X89.here hx rfl (hb hby at_50) rfl rfl k) ?_
      show Ends p e below s T89 (mkF m 52 #[.val (.int p0), .val (.int p1), .val (.int (3 : Int32)), .val (.int (1 : Int32)), .val (.ref w_OWNER), .val (.ref w_READ), .val (.ref w_OWNER), .val (.ref w_OWNER), .val (.ref w_OWNER)] [(.ref w_OWNER), (.ref w_OWNER)]) _ _ _
      refine Ends.go (fun _ k => Jvm.RoadKit.acmp (g := (mkF m 52 #[.val (.int p0), .val (.int p1), .val (.int (3 : Int32)), .val (.int (1 : Int32)), .val (.ref w_OWNER), .val (.ref w_READ), .val (.ref w_OWNER), .val (.ref w_OWNER), .val (.ref w_OWNER)] [(.ref w_OWNER), (.ref w_OWNER)])) X89 hx rfl rfl rfl (pc0 := 52) (pc' := 55) (same := true) rfl (hb hby at_52) rfl (decide_eq_true rfl) (by decide) (by decide) k) ?_
      show Ends p e below s T89 (mkF m 55 #[.val (.int p0), .val (.int p1), .val (.int (3 : Int32)), .val (.int (1 : Int32)), .val (.ref w_OWNER), .val (.ref w_READ), .val (.ref w_OWNER), .val (.ref w_OWNER), .val (.ref w_OWNER)] []) _ _ _
      refine Ends.go (fun _ k => XS.aload X89.here hx rfl (hb hby at_55) rfl rfl k) ?_
      show Ends p e below s T89 (mkF m 57 #[.val (.int p0), .val (.int p1), .val (.int (3 : Int32)), .val (.int (1 : Int32)), .val (.ref w_OWNER), .val (.ref w_READ), .val (.ref w_OWNER), .val (.ref w_OWNER), .val (.ref w_OWNER)] [(.ref w_OWNER)]) _ _ _
      refine Ends.go (fun _ k => XS.aload X89.here hx rfl (hb hby at_57) rfl rfl k) ?_
      show Ends p e below s T89 (mkF m 59 #[.val (.int p0), .val (.int p1), .val (.int (3 : Int32)), .val (.int (1 : Int32)), .val (.ref w_OWNER), .val (.ref w_READ), .val (.ref w_OWNER), .val (.ref w_OWNER), .val (.ref w_OWNER)] [(.ref w_OWNER), (.ref w_OWNER)]) _ _ _
      refine Ends.go (fun _ k => Jvm.RoadKit.acmp (g := (mkF m 59 #[.val (.int p0), .val (.int p1), .val (.int (3 : Int32)), .val (.int (1 : Int32)), .val (.ref w_OWNER), .val (.ref w_READ), .val (.ref w_OWNER), .val (.ref w_OWNER), .val (.ref w_OWNER)] [(.ref w_OWNER), (.ref w_OWNER)])) X89 hx rfl rfl rfl (pc0 := 59) (pc' := 62) (same := true) rfl (hb hby at_59) rfl (decide_eq_true rfl) (by decide) (by decide) k) ?_
      show Ends p e below s T89 (mkF m 62 #[.val (.int p0), .val (.int p1), .val (.int (3 : Int32)), .val (.int (1 : Int32)), .val (.ref w_OWNER), .val (.ref w_READ), .val (.ref w_OWNER), .val (.ref w_OWNER), .val (.ref w_OWNER)] []) _ _ _
      refine Ends.go (fun _ k => XS.iconst X89.here hx rfl (hb hby at_62) k) ?_
      show Ends p e below s T89 (mkF m 63 #[.val (.int p0), .val (.int p1), .val (.int (3 : Int32)), .val (.int (1 : Int32)), .val (.ref w_OWNER), .val (.ref w_READ), .val (.ref w_OWNER), .val (.ref w_OWNER), .val (.ref w_OWNER)] [(.int (1 : Int32))]) _ _ _
      refine Ends.go (fun _ k => XS.goto X89.here hx rfl (pc0 := 63) (pc' := 67) rfl (hb hby at_63) (by decide) (by decide) k) ?_
      show Ends p e below s T89 (mkF m 67 #[.val (.int p0), .val (.int p1), .val (.int (3 : Int32)), .val (.int (1 : Int32)), .val (.ref w_OWNER), .val (.ref w_READ), .val (.ref w_OWNER), .val (.ref w_OWNER), .val (.ref w_OWNER)] [(.int (1 : Int32))]) _ _ _
      refine Ends.retZ X89 hx Bd.notSynchronized (t := .boolean) Bd.returns (by simp) (hb hby at_67) (by decide) (by decide) ?_
      exact ⟨rfl, N89⟩
    · show Ends p e below s s₁ (mkF m 7 #[.val (.int p0), .val (.int p1), .val (.int (3 : Int32)), .unset, .unset, .unset, .unset, .unset, .unset] [(.int (2 : Int32))]) _ _ _
      refine Ends.go (fun _ k => XS.istoreN X0.here hx rfl (hb hby at_7) rfl (l' := #[.val (.int p0), .val (.int p1), .val (.int (3 : Int32)), .val (.int (2 : Int32)), .unset, .unset, .unset, .unset, .unset]) rfl k) ?_
      show Ends p e below s s₁ (mkF m 8 #[.val (.int p0), .val (.int p1), .val (.int (3 : Int32)), .val (.int (2 : Int32)), .unset, .unset, .unset, .unset, .unset] []) _ _ _
      refine Ends.go (fun _ k => XS.iloadN X0.here hx rfl (hb hby at_8) rfl k) ?_
      show Ends p e below s s₁ (mkF m 9 #[.val (.int p0), .val (.int p1), .val (.int (3 : Int32)), .val (.int (2 : Int32)), .unset, .unset, .unset, .unset, .unset] [(.int (3 : Int32))]) _ _ _
      obtain ⟨_, _, ⟨T90, L90, k90, n90⟩, -, X90, ⟨Lc90, hQ90, l90, y90, z90⟩, st90⟩ := Jvm.LawKit.callS X0 hx (y := (⟨"com/example/usher_paths/usherpaths/LevelMaxPinLaw", "pick", "(I)Lcom/example/usher_paths/usherpaths/Level;"⟩ : MethodName)) hown (mvT hZ (hw _ (List.mem_of_getElem? (i := 0) rfl))) (mvT hZ (hw _ (List.mem_of_getElem? (i := 1) rfl))) (mvT hZ (hw _ (List.mem_of_getElem? (i := 2) rfl))) (mvT hZ (hw _ (List.mem_of_getElem? (i := 3) rfl))) (by decide) (own_backOf (W := 0) (rmP l Z a0 hw [] n0 h0 O0 (3 : Int32) w_NONE w_OWNER w_WRITE w_READ FF0 mr MM w_OWNER (by simp)) hZ (hw _ (List.mem_of_getElem? (i := 3) rfl)) (hw _ (List.mem_of_getElem? (i := 2) rfl)) (by decide) (by decide)) (g := (mkF m 9 #[.val (.int p0), .val (.int p1), .val (.int (3 : Int32)), .val (.int (2 : Int32)), .unset, .unset, .unset, .unset, .unset] [(.int (3 : Int32))])) rfl (by rw [hml]; rfl) (argsL := [(.int (3 : Int32))]) (rest := []) (lenOf pd0_0 rfl) rfl (by show 2 * 0 + _ ≤ _; exact Nat.le_of_eq rfl) (hb hby at_9) (fun _ _ => ⟨rfl, e0, (by decide : 0 + 0 ≤ _), (by decide : 0 + 0 ≤ _)⟩)
      dsimp only [Pt.U, Pt.locs, Pt.cells, Pt.slots] at X90 l90 y90 z90 st90 hQ90
      subst l90 y90 z90
      obtain ⟨rfl, N90q, e90q⟩ := hQ90
      have N90 := Fr.app N0 N90q
      refine Ends.go st90 ?_
      show Ends p e below s T90 (mkF m 12 #[.val (.int p0), .val (.int p1), .val (.int (3 : Int32)), .val (.int (2 : Int32)), .unset, .unset, .unset, .unset, .unset] [(.ref w_OWNER)]) _ _ _
      refine Ends.go (fun _ k => XS.astore X90.here hx rfl (hb hby at_12) rfl rfl (l' := #[.val (.int p0), .val (.int p1), .val (.int (3 : Int32)), .val (.int (2 : Int32)), .val (.ref w_OWNER), .unset, .unset, .unset, .unset]) rfl k) ?_
      show Ends p e below s T90 (mkF m 14 #[.val (.int p0), .val (.int p1), .val (.int (3 : Int32)), .val (.int (2 : Int32)), .val (.ref w_OWNER), .unset, .unset, .unset, .unset] []) _ _ _
      refine Ends.go (fun _ k => XS.iloadN X90.here hx rfl (hb hby at_14) rfl k) ?_
      show Ends p e below s T90 (mkF m 15 #[.val (.int p0), .val (.int p1), .val (.int (3 : Int32)), .val (.int (2 : Int32)), .val (.ref w_OWNER), .unset, .unset, .unset, .unset] [(.int (2 : Int32))]) _ _ _
      obtain ⟨_, _, ⟨T91, L91, k91, n91⟩, -, X91, ⟨Lc91, hQ91, l91, y91, z91⟩, st91⟩ := Jvm.LawKit.callS X90 hx (y := (⟨"com/example/usher_paths/usherpaths/LevelMaxPinLaw", "pick", "(I)Lcom/example/usher_paths/usherpaths/Level;"⟩ : MethodName)) hown (mvT hZ (hw _ (List.mem_of_getElem? (i := 0) rfl))) (mvT hZ (hw _ (List.mem_of_getElem? (i := 1) rfl))) (mvT hZ (hw _ (List.mem_of_getElem? (i := 2) rfl))) (mvT hZ (hw _ (List.mem_of_getElem? (i := 3) rfl))) (by decide) (own_backOf (W := 0) (rmP l Z a0 hw [] n0 h0 O0 (2 : Int32) w_NONE w_OWNER w_WRITE w_READ FF0 mr MM w_WRITE (by simp)) hZ (hw _ (List.mem_of_getElem? (i := 3) rfl)) (hw _ (List.mem_of_getElem? (i := 2) rfl)) (by decide) (by decide)) (g := (mkF m 15 #[.val (.int p0), .val (.int p1), .val (.int (3 : Int32)), .val (.int (2 : Int32)), .val (.ref w_OWNER), .unset, .unset, .unset, .unset] [(.int (2 : Int32))])) rfl (by rw [hml]; rfl) (argsL := [(.int (2 : Int32))]) (rest := []) (lenOf pd0_0 rfl) rfl (by show 2 * 0 + _ ≤ _; exact Nat.le_of_eq rfl) (hb hby at_15) (fun _ _ => ⟨rfl, e90q, (by decide : 0 + 0 ≤ _), (by decide : 0 + 0 ≤ _)⟩)
      dsimp only [Pt.U, Pt.locs, Pt.cells, Pt.slots] at X91 l91 y91 z91 st91 hQ91
      subst l91 y91 z91
      obtain ⟨rfl, N91q, e91q⟩ := hQ91
      have N91 := Fr.app N90 N91q
      refine Ends.go st91 ?_
      show Ends p e below s T91 (mkF m 18 #[.val (.int p0), .val (.int p1), .val (.int (3 : Int32)), .val (.int (2 : Int32)), .val (.ref w_OWNER), .unset, .unset, .unset, .unset] [(.ref w_WRITE)]) _ _ _
      refine Ends.go (fun _ k => XS.astore X91.here hx rfl (hb hby at_18) rfl rfl (l' := #[.val (.int p0), .val (.int p1), .val (.int (3 : Int32)), .val (.int (2 : Int32)), .val (.ref w_OWNER), .val (.ref w_WRITE), .unset, .unset, .unset]) rfl k) ?_
      show Ends p e below s T91 (mkF m 20 #[.val (.int p0), .val (.int p1), .val (.int (3 : Int32)), .val (.int (2 : Int32)), .val (.ref w_OWNER), .val (.ref w_WRITE), .unset, .unset, .unset] []) _ _ _
      refine Ends.go (fun _ k => XS.iloadN X91.here hx rfl (hb hby at_20) rfl k) ?_
      show Ends p e below s T91 (mkF m 21 #[.val (.int p0), .val (.int p1), .val (.int (3 : Int32)), .val (.int (2 : Int32)), .val (.ref w_OWNER), .val (.ref w_WRITE), .unset, .unset, .unset] [(.int (3 : Int32))]) _ _ _
      refine Ends.go (fun _ k => XS.iloadN X91.here hx rfl (hb hby at_21) rfl k) ?_
      show Ends p e below s T91 (mkF m 22 #[.val (.int p0), .val (.int p1), .val (.int (3 : Int32)), .val (.int (2 : Int32)), .val (.ref w_OWNER), .val (.ref w_WRITE), .unset, .unset, .unset] [(.int (2 : Int32)), (.int (3 : Int32))]) _ _ _
      obtain ⟨_, _, ⟨T92, L92, k92, n92⟩, -, X92, ⟨Lc92, hQ92, l92, y92, z92⟩, st92⟩ := Jvm.LawKit.callS X91 hx (y := (⟨"java/lang/Math", "max", "(II)I"⟩ : MethodName)) hown (mvT hZ (hw _ (List.mem_of_getElem? (i := 9) rfl))) (mvT hZ (hw _ (List.mem_of_getElem? (i := 10) rfl))) (mvT hZ (hw _ (List.mem_of_getElem? (i := 11) rfl))) (mvT hZ (hw _ (List.mem_of_getElem? (i := 12) rfl))) (by decide) (own_backOf (W := 0) (rmX l Z a0 hw [] n0 h0 O0 (3 : Int32) (2 : Int32) w_NONE w_OWNER w_WRITE w_READ FF0 mr MM (3 : Int32) (by decide)) hZ (hw _ (List.mem_of_getElem? (i := 12) rfl)) (hw _ (List.mem_of_getElem? (i := 11) rfl)) (by decide) (by decide)) (g := (mkF m 22 #[.val (.int p0), .val (.int p1), .val (.int (3 : Int32)), .val (.int (2 : Int32)), .val (.ref w_OWNER), .val (.ref w_WRITE), .unset, .unset, .unset] [(.int (2 : Int32)), (.int (3 : Int32))])) rfl (by rw [hml]; rfl) (argsL := [(.int (3 : Int32)), (.int (2 : Int32))]) (rest := []) (lenOf pd0_1 rfl) rfl (by show 2 * 0 + _ ≤ _; exact Nat.le_of_eq rfl) (hb hby at_22) (fun _ _ => ⟨rfl, e91q, (by decide : 0 + 0 ≤ _), (by decide : 0 + 0 ≤ _)⟩)
      dsimp only [Pt.U, Pt.locs, Pt.cells, Pt.slots] at X92 l92 y92 z92 st92 hQ92
      subst l92 y92 z92
      obtain ⟨rfl, N92q, e92q⟩ := hQ92
      have N92 := Fr.app N91 N92q
      refine Ends.go st92 ?_
      show Ends p e below s T92 (mkF m 25 #[.val (.int p0), .val (.int p1), .val (.int (3 : Int32)), .val (.int (2 : Int32)), .val (.ref w_OWNER), .val (.ref w_WRITE), .unset, .unset, .unset] [(.int (3 : Int32))]) _ _ _
      obtain ⟨_, _, ⟨T93, L93, k93, n93⟩, -, X93, ⟨Lc93, hQ93, l93, y93, z93⟩, st93⟩ := Jvm.LawKit.callS X92 hx (y := (⟨"com/example/usher_paths/usherpaths/LevelMaxPinLaw", "pick", "(I)Lcom/example/usher_paths/usherpaths/Level;"⟩ : MethodName)) hown (mvT hZ (hw _ (List.mem_of_getElem? (i := 0) rfl))) (mvT hZ (hw _ (List.mem_of_getElem? (i := 1) rfl))) (mvT hZ (hw _ (List.mem_of_getElem? (i := 2) rfl))) (mvT hZ (hw _ (List.mem_of_getElem? (i := 3) rfl))) (by decide) (own_backOf (W := 0) (rmP l Z a0 hw [] n0 h0 O0 (3 : Int32) w_NONE w_OWNER w_WRITE w_READ FF0 mr MM w_OWNER (by simp)) hZ (hw _ (List.mem_of_getElem? (i := 3) rfl)) (hw _ (List.mem_of_getElem? (i := 2) rfl)) (by decide) (by decide)) (g := (mkF m 25 #[.val (.int p0), .val (.int p1), .val (.int (3 : Int32)), .val (.int (2 : Int32)), .val (.ref w_OWNER), .val (.ref w_WRITE), .unset, .unset, .unset] [(.int (3 : Int32))])) rfl (by rw [hml]; rfl) (argsL := [(.int (3 : Int32))]) (rest := []) (lenOf pd0_0 rfl) rfl (by show 2 * 0 + _ ≤ _; exact Nat.le_of_eq rfl) (hb hby at_25) (fun _ _ => ⟨rfl, e92q, (by decide : 0 + 0 ≤ _), (by decide : 0 + 0 ≤ _)⟩)
      dsimp only [Pt.U, Pt.locs, Pt.cells, Pt.slots] at X93 l93 y93 z93 st93 hQ93
      subst l93 y93 z93
      obtain ⟨rfl, N93q, e93q⟩ := hQ93
      have N93 := Fr.app N92 N93q
      refine Ends.go st93 ?_
      show Ends p e below s T93 (mkF m 28 #[.val (.int p0), .val (.int p1), .val (.int (3 : Int32)), .val (.int (2 : Int32)), .val (.ref w_OWNER), .val (.ref w_WRITE), .unset, .unset, .unset] [(.ref w_OWNER)]) _ _ _
      refine Ends.go (fun _ k => XS.astore X93.here hx rfl (hb hby at_28) rfl rfl (l' := #[.val (.int p0), .val (.int p1), .val (.int (3 : Int32)), .val (.int (2 : Int32)), .val (.ref w_OWNER), .val (.ref w_WRITE), .val (.ref w_OWNER), .unset, .unset]) rfl k) ?_
      show Ends p e below s T93 (mkF m 30 #[.val (.int p0), .val (.int p1), .val (.int (3 : Int32)), .val (.int (2 : Int32)), .val (.ref w_OWNER), .val (.ref w_WRITE), .val (.ref w_OWNER), .unset, .unset] []) _ _ _
      refine Ends.go (fun _ k => XS.aload X93.here hx rfl (hb hby at_30) rfl rfl k) ?_
      show Ends p e below s T93 (mkF m 32 #[.val (.int p0), .val (.int p1), .val (.int (3 : Int32)), .val (.int (2 : Int32)), .val (.ref w_OWNER), .val (.ref w_WRITE), .val (.ref w_OWNER), .unset, .unset] [(.ref w_OWNER)]) _ _ _
      refine Ends.go (fun _ k => XS.aload X93.here hx rfl (hb hby at_32) rfl rfl k) ?_
      show Ends p e below s T93 (mkF m 34 #[.val (.int p0), .val (.int p1), .val (.int (3 : Int32)), .val (.int (2 : Int32)), .val (.ref w_OWNER), .val (.ref w_WRITE), .val (.ref w_OWNER), .unset, .unset] [(.ref w_WRITE), (.ref w_OWNER)]) _ _ _
      obtain ⟨cq94, kq94, q94a, q94b, q94c⟩ := isOf hZ e93q (E_OWNER.ext O0.2)
      obtain ⟨_, _, ⟨T94, L94, k94, n94⟩, -, X94, ⟨Lc94, hQ94, l94, y94, z94⟩, st94⟩ := X93.virtualBack hx (y := (⟨"com/example/usher_paths/usherpaths/Level", "max", "(Lcom/example/usher_paths/usherpaths/Level;)Lcom/example/usher_paths/usherpaths/Level;"⟩ : MethodName)) (z := (⟨"com/example/usher_paths/usherpaths/Level", "max", "(Lcom/example/usher_paths/usherpaths/Level;)Lcom/example/usher_paths/usherpaths/Level;"⟩ : MethodName)) hown (mvT hZ (hw _ (List.mem_of_getElem? (i := 13) rfl))) (mvT hZ (hw _ (List.mem_of_getElem? (i := 14) rfl))) (notFace_of_selects (args := #[]) (mvT hZ (hw _ (List.mem_of_getElem? (i := 16) rfl)))) (mvT hZ (hw _ (List.mem_of_getElem? (i := 16) rfl))) (mvT hZ (hw _ (List.mem_of_getElem? (i := 15) rfl))) (by decide) (own_backOf (W := 0) (rmM l Z a0 hw [] n0 h0 O0 w_OWNER w_WRITE w_NONE w_OWNER w_WRITE w_READ FF0 mr MM (3 : Int32) F_ordinal_OWNER E_OWNER (2 : Int32) F_ordinal_WRITE E_WRITE (1 : Int32) (by decide) w_OWNER (by simp)) hZ (hw _ (List.mem_of_getElem? (i := 17) rfl)) (hw _ (List.mem_of_getElem? (i := 5) rfl)) (by decide) (by decide)) q94a q94c (g := (mkF m 34 #[.val (.int p0), .val (.int p1), .val (.int (3 : Int32)), .val (.int (2 : Int32)), .val (.ref w_OWNER), .val (.ref w_WRITE), .val (.ref w_OWNER), .unset, .unset] [(.ref w_WRITE), (.ref w_OWNER)])) rfl (by rw [hml]; rfl) (Steps.refl _) (argsL := [(.ref w_WRITE)]) (rest := []) (lenOf pd0_2 rfl) rfl (by show 2 * 0 + _ ≤ _; exact Nat.le_of_eq rfl) (hb hby at_34) (fun _ _ => ⟨rfl, e93q, (by decide : 0 + 0 ≤ _), (by decide : 0 + 0 ≤ _)⟩)
      dsimp only [Pt.U, Pt.locs, Pt.cells, Pt.slots] at X94 l94 y94 z94 st94 hQ94
      subst l94 y94 z94
      obtain ⟨rfl, N94q, e94q⟩ := hQ94
      have N94 := Fr.app N93 N94q
      refine Ends.go (fun _ k => st94.trans k) ?_
      show Ends p e below s T94 (mkF m 37 #[.val (.int p0), .val (.int p1), .val (.int (3 : Int32)), .val (.int (2 : Int32)), .val (.ref w_OWNER), .val (.ref w_WRITE), .val (.ref w_OWNER), .unset, .unset] [(.ref w_OWNER)]) _ _ _
      refine Ends.go (fun _ k => XS.astore X94.here hx rfl (hb hby at_37) rfl rfl (l' := #[.val (.int p0), .val (.int p1), .val (.int (3 : Int32)), .val (.int (2 : Int32)), .val (.ref w_OWNER), .val (.ref w_WRITE), .val (.ref w_OWNER), .val (.ref w_OWNER), .unset]) rfl k) ?_
      show Ends p e below s T94 (mkF m 39 #[.val (.int p0), .val (.int p1), .val (.int (3 : Int32)), .val (.int (2 : Int32)), .val (.ref w_OWNER), .val (.ref w_WRITE), .val (.ref w_OWNER), .val (.ref w_OWNER), .unset] []) _ _ _
      refine Ends.go (fun _ k => XS.aload X94.here hx rfl (hb hby at_39) rfl rfl k) ?_
      show Ends p e below s T94 (mkF m 41 #[.val (.int p0), .val (.int p1), .val (.int (3 : Int32)), .val (.int (2 : Int32)), .val (.ref w_OWNER), .val (.ref w_WRITE), .val (.ref w_OWNER), .val (.ref w_OWNER), .unset] [(.ref w_WRITE)]) _ _ _
      refine Ends.go (fun _ k => XS.aload X94.here hx rfl (hb hby at_41) rfl rfl k) ?_
      show Ends p e below s T94 (mkF m 43 #[.val (.int p0), .val (.int p1), .val (.int (3 : Int32)), .val (.int (2 : Int32)), .val (.ref w_OWNER), .val (.ref w_WRITE), .val (.ref w_OWNER), .val (.ref w_OWNER), .unset] [(.ref w_OWNER), (.ref w_WRITE)]) _ _ _
      obtain ⟨cq95, kq95, q95a, q95b, q95c⟩ := isOf hZ e94q (E_WRITE.ext O0.2)
      obtain ⟨_, _, ⟨T95, L95, k95, n95⟩, -, X95, ⟨Lc95, hQ95, l95, y95, z95⟩, st95⟩ := X94.virtualBack hx (y := (⟨"com/example/usher_paths/usherpaths/Level", "max", "(Lcom/example/usher_paths/usherpaths/Level;)Lcom/example/usher_paths/usherpaths/Level;"⟩ : MethodName)) (z := (⟨"com/example/usher_paths/usherpaths/Level", "max", "(Lcom/example/usher_paths/usherpaths/Level;)Lcom/example/usher_paths/usherpaths/Level;"⟩ : MethodName)) hown (mvT hZ (hw _ (List.mem_of_getElem? (i := 13) rfl))) (mvT hZ (hw _ (List.mem_of_getElem? (i := 14) rfl))) (notFace_of_selects (args := #[]) (mvT hZ (hw _ (List.mem_of_getElem? (i := 16) rfl)))) (mvT hZ (hw _ (List.mem_of_getElem? (i := 16) rfl))) (mvT hZ (hw _ (List.mem_of_getElem? (i := 15) rfl))) (by decide) (own_backOf (W := 0) (rmM l Z a0 hw [] n0 h0 O0 w_WRITE w_OWNER w_NONE w_OWNER w_WRITE w_READ FF0 mr MM (2 : Int32) F_ordinal_WRITE E_WRITE (3 : Int32) F_ordinal_OWNER E_OWNER (0 : Int32) (by decide) w_OWNER (by simp)) hZ (hw _ (List.mem_of_getElem? (i := 17) rfl)) (hw _ (List.mem_of_getElem? (i := 5) rfl)) (by decide) (by decide)) q95a q95c (g := (mkF m 43 #[.val (.int p0), .val (.int p1), .val (.int (3 : Int32)), .val (.int (2 : Int32)), .val (.ref w_OWNER), .val (.ref w_WRITE), .val (.ref w_OWNER), .val (.ref w_OWNER), .unset] [(.ref w_OWNER), (.ref w_WRITE)])) rfl (by rw [hml]; rfl) (Steps.refl _) (argsL := [(.ref w_OWNER)]) (rest := []) (lenOf pd0_2 rfl) rfl (by show 2 * 0 + _ ≤ _; exact Nat.le_of_eq rfl) (hb hby at_43) (fun _ _ => ⟨rfl, e94q, (by decide : 0 + 0 ≤ _), (by decide : 0 + 0 ≤ _)⟩)
      dsimp only [Pt.U, Pt.locs, Pt.cells, Pt.slots] at X95 l95 y95 z95 st95 hQ95
      subst l95 y95 z95
      obtain ⟨rfl, N95q, e95q⟩ := hQ95
      have N95 := Fr.app N94 N95q
      refine Ends.go (fun _ k => st95.trans k) ?_
      show Ends p e below s T95 (mkF m 46 #[.val (.int p0), .val (.int p1), .val (.int (3 : Int32)), .val (.int (2 : Int32)), .val (.ref w_OWNER), .val (.ref w_WRITE), .val (.ref w_OWNER), .val (.ref w_OWNER), .unset] [(.ref w_OWNER)]) _ _ _
      refine Ends.go (fun _ k => XS.astore X95.here hx rfl (hb hby at_46) rfl rfl (l' := #[.val (.int p0), .val (.int p1), .val (.int (3 : Int32)), .val (.int (2 : Int32)), .val (.ref w_OWNER), .val (.ref w_WRITE), .val (.ref w_OWNER), .val (.ref w_OWNER), .val (.ref w_OWNER)]) rfl k) ?_
      show Ends p e below s T95 (mkF m 48 #[.val (.int p0), .val (.int p1), .val (.int (3 : Int32)), .val (.int (2 : Int32)), .val (.ref w_OWNER), .val (.ref w_WRITE), .val (.ref w_OWNER), .val (.ref w_OWNER), .val (.ref w_OWNER)] []) _ _ _
      refine Ends.go (fun _ k => XS.aload X95.here hx rfl (hb hby at_48) rfl rfl k) ?_
      show Ends p e below s T95 (mkF m 50 #[.val (.int p0), .val (.int p1), .val (.int (3 : Int32)), .val (.int (2 : Int32)), .val (.ref w_OWNER), .val (.ref w_WRITE), .val (.ref w_OWNER), .val (.ref w_OWNER), .val (.ref w_OWNER)] [(.ref w_OWNER)]) _ _ _
      refine Ends.go (fun _ k => XS.aload X95.here hx rfl (hb hby at_50) rfl rfl k) ?_
      show Ends p e below s T95 (mkF m 52 #[.val (.int p0), .val (.int p1), .val (.int (3 : Int32)), .val (.int (2 : Int32)), .val (.ref w_OWNER), .val (.ref w_WRITE), .val (.ref w_OWNER), .val (.ref w_OWNER), .val (.ref w_OWNER)] [(.ref w_OWNER), (.ref w_OWNER)]) _ _ _
      refine Ends.go (fun _ k => Jvm.RoadKit.acmp (g := (mkF m 52 #[.val (.int p0), .val (.int p1), .val (.int (3 : Int32)), .val (.int (2 : Int32)), .val (.ref w_OWNER), .val (.ref w_WRITE), .val (.ref w_OWNER), .val (.ref w_OWNER), .val (.ref w_OWNER)] [(.ref w_OWNER), (.ref w_OWNER)])) X95 hx rfl rfl rfl (pc0 := 52) (pc' := 55) (same := true) rfl (hb hby at_52) rfl (decide_eq_true rfl) (by decide) (by decide) k) ?_
      show Ends p e below s T95 (mkF m 55 #[.val (.int p0), .val (.int p1), .val (.int (3 : Int32)), .val (.int (2 : Int32)), .val (.ref w_OWNER), .val (.ref w_WRITE), .val (.ref w_OWNER), .val (.ref w_OWNER), .val (.ref w_OWNER)] []) _ _ _
      refine Ends.go (fun _ k => XS.aload X95.here hx rfl (hb hby at_55) rfl rfl k) ?_
      show Ends p e below s T95 (mkF m 57 #[.val (.int p0), .val (.int p1), .val (.int (3 : Int32)), .val (.int (2 : Int32)), .val (.ref w_OWNER), .val (.ref w_WRITE), .val (.ref w_OWNER), .val (.ref w_OWNER), .val (.ref w_OWNER)] [(.ref w_OWNER)]) _ _ _
      refine Ends.go (fun _ k => XS.aload X95.here hx rfl (hb hby at_57) rfl rfl k) ?_
      show Ends p e below s T95 (mkF m 59 #[.val (.int p0), .val (.int p1), .val (.int (3 : Int32)), .val (.int (2 : Int32)), .val (.ref w_OWNER), .val (.ref w_WRITE), .val (.ref w_OWNER), .val (.ref w_OWNER), .val (.ref w_OWNER)] [(.ref w_OWNER), (.ref w_OWNER)]) _ _ _
      refine Ends.go (fun _ k => Jvm.RoadKit.acmp (g := (mkF m 59 #[.val (.int p0), .val (.int p1), .val (.int (3 : Int32)), .val (.int (2 : Int32)), .val (.ref w_OWNER), .val (.ref w_WRITE), .val (.ref w_OWNER), .val (.ref w_OWNER), .val (.ref w_OWNER)] [(.ref w_OWNER), (.ref w_OWNER)])) X95 hx rfl rfl rfl (pc0 := 59) (pc' := 62) (same := true) rfl (hb hby at_59) rfl (decide_eq_true rfl) (by decide) (by decide) k) ?_
      show Ends p e below s T95 (mkF m 62 #[.val (.int p0), .val (.int p1), .val (.int (3 : Int32)), .val (.int (2 : Int32)), .val (.ref w_OWNER), .val (.ref w_WRITE), .val (.ref w_OWNER), .val (.ref w_OWNER), .val (.ref w_OWNER)] []) _ _ _
      refine Ends.go (fun _ k => XS.iconst X95.here hx rfl (hb hby at_62) k) ?_
      show Ends p e below s T95 (mkF m 63 #[.val (.int p0), .val (.int p1), .val (.int (3 : Int32)), .val (.int (2 : Int32)), .val (.ref w_OWNER), .val (.ref w_WRITE), .val (.ref w_OWNER), .val (.ref w_OWNER), .val (.ref w_OWNER)] [(.int (1 : Int32))]) _ _ _
      refine Ends.go (fun _ k => XS.goto X95.here hx rfl (pc0 := 63) (pc' := 67) rfl (hb hby at_63) (by decide) (by decide) k) ?_
      show Ends p e below s T95 (mkF m 67 #[.val (.int p0), .val (.int p1), .val (.int (3 : Int32)), .val (.int (2 : Int32)), .val (.ref w_OWNER), .val (.ref w_WRITE), .val (.ref w_OWNER), .val (.ref w_OWNER), .val (.ref w_OWNER)] [(.int (1 : Int32))]) _ _ _
      refine Ends.retZ X95 hx Bd.notSynchronized (t := .boolean) Bd.returns (by simp) (hb hby at_67) (by decide) (by decide) ?_
      exact ⟨rfl, N95⟩
    · show Ends p e below s s₁ (mkF m 7 #[.val (.int p0), .val (.int p1), .val (.int (3 : Int32)), .unset, .unset, .unset, .unset, .unset, .unset] [(.int (3 : Int32))]) _ _ _
      refine Ends.go (fun _ k => XS.istoreN X0.here hx rfl (hb hby at_7) rfl (l' := #[.val (.int p0), .val (.int p1), .val (.int (3 : Int32)), .val (.int (3 : Int32)), .unset, .unset, .unset, .unset, .unset]) rfl k) ?_
      show Ends p e below s s₁ (mkF m 8 #[.val (.int p0), .val (.int p1), .val (.int (3 : Int32)), .val (.int (3 : Int32)), .unset, .unset, .unset, .unset, .unset] []) _ _ _
      refine Ends.go (fun _ k => XS.iloadN X0.here hx rfl (hb hby at_8) rfl k) ?_
      show Ends p e below s s₁ (mkF m 9 #[.val (.int p0), .val (.int p1), .val (.int (3 : Int32)), .val (.int (3 : Int32)), .unset, .unset, .unset, .unset, .unset] [(.int (3 : Int32))]) _ _ _
      obtain ⟨_, _, ⟨T96, L96, k96, n96⟩, -, X96, ⟨Lc96, hQ96, l96, y96, z96⟩, st96⟩ := Jvm.LawKit.callS X0 hx (y := (⟨"com/example/usher_paths/usherpaths/LevelMaxPinLaw", "pick", "(I)Lcom/example/usher_paths/usherpaths/Level;"⟩ : MethodName)) hown (mvT hZ (hw _ (List.mem_of_getElem? (i := 0) rfl))) (mvT hZ (hw _ (List.mem_of_getElem? (i := 1) rfl))) (mvT hZ (hw _ (List.mem_of_getElem? (i := 2) rfl))) (mvT hZ (hw _ (List.mem_of_getElem? (i := 3) rfl))) (by decide) (own_backOf (W := 0) (rmP l Z a0 hw [] n0 h0 O0 (3 : Int32) w_NONE w_OWNER w_WRITE w_READ FF0 mr MM w_OWNER (by simp)) hZ (hw _ (List.mem_of_getElem? (i := 3) rfl)) (hw _ (List.mem_of_getElem? (i := 2) rfl)) (by decide) (by decide)) (g := (mkF m 9 #[.val (.int p0), .val (.int p1), .val (.int (3 : Int32)), .val (.int (3 : Int32)), .unset, .unset, .unset, .unset, .unset] [(.int (3 : Int32))])) rfl (by rw [hml]; rfl) (argsL := [(.int (3 : Int32))]) (rest := []) (lenOf pd0_0 rfl) rfl (by show 2 * 0 + _ ≤ _; exact Nat.le_of_eq rfl) (hb hby at_9) (fun _ _ => ⟨rfl, e0, (by decide : 0 + 0 ≤ _), (by decide : 0 + 0 ≤ _)⟩)
      dsimp only [Pt.U, Pt.locs, Pt.cells, Pt.slots] at X96 l96 y96 z96 st96 hQ96
      subst l96 y96 z96
      obtain ⟨rfl, N96q, e96q⟩ := hQ96
      have N96 := Fr.app N0 N96q
      refine Ends.go st96 ?_
      show Ends p e below s T96 (mkF m 12 #[.val (.int p0), .val (.int p1), .val (.int (3 : Int32)), .val (.int (3 : Int32)), .unset, .unset, .unset, .unset, .unset] [(.ref w_OWNER)]) _ _ _
      refine Ends.go (fun _ k => XS.astore X96.here hx rfl (hb hby at_12) rfl rfl (l' := #[.val (.int p0), .val (.int p1), .val (.int (3 : Int32)), .val (.int (3 : Int32)), .val (.ref w_OWNER), .unset, .unset, .unset, .unset]) rfl k) ?_
      show Ends p e below s T96 (mkF m 14 #[.val (.int p0), .val (.int p1), .val (.int (3 : Int32)), .val (.int (3 : Int32)), .val (.ref w_OWNER), .unset, .unset, .unset, .unset] []) _ _ _
      refine Ends.go (fun _ k => XS.iloadN X96.here hx rfl (hb hby at_14) rfl k) ?_
      show Ends p e below s T96 (mkF m 15 #[.val (.int p0), .val (.int p1), .val (.int (3 : Int32)), .val (.int (3 : Int32)), .val (.ref w_OWNER), .unset, .unset, .unset, .unset] [(.int (3 : Int32))]) _ _ _
      obtain ⟨_, _, ⟨T97, L97, k97, n97⟩, -, X97, ⟨Lc97, hQ97, l97, y97, z97⟩, st97⟩ := Jvm.LawKit.callS X96 hx (y := (⟨"com/example/usher_paths/usherpaths/LevelMaxPinLaw", "pick", "(I)Lcom/example/usher_paths/usherpaths/Level;"⟩ : MethodName)) hown (mvT hZ (hw _ (List.mem_of_getElem? (i := 0) rfl))) (mvT hZ (hw _ (List.mem_of_getElem? (i := 1) rfl))) (mvT hZ (hw _ (List.mem_of_getElem? (i := 2) rfl))) (mvT hZ (hw _ (List.mem_of_getElem? (i := 3) rfl))) (by decide) (own_backOf (W := 0) (rmP l Z a0 hw [] n0 h0 O0 (3 : Int32) w_NONE w_OWNER w_WRITE w_READ FF0 mr MM w_OWNER (by simp)) hZ (hw _ (List.mem_of_getElem? (i := 3) rfl)) (hw _ (List.mem_of_getElem? (i := 2) rfl)) (by decide) (by decide)) (g := (mkF m 15 #[.val (.int p0), .val (.int p1), .val (.int (3 : Int32)), .val (.int (3 : Int32)), .val (.ref w_OWNER), .unset, .unset, .unset, .unset] [(.int (3 : Int32))])) rfl (by rw [hml]; rfl) (argsL := [(.int (3 : Int32))]) (rest := []) (lenOf pd0_0 rfl) rfl (by show 2 * 0 + _ ≤ _; exact Nat.le_of_eq rfl) (hb hby at_15) (fun _ _ => ⟨rfl, e96q, (by decide : 0 + 0 ≤ _), (by decide : 0 + 0 ≤ _)⟩)
      dsimp only [Pt.U, Pt.locs, Pt.cells, Pt.slots] at X97 l97 y97 z97 st97 hQ97
      subst l97 y97 z97
      obtain ⟨rfl, N97q, e97q⟩ := hQ97
      have N97 := Fr.app N96 N97q
      refine Ends.go st97 ?_
      show Ends p e below s T97 (mkF m 18 #[.val (.int p0), .val (.int p1), .val (.int (3 : Int32)), .val (.int (3 : Int32)), .val (.ref w_OWNER), .unset, .unset, .unset, .unset] [(.ref w_OWNER)]) _ _ _
      refine Ends.go (fun _ k => XS.astore X97.here hx rfl (hb hby at_18) rfl rfl (l' := #[.val (.int p0), .val (.int p1), .val (.int (3 : Int32)), .val (.int (3 : Int32)), .val (.ref w_OWNER), .val (.ref w_OWNER), .unset, .unset, .unset]) rfl k) ?_
      show Ends p e below s T97 (mkF m 20 #[.val (.int p0), .val (.int p1), .val (.int (3 : Int32)), .val (.int (3 : Int32)), .val (.ref w_OWNER), .val (.ref w_OWNER), .unset, .unset, .unset] []) _ _ _
      refine Ends.go (fun _ k => XS.iloadN X97.here hx rfl (hb hby at_20) rfl k) ?_
      show Ends p e below s T97 (mkF m 21 #[.val (.int p0), .val (.int p1), .val (.int (3 : Int32)), .val (.int (3 : Int32)), .val (.ref w_OWNER), .val (.ref w_OWNER), .unset, .unset, .unset] [(.int (3 : Int32))]) _ _ _
      refine Ends.go (fun _ k => XS.iloadN X97.here hx rfl (hb hby at_21) rfl k) ?_
      show Ends p e below s T97 (mkF m 22 #[.val (.int p0), .val (.int p1), .val (.int (3 : Int32)), .val (.int (3 : Int32)), .val (.ref w_OWNER), .val (.ref w_OWNER), .unset, .unset, .unset] [(.int (3 : Int32)), (.int (3 : Int32))]) _ _ _
      obtain ⟨_, _, ⟨T98, L98, k98, n98⟩, -, X98, ⟨Lc98, hQ98, l98, y98, z98⟩, st98⟩ := Jvm.LawKit.callS X97 hx (y := (⟨"java/lang/Math", "max", "(II)I"⟩ : MethodName)) hown (mvT hZ (hw _ (List.mem_of_getElem? (i := 9) rfl))) (mvT hZ (hw _ (List.mem_of_getElem? (i := 10) rfl))) (mvT hZ (hw _ (List.mem_of_getElem? (i := 11) rfl))) (mvT hZ (hw _ (List.mem_of_getElem? (i := 12) rfl))) (by decide) (own_backOf (W := 0) (rmX l Z a0 hw [] n0 h0 O0 (3 : Int32) (3 : Int32) w_NONE w_OWNER w_WRITE w_READ FF0 mr MM (3 : Int32) (by decide)) hZ (hw _ (List.mem_of_getElem? (i := 12) rfl)) (hw _ (List.mem_of_getElem? (i := 11) rfl)) (by decide) (by decide)) (g := (mkF m 22 #[.val (.int p0), .val (.int p1), .val (.int (3 : Int32)), .val (.int (3 : Int32)), .val (.ref w_OWNER), .val (.ref w_OWNER), .unset, .unset, .unset] [(.int (3 : Int32)), (.int (3 : Int32))])) rfl (by rw [hml]; rfl) (argsL := [(.int (3 : Int32)), (.int (3 : Int32))]) (rest := []) (lenOf pd0_1 rfl) rfl (by show 2 * 0 + _ ≤ _; exact Nat.le_of_eq rfl) (hb hby at_22) (fun _ _ => ⟨rfl, e97q, (by decide : 0 + 0 ≤ _), (by decide : 0 + 0 ≤ _)⟩)
      dsimp only [Pt.U, Pt.locs, Pt.cells, Pt.slots] at X98 l98 y98 z98 st98 hQ98
      subst l98 y98 z98
      obtain ⟨rfl, N98q, e98q⟩ := hQ98
      have N98 := Fr.app N97 N98q
      refine Ends.go st98 ?_
      show Ends p e below s T98 (mkF m 25 #[.val (.int p0), .val (.int p1), .val (.int (3 : Int32)), .val (.int (3 : Int32)), .val (.ref w_OWNER), .val (.ref w_OWNER), .unset, .unset, .unset] [(.int (3 : Int32))]) _ _ _
      obtain ⟨_, _, ⟨T99, L99, k99, n99⟩, -, X99, ⟨Lc99, hQ99, l99, y99, z99⟩, st99⟩ := Jvm.LawKit.callS X98 hx (y := (⟨"com/example/usher_paths/usherpaths/LevelMaxPinLaw", "pick", "(I)Lcom/example/usher_paths/usherpaths/Level;"⟩ : MethodName)) hown (mvT hZ (hw _ (List.mem_of_getElem? (i := 0) rfl))) (mvT hZ (hw _ (List.mem_of_getElem? (i := 1) rfl))) (mvT hZ (hw _ (List.mem_of_getElem? (i := 2) rfl))) (mvT hZ (hw _ (List.mem_of_getElem? (i := 3) rfl))) (by decide) (own_backOf (W := 0) (rmP l Z a0 hw [] n0 h0 O0 (3 : Int32) w_NONE w_OWNER w_WRITE w_READ FF0 mr MM w_OWNER (by simp)) hZ (hw _ (List.mem_of_getElem? (i := 3) rfl)) (hw _ (List.mem_of_getElem? (i := 2) rfl)) (by decide) (by decide)) (g := (mkF m 25 #[.val (.int p0), .val (.int p1), .val (.int (3 : Int32)), .val (.int (3 : Int32)), .val (.ref w_OWNER), .val (.ref w_OWNER), .unset, .unset, .unset] [(.int (3 : Int32))])) rfl (by rw [hml]; rfl) (argsL := [(.int (3 : Int32))]) (rest := []) (lenOf pd0_0 rfl) rfl (by show 2 * 0 + _ ≤ _; exact Nat.le_of_eq rfl) (hb hby at_25) (fun _ _ => ⟨rfl, e98q, (by decide : 0 + 0 ≤ _), (by decide : 0 + 0 ≤ _)⟩)
      dsimp only [Pt.U, Pt.locs, Pt.cells, Pt.slots] at X99 l99 y99 z99 st99 hQ99
      subst l99 y99 z99
      obtain ⟨rfl, N99q, e99q⟩ := hQ99
      have N99 := Fr.app N98 N99q
      refine Ends.go st99 ?_
      show Ends p e below s T99 (mkF m 28 #[.val (.int p0), .val (.int p1), .val (.int (3 : Int32)), .val (.int (3 : Int32)), .val (.ref w_OWNER), .val (.ref w_OWNER), .unset, .unset, .unset] [(.ref w_OWNER)]) _ _ _
      refine Ends.go (fun _ k => XS.astore X99.here hx rfl (hb hby at_28) rfl rfl (l' := #[.val (.int p0), .val (.int p1), .val (.int (3 : Int32)), .val (.int (3 : Int32)), .val (.ref w_OWNER), .val (.ref w_OWNER), .val (.ref w_OWNER), .unset, .unset]) rfl k) ?_
      show Ends p e below s T99 (mkF m 30 #[.val (.int p0), .val (.int p1), .val (.int (3 : Int32)), .val (.int (3 : Int32)), .val (.ref w_OWNER), .val (.ref w_OWNER), .val (.ref w_OWNER), .unset, .unset] []) _ _ _
      refine Ends.go (fun _ k => XS.aload X99.here hx rfl (hb hby at_30) rfl rfl k) ?_
      show Ends p e below s T99 (mkF m 32 #[.val (.int p0), .val (.int p1), .val (.int (3 : Int32)), .val (.int (3 : Int32)), .val (.ref w_OWNER), .val (.ref w_OWNER), .val (.ref w_OWNER), .unset, .unset] [(.ref w_OWNER)]) _ _ _
      refine Ends.go (fun _ k => XS.aload X99.here hx rfl (hb hby at_32) rfl rfl k) ?_
      show Ends p e below s T99 (mkF m 34 #[.val (.int p0), .val (.int p1), .val (.int (3 : Int32)), .val (.int (3 : Int32)), .val (.ref w_OWNER), .val (.ref w_OWNER), .val (.ref w_OWNER), .unset, .unset] [(.ref w_OWNER), (.ref w_OWNER)]) _ _ _
      obtain ⟨cq100, kq100, q100a, q100b, q100c⟩ := isOf hZ e99q (E_OWNER.ext O0.2)
      obtain ⟨_, _, ⟨T100, L100, k100, n100⟩, -, X100, ⟨Lc100, hQ100, l100, y100, z100⟩, st100⟩ := X99.virtualBack hx (y := (⟨"com/example/usher_paths/usherpaths/Level", "max", "(Lcom/example/usher_paths/usherpaths/Level;)Lcom/example/usher_paths/usherpaths/Level;"⟩ : MethodName)) (z := (⟨"com/example/usher_paths/usherpaths/Level", "max", "(Lcom/example/usher_paths/usherpaths/Level;)Lcom/example/usher_paths/usherpaths/Level;"⟩ : MethodName)) hown (mvT hZ (hw _ (List.mem_of_getElem? (i := 13) rfl))) (mvT hZ (hw _ (List.mem_of_getElem? (i := 14) rfl))) (notFace_of_selects (args := #[]) (mvT hZ (hw _ (List.mem_of_getElem? (i := 16) rfl)))) (mvT hZ (hw _ (List.mem_of_getElem? (i := 16) rfl))) (mvT hZ (hw _ (List.mem_of_getElem? (i := 15) rfl))) (by decide) (own_backOf (W := 0) (rmM l Z a0 hw [] n0 h0 O0 w_OWNER w_OWNER w_NONE w_OWNER w_WRITE w_READ FF0 mr MM (3 : Int32) F_ordinal_OWNER E_OWNER (3 : Int32) F_ordinal_OWNER E_OWNER (1 : Int32) (by decide) w_OWNER (by simp)) hZ (hw _ (List.mem_of_getElem? (i := 17) rfl)) (hw _ (List.mem_of_getElem? (i := 5) rfl)) (by decide) (by decide)) q100a q100c (g := (mkF m 34 #[.val (.int p0), .val (.int p1), .val (.int (3 : Int32)), .val (.int (3 : Int32)), .val (.ref w_OWNER), .val (.ref w_OWNER), .val (.ref w_OWNER), .unset, .unset] [(.ref w_OWNER), (.ref w_OWNER)])) rfl (by rw [hml]; rfl) (Steps.refl _) (argsL := [(.ref w_OWNER)]) (rest := []) (lenOf pd0_2 rfl) rfl (by show 2 * 0 + _ ≤ _; exact Nat.le_of_eq rfl) (hb hby at_34) (fun _ _ => ⟨rfl, e99q, (by decide : 0 + 0 ≤ _), (by decide : 0 + 0 ≤ _)⟩)
      dsimp only [Pt.U, Pt.locs, Pt.cells, Pt.slots] at X100 l100 y100 z100 st100 hQ100
      subst l100 y100 z100
      obtain ⟨rfl, N100q, e100q⟩ := hQ100
      have N100 := Fr.app N99 N100q
      refine Ends.go (fun _ k => st100.trans k) ?_
      show Ends p e below s T100 (mkF m 37 #[.val (.int p0), .val (.int p1), .val (.int (3 : Int32)), .val (.int (3 : Int32)), .val (.ref w_OWNER), .val (.ref w_OWNER), .val (.ref w_OWNER), .unset, .unset] [(.ref w_OWNER)]) _ _ _
      refine Ends.go (fun _ k => XS.astore X100.here hx rfl (hb hby at_37) rfl rfl (l' := #[.val (.int p0), .val (.int p1), .val (.int (3 : Int32)), .val (.int (3 : Int32)), .val (.ref w_OWNER), .val (.ref w_OWNER), .val (.ref w_OWNER), .val (.ref w_OWNER), .unset]) rfl k) ?_
      show Ends p e below s T100 (mkF m 39 #[.val (.int p0), .val (.int p1), .val (.int (3 : Int32)), .val (.int (3 : Int32)), .val (.ref w_OWNER), .val (.ref w_OWNER), .val (.ref w_OWNER), .val (.ref w_OWNER), .unset] []) _ _ _
      refine Ends.go (fun _ k => XS.aload X100.here hx rfl (hb hby at_39) rfl rfl k) ?_
      show Ends p e below s T100 (mkF m 41 #[.val (.int p0), .val (.int p1), .val (.int (3 : Int32)), .val (.int (3 : Int32)), .val (.ref w_OWNER), .val (.ref w_OWNER), .val (.ref w_OWNER), .val (.ref w_OWNER), .unset] [(.ref w_OWNER)]) _ _ _
      refine Ends.go (fun _ k => XS.aload X100.here hx rfl (hb hby at_41) rfl rfl k) ?_
      show Ends p e below s T100 (mkF m 43 #[.val (.int p0), .val (.int p1), .val (.int (3 : Int32)), .val (.int (3 : Int32)), .val (.ref w_OWNER), .val (.ref w_OWNER), .val (.ref w_OWNER), .val (.ref w_OWNER), .unset] [(.ref w_OWNER), (.ref w_OWNER)]) _ _ _
      obtain ⟨cq101, kq101, q101a, q101b, q101c⟩ := isOf hZ e100q (E_OWNER.ext O0.2)
      obtain ⟨_, _, ⟨T101, L101, k101, n101⟩, -, X101, ⟨Lc101, hQ101, l101, y101, z101⟩, st101⟩ := X100.virtualBack hx (y := (⟨"com/example/usher_paths/usherpaths/Level", "max", "(Lcom/example/usher_paths/usherpaths/Level;)Lcom/example/usher_paths/usherpaths/Level;"⟩ : MethodName)) (z := (⟨"com/example/usher_paths/usherpaths/Level", "max", "(Lcom/example/usher_paths/usherpaths/Level;)Lcom/example/usher_paths/usherpaths/Level;"⟩ : MethodName)) hown (mvT hZ (hw _ (List.mem_of_getElem? (i := 13) rfl))) (mvT hZ (hw _ (List.mem_of_getElem? (i := 14) rfl))) (notFace_of_selects (args := #[]) (mvT hZ (hw _ (List.mem_of_getElem? (i := 16) rfl)))) (mvT hZ (hw _ (List.mem_of_getElem? (i := 16) rfl))) (mvT hZ (hw _ (List.mem_of_getElem? (i := 15) rfl))) (by decide) (own_backOf (W := 0) (rmM l Z a0 hw [] n0 h0 O0 w_OWNER w_OWNER w_NONE w_OWNER w_WRITE w_READ FF0 mr MM (3 : Int32) F_ordinal_OWNER E_OWNER (3 : Int32) F_ordinal_OWNER E_OWNER (1 : Int32) (by decide) w_OWNER (by simp)) hZ (hw _ (List.mem_of_getElem? (i := 17) rfl)) (hw _ (List.mem_of_getElem? (i := 5) rfl)) (by decide) (by decide)) q101a q101c (g := (mkF m 43 #[.val (.int p0), .val (.int p1), .val (.int (3 : Int32)), .val (.int (3 : Int32)), .val (.ref w_OWNER), .val (.ref w_OWNER), .val (.ref w_OWNER), .val (.ref w_OWNER), .unset] [(.ref w_OWNER), (.ref w_OWNER)])) rfl (by rw [hml]; rfl) (Steps.refl _) (argsL := [(.ref w_OWNER)]) (rest := []) (lenOf pd0_2 rfl) rfl (by show 2 * 0 + _ ≤ _; exact Nat.le_of_eq rfl) (hb hby at_43) (fun _ _ => ⟨rfl, e100q, (by decide : 0 + 0 ≤ _), (by decide : 0 + 0 ≤ _)⟩)
      dsimp only [Pt.U, Pt.locs, Pt.cells, Pt.slots] at X101 l101 y101 z101 st101 hQ101
      subst l101 y101 z101
      obtain ⟨rfl, N101q, e101q⟩ := hQ101
      have N101 := Fr.app N100 N101q
      refine Ends.go (fun _ k => st101.trans k) ?_
      show Ends p e below s T101 (mkF m 46 #[.val (.int p0), .val (.int p1), .val (.int (3 : Int32)), .val (.int (3 : Int32)), .val (.ref w_OWNER), .val (.ref w_OWNER), .val (.ref w_OWNER), .val (.ref w_OWNER), .unset] [(.ref w_OWNER)]) _ _ _
      refine Ends.go (fun _ k => XS.astore X101.here hx rfl (hb hby at_46) rfl rfl (l' := #[.val (.int p0), .val (.int p1), .val (.int (3 : Int32)), .val (.int (3 : Int32)), .val (.ref w_OWNER), .val (.ref w_OWNER), .val (.ref w_OWNER), .val (.ref w_OWNER), .val (.ref w_OWNER)]) rfl k) ?_
      show Ends p e below s T101 (mkF m 48 #[.val (.int p0), .val (.int p1), .val (.int (3 : Int32)), .val (.int (3 : Int32)), .val (.ref w_OWNER), .val (.ref w_OWNER), .val (.ref w_OWNER), .val (.ref w_OWNER), .val (.ref w_OWNER)] []) _ _ _
      refine Ends.go (fun _ k => XS.aload X101.here hx rfl (hb hby at_48) rfl rfl k) ?_
      show Ends p e below s T101 (mkF m 50 #[.val (.int p0), .val (.int p1), .val (.int (3 : Int32)), .val (.int (3 : Int32)), .val (.ref w_OWNER), .val (.ref w_OWNER), .val (.ref w_OWNER), .val (.ref w_OWNER), .val (.ref w_OWNER)] [(.ref w_OWNER)]) _ _ _
      refine Ends.go (fun _ k => XS.aload X101.here hx rfl (hb hby at_50) rfl rfl k) ?_
      show Ends p e below s T101 (mkF m 52 #[.val (.int p0), .val (.int p1), .val (.int (3 : Int32)), .val (.int (3 : Int32)), .val (.ref w_OWNER), .val (.ref w_OWNER), .val (.ref w_OWNER), .val (.ref w_OWNER), .val (.ref w_OWNER)] [(.ref w_OWNER), (.ref w_OWNER)]) _ _ _
      refine Ends.go (fun _ k => Jvm.RoadKit.acmp (g := (mkF m 52 #[.val (.int p0), .val (.int p1), .val (.int (3 : Int32)), .val (.int (3 : Int32)), .val (.ref w_OWNER), .val (.ref w_OWNER), .val (.ref w_OWNER), .val (.ref w_OWNER), .val (.ref w_OWNER)] [(.ref w_OWNER), (.ref w_OWNER)])) X101 hx rfl rfl rfl (pc0 := 52) (pc' := 55) (same := true) rfl (hb hby at_52) rfl (decide_eq_true rfl) (by decide) (by decide) k) ?_
      show Ends p e below s T101 (mkF m 55 #[.val (.int p0), .val (.int p1), .val (.int (3 : Int32)), .val (.int (3 : Int32)), .val (.ref w_OWNER), .val (.ref w_OWNER), .val (.ref w_OWNER), .val (.ref w_OWNER), .val (.ref w_OWNER)] []) _ _ _
      refine Ends.go (fun _ k => XS.aload X101.here hx rfl (hb hby at_55) rfl rfl k) ?_
      show Ends p e below s T101 (mkF m 57 #[.val (.int p0), .val (.int p1), .val (.int (3 : Int32)), .val (.int (3 : Int32)), .val (.ref w_OWNER), .val (.ref w_OWNER), .val (.ref w_OWNER), .val (.ref w_OWNER), .val (.ref w_OWNER)] [(.ref w_OWNER)]) _ _ _
      refine Ends.go (fun _ k => XS.aload X101.here hx rfl (hb hby at_57) rfl rfl k) ?_
      show Ends p e below s T101 (mkF m 59 #[.val (.int p0), .val (.int p1), .val (.int (3 : Int32)), .val (.int (3 : Int32)), .val (.ref w_OWNER), .val (.ref w_OWNER), .val (.ref w_OWNER), .val (.ref w_OWNER), .val (.ref w_OWNER)] [(.ref w_OWNER), (.ref w_OWNER)]) _ _ _
      refine Ends.go (fun _ k => Jvm.RoadKit.acmp (g := (mkF m 59 #[.val (.int p0), .val (.int p1), .val (.int (3 : Int32)), .val (.int (3 : Int32)), .val (.ref w_OWNER), .val (.ref w_OWNER), .val (.ref w_OWNER), .val (.ref w_OWNER), .val (.ref w_OWNER)] [(.ref w_OWNER), (.ref w_OWNER)])) X101 hx rfl rfl rfl (pc0 := 59) (pc' := 62) (same := true) rfl (hb hby at_59) rfl (decide_eq_true rfl) (by decide) (by decide) k) ?_
      show Ends p e below s T101 (mkF m 62 #[.val (.int p0), .val (.int p1), .val (.int (3 : Int32)), .val (.int (3 : Int32)), .val (.ref w_OWNER), .val (.ref w_OWNER), .val (.ref w_OWNER), .val (.ref w_OWNER), .val (.ref w_OWNER)] []) _ _ _
      refine Ends.go (fun _ k => XS.iconst X101.here hx rfl (hb hby at_62) k) ?_
      show Ends p e below s T101 (mkF m 63 #[.val (.int p0), .val (.int p1), .val (.int (3 : Int32)), .val (.int (3 : Int32)), .val (.ref w_OWNER), .val (.ref w_OWNER), .val (.ref w_OWNER), .val (.ref w_OWNER), .val (.ref w_OWNER)] [(.int (1 : Int32))]) _ _ _
      refine Ends.go (fun _ k => XS.goto X101.here hx rfl (pc0 := 63) (pc' := 67) rfl (hb hby at_63) (by decide) (by decide) k) ?_
      show Ends p e below s T101 (mkF m 67 #[.val (.int p0), .val (.int p1), .val (.int (3 : Int32)), .val (.int (3 : Int32)), .val (.ref w_OWNER), .val (.ref w_OWNER), .val (.ref w_OWNER), .val (.ref w_OWNER), .val (.ref w_OWNER)] [(.int (1 : Int32))]) _ _ _
      refine Ends.retZ X101 hx Bd.notSynchronized (t := .boolean) Bd.returns (by simp) (hb hby at_67) (by decide) (by decide) ?_
      exact ⟨rfl, N101⟩
set_option maxRecDepth 65536 in
set_option maxHeartbeats 40000000 in
theorem comes_1 {Post : Tables → Env → Array Value → State → Outcome → State → Prop} (hpost : ∀ tb e args s v u, (limb_1_1.after args s (.returned v) u = true ∧ limb_1_2.after args s (.returned v) u = true ∧ True) → FrameEnd s (.returned v) u (Jvm.fieldLocs frame_1_writes args s ++ Jvm.arrayLocs frame_1_arrays args s ++ Jvm.staticLocs frame_1_statics s) 0 0 → Post tb e args s (.returned v) u) :
    ArmFor flags0 classFile x code maxLocals ret World_1 tables_1 room_1 Calls_1 rest_1 Pre_1 Post := by
  intro l hfl _ _ p e ha hc hk s m args below hf hA hF happ hP
  obtain ⟨hcalls, hrest, hpre⟩ := hP
  obtain ⟨-, -, -, hnamed, -, -, -, hat⟩ := (Spec.applies_iff hf).mp happ
  obtain ⟨hg, hn⟩ := and_e (Cond.before_iff.mp (show (Jvm.Cond.and given_1 narrow_1).before args s = true from hpre))
  obtain ⟨g0a, g0b⟩ := and_e hg
  obtain ⟨g1a, g1b⟩ := and_e g0b
  obtain ⟨w0, w1, rfl⟩ : ∃ w0 w1 : Value, args = #[w0, w1] := by
    have hs : args.size = 2 := by simpa [Cond.value, given_1] using g0a
    obtain ⟨L⟩ := args
    match L, hs with
    | [w0, w1], _ => exact ⟨w0, w1, rfl⟩
  have hw := fun d (hd : d ∈ tables_1) => atoms_spec (ws := Jvm.Cond.code x code maxLocals ret :: tables_1) hat d (List.mem_cons_of_mem _ hd)
  have hfit : Fit s := fun {y c} hc i hi => by
    obtain ⟨ha, rfl⟩ := Array.getElem?_eq_some_iff.mp hc
    have q := List.all_eq_true.mp ((Array.all_eq_true_iff_forall_mem.mp hF) _ (Array.getElem_mem ha)) i (List.mem_range.mpr hi)
    simpa [Array.getElem?_eq_getElem hi] using q
  obtain ⟨i0, ei0⟩ := is_v g1a
  obtain rfl : w0 = (.int i0) := Option.some.inj ei0
  obtain ⟨i1, ei1⟩ := is_v g1b
  obtain rfl : w1 = (.int i1) := Option.some.inj ei1
  obtain ⟨n0a, n0b⟩ := and_e hn
  obtain ⟨w_NONE, ev_NONE⟩ := exa_v n0a
  obtain ⟨n1a, n1b⟩ := and_e n0b
  obtain ⟨w_OWNER, ev_OWNER⟩ := exa_v n1a
  obtain ⟨n2a, n2b⟩ := and_e n1b
  obtain ⟨n3a, n3b⟩ := and_e n2b
  obtain ⟨n4a, n4b⟩ := and_e n3b
  obtain ⟨w_WRITE, ev_WRITE⟩ := exa_v n4a
  obtain ⟨n5a, n5b⟩ := and_e n4b
  obtain ⟨w_READ, ev_READ⟩ := exa_v n5a
  obtain ⟨n6a, n6b⟩ := and_e n5b
  obtain ⟨cm, km, mr, hm1, hm2, hm3⟩ := hcalls.1
  obtain ⟨n, o, h1, h2, h3, _, L, rfl, ⟨rfl, N⟩, hq⟩ := rm0 l s _ hw tables_1 s.heap.size s.heap (Old.start s) i0 i1 w_NONE w_OWNER w_WRITE w_READ ⟨Sta.start ev_NONE (Or.inr ⟨(hw _ (List.mem_of_getElem? (i := 5) rfl)), (hw _ (List.mem_of_getElem? (i := 6) rfl))⟩), Exa.start ev_NONE n0a, Sta.start ev_OWNER (Or.inr ⟨(hw _ (List.mem_of_getElem? (i := 5) rfl)), (hw _ (List.mem_of_getElem? (i := 8) rfl))⟩), Exa.start ev_OWNER n1a, Fld.start ((fld_at ev_NONE).symm.trans (own_eqI n2a)), Fld.start ((fld_at ev_OWNER).symm.trans (own_eqI n3a)), Sta.start ev_WRITE (Or.inr ⟨(hw _ (List.mem_of_getElem? (i := 5) rfl)), (hw _ (List.mem_of_getElem? (i := 39) rfl))⟩), Exa.start ev_WRITE n4a, Sta.start ev_READ (Or.inr ⟨(hw _ (List.mem_of_getElem? (i := 5) rfl)), (hw _ (List.mem_of_getElem? (i := 41) rfl))⟩), Exa.start ev_READ n5a, Fld.start ((fld_at ev_WRITE).symm.trans (own_eqI n6a)), Fld.start ((fld_at ev_READ).symm.trans (own_eqI n6b))⟩ mr ⟨_, _, hm1, hm2, hm3.1⟩ p e ha hc hk s m _ below hf ((Spec.applies_iff_loose hf).mp happ).1 ⟨rfl, State.Warmed39.refl s, rfl⟩ trivial
  refine ⟨n, _, h1, h2, h3, hpost _ _ _ _ _ _ ⟨Cond.after_iff.mpr rfl, Cond.after_iff.mpr (eq_i res_at (Term.int_eval (1)) rfl), trivial⟩ ⟨hq.1, hq.2.1, (hq.2.2.sift fun y hy => Or.inr (N y hy)).mono (by decide) (by decide)⟩⟩
theorem main_1_1 : Claimed_1_1 := comes_1 fun _ _ _ _ _ _ h hF => ⟨h.1, hF⟩
theorem main_1_2 : Claimed_1_2 := comes_1 fun _ _ _ _ _ _ h hF => ⟨h.2.1, hF⟩
end Jvm.Pilot.@@N@@
namespace Jvm.Pilot.@@N@@
open Jvm Jvm.ClassFile Sem Op Lib Jvm.Free Jvm.Stand Jvm.Pilot.@@N@@.Jvm.D
/-! MADE BY PROGRAM (witnessworld.py) out of the Statement's table words and the real class files: 14 classes; the members and pool entries that the words name. The judged class is class 1, her method 2. -/
namespace start1
open Jvm.ClassFile
def u (s : String) : CpInfo := .utf8 (stringToUtf16 s)
/-- a pool by its gaps: so many unusable entries, then the entry; so many at the end -/
def gap : Nat → List CpInfo → List CpInfo
  | 0, r => r
  | n + 1, r => .unusable :: gap n r
def poolList (es : List (Nat × CpInfo)) (last : Nat) : List CpInfo := es.foldr (fun e r => gap e.1 (e.2 :: r)) (gap last [])
def pool (es : List (Nat × CpInfo)) (last : Nat) : Array CpInfo := ⟨poolList es last⟩
def fileOf (pool : Array CpInfo) (this : Nat) (attrs : Array Attribute := #[]) (ms : Array MethodInfo := #[]) (fl : Nat := 33) (sup : Nat := 0) (ifs : Array Nat := #[]) (fds : Array FieldInfo := #[]) : ClassFile where
  minorVersion := 0
  majorVersion := 65
  constantPool := pool
  accessFlags := fl
  thisClass := this
  superClass := sup
  interfaces := ifs
  fields := fds
  methods := ms
  attributes := attrs
def plain (name : String) (sup : Option ClassId) : Class where
  name := name
  kind := .ordinary
  loader := none
  accessFlags := 33
  super := sup
  interfaces := #[]
  cf := none
  fields := #[]
  methods := #[]
  instanceTypes := #[]
  staticTypes := #[]
  resolved := #[]
  callSites := []
  init := .initialized
  statics := none
  mirror := none

def pool0 : Array CpInfo := pool [(5, u "<init>"), (0, u "()V"), (1, .class_ 10), (1, u "java/lang/Object"), (0, u "getClass"), (0, u "()Ljava/lang/Class;")] 111

def k0m0 : Method := { name := "<init>", desc := "()V", sig := { parameters := [], returnType := none }, accessFlags := 1, code := none }
def k0m1 : Method := { name := "getClass", desc := "()Ljava/lang/Class;", sig := { parameters := [], returnType := some (.object "java/lang/Class") }, accessFlags := 273, code := none }
/-- java/lang/Object -/
def k0 : Class := { plain "java/lang/Object" none with
  accessFlags := 33
  interfaces := #[]
  cf := some (fileOf pool0 8 #[] #[{ accessFlags := 1, nameIndex := 5, descriptorIndex := 6, attributes := #[] }, { accessFlags := 273, nameIndex := 11, descriptorIndex := 12, attributes := #[] }] 33 0 #[] #[])
  fields := #[]
  methods := #[k0m0, k0m1]
  instanceTypes := #[]
  staticTypes := #[]
  resolved := Array.replicate 124 none
  statics := none }

def pool1 : Array CpInfo := pool [(2, .class_ 4), (1, u "java/lang/Object"), (0, u "<init>"), (0, u "()V"), (0, .fieldref 8 9), (0, .class_ 10), (0, .nameAndType 11 12), (0, u "com/example/usher_paths/usherpaths/Level"), (0, u "NONE"), (0, u "Lcom/example/usher_paths/usherpaths/Level;"), (0, .fieldref 8 14), (0, .nameAndType 15 12), (0, u "READ"), (0, .fieldref 8 17), (0, .nameAndType 18 12), (0, u "WRITE"), (0, .fieldref 8 20), (0, .nameAndType 21 12), (0, u "OWNER"), (0, .methodref 23 24), (0, .class_ 25), (0, .nameAndType 26 27), (0, u "com/example/usher_paths/usherpaths/LevelMaxPinLaw"), (0, u "pick"), (0, u "(I)Lcom/example/usher_paths/usherpaths/Level;"), (0, .methodref 29 30), (0, .class_ 31), (0, .nameAndType 32 33), (0, u "java/lang/Math"), (0, u "max"), (0, u "(II)I"), (0, .methodref 8 35), (0, .nameAndType 32 36), (0, u "(Lcom/example/usher_paths/usherpaths/Level;)Lcom/example/usher_paths/usherpaths/Level;"), (3, u "law"), (0, u "(II)Z")] 2

def k1m0 : Method := { name := "<init>", desc := "()V", sig := { parameters := [], returnType := none }, accessFlags := 2, code := none }
def k1c1 : Code := { maxStack := 2, maxLocals := 1, code := method_2_code, exceptionTable := #[], attributes := #[] }
def k1m1 : Method := { name := "pick", desc := "(I)Lcom/example/usher_paths/usherpaths/Level;", sig := { parameters := [.int], returnType := some (.object "com/example/usher_paths/usherpaths/Level") }, accessFlags := 10, code := some k1c1 }
def k1c2 : Code := { maxStack := 2, maxLocals := 9, code := code, exceptionTable := #[], attributes := #[] }
def k1m2 : Method := { name := "law", desc := "(II)Z", sig := { parameters := [.int, .int], returnType := some .boolean }, accessFlags := 9, code := some k1c2 }
/-- com/example/usher_paths/usherpaths/LevelMaxPinLaw -/
def k1 : Class := { plain "com/example/usher_paths/usherpaths/LevelMaxPinLaw" (some 0) with
  accessFlags := 49
  interfaces := #[]
  cf := some (fileOf pool1 23 #[] #[{ accessFlags := 2, nameIndex := 5, descriptorIndex := 6, attributes := #[] }, { accessFlags := 10, nameIndex := 26, descriptorIndex := 27, attributes := #[] }, { accessFlags := 9, nameIndex := 40, descriptorIndex := 41, attributes := #[] }] 49 2 #[] #[])
  fields := #[]
  methods := #[k1m0, k1m1, k1m2]
  instanceTypes := #[]
  staticTypes := #[]
  resolved := Array.replicate 44 none
  statics := none }

def pool2 : Array CpInfo := pool [(1, .class_ 2), (0, u "java/lang/constant/Constable"), (0, .class_ 4), (0, u "java/lang/Object")] 6

/-- java/lang/constant/Constable -/
def k2 : Class := { plain "java/lang/constant/Constable" (some 0) with
  accessFlags := 1537
  interfaces := #[]
  cf := some (fileOf pool2 1 #[] #[] 1537 3 #[] #[])
  fields := #[]
  methods := #[]
  instanceTypes := #[]
  staticTypes := #[]
  resolved := Array.replicate 11 none
  statics := none }

def pool3 : Array CpInfo := pool [(1, .class_ 2), (0, u "java/lang/Comparable"), (0, .class_ 4), (0, u "java/lang/Object")] 7

/-- java/lang/Comparable -/
def k3 : Class := { plain "java/lang/Comparable" (some 0) with
  accessFlags := 1537
  interfaces := #[]
  cf := some (fileOf pool3 1 #[] #[] 1537 3 #[] #[])
  fields := #[]
  methods := #[]
  instanceTypes := #[]
  staticTypes := #[]
  resolved := Array.replicate 12 none
  statics := none }

def pool4 : Array CpInfo := pool [(1, .class_ 2), (0, u "java/io/Serializable"), (0, .class_ 4), (0, u "java/lang/Object")] 2

/-- java/io/Serializable -/
def k4 : Class := { plain "java/io/Serializable" (some 0) with
  accessFlags := 1537
  interfaces := #[]
  cf := some (fileOf pool4 1 #[] #[] 1537 3 #[] #[])
  fields := #[]
  methods := #[]
  instanceTypes := #[]
  staticTypes := #[]
  resolved := Array.replicate 7 none
  statics := none }

def pool5 : Array CpInfo := pool [(2, .class_ 4), (1, u "java/lang/Enum"), (0, u "name"), (0, u "Ljava/lang/String;"), (0, .fieldref 2 8), (0, .nameAndType 9 10), (0, u "ordinal"), (0, u "I"), (1, .class_ 14), (1, u "java/lang/Object"), (4, u "hash"), (9, .methodref 12 30), (0, .nameAndType 31 32), (0, u "getClass"), (0, u "()Ljava/lang/Class;"), (70, u "compareTo"), (0, u "(Ljava/lang/Enum;)I"), (1, .class_ 108), (1, u "java/lang/Enum$EnumDesc"), (2, .class_ 112), (0, u "java/lang/constant/Constable"), (0, .class_ 114), (0, u "java/lang/Comparable"), (0, .class_ 116), (0, u "java/io/Serializable")] 87

def k5c0 : Code := { maxStack := 2, maxLocals := 4, code := jdk_37_method_8_code, exceptionTable := #[], attributes := #[] }
def k5m0 : Method := { name := "compareTo", desc := "(Ljava/lang/Enum;)I", sig := { parameters := [(.object "java/lang/Enum")], returnType := some .int }, accessFlags := 17, code := some k5c0 }
/-- java/lang/Enum -/
def k5 : Class := { plain "java/lang/Enum" (some 0) with
  accessFlags := 1057
  interfaces := #[2, 3, 4]
  cf := some (fileOf pool5 2 #[.nestMembers #[106]] #[{ accessFlags := 17, nameIndex := 103, descriptorIndex := 104, attributes := #[] }] 1057 12 #[111, 113, 115] #[{ accessFlags := 18, nameIndex := 5, descriptorIndex := 6, attributes := #[] }, { accessFlags := 18, nameIndex := 9, descriptorIndex := 10, attributes := #[] }, { accessFlags := 2, nameIndex := 19, descriptorIndex := 10, attributes := #[] }])
  fields := #[{ name := "name", type := (.object "java/lang/String"), accessFlags := 18, slot := 0, constantValue := 0 }, { name := "ordinal", type := .int, accessFlags := 18, slot := 1, constantValue := 0 }, { name := "hash", type := .int, accessFlags := 2, slot := 2, constantValue := 0 }]
  methods := #[k5m0]
  instanceTypes := #[(.object "java/lang/String"), .int, .int]
  staticTypes := #[]
  resolved := Array.replicate 204 none
  statics := none }

def pool6 : Array CpInfo := pool [(1, .class_ 2), (0, u "com/example/usher_paths/usherpaths/Level"), (2, u "NONE"), (0, u "Lcom/example/usher_paths/usherpaths/Level;"), (2, u "READ"), (2, u "WRITE"), (2, u "OWNER"), (2, u "$VALUES"), (0, u "[Lcom/example/usher_paths/usherpaths/Level;"), (6, .class_ 28), (1, u "java/lang/Enum"), (8, u "word"), (0, u "Ljava/lang/String;"), (12, .methodref 1 52), (0, .nameAndType 53 54), (0, u "compareTo"), (0, u "(Ljava/lang/Enum;)I"), (0, .methodref 1 56), (0, .nameAndType 57 58), (0, u "atLeast"), (0, u "(Lcom/example/usher_paths/usherpaths/Level;)Z"), (25, u "max"), (0, u "(Lcom/example/usher_paths/usherpaths/Level;)Lcom/example/usher_paths/usherpaths/Level;")] 7

def k6c0 : Code := { maxStack := 2, maxLocals := 2, code := prog_7_method_5_code, exceptionTable := #[], attributes := #[] }
def k6m0 : Method := { name := "atLeast", desc := "(Lcom/example/usher_paths/usherpaths/Level;)Z", sig := { parameters := [(.object "com/example/usher_paths/usherpaths/Level")], returnType := some .boolean }, accessFlags := 1, code := some k6c0 }
def k6c1 : Code := { maxStack := 2, maxLocals := 2, code := prog_7_method_6_code, exceptionTable := #[], attributes := #[] }
def k6m1 : Method := { name := "max", desc := "(Lcom/example/usher_paths/usherpaths/Level;)Lcom/example/usher_paths/usherpaths/Level;", sig := { parameters := [(.object "com/example/usher_paths/usherpaths/Level")], returnType := some (.object "com/example/usher_paths/usherpaths/Level") }, accessFlags := 1, code := some k6c1 }
/-- com/example/usher_paths/usherpaths/Level -/
def k6 : Class := { plain "com/example/usher_paths/usherpaths/Level" (some 5) with
  accessFlags := 16433
  interfaces := #[]
  cf := some (fileOf pool6 1 #[] #[{ accessFlags := 1, nameIndex := 57, descriptorIndex := 58, attributes := #[] }, { accessFlags := 1, nameIndex := 84, descriptorIndex := 85, attributes := #[] }] 16433 26 #[] #[{ accessFlags := 16409, nameIndex := 5, descriptorIndex := 6, attributes := #[] }, { accessFlags := 16409, nameIndex := 9, descriptorIndex := 6, attributes := #[] }, { accessFlags := 16409, nameIndex := 12, descriptorIndex := 6, attributes := #[] }, { accessFlags := 16409, nameIndex := 15, descriptorIndex := 6, attributes := #[] }, { accessFlags := 18, nameIndex := 37, descriptorIndex := 38, attributes := #[] }, { accessFlags := 4122, nameIndex := 18, descriptorIndex := 19, attributes := #[] }])
  fields := #[{ name := "NONE", type := (.object "com/example/usher_paths/usherpaths/Level"), accessFlags := 16409, slot := 0, constantValue := 0 }, { name := "READ", type := (.object "com/example/usher_paths/usherpaths/Level"), accessFlags := 16409, slot := 1, constantValue := 0 }, { name := "WRITE", type := (.object "com/example/usher_paths/usherpaths/Level"), accessFlags := 16409, slot := 2, constantValue := 0 }, { name := "OWNER", type := (.object "com/example/usher_paths/usherpaths/Level"), accessFlags := 16409, slot := 3, constantValue := 0 }, { name := "word", type := (.object "java/lang/String"), accessFlags := 18, slot := 3, constantValue := 0 }, { name := "$VALUES", type := (.array (.object "com/example/usher_paths/usherpaths/Level")), accessFlags := 4122, slot := 4, constantValue := 0 }]
  methods := #[k6m0, k6m1]
  instanceTypes := #[(.object "java/lang/String"), .int, .int, (.object "java/lang/String")]
  staticTypes := #[(.object "com/example/usher_paths/usherpaths/Level"), (.object "com/example/usher_paths/usherpaths/Level"), (.object "com/example/usher_paths/usherpaths/Level"), (.object "com/example/usher_paths/usherpaths/Level"), (.array (.object "com/example/usher_paths/usherpaths/Level"))]
  resolved := Array.replicate 93 none
  mirror := some 1
  statics := some 0 }

def pool7 : Array CpInfo := pool [(1, .class_ 2), (0, u "java/lang/Math"), (1, .class_ 6), (1, u "java/lang/Object"), (0, u "<init>"), (0, u "()V"), (89, .class_ 100), (1, u "java/lang/Math$RandomNumberGeneratorHolder"), (71, u "negativeZeroFloatBits"), (0, u "J"), (2, u "negativeZeroDoubleBits"), (21, u "max"), (46, u "$assertionsDisabled"), (0, u "Z"), (88, u "(II)I"), (2, u "twoToTheDoubleScaleDown"), (0, u "D"), (4, u "twoToTheDoubleScaleUp"), (9, u "E"), (3, u "PI"), (2, u "TAU"), (2, u "DEGREES_TO_RADIANS"), (0, u "RADIANS_TO_DEGREES")] 94

def k7m0 : Method := { name := "<init>", desc := "()V", sig := { parameters := [], returnType := none }, accessFlags := 2, code := none }
def k7c1 : Code := { maxStack := 2, maxLocals := 2, code := jdk_29_method_65_code, exceptionTable := #[], attributes := #[] }
def k7m1 : Method := { name := "max", desc := "(II)I", sig := { parameters := [.int, .int], returnType := some .int }, accessFlags := 9, code := some k7c1 }
/-- java/lang/Math -/
def k7 : Class := { plain "java/lang/Math" (some 0) with
  accessFlags := 49
  interfaces := #[]
  cf := some (fileOf pool7 1 #[.nestMembers #[98]] #[{ accessFlags := 2, nameIndex := 7, descriptorIndex := 8, attributes := #[] }, { accessFlags := 9, nameIndex := 198, descriptorIndex := 335, attributes := #[] }] 49 4 #[] #[{ accessFlags := 25, nameIndex := 354, descriptorIndex := 339, attributes := #[] }, { accessFlags := 25, nameIndex := 358, descriptorIndex := 339, attributes := #[] }, { accessFlags := 25, nameIndex := 361, descriptorIndex := 339, attributes := #[] }, { accessFlags := 26, nameIndex := 364, descriptorIndex := 339, attributes := #[] }, { accessFlags := 26, nameIndex := 365, descriptorIndex := 339, attributes := #[] }, { accessFlags := 26, nameIndex := 172, descriptorIndex := 173, attributes := #[] }, { accessFlags := 26, nameIndex := 176, descriptorIndex := 173, attributes := #[] }, { accessFlags := 8, nameIndex := 344, descriptorIndex := 339, attributes := #[] }, { accessFlags := 8, nameIndex := 338, descriptorIndex := 339, attributes := #[] }, { accessFlags := 4120, nameIndex := 245, descriptorIndex := 246, attributes := #[] }])
  fields := #[{ name := "E", type := .double, accessFlags := 25, slot := 0, constantValue := 0 }, { name := "PI", type := .double, accessFlags := 25, slot := 1, constantValue := 0 }, { name := "TAU", type := .double, accessFlags := 25, slot := 2, constantValue := 0 }, { name := "DEGREES_TO_RADIANS", type := .double, accessFlags := 26, slot := 3, constantValue := 0 }, { name := "RADIANS_TO_DEGREES", type := .double, accessFlags := 26, slot := 4, constantValue := 0 }, { name := "negativeZeroFloatBits", type := .long, accessFlags := 26, slot := 5, constantValue := 0 }, { name := "negativeZeroDoubleBits", type := .long, accessFlags := 26, slot := 6, constantValue := 0 }, { name := "twoToTheDoubleScaleUp", type := .double, accessFlags := 8, slot := 7, constantValue := 0 }, { name := "twoToTheDoubleScaleDown", type := .double, accessFlags := 8, slot := 8, constantValue := 0 }, { name := "$assertionsDisabled", type := .boolean, accessFlags := 4120, slot := 9, constantValue := 0 }]
  methods := #[k7m0, k7m1]
  instanceTypes := #[]
  staticTypes := #[.double, .double, .double, .double, .double, .long, .long, .double, .double, .boolean]
  resolved := Array.replicate 460 none
  statics := none }

def pool8 : Array CpInfo := pool [(1, u "java/lang/Class"), (0, .class_ 1), (0, u "java/lang/Object"), (0, .class_ 3)] 0

/-- java/lang/Class -/
def k8 : Class := { plain "java/lang/Class" (some 0) with
  accessFlags := 49
  interfaces := #[]
  cf := some (fileOf pool8 2 #[] #[] 49 4 #[] #[])
  fields := #[]
  methods := #[]
  instanceTypes := #[]
  staticTypes := #[]
  resolved := Array.replicate 5 none
  statics := none }

def pool9 : Array CpInfo := pool [(1, u "java/lang/Cloneable"), (0, .class_ 1), (0, u "java/lang/Object"), (0, .class_ 3)] 3

/-- java/lang/Cloneable -/
def k9 : Class := { plain "java/lang/Cloneable" (some 0) with
  accessFlags := 1537
  interfaces := #[]
  cf := some (fileOf pool9 2 #[] #[] 1537 4 #[] #[])
  fields := #[]
  methods := #[]
  instanceTypes := #[]
  staticTypes := #[]
  resolved := Array.replicate 8 none
  statics := none }

/-- the primitive byte -/
def k10 : Class := { plain "byte" none with kind := .primitive 'B', accessFlags := 0x411 }
/-- [B -/
def k11 : Class := { plain "[B" (some 0) with kind := .array 10 .byte, interfaces := #[9, 4], accessFlags := 1041 }

/-- the primitive int -/
def k12 : Class := { plain "int" none with kind := .primitive 'I', accessFlags := 0x411 }
/-- [I -/
def k13 : Class := { plain "[I" (some 0) with kind := .array 12 .int, interfaces := #[9, 4], accessFlags := 1041 }

def heap : Heap := #[{ cls := 6, slots := #[.ref 2, .ref 5, .ref 4, .ref 3, .null], vm := .statics 6 },
  { cls := 8, slots := #[], vm := .mirror 6 },
  { cls := 6, slots := #[.null, .int 0, .int 0, .null], vm := .none },
  { cls := 6, slots := #[.null, .int 3, .int 0, .null], vm := .none },
  { cls := 6, slots := #[.null, .int 2, .int 0, .null], vm := .none },
  { cls := 6, slots := #[.null, .int 1, .int 0, .null], vm := .none }]
def classes : Array Class := #[k0, k1, k2, k3, k4, k5, k6, k7, k8, k9, k10, k11, k12, k13]
def interned : List (Array UInt16 × Addr) := []
def slotsUsed : Nat := 21
def theMethod : MethodId := ⟨1, 2⟩
def args0 : Array Value := #[.int 5, .int 6]
def aboutOver (below : List Frame) : State where
  vm := { classes := classes, interned := interned.toArray }
  heap := heap
  slotsUsed := slotsUsed
  threads := #[{ frames := .invoking theMethod args0 :: below }]
def below0 : List Frame := [.native { method := ⟨0, 0⟩, args := #[] }]
def about1 : State := aboutOver below0
def p0 : Program := .bare "" "" ""
def e0 : Env := launch0.env 0 0 0
theorem w_frames : about1.frames = Frame.invoking theMethod args0 :: below0 := rfl
set_option maxRecDepth 65536 in
theorem w_args : argsFit about1.vm theMethod args0 = true := by decide +kernel
set_option maxRecDepth 65536 in
theorem w_heap : heapFits about1 = true := by decide +kernel
set_option maxRecDepth 65536 in
theorem w_runnable : about1.curStatus? = some .runnable := by decide +kernel
set_option maxRecDepth 65536 in
theorem w_alone : about1.alone = true := by decide +kernel
set_option maxRecDepth 65536 in
theorem w_named : about1.methodNamed? x = some theMethod := by decide +kernel
set_option maxRecDepth 65536 in
theorem w_hears : about1.hears theMethod below0 = true := by decide +kernel
set_option maxRecDepth 65536 in
theorem w_ripe : about1.ripe theMethod args0 below0 = true := by decide +kernel
theorem w_running : about1.status = .running := rfl
set_option maxRecDepth 65536 in
theorem w_room : about1.hasRoom e0.platform room_1 = true :=
  launch0.hasRoom_least _ room_1 (by decide +kernel) (by decide +kernel) (by decide +kernel) (by decide +kernel) (by decide +kernel) (by decide +kernel)
theorem allAtoms_all (ts : List Jvm.Cond) (a : Array Jvm.Value) (st : Jvm.State) : (allAtoms ts).before a st = ts.all (fun c => c.before a st) := by
  induction ts with
  | nil => rfl
  | cons c t ih =>
    show (Jvm.Cond.and c (allAtoms t)).before a st = _
    rw [Jvm.Cond.before_and, ih, List.all_cons]
def words1 : List Jvm.Cond := Jvm.Cond.code x code maxLocals ret :: tables_1
/-- a 'code' word, met by the world's own term for the bytes: nothing is compared byte by byte -/
theorem code_word {y : MethodName} {bytes : ByteArray} {mx : Nat} {rt : Option FieldType} {a : Array Value} {s : State} {m : MethodId} {meth : Method} {c : Code} (h1 : s.methodNamed? y = some m) (h2 : s.vm.method? m = some meth) (h3 : meth.code = some c) (h4 : c.code = bytes)
    (h5 : (c.maxLocals == mx && c.exceptionTable.isEmpty && decide (c.maxStack ≤ mostOperands) && decide (meth.sig.returnType = rt) && !meth.locks && decide (parseMethodDescriptor y.desc = some meth.sig)) = true) : (Jvm.Cond.code y bytes mx rt).before a s = true := by
  simp only [Bool.and_eq_true, beq_iff_eq, Bool.not_eq_true', decide_eq_true_eq] at h5
  obtain ⟨⟨⟨⟨⟨g1, g2⟩, g3⟩, g4⟩, g5⟩, g6⟩ := h5
  simp [Cond.before, Cond.holds, Cond.value, h1, h2, h3, h4, g1, g2, g3, g4, g5, g6]
def isCode : Jvm.Cond → Bool
  | .code _ _ _ _ => true
  | _ => false
theorem all_split {L : List Jvm.Cond} {P : Jvm.Cond → Bool} (h1 : L.all (fun c => isCode c || P c) = true) (h2 : ∀ c ∈ L.filter isCode, P c = true) : L.all P = true := by
  refine List.all_eq_true.mpr fun c hc => ?_
  have h := List.all_eq_true.mp h1 c hc
  rcases Bool.eq_false_or_eq_true (isCode c) with hi | hi
  · exact h2 c (List.mem_filter.mpr ⟨hc, hi⟩)
  · simpa [hi] using h
set_option maxRecDepth 65536 in
theorem w_c0 : (Jvm.Cond.code x code maxLocals ret).before args0 about1 = true := code_word (m := ⟨1, 2⟩) (meth := k1m2) (c := k1c2) (by decide +kernel) rfl rfl rfl (by decide +kernel)
set_option maxRecDepth 65536 in
theorem w_c1 : (Jvm.Cond.code ({ cls := "com/example/usher_paths/usherpaths/LevelMaxPinLaw", name := "pick", desc := "(I)Lcom/example/usher_paths/usherpaths/Level;" } : Jvm.MethodName) method_2_code (1 : Nat) (Option.some (Jvm.ClassFile.FieldType.object "com/example/usher_paths/usherpaths/Level"))).before args0 about1 = true := code_word (m := ⟨1, 1⟩) (meth := k1m1) (c := k1c1) (by decide +kernel) rfl rfl rfl (by decide +kernel)
set_option maxRecDepth 65536 in
theorem w_c2 : (Jvm.Cond.code ({ cls := "java/lang/Math", name := "max", desc := "(II)I" } : Jvm.MethodName) jdk_29_method_65_code (2 : Nat) (Option.some Jvm.ClassFile.FieldType.int)).before args0 about1 = true := code_word (m := ⟨7, 1⟩) (meth := k7m1) (c := k7c1) (by decide +kernel) rfl rfl rfl (by decide +kernel)
set_option maxRecDepth 65536 in
theorem w_c3 : (Jvm.Cond.code ({ cls := "com/example/usher_paths/usherpaths/Level", name := "max", desc := "(Lcom/example/usher_paths/usherpaths/Level;)Lcom/example/usher_paths/usherpaths/Level;" } : Jvm.MethodName) prog_7_method_6_code (2 : Nat) (Option.some (Jvm.ClassFile.FieldType.object "com/example/usher_paths/usherpaths/Level"))).before args0 about1 = true := code_word (m := ⟨6, 1⟩) (meth := k6m1) (c := k6c1) (by decide +kernel) rfl rfl rfl (by decide +kernel)
set_option maxRecDepth 65536 in
theorem w_c4 : (Jvm.Cond.code ({ cls := "com/example/usher_paths/usherpaths/Level", name := "atLeast", desc := "(Lcom/example/usher_paths/usherpaths/Level;)Z" } : Jvm.MethodName) prog_7_method_5_code (2 : Nat) (Option.some Jvm.ClassFile.FieldType.boolean)).before args0 about1 = true := code_word (m := ⟨6, 0⟩) (meth := k6m0) (c := k6c0) (by decide +kernel) rfl rfl rfl (by decide +kernel)
set_option maxRecDepth 65536 in
theorem w_c5 : (Jvm.Cond.code ({ cls := "java/lang/Enum", name := "compareTo", desc := "(Ljava/lang/Enum;)I" } : Jvm.MethodName) jdk_37_method_8_code (4 : Nat) (Option.some Jvm.ClassFile.FieldType.int)).before args0 about1 = true := code_word (m := ⟨5, 0⟩) (meth := k5m0) (c := k5c0) (by decide +kernel) rfl rfl rfl (by decide +kernel)
def codes1 : List Jvm.Cond := [Jvm.Cond.code x code maxLocals ret, Jvm.Cond.code ({ cls := "com/example/usher_paths/usherpaths/LevelMaxPinLaw", name := "pick", desc := "(I)Lcom/example/usher_paths/usherpaths/Level;" } : Jvm.MethodName) method_2_code (1 : Nat) (Option.some (Jvm.ClassFile.FieldType.object "com/example/usher_paths/usherpaths/Level")), Jvm.Cond.code ({ cls := "java/lang/Math", name := "max", desc := "(II)I" } : Jvm.MethodName) jdk_29_method_65_code (2 : Nat) (Option.some Jvm.ClassFile.FieldType.int), Jvm.Cond.code ({ cls := "com/example/usher_paths/usherpaths/Level", name := "max", desc := "(Lcom/example/usher_paths/usherpaths/Level;)Lcom/example/usher_paths/usherpaths/Level;" } : Jvm.MethodName) prog_7_method_6_code (2 : Nat) (Option.some (Jvm.ClassFile.FieldType.object "com/example/usher_paths/usherpaths/Level")), Jvm.Cond.code ({ cls := "com/example/usher_paths/usherpaths/Level", name := "atLeast", desc := "(Lcom/example/usher_paths/usherpaths/Level;)Z" } : Jvm.MethodName) prog_7_method_5_code (2 : Nat) (Option.some Jvm.ClassFile.FieldType.boolean), Jvm.Cond.code ({ cls := "java/lang/Enum", name := "compareTo", desc := "(Ljava/lang/Enum;)I" } : Jvm.MethodName) jdk_37_method_8_code (4 : Nat) (Option.some Jvm.ClassFile.FieldType.int)]
set_option maxRecDepth 65536 in
theorem codes_eq : words1.filter isCode = codes1 := rfl
theorem w_codes : ∀ c ∈ words1.filter isCode, c.before args0 about1 = true := by
  rw [codes_eq]
  intro c hc
  simp only [codes1, List.mem_cons, List.not_mem_nil, or_false] at hc
  rcases hc with rfl | rfl | rfl | rfl | rfl | rfl
  · exact w_c0
  · exact w_c1
  · exact w_c2
  · exact w_c3
  · exact w_c4
  · exact w_c5
set_option maxRecDepth 65536 in
theorem w_t1 : (words1.take 24).all (fun c => isCode c || c.before args0 about1) = true := by decide +kernel
set_option maxRecDepth 65536 in
theorem w_t2 : (words1.drop 24).all (fun c => isCode c || c.before args0 about1) = true := by decide +kernel
theorem w_tables : (allAtoms (Jvm.Cond.code x code maxLocals ret :: tables_1)).before args0 about1 = true := by
  rw [allAtoms_all]
  show words1.all (fun c => c.before args0 about1) = true
  refine all_split ?_ w_codes
  rw [← List.take_append_drop 24 words1, List.all_append, w_t1, w_t2]
  rfl
set_option maxRecDepth 65536 in
theorem w_case : (Jvm.Cond.and given_1 narrow_1).before args0 about1 = true := by decide +kernel
theorem w_applies : (headSpec (Jvm.Cond.code x code maxLocals ret :: tables_1) room_1).applies x e0.platform about1 = true :=
  (Spec.applies_iff w_frames).mpr ⟨w_running, w_runnable, w_alone, w_named, w_hears, w_ripe, w_room, w_tables⟩
theorem atStart : AtStart classFile x code maxLocals ret World_1 tables_1 room_1 Calls_1 rest_1 Pre_1 launch0 p0 e0 about1 theMethod args0 below0 :=
  ⟨lists_1, trivial, launch0.admits_env _ _ _, launch0.least_env, fairChoices_fair.cas, fairChoices_fair.clock, w_frames, w_args, w_heap, w_applies, ⟨⟨6, k6, 1, by decide +kernel, rfl, rfl, _, rfl, rfl⟩, trivial⟩, trivial, w_case⟩
end start1
theorem witness_1 : WitnessClaimed_1 := ⟨start1.p0, start1.e0, start1.about1, start1.theMethod, start1.args0, start1.below0, start1.atStart⟩
end Jvm.Pilot.@@N@@
