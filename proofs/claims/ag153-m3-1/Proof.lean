import JvmDerived
import JvmDerived.Pilot.@@N@@Statement
import JvmDerived.Pilot.@@N@@Code
set_option linter.unusedVariables false
set_option linter.unusedSimpArgs false
namespace Jvm.Pilot.@@N@@
open Jvm Jvm.ClassFile Sem Op Lib Jvm.Free Jvm.Stand Jvm.LawKit Jvm.RoadKit Bundle Jvm.Pilot.@@N@@.Jvm.D

set_option maxRecDepth 65536
set_option maxHeartbeats 40000000
abbrev HW (a0 : Array Value) (Z : State) : Prop := ∀ d ∈ tables_1, d.before a0 Z = true
abbrev yb (c : Int32) : Value := .int (c.toInt8.toInt32)
abbrev mkR (a b c d : Nat) : Room := { frames := a, cells := b, slots := c, locals := d }
theorem own_w {a b : Nat} (h : 2 * 0 + a = b) : 2 * 0 + a ≤ b := Nat.le_of_eq h
abbrev ci (x : Int32) : Slot := .val (.int x)
abbrev cj (x : Int64) : Slot := .val (.long x)
abbrev cr (x : Addr) : Slot := .val (.ref x)
abbrev cs : Slot := .second
abbrev cu : Slot := .unset
abbrev cST : String := "java/lang/String"
abbrev ym0 : MethodName := ⟨"com/example/wakeline/wakeline/format/shareplex/SharePlexMessageDatabasePinLaw", "ch", "(I)C"⟩
abbrev ym1 : MethodName := ⟨"jdk/internal/util/Preconditions", "checkIndex", "(IILjava/util/function/BiFunction;)I"⟩
abbrev ym2 : MethodName := ⟨"java/lang/String", "checkIndex", "(II)V"⟩
abbrev ym3 : MethodName := ⟨"jdk/internal/util/Preconditions", "checkFromToIndex", "(IIILjava/util/function/BiFunction;)I"⟩
abbrev ym4 : MethodName := ⟨"java/lang/String", "checkBoundsBeginEnd", "(III)V"⟩
abbrev ym5 : MethodName := ⟨"java/lang/StringLatin1", "canEncode", "(I)Z"⟩
abbrev ym6 : MethodName := ⟨"java/lang/Math", "max", "(II)I"⟩
abbrev ym7 : MethodName := ⟨"java/lang/Math", "min", "(II)I"⟩
abbrev ym8 : MethodName := ⟨"java/lang/StringLatin1", "indexOf", "([BIII)I"⟩
abbrev ym9 : MethodName := ⟨"java/lang/String", "isLatin1", "()Z"⟩
abbrev ym10 : MethodName := ⟨"java/lang/String", "coder", "()B"⟩
abbrev ym11 : MethodName := ⟨"java/lang/String", "length", "()I"⟩
abbrev ym12 : MethodName := ⟨"java/lang/String", "indexOf", "(II)I"⟩
abbrev ym13 : MethodName := ⟨"java/lang/String", "indexOf", "(I)I"⟩
abbrev ym14 : MethodName := ⟨"java/lang/StringLatin1", "indexOfChar", "([BIII)I"⟩
abbrev ym15 : MethodName := ⟨"java/lang/String", "<init>", "([CIILjava/lang/Void;)V"⟩
abbrev ym16 : MethodName := ⟨"java/lang/String", "<init>", "([C)V"⟩
abbrev ym17 : MethodName := ⟨"com/example/wakeline/wakeline/format/shareplex/SharePlexMessageDatabasePinLaw", "make", "([CI)Ljava/lang/String;"⟩
abbrev ym18 : MethodName := ⟨"com/example/wakeline/wakeline/format/shareplex/SharePlexMessage", "database", "(Ljava/lang/String;)Ljava/lang/String;"⟩
abbrev ym19 : MethodName := ⟨"java/lang/StringUTF16", "compress", "([CI[BII)I"⟩
abbrev ym20 : MethodName := ⟨"java/lang/StringUTF16", "compress", "([CII)[B"⟩
abbrev ym21 : MethodName := ⟨"java/lang/StringUTF16", "coderFromArrayLen", "([BI)B"⟩
abbrev ym22 : MethodName := ⟨"java/lang/StringLatin1", "newString", "([BII)Ljava/lang/String;"⟩
abbrev ym23 : MethodName := ⟨"java/lang/String", "substring", "(II)Ljava/lang/String;"⟩
abbrev ym24 : MethodName := ⟨"java/util/Arrays", "checkLength", "(II)V"⟩
abbrev ym25 : MethodName := ⟨"java/util/Arrays", "copyOfRangeByte", "([BII)[B"⟩
abbrev ym26 : MethodName := ⟨"java/util/Arrays", "copyOfRange", "([BII)[B"⟩
abbrev ym27 : MethodName := ⟨"java/lang/String", "<init>", "([BB)V"⟩
abbrev ym28 : MethodName := ⟨"java/lang/StringLatin1", "charAt", "([BI)C"⟩
abbrev ym29 : MethodName := ⟨"java/lang/String", "charAt", "(I)C"⟩
section OwnEnds
variable {p : Program} {l : Launch} {e : Env} {R : Room} {s : State} {m : MethodId} {args : Array Value} {below : List Frame} {meth : Method} {c : Code} {T : State} {locs : List Loc} {cells slots : Nat}
/-- from here the body comes to its end, returns, and leaves what Q says -/
def Ends (p : Program) (e : Env) (below : List Frame) (s T : State) (g : JFrame) (kc ks : Nat) (Q : Option Value → Heap → List Loc → Prop) : Prop :=
 ∃ s₂ o, Steps p.tables e below (T.setTop g) s₂ ∧ s₂.status = .running ∧ Ended s₂ below o ∧ ∃ v L, o = .returned v ∧ Q v s₂.heap L ∧ FrameEnd s o s₂ L kc ks
theorem Ends.go {T' : State} {g g' : JFrame} {kc ks : Nat} {Q : Option Value → Heap → List Loc → Prop} (h : ∀ target, Steps p.tables e below (T'.setTop g') target → Steps p.tables e below (T.setTop g) target) (k : Ends p e below s T' g' kc ks Q) : Ends p e below s T g kc ks Q := by
 obtain ⟨s₂, o, h1, h2⟩ := k
 exact ⟨s₂, o, h _ h1, h2⟩
theorem Ends.ret (X : Stand p l e R s m args below meth c T locs cells slots) (hx : p.tables.exec = Jvm.exec) (hlocks : meth.locks = false) {pc : Nat} {Ls : Array Slot} {w : Value} {t : FieldType} {i : Instr} {rest : List Value} (hret : meth.sig.returnType = some t) (hn : narrow t w = w)
  (hi : (i = .ireturn ∧ (t = .int ∨ t = .boolean ∨ t = .byte ∨ t = .char ∨ t = .short) ∧ ∃ z, w = .int z) ∨ (i = .lreturn ∧ t = .long ∧ ∃ z, w = .long z) ∨ (i = .dreturn ∧ t = .double ∧ ∃ z, w = .double z) ∨ (i = .freturn ∧ t = .float ∧ ∃ z, w = .float z) ∨ (i = .areturn ∧ t.isReference = true ∧ w.isRef = true))
  (hd : decode c.code pc = .ok (i, 1)) {kc ks : Nat} {Q : Option Value → Heap → List Loc → Prop} (hc : cells ≤ kc) (hs : slots ≤ ks) (hq : Q (some w) T.heap locs) : Ends p e below s T (mkF m pc Ls (w :: rest)) kc ks Q := by
 obtain ⟨fs, hr, hrun, hended, hW, hsame⟩ := X.leave (v := some w) (fun h => by rw [hret] at h; cases h) hlocks
 exact ⟨_, _, retOut X hx hret hn hi hd hr, hrun, hended, _, _, rfl, hq, ⟨_, rfl⟩, hW, hsame.mono hc hs⟩
theorem Ends.retZ (X : Stand p l e R s m args below meth c T locs cells slots) (hx : p.tables.exec = Jvm.exec) (hlocks : meth.locks = false) {pc : Nat} {Ls : Array Slot} {z : Int32} {t : FieldType} {rest : List Value} (hret : meth.sig.returnType = some t) (ht : t = .boolean ∨ t = .byte ∨ t = .char ∨ t = .short)
  (hd : decode c.code pc = .ok (.ireturn, 1)) {kc ks : Nat} {Q : Option Value → Heap → List Loc → Prop} (hc : cells ≤ kc) (hs : slots ≤ ks) (hq : Q (some (.int (nar t z))) T.heap locs) : Ends p e below s T (mkF m pc Ls (.int z :: rest)) kc ks Q := by
 obtain ⟨fs, hr, hrun, hended, hW, hsame⟩ := X.leave (v := some (.int (nar t z))) (fun h => by rw [hret] at h; cases h) hlocks
 exact ⟨_, _, retN X hx hret ht hd hr, hrun, hended, _, _, rfl, hq, ⟨_, rfl⟩, hW, hsame.mono hc hs⟩
theorem Ends.retV (X : Stand p l e R s m args below meth c T locs cells slots) (hx : p.tables.exec = Jvm.exec) (hlocks : meth.locks = false) {pc : Nat} {Ls : Array Slot} (hret : meth.sig.returnType = none)
  (hd : decode c.code pc = .ok (.return_, 1)) {kc ks : Nat} {Q : Option Value → Heap → List Loc → Prop} (hc : cells ≤ kc) (hs : slots ≤ ks) (hq : Q none T.heap locs) : Ends p e below s T (mkF m pc Ls []) kc ks Q := by
 obtain ⟨fs, hr, hrun, hended, hW, hsame⟩ := X.leave (v := none) (fun _ => rfl) hlocks
 exact ⟨_, _, X.returnOut hx hret hd hr, hrun, hended, _, _, rfl, hq, ⟨_, rfl⟩, hW, hsame.mono hc hs⟩
theorem own_mono (X : Stand p l e R s m args below meth c T locs cells slots) {kc ks : Nat} (hc : cells ≤ kc) (hs : slots ≤ ks) : Stand p l e R s m args below meth c T locs kc ks := { X with same := X.same.mono hc hs }
theorem wil {kc ks : Nat} {Q : Option Value → Heap → List Loc → Prop} {pc : Nat} {L : Array Slot} {S : List Value} {B : ByteArray} {k : Nat} {v : Int32} (X : Stand p l e R s m args below meth c T locs cells slots) (hx : p.tables.exec = Jvm.exec) (hby : c.code = B) (hd : decode B pc = .ok (.iload k, 2)) (hl : L[k]? = some (.val (.int v))) (q : Ends p e below s T (mkF m (pc + 2) L (.int v :: S)) kc ks Q) : Ends p e below s T (mkF m pc L S) kc ks Q := Ends.go (fun _ k => XS.iload X.here hx rfl (hb hby hd) hl k) q
theorem wilN {kc ks : Nat} {Q : Option Value → Heap → List Loc → Prop} {pc : Nat} {L : Array Slot} {S : List Value} {B : ByteArray} {k : Fin 4} {v : Int32} (X : Stand p l e R s m args below meth c T locs cells slots) (hx : p.tables.exec = Jvm.exec) (hby : c.code = B) (hd : decode B pc = .ok (.iload_n k, 1)) (hl : L[k.val]? = some (.val (.int v))) (q : Ends p e below s T (mkF m (pc + 1) L (.int v :: S)) kc ks Q) : Ends p e below s T (mkF m pc L S) kc ks Q := Ends.go (fun _ k => XS.iloadN X.here hx rfl (hb hby hd) hl k) q
theorem wal {kc ks : Nat} {Q : Option Value → Heap → List Loc → Prop} {pc : Nat} {L : Array Slot} {S : List Value} {B : ByteArray} {k : Nat} {v : Value} (X : Stand p l e R s m args below meth c T locs cells slots) (hx : p.tables.exec = Jvm.exec) (hby : c.code = B) (hd : decode B pc = .ok (.aload k, 2)) (hl : L[k]? = some (.val v)) (hv : v.isRef = true) (q : Ends p e below s T (mkF m (pc + 2) L (v :: S)) kc ks Q) : Ends p e below s T (mkF m pc L S) kc ks Q := Ends.go (fun _ k => XS.aload X.here hx rfl (hb hby hd) hl hv k) q
theorem walN {kc ks : Nat} {Q : Option Value → Heap → List Loc → Prop} {pc : Nat} {L : Array Slot} {S : List Value} {B : ByteArray} {k : Fin 4} {v : Value} (X : Stand p l e R s m args below meth c T locs cells slots) (hx : p.tables.exec = Jvm.exec) (hby : c.code = B) (hd : decode B pc = .ok (.aload_n k, 1)) (hl : L[k.val]? = some (.val v)) (hv : v.isRef = true) (q : Ends p e below s T (mkF m (pc + 1) L (v :: S)) kc ks Q) : Ends p e below s T (mkF m pc L S) kc ks Q := Ends.go (fun _ k => XS.aloadN X.here hx rfl (hb hby hd) hl hv k) q
theorem wic {kc ks : Nat} {Q : Option Value → Heap → List Loc → Prop} {pc : Nat} {L : Array Slot} {S : List Value} {B : ByteArray} {i : Int} (X : Stand p l e R s m args below meth c T locs cells slots) (hx : p.tables.exec = Jvm.exec) (hby : c.code = B) (hd : decode B pc = .ok (.iconst i, 1)) (q : Ends p e below s T (mkF m (pc + 1) L (.int (Int32.ofInt i) :: S)) kc ks Q) : Ends p e below s T (mkF m pc L S) kc ks Q := Ends.go (fun _ k => XS.iconst X.here hx rfl (hb hby hd)  k) q
theorem wbp {kc ks : Nat} {Q : Option Value → Heap → List Loc → Prop} {pc : Nat} {L : Array Slot} {S : List Value} {B : ByteArray} {i : Int} (X : Stand p l e R s m args below meth c T locs cells slots) (hx : p.tables.exec = Jvm.exec) (hby : c.code = B) (hd : decode B pc = .ok (.bipush i, 2)) (q : Ends p e below s T (mkF m (pc + 2) L (.int (Int8.ofInt i).toInt32 :: S)) kc ks Q) : Ends p e below s T (mkF m pc L S) kc ks Q := Ends.go (fun _ k => XS.bipush X.here hx rfl (hb hby hd)  k) q
theorem wsp {kc ks : Nat} {Q : Option Value → Heap → List Loc → Prop} {pc : Nat} {L : Array Slot} {S : List Value} {B : ByteArray} {i : Int} (X : Stand p l e R s m args below meth c T locs cells slots) (hx : p.tables.exec = Jvm.exec) (hby : c.code = B) (hd : decode B pc = .ok (.sipush i, 3)) (q : Ends p e below s T (mkF m (pc + 3) L (.int (Int16.ofInt i).toInt32 :: S)) kc ks Q) : Ends p e below s T (mkF m pc L S) kc ks Q := Ends.go (fun _ k => XS.sipush X.here hx rfl (hb hby hd)  k) q
theorem wia {kc ks : Nat} {Q : Option Value → Heap → List Loc → Prop} {pc : Nat} {L : Array Slot} {S : List Value} {B : ByteArray} {x y : Int32} (X : Stand p l e R s m args below meth c T locs cells slots) (hx : p.tables.exec = Jvm.exec) (hby : c.code = B) (hd : decode B pc = .ok (.iadd, 1)) (q : Ends p e below s T (mkF m (pc + 1) L (.int (x + y) :: S)) kc ks Q) : Ends p e below s T (mkF m pc L (.int y :: .int x :: S)) kc ks Q := Ends.go (fun _ k => XS.iadd X.here hx rfl (hb hby hd) rfl k) q
theorem wis {kc ks : Nat} {Q : Option Value → Heap → List Loc → Prop} {pc : Nat} {L : Array Slot} {S : List Value} {B : ByteArray} {x y : Int32} (X : Stand p l e R s m args below meth c T locs cells slots) (hx : p.tables.exec = Jvm.exec) (hby : c.code = B) (hd : decode B pc = .ok (.isub, 1)) (q : Ends p e below s T (mkF m (pc + 1) L (.int (x - y) :: S)) kc ks Q) : Ends p e below s T (mkF m pc L (.int y :: .int x :: S)) kc ks Q := Ends.go (fun _ k => XS.isub X.here hx rfl (hb hby hd) rfl k) q
theorem wst {kc ks : Nat} {Q : Option Value → Heap → List Loc → Prop} {pc : Nat} {L : Array Slot} {S : List Value} {B : ByteArray} {k : Nat} {x : Int32} {l' : Array Slot} (X : Stand p l e R s m args below meth c T locs cells slots) (hx : p.tables.exec = Jvm.exec) (hby : c.code = B) (hd : decode B pc = .ok (.istore k, 2)) (hl : storeLocals L k (.int x) = some l') (q : Ends p e below s T (mkF m (pc + 2) l' S) kc ks Q) : Ends p e below s T (mkF m pc L (.int x :: S)) kc ks Q := Ends.go (fun _ k => XS.istore X.here hx rfl (hb hby hd) rfl hl k) q
theorem wstN {kc ks : Nat} {Q : Option Value → Heap → List Loc → Prop} {pc : Nat} {L : Array Slot} {S : List Value} {B : ByteArray} {k : Fin 4} {x : Int32} {l' : Array Slot} (X : Stand p l e R s m args below meth c T locs cells slots) (hx : p.tables.exec = Jvm.exec) (hby : c.code = B) (hd : decode B pc = .ok (.istore_n k, 1)) (hl : storeLocals L k.val (.int x) = some l') (q : Ends p e below s T (mkF m (pc + 1) l' S) kc ks Q) : Ends p e below s T (mkF m pc L (.int x :: S)) kc ks Q := Ends.go (fun _ k => XS.istoreN X.here hx rfl (hb hby hd) rfl hl k) q
theorem was {kc ks : Nat} {Q : Option Value → Heap → List Loc → Prop} {pc : Nat} {L : Array Slot} {S : List Value} {B : ByteArray} {k : Nat} {x : Value} {l' : Array Slot} (X : Stand p l e R s m args below meth c T locs cells slots) (hx : p.tables.exec = Jvm.exec) (hby : c.code = B) (hd : decode B pc = .ok (.astore k, 2)) (hv : x.isRef = true) (hl : storeLocals L k x = some l') (q : Ends p e below s T (mkF m (pc + 2) l' S) kc ks Q) : Ends p e below s T (mkF m pc L (x :: S)) kc ks Q := Ends.go (fun _ k => XS.astore X.here hx rfl (hb hby hd) rfl hv hl k) q
theorem wasN {kc ks : Nat} {Q : Option Value → Heap → List Loc → Prop} {pc : Nat} {L : Array Slot} {S : List Value} {B : ByteArray} {k : Fin 4} {x : Value} {l' : Array Slot} (X : Stand p l e R s m args below meth c T locs cells slots) (hx : p.tables.exec = Jvm.exec) (hby : c.code = B) (hd : decode B pc = .ok (.astore_n k, 1)) (hv : x.isRef = true) (hl : storeLocals L k.val x = some l') (q : Ends p e below s T (mkF m (pc + 1) l' S) kc ks Q) : Ends p e below s T (mkF m pc L (x :: S)) kc ks Q := Ends.go (fun _ k => XS.astoreN X.here hx rfl (hb hby hd) rfl hv hl k) q
theorem wii {kc ks : Nat} {Q : Option Value → Heap → List Loc → Prop} {pc : Nat} {L : Array Slot} {S : List Value} {B : ByteArray} {k : Nat} {cst : Int} {x : Int32} {l' : Array Slot} (X : Stand p l e R s m args below meth c T locs cells slots) (hx : p.tables.exec = Jvm.exec) (hby : c.code = B) (hd : decode B pc = .ok (.iinc k cst, 3)) (hl : L[k]? = some (.val (.int x))) (hl' : storeLocals L k (.int (x + Int32.ofInt cst)) = some l') (q : Ends p e below s T (mkF m (pc + 3) l' S) kc ks Q) : Ends p e below s T (mkF m pc L S) kc ks Q := Ends.go (fun _ k => XS.iinc X.here hx rfl (hb hby hd) hl hl' k) q
theorem wgo {kc ks : Nat} {Q : Option Value → Heap → List Loc → Prop} {pc : Nat} {L : Array Slot} {S : List Value} {B : ByteArray} {o : Int} {pc' : Nat} (X : Stand p l e R s m args below meth c T locs cells slots) (hx : p.tables.exec = Jvm.exec) (hby : c.code = B) (hd : decode B pc = .ok (.goto o, 3)) (q : Ends p e below s T (mkF m pc' L S) kc ks Q) (ho : 0 ≤ (pc : Int) + o := by decide) (hp : ((pc : Int) + o).toNat = pc' := by decide) : Ends p e below s T (mkF m pc L S) kc ks Q := Ends.go (fun _ k => XS.goto X.here hx rfl rfl (hb hby hd) ho hp k) q
theorem wcy {kc ks : Nat} {Q : Option Value → Heap → List Loc → Prop} {pc : Nat} {L : Array Slot} {S : List Value} {B : ByteArray} {cd : ClassFile.Cond} {x y : Int32} {o : Int} {pc' : Nat} (X : Stand p l e R s m args below meth c T locs cells slots) (hx : p.tables.exec = Jvm.exec) (hby : c.code = B) (hd : decode B pc = .ok (.if_icmp cd o, 3)) (hc : if_icmp.holds cd x y = true) (q : Ends p e below s T (mkF m pc' L S) kc ks Q) (ho : 0 ≤ (pc : Int) + o := by decide) (hp : ((pc : Int) + o).toNat = pc' := by decide) : Ends p e below s T (mkF m pc L (.int y :: .int x :: S)) kc ks Q := Ends.go (fun _ k => XS.icmpYes X.here hx rfl rfl (hb hby hd) rfl hc ho hp k) q
theorem wcn {kc ks : Nat} {Q : Option Value → Heap → List Loc → Prop} {pc : Nat} {L : Array Slot} {S : List Value} {B : ByteArray} {cd : ClassFile.Cond} {x y : Int32} {o : Int} (X : Stand p l e R s m args below meth c T locs cells slots) (hx : p.tables.exec = Jvm.exec) (hby : c.code = B) (hd : decode B pc = .ok (.if_icmp cd o, 3)) (hc : if_icmp.holds cd x y = false) (q : Ends p e below s T (mkF m (pc + 3) L S) kc ks Q) : Ends p e below s T (mkF m pc L (.int y :: .int x :: S)) kc ks Q := Ends.go (fun _ k => XS.icmpNo X.here hx rfl (hb hby hd) rfl hc k) q
theorem wiy {kc ks : Nat} {Q : Option Value → Heap → List Loc → Prop} {pc : Nat} {L : Array Slot} {S : List Value} {B : ByteArray} {cd : ClassFile.Cond} {x : Int32} {o : Int} {pc' : Nat} (X : Stand p l e R s m args below meth c T locs cells slots) (hx : p.tables.exec = Jvm.exec) (hby : c.code = B) (hd : decode B pc = .ok (.ifCond cd o, 3)) (hc : ifCond.holds cd x = true) (q : Ends p e below s T (mkF m pc' L S) kc ks Q) (ho : 0 ≤ (pc : Int) + o := by decide) (hp : ((pc : Int) + o).toNat = pc' := by decide) : Ends p e below s T (mkF m pc L (.int x :: S)) kc ks Q := Ends.go (fun _ k => XS.ifYes X.here hx rfl rfl (hb hby hd) rfl hc ho hp k) q
theorem win {kc ks : Nat} {Q : Option Value → Heap → List Loc → Prop} {pc : Nat} {L : Array Slot} {S : List Value} {B : ByteArray} {cd : ClassFile.Cond} {x : Int32} {o : Int} (X : Stand p l e R s m args below meth c T locs cells slots) (hx : p.tables.exec = Jvm.exec) (hby : c.code = B) (hd : decode B pc = .ok (.ifCond cd o, 3)) (hc : ifCond.holds cd x = false) (q : Ends p e below s T (mkF m (pc + 3) L S) kc ks Q) : Ends p e below s T (mkF m pc L (.int x :: S)) kc ks Q := Ends.go (fun _ k => XS.ifNo X.here hx rfl (hb hby hd) rfl hc k) q
theorem wan {kc ks : Nat} {Q : Option Value → Heap → List Loc → Prop} {pc : Nat} {L : Array Slot} {S : List Value} {B : ByteArray} {x y : Int32} (X : Stand p l e R s m args below meth c T locs cells slots) (hx : p.tables.exec = Jvm.exec) (hby : c.code = B) (hd : decode B pc = .ok (.iand, 1)) (q : Ends p e below s T (mkF m (pc + 1) L (.int (x &&& y) :: S)) kc ks Q) : Ends p e below s T (mkF m pc L (.int y :: .int x :: S)) kc ks Q := Ends.go (fun _ k => XS.iand X.here hx rfl (hb hby hd) rfl k) q
theorem wdu {kc ks : Nat} {Q : Option Value → Heap → List Loc → Prop} {pc : Nat} {L : Array Slot} {S : List Value} {B : ByteArray} {x : Value} (X : Stand p l e R s m args below meth c T locs cells slots) (hx : p.tables.exec = Jvm.exec) (hby : c.code = B) (hd : decode B pc = .ok (.dup, 1)) (hv : x.category = 1) (q : Ends p e below s T (mkF m (pc + 1) L (x :: x :: S)) kc ks Q) : Ends p e below s T (mkF m pc L (x :: S)) kc ks Q := Ends.go (fun _ k => XS.dup X.here hx rfl (hb hby hd) rfl hv k) q
end OwnEnds
abbrev Meets1 (l : Launch) (y : MethodName) (bytes : ByteArray) (ml : Nat) (rt : Option FieldType) (ws : List Jvm.Cond) (rm : Room) (av : Array Value) (Z : State) (h0 : Heap) (Q : Option Value → Heap → List Loc → Prop) : Prop :=
 MetFree l y (head1 (Jvm.Cond.code y bytes ml rt :: ws) rm) (fun a U => a = av ∧ Z.Warmed39 U.vm ∧ U.heap = h0) (fun _ _ _ _ _ => True) (fun _ U o U' => ∃ v L, o = .returned v ∧ Q v U'.heap L ∧ FrameEnd U o U' L rm.cells rm.slots)
theorem own_backOf {p : Program} {l : Launch} {e : Env} {R : Room} {s : State} {args : Array Value} {below : List Frame} {Z : State} {a0 : Array Value} {h : Heap} {y : MethodName} {bytes : ByteArray} {maxL : Nat} {ret : Option FieldType} {rm : Room} {len W : Nat} {as' : Array Value} {Q : Option Value → Heap → List Loc → Prop}
  (hM : Meets1 l y bytes maxL ret [] rm as' Z h Q) (hZ : Z.Warmed39 s.vm) (wc : (Jvm.Cond.code y bytes maxL ret).before a0 Z = true) (wz : (Jvm.Cond.initialized y.cls).before a0 Z = true) (hf : rm.frames + 1 ≤ R.frames) (hl : W + (maxL + 11) + rm.locals ≤ R.locals) :
  Back l R p e below s args y len W (fun A a => a = as' ∧ A.U.heap = h ∧ A.cells + rm.cells ≤ R.cells ∧ A.slots + rm.slots ≤ R.slots)
   (fun A _ v B => ∃ L, Q v B.U.heap L ∧ B.locs = A.locs ++ L ∧ B.cells = A.cells + rm.cells ∧ B.slots = A.slots + rm.slots) := backOf (Q := Q) hM hZ wc wz hf hl
theorem ow {Z : State} {a0 : Array Value} (hw : HW a0 Z) {d : Jvm.Cond} (i : Nat) (h : tables_1[i]? = some d) : d.before a0 Z = true := hw d (List.mem_of_getElem? h)
theorem ov {Z s : State} {a0 args : Array Value} (hZ : Z.Warmed39 s.vm) (hw : HW a0 Z) {d : Jvm.Cond} (i : Nat) (h : tables_1[i]? = some d) (hd : (d.onTables && d.keepsFace) = true := by first | rfl | simp [Cond.onTables, Cond.keepsFace, Cond.keeps, Cond.steady]) : d.before args s = true := mvT hZ (ow hw i h) hd
theorem own_old_le {Z : State} {n0 : Nat} {h : Heap} (O : Old Z n0 h) : n0 ≤ h.size := O.1 ▸ O.2.1
section OwnEndsW
variable {p : Program} {l : Launch} {e : Env} {R : Room} {s : State} {vm : Vm} {m : MethodId} {args : Array Value} {below : List Frame} {meth : Method} {c : Code} {T : State} {locs : List Loc} {cells slots : Nat}
/-- as Ends, for a body that may load a String constant -/
def EndsW (p : Program) (e : Env) (below : List Frame) (s T : State) (g : JFrame) (kc ks : Nat) (Q : Option Value → Heap → List Loc → Prop) : Prop :=
 ∃ s₂ o, Steps p.tables e below (T.setTop g) s₂ ∧ s₂.status = .running ∧ Ended s₂ below o ∧ ∃ v L, o = .returned v ∧ Q v s₂.heap L ∧ ReturnedEndW s o s₂ L kc ks
theorem EndsW.go {T' : State} {g g' : JFrame} {kc ks : Nat} {Q : Option Value → Heap → List Loc → Prop} (h : ∀ target, Steps p.tables e below (T'.setTop g') target → Steps p.tables e below (T.setTop g) target) (k : EndsW p e below s T' g' kc ks Q) : EndsW p e below s T g kc ks Q := by
 obtain ⟨s₂, o, h1, h2⟩ := k
 exact ⟨s₂, o, h _ h1, h2⟩
theorem own_wmono {o : Outcome} {t : State} {L : List Loc} {k n kc ks : Nat} (h : ReturnedEndW s o t L k n) (hc : k ≤ kc) (hs : n ≤ ks) : ReturnedEndW s o t L kc ks := ⟨h.1, h.2.1, h.2.2.1, h.2.2.2.mono hc hs⟩
theorem EndsW.ret (X : Stand p l e R (s.setVm vm) m args below meth c T locs cells slots) (hx : p.tables.exec = Jvm.exec) {kk : Nat} (hS : s.Since vm kk) (hk : kk ≤ T.heap.size) (hlocks : meth.locks = false) {pc : Nat} {Ls : Array Slot} {w : Value} {t : FieldType} {i : Instr} {rest : List Value} (hret : meth.sig.returnType = some t) (hn : narrow t w = w)
  (hi : (i = .ireturn ∧ (t = .int ∨ t = .boolean ∨ t = .byte ∨ t = .char ∨ t = .short) ∧ ∃ z, w = .int z) ∨ (i = .lreturn ∧ t = .long ∧ ∃ z, w = .long z) ∨ (i = .dreturn ∧ t = .double ∧ ∃ z, w = .double z) ∨ (i = .freturn ∧ t = .float ∧ ∃ z, w = .float z) ∨ (i = .areturn ∧ t.isReference = true ∧ w.isRef = true))
  (hd : decode c.code pc = .ok (i, 1)) {kc ks : Nat} {Q : Option Value → Heap → List Loc → Prop} (hc : cells ≤ kc) (hs : slots ≤ ks) (hq : Q (some w) T.heap locs) : EndsW p e below s T (mkF m pc Ls (w :: rest)) kc ks Q := by
 obtain ⟨fs, hr, hrun, hended, hW⟩ := X.leaveW hS hk (v := some w) (fun h => by rw [hret] at h; cases h) hlocks
 exact ⟨_, _, retOut X hx hret hn hi hd hr, hrun, hended, _, _, rfl, hq, own_wmono hW hc hs⟩
theorem EndsW.retZ (X : Stand p l e R (s.setVm vm) m args below meth c T locs cells slots) (hx : p.tables.exec = Jvm.exec) {kk : Nat} (hS : s.Since vm kk) (hk : kk ≤ T.heap.size) (hlocks : meth.locks = false) {pc : Nat} {Ls : Array Slot} {z : Int32} {t : FieldType} {rest : List Value} (hret : meth.sig.returnType = some t) (ht : t = .boolean ∨ t = .byte ∨ t = .char ∨ t = .short)
  (hd : decode c.code pc = .ok (.ireturn, 1)) {kc ks : Nat} {Q : Option Value → Heap → List Loc → Prop} (hc : cells ≤ kc) (hs : slots ≤ ks) (hq : Q (some (.int (nar t z))) T.heap locs) : EndsW p e below s T (mkF m pc Ls (.int z :: rest)) kc ks Q := by
 obtain ⟨fs, hr, hrun, hended, hW⟩ := X.leaveW hS hk (v := some (.int (nar t z))) (fun h => by rw [hret] at h; cases h) hlocks
 exact ⟨_, _, retN X hx hret ht hd hr, hrun, hended, _, _, rfl, hq, own_wmono hW hc hs⟩
theorem EndsW.retV (X : Stand p l e R (s.setVm vm) m args below meth c T locs cells slots) (hx : p.tables.exec = Jvm.exec) {kk : Nat} (hS : s.Since vm kk) (hk : kk ≤ T.heap.size) (hlocks : meth.locks = false) {pc : Nat} {Ls : Array Slot} (hret : meth.sig.returnType = none)
  (hd : decode c.code pc = .ok (.return_, 1)) {kc ks : Nat} {Q : Option Value → Heap → List Loc → Prop} (hc : cells ≤ kc) (hs : slots ≤ ks) (hq : Q none T.heap locs) : EndsW p e below s T (mkF m pc Ls []) kc ks Q := by
 obtain ⟨fs, hr, hrun, hended, hW⟩ := X.leaveW hS hk (v := none) (fun _ => rfl) hlocks
 exact ⟨_, _, X.returnOut hx hret hd hr, hrun, hended, _, _, rfl, hq, own_wmono hW hc hs⟩
theorem own_since0 (s : State) : s.Since s.vm s.heap.size := ⟨State.Warmed39.refl s, fun j q h1 h2 => absurd h2 (by rw [Array.getElem?_eq_none h1]; simp)⟩
theorem own_wrsz {h h' : Heap} {a : Addr} {sl : Nat} {v : Value} (W : Wr h h' a sl v) : h.size ≤ h'.size := by obtain ⟨c0, -, -, -, rfl⟩ := W; simp
theorem own_ib {Z : State} {vm : Vm} (h : vm.interned = Z.vm.interned) : IB Z vm [] := ⟨#[], by simp [h], fun q hq => by simp at hq⟩
theorem wilW {kc ks : Nat} {Q : Option Value → Heap → List Loc → Prop} {pc : Nat} {L : Array Slot} {S : List Value} {B : ByteArray} {k : Nat} {v : Int32} {s' : State} (X : Stand p l e R s' m args below meth c T locs cells slots) (hx : p.tables.exec = Jvm.exec) (hby : c.code = B) (hd : decode B pc = .ok (.iload k, 2)) (hl : L[k]? = some (.val (.int v))) (q : EndsW p e below s T (mkF m (pc + 2) L (.int v :: S)) kc ks Q) : EndsW p e below s T (mkF m pc L S) kc ks Q := EndsW.go (fun _ k => XS.iload X.here hx rfl (hb hby hd) hl k) q
theorem wilNW {kc ks : Nat} {Q : Option Value → Heap → List Loc → Prop} {pc : Nat} {L : Array Slot} {S : List Value} {B : ByteArray} {k : Fin 4} {v : Int32} {s' : State} (X : Stand p l e R s' m args below meth c T locs cells slots) (hx : p.tables.exec = Jvm.exec) (hby : c.code = B) (hd : decode B pc = .ok (.iload_n k, 1)) (hl : L[k.val]? = some (.val (.int v))) (q : EndsW p e below s T (mkF m (pc + 1) L (.int v :: S)) kc ks Q) : EndsW p e below s T (mkF m pc L S) kc ks Q := EndsW.go (fun _ k => XS.iloadN X.here hx rfl (hb hby hd) hl k) q
theorem walW {kc ks : Nat} {Q : Option Value → Heap → List Loc → Prop} {pc : Nat} {L : Array Slot} {S : List Value} {B : ByteArray} {k : Nat} {v : Value} {s' : State} (X : Stand p l e R s' m args below meth c T locs cells slots) (hx : p.tables.exec = Jvm.exec) (hby : c.code = B) (hd : decode B pc = .ok (.aload k, 2)) (hl : L[k]? = some (.val v)) (hv : v.isRef = true) (q : EndsW p e below s T (mkF m (pc + 2) L (v :: S)) kc ks Q) : EndsW p e below s T (mkF m pc L S) kc ks Q := EndsW.go (fun _ k => XS.aload X.here hx rfl (hb hby hd) hl hv k) q
theorem walNW {kc ks : Nat} {Q : Option Value → Heap → List Loc → Prop} {pc : Nat} {L : Array Slot} {S : List Value} {B : ByteArray} {k : Fin 4} {v : Value} {s' : State} (X : Stand p l e R s' m args below meth c T locs cells slots) (hx : p.tables.exec = Jvm.exec) (hby : c.code = B) (hd : decode B pc = .ok (.aload_n k, 1)) (hl : L[k.val]? = some (.val v)) (hv : v.isRef = true) (q : EndsW p e below s T (mkF m (pc + 1) L (v :: S)) kc ks Q) : EndsW p e below s T (mkF m pc L S) kc ks Q := EndsW.go (fun _ k => XS.aloadN X.here hx rfl (hb hby hd) hl hv k) q
theorem wicW {kc ks : Nat} {Q : Option Value → Heap → List Loc → Prop} {pc : Nat} {L : Array Slot} {S : List Value} {B : ByteArray} {i : Int} {s' : State} (X : Stand p l e R s' m args below meth c T locs cells slots) (hx : p.tables.exec = Jvm.exec) (hby : c.code = B) (hd : decode B pc = .ok (.iconst i, 1)) (q : EndsW p e below s T (mkF m (pc + 1) L (.int (Int32.ofInt i) :: S)) kc ks Q) : EndsW p e below s T (mkF m pc L S) kc ks Q := EndsW.go (fun _ k => XS.iconst X.here hx rfl (hb hby hd)  k) q
theorem wbpW {kc ks : Nat} {Q : Option Value → Heap → List Loc → Prop} {pc : Nat} {L : Array Slot} {S : List Value} {B : ByteArray} {i : Int} {s' : State} (X : Stand p l e R s' m args below meth c T locs cells slots) (hx : p.tables.exec = Jvm.exec) (hby : c.code = B) (hd : decode B pc = .ok (.bipush i, 2)) (q : EndsW p e below s T (mkF m (pc + 2) L (.int (Int8.ofInt i).toInt32 :: S)) kc ks Q) : EndsW p e below s T (mkF m pc L S) kc ks Q := EndsW.go (fun _ k => XS.bipush X.here hx rfl (hb hby hd)  k) q
theorem wspW {kc ks : Nat} {Q : Option Value → Heap → List Loc → Prop} {pc : Nat} {L : Array Slot} {S : List Value} {B : ByteArray} {i : Int} {s' : State} (X : Stand p l e R s' m args below meth c T locs cells slots) (hx : p.tables.exec = Jvm.exec) (hby : c.code = B) (hd : decode B pc = .ok (.sipush i, 3)) (q : EndsW p e below s T (mkF m (pc + 3) L (.int (Int16.ofInt i).toInt32 :: S)) kc ks Q) : EndsW p e below s T (mkF m pc L S) kc ks Q := EndsW.go (fun _ k => XS.sipush X.here hx rfl (hb hby hd)  k) q
theorem wiaW {kc ks : Nat} {Q : Option Value → Heap → List Loc → Prop} {pc : Nat} {L : Array Slot} {S : List Value} {B : ByteArray} {x y : Int32} {s' : State} (X : Stand p l e R s' m args below meth c T locs cells slots) (hx : p.tables.exec = Jvm.exec) (hby : c.code = B) (hd : decode B pc = .ok (.iadd, 1)) (q : EndsW p e below s T (mkF m (pc + 1) L (.int (x + y) :: S)) kc ks Q) : EndsW p e below s T (mkF m pc L (.int y :: .int x :: S)) kc ks Q := EndsW.go (fun _ k => XS.iadd X.here hx rfl (hb hby hd) rfl k) q
theorem wisW {kc ks : Nat} {Q : Option Value → Heap → List Loc → Prop} {pc : Nat} {L : Array Slot} {S : List Value} {B : ByteArray} {x y : Int32} {s' : State} (X : Stand p l e R s' m args below meth c T locs cells slots) (hx : p.tables.exec = Jvm.exec) (hby : c.code = B) (hd : decode B pc = .ok (.isub, 1)) (q : EndsW p e below s T (mkF m (pc + 1) L (.int (x - y) :: S)) kc ks Q) : EndsW p e below s T (mkF m pc L (.int y :: .int x :: S)) kc ks Q := EndsW.go (fun _ k => XS.isub X.here hx rfl (hb hby hd) rfl k) q
theorem wstW {kc ks : Nat} {Q : Option Value → Heap → List Loc → Prop} {pc : Nat} {L : Array Slot} {S : List Value} {B : ByteArray} {k : Nat} {x : Int32} {l' : Array Slot} {s' : State} (X : Stand p l e R s' m args below meth c T locs cells slots) (hx : p.tables.exec = Jvm.exec) (hby : c.code = B) (hd : decode B pc = .ok (.istore k, 2)) (hl : storeLocals L k (.int x) = some l') (q : EndsW p e below s T (mkF m (pc + 2) l' S) kc ks Q) : EndsW p e below s T (mkF m pc L (.int x :: S)) kc ks Q := EndsW.go (fun _ k => XS.istore X.here hx rfl (hb hby hd) rfl hl k) q
theorem wstNW {kc ks : Nat} {Q : Option Value → Heap → List Loc → Prop} {pc : Nat} {L : Array Slot} {S : List Value} {B : ByteArray} {k : Fin 4} {x : Int32} {l' : Array Slot} {s' : State} (X : Stand p l e R s' m args below meth c T locs cells slots) (hx : p.tables.exec = Jvm.exec) (hby : c.code = B) (hd : decode B pc = .ok (.istore_n k, 1)) (hl : storeLocals L k.val (.int x) = some l') (q : EndsW p e below s T (mkF m (pc + 1) l' S) kc ks Q) : EndsW p e below s T (mkF m pc L (.int x :: S)) kc ks Q := EndsW.go (fun _ k => XS.istoreN X.here hx rfl (hb hby hd) rfl hl k) q
theorem wasW {kc ks : Nat} {Q : Option Value → Heap → List Loc → Prop} {pc : Nat} {L : Array Slot} {S : List Value} {B : ByteArray} {k : Nat} {x : Value} {l' : Array Slot} {s' : State} (X : Stand p l e R s' m args below meth c T locs cells slots) (hx : p.tables.exec = Jvm.exec) (hby : c.code = B) (hd : decode B pc = .ok (.astore k, 2)) (hv : x.isRef = true) (hl : storeLocals L k x = some l') (q : EndsW p e below s T (mkF m (pc + 2) l' S) kc ks Q) : EndsW p e below s T (mkF m pc L (x :: S)) kc ks Q := EndsW.go (fun _ k => XS.astore X.here hx rfl (hb hby hd) rfl hv hl k) q
theorem wasNW {kc ks : Nat} {Q : Option Value → Heap → List Loc → Prop} {pc : Nat} {L : Array Slot} {S : List Value} {B : ByteArray} {k : Fin 4} {x : Value} {l' : Array Slot} {s' : State} (X : Stand p l e R s' m args below meth c T locs cells slots) (hx : p.tables.exec = Jvm.exec) (hby : c.code = B) (hd : decode B pc = .ok (.astore_n k, 1)) (hv : x.isRef = true) (hl : storeLocals L k.val x = some l') (q : EndsW p e below s T (mkF m (pc + 1) l' S) kc ks Q) : EndsW p e below s T (mkF m pc L (x :: S)) kc ks Q := EndsW.go (fun _ k => XS.astoreN X.here hx rfl (hb hby hd) rfl hv hl k) q
theorem wiiW {kc ks : Nat} {Q : Option Value → Heap → List Loc → Prop} {pc : Nat} {L : Array Slot} {S : List Value} {B : ByteArray} {k : Nat} {cst : Int} {x : Int32} {l' : Array Slot} {s' : State} (X : Stand p l e R s' m args below meth c T locs cells slots) (hx : p.tables.exec = Jvm.exec) (hby : c.code = B) (hd : decode B pc = .ok (.iinc k cst, 3)) (hl : L[k]? = some (.val (.int x))) (hl' : storeLocals L k (.int (x + Int32.ofInt cst)) = some l') (q : EndsW p e below s T (mkF m (pc + 3) l' S) kc ks Q) : EndsW p e below s T (mkF m pc L S) kc ks Q := EndsW.go (fun _ k => XS.iinc X.here hx rfl (hb hby hd) hl hl' k) q
theorem wgoW {kc ks : Nat} {Q : Option Value → Heap → List Loc → Prop} {pc : Nat} {L : Array Slot} {S : List Value} {B : ByteArray} {o : Int} {pc' : Nat} {s' : State} (X : Stand p l e R s' m args below meth c T locs cells slots) (hx : p.tables.exec = Jvm.exec) (hby : c.code = B) (hd : decode B pc = .ok (.goto o, 3)) (q : EndsW p e below s T (mkF m pc' L S) kc ks Q) (ho : 0 ≤ (pc : Int) + o := by decide) (hp : ((pc : Int) + o).toNat = pc' := by decide) : EndsW p e below s T (mkF m pc L S) kc ks Q := EndsW.go (fun _ k => XS.goto X.here hx rfl rfl (hb hby hd) ho hp k) q
theorem wcyW {kc ks : Nat} {Q : Option Value → Heap → List Loc → Prop} {pc : Nat} {L : Array Slot} {S : List Value} {B : ByteArray} {cd : ClassFile.Cond} {x y : Int32} {o : Int} {pc' : Nat} {s' : State} (X : Stand p l e R s' m args below meth c T locs cells slots) (hx : p.tables.exec = Jvm.exec) (hby : c.code = B) (hd : decode B pc = .ok (.if_icmp cd o, 3)) (hc : if_icmp.holds cd x y = true) (q : EndsW p e below s T (mkF m pc' L S) kc ks Q) (ho : 0 ≤ (pc : Int) + o := by decide) (hp : ((pc : Int) + o).toNat = pc' := by decide) : EndsW p e below s T (mkF m pc L (.int y :: .int x :: S)) kc ks Q := EndsW.go (fun _ k => XS.icmpYes X.here hx rfl rfl (hb hby hd) rfl hc ho hp k) q
theorem wcnW {kc ks : Nat} {Q : Option Value → Heap → List Loc → Prop} {pc : Nat} {L : Array Slot} {S : List Value} {B : ByteArray} {cd : ClassFile.Cond} {x y : Int32} {o : Int} {s' : State} (X : Stand p l e R s' m args below meth c T locs cells slots) (hx : p.tables.exec = Jvm.exec) (hby : c.code = B) (hd : decode B pc = .ok (.if_icmp cd o, 3)) (hc : if_icmp.holds cd x y = false) (q : EndsW p e below s T (mkF m (pc + 3) L S) kc ks Q) : EndsW p e below s T (mkF m pc L (.int y :: .int x :: S)) kc ks Q := EndsW.go (fun _ k => XS.icmpNo X.here hx rfl (hb hby hd) rfl hc k) q
theorem wiyW {kc ks : Nat} {Q : Option Value → Heap → List Loc → Prop} {pc : Nat} {L : Array Slot} {S : List Value} {B : ByteArray} {cd : ClassFile.Cond} {x : Int32} {o : Int} {pc' : Nat} {s' : State} (X : Stand p l e R s' m args below meth c T locs cells slots) (hx : p.tables.exec = Jvm.exec) (hby : c.code = B) (hd : decode B pc = .ok (.ifCond cd o, 3)) (hc : ifCond.holds cd x = true) (q : EndsW p e below s T (mkF m pc' L S) kc ks Q) (ho : 0 ≤ (pc : Int) + o := by decide) (hp : ((pc : Int) + o).toNat = pc' := by decide) : EndsW p e below s T (mkF m pc L (.int x :: S)) kc ks Q := EndsW.go (fun _ k => XS.ifYes X.here hx rfl rfl (hb hby hd) rfl hc ho hp k) q
theorem winW {kc ks : Nat} {Q : Option Value → Heap → List Loc → Prop} {pc : Nat} {L : Array Slot} {S : List Value} {B : ByteArray} {cd : ClassFile.Cond} {x : Int32} {o : Int} {s' : State} (X : Stand p l e R s' m args below meth c T locs cells slots) (hx : p.tables.exec = Jvm.exec) (hby : c.code = B) (hd : decode B pc = .ok (.ifCond cd o, 3)) (hc : ifCond.holds cd x = false) (q : EndsW p e below s T (mkF m (pc + 3) L S) kc ks Q) : EndsW p e below s T (mkF m pc L (.int x :: S)) kc ks Q := EndsW.go (fun _ k => XS.ifNo X.here hx rfl (hb hby hd) rfl hc k) q
theorem wanW {kc ks : Nat} {Q : Option Value → Heap → List Loc → Prop} {pc : Nat} {L : Array Slot} {S : List Value} {B : ByteArray} {x y : Int32} {s' : State} (X : Stand p l e R s' m args below meth c T locs cells slots) (hx : p.tables.exec = Jvm.exec) (hby : c.code = B) (hd : decode B pc = .ok (.iand, 1)) (q : EndsW p e below s T (mkF m (pc + 1) L (.int (x &&& y) :: S)) kc ks Q) : EndsW p e below s T (mkF m pc L (.int y :: .int x :: S)) kc ks Q := EndsW.go (fun _ k => XS.iand X.here hx rfl (hb hby hd) rfl k) q
theorem wduW {kc ks : Nat} {Q : Option Value → Heap → List Loc → Prop} {pc : Nat} {L : Array Slot} {S : List Value} {B : ByteArray} {x : Value} {s' : State} (X : Stand p l e R s' m args below meth c T locs cells slots) (hx : p.tables.exec = Jvm.exec) (hby : c.code = B) (hd : decode B pc = .ok (.dup, 1)) (hv : x.category = 1) (q : EndsW p e below s T (mkF m (pc + 1) L (x :: x :: S)) kc ks Q) : EndsW p e below s T (mkF m pc L (x :: S)) kc ks Q := EndsW.go (fun _ k => XS.dup X.here hx rfl (hb hby hd) rfl hv k) q
end OwnEndsW
/-- a body that may load String constants; I: it asks that none has been interned since Z -/
abbrev Meets1W (l : Launch) (y : MethodName) (bytes : ByteArray) (ml : Nat) (rt : Option FieldType) (ws : List Jvm.Cond) (rm : Room) (av : Array Value) (Z : State) (h0 : Heap) (I : Bool) (Q : Option Value → Heap → List Loc → Prop) : Prop :=
 MetFree l y (head1 (Jvm.Cond.code y bytes ml rt :: ws) rm) (fun a U => a = av ∧ Z.Warmed39 U.vm ∧ U.heap = h0 ∧ (I = true → U.vm.interned = Z.vm.interned)) (fun _ _ _ _ _ => True) (fun _ U o U' => ∃ v L, o = .returned v ∧ Q v U'.heap L ∧ ReturnedEndW U o U' L rm.cells rm.slots)
theorem own_backOfS {p : Program} {l : Launch} {e : Env} {R : Room} {s : State} {args : Array Value} {below : List Frame} {Z : State} {a0 : Array Value} {h : Heap} {y : MethodName} {bytes : ByteArray} {maxL : Nat} {ret : Option FieldType} {rm : Room} {len W : Nat} {as' : Array Value} {I : Bool} {Q : Option Value → Heap → List Loc → Prop}
  (hM : Meets1W l y bytes maxL ret [] rm as' Z h I Q) (hZ : Z.Warmed39 s.vm) (wc : (Jvm.Cond.code y bytes maxL ret).before a0 Z = true) (wz : (Jvm.Cond.initialized y.cls).before a0 Z = true) (hf : rm.frames + 1 ≤ R.frames) (hl : W + (maxL + 11) + rm.locals ≤ R.locals) (hI : I = true → s.vm.interned = Z.vm.interned) :
  BackS l R p e below s args y len W (fun A a => a = as' ∧ A.U.heap = h ∧ A.cells + rm.cells ≤ R.cells ∧ A.slots + rm.slots ≤ R.slots)
   (fun A _ v B => ∃ L, Q v B.U.heap L ∧ B.locs = A.locs ++ L ∧ B.cells = A.cells + rm.cells ∧ B.slots = A.slots + rm.slots) :=
 BackS.of_freeW (bytes := bytes) (maxL := maxL) (ret := ret) (E := fun _ _ o t L k n => k = rm.cells ∧ n = rm.slots ∧ ∃ v, o = .returned v ∧ Q v t.heap L) hM hf hl
  (fun m meth c A a Y hp => have hU : Z.Warmed39 A.U.vm := wtrans hZ Y.warmed
   ⟨by show (Cond.and _ .tt).before a A.U = true; rw [Cond.before_and, mv hU wc]; rfl, mv hU wc, mv hU wz, hp.2.2.1, hp.2.2.2⟩)
  (fun m meth c A a g mk Y hp => ⟨hp.1, wtrans hZ Y.warmed, hp.2.1, fun i => (Y.warmed.interned_eq).trans (hI i)⟩) (fun _ _ _ _ _ _ _ _ _ => trivial)
  (fun _ _ _ _ ⟨v, L, h1, h2, h3⟩ => ⟨L, _, _, h3, rfl, rfl, v, h1, h2⟩)
  (fun m meth c A a g mk v t L k n Y hp _ _ ⟨e1, e2, v', e3, e4⟩ => by cases e3; subst e1 e2; exact ⟨L, e4, rfl, rfl, rfl⟩)
theorem own_eqI {args : Array Value} {s : State} {t : Term} {k : Int32} (h : (Jvm.Cond.eq t (.int k)).value args s none s [] = some true) : t.eval args s none [] s = some (.int k) := by
 cases ht : t.eval args s none [] s with
 | none => simp [Cond.value, ht] at h
 | some x => cases x <;> simp_all [Cond.value, Term.eval]
theorem own_atoms {Z : State} {a0 : Array Value} (hw : HW a0 Z) : ∀ a ∈ Bundle.stringAtoms, a.before a0 Z = true := by
 intro a ha
 simp only [Bundle.stringAtoms, List.mem_cons, List.not_mem_nil, or_false] at ha
 rcases ha with rfl | rfl | rfl | rfl | rfl | rfl | rfl
 ·exact ow hw 10 rfl
 ·exact ow hw 9 rfl
 ·exact ow hw 22 rfl
 ·exact ow hw 23 rfl
 ·exact ow hw 24 rfl
 ·exact ow hw 25 rfl
 ·exact ow hw 26 rfl
theorem own_narb {r : Int32} : nar .byte (r.toInt8.toInt32) = r.toInt8.toInt32 := by
 have a1 := c_i2b r
 have a2 := c_i2b r.toInt8.toInt32
 exact Int32.toInt_inj.mp (by show r.toInt8.toInt32.toInt8.toInt32.toInt = r.toInt8.toInt32.toInt; omega)
theorem own_narc {c : Int32} (h : 0 ≤ c.toInt ∧ c.toInt < 256) : nar .char c = c := by
 have a1 := c_i2c c
 exact Int32.toInt_inj.mp (by show c.toUInt32.toUInt16.toUInt32.toInt32.toInt = c.toInt; omega)
theorem own_rngb (x : Int32) : 0 ≤ (nar .char ((x &&& (255 : Int32)).toUInt32.toUInt16.toUInt32.toInt32)).toInt ∧ (nar .char ((x &&& (255 : Int32)).toUInt32.toUInt16.toUInt32.toInt32)).toInt < 256 := by
 have h1 : 0 ≤ (x &&& (255 : Int32)).toInt ∧ (x &&& (255 : Int32)).toInt ≤ 255 := c_and x 255 (by decide)
 have h2 := c_i2c (x &&& (255 : Int32))
 generalize (x &&& (255 : Int32)).toUInt32.toUInt16.toUInt32.toInt32 = w at *
 have h3 := c_i2c w
 show 0 ≤ (w.toUInt32.toUInt16.toUInt32.toInt32).toInt ∧ (w.toUInt32.toUInt16.toUInt32.toInt32).toInt < 256
 omega
theorem own_c255 {c : Int32} (h : 0 ≤ c.toInt ∧ c.toInt < 256) : ¬ (255 : Int32) < c := fun q => by
 have q' : 255 < c.toInt := Int32.lt_iff_toInt_lt.mp q
 omega
theorem own_b46 {c : Int32} (h : 0 ≤ c.toInt ∧ c.toInt < 256) : (c.toInt8.toInt32) = (46 : Int32) ↔ c = (46 : Int32) := by
 have b1 := c_i2b c
 have e : (46 : Int32).toInt = 46 := by decide
 rw [← Int32.toInt_inj, ← Int32.toInt_inj (x := c), e]
 omega
theorem own_l1 {c : Int32} (h : 0 ≤ c.toInt ∧ c.toInt < 256) : nar .char (((c.toInt8.toInt32) &&& (255 : Int32)).toUInt32.toUInt16.toUInt32.toInt32) = c := by
 have b1 := c_i2b c
 generalize c.toInt8.toInt32 = u1 at *
 have d1 : (u1 &&& (255 : Int32)).toInt = u1.toInt % ((2 ^ 8 : Nat) : Int) := c_mask u1 255 8 (by decide) (by decide)
 generalize u1 &&& (255 : Int32) = u2 at *
 have g1 := c_i2c u2
 generalize u2.toUInt32.toUInt16.toUInt32.toInt32 = w1 at *
 have g2 := c_i2c w1
 exact Int32.toInt_inj.mp (by show w1.toUInt32.toUInt16.toUInt32.toInt32.toInt = c.toInt; omega)
theorem own_n5 (p0 i : Int32) (h : ((p0 &&& (7 : Int32)) % (5 : Int32)) = i) : i = 0 ∨ i = 1 ∨ i = 2 ∨ i = 3 ∨ i = 4 := by
 have h1 : 0 ≤ (p0 &&& (7 : Int32)).toInt ∧ (p0 &&& (7 : Int32)).toInt ≤ 7 := c_and p0 7 (by decide)
 have h2 := (c_irem (p0 &&& 7) 5 5 (by decide)).1 h1.1
 rw [h] at h2
 have h3 : i.toInt = 0 ∨ i.toInt = 1 ∨ i.toInt = 2 ∨ i.toInt = 3 ∨ i.toInt = 4 := by omega
 rcases h3 with q | q | q | q | q
 ·exact Or.inl (Int32.toInt_inj.mp q)
 ·exact Or.inr (Or.inl (Int32.toInt_inj.mp q))
 ·exact Or.inr (Or.inr (Or.inl (Int32.toInt_inj.mp q)))
 ·exact Or.inr (Or.inr (Or.inr (Or.inl (Int32.toInt_inj.mp q))))
 ·exact Or.inr (Or.inr (Or.inr (Or.inr (Int32.toInt_inj.mp q))))
def GlobF (Z : State) (a0 : Array Value) (G1 : Int32) (G3 : Value) : Prop := Sta Z Z.heap "java/lang/String" "COMPACT_STRINGS" "Z" (.int G1) ∧ ¬ G1 = (0 : Int32) ∧ Sta Z Z.heap "jdk/internal/util/Preconditions" "SIOOBE_FORMATTER" "Ljava/util/function/BiFunction;" G3 ∧ G3.isRef = true ∧ Jvm.Lit.constHeld Z "java/lang/String" 7 ∧ Jvm.Lit.constHeld Z "java/lang/StringLatin1" 151 ∧ Jvm.Lit.compactW.before a0 Z = true
theorem d1_0 : decode method_2_code 0 = .ok (.iload_n 0, 1) := by decide +kernel
theorem d1_1 : decode method_2_code 1 = .ok (.sipush 256, 3) := by decide +kernel
theorem d1_4 : decode method_2_code 4 = .ok (.iand, 1) := by decide +kernel
theorem d1_5 : decode method_2_code 5 = .ok (.ifCond .eq 8, 3) := by decide +kernel
theorem d1_8 : decode method_2_code 8 = .ok (.bipush 46, 2) := by decide +kernel
theorem d1_10 : decode method_2_code 10 = .ok (.goto 9, 3) := by decide +kernel
theorem d1_13 : decode method_2_code 13 = .ok (.iload_n 0, 1) := by decide +kernel
theorem d1_14 : decode method_2_code 14 = .ok (.sipush 255, 3) := by decide +kernel
theorem d1_17 : decode method_2_code 17 = .ok (.iand, 1) := by decide +kernel
theorem d1_18 : decode method_2_code 18 = .ok (.i2c, 1) := by decide +kernel
theorem d1_19 : decode method_2_code 19 = .ok (.ireturn, 1) := by decide +kernel
theorem pn1 : plainName "com/example/wakeline/wakeline/format/shareplex/SharePlexMessageDatabasePinLaw" = true := by first | (simp [plainName, overriddenIn]; done) | decide +kernel
theorem ef1 (m : MethodId) (p0 : Int32) : entryFrame m #[(.int p0)] 1 = mkF m 0 #[.val (.int p0)] [] := by first | (simp [entryFrame, mkF, argsToLocals, Value.category]; done) | rfl
theorem rmP (l : Launch) (Z : State) (a0 : Array Value) (hw : HW a0 Z) (ws : List Jvm.Cond) (n0 : Nat) (h0 : Heap) (O0 : Old Z n0 h0) (p0 : Int32)  :
  Meets1 l ym0 method_2_code 1 (some .char) ws (mkR 0 0 0 0) #[(.int p0)] Z h0 (fun v h L => ∃ r : Int32, v = some (.int r) ∧ Fr n0 L ∧ h = h0 ∧ 0 ≤ r.toInt ∧ r.toInt < 256) := by
 refine MetFree.of_bodySF (plainFor_of_name pn1) hisR ?_
 intro p e s m args below meth c s₁ Bd hml0 hP hK
 obtain ⟨rfl, hZ, hh⟩ := hP
 have hx := Bd.exec
 have hby := Bd.bytes
 have X0 : Stand p l e (mkR 0 0 0 0) s m #[(.int p0)] below meth c s₁ [] 0 0 := Stand.of_body Bd
 have e0 : s₁.heap = h0 := by rw [← hh, Bd.state]; rfl
 have N0 := Fr.nil n0
 show Ends _ _ _ _ s₁ (entryFrame m #[(.int p0)] 1) (mkR 0 0 0 0).cells (mkR 0 0 0 0).slots (fun v h L => ∃ r : Int32, v = some (.int r) ∧ Fr n0 L ∧ h = h0 ∧ 0 ≤ r.toInt ∧ r.toInt < 256)
 refine Ends.go (fun _ k => castTop (ef1 m p0) k) ?_
 refine wilN X0 hx hby d1_0 rfl ?_
 refine wsp X0 hx hby d1_1 ?_
 refine wan X0 hx hby d1_4 ?_
 by_cases hc5_1 : (p0 &&& (256 : Int32)) = (0 : Int32)
 ·refine wiy (pc := 5) (pc' := 13) X0 hx hby d1_5 ((if0 _ _).trans (teq hc5_1).1) ?_
  refine wilN X0 hx hby d1_13 rfl ?_
  refine wsp X0 hx hby d1_14 ?_
  refine wan X0 hx hby d1_17 ?_
  refine .go (fun _ => XS.i2c X0.here hx rfl (hb hby d1_18) rfl) ?_
  refine Ends.retZ X0 hx Bd.notSynchronized (t := .char) Bd.returns (by simp) (hb hby d1_19) (by decide) (by decide) ?_
  exact ⟨_, rfl, N0, e0, own_rngb _⟩
 ·refine win X0 hx hby d1_5 ((if0 _ _).trans (feq hc5_1).1) ?_
  refine wbp X0 hx hby d1_8 ?_
  refine wgo (pc := 10) (pc' := 19) X0 hx hby d1_10 ?_
  refine Ends.retZ X0 hx Bd.notSynchronized (t := .char) Bd.returns (by simp) (hb hby d1_19) (by decide) (by decide) ?_
  exact ⟨_, rfl, N0, e0, (by decide)⟩
theorem dqn31_0 : decode jdk_41_method_11_code 0 = .ok (.iload_n 0, 1) := by decide +kernel
theorem dqn31_1 : decode jdk_41_method_11_code 1 = .ok (.ifCond .lt 8, 3) := by decide +kernel
theorem dqn31_4 : decode jdk_41_method_11_code 4 = .ok (.iload_n 0, 1) := by decide +kernel
theorem dqn31_5 : decode jdk_41_method_11_code 5 = .ok (.iload_n 1, 1) := by decide +kernel
theorem dqn31_6 : decode jdk_41_method_11_code 6 = .ok (.if_icmp .lt 10, 3) := by decide +kernel
theorem dqn31_16 : decode jdk_41_method_11_code 16 = .ok (.iload_n 0, 1) := by decide +kernel
theorem dqn31_17 : decode jdk_41_method_11_code 17 = .ok (.ireturn, 1) := by decide +kernel
theorem pnqn31 : plainName "jdk/internal/util/Preconditions" = true := by first | (simp [plainName, overriddenIn]; done) | decide +kernel
theorem efqn31 (m : MethodId) (p0 : Int32) (p1 : Int32) : entryFrame m #[(.int p0), (.int p1), .null] 3 = mkF m 0 #[.val (.int p0), .val (.int p1), .val .null] [] := by first | (simp [entryFrame, mkF, argsToLocals, Value.category]; done) | rfl
theorem rm_pcheckIndex_n (l : Launch) (Z : State) (a0 : Array Value) (hw : HW a0 Z) (ws : List Jvm.Cond) (n0 : Nat) (h0 : Heap) (O0 : Old Z n0 h0) (p0 : Int32) (p1 : Int32) (ha : ¬ p0 < 0) (hb' : p0 < p1) :
  Meets1 l ym1 jdk_41_method_11_code 3 (some .int) ws (mkR 0 0 0 0) #[(.int p0), (.int p1), .null] Z h0 (fun v h L => v = some (.int p0) ∧ Fr n0 L ∧ h = h0) := by
 refine MetFree.of_bodySF (plainFor_of_name pnqn31) hisR ?_
 intro p e s m args below meth c s₁ Bd hml0 hP hK
 obtain ⟨rfl, hZ, hh⟩ := hP
 have hx := Bd.exec
 have hby := Bd.bytes
 have X0 : Stand p l e (mkR 0 0 0 0) s m #[(.int p0), (.int p1), .null] below meth c s₁ [] 0 0 := Stand.of_body Bd
 have e0 : s₁.heap = h0 := by rw [← hh, Bd.state]; rfl
 have N0 := Fr.nil n0
 show Ends _ _ _ _ s₁ (entryFrame m #[(.int p0), (.int p1), .null] 3) (mkR 0 0 0 0).cells (mkR 0 0 0 0).slots (fun v h L => v = some (.int p0) ∧ Fr n0 L ∧ h = h0)
 refine Ends.go (fun _ k => castTop (efqn31 m p0 p1) k) ?_
 refine wilN X0 hx hby dqn31_0 rfl ?_
 refine win X0 hx hby dqn31_1 ((if0 _ _).trans (flt (ha : ¬ (p0 < (0 : Int32)))).1) ?_
 refine wilN X0 hx hby dqn31_4 rfl ?_
 refine wilN X0 hx hby dqn31_5 rfl ?_
 refine wcy (pc := 6) (pc' := 16) X0 hx hby dqn31_6 (tlt (hb' : p0 < p1)).1 ?_
 refine wilN X0 hx hby dqn31_16 rfl ?_
 refine Ends.ret X0 hx Bd.notSynchronized (t := .int) Bd.returns rfl (Or.inl ⟨rfl, by simp, _, rfl⟩) (hb hby dqn31_17) (by decide) (by decide) ?_
 exact ⟨rfl, N0, e0⟩
theorem dqr31_0 : decode jdk_41_method_11_code 0 = .ok (.iload_n 0, 1) := by decide +kernel
theorem dqr31_1 : decode jdk_41_method_11_code 1 = .ok (.ifCond .lt 8, 3) := by decide +kernel
theorem dqr31_4 : decode jdk_41_method_11_code 4 = .ok (.iload_n 0, 1) := by decide +kernel
theorem dqr31_5 : decode jdk_41_method_11_code 5 = .ok (.iload_n 1, 1) := by decide +kernel
theorem dqr31_6 : decode jdk_41_method_11_code 6 = .ok (.if_icmp .lt 10, 3) := by decide +kernel
theorem dqr31_16 : decode jdk_41_method_11_code 16 = .ok (.iload_n 0, 1) := by decide +kernel
theorem dqr31_17 : decode jdk_41_method_11_code 17 = .ok (.ireturn, 1) := by decide +kernel
theorem pnqr31 : plainName "jdk/internal/util/Preconditions" = true := by first | (simp [plainName, overriddenIn]; done) | decide +kernel
theorem efqr31 (m : MethodId) (p0 : Int32) (p1 : Int32) (o2 : Addr) : entryFrame m #[(.int p0), (.int p1), (.ref o2)] 3 = mkF m 0 #[.val (.int p0), .val (.int p1), .val (.ref o2)] [] := by first | (simp [entryFrame, mkF, argsToLocals, Value.category]; done) | rfl
theorem rm_pcheckIndex_r (l : Launch) (Z : State) (a0 : Array Value) (hw : HW a0 Z) (ws : List Jvm.Cond) (n0 : Nat) (h0 : Heap) (O0 : Old Z n0 h0) (p0 : Int32) (p1 : Int32) (o2 : Addr) (ha : ¬ p0 < 0) (hb' : p0 < p1) :
  Meets1 l ym1 jdk_41_method_11_code 3 (some .int) ws (mkR 0 0 0 0) #[(.int p0), (.int p1), (.ref o2)] Z h0 (fun v h L => v = some (.int p0) ∧ Fr n0 L ∧ h = h0) := by
 refine MetFree.of_bodySF (plainFor_of_name pnqr31) hisR ?_
 intro p e s m args below meth c s₁ Bd hml0 hP hK
 obtain ⟨rfl, hZ, hh⟩ := hP
 have hx := Bd.exec
 have hby := Bd.bytes
 have X0 : Stand p l e (mkR 0 0 0 0) s m #[(.int p0), (.int p1), (.ref o2)] below meth c s₁ [] 0 0 := Stand.of_body Bd
 have e0 : s₁.heap = h0 := by rw [← hh, Bd.state]; rfl
 have N0 := Fr.nil n0
 show Ends _ _ _ _ s₁ (entryFrame m #[(.int p0), (.int p1), (.ref o2)] 3) (mkR 0 0 0 0).cells (mkR 0 0 0 0).slots (fun v h L => v = some (.int p0) ∧ Fr n0 L ∧ h = h0)
 refine Ends.go (fun _ k => castTop (efqr31 m p0 p1 o2) k) ?_
 refine wilN X0 hx hby dqr31_0 rfl ?_
 refine win X0 hx hby dqr31_1 ((if0 _ _).trans (flt (ha : ¬ (p0 < (0 : Int32)))).1) ?_
 refine wilN X0 hx hby dqr31_4 rfl ?_
 refine wilN X0 hx hby dqr31_5 rfl ?_
 refine wcy (pc := 6) (pc' := 16) X0 hx hby dqr31_6 (tlt (hb' : p0 < p1)).1 ?_
 refine wilN X0 hx hby dqr31_16 rfl ?_
 refine Ends.ret X0 hx Bd.notSynchronized (t := .int) Bd.returns rfl (Or.inl ⟨rfl, by simp, _, rfl⟩) (hb hby dqr31_17) (by decide) (by decide) ?_
 exact ⟨rfl, N0, e0⟩
theorem dq30_0 : decode jdk_42_method_155_code 0 = .ok (.iload_n 0, 1) := by decide +kernel
theorem dq30_1 : decode jdk_42_method_155_code 1 = .ok (.iload_n 1, 1) := by decide +kernel
theorem dq30_2 : decode jdk_42_method_155_code 2 = .ok (.getstatic 1053, 3) := by decide +kernel
theorem dq30_5 : decode jdk_42_method_155_code 5 = .ok (.invokestatic 1059, 3) := by decide +kernel
theorem dq30_8 : decode jdk_42_method_155_code 8 = .ok (.pop, 1) := by decide +kernel
theorem dq30_9 : decode jdk_42_method_155_code 9 = .ok (.return_, 1) := by decide +kernel
theorem pnq30 : plainName "java/lang/String" = true := by first | (simp [plainName, overriddenIn]; done) | decide +kernel
theorem pdq30_0 : parseMethodDescriptor "(IILjava/util/function/BiFunction;)I" = some ⟨[.int, .int, (.object "java/util/function/BiFunction")], some .int⟩ := by decide +kernel
theorem efq30 (m : MethodId) (p0 : Int32) (p1 : Int32) : entryFrame m #[(.int p0), (.int p1)] 2 = mkF m 0 #[.val (.int p0), .val (.int p1)] [] := by first | (simp [entryFrame, mkF, argsToLocals, Value.category]; done) | rfl
theorem rm_checkIndex (l : Launch) (Z : State) (a0 : Array Value) (hw : HW a0 Z) (ws : List Jvm.Cond) (n0 : Nat) (h0 : Heap) (O0 : Old Z n0 h0) (p0 : Int32) (p1 : Int32) (G1 : Int32) (G3 : Value) (GF : GlobF Z a0 G1 G3) (ha : ¬ p0 < 0) (hb' : p0 < p1) :
  Meets1 l ym2 jdk_42_method_155_code 2 none ws (mkR 1 0 0 15) #[(.int p0), (.int p1)] Z h0 (fun v h L => v = none ∧ Fr n0 L ∧ h = h0) := by
 refine MetFree.of_bodySF (plainFor_of_name pnq30) hisR ?_
 intro p e s m args below meth c s₁ Bd hml0 hP hK
 obtain ⟨rfl, hZ, hh⟩ := hP
 have hx := Bd.exec
 have hby := Bd.bytes
 have hml : c.maxLocals = 2 := hml0
 have hown : s.vm.findClass "java/lang/String" = some m.cls := findClass_of_methodNamed Bd.named
 have X0 : Stand p l e (mkR 1 0 0 15) s m #[(.int p0), (.int p1)] below meth c s₁ [] 0 0 := Stand.of_body Bd
 have e0 : s₁.heap = h0 := by rw [← hh, Bd.state]; rfl
 have N0 := Fr.nil n0
 show Ends _ _ _ _ s₁ (entryFrame m #[(.int p0), (.int p1)] 2) (mkR 1 0 0 15).cells (mkR 1 0 0 15).slots (fun v h L => v = none ∧ Fr n0 L ∧ h = h0)
 refine Ends.go (fun _ k => castTop (efq30 m p0 p1) k) ?_
 obtain ⟨SCS, P5, SSF, RG3, HC1, HC2, HCW⟩ := id GF
 rcases ref_cases RG3 with rfl | ⟨fm, rfl⟩
 ·show Ends _ _ _ _ s₁ (mkF m 0 #[ci p0, ci p1] []) _ _ _
  refine wilN X0 hx hby dq30_0 rfl ?_
  refine wilN X0 hx hby dq30_1 rfl ?_
  obtain ⟨T1, X1, e1, st1⟩ := getS2 X0 hx hZ hown (host := "") (Or.inl (ow hw 94 rfl)) Via.refl e0 (SSF.ext O0.2) (g := (mkF m 2 #[ci p0, ci p1] [(.int p1), (.int p0)])) rfl (hb hby dq30_2)
  refine Ends.go st1 ?_
  obtain ⟨_, _, ⟨T2, L2, k2, n2⟩, -, X2, ⟨Lc2, hQ2, l2, y2, z2⟩, st2⟩ := Jvm.LawKit.callS X1 hx (y := ym1) hown (ov hZ hw 134 rfl) (ov hZ hw 135 rfl) (ov hZ hw 95 rfl) (ov hZ hw 136 rfl) (by decide) (own_backOf (W := 0) (rm_pcheckIndex_n l Z a0 hw [] n0 h0 O0 p0 p1 ha hb') hZ (ow hw 136 rfl) (ow hw 95 rfl) (by decide) (by decide)) (g := (mkF m 5 #[ci p0, ci p1] [.null, (.int p1), (.int p0)])) rfl (by rw [hml]; rfl) (argsL := [(.int p0), (.int p1), .null]) (rest := []) (lenOf pdq30_0 rfl) rfl (own_w rfl) (hb hby dq30_5) (fun _ _ => ⟨rfl, e1, (by decide : 0 + 0 ≤ _), (by decide : 0 + 0 ≤ _)⟩)
  dsimp only [Pt.U, Pt.locs, Pt.cells, Pt.slots] at X2 l2 y2 z2 st2 hQ2
  subst l2 y2 z2
  obtain ⟨rfl, N2q, e2q⟩ := hQ2
  have N2 := Fr.app N0 N2q
  refine Ends.go st2 ?_
  refine .go (fun _ => XS.pop X2.here hx rfl (hb hby dq30_8) rfl rfl) ?_
  refine Ends.retV X2 hx Bd.notSynchronized Bd.returns (hb hby dq30_9) (by decide) (by decide) ?_
  exact ⟨rfl, N2, e2q⟩
 ·show Ends _ _ _ _ s₁ (mkF m 0 #[ci p0, ci p1] []) _ _ _
  refine wilN X0 hx hby dq30_0 rfl ?_
  refine wilN X0 hx hby dq30_1 rfl ?_
  obtain ⟨T3, X3, e3, st3⟩ := getS2 X0 hx hZ hown (host := "") (Or.inl (ow hw 94 rfl)) Via.refl e0 (SSF.ext O0.2) (g := (mkF m 2 #[ci p0, ci p1] [(.int p1), (.int p0)])) rfl (hb hby dq30_2)
  refine Ends.go st3 ?_
  obtain ⟨_, _, ⟨T4, L4, k4, n4⟩, -, X4, ⟨Lc4, hQ4, l4, y4, z4⟩, st4⟩ := Jvm.LawKit.callS X3 hx (y := ym1) hown (ov hZ hw 134 rfl) (ov hZ hw 135 rfl) (ov hZ hw 95 rfl) (ov hZ hw 136 rfl) (by decide) (own_backOf (W := 0) (rm_pcheckIndex_r l Z a0 hw [] n0 h0 O0 p0 p1 fm ha hb') hZ (ow hw 136 rfl) (ow hw 95 rfl) (by decide) (by decide)) (g := (mkF m 5 #[ci p0, ci p1] [(.ref fm), (.int p1), (.int p0)])) rfl (by rw [hml]; rfl) (argsL := [(.int p0), (.int p1), (.ref fm)]) (rest := []) (lenOf pdq30_0 rfl) rfl (own_w rfl) (hb hby dq30_5) (fun _ _ => ⟨rfl, e3, (by decide : 0 + 0 ≤ _), (by decide : 0 + 0 ≤ _)⟩)
  dsimp only [Pt.U, Pt.locs, Pt.cells, Pt.slots] at X4 l4 y4 z4 st4 hQ4
  subst l4 y4 z4
  obtain ⟨rfl, N4q, e4q⟩ := hQ4
  have N4 := Fr.app N0 N4q
  refine Ends.go st4 ?_
  refine .go (fun _ => XS.pop X4.here hx rfl (hb hby dq30_8) rfl rfl) ?_
  refine Ends.retV X4 hx Bd.notSynchronized Bd.returns (hb hby dq30_9) (by decide) (by decide) ?_
  exact ⟨rfl, N4, e4q⟩
theorem dqn22_0 : decode jdk_41_method_12_code 0 = .ok (.iload_n 0, 1) := by decide +kernel
theorem dqn22_1 : decode jdk_41_method_12_code 1 = .ok (.ifCond .lt 13, 3) := by decide +kernel
theorem dqn22_4 : decode jdk_41_method_12_code 4 = .ok (.iload_n 0, 1) := by decide +kernel
theorem dqn22_5 : decode jdk_41_method_12_code 5 = .ok (.iload_n 1, 1) := by decide +kernel
theorem dqn22_6 : decode jdk_41_method_12_code 6 = .ok (.if_icmp .gt 8, 3) := by decide +kernel
theorem dqn22_9 : decode jdk_41_method_12_code 9 = .ok (.iload_n 1, 1) := by decide +kernel
theorem dqn22_10 : decode jdk_41_method_12_code 10 = .ok (.iload_n 2, 1) := by decide +kernel
theorem dqn22_11 : decode jdk_41_method_12_code 11 = .ok (.if_icmp .le 11, 3) := by decide +kernel
theorem dqn22_22 : decode jdk_41_method_12_code 22 = .ok (.iload_n 0, 1) := by decide +kernel
theorem dqn22_23 : decode jdk_41_method_12_code 23 = .ok (.ireturn, 1) := by decide +kernel
theorem pnqn22 : plainName "jdk/internal/util/Preconditions" = true := by first | (simp [plainName, overriddenIn]; done) | decide +kernel
theorem efqn22 (m : MethodId) (p0 : Int32) (p1 : Int32) (p2 : Int32) : entryFrame m #[(.int p0), (.int p1), (.int p2), .null] 4 = mkF m 0 #[.val (.int p0), .val (.int p1), .val (.int p2), .val .null] [] := by first | (simp [entryFrame, mkF, argsToLocals, Value.category]; done) | rfl
theorem rm_pcheckFromToIndex_n (l : Launch) (Z : State) (a0 : Array Value) (hw : HW a0 Z) (ws : List Jvm.Cond) (n0 : Nat) (h0 : Heap) (O0 : Old Z n0 h0) (p0 : Int32) (p1 : Int32) (p2 : Int32) (ha : ¬ p0 < 0) (hb' : ¬ p1 < p0) (hc' : ¬ p2 < p1) :
  Meets1 l ym3 jdk_41_method_12_code 4 (some .int) ws (mkR 0 0 0 0) #[(.int p0), (.int p1), (.int p2), .null] Z h0 (fun v h L => v = some (.int p0) ∧ Fr n0 L ∧ h = h0) := by
 refine MetFree.of_bodySF (plainFor_of_name pnqn22) hisR ?_
 intro p e s m args below meth c s₁ Bd hml0 hP hK
 obtain ⟨rfl, hZ, hh⟩ := hP
 have hx := Bd.exec
 have hby := Bd.bytes
 have X0 : Stand p l e (mkR 0 0 0 0) s m #[(.int p0), (.int p1), (.int p2), .null] below meth c s₁ [] 0 0 := Stand.of_body Bd
 have e0 : s₁.heap = h0 := by rw [← hh, Bd.state]; rfl
 have N0 := Fr.nil n0
 show Ends _ _ _ _ s₁ (entryFrame m #[(.int p0), (.int p1), (.int p2), .null] 4) (mkR 0 0 0 0).cells (mkR 0 0 0 0).slots (fun v h L => v = some (.int p0) ∧ Fr n0 L ∧ h = h0)
 refine Ends.go (fun _ k => castTop (efqn22 m p0 p1 p2) k) ?_
 refine wilN X0 hx hby dqn22_0 rfl ?_
 refine win X0 hx hby dqn22_1 ((if0 _ _).trans (flt (ha : ¬ (p0 < (0 : Int32)))).1) ?_
 refine wilN X0 hx hby dqn22_4 rfl ?_
 refine wilN X0 hx hby dqn22_5 rfl ?_
 refine wcn X0 hx hby dqn22_6 (flt (hb' : ¬ (p1 < p0))).2.2.1 ?_
 refine wilN X0 hx hby dqn22_9 rfl ?_
 refine wilN X0 hx hby dqn22_10 rfl ?_
 refine wcy (pc := 11) (pc' := 22) X0 hx hby dqn22_11 (flt (hc' : ¬ (p2 < p1))).2.2.2 ?_
 refine wilN X0 hx hby dqn22_22 rfl ?_
 refine Ends.ret X0 hx Bd.notSynchronized (t := .int) Bd.returns rfl (Or.inl ⟨rfl, by simp, _, rfl⟩) (hb hby dqn22_23) (by decide) (by decide) ?_
 exact ⟨rfl, N0, e0⟩
theorem dqr22_0 : decode jdk_41_method_12_code 0 = .ok (.iload_n 0, 1) := by decide +kernel
theorem dqr22_1 : decode jdk_41_method_12_code 1 = .ok (.ifCond .lt 13, 3) := by decide +kernel
theorem dqr22_4 : decode jdk_41_method_12_code 4 = .ok (.iload_n 0, 1) := by decide +kernel
theorem dqr22_5 : decode jdk_41_method_12_code 5 = .ok (.iload_n 1, 1) := by decide +kernel
theorem dqr22_6 : decode jdk_41_method_12_code 6 = .ok (.if_icmp .gt 8, 3) := by decide +kernel
theorem dqr22_9 : decode jdk_41_method_12_code 9 = .ok (.iload_n 1, 1) := by decide +kernel
theorem dqr22_10 : decode jdk_41_method_12_code 10 = .ok (.iload_n 2, 1) := by decide +kernel
theorem dqr22_11 : decode jdk_41_method_12_code 11 = .ok (.if_icmp .le 11, 3) := by decide +kernel
theorem dqr22_22 : decode jdk_41_method_12_code 22 = .ok (.iload_n 0, 1) := by decide +kernel
theorem dqr22_23 : decode jdk_41_method_12_code 23 = .ok (.ireturn, 1) := by decide +kernel
theorem pnqr22 : plainName "jdk/internal/util/Preconditions" = true := by first | (simp [plainName, overriddenIn]; done) | decide +kernel
theorem efqr22 (m : MethodId) (p0 : Int32) (p1 : Int32) (p2 : Int32) (o3 : Addr) : entryFrame m #[(.int p0), (.int p1), (.int p2), (.ref o3)] 4 = mkF m 0 #[.val (.int p0), .val (.int p1), .val (.int p2), .val (.ref o3)] [] := by first | (simp [entryFrame, mkF, argsToLocals, Value.category]; done) | rfl
theorem rm_pcheckFromToIndex_r (l : Launch) (Z : State) (a0 : Array Value) (hw : HW a0 Z) (ws : List Jvm.Cond) (n0 : Nat) (h0 : Heap) (O0 : Old Z n0 h0) (p0 : Int32) (p1 : Int32) (p2 : Int32) (o3 : Addr) (ha : ¬ p0 < 0) (hb' : ¬ p1 < p0) (hc' : ¬ p2 < p1) :
  Meets1 l ym3 jdk_41_method_12_code 4 (some .int) ws (mkR 0 0 0 0) #[(.int p0), (.int p1), (.int p2), (.ref o3)] Z h0 (fun v h L => v = some (.int p0) ∧ Fr n0 L ∧ h = h0) := by
 refine MetFree.of_bodySF (plainFor_of_name pnqr22) hisR ?_
 intro p e s m args below meth c s₁ Bd hml0 hP hK
 obtain ⟨rfl, hZ, hh⟩ := hP
 have hx := Bd.exec
 have hby := Bd.bytes
 have X0 : Stand p l e (mkR 0 0 0 0) s m #[(.int p0), (.int p1), (.int p2), (.ref o3)] below meth c s₁ [] 0 0 := Stand.of_body Bd
 have e0 : s₁.heap = h0 := by rw [← hh, Bd.state]; rfl
 have N0 := Fr.nil n0
 show Ends _ _ _ _ s₁ (entryFrame m #[(.int p0), (.int p1), (.int p2), (.ref o3)] 4) (mkR 0 0 0 0).cells (mkR 0 0 0 0).slots (fun v h L => v = some (.int p0) ∧ Fr n0 L ∧ h = h0)
 refine Ends.go (fun _ k => castTop (efqr22 m p0 p1 p2 o3) k) ?_
 refine wilN X0 hx hby dqr22_0 rfl ?_
 refine win X0 hx hby dqr22_1 ((if0 _ _).trans (flt (ha : ¬ (p0 < (0 : Int32)))).1) ?_
 refine wilN X0 hx hby dqr22_4 rfl ?_
 refine wilN X0 hx hby dqr22_5 rfl ?_
 refine wcn X0 hx hby dqr22_6 (flt (hb' : ¬ (p1 < p0))).2.2.1 ?_
 refine wilN X0 hx hby dqr22_9 rfl ?_
 refine wilN X0 hx hby dqr22_10 rfl ?_
 refine wcy (pc := 11) (pc' := 22) X0 hx hby dqr22_11 (flt (hc' : ¬ (p2 < p1))).2.2.2 ?_
 refine wilN X0 hx hby dqr22_22 rfl ?_
 refine Ends.ret X0 hx Bd.notSynchronized (t := .int) Bd.returns rfl (Or.inl ⟨rfl, by simp, _, rfl⟩) (hb hby dqr22_23) (by decide) (by decide) ?_
 exact ⟨rfl, N0, e0⟩
theorem dq21_0 : decode jdk_42_method_158_code 0 = .ok (.iload_n 0, 1) := by decide +kernel
theorem dq21_1 : decode jdk_42_method_158_code 1 = .ok (.iload_n 1, 1) := by decide +kernel
theorem dq21_2 : decode jdk_42_method_158_code 2 = .ok (.iload_n 2, 1) := by decide +kernel
theorem dq21_3 : decode jdk_42_method_158_code 3 = .ok (.getstatic 1053, 3) := by decide +kernel
theorem dq21_6 : decode jdk_42_method_158_code 6 = .ok (.invokestatic 1062, 3) := by decide +kernel
theorem dq21_9 : decode jdk_42_method_158_code 9 = .ok (.pop, 1) := by decide +kernel
theorem dq21_10 : decode jdk_42_method_158_code 10 = .ok (.return_, 1) := by decide +kernel
theorem pnq21 : plainName "java/lang/String" = true := by first | (simp [plainName, overriddenIn]; done) | decide +kernel
theorem pdq21_0 : parseMethodDescriptor "(IIILjava/util/function/BiFunction;)I" = some ⟨[.int, .int, .int, (.object "java/util/function/BiFunction")], some .int⟩ := by decide +kernel
theorem efq21 (m : MethodId) (p0 : Int32) (p1 : Int32) (p2 : Int32) : entryFrame m #[(.int p0), (.int p1), (.int p2)] 3 = mkF m 0 #[.val (.int p0), .val (.int p1), .val (.int p2)] [] := by first | (simp [entryFrame, mkF, argsToLocals, Value.category]; done) | rfl
theorem rm_checkBoundsBeginEnd (l : Launch) (Z : State) (a0 : Array Value) (hw : HW a0 Z) (ws : List Jvm.Cond) (n0 : Nat) (h0 : Heap) (O0 : Old Z n0 h0) (p0 : Int32) (p1 : Int32) (p2 : Int32) (G1 : Int32) (G3 : Value) (GF : GlobF Z a0 G1 G3) (ha : ¬ p0 < 0) (hb' : ¬ p1 < p0) (hc' : ¬ p2 < p1) :
  Meets1 l ym4 jdk_42_method_158_code 3 none ws (mkR 1 0 0 15) #[(.int p0), (.int p1), (.int p2)] Z h0 (fun v h L => v = none ∧ Fr n0 L ∧ h = h0) := by
 refine MetFree.of_bodySF (plainFor_of_name pnq21) hisR ?_
 intro p e s m args below meth c s₁ Bd hml0 hP hK
 obtain ⟨rfl, hZ, hh⟩ := hP
 have hx := Bd.exec
 have hby := Bd.bytes
 have hml : c.maxLocals = 3 := hml0
 have hown : s.vm.findClass "java/lang/String" = some m.cls := findClass_of_methodNamed Bd.named
 have X0 : Stand p l e (mkR 1 0 0 15) s m #[(.int p0), (.int p1), (.int p2)] below meth c s₁ [] 0 0 := Stand.of_body Bd
 have e0 : s₁.heap = h0 := by rw [← hh, Bd.state]; rfl
 have N0 := Fr.nil n0
 show Ends _ _ _ _ s₁ (entryFrame m #[(.int p0), (.int p1), (.int p2)] 3) (mkR 1 0 0 15).cells (mkR 1 0 0 15).slots (fun v h L => v = none ∧ Fr n0 L ∧ h = h0)
 refine Ends.go (fun _ k => castTop (efq21 m p0 p1 p2) k) ?_
 obtain ⟨SCS, P5, SSF, RG3, HC1, HC2, HCW⟩ := id GF
 rcases ref_cases RG3 with rfl | ⟨fm, rfl⟩
 ·show Ends _ _ _ _ s₁ (mkF m 0 #[ci p0, ci p1, ci p2] []) _ _ _
  refine wilN X0 hx hby dq21_0 rfl ?_
  refine wilN X0 hx hby dq21_1 rfl ?_
  refine wilN X0 hx hby dq21_2 rfl ?_
  obtain ⟨T1, X1, e1, st1⟩ := getS2 X0 hx hZ hown (host := "") (Or.inl (ow hw 94 rfl)) Via.refl e0 (SSF.ext O0.2) (g := (mkF m 3 #[ci p0, ci p1, ci p2] [(.int p2), (.int p1), (.int p0)])) rfl (hb hby dq21_3)
  refine Ends.go st1 ?_
  obtain ⟨_, _, ⟨T2, L2, k2, n2⟩, -, X2, ⟨Lc2, hQ2, l2, y2, z2⟩, st2⟩ := Jvm.LawKit.callS X1 hx (y := ym3) hown (ov hZ hw 96 rfl) (ov hZ hw 97 rfl) (ov hZ hw 95 rfl) (ov hZ hw 98 rfl) (by decide) (own_backOf (W := 0) (rm_pcheckFromToIndex_n l Z a0 hw [] n0 h0 O0 p0 p1 p2 ha hb' hc') hZ (ow hw 98 rfl) (ow hw 95 rfl) (by decide) (by decide)) (g := (mkF m 6 #[ci p0, ci p1, ci p2] [.null, (.int p2), (.int p1), (.int p0)])) rfl (by rw [hml]; rfl) (argsL := [(.int p0), (.int p1), (.int p2), .null]) (rest := []) (lenOf pdq21_0 rfl) rfl (own_w rfl) (hb hby dq21_6) (fun _ _ => ⟨rfl, e1, (by decide : 0 + 0 ≤ _), (by decide : 0 + 0 ≤ _)⟩)
  dsimp only [Pt.U, Pt.locs, Pt.cells, Pt.slots] at X2 l2 y2 z2 st2 hQ2
  subst l2 y2 z2
  obtain ⟨rfl, N2q, e2q⟩ := hQ2
  have N2 := Fr.app N0 N2q
  refine Ends.go st2 ?_
  refine .go (fun _ => XS.pop X2.here hx rfl (hb hby dq21_9) rfl rfl) ?_
  refine Ends.retV X2 hx Bd.notSynchronized Bd.returns (hb hby dq21_10) (by decide) (by decide) ?_
  exact ⟨rfl, N2, e2q⟩
 ·show Ends _ _ _ _ s₁ (mkF m 0 #[ci p0, ci p1, ci p2] []) _ _ _
  refine wilN X0 hx hby dq21_0 rfl ?_
  refine wilN X0 hx hby dq21_1 rfl ?_
  refine wilN X0 hx hby dq21_2 rfl ?_
  obtain ⟨T3, X3, e3, st3⟩ := getS2 X0 hx hZ hown (host := "") (Or.inl (ow hw 94 rfl)) Via.refl e0 (SSF.ext O0.2) (g := (mkF m 3 #[ci p0, ci p1, ci p2] [(.int p2), (.int p1), (.int p0)])) rfl (hb hby dq21_3)
  refine Ends.go st3 ?_
  obtain ⟨_, _, ⟨T4, L4, k4, n4⟩, -, X4, ⟨Lc4, hQ4, l4, y4, z4⟩, st4⟩ := Jvm.LawKit.callS X3 hx (y := ym3) hown (ov hZ hw 96 rfl) (ov hZ hw 97 rfl) (ov hZ hw 95 rfl) (ov hZ hw 98 rfl) (by decide) (own_backOf (W := 0) (rm_pcheckFromToIndex_r l Z a0 hw [] n0 h0 O0 p0 p1 p2 fm ha hb' hc') hZ (ow hw 98 rfl) (ow hw 95 rfl) (by decide) (by decide)) (g := (mkF m 6 #[ci p0, ci p1, ci p2] [(.ref fm), (.int p2), (.int p1), (.int p0)])) rfl (by rw [hml]; rfl) (argsL := [(.int p0), (.int p1), (.int p2), (.ref fm)]) (rest := []) (lenOf pdq21_0 rfl) rfl (own_w rfl) (hb hby dq21_6) (fun _ _ => ⟨rfl, e3, (by decide : 0 + 0 ≤ _), (by decide : 0 + 0 ≤ _)⟩)
  dsimp only [Pt.U, Pt.locs, Pt.cells, Pt.slots] at X4 l4 y4 z4 st4 hQ4
  subst l4 y4 z4
  obtain ⟨rfl, N4q, e4q⟩ := hQ4
  have N4 := Fr.app N0 N4q
  refine Ends.go st4 ?_
  refine .go (fun _ => XS.pop X4.here hx rfl (hb hby dq21_9) rfl rfl) ?_
  refine Ends.retV X4 hx Bd.notSynchronized Bd.returns (hb hby dq21_10) (by decide) (by decide) ?_
  exact ⟨rfl, N4, e4q⟩
theorem d13_0 : decode jdk_43_method_4_code 0 = .ok (.iload_n 0, 1) := by decide +kernel
theorem d13_1 : decode jdk_43_method_4_code 1 = .ok (.ifCond .lt 14, 3) := by decide +kernel
theorem d13_4 : decode jdk_43_method_4_code 4 = .ok (.iload_n 0, 1) := by decide +kernel
theorem d13_5 : decode jdk_43_method_4_code 5 = .ok (.sipush 255, 3) := by decide +kernel
theorem d13_8 : decode jdk_43_method_4_code 8 = .ok (.if_icmp .gt 7, 3) := by decide +kernel
theorem d13_11 : decode jdk_43_method_4_code 11 = .ok (.iconst 1, 1) := by decide +kernel
theorem d13_12 : decode jdk_43_method_4_code 12 = .ok (.goto 4, 3) := by decide +kernel
theorem d13_16 : decode jdk_43_method_4_code 16 = .ok (.ireturn, 1) := by decide +kernel
theorem pn13 : plainName "java/lang/StringLatin1" = true := by first | (simp [plainName, overriddenIn]; done) | decide +kernel
theorem ef13_i (m : MethodId) (x0 : Int32) : entryFrame m #[(.int x0)] 1 = mkF m 0 #[.val (.int x0)] [] := by first | (simp [entryFrame, mkF, argsToLocals, Value.category]; done) | rfl
theorem rx13_1 (l : Launch) (Z : State) (a0 : Array Value) (hw : HW a0 Z) (ws : List Jvm.Cond) (n0 : Nat) (h0 : Heap) (O0 : Old Z n0 h0)    :
  Meets1 l ym5 jdk_43_method_4_code 1 (some .boolean) ws (mkR 0 0 0 0) #[(.int 46)] Z h0 (fun v h L => v = some (.int 1) ∧ Fr n0 L ∧ Keep h0 h []) := by
 refine MetFree.of_bodySF (plainFor_of_name pn13) hisR ?_
 intro p e s m args below meth c s₁ Bd hml0 hP hK
 obtain ⟨rfl, hZ, hh⟩ := hP
 have hx := Bd.exec
 have hby := Bd.bytes
 have X0 : Stand p l e (mkR 0 0 0 0) s m #[(.int 46)] below meth c s₁ [] 0 0 := Stand.of_body Bd
 have e0 : s₁.heap = h0 := by rw [← hh, Bd.state]; rfl
 have N0 := Fr.nil n0
 show Ends _ _ _ _ s₁ (entryFrame m #[(.int 46)] 1) (mkR 0 0 0 0).cells (mkR 0 0 0 0).slots (fun v h L => v = some (.int 1) ∧ Fr n0 L ∧ Keep h0 h [])
 refine Ends.go (fun _ k => castTop (ef13_i m (46 : Int32)) k) ?_
 have K0 := Keep.refl h0 []
 show Ends _ _ _ _ s₁ (mkF m 0 #[ci 46] []) _ _ _
 refine wilN X0 hx hby d13_0 rfl ?_
 refine win X0 hx hby d13_1 ((if0 _ _).trans (flt (by decide : ¬ ((46 : Int32) < (0 : Int32)))).1) ?_
 refine wilN X0 hx hby d13_4 rfl ?_
 refine wsp X0 hx hby d13_5 ?_
 refine wcn X0 hx hby d13_8 (flt (by decide : ¬ ((255 : Int32) < (46 : Int32)))).2.2.1 ?_
 refine wic X0 hx hby d13_11 ?_
 refine wgo (pc := 12) (pc' := 16) X0 hx hby d13_12 ?_
 refine Ends.retZ X0 hx Bd.notSynchronized (t := .boolean) Bd.returns (by simp) (hb hby d13_16) (by decide) (by decide) ?_
 rw [e0]
 exact ⟨rfl, N0, K0⟩

theorem d14_0 : decode jdk_29_method_65_code 0 = .ok (.iload_n 0, 1) := by decide +kernel
theorem d14_1 : decode jdk_29_method_65_code 1 = .ok (.iload_n 1, 1) := by decide +kernel
theorem d14_2 : decode jdk_29_method_65_code 2 = .ok (.if_icmp .lt 7, 3) := by decide +kernel
theorem d14_5 : decode jdk_29_method_65_code 5 = .ok (.iload_n 0, 1) := by decide +kernel
theorem d14_6 : decode jdk_29_method_65_code 6 = .ok (.goto 4, 3) := by decide +kernel
theorem d14_10 : decode jdk_29_method_65_code 10 = .ok (.ireturn, 1) := by decide +kernel
theorem pdx_0 : parseMethodDescriptor "(I)Z" = some ⟨[.int], some .boolean⟩ := by decide +kernel
theorem ef14_ii (m : MethodId) (x0 : Int32) (x1 : Int32) : entryFrame m #[(.int x0), (.int x1)] 2 = mkF m 0 #[.val (.int x0), .val (.int x1)] [] := by first | (simp [entryFrame, mkF, argsToLocals, Value.category]; done) | rfl
theorem rx14_3 (l : Launch) (Z : State) (a0 : Array Value) (hw : HW a0 Z) (ws : List Jvm.Cond) (n0 : Nat) (h0 : Heap) (O0 : Old Z n0 h0)    :
  Meets1 l ym6 jdk_29_method_65_code 2 (some .int) ws (mkR 0 0 0 0) #[(.int 0), (.int 0)] Z h0 (fun v h L => v = some (.int 0) ∧ Fr n0 L ∧ Keep h0 h []) := by
 refine MetFree.of_bodySF (Jvm.Free.JP.mathPlain rfl (by decide +kernel)) hisR ?_
 intro p e s m args below meth c s₁ Bd hml0 hP hK
 obtain ⟨rfl, hZ, hh⟩ := hP
 have hx := Bd.exec
 have hby := Bd.bytes
 have X0 : Stand p l e (mkR 0 0 0 0) s m #[(.int 0), (.int 0)] below meth c s₁ [] 0 0 := Stand.of_body Bd
 have e0 : s₁.heap = h0 := by rw [← hh, Bd.state]; rfl
 have N0 := Fr.nil n0
 show Ends _ _ _ _ s₁ (entryFrame m #[(.int 0), (.int 0)] 2) (mkR 0 0 0 0).cells (mkR 0 0 0 0).slots (fun v h L => v = some (.int 0) ∧ Fr n0 L ∧ Keep h0 h [])
 refine Ends.go (fun _ k => castTop (ef14_ii m (0 : Int32) (0 : Int32)) k) ?_
 have K0 := Keep.refl h0 []
 show Ends _ _ _ _ s₁ (mkF m 0 #[ci 0, ci 0] []) _ _ _
 refine wilN X0 hx hby d14_0 rfl ?_
 refine wilN X0 hx hby d14_1 rfl ?_
 refine wcn X0 hx hby d14_2 (flt (by decide : ¬ ((0 : Int32) < (0 : Int32)))).1 ?_
 refine wilN X0 hx hby d14_5 rfl ?_
 refine wgo (pc := 6) (pc' := 10) X0 hx hby d14_6 ?_
 refine Ends.ret X0 hx Bd.notSynchronized (t := .int) Bd.returns rfl (Or.inl ⟨rfl, by simp, _, rfl⟩) (hb hby d14_10) (by decide) (by decide) ?_
 rw [e0]
 exact ⟨rfl, N0, K0⟩

theorem d15_0 : decode jdk_29_method_69_code 0 = .ok (.iload_n 0, 1) := by decide +kernel
theorem d15_1 : decode jdk_29_method_69_code 1 = .ok (.iload_n 1, 1) := by decide +kernel
theorem d15_2 : decode jdk_29_method_69_code 2 = .ok (.if_icmp .gt 7, 3) := by decide +kernel
theorem d15_5 : decode jdk_29_method_69_code 5 = .ok (.iload_n 0, 1) := by decide +kernel
theorem d15_6 : decode jdk_29_method_69_code 6 = .ok (.goto 4, 3) := by decide +kernel
theorem d15_10 : decode jdk_29_method_69_code 10 = .ok (.ireturn, 1) := by decide +kernel
theorem pdx_1 : parseMethodDescriptor "(II)I" = some ⟨[.int, .int], some .int⟩ := by decide +kernel
theorem ef15_ii (m : MethodId) (x0 : Int32) (x1 : Int32) : entryFrame m #[(.int x0), (.int x1)] 2 = mkF m 0 #[.val (.int x0), .val (.int x1)] [] := by first | (simp [entryFrame, mkF, argsToLocals, Value.category]; done) | rfl
theorem rx15_6 (l : Launch) (Z : State) (a0 : Array Value) (hw : HW a0 Z) (ws : List Jvm.Cond) (n0 : Nat) (h0 : Heap) (O0 : Old Z n0 h0)    :
  Meets1 l ym7 jdk_29_method_69_code 2 (some .int) ws (mkR 0 0 0 0) #[(.int 0), (.int 0)] Z h0 (fun v h L => v = some (.int 0) ∧ Fr n0 L ∧ Keep h0 h []) := by
 refine MetFree.of_bodySF (Jvm.Free.JP.mathPlain rfl (by decide +kernel)) hisR ?_
 intro p e s m args below meth c s₁ Bd hml0 hP hK
 obtain ⟨rfl, hZ, hh⟩ := hP
 have hx := Bd.exec
 have hby := Bd.bytes
 have X0 : Stand p l e (mkR 0 0 0 0) s m #[(.int 0), (.int 0)] below meth c s₁ [] 0 0 := Stand.of_body Bd
 have e0 : s₁.heap = h0 := by rw [← hh, Bd.state]; rfl
 have N0 := Fr.nil n0
 show Ends _ _ _ _ s₁ (entryFrame m #[(.int 0), (.int 0)] 2) (mkR 0 0 0 0).cells (mkR 0 0 0 0).slots (fun v h L => v = some (.int 0) ∧ Fr n0 L ∧ Keep h0 h [])
 refine Ends.go (fun _ k => castTop (ef15_ii m (0 : Int32) (0 : Int32)) k) ?_
 have K0 := Keep.refl h0 []
 show Ends _ _ _ _ s₁ (mkF m 0 #[ci 0, ci 0] []) _ _ _
 refine wilN X0 hx hby d15_0 rfl ?_
 refine wilN X0 hx hby d15_1 rfl ?_
 refine wcn X0 hx hby d15_2 (flt (by decide : ¬ ((0 : Int32) < (0 : Int32)))).2.2.1 ?_
 refine wilN X0 hx hby d15_5 rfl ?_
 refine wgo (pc := 6) (pc' := 10) X0 hx hby d15_6 ?_
 refine Ends.ret X0 hx Bd.notSynchronized (t := .int) Bd.returns rfl (Or.inl ⟨rfl, by simp, _, rfl⟩) (hb hby d15_10) (by decide) (by decide) ?_
 rw [e0]
 exact ⟨rfl, N0, K0⟩

theorem d12_0 : decode jdk_43_method_22_code 0 = .ok (.iload_n 1, 1) := by decide +kernel
theorem d12_1 : decode jdk_43_method_22_code 1 = .ok (.invokestatic 88, 3) := by decide +kernel
theorem d12_4 : decode jdk_43_method_22_code 4 = .ok (.ifCond .ne 5, 3) := by decide +kernel
theorem d12_9 : decode jdk_43_method_22_code 9 = .ok (.iload_n 2, 1) := by decide +kernel
theorem d12_10 : decode jdk_43_method_22_code 10 = .ok (.iconst 0, 1) := by decide +kernel
theorem d12_11 : decode jdk_43_method_22_code 11 = .ok (.invokestatic 92, 3) := by decide +kernel
theorem d12_14 : decode jdk_43_method_22_code 14 = .ok (.istore_n 2, 1) := by decide +kernel
theorem d12_15 : decode jdk_43_method_22_code 15 = .ok (.iload_n 3, 1) := by decide +kernel
theorem d12_16 : decode jdk_43_method_22_code 16 = .ok (.aload_n 0, 1) := by decide +kernel
theorem d12_17 : decode jdk_43_method_22_code 17 = .ok (.arraylength, 1) := by decide +kernel
theorem d12_18 : decode jdk_43_method_22_code 18 = .ok (.invokestatic 38, 3) := by decide +kernel
theorem d12_21 : decode jdk_43_method_22_code 21 = .ok (.istore_n 3, 1) := by decide +kernel
theorem d12_22 : decode jdk_43_method_22_code 22 = .ok (.iload_n 2, 1) := by decide +kernel
theorem d12_23 : decode jdk_43_method_22_code 23 = .ok (.iload_n 3, 1) := by decide +kernel
theorem d12_24 : decode jdk_43_method_22_code 24 = .ok (.if_icmp .lt 5, 3) := by decide +kernel
theorem d12_27 : decode jdk_43_method_22_code 27 = .ok (.iconst (-1), 1) := by decide +kernel
theorem d12_28 : decode jdk_43_method_22_code 28 = .ok (.ireturn, 1) := by decide +kernel
theorem pn12 : plainName "java/lang/StringLatin1" = true := by first | (simp [plainName, overriddenIn]; done) | decide +kernel
theorem ef12_riii (m : MethodId) (x0 : Addr) (x1 : Int32) (x2 : Int32) (x3 : Int32) : entryFrame m #[(.ref x0), (.int x1), (.int x2), (.int x3)] 4 = mkF m 0 #[.val (.ref x0), .val (.int x1), .val (.int x2), .val (.int x3)] [] := by first | (simp [entryFrame, mkF, argsToLocals, Value.category]; done) | rfl
theorem rmI12_0 (l : Launch) (Z : State) (a0 : Array Value) (hw : HW a0 Z) (ws : List Jvm.Cond) (n0 : Nat) (h0 : Heap) (O0 : Old Z n0 h0)  (b0_ : Addr) (kb_ : ClassId) (Vb : Arv Z h0 b0_ kb_ .byte (0 : Int32) [] (.int 0)) :
  Meets1 l ym8 jdk_43_method_22_code 4 (some .int) ws (mkR 1 0 0 25) #[(.ref b0_), (.int 46), (.int 0), (.int 0)] Z h0 (fun v h L => ∃ r : Int32, v = some (.int r) ∧ Fr n0 L ∧ Keep h0 h [] ∧ ((r = -1))) := by
 refine MetFree.of_bodySF (plainFor_of_name pn12) hisR ?_
 intro p e s m args below meth c s₁ Bd hml0 hP hK
 obtain ⟨rfl, hZ, hh⟩ := hP
 have hx := Bd.exec
 have hby := Bd.bytes
 have hml : c.maxLocals = 4 := hml0
 have hown : s.vm.findClass "java/lang/StringLatin1" = some m.cls := findClass_of_methodNamed Bd.named
 have X0 : Stand p l e (mkR 1 0 0 25) s m #[(.ref b0_), (.int 46), (.int 0), (.int 0)] below meth c s₁ [] 0 0 := Stand.of_body Bd
 have e0 : s₁.heap = h0 := by rw [← hh, Bd.state]; rfl
 have N0 := Fr.nil n0
 show Ends _ _ _ _ s₁ (entryFrame m #[(.ref b0_), (.int 46), (.int 0), (.int 0)] 4) (mkR 1 0 0 25).cells (mkR 1 0 0 25).slots (fun v h L => ∃ r : Int32, v = some (.int r) ∧ Fr n0 L ∧ Keep h0 h [] ∧ ((r = -1)))
 refine Ends.go (fun _ k => castTop (ef12_riii m b0_ (46 : Int32) (0 : Int32) (0 : Int32)) k) ?_
 have K0 := Keep.refl h0 []
 refine wilN X0 hx hby d12_0 rfl ?_
 obtain ⟨_, _, ⟨T2, L2, k2, n2⟩, -, X2, ⟨Lc2, hQ2, l2, y2, z2⟩, st2⟩ := Jvm.LawKit.callS X0 hx (y := ym5) hown (ov hZ hw 63 rfl) (ov hZ hw 64 rfl) (ov hZ hw 61 rfl) (ov hZ hw 65 rfl) (by decide) (own_backOf (W := 0) (rx13_1 l Z a0 hw [] n0 h0 O0   ) hZ (ow hw 65 rfl) (ow hw 61 rfl) (by decide) (by decide)) (g := (mkF m 1 #[cr b0_, ci 46, ci 0, ci 0] [(.int 46)])) rfl (by rw [hml]; rfl) (argsL := [(.int 46)]) (rest := []) (lenOf pdx_0 rfl) rfl (own_w rfl) (hb hby d12_1) (fun _ _ => ⟨rfl, e0, (by decide : 0 + 0 ≤ _), (by decide : 0 + 0 ≤ _)⟩)
 dsimp only [Pt.U, Pt.locs, Pt.cells, Pt.slots] at X2 l2 y2 z2 st2 hQ2
 subst l2 y2 z2
 obtain ⟨rfl, N2q, K2c⟩ := hQ2
 have N2 := Fr.app N0 N2q
 refine Ends.go st2 ?_
 obtain ⟨h2, e2⟩ : ∃ z, T2.heap = z := ⟨_, rfl⟩
 rw [e2] at K2c
 have K2 := K0.trans K2c all0
 have O2 := O0.keep K2c all0
 refine wiy (pc := 4) (pc' := 9) X2 hx hby d12_4 ((if0 _ _).trans (feq (by decide : ¬ ((1 : Int32) = (0 : Int32)))).2) ?_
 refine wilN X2 hx hby d12_9 rfl ?_
 refine wic X2 hx hby d12_10 ?_
 obtain ⟨_, _, ⟨T4, L4, k4, n4⟩, -, X4, ⟨Lc4, hQ4, l4, y4, z4⟩, st4⟩ := Jvm.LawKit.callS X2 hx (y := ym6) hown (ov hZ hw 66 rfl) (ov hZ hw 67 rfl) (ov hZ hw 68 rfl) (ov hZ hw 69 rfl) (by decide) (own_backOf (W := 0) (rx14_3 l Z a0 hw [] n0 h2 O2   ) hZ (ow hw 69 rfl) (ow hw 68 rfl) (by decide) (by decide)) (g := (mkF m 11 #[cr b0_, ci 46, ci 0, ci 0] [(.int 0), (.int 0)])) rfl (by rw [hml]; rfl) (argsL := [(.int 0), (.int 0)]) (rest := []) (lenOf pdx_1 rfl) rfl (own_w rfl) (hb hby d12_11) (fun _ _ => ⟨rfl, e2, (by decide : 0 + 0 ≤ _), (by decide : 0 + 0 ≤ _)⟩)
 dsimp only [Pt.U, Pt.locs, Pt.cells, Pt.slots] at X4 l4 y4 z4 st4 hQ4
 subst l4 y4 z4
 obtain ⟨rfl, N4q, K4c⟩ := hQ4
 have N4 := Fr.app N2 N4q
 refine Ends.go st4 ?_
 obtain ⟨h4, e4⟩ : ∃ z, T4.heap = z := ⟨_, rfl⟩
 rw [e4] at K4c
 have K4 := K2.trans K4c all0
 have O4 := O2.keep K4c all0
 refine wstN X4 hx hby d12_14 (l' := #[cr b0_, ci 46, ci 0, ci 0]) rfl ?_
 refine wilN X4 hx hby d12_15 rfl ?_
 refine walN X4 hx hby d12_16 rfl rfl ?_
 obtain ⟨cl5, Ar5, q5, S5, M5, H5, G5⟩ := id ((Vb.keep K2c nin0).keep K4c nin0)
 refine Ends.go (X4.arraylength hx (by rw [e4]; exact Ar5.1) (State.isArrayOf_alike hZ.alike Ar5.2.1) (g := (mkF m 17 #[cr b0_, ci 46, ci 0, ci 0] [(.ref b0_), (.int 0)])) rfl rfl (hb hby d12_17)) ?_
 rw [len_of S5 M5]
 obtain ⟨_, _, ⟨T7, L7, k7, n7⟩, -, X7, ⟨Lc7, hQ7, l7, y7, z7⟩, st7⟩ := Jvm.LawKit.callS X4 hx (y := ym7) hown (ov hZ hw 70 rfl) (ov hZ hw 71 rfl) (ov hZ hw 68 rfl) (ov hZ hw 72 rfl) (by decide) (own_backOf (W := 0) (rx15_6 l Z a0 hw [] n0 h4 O4   ) hZ (ow hw 72 rfl) (ow hw 68 rfl) (by decide) (by decide)) (g := (mkF m 18 #[cr b0_, ci 46, ci 0, ci 0] [(.int 0), (.int 0)])) rfl (by rw [hml]; rfl) (argsL := [(.int 0), (.int 0)]) (rest := []) (lenOf pdx_1 rfl) rfl (own_w rfl) (hb hby d12_18) (fun _ _ => ⟨rfl, e4, (by decide : 0 + 0 ≤ _), (by decide : 0 + 0 ≤ _)⟩)
 dsimp only [Pt.U, Pt.locs, Pt.cells, Pt.slots] at X7 l7 y7 z7 st7 hQ7
 subst l7 y7 z7
 obtain ⟨rfl, N7q, K7c⟩ := hQ7
 have N7 := Fr.app N4 N7q
 refine Ends.go st7 ?_
 obtain ⟨h7, e7⟩ : ∃ z, T7.heap = z := ⟨_, rfl⟩
 rw [e7] at K7c
 have K7 := K4.trans K7c all0
 refine wstN X7 hx hby d12_21 (l' := #[cr b0_, ci 46, ci 0, ci 0]) rfl ?_
 refine wilN X7 hx hby d12_22 rfl ?_
 refine wilN X7 hx hby d12_23 rfl ?_
 refine wcn X7 hx hby d12_24 (flt (by decide : ¬ ((0 : Int32) < (0 : Int32)))).1 ?_
 refine wic X7 hx hby d12_27 ?_
 refine Ends.ret X7 hx Bd.notSynchronized (t := .int) Bd.returns rfl (Or.inl ⟨rfl, by simp, _, rfl⟩) (hb hby d12_28) (by decide) (by decide) ?_
 rw [e7]
 exact ⟨(-1 : Int32), rfl, N7, K7, rfl⟩

theorem d9_0 : decode jdk_42_method_154_code 0 = .ok (.getstatic 38, 3) := by decide +kernel
theorem d9_3 : decode jdk_42_method_154_code 3 = .ok (.ifCond .eq 14, 3) := by decide +kernel
theorem d9_6 : decode jdk_42_method_154_code 6 = .ok (.aload_n 0, 1) := by decide +kernel
theorem d9_7 : decode jdk_42_method_154_code 7 = .ok (.getfield 15, 3) := by decide +kernel
theorem d9_10 : decode jdk_42_method_154_code 10 = .ok (.ifCond .ne 7, 3) := by decide +kernel
theorem d9_13 : decode jdk_42_method_154_code 13 = .ok (.iconst 1, 1) := by decide +kernel
theorem d9_14 : decode jdk_42_method_154_code 14 = .ok (.goto 4, 3) := by decide +kernel
theorem d9_18 : decode jdk_42_method_154_code 18 = .ok (.ireturn, 1) := by decide +kernel
theorem pn9 : plainName "java/lang/String" = true := by first | (simp [plainName, overriddenIn]; done) | decide +kernel
theorem ef9_r (m : MethodId) (x0 : Addr) : entryFrame m #[(.ref x0)] 1 = mkF m 0 #[.val (.ref x0)] [] := by first | (simp [entryFrame, mkF, argsToLocals, Value.category]; done) | rfl
theorem rx9_8 (l : Launch) (Z : State) (a0 : Array Value) (hw : HW a0 Z) (ws : List Jvm.Cond) (n0 : Nat) (h0 : Heap) (O0 : Old Z n0 h0) (G1 : Int32) (G3 : Value) (GF : GlobF Z a0 G1 G3) (s0_ : Addr) (PF_s0__coder : Fld Z h0 s0_ cST "coder" "B" (.int 0)) :
  Meets1 l ym9 jdk_42_method_154_code 1 (some .boolean) ws (mkR 0 0 0 0) #[(.ref s0_)] Z h0 (fun v h L => v = some (.int 1) ∧ Fr n0 L ∧ Keep h0 h []) := by
 refine MetFree.of_bodySF (plainFor_of_name pn9) hisR ?_
 intro p e s m args below meth c s₁ Bd hml0 hP hK
 obtain ⟨rfl, hZ, hh⟩ := hP
 have hx := Bd.exec
 have hby := Bd.bytes
 have hown : s.vm.findClass "java/lang/String" = some m.cls := findClass_of_methodNamed Bd.named
 have X0 : Stand p l e (mkR 0 0 0 0) s m #[(.ref s0_)] below meth c s₁ [] 0 0 := Stand.of_body Bd
 have e0 : s₁.heap = h0 := by rw [← hh, Bd.state]; rfl
 have N0 := Fr.nil n0
 show Ends _ _ _ _ s₁ (entryFrame m #[(.ref s0_)] 1) (mkR 0 0 0 0).cells (mkR 0 0 0 0).slots (fun v h L => v = some (.int 1) ∧ Fr n0 L ∧ Keep h0 h [])
 refine Ends.go (fun _ k => castTop (ef9_r m s0_) k) ?_
 obtain ⟨SCS, P5, SSF, RG3, HC1, HC2, HCW⟩ := id GF
 have K0 := Keep.refl h0 []
 show Ends _ _ _ _ s₁ (mkF m 0 #[cr s0_] []) _ _ _
 obtain ⟨T9, X9, e9, st9⟩ := getS2 X0 hx hZ hown (host := "") (Or.inl (ow hw 48 rfl)) Via.refl e0 (SCS.ext O0.2) (g := (mkF m 0 #[cr s0_] [])) rfl (hb hby d9_0)
 refine Ends.go st9 ?_
 refine win X9 hx hby d9_3 ((if0 _ _).trans (feq (P5 : ¬ (G1 = (0 : Int32)))).1) ?_
 refine walN X9 hx hby d9_6 rfl rfl ?_
 obtain ⟨T10, X10, e10, st10⟩ := getF X9 hx hZ hown (host := "") (Or.inl (ow hw 28 rfl)) Via.refl e9 PF_s0__coder (g := (mkF m 7 #[cr s0_] [(.ref s0_)])) rfl rfl (hb hby d9_7)
 refine Ends.go st10 ?_
 refine win X10 hx hby d9_10 ((if0 _ _).trans (teq (by decide : (0 : Int32) = (0 : Int32))).2) ?_
 refine wic X10 hx hby d9_13 ?_
 refine wgo (pc := 14) (pc' := 18) X10 hx hby d9_14 ?_
 refine Ends.retZ X10 hx Bd.notSynchronized (t := .boolean) Bd.returns (by simp) (hb hby d9_18) (by decide) (by decide) ?_
 rw [e10]
 exact ⟨rfl, N0, K0⟩

theorem d11_0 : decode jdk_42_method_152_code 0 = .ok (.getstatic 38, 3) := by decide +kernel
theorem d11_3 : decode jdk_42_method_152_code 3 = .ok (.ifCond .eq 10, 3) := by decide +kernel
theorem d11_6 : decode jdk_42_method_152_code 6 = .ok (.aload_n 0, 1) := by decide +kernel
theorem d11_7 : decode jdk_42_method_152_code 7 = .ok (.getfield 15, 3) := by decide +kernel
theorem d11_10 : decode jdk_42_method_152_code 10 = .ok (.goto 4, 3) := by decide +kernel
theorem d11_14 : decode jdk_42_method_152_code 14 = .ok (.ireturn, 1) := by decide +kernel
theorem pn11 : plainName "java/lang/String" = true := by first | (simp [plainName, overriddenIn]; done) | decide +kernel
theorem pdx_2 : parseMethodDescriptor "()Z" = some ⟨[], some .boolean⟩ := by decide +kernel
theorem ef11_r (m : MethodId) (x0 : Addr) : entryFrame m #[(.ref x0)] 1 = mkF m 0 #[.val (.ref x0)] [] := by first | (simp [entryFrame, mkF, argsToLocals, Value.category]; done) | rfl
theorem rx11_16 (l : Launch) (Z : State) (a0 : Array Value) (hw : HW a0 Z) (ws : List Jvm.Cond) (n0 : Nat) (h0 : Heap) (O0 : Old Z n0 h0) (G1 : Int32) (G3 : Value) (GF : GlobF Z a0 G1 G3) (s0_ : Addr) (PF_s0__coder : Fld Z h0 s0_ cST "coder" "B" (.int 0)) :
  Meets1 l ym10 jdk_42_method_152_code 1 (some .byte) ws (mkR 0 0 0 0) #[(.ref s0_)] Z h0 (fun v h L => v = some (.int 0) ∧ Fr n0 L ∧ Keep h0 h []) := by
 refine MetFree.of_bodySF (plainFor_of_name pn11) hisR ?_
 intro p e s m args below meth c s₁ Bd hml0 hP hK
 obtain ⟨rfl, hZ, hh⟩ := hP
 have hx := Bd.exec
 have hby := Bd.bytes
 have hown : s.vm.findClass "java/lang/String" = some m.cls := findClass_of_methodNamed Bd.named
 have X0 : Stand p l e (mkR 0 0 0 0) s m #[(.ref s0_)] below meth c s₁ [] 0 0 := Stand.of_body Bd
 have e0 : s₁.heap = h0 := by rw [← hh, Bd.state]; rfl
 have N0 := Fr.nil n0
 show Ends _ _ _ _ s₁ (entryFrame m #[(.ref s0_)] 1) (mkR 0 0 0 0).cells (mkR 0 0 0 0).slots (fun v h L => v = some (.int 0) ∧ Fr n0 L ∧ Keep h0 h [])
 refine Ends.go (fun _ k => castTop (ef11_r m s0_) k) ?_
 obtain ⟨SCS, P5, SSF, RG3, HC1, HC2, HCW⟩ := id GF
 have K0 := Keep.refl h0 []
 show Ends _ _ _ _ s₁ (mkF m 0 #[cr s0_] []) _ _ _
 obtain ⟨T17, X17, e17, st17⟩ := getS2 X0 hx hZ hown (host := "") (Or.inl (ow hw 48 rfl)) Via.refl e0 (SCS.ext O0.2) (g := (mkF m 0 #[cr s0_] [])) rfl (hb hby d11_0)
 refine Ends.go st17 ?_
 refine win X17 hx hby d11_3 ((if0 _ _).trans (feq (P5 : ¬ (G1 = (0 : Int32)))).1) ?_
 refine walN X17 hx hby d11_6 rfl rfl ?_
 obtain ⟨T18, X18, e18, st18⟩ := getF X17 hx hZ hown (host := "") (Or.inl (ow hw 28 rfl)) Via.refl e17 PF_s0__coder (g := (mkF m 7 #[cr s0_] [(.ref s0_)])) rfl rfl (hb hby d11_7)
 refine Ends.go st18 ?_
 refine wgo (pc := 10) (pc' := 14) X18 hx hby d11_10 ?_
 refine Ends.retZ X18 hx Bd.notSynchronized (t := .byte) Bd.returns (by simp) (hb hby d11_14) (by decide) (by decide) ?_
 rw [e18]
 exact ⟨rfl, N0, K0⟩

theorem d10_0 : decode jdk_42_method_54_code 0 = .ok (.aload_n 0, 1) := by decide +kernel
theorem d10_1 : decode jdk_42_method_54_code 1 = .ok (.getfield 9, 3) := by decide +kernel
theorem d10_4 : decode jdk_42_method_54_code 4 = .ok (.arraylength, 1) := by decide +kernel
theorem d10_5 : decode jdk_42_method_54_code 5 = .ok (.aload_n 0, 1) := by decide +kernel
theorem d10_6 : decode jdk_42_method_54_code 6 = .ok (.invokevirtual 335, 3) := by decide +kernel
theorem d10_9 : decode jdk_42_method_54_code 9 = .ok (.ishr, 1) := by decide +kernel
theorem d10_10 : decode jdk_42_method_54_code 10 = .ok (.ireturn, 1) := by decide +kernel
theorem pn10 : plainName "java/lang/String" = true := by first | (simp [plainName, overriddenIn]; done) | decide +kernel
theorem pdx_3 : parseMethodDescriptor "()B" = some ⟨[], some .byte⟩ := by decide +kernel
theorem ef10_r (m : MethodId) (x0 : Addr) : entryFrame m #[(.ref x0)] 1 = mkF m 0 #[.val (.ref x0)] [] := by first | (simp [entryFrame, mkF, argsToLocals, Value.category]; done) | rfl
theorem rx10_13 (l : Launch) (Z : State) (a0 : Array Value) (hw : HW a0 Z) (ws : List Jvm.Cond) (n0 : Nat) (h0 : Heap) (O0 : Old Z n0 h0) (G1 : Int32) (G3 : Value) (GF : GlobF Z a0 G1 G3) (s0_ : Addr) (b0_ : Addr) (kb_ : ClassId) (PF_s0__value : Fld Z h0 s0_ cST "value" "[B" (.ref b0_)) (PV_b0_ : Arv Z h0 b0_ kb_ .byte (0 : Int32) [] (.int 0)) (PF_s0__coder : Fld Z h0 s0_ cST "coder" "B" (.int 0)) (PE_s0_ : Exa Z h0 s0_ cST) :
  Meets1 l ym11 jdk_42_method_54_code 1 (some .int) ws (mkR 1 0 0 13) #[(.ref s0_)] Z h0 (fun v h L => v = some (.int 0) ∧ Fr n0 L ∧ Keep h0 h []) := by
 refine MetFree.of_bodySF (plainFor_of_name pn10) hisR ?_
 intro p e s m args below meth c s₁ Bd hml0 hP hK
 obtain ⟨rfl, hZ, hh⟩ := hP
 have hx := Bd.exec
 have hby := Bd.bytes
 have hml : c.maxLocals = 1 := hml0
 have hown : s.vm.findClass "java/lang/String" = some m.cls := findClass_of_methodNamed Bd.named
 have X0 : Stand p l e (mkR 1 0 0 13) s m #[(.ref s0_)] below meth c s₁ [] 0 0 := Stand.of_body Bd
 have e0 : s₁.heap = h0 := by rw [← hh, Bd.state]; rfl
 have N0 := Fr.nil n0
 show Ends _ _ _ _ s₁ (entryFrame m #[(.ref s0_)] 1) (mkR 1 0 0 13).cells (mkR 1 0 0 13).slots (fun v h L => v = some (.int 0) ∧ Fr n0 L ∧ Keep h0 h [])
 refine Ends.go (fun _ k => castTop (ef10_r m s0_) k) ?_
 obtain ⟨SCS, P5, SSF, RG3, HC1, HC2, HCW⟩ := id GF
 have K0 := Keep.refl h0 []
 show Ends _ _ _ _ s₁ (mkF m 0 #[cr s0_] []) _ _ _
 refine walN X0 hx hby d10_0 rfl rfl ?_
 obtain ⟨T14, X14, e14, st14⟩ := getF X0 hx hZ hown (host := "") (Or.inl (ow hw 27 rfl)) Via.refl e0 PF_s0__value (g := (mkF m 1 #[cr s0_] [(.ref s0_)])) rfl rfl (hb hby d10_1)
 refine Ends.go st14 ?_
 obtain ⟨cl15, Ar15, q15, S15, M15, H15, G15⟩ := id PV_b0_
 refine Ends.go (X14.arraylength hx (by rw [e14]; exact Ar15.1) (State.isArrayOf_alike hZ.alike Ar15.2.1) (g := (mkF m 4 #[cr s0_] [(.ref b0_)])) rfl rfl (hb hby d10_4)) ?_
 rw [len_of S15 M15]
 refine walN X14 hx hby d10_5 rfl rfl ?_
 obtain ⟨cq19, kq19, q19a, q19b, q19c⟩ := isOf hZ e14 PE_s0_
 obtain ⟨_, _, ⟨T19, L19, k19, n19⟩, -, X19, ⟨Lc19, hQ19, l19, y19, z19⟩, st19⟩ := X14.virtualBack hx (y := ym10) (z := ym10) hown (ov hZ hw 54 rfl) (ov hZ hw 55 rfl) (notFace_of_selects (args := #[]) (ov hZ hw 57 rfl)) (ov hZ hw 57 rfl) (ov hZ hw 56 rfl) (by decide) (own_backOf (W := 1) (rx11_16 l Z a0 hw [] n0 h0 O0 G1 G3 GF s0_ PF_s0__coder) hZ (ow hw 58 rfl) (ow hw 10 rfl) (by decide) (by decide)) q19a q19c (g := (mkF m 6 #[cr s0_] [(.ref s0_), (.int 0)])) rfl (by rw [hml]; rfl) (Steps.refl _) (argsL := []) (rest := [(.int 0)]) (lenOf pdx_3 rfl) rfl (own_w rfl) (hb hby d10_6) (fun _ _ => ⟨rfl, e14, (by decide : 0 + 0 ≤ _), (by decide : 0 + 0 ≤ _)⟩)
 dsimp only [Pt.U, Pt.locs, Pt.cells, Pt.slots] at X19 l19 y19 z19 st19 hQ19
 subst l19 y19 z19
 obtain ⟨rfl, N19q, K19c⟩ := hQ19
 have N19 := Fr.app N0 N19q
 refine Ends.go (fun _ k => st19.trans k) ?_
 obtain ⟨h19, e19⟩ : ∃ z, T19.heap = z := ⟨_, rfl⟩
 rw [e19] at K19c
 have K19 := K0.trans K19c all0
 refine .go (fun _ => XS.ishr X19.here hx rfl (hb hby d10_9) rfl) ?_
 refine Ends.ret X19 hx Bd.notSynchronized (t := .int) Bd.returns rfl (Or.inl ⟨rfl, by simp, _, rfl⟩) (hb hby d10_10) (by decide) (by decide) ?_
 rw [e19]
 exact ⟨rfl, N19, K19⟩

theorem d8_0 : decode jdk_42_method_80_code 0 = .ok (.aload_n 0, 1) := by decide +kernel
theorem d8_1 : decode jdk_42_method_80_code 1 = .ok (.invokevirtual 492, 3) := by decide +kernel
theorem d8_4 : decode jdk_42_method_80_code 4 = .ok (.ifCond .eq 19, 3) := by decide +kernel
theorem d8_7 : decode jdk_42_method_80_code 7 = .ok (.aload_n 0, 1) := by decide +kernel
theorem d8_8 : decode jdk_42_method_80_code 8 = .ok (.getfield 9, 3) := by decide +kernel
theorem d8_11 : decode jdk_42_method_80_code 11 = .ok (.iload_n 1, 1) := by decide +kernel
theorem d8_12 : decode jdk_42_method_80_code 12 = .ok (.iload_n 2, 1) := by decide +kernel
theorem d8_13 : decode jdk_42_method_80_code 13 = .ok (.aload_n 0, 1) := by decide +kernel
theorem d8_14 : decode jdk_42_method_80_code 14 = .ok (.invokevirtual 505, 3) := by decide +kernel
theorem d8_17 : decode jdk_42_method_80_code 17 = .ok (.invokestatic 637, 3) := by decide +kernel
theorem d8_20 : decode jdk_42_method_80_code 20 = .ok (.goto 16, 3) := by decide +kernel
theorem d8_36 : decode jdk_42_method_80_code 36 = .ok (.ireturn, 1) := by decide +kernel
theorem pn8 : plainName "java/lang/String" = true := by first | (simp [plainName, overriddenIn]; done) | decide +kernel
theorem pdx_4 : parseMethodDescriptor "()I" = some ⟨[], some .int⟩ := by decide +kernel
theorem pdx_5 : parseMethodDescriptor "([BIII)I" = some ⟨[(.array .byte), .int, .int, .int], some .int⟩ := by decide +kernel
theorem ef8_rii (m : MethodId) (x0 : Addr) (x1 : Int32) (x2 : Int32) : entryFrame m #[(.ref x0), (.int x1), (.int x2)] 3 = mkF m 0 #[.val (.ref x0), .val (.int x1), .val (.int x2)] [] := by first | (simp [entryFrame, mkF, argsToLocals, Value.category]; done) | rfl
theorem rmI8_0 (l : Launch) (Z : State) (a0 : Array Value) (hw : HW a0 Z) (ws : List Jvm.Cond) (n0 : Nat) (h0 : Heap) (O0 : Old Z n0 h0)  (G1 : Int32) (G3 : Value) (GF : GlobF Z a0 G1 G3) (s0_ : Addr) (b0_ : Addr) (kb_ : ClassId) (E0 : Exa Z h0 s0_ cST) (Fv : Fld Z h0 s0_ cST "value" "[B" (.ref b0_)) (Fc : Fld Z h0 s0_ cST "coder" "B" (.int 0)) (Vb : Arv Z h0 b0_ kb_ .byte (0 : Int32) [] (.int 0)) :
  Meets1 l ym12 jdk_42_method_80_code 3 (some .int) ws (mkR 3 0 0 60) #[(.ref s0_), (.int 46), (.int 0)] Z h0 (fun v h L => ∃ r : Int32, v = some (.int r) ∧ Fr n0 L ∧ Keep h0 h [] ∧ ((r = -1))) := by
 refine MetFree.of_bodySF (plainFor_of_name pn8) hisR ?_
 intro p e s m args below meth c s₁ Bd hml0 hP hK
 obtain ⟨rfl, hZ, hh⟩ := hP
 have hx := Bd.exec
 have hby := Bd.bytes
 have hml : c.maxLocals = 3 := hml0
 have hown : s.vm.findClass "java/lang/String" = some m.cls := findClass_of_methodNamed Bd.named
 have X0 : Stand p l e (mkR 3 0 0 60) s m #[(.ref s0_), (.int 46), (.int 0)] below meth c s₁ [] 0 0 := Stand.of_body Bd
 have e0 : s₁.heap = h0 := by rw [← hh, Bd.state]; rfl
 have N0 := Fr.nil n0
 show Ends _ _ _ _ s₁ (entryFrame m #[(.ref s0_), (.int 46), (.int 0)] 3) (mkR 3 0 0 60).cells (mkR 3 0 0 60).slots (fun v h L => ∃ r : Int32, v = some (.int r) ∧ Fr n0 L ∧ Keep h0 h [] ∧ ((r = -1)))
 refine Ends.go (fun _ k => castTop (ef8_rii m s0_ (46 : Int32) (0 : Int32)) k) ?_
 have K0 := Keep.refl h0 []
 obtain ⟨SCS, P5, SSF, RG3, HC1, HC2, HCW⟩ := id GF
 refine walN X0 hx hby d8_0 rfl rfl ?_
 obtain ⟨cq11, kq11, q11a, q11b, q11c⟩ := isOf hZ e0 E0
 obtain ⟨_, _, ⟨T11, L11, k11, n11⟩, -, X11, ⟨Lc11, hQ11, l11, y11, z11⟩, st11⟩ := X0.virtualBack hx (y := ym9) (z := ym9) hown (ov hZ hw 43 rfl) (ov hZ hw 44 rfl) (notFace_of_selects (args := #[]) (ov hZ hw 46 rfl)) (ov hZ hw 46 rfl) (ov hZ hw 45 rfl) (by decide) (own_backOf (W := 0) (rx9_8 l Z a0 hw [] n0 h0 O0 G1 G3 GF s0_ Fc) hZ (ow hw 47 rfl) (ow hw 10 rfl) (by decide) (by decide)) q11a q11c (g := (mkF m 1 #[cr s0_, ci 46, ci 0] [(.ref s0_)])) rfl (by rw [hml]; rfl) (Steps.refl _) (argsL := []) (rest := []) (lenOf pdx_2 rfl) rfl (own_w rfl) (hb hby d8_1) (fun _ _ => ⟨rfl, e0, (by decide : 0 + 0 ≤ _), (by decide : 0 + 0 ≤ _)⟩)
 dsimp only [Pt.U, Pt.locs, Pt.cells, Pt.slots] at X11 l11 y11 z11 st11 hQ11
 subst l11 y11 z11
 obtain ⟨rfl, N11q, K11c⟩ := hQ11
 have N11 := Fr.app N0 N11q
 refine Ends.go (fun _ k => st11.trans k) ?_
 obtain ⟨h11, e11⟩ : ∃ z, T11.heap = z := ⟨_, rfl⟩
 rw [e11] at K11c
 have K11 := K0.trans K11c all0
 have O11 := O0.keep K11c all0
 refine win X11 hx hby d8_4 ((if0 _ _).trans (feq (by decide : ¬ ((1 : Int32) = (0 : Int32)))).1) ?_
 refine walN X11 hx hby d8_7 rfl rfl ?_
 obtain ⟨T12, X12, e12, st12⟩ := getF X11 hx hZ hown (host := "") (Or.inl (ow hw 27 rfl)) Via.refl e11 (Fv.keep K11c nin0) (g := (mkF m 8 #[cr s0_, ci 46, ci 0] [(.ref s0_)])) rfl rfl (hb hby d8_8)
 refine Ends.go st12 ?_
 refine wilN X12 hx hby d8_11 rfl ?_
 refine wilN X12 hx hby d8_12 rfl ?_
 refine walN X12 hx hby d8_13 rfl rfl ?_
 obtain ⟨cq20, kq20, q20a, q20b, q20c⟩ := isOf hZ e12 (E0.keep K11c)
 obtain ⟨_, _, ⟨T20, L20, k20, n20⟩, -, X20, ⟨Lc20, hQ20, l20, y20, z20⟩, st20⟩ := X12.virtualBack hx (y := ym11) (z := ym11) hown (ov hZ hw 49 rfl) (ov hZ hw 50 rfl) (notFace_of_selects (args := #[]) (ov hZ hw 52 rfl)) (ov hZ hw 52 rfl) (ov hZ hw 51 rfl) (by decide) (own_backOf (W := 3) (rx10_13 l Z a0 hw [] n0 h11 O11 G1 G3 GF s0_ b0_ kb_ (Fv.keep K11c nin0) (Vb.keep K11c nin0) (Fc.keep K11c nin0) (E0.keep K11c)) hZ (ow hw 53 rfl) (ow hw 10 rfl) (by decide) (by decide)) q20a q20c (g := (mkF m 14 #[cr s0_, ci 46, ci 0] [(.ref s0_), (.int 0), (.int 46), (.ref b0_)])) rfl (by rw [hml]; rfl) (Steps.refl _) (argsL := []) (rest := [(.int 0), (.int 46), (.ref b0_)]) (lenOf pdx_4 rfl) rfl (own_w rfl) (hb hby d8_14) (fun _ _ => ⟨rfl, e12, (by decide : 0 + 0 ≤ _), (by decide : 0 + 0 ≤ _)⟩)
 dsimp only [Pt.U, Pt.locs, Pt.cells, Pt.slots] at X20 l20 y20 z20 st20 hQ20
 subst l20 y20 z20
 obtain ⟨rfl, N20q, K20c⟩ := hQ20
 have N20 := Fr.app N11 N20q
 refine Ends.go (fun _ k => st20.trans k) ?_
 obtain ⟨h20, e20⟩ : ∃ z, T20.heap = z := ⟨_, rfl⟩
 rw [e20] at K20c
 have K20 := K11.trans K20c all0
 have O20 := O11.keep K20c all0
 obtain ⟨_, _, ⟨T21, L21, k21, n21⟩, -, X21, ⟨Lc21, hQ21, l21, y21, z21⟩, st21⟩ := Jvm.LawKit.callS X20 hx (y := ym8) hown (ov hZ hw 59 rfl) (ov hZ hw 60 rfl) (ov hZ hw 61 rfl) (ov hZ hw 62 rfl) (by decide) (own_backOf (W := 0) (rmI12_0 l Z a0 hw [] n0 h20 O20  b0_ kb_  ((Vb.keep K11c nin0).keep K20c nin0)) hZ (ow hw 62 rfl) (ow hw 61 rfl) (by decide) (by decide)) (g := (mkF m 17 #[cr s0_, ci 46, ci 0] [(.int 0), (.int 0), (.int 46), (.ref b0_)])) rfl (by rw [hml]; rfl) (argsL := [(.ref b0_), (.int 46), (.int 0), (.int 0)]) (rest := []) (lenOf pdx_5 rfl) rfl (own_w rfl) (hb hby d8_17) (fun _ _ => ⟨rfl, e20, (by decide : 0 + 0 ≤ _), (by decide : 0 + 0 ≤ _)⟩)
 dsimp only [Pt.U, Pt.locs, Pt.cells, Pt.slots] at X21 l21 y21 z21 st21 hQ21
 subst l21 y21 z21
 obtain ⟨r21, rfl, N21q, K21c, hr21⟩ := hQ21
 have N21 := Fr.app N20 N21q
 refine Ends.go st21 ?_
 obtain ⟨h21, e21⟩ : ∃ z, T21.heap = z := ⟨_, rfl⟩
 rw [e21] at K21c
 have K21 := K20.trans K21c all0
 refine wgo (pc := 20) (pc' := 36) X21 hx hby d8_20 ?_
 refine Ends.ret X21 hx Bd.notSynchronized (t := .int) Bd.returns rfl (Or.inl ⟨rfl, by simp, _, rfl⟩) (hb hby d8_36) (by decide) (by decide) ?_
 rw [e21]
 exact ⟨_, rfl, N21, K21, hr21⟩

theorem d7_0 : decode jdk_42_method_79_code 0 = .ok (.aload_n 0, 1) := by decide +kernel
theorem d7_1 : decode jdk_42_method_79_code 1 = .ok (.iload_n 1, 1) := by decide +kernel
theorem d7_2 : decode jdk_42_method_79_code 2 = .ok (.iconst 0, 1) := by decide +kernel
theorem d7_3 : decode jdk_42_method_79_code 3 = .ok (.invokevirtual 633, 3) := by decide +kernel
theorem d7_6 : decode jdk_42_method_79_code 6 = .ok (.ireturn, 1) := by decide +kernel
theorem pn7 : plainName "java/lang/String" = true := by first | (simp [plainName, overriddenIn]; done) | decide +kernel
theorem ef7_ri (m : MethodId) (x0 : Addr) (x1 : Int32) : entryFrame m #[(.ref x0), (.int x1)] 2 = mkF m 0 #[.val (.ref x0), .val (.int x1)] [] := by first | (simp [entryFrame, mkF, argsToLocals, Value.category]; done) | rfl
theorem rmI7_0 (l : Launch) (Z : State) (a0 : Array Value) (hw : HW a0 Z) (ws : List Jvm.Cond) (n0 : Nat) (h0 : Heap) (O0 : Old Z n0 h0)  (G1 : Int32) (G3 : Value) (GF : GlobF Z a0 G1 G3) (s0_ : Addr) (b0_ : Addr) (kb_ : ClassId) (E0 : Exa Z h0 s0_ cST) (Fv : Fld Z h0 s0_ cST "value" "[B" (.ref b0_)) (Fc : Fld Z h0 s0_ cST "coder" "B" (.int 0)) (Vb : Arv Z h0 b0_ kb_ .byte (0 : Int32) [] (.int 0)) :
  Meets1 l ym13 jdk_42_method_79_code 2 (some .int) ws (mkR 4 0 0 80) #[(.ref s0_), (.int 46)] Z h0 (fun v h L => ∃ r : Int32, v = some (.int r) ∧ Fr n0 L ∧ Keep h0 h [] ∧ ((r = -1))) := by
 refine MetFree.of_bodySF (plainFor_of_name pn7) hisR ?_
 intro p e s m args below meth c s₁ Bd hml0 hP hK
 obtain ⟨rfl, hZ, hh⟩ := hP
 have hx := Bd.exec
 have hby := Bd.bytes
 have hml : c.maxLocals = 2 := hml0
 have hown : s.vm.findClass "java/lang/String" = some m.cls := findClass_of_methodNamed Bd.named
 have X0 : Stand p l e (mkR 4 0 0 80) s m #[(.ref s0_), (.int 46)] below meth c s₁ [] 0 0 := Stand.of_body Bd
 have e0 : s₁.heap = h0 := by rw [← hh, Bd.state]; rfl
 have N0 := Fr.nil n0
 show Ends _ _ _ _ s₁ (entryFrame m #[(.ref s0_), (.int 46)] 2) (mkR 4 0 0 80).cells (mkR 4 0 0 80).slots (fun v h L => ∃ r : Int32, v = some (.int r) ∧ Fr n0 L ∧ Keep h0 h [] ∧ ((r = -1)))
 refine Ends.go (fun _ k => castTop (ef7_ri m s0_ (46 : Int32)) k) ?_
 have K0 := Keep.refl h0 []
 obtain ⟨SCS, P5, SSF, RG3, HC1, HC2, HCW⟩ := id GF
 refine walN X0 hx hby d7_0 rfl rfl ?_
 refine wilN X0 hx hby d7_1 rfl ?_
 refine wic X0 hx hby d7_2 ?_
 obtain ⟨cq22, kq22, q22a, q22b, q22c⟩ := isOf hZ e0 E0
 obtain ⟨_, _, ⟨T22, L22, k22, n22⟩, -, X22, ⟨Lc22, hQ22, l22, y22, z22⟩, st22⟩ := X0.virtualBack hx (y := ym12) (z := ym12) hown (ov hZ hw 38 rfl) (ov hZ hw 39 rfl) (notFace_of_selects (args := #[]) (ov hZ hw 41 rfl)) (ov hZ hw 41 rfl) (ov hZ hw 40 rfl) (by decide) (own_backOf (W := 0) (rmI8_0 l Z a0 hw [] n0 h0 O0 G1 G3 GF s0_ b0_ kb_  E0 Fv Fc Vb) hZ (ow hw 42 rfl) (ow hw 10 rfl) (by decide) (by decide)) q22a q22c (g := (mkF m 3 #[cr s0_, ci 46] [(.int 0), (.int 46), (.ref s0_)])) rfl (by rw [hml]; rfl) (Steps.refl _) (argsL := [(.int 46), (.int 0)]) (rest := []) (lenOf pdx_1 rfl) rfl (own_w rfl) (hb hby d7_3) (fun _ _ => ⟨rfl, e0, (by decide : 0 + 0 ≤ _), (by decide : 0 + 0 ≤ _)⟩)
 dsimp only [Pt.U, Pt.locs, Pt.cells, Pt.slots] at X22 l22 y22 z22 st22 hQ22
 subst l22 y22 z22
 obtain ⟨r22, rfl, N22q, K22c, hr22⟩ := hQ22
 have N22 := Fr.app N0 N22q
 refine Ends.go (fun _ k => st22.trans k) ?_
 obtain ⟨h22, e22⟩ : ∃ z, T22.heap = z := ⟨_, rfl⟩
 rw [e22] at K22c
 have K22 := K0.trans K22c all0
 refine Ends.ret X22 hx Bd.notSynchronized (t := .int) Bd.returns rfl (Or.inl ⟨rfl, by simp, _, rfl⟩) (hb hby d7_6) (by decide) (by decide) ?_
 rw [e22]
 exact ⟨_, rfl, N22, K22, hr22⟩

theorem d19_0 : decode jdk_43_method_23_code 0 = .ok (.iload_n 1, 1) := by decide +kernel
theorem d19_1 : decode jdk_43_method_23_code 1 = .ok (.i2b, 1) := by decide +kernel
theorem d19_2 : decode jdk_43_method_23_code 2 = .ok (.istore 4, 2) := by decide +kernel
theorem d19_4 : decode jdk_43_method_23_code 4 = .ok (.iload_n 2, 1) := by decide +kernel
theorem d19_5 : decode jdk_43_method_23_code 5 = .ok (.istore 5, 2) := by decide +kernel
theorem d19_7 : decode jdk_43_method_23_code 7 = .ok (.iload 5, 2) := by decide +kernel
theorem d19_9 : decode jdk_43_method_23_code 9 = .ok (.iload_n 3, 1) := by decide +kernel
theorem d19_10 : decode jdk_43_method_23_code 10 = .ok (.if_icmp .ge 21, 3) := by decide +kernel
theorem d19_13 : decode jdk_43_method_23_code 13 = .ok (.aload_n 0, 1) := by decide +kernel
theorem d19_14 : decode jdk_43_method_23_code 14 = .ok (.iload 5, 2) := by decide +kernel
theorem d19_16 : decode jdk_43_method_23_code 16 = .ok (.baload, 1) := by decide +kernel
theorem d19_17 : decode jdk_43_method_23_code 17 = .ok (.iload 4, 2) := by decide +kernel
theorem d19_19 : decode jdk_43_method_23_code 19 = .ok (.if_icmp .ne 6, 3) := by decide +kernel
theorem d19_22 : decode jdk_43_method_23_code 22 = .ok (.iload 5, 2) := by decide +kernel
theorem d19_24 : decode jdk_43_method_23_code 24 = .ok (.ireturn, 1) := by decide +kernel
theorem d19_25 : decode jdk_43_method_23_code 25 = .ok (.iinc 5 1, 3) := by decide +kernel
theorem d19_28 : decode jdk_43_method_23_code 28 = .ok (.goto (-21), 3) := by decide +kernel
theorem d19_31 : decode jdk_43_method_23_code 31 = .ok (.iconst (-1), 1) := by decide +kernel
theorem d19_32 : decode jdk_43_method_23_code 32 = .ok (.ireturn, 1) := by decide +kernel
theorem pn19 : plainName "java/lang/StringLatin1" = true := by first | (simp [plainName, overriddenIn]; done) | decide +kernel
theorem ef19_riii (m : MethodId) (x0 : Addr) (x1 : Int32) (x2 : Int32) (x3 : Int32) : entryFrame m #[(.ref x0), (.int x1), (.int x2), (.int x3)] 6 = mkF m 0 #[.val (.ref x0), .val (.int x1), .val (.int x2), .val (.int x3), .unset, .unset] [] := by first | (simp [entryFrame, mkF, argsToLocals, Value.category]; done) | rfl
theorem rmI19_1 (l : Launch) (Z : State) (a0 : Array Value) (hw : HW a0 Z) (ws : List Jvm.Cond) (n0 : Nat) (h0 : Heap) (O0 : Old Z n0 h0)  (b0_ : Addr) (kb_ : ClassId) (c0_ : Int32) (Vb : Arv Z h0 b0_ kb_ .byte (1 : Int32) [(yb c0_)] (.int 0)) :
  Meets1 l ym14 jdk_43_method_23_code 6 (some .int) ws (mkR 0 0 0 0) #[(.ref b0_), (.int 46), (.int 0), (.int 1)] Z h0 (fun v h L => ∃ r : Int32, v = some (.int r) ∧ Fr n0 L ∧ Keep h0 h [] ∧ ((r = 0 ∧ (c0_.toInt8.toInt32) = (46 : Int32)) ∨ (r = -1 ∧ ¬ (c0_.toInt8.toInt32) = (46 : Int32)))) := by
 refine MetFree.of_bodySF (plainFor_of_name pn19) hisR ?_
 intro p e s m args below meth c s₁ Bd hml0 hP hK
 obtain ⟨rfl, hZ, hh⟩ := hP
 have hx := Bd.exec
 have hby := Bd.bytes
 have X0 : Stand p l e (mkR 0 0 0 0) s m #[(.ref b0_), (.int 46), (.int 0), (.int 1)] below meth c s₁ [] 0 0 := Stand.of_body Bd
 have e0 : s₁.heap = h0 := by rw [← hh, Bd.state]; rfl
 have N0 := Fr.nil n0
 show Ends _ _ _ _ s₁ (entryFrame m #[(.ref b0_), (.int 46), (.int 0), (.int 1)] 6) (mkR 0 0 0 0).cells (mkR 0 0 0 0).slots (fun v h L => ∃ r : Int32, v = some (.int r) ∧ Fr n0 L ∧ Keep h0 h [] ∧ ((r = 0 ∧ (c0_.toInt8.toInt32) = (46 : Int32)) ∨ (r = -1 ∧ ¬ (c0_.toInt8.toInt32) = (46 : Int32))))
 refine Ends.go (fun _ k => castTop (ef19_riii m b0_ (46 : Int32) (0 : Int32) (1 : Int32)) k) ?_
 have K0 := Keep.refl h0 []
 refine wilN X0 hx hby d19_0 rfl ?_
 refine .go (fun _ => XS.i2b X0.here hx rfl (hb hby d19_1) rfl) ?_
 refine wst X0 hx hby d19_2 (l' := #[cr b0_, ci 46, ci 0, ci 1, ci 46, cu]) rfl ?_
 refine wilN X0 hx hby d19_4 rfl ?_
 refine wst X0 hx hby d19_5 (l' := #[cr b0_, ci 46, ci 0, ci 1, ci 46, ci 0]) rfl ?_
 refine wil X0 hx hby d19_7 rfl ?_
 refine wilN X0 hx hby d19_9 rfl ?_
 refine wcn X0 hx hby d19_10 (tlt (by decide : (0 : Int32) < (1 : Int32))).2.1 ?_
 refine walN X0 hx hby d19_13 rfl rfl ?_
 refine wil X0 hx hby d19_14 rfl ?_
 obtain ⟨cl23, Ar23, q23, S23, M23, H23, G23⟩ := id Vb
 have hin23 := inb_of (j := (0 : Int32)) S23 ⟨by decide, by decide⟩
 refine Ends.go (X0.baloadBytes hx (j := (0 : Int32)) (v := (yb c0_)) (by rw [e0]; exact Ar23.1) (State.isArrayOf_alike hZ.alike Ar23.2.1) Ar23.2.2 hin23 (H23.at hin23 rfl) (g := (mkF m 16 #[cr b0_, ci 46, ci 0, ci 1, ci 46, ci 0] [(.int 0), (.ref b0_)])) rfl rfl (hb hby d19_16)) ?_
 refine wil X0 hx hby d19_17 rfl ?_
 by_cases hc19_24 : (c0_.toInt8.toInt32) = (46 : Int32)
 ·refine wcn X0 hx hby d19_19 (teq hc19_24).2 ?_
  refine wil X0 hx hby d19_22 rfl ?_
  refine Ends.ret X0 hx Bd.notSynchronized (t := .int) Bd.returns rfl (Or.inl ⟨rfl, by simp, _, rfl⟩) (hb hby d19_24) (by decide) (by decide) ?_
  rw [e0]
  exact ⟨(0 : Int32), rfl, N0, K0, Or.inl ⟨rfl, hc19_24⟩⟩
 ·refine wcy (pc := 19) (pc' := 25) X0 hx hby d19_19 (feq hc19_24).2 ?_
  refine wii X0 hx hby d19_25 (l' := #[cr b0_, ci 46, ci 0, ci 1, ci 46, ci 1]) rfl rfl ?_
  refine wgo (pc := 28) (pc' := 7) X0 hx hby d19_28 ?_
  refine wil X0 hx hby d19_7 rfl ?_
  refine wilN X0 hx hby d19_9 rfl ?_
  refine wcy (pc := 10) (pc' := 31) X0 hx hby d19_10 (flt (by decide : ¬ ((1 : Int32) < (1 : Int32)))).2.1 ?_
  refine wic X0 hx hby d19_31 ?_
  refine Ends.ret X0 hx Bd.notSynchronized (t := .int) Bd.returns rfl (Or.inl ⟨rfl, by simp, _, rfl⟩) (hb hby d19_32) (by decide) (by decide) ?_
  rw [e0]
  exact ⟨(-1 : Int32), rfl, N0, K0, Or.inr (⟨rfl, hc19_24⟩)⟩

theorem rx15_28 (l : Launch) (Z : State) (a0 : Array Value) (hw : HW a0 Z) (ws : List Jvm.Cond) (n0 : Nat) (h0 : Heap) (O0 : Old Z n0 h0)    :
  Meets1 l ym7 jdk_29_method_69_code 2 (some .int) ws (mkR 0 0 0 0) #[(.int 1), (.int 1)] Z h0 (fun v h L => v = some (.int 1) ∧ Fr n0 L ∧ Keep h0 h []) := by
 refine MetFree.of_bodySF (Jvm.Free.JP.mathPlain rfl (by decide +kernel)) hisR ?_
 intro p e s m args below meth c s₁ Bd hml0 hP hK
 obtain ⟨rfl, hZ, hh⟩ := hP
 have hx := Bd.exec
 have hby := Bd.bytes
 have X0 : Stand p l e (mkR 0 0 0 0) s m #[(.int 1), (.int 1)] below meth c s₁ [] 0 0 := Stand.of_body Bd
 have e0 : s₁.heap = h0 := by rw [← hh, Bd.state]; rfl
 have N0 := Fr.nil n0
 show Ends _ _ _ _ s₁ (entryFrame m #[(.int 1), (.int 1)] 2) (mkR 0 0 0 0).cells (mkR 0 0 0 0).slots (fun v h L => v = some (.int 1) ∧ Fr n0 L ∧ Keep h0 h [])
 refine Ends.go (fun _ k => castTop (ef15_ii m (1 : Int32) (1 : Int32)) k) ?_
 have K0 := Keep.refl h0 []
 show Ends _ _ _ _ s₁ (mkF m 0 #[ci 1, ci 1] []) _ _ _
 refine wilN X0 hx hby d15_0 rfl ?_
 refine wilN X0 hx hby d15_1 rfl ?_
 refine wcn X0 hx hby d15_2 (flt (by decide : ¬ ((1 : Int32) < (1 : Int32)))).2.2.1 ?_
 refine wilN X0 hx hby d15_5 rfl ?_
 refine wgo (pc := 6) (pc' := 10) X0 hx hby d15_6 ?_
 refine Ends.ret X0 hx Bd.notSynchronized (t := .int) Bd.returns rfl (Or.inl ⟨rfl, by simp, _, rfl⟩) (hb hby d15_10) (by decide) (by decide) ?_
 rw [e0]
 exact ⟨rfl, N0, K0⟩

theorem d12_29 : decode jdk_43_method_22_code 29 = .ok (.aload_n 0, 1) := by decide +kernel
theorem d12_30 : decode jdk_43_method_22_code 30 = .ok (.iload_n 1, 1) := by decide +kernel
theorem d12_31 : decode jdk_43_method_22_code 31 = .ok (.iload_n 2, 1) := by decide +kernel
theorem d12_32 : decode jdk_43_method_22_code 32 = .ok (.iload_n 3, 1) := by decide +kernel
theorem d12_33 : decode jdk_43_method_22_code 33 = .ok (.invokestatic 95, 3) := by decide +kernel
theorem d12_36 : decode jdk_43_method_22_code 36 = .ok (.ireturn, 1) := by decide +kernel
theorem rmI12_1 (l : Launch) (Z : State) (a0 : Array Value) (hw : HW a0 Z) (ws : List Jvm.Cond) (n0 : Nat) (h0 : Heap) (O0 : Old Z n0 h0)  (b0_ : Addr) (kb_ : ClassId) (c0_ : Int32) (Vb : Arv Z h0 b0_ kb_ .byte (1 : Int32) [(yb c0_)] (.int 0)) :
  Meets1 l ym8 jdk_43_method_22_code 4 (some .int) ws (mkR 1 0 0 25) #[(.ref b0_), (.int 46), (.int 0), (.int 1)] Z h0 (fun v h L => ∃ r : Int32, v = some (.int r) ∧ Fr n0 L ∧ Keep h0 h [] ∧ ((r = 0 ∧ (c0_.toInt8.toInt32) = (46 : Int32)) ∨ (r = -1 ∧ ¬ (c0_.toInt8.toInt32) = (46 : Int32)))) := by
 refine MetFree.of_bodySF (plainFor_of_name pn12) hisR ?_
 intro p e s m args below meth c s₁ Bd hml0 hP hK
 obtain ⟨rfl, hZ, hh⟩ := hP
 have hx := Bd.exec
 have hby := Bd.bytes
 have hml : c.maxLocals = 4 := hml0
 have hown : s.vm.findClass "java/lang/StringLatin1" = some m.cls := findClass_of_methodNamed Bd.named
 have X0 : Stand p l e (mkR 1 0 0 25) s m #[(.ref b0_), (.int 46), (.int 0), (.int 1)] below meth c s₁ [] 0 0 := Stand.of_body Bd
 have e0 : s₁.heap = h0 := by rw [← hh, Bd.state]; rfl
 have N0 := Fr.nil n0
 show Ends _ _ _ _ s₁ (entryFrame m #[(.ref b0_), (.int 46), (.int 0), (.int 1)] 4) (mkR 1 0 0 25).cells (mkR 1 0 0 25).slots (fun v h L => ∃ r : Int32, v = some (.int r) ∧ Fr n0 L ∧ Keep h0 h [] ∧ ((r = 0 ∧ (c0_.toInt8.toInt32) = (46 : Int32)) ∨ (r = -1 ∧ ¬ (c0_.toInt8.toInt32) = (46 : Int32))))
 refine Ends.go (fun _ k => castTop (ef12_riii m b0_ (46 : Int32) (0 : Int32) (1 : Int32)) k) ?_
 have K0 := Keep.refl h0 []
 refine wilN X0 hx hby d12_0 rfl ?_
 obtain ⟨_, _, ⟨T25, L25, k25, n25⟩, -, X25, ⟨Lc25, hQ25, l25, y25, z25⟩, st25⟩ := Jvm.LawKit.callS X0 hx (y := ym5) hown (ov hZ hw 63 rfl) (ov hZ hw 64 rfl) (ov hZ hw 61 rfl) (ov hZ hw 65 rfl) (by decide) (own_backOf (W := 0) (rx13_1 l Z a0 hw [] n0 h0 O0   ) hZ (ow hw 65 rfl) (ow hw 61 rfl) (by decide) (by decide)) (g := (mkF m 1 #[cr b0_, ci 46, ci 0, ci 1] [(.int 46)])) rfl (by rw [hml]; rfl) (argsL := [(.int 46)]) (rest := []) (lenOf pdx_0 rfl) rfl (own_w rfl) (hb hby d12_1) (fun _ _ => ⟨rfl, e0, (by decide : 0 + 0 ≤ _), (by decide : 0 + 0 ≤ _)⟩)
 dsimp only [Pt.U, Pt.locs, Pt.cells, Pt.slots] at X25 l25 y25 z25 st25 hQ25
 subst l25 y25 z25
 obtain ⟨rfl, N25q, K25c⟩ := hQ25
 have N25 := Fr.app N0 N25q
 refine Ends.go st25 ?_
 obtain ⟨h25, e25⟩ : ∃ z, T25.heap = z := ⟨_, rfl⟩
 rw [e25] at K25c
 have K25 := K0.trans K25c all0
 have O25 := O0.keep K25c all0
 refine wiy (pc := 4) (pc' := 9) X25 hx hby d12_4 ((if0 _ _).trans (feq (by decide : ¬ ((1 : Int32) = (0 : Int32)))).2) ?_
 refine wilN X25 hx hby d12_9 rfl ?_
 refine wic X25 hx hby d12_10 ?_
 obtain ⟨_, _, ⟨T26, L26, k26, n26⟩, -, X26, ⟨Lc26, hQ26, l26, y26, z26⟩, st26⟩ := Jvm.LawKit.callS X25 hx (y := ym6) hown (ov hZ hw 66 rfl) (ov hZ hw 67 rfl) (ov hZ hw 68 rfl) (ov hZ hw 69 rfl) (by decide) (own_backOf (W := 0) (rx14_3 l Z a0 hw [] n0 h25 O25   ) hZ (ow hw 69 rfl) (ow hw 68 rfl) (by decide) (by decide)) (g := (mkF m 11 #[cr b0_, ci 46, ci 0, ci 1] [(.int 0), (.int 0)])) rfl (by rw [hml]; rfl) (argsL := [(.int 0), (.int 0)]) (rest := []) (lenOf pdx_1 rfl) rfl (own_w rfl) (hb hby d12_11) (fun _ _ => ⟨rfl, e25, (by decide : 0 + 0 ≤ _), (by decide : 0 + 0 ≤ _)⟩)
 dsimp only [Pt.U, Pt.locs, Pt.cells, Pt.slots] at X26 l26 y26 z26 st26 hQ26
 subst l26 y26 z26
 obtain ⟨rfl, N26q, K26c⟩ := hQ26
 have N26 := Fr.app N25 N26q
 refine Ends.go st26 ?_
 obtain ⟨h26, e26⟩ : ∃ z, T26.heap = z := ⟨_, rfl⟩
 rw [e26] at K26c
 have K26 := K25.trans K26c all0
 have O26 := O25.keep K26c all0
 refine wstN X26 hx hby d12_14 (l' := #[cr b0_, ci 46, ci 0, ci 1]) rfl ?_
 refine wilN X26 hx hby d12_15 rfl ?_
 refine walN X26 hx hby d12_16 rfl rfl ?_
 obtain ⟨cl27, Ar27, q27, S27, M27, H27, G27⟩ := id ((Vb.keep K25c nin0).keep K26c nin0)
 refine Ends.go (X26.arraylength hx (by rw [e26]; exact Ar27.1) (State.isArrayOf_alike hZ.alike Ar27.2.1) (g := (mkF m 17 #[cr b0_, ci 46, ci 0, ci 1] [(.ref b0_), (.int 1)])) rfl rfl (hb hby d12_17)) ?_
 rw [len_of S27 M27]
 obtain ⟨_, _, ⟨T29, L29, k29, n29⟩, -, X29, ⟨Lc29, hQ29, l29, y29, z29⟩, st29⟩ := Jvm.LawKit.callS X26 hx (y := ym7) hown (ov hZ hw 70 rfl) (ov hZ hw 71 rfl) (ov hZ hw 68 rfl) (ov hZ hw 72 rfl) (by decide) (own_backOf (W := 0) (rx15_28 l Z a0 hw [] n0 h26 O26   ) hZ (ow hw 72 rfl) (ow hw 68 rfl) (by decide) (by decide)) (g := (mkF m 18 #[cr b0_, ci 46, ci 0, ci 1] [(.int 1), (.int 1)])) rfl (by rw [hml]; rfl) (argsL := [(.int 1), (.int 1)]) (rest := []) (lenOf pdx_1 rfl) rfl (own_w rfl) (hb hby d12_18) (fun _ _ => ⟨rfl, e26, (by decide : 0 + 0 ≤ _), (by decide : 0 + 0 ≤ _)⟩)
 dsimp only [Pt.U, Pt.locs, Pt.cells, Pt.slots] at X29 l29 y29 z29 st29 hQ29
 subst l29 y29 z29
 obtain ⟨rfl, N29q, K29c⟩ := hQ29
 have N29 := Fr.app N26 N29q
 refine Ends.go st29 ?_
 obtain ⟨h29, e29⟩ : ∃ z, T29.heap = z := ⟨_, rfl⟩
 rw [e29] at K29c
 have K29 := K26.trans K29c all0
 have O29 := O26.keep K29c all0
 refine wstN X29 hx hby d12_21 (l' := #[cr b0_, ci 46, ci 0, ci 1]) rfl ?_
 refine wilN X29 hx hby d12_22 rfl ?_
 refine wilN X29 hx hby d12_23 rfl ?_
 refine wcy (pc := 24) (pc' := 29) X29 hx hby d12_24 (tlt (by decide : (0 : Int32) < (1 : Int32))).1 ?_
 refine walN X29 hx hby d12_29 rfl rfl ?_
 refine wilN X29 hx hby d12_30 rfl ?_
 refine wilN X29 hx hby d12_31 rfl ?_
 refine wilN X29 hx hby d12_32 rfl ?_
 obtain ⟨_, _, ⟨T30, L30, k30, n30⟩, -, X30, ⟨Lc30, hQ30, l30, y30, z30⟩, st30⟩ := Jvm.LawKit.callS X29 hx (y := ym14) hown (ov hZ hw 83 rfl) (ov hZ hw 84 rfl) (ov hZ hw 61 rfl) (ov hZ hw 85 rfl) (by decide) (own_backOf (W := 0) (rmI19_1 l Z a0 hw [] n0 h29 O29  b0_ kb_ c0_ (((Vb.keep K25c nin0).keep K26c nin0).keep K29c nin0)) hZ (ow hw 85 rfl) (ow hw 61 rfl) (by decide) (by decide)) (g := (mkF m 33 #[cr b0_, ci 46, ci 0, ci 1] [(.int 1), (.int 0), (.int 46), (.ref b0_)])) rfl (by rw [hml]; rfl) (argsL := [(.ref b0_), (.int 46), (.int 0), (.int 1)]) (rest := []) (lenOf pdx_5 rfl) rfl (own_w rfl) (hb hby d12_33) (fun _ _ => ⟨rfl, e29, (by decide : 0 + 0 ≤ _), (by decide : 0 + 0 ≤ _)⟩)
 dsimp only [Pt.U, Pt.locs, Pt.cells, Pt.slots] at X30 l30 y30 z30 st30 hQ30
 subst l30 y30 z30
 obtain ⟨r30, rfl, N30q, K30c, hr30⟩ := hQ30
 have N30 := Fr.app N29 N30q
 refine Ends.go st30 ?_
 obtain ⟨h30, e30⟩ : ∃ z, T30.heap = z := ⟨_, rfl⟩
 rw [e30] at K30c
 have K30 := K29.trans K30c all0
 refine Ends.ret X30 hx Bd.notSynchronized (t := .int) Bd.returns rfl (Or.inl ⟨rfl, by simp, _, rfl⟩) (hb hby d12_36) (by decide) (by decide) ?_
 rw [e30]
 exact ⟨_, rfl, N30, K30, hr30⟩

theorem rx10_33 (l : Launch) (Z : State) (a0 : Array Value) (hw : HW a0 Z) (ws : List Jvm.Cond) (n0 : Nat) (h0 : Heap) (O0 : Old Z n0 h0) (G1 : Int32) (G3 : Value) (GF : GlobF Z a0 G1 G3) (s0_ : Addr) (b0_ : Addr) (kb_ : ClassId) (c0_ : Int32) (PF_s0__value : Fld Z h0 s0_ cST "value" "[B" (.ref b0_)) (PV_b0_ : Arv Z h0 b0_ kb_ .byte (1 : Int32) [(yb c0_)] (.int 0)) (PF_s0__coder : Fld Z h0 s0_ cST "coder" "B" (.int 0)) (PE_s0_ : Exa Z h0 s0_ cST) :
  Meets1 l ym11 jdk_42_method_54_code 1 (some .int) ws (mkR 1 0 0 13) #[(.ref s0_)] Z h0 (fun v h L => v = some (.int 1) ∧ Fr n0 L ∧ Keep h0 h []) := by
 refine MetFree.of_bodySF (plainFor_of_name pn10) hisR ?_
 intro p e s m args below meth c s₁ Bd hml0 hP hK
 obtain ⟨rfl, hZ, hh⟩ := hP
 have hx := Bd.exec
 have hby := Bd.bytes
 have hml : c.maxLocals = 1 := hml0
 have hown : s.vm.findClass "java/lang/String" = some m.cls := findClass_of_methodNamed Bd.named
 have X0 : Stand p l e (mkR 1 0 0 13) s m #[(.ref s0_)] below meth c s₁ [] 0 0 := Stand.of_body Bd
 have e0 : s₁.heap = h0 := by rw [← hh, Bd.state]; rfl
 have N0 := Fr.nil n0
 show Ends _ _ _ _ s₁ (entryFrame m #[(.ref s0_)] 1) (mkR 1 0 0 13).cells (mkR 1 0 0 13).slots (fun v h L => v = some (.int 1) ∧ Fr n0 L ∧ Keep h0 h [])
 refine Ends.go (fun _ k => castTop (ef10_r m s0_) k) ?_
 obtain ⟨SCS, P5, SSF, RG3, HC1, HC2, HCW⟩ := id GF
 have K0 := Keep.refl h0 []
 show Ends _ _ _ _ s₁ (mkF m 0 #[cr s0_] []) _ _ _
 refine walN X0 hx hby d10_0 rfl rfl ?_
 obtain ⟨T34, X34, e34, st34⟩ := getF X0 hx hZ hown (host := "") (Or.inl (ow hw 27 rfl)) Via.refl e0 PF_s0__value (g := (mkF m 1 #[cr s0_] [(.ref s0_)])) rfl rfl (hb hby d10_1)
 refine Ends.go st34 ?_
 obtain ⟨cl35, Ar35, q35, S35, M35, H35, G35⟩ := id PV_b0_
 refine Ends.go (X34.arraylength hx (by rw [e34]; exact Ar35.1) (State.isArrayOf_alike hZ.alike Ar35.2.1) (g := (mkF m 4 #[cr s0_] [(.ref b0_)])) rfl rfl (hb hby d10_4)) ?_
 rw [len_of S35 M35]
 refine walN X34 hx hby d10_5 rfl rfl ?_
 obtain ⟨cq36, kq36, q36a, q36b, q36c⟩ := isOf hZ e34 PE_s0_
 obtain ⟨_, _, ⟨T36, L36, k36, n36⟩, -, X36, ⟨Lc36, hQ36, l36, y36, z36⟩, st36⟩ := X34.virtualBack hx (y := ym10) (z := ym10) hown (ov hZ hw 54 rfl) (ov hZ hw 55 rfl) (notFace_of_selects (args := #[]) (ov hZ hw 57 rfl)) (ov hZ hw 57 rfl) (ov hZ hw 56 rfl) (by decide) (own_backOf (W := 1) (rx11_16 l Z a0 hw [] n0 h0 O0 G1 G3 GF s0_ PF_s0__coder) hZ (ow hw 58 rfl) (ow hw 10 rfl) (by decide) (by decide)) q36a q36c (g := (mkF m 6 #[cr s0_] [(.ref s0_), (.int 1)])) rfl (by rw [hml]; rfl) (Steps.refl _) (argsL := []) (rest := [(.int 1)]) (lenOf pdx_3 rfl) rfl (own_w rfl) (hb hby d10_6) (fun _ _ => ⟨rfl, e34, (by decide : 0 + 0 ≤ _), (by decide : 0 + 0 ≤ _)⟩)
 dsimp only [Pt.U, Pt.locs, Pt.cells, Pt.slots] at X36 l36 y36 z36 st36 hQ36
 subst l36 y36 z36
 obtain ⟨rfl, N36q, K36c⟩ := hQ36
 have N36 := Fr.app N0 N36q
 refine Ends.go (fun _ k => st36.trans k) ?_
 obtain ⟨h36, e36⟩ : ∃ z, T36.heap = z := ⟨_, rfl⟩
 rw [e36] at K36c
 have K36 := K0.trans K36c all0
 refine .go (fun _ => XS.ishr X36.here hx rfl (hb hby d10_9) rfl) ?_
 refine Ends.ret X36 hx Bd.notSynchronized (t := .int) Bd.returns rfl (Or.inl ⟨rfl, by simp, _, rfl⟩) (hb hby d10_10) (by decide) (by decide) ?_
 rw [e36]
 exact ⟨rfl, N36, K36⟩

theorem rmI8_1 (l : Launch) (Z : State) (a0 : Array Value) (hw : HW a0 Z) (ws : List Jvm.Cond) (n0 : Nat) (h0 : Heap) (O0 : Old Z n0 h0)  (G1 : Int32) (G3 : Value) (GF : GlobF Z a0 G1 G3) (s0_ : Addr) (b0_ : Addr) (kb_ : ClassId) (c0_ : Int32) (E0 : Exa Z h0 s0_ cST) (Fv : Fld Z h0 s0_ cST "value" "[B" (.ref b0_)) (Fc : Fld Z h0 s0_ cST "coder" "B" (.int 0)) (Vb : Arv Z h0 b0_ kb_ .byte (1 : Int32) [(yb c0_)] (.int 0)) :
  Meets1 l ym12 jdk_42_method_80_code 3 (some .int) ws (mkR 3 0 0 60) #[(.ref s0_), (.int 46), (.int 0)] Z h0 (fun v h L => ∃ r : Int32, v = some (.int r) ∧ Fr n0 L ∧ Keep h0 h [] ∧ ((r = 0 ∧ (c0_.toInt8.toInt32) = (46 : Int32)) ∨ (r = -1 ∧ ¬ (c0_.toInt8.toInt32) = (46 : Int32)))) := by
 refine MetFree.of_bodySF (plainFor_of_name pn8) hisR ?_
 intro p e s m args below meth c s₁ Bd hml0 hP hK
 obtain ⟨rfl, hZ, hh⟩ := hP
 have hx := Bd.exec
 have hby := Bd.bytes
 have hml : c.maxLocals = 3 := hml0
 have hown : s.vm.findClass "java/lang/String" = some m.cls := findClass_of_methodNamed Bd.named
 have X0 : Stand p l e (mkR 3 0 0 60) s m #[(.ref s0_), (.int 46), (.int 0)] below meth c s₁ [] 0 0 := Stand.of_body Bd
 have e0 : s₁.heap = h0 := by rw [← hh, Bd.state]; rfl
 have N0 := Fr.nil n0
 show Ends _ _ _ _ s₁ (entryFrame m #[(.ref s0_), (.int 46), (.int 0)] 3) (mkR 3 0 0 60).cells (mkR 3 0 0 60).slots (fun v h L => ∃ r : Int32, v = some (.int r) ∧ Fr n0 L ∧ Keep h0 h [] ∧ ((r = 0 ∧ (c0_.toInt8.toInt32) = (46 : Int32)) ∨ (r = -1 ∧ ¬ (c0_.toInt8.toInt32) = (46 : Int32))))
 refine Ends.go (fun _ k => castTop (ef8_rii m s0_ (46 : Int32) (0 : Int32)) k) ?_
 have K0 := Keep.refl h0 []
 obtain ⟨SCS, P5, SSF, RG3, HC1, HC2, HCW⟩ := id GF
 refine walN X0 hx hby d8_0 rfl rfl ?_
 obtain ⟨cq31, kq31, q31a, q31b, q31c⟩ := isOf hZ e0 E0
 obtain ⟨_, _, ⟨T31, L31, k31, n31⟩, -, X31, ⟨Lc31, hQ31, l31, y31, z31⟩, st31⟩ := X0.virtualBack hx (y := ym9) (z := ym9) hown (ov hZ hw 43 rfl) (ov hZ hw 44 rfl) (notFace_of_selects (args := #[]) (ov hZ hw 46 rfl)) (ov hZ hw 46 rfl) (ov hZ hw 45 rfl) (by decide) (own_backOf (W := 0) (rx9_8 l Z a0 hw [] n0 h0 O0 G1 G3 GF s0_ Fc) hZ (ow hw 47 rfl) (ow hw 10 rfl) (by decide) (by decide)) q31a q31c (g := (mkF m 1 #[cr s0_, ci 46, ci 0] [(.ref s0_)])) rfl (by rw [hml]; rfl) (Steps.refl _) (argsL := []) (rest := []) (lenOf pdx_2 rfl) rfl (own_w rfl) (hb hby d8_1) (fun _ _ => ⟨rfl, e0, (by decide : 0 + 0 ≤ _), (by decide : 0 + 0 ≤ _)⟩)
 dsimp only [Pt.U, Pt.locs, Pt.cells, Pt.slots] at X31 l31 y31 z31 st31 hQ31
 subst l31 y31 z31
 obtain ⟨rfl, N31q, K31c⟩ := hQ31
 have N31 := Fr.app N0 N31q
 refine Ends.go (fun _ k => st31.trans k) ?_
 obtain ⟨h31, e31⟩ : ∃ z, T31.heap = z := ⟨_, rfl⟩
 rw [e31] at K31c
 have K31 := K0.trans K31c all0
 have O31 := O0.keep K31c all0
 refine win X31 hx hby d8_4 ((if0 _ _).trans (feq (by decide : ¬ ((1 : Int32) = (0 : Int32)))).1) ?_
 refine walN X31 hx hby d8_7 rfl rfl ?_
 obtain ⟨T32, X32, e32, st32⟩ := getF X31 hx hZ hown (host := "") (Or.inl (ow hw 27 rfl)) Via.refl e31 (Fv.keep K31c nin0) (g := (mkF m 8 #[cr s0_, ci 46, ci 0] [(.ref s0_)])) rfl rfl (hb hby d8_8)
 refine Ends.go st32 ?_
 refine wilN X32 hx hby d8_11 rfl ?_
 refine wilN X32 hx hby d8_12 rfl ?_
 refine walN X32 hx hby d8_13 rfl rfl ?_
 obtain ⟨cq37, kq37, q37a, q37b, q37c⟩ := isOf hZ e32 (E0.keep K31c)
 obtain ⟨_, _, ⟨T37, L37, k37, n37⟩, -, X37, ⟨Lc37, hQ37, l37, y37, z37⟩, st37⟩ := X32.virtualBack hx (y := ym11) (z := ym11) hown (ov hZ hw 49 rfl) (ov hZ hw 50 rfl) (notFace_of_selects (args := #[]) (ov hZ hw 52 rfl)) (ov hZ hw 52 rfl) (ov hZ hw 51 rfl) (by decide) (own_backOf (W := 3) (rx10_33 l Z a0 hw [] n0 h31 O31 G1 G3 GF s0_ b0_ kb_ c0_ (Fv.keep K31c nin0) (Vb.keep K31c nin0) (Fc.keep K31c nin0) (E0.keep K31c)) hZ (ow hw 53 rfl) (ow hw 10 rfl) (by decide) (by decide)) q37a q37c (g := (mkF m 14 #[cr s0_, ci 46, ci 0] [(.ref s0_), (.int 0), (.int 46), (.ref b0_)])) rfl (by rw [hml]; rfl) (Steps.refl _) (argsL := []) (rest := [(.int 0), (.int 46), (.ref b0_)]) (lenOf pdx_4 rfl) rfl (own_w rfl) (hb hby d8_14) (fun _ _ => ⟨rfl, e32, (by decide : 0 + 0 ≤ _), (by decide : 0 + 0 ≤ _)⟩)
 dsimp only [Pt.U, Pt.locs, Pt.cells, Pt.slots] at X37 l37 y37 z37 st37 hQ37
 subst l37 y37 z37
 obtain ⟨rfl, N37q, K37c⟩ := hQ37
 have N37 := Fr.app N31 N37q
 refine Ends.go (fun _ k => st37.trans k) ?_
 obtain ⟨h37, e37⟩ : ∃ z, T37.heap = z := ⟨_, rfl⟩
 rw [e37] at K37c
 have K37 := K31.trans K37c all0
 have O37 := O31.keep K37c all0
 obtain ⟨_, _, ⟨T38, L38, k38, n38⟩, -, X38, ⟨Lc38, hQ38, l38, y38, z38⟩, st38⟩ := Jvm.LawKit.callS X37 hx (y := ym8) hown (ov hZ hw 59 rfl) (ov hZ hw 60 rfl) (ov hZ hw 61 rfl) (ov hZ hw 62 rfl) (by decide) (own_backOf (W := 0) (rmI12_1 l Z a0 hw [] n0 h37 O37  b0_ kb_ c0_ ((Vb.keep K31c nin0).keep K37c nin0)) hZ (ow hw 62 rfl) (ow hw 61 rfl) (by decide) (by decide)) (g := (mkF m 17 #[cr s0_, ci 46, ci 0] [(.int 1), (.int 0), (.int 46), (.ref b0_)])) rfl (by rw [hml]; rfl) (argsL := [(.ref b0_), (.int 46), (.int 0), (.int 1)]) (rest := []) (lenOf pdx_5 rfl) rfl (own_w rfl) (hb hby d8_17) (fun _ _ => ⟨rfl, e37, (by decide : 0 + 0 ≤ _), (by decide : 0 + 0 ≤ _)⟩)
 dsimp only [Pt.U, Pt.locs, Pt.cells, Pt.slots] at X38 l38 y38 z38 st38 hQ38
 subst l38 y38 z38
 obtain ⟨r38, rfl, N38q, K38c, hr38⟩ := hQ38
 have N38 := Fr.app N37 N38q
 refine Ends.go st38 ?_
 obtain ⟨h38, e38⟩ : ∃ z, T38.heap = z := ⟨_, rfl⟩
 rw [e38] at K38c
 have K38 := K37.trans K38c all0
 refine wgo (pc := 20) (pc' := 36) X38 hx hby d8_20 ?_
 refine Ends.ret X38 hx Bd.notSynchronized (t := .int) Bd.returns rfl (Or.inl ⟨rfl, by simp, _, rfl⟩) (hb hby d8_36) (by decide) (by decide) ?_
 rw [e38]
 exact ⟨_, rfl, N38, K38, hr38⟩

theorem rmI7_1 (l : Launch) (Z : State) (a0 : Array Value) (hw : HW a0 Z) (ws : List Jvm.Cond) (n0 : Nat) (h0 : Heap) (O0 : Old Z n0 h0)  (G1 : Int32) (G3 : Value) (GF : GlobF Z a0 G1 G3) (s0_ : Addr) (b0_ : Addr) (kb_ : ClassId) (c0_ : Int32) (E0 : Exa Z h0 s0_ cST) (Fv : Fld Z h0 s0_ cST "value" "[B" (.ref b0_)) (Fc : Fld Z h0 s0_ cST "coder" "B" (.int 0)) (Vb : Arv Z h0 b0_ kb_ .byte (1 : Int32) [(yb c0_)] (.int 0)) :
  Meets1 l ym13 jdk_42_method_79_code 2 (some .int) ws (mkR 4 0 0 80) #[(.ref s0_), (.int 46)] Z h0 (fun v h L => ∃ r : Int32, v = some (.int r) ∧ Fr n0 L ∧ Keep h0 h [] ∧ ((r = 0 ∧ (c0_.toInt8.toInt32) = (46 : Int32)) ∨ (r = -1 ∧ ¬ (c0_.toInt8.toInt32) = (46 : Int32)))) := by
 refine MetFree.of_bodySF (plainFor_of_name pn7) hisR ?_
 intro p e s m args below meth c s₁ Bd hml0 hP hK
 obtain ⟨rfl, hZ, hh⟩ := hP
 have hx := Bd.exec
 have hby := Bd.bytes
 have hml : c.maxLocals = 2 := hml0
 have hown : s.vm.findClass "java/lang/String" = some m.cls := findClass_of_methodNamed Bd.named
 have X0 : Stand p l e (mkR 4 0 0 80) s m #[(.ref s0_), (.int 46)] below meth c s₁ [] 0 0 := Stand.of_body Bd
 have e0 : s₁.heap = h0 := by rw [← hh, Bd.state]; rfl
 have N0 := Fr.nil n0
 show Ends _ _ _ _ s₁ (entryFrame m #[(.ref s0_), (.int 46)] 2) (mkR 4 0 0 80).cells (mkR 4 0 0 80).slots (fun v h L => ∃ r : Int32, v = some (.int r) ∧ Fr n0 L ∧ Keep h0 h [] ∧ ((r = 0 ∧ (c0_.toInt8.toInt32) = (46 : Int32)) ∨ (r = -1 ∧ ¬ (c0_.toInt8.toInt32) = (46 : Int32))))
 refine Ends.go (fun _ k => castTop (ef7_ri m s0_ (46 : Int32)) k) ?_
 have K0 := Keep.refl h0 []
 obtain ⟨SCS, P5, SSF, RG3, HC1, HC2, HCW⟩ := id GF
 refine walN X0 hx hby d7_0 rfl rfl ?_
 refine wilN X0 hx hby d7_1 rfl ?_
 refine wic X0 hx hby d7_2 ?_
 obtain ⟨cq39, kq39, q39a, q39b, q39c⟩ := isOf hZ e0 E0
 obtain ⟨_, _, ⟨T39, L39, k39, n39⟩, -, X39, ⟨Lc39, hQ39, l39, y39, z39⟩, st39⟩ := X0.virtualBack hx (y := ym12) (z := ym12) hown (ov hZ hw 38 rfl) (ov hZ hw 39 rfl) (notFace_of_selects (args := #[]) (ov hZ hw 41 rfl)) (ov hZ hw 41 rfl) (ov hZ hw 40 rfl) (by decide) (own_backOf (W := 0) (rmI8_1 l Z a0 hw [] n0 h0 O0 G1 G3 GF s0_ b0_ kb_ c0_ E0 Fv Fc Vb) hZ (ow hw 42 rfl) (ow hw 10 rfl) (by decide) (by decide)) q39a q39c (g := (mkF m 3 #[cr s0_, ci 46] [(.int 0), (.int 46), (.ref s0_)])) rfl (by rw [hml]; rfl) (Steps.refl _) (argsL := [(.int 46), (.int 0)]) (rest := []) (lenOf pdx_1 rfl) rfl (own_w rfl) (hb hby d7_3) (fun _ _ => ⟨rfl, e0, (by decide : 0 + 0 ≤ _), (by decide : 0 + 0 ≤ _)⟩)
 dsimp only [Pt.U, Pt.locs, Pt.cells, Pt.slots] at X39 l39 y39 z39 st39 hQ39
 subst l39 y39 z39
 obtain ⟨r39, rfl, N39q, K39c, hr39⟩ := hQ39
 have N39 := Fr.app N0 N39q
 refine Ends.go (fun _ k => st39.trans k) ?_
 obtain ⟨h39, e39⟩ : ∃ z, T39.heap = z := ⟨_, rfl⟩
 rw [e39] at K39c
 have K39 := K0.trans K39c all0
 refine Ends.ret X39 hx Bd.notSynchronized (t := .int) Bd.returns rfl (Or.inl ⟨rfl, by simp, _, rfl⟩) (hb hby d7_6) (by decide) (by decide) ?_
 rw [e39]
 exact ⟨_, rfl, N39, K39, hr39⟩

theorem rmI19_2 (l : Launch) (Z : State) (a0 : Array Value) (hw : HW a0 Z) (ws : List Jvm.Cond) (n0 : Nat) (h0 : Heap) (O0 : Old Z n0 h0)  (b0_ : Addr) (kb_ : ClassId) (c0_ c1_ : Int32) (Vb : Arv Z h0 b0_ kb_ .byte (2 : Int32) [(yb c0_), (yb c1_)] (.int 0)) :
  Meets1 l ym14 jdk_43_method_23_code 6 (some .int) ws (mkR 0 0 0 0) #[(.ref b0_), (.int 46), (.int 0), (.int 2)] Z h0 (fun v h L => ∃ r : Int32, v = some (.int r) ∧ Fr n0 L ∧ Keep h0 h [] ∧ ((r = 0 ∧ (c0_.toInt8.toInt32) = (46 : Int32)) ∨ (r = 1 ∧ ¬ (c0_.toInt8.toInt32) = (46 : Int32) ∧ (c1_.toInt8.toInt32) = (46 : Int32)) ∨ (r = -1 ∧ ¬ (c0_.toInt8.toInt32) = (46 : Int32) ∧ ¬ (c1_.toInt8.toInt32) = (46 : Int32)))) := by
 refine MetFree.of_bodySF (plainFor_of_name pn19) hisR ?_
 intro p e s m args below meth c s₁ Bd hml0 hP hK
 obtain ⟨rfl, hZ, hh⟩ := hP
 have hx := Bd.exec
 have hby := Bd.bytes
 have X0 : Stand p l e (mkR 0 0 0 0) s m #[(.ref b0_), (.int 46), (.int 0), (.int 2)] below meth c s₁ [] 0 0 := Stand.of_body Bd
 have e0 : s₁.heap = h0 := by rw [← hh, Bd.state]; rfl
 have N0 := Fr.nil n0
 show Ends _ _ _ _ s₁ (entryFrame m #[(.ref b0_), (.int 46), (.int 0), (.int 2)] 6) (mkR 0 0 0 0).cells (mkR 0 0 0 0).slots (fun v h L => ∃ r : Int32, v = some (.int r) ∧ Fr n0 L ∧ Keep h0 h [] ∧ ((r = 0 ∧ (c0_.toInt8.toInt32) = (46 : Int32)) ∨ (r = 1 ∧ ¬ (c0_.toInt8.toInt32) = (46 : Int32) ∧ (c1_.toInt8.toInt32) = (46 : Int32)) ∨ (r = -1 ∧ ¬ (c0_.toInt8.toInt32) = (46 : Int32) ∧ ¬ (c1_.toInt8.toInt32) = (46 : Int32))))
 refine Ends.go (fun _ k => castTop (ef19_riii m b0_ (46 : Int32) (0 : Int32) (2 : Int32)) k) ?_
 have K0 := Keep.refl h0 []
 refine wilN X0 hx hby d19_0 rfl ?_
 refine .go (fun _ => XS.i2b X0.here hx rfl (hb hby d19_1) rfl) ?_
 refine wst X0 hx hby d19_2 (l' := #[cr b0_, ci 46, ci 0, ci 2, ci 46, cu]) rfl ?_
 refine wilN X0 hx hby d19_4 rfl ?_
 refine wst X0 hx hby d19_5 (l' := #[cr b0_, ci 46, ci 0, ci 2, ci 46, ci 0]) rfl ?_
 refine wil X0 hx hby d19_7 rfl ?_
 refine wilN X0 hx hby d19_9 rfl ?_
 refine wcn X0 hx hby d19_10 (tlt (by decide : (0 : Int32) < (2 : Int32))).2.1 ?_
 refine walN X0 hx hby d19_13 rfl rfl ?_
 refine wil X0 hx hby d19_14 rfl ?_
 obtain ⟨cl40, Ar40, q40, S40, M40, H40, G40⟩ := id Vb
 have hin40 := inb_of (j := (0 : Int32)) S40 ⟨by decide, by decide⟩
 refine Ends.go (X0.baloadBytes hx (j := (0 : Int32)) (v := (yb c0_)) (by rw [e0]; exact Ar40.1) (State.isArrayOf_alike hZ.alike Ar40.2.1) Ar40.2.2 hin40 (H40.at hin40 rfl) (g := (mkF m 16 #[cr b0_, ci 46, ci 0, ci 2, ci 46, ci 0] [(.int 0), (.ref b0_)])) rfl rfl (hb hby d19_16)) ?_
 refine wil X0 hx hby d19_17 rfl ?_
 by_cases hc19_41 : (c0_.toInt8.toInt32) = (46 : Int32)
 ·refine wcn X0 hx hby d19_19 (teq hc19_41).2 ?_
  refine wil X0 hx hby d19_22 rfl ?_
  refine Ends.ret X0 hx Bd.notSynchronized (t := .int) Bd.returns rfl (Or.inl ⟨rfl, by simp, _, rfl⟩) (hb hby d19_24) (by decide) (by decide) ?_
  rw [e0]
  exact ⟨(0 : Int32), rfl, N0, K0, Or.inl ⟨rfl, hc19_41⟩⟩
 ·refine wcy (pc := 19) (pc' := 25) X0 hx hby d19_19 (feq hc19_41).2 ?_
  refine wii X0 hx hby d19_25 (l' := #[cr b0_, ci 46, ci 0, ci 2, ci 46, ci 1]) rfl rfl ?_
  refine wgo (pc := 28) (pc' := 7) X0 hx hby d19_28 ?_
  refine wil X0 hx hby d19_7 rfl ?_
  refine wilN X0 hx hby d19_9 rfl ?_
  refine wcn X0 hx hby d19_10 (tlt (by decide : (1 : Int32) < (2 : Int32))).2.1 ?_
  refine walN X0 hx hby d19_13 rfl rfl ?_
  refine wil X0 hx hby d19_14 rfl ?_
  obtain ⟨cl42, Ar42, q42, S42, M42, H42, G42⟩ := id Vb
  have hin42 := inb_of (j := (1 : Int32)) S42 ⟨by decide, by decide⟩
  refine Ends.go (X0.baloadBytes hx (j := (1 : Int32)) (v := (yb c1_)) (by rw [e0]; exact Ar42.1) (State.isArrayOf_alike hZ.alike Ar42.2.1) Ar42.2.2 hin42 (H42.at hin42 rfl) (g := (mkF m 16 #[cr b0_, ci 46, ci 0, ci 2, ci 46, ci 1] [(.int 1), (.ref b0_)])) rfl rfl (hb hby d19_16)) ?_
  refine wil X0 hx hby d19_17 rfl ?_
  by_cases hc19_43 : (c1_.toInt8.toInt32) = (46 : Int32)
  ·refine wcn X0 hx hby d19_19 (teq hc19_43).2 ?_
   refine wil X0 hx hby d19_22 rfl ?_
   refine Ends.ret X0 hx Bd.notSynchronized (t := .int) Bd.returns rfl (Or.inl ⟨rfl, by simp, _, rfl⟩) (hb hby d19_24) (by decide) (by decide) ?_
   rw [e0]
   exact ⟨(1 : Int32), rfl, N0, K0, Or.inr (Or.inl ⟨rfl, hc19_41, hc19_43⟩)⟩
  ·refine wcy (pc := 19) (pc' := 25) X0 hx hby d19_19 (feq hc19_43).2 ?_
   refine wii X0 hx hby d19_25 (l' := #[cr b0_, ci 46, ci 0, ci 2, ci 46, ci 2]) rfl rfl ?_
   refine wgo (pc := 28) (pc' := 7) X0 hx hby d19_28 ?_
   show Ends _ _ _ _ s₁ (mkF m 7 #[cr b0_, ci 46, ci 0, ci 2, ci 46, ci 2] []) _ _ _
   refine wil X0 hx hby d19_7 rfl ?_
   refine wilN X0 hx hby d19_9 rfl ?_
   refine wcy (pc := 10) (pc' := 31) X0 hx hby d19_10 (flt (by decide : ¬ ((2 : Int32) < (2 : Int32)))).2.1 ?_
   refine wic X0 hx hby d19_31 ?_
   refine Ends.ret X0 hx Bd.notSynchronized (t := .int) Bd.returns rfl (Or.inl ⟨rfl, by simp, _, rfl⟩) (hb hby d19_32) (by decide) (by decide) ?_
   rw [e0]
   exact ⟨(-1 : Int32), rfl, N0, K0, Or.inr (Or.inr (⟨rfl, hc19_41, hc19_43⟩))⟩

theorem rx15_47 (l : Launch) (Z : State) (a0 : Array Value) (hw : HW a0 Z) (ws : List Jvm.Cond) (n0 : Nat) (h0 : Heap) (O0 : Old Z n0 h0)    :
  Meets1 l ym7 jdk_29_method_69_code 2 (some .int) ws (mkR 0 0 0 0) #[(.int 2), (.int 2)] Z h0 (fun v h L => v = some (.int 2) ∧ Fr n0 L ∧ Keep h0 h []) := by
 refine MetFree.of_bodySF (Jvm.Free.JP.mathPlain rfl (by decide +kernel)) hisR ?_
 intro p e s m args below meth c s₁ Bd hml0 hP hK
 obtain ⟨rfl, hZ, hh⟩ := hP
 have hx := Bd.exec
 have hby := Bd.bytes
 have X0 : Stand p l e (mkR 0 0 0 0) s m #[(.int 2), (.int 2)] below meth c s₁ [] 0 0 := Stand.of_body Bd
 have e0 : s₁.heap = h0 := by rw [← hh, Bd.state]; rfl
 have N0 := Fr.nil n0
 show Ends _ _ _ _ s₁ (entryFrame m #[(.int 2), (.int 2)] 2) (mkR 0 0 0 0).cells (mkR 0 0 0 0).slots (fun v h L => v = some (.int 2) ∧ Fr n0 L ∧ Keep h0 h [])
 refine Ends.go (fun _ k => castTop (ef15_ii m (2 : Int32) (2 : Int32)) k) ?_
 have K0 := Keep.refl h0 []
 show Ends _ _ _ _ s₁ (mkF m 0 #[ci 2, ci 2] []) _ _ _
 refine wilN X0 hx hby d15_0 rfl ?_
 refine wilN X0 hx hby d15_1 rfl ?_
 refine wcn X0 hx hby d15_2 (flt (by decide : ¬ ((2 : Int32) < (2 : Int32)))).2.2.1 ?_
 refine wilN X0 hx hby d15_5 rfl ?_
 refine wgo (pc := 6) (pc' := 10) X0 hx hby d15_6 ?_
 refine Ends.ret X0 hx Bd.notSynchronized (t := .int) Bd.returns rfl (Or.inl ⟨rfl, by simp, _, rfl⟩) (hb hby d15_10) (by decide) (by decide) ?_
 rw [e0]
 exact ⟨rfl, N0, K0⟩

theorem rmI12_2 (l : Launch) (Z : State) (a0 : Array Value) (hw : HW a0 Z) (ws : List Jvm.Cond) (n0 : Nat) (h0 : Heap) (O0 : Old Z n0 h0)  (b0_ : Addr) (kb_ : ClassId) (c0_ c1_ : Int32) (Vb : Arv Z h0 b0_ kb_ .byte (2 : Int32) [(yb c0_), (yb c1_)] (.int 0)) :
  Meets1 l ym8 jdk_43_method_22_code 4 (some .int) ws (mkR 1 0 0 25) #[(.ref b0_), (.int 46), (.int 0), (.int 2)] Z h0 (fun v h L => ∃ r : Int32, v = some (.int r) ∧ Fr n0 L ∧ Keep h0 h [] ∧ ((r = 0 ∧ (c0_.toInt8.toInt32) = (46 : Int32)) ∨ (r = 1 ∧ ¬ (c0_.toInt8.toInt32) = (46 : Int32) ∧ (c1_.toInt8.toInt32) = (46 : Int32)) ∨ (r = -1 ∧ ¬ (c0_.toInt8.toInt32) = (46 : Int32) ∧ ¬ (c1_.toInt8.toInt32) = (46 : Int32)))) := by
 refine MetFree.of_bodySF (plainFor_of_name pn12) hisR ?_
 intro p e s m args below meth c s₁ Bd hml0 hP hK
 obtain ⟨rfl, hZ, hh⟩ := hP
 have hx := Bd.exec
 have hby := Bd.bytes
 have hml : c.maxLocals = 4 := hml0
 have hown : s.vm.findClass "java/lang/StringLatin1" = some m.cls := findClass_of_methodNamed Bd.named
 have X0 : Stand p l e (mkR 1 0 0 25) s m #[(.ref b0_), (.int 46), (.int 0), (.int 2)] below meth c s₁ [] 0 0 := Stand.of_body Bd
 have e0 : s₁.heap = h0 := by rw [← hh, Bd.state]; rfl
 have N0 := Fr.nil n0
 show Ends _ _ _ _ s₁ (entryFrame m #[(.ref b0_), (.int 46), (.int 0), (.int 2)] 4) (mkR 1 0 0 25).cells (mkR 1 0 0 25).slots (fun v h L => ∃ r : Int32, v = some (.int r) ∧ Fr n0 L ∧ Keep h0 h [] ∧ ((r = 0 ∧ (c0_.toInt8.toInt32) = (46 : Int32)) ∨ (r = 1 ∧ ¬ (c0_.toInt8.toInt32) = (46 : Int32) ∧ (c1_.toInt8.toInt32) = (46 : Int32)) ∨ (r = -1 ∧ ¬ (c0_.toInt8.toInt32) = (46 : Int32) ∧ ¬ (c1_.toInt8.toInt32) = (46 : Int32))))
 refine Ends.go (fun _ k => castTop (ef12_riii m b0_ (46 : Int32) (0 : Int32) (2 : Int32)) k) ?_
 have K0 := Keep.refl h0 []
 refine wilN X0 hx hby d12_0 rfl ?_
 obtain ⟨_, _, ⟨T44, L44, k44, n44⟩, -, X44, ⟨Lc44, hQ44, l44, y44, z44⟩, st44⟩ := Jvm.LawKit.callS X0 hx (y := ym5) hown (ov hZ hw 63 rfl) (ov hZ hw 64 rfl) (ov hZ hw 61 rfl) (ov hZ hw 65 rfl) (by decide) (own_backOf (W := 0) (rx13_1 l Z a0 hw [] n0 h0 O0   ) hZ (ow hw 65 rfl) (ow hw 61 rfl) (by decide) (by decide)) (g := (mkF m 1 #[cr b0_, ci 46, ci 0, ci 2] [(.int 46)])) rfl (by rw [hml]; rfl) (argsL := [(.int 46)]) (rest := []) (lenOf pdx_0 rfl) rfl (own_w rfl) (hb hby d12_1) (fun _ _ => ⟨rfl, e0, (by decide : 0 + 0 ≤ _), (by decide : 0 + 0 ≤ _)⟩)
 dsimp only [Pt.U, Pt.locs, Pt.cells, Pt.slots] at X44 l44 y44 z44 st44 hQ44
 subst l44 y44 z44
 obtain ⟨rfl, N44q, K44c⟩ := hQ44
 have N44 := Fr.app N0 N44q
 refine Ends.go st44 ?_
 obtain ⟨h44, e44⟩ : ∃ z, T44.heap = z := ⟨_, rfl⟩
 rw [e44] at K44c
 have K44 := K0.trans K44c all0
 have O44 := O0.keep K44c all0
 refine wiy (pc := 4) (pc' := 9) X44 hx hby d12_4 ((if0 _ _).trans (feq (by decide : ¬ ((1 : Int32) = (0 : Int32)))).2) ?_
 refine wilN X44 hx hby d12_9 rfl ?_
 refine wic X44 hx hby d12_10 ?_
 obtain ⟨_, _, ⟨T45, L45, k45, n45⟩, -, X45, ⟨Lc45, hQ45, l45, y45, z45⟩, st45⟩ := Jvm.LawKit.callS X44 hx (y := ym6) hown (ov hZ hw 66 rfl) (ov hZ hw 67 rfl) (ov hZ hw 68 rfl) (ov hZ hw 69 rfl) (by decide) (own_backOf (W := 0) (rx14_3 l Z a0 hw [] n0 h44 O44   ) hZ (ow hw 69 rfl) (ow hw 68 rfl) (by decide) (by decide)) (g := (mkF m 11 #[cr b0_, ci 46, ci 0, ci 2] [(.int 0), (.int 0)])) rfl (by rw [hml]; rfl) (argsL := [(.int 0), (.int 0)]) (rest := []) (lenOf pdx_1 rfl) rfl (own_w rfl) (hb hby d12_11) (fun _ _ => ⟨rfl, e44, (by decide : 0 + 0 ≤ _), (by decide : 0 + 0 ≤ _)⟩)
 dsimp only [Pt.U, Pt.locs, Pt.cells, Pt.slots] at X45 l45 y45 z45 st45 hQ45
 subst l45 y45 z45
 obtain ⟨rfl, N45q, K45c⟩ := hQ45
 have N45 := Fr.app N44 N45q
 refine Ends.go st45 ?_
 obtain ⟨h45, e45⟩ : ∃ z, T45.heap = z := ⟨_, rfl⟩
 rw [e45] at K45c
 have K45 := K44.trans K45c all0
 have O45 := O44.keep K45c all0
 refine wstN X45 hx hby d12_14 (l' := #[cr b0_, ci 46, ci 0, ci 2]) rfl ?_
 refine wilN X45 hx hby d12_15 rfl ?_
 refine walN X45 hx hby d12_16 rfl rfl ?_
 obtain ⟨cl46, Ar46, q46, S46, M46, H46, G46⟩ := id ((Vb.keep K44c nin0).keep K45c nin0)
 refine Ends.go (X45.arraylength hx (by rw [e45]; exact Ar46.1) (State.isArrayOf_alike hZ.alike Ar46.2.1) (g := (mkF m 17 #[cr b0_, ci 46, ci 0, ci 2] [(.ref b0_), (.int 2)])) rfl rfl (hb hby d12_17)) ?_
 rw [len_of S46 M46]
 obtain ⟨_, _, ⟨T48, L48, k48, n48⟩, -, X48, ⟨Lc48, hQ48, l48, y48, z48⟩, st48⟩ := Jvm.LawKit.callS X45 hx (y := ym7) hown (ov hZ hw 70 rfl) (ov hZ hw 71 rfl) (ov hZ hw 68 rfl) (ov hZ hw 72 rfl) (by decide) (own_backOf (W := 0) (rx15_47 l Z a0 hw [] n0 h45 O45   ) hZ (ow hw 72 rfl) (ow hw 68 rfl) (by decide) (by decide)) (g := (mkF m 18 #[cr b0_, ci 46, ci 0, ci 2] [(.int 2), (.int 2)])) rfl (by rw [hml]; rfl) (argsL := [(.int 2), (.int 2)]) (rest := []) (lenOf pdx_1 rfl) rfl (own_w rfl) (hb hby d12_18) (fun _ _ => ⟨rfl, e45, (by decide : 0 + 0 ≤ _), (by decide : 0 + 0 ≤ _)⟩)
 dsimp only [Pt.U, Pt.locs, Pt.cells, Pt.slots] at X48 l48 y48 z48 st48 hQ48
 subst l48 y48 z48
 obtain ⟨rfl, N48q, K48c⟩ := hQ48
 have N48 := Fr.app N45 N48q
 refine Ends.go st48 ?_
 obtain ⟨h48, e48⟩ : ∃ z, T48.heap = z := ⟨_, rfl⟩
 rw [e48] at K48c
 have K48 := K45.trans K48c all0
 have O48 := O45.keep K48c all0
 refine wstN X48 hx hby d12_21 (l' := #[cr b0_, ci 46, ci 0, ci 2]) rfl ?_
 refine wilN X48 hx hby d12_22 rfl ?_
 refine wilN X48 hx hby d12_23 rfl ?_
 refine wcy (pc := 24) (pc' := 29) X48 hx hby d12_24 (tlt (by decide : (0 : Int32) < (2 : Int32))).1 ?_
 refine walN X48 hx hby d12_29 rfl rfl ?_
 refine wilN X48 hx hby d12_30 rfl ?_
 refine wilN X48 hx hby d12_31 rfl ?_
 refine wilN X48 hx hby d12_32 rfl ?_
 obtain ⟨_, _, ⟨T49, L49, k49, n49⟩, -, X49, ⟨Lc49, hQ49, l49, y49, z49⟩, st49⟩ := Jvm.LawKit.callS X48 hx (y := ym14) hown (ov hZ hw 83 rfl) (ov hZ hw 84 rfl) (ov hZ hw 61 rfl) (ov hZ hw 85 rfl) (by decide) (own_backOf (W := 0) (rmI19_2 l Z a0 hw [] n0 h48 O48  b0_ kb_ c0_ c1_ (((Vb.keep K44c nin0).keep K45c nin0).keep K48c nin0)) hZ (ow hw 85 rfl) (ow hw 61 rfl) (by decide) (by decide)) (g := (mkF m 33 #[cr b0_, ci 46, ci 0, ci 2] [(.int 2), (.int 0), (.int 46), (.ref b0_)])) rfl (by rw [hml]; rfl) (argsL := [(.ref b0_), (.int 46), (.int 0), (.int 2)]) (rest := []) (lenOf pdx_5 rfl) rfl (own_w rfl) (hb hby d12_33) (fun _ _ => ⟨rfl, e48, (by decide : 0 + 0 ≤ _), (by decide : 0 + 0 ≤ _)⟩)
 dsimp only [Pt.U, Pt.locs, Pt.cells, Pt.slots] at X49 l49 y49 z49 st49 hQ49
 subst l49 y49 z49
 obtain ⟨r49, rfl, N49q, K49c, hr49⟩ := hQ49
 have N49 := Fr.app N48 N49q
 refine Ends.go st49 ?_
 obtain ⟨h49, e49⟩ : ∃ z, T49.heap = z := ⟨_, rfl⟩
 rw [e49] at K49c
 have K49 := K48.trans K49c all0
 refine Ends.ret X49 hx Bd.notSynchronized (t := .int) Bd.returns rfl (Or.inl ⟨rfl, by simp, _, rfl⟩) (hb hby d12_36) (by decide) (by decide) ?_
 rw [e49]
 exact ⟨_, rfl, N49, K49, hr49⟩

theorem rx10_52 (l : Launch) (Z : State) (a0 : Array Value) (hw : HW a0 Z) (ws : List Jvm.Cond) (n0 : Nat) (h0 : Heap) (O0 : Old Z n0 h0) (G1 : Int32) (G3 : Value) (GF : GlobF Z a0 G1 G3) (s0_ : Addr) (b0_ : Addr) (kb_ : ClassId) (c0_ : Int32) (c1_ : Int32) (PF_s0__value : Fld Z h0 s0_ cST "value" "[B" (.ref b0_)) (PV_b0_ : Arv Z h0 b0_ kb_ .byte (2 : Int32) [(yb c0_), (yb c1_)] (.int 0)) (PF_s0__coder : Fld Z h0 s0_ cST "coder" "B" (.int 0)) (PE_s0_ : Exa Z h0 s0_ cST) :
  Meets1 l ym11 jdk_42_method_54_code 1 (some .int) ws (mkR 1 0 0 13) #[(.ref s0_)] Z h0 (fun v h L => v = some (.int 2) ∧ Fr n0 L ∧ Keep h0 h []) := by
 refine MetFree.of_bodySF (plainFor_of_name pn10) hisR ?_
 intro p e s m args below meth c s₁ Bd hml0 hP hK
 obtain ⟨rfl, hZ, hh⟩ := hP
 have hx := Bd.exec
 have hby := Bd.bytes
 have hml : c.maxLocals = 1 := hml0
 have hown : s.vm.findClass "java/lang/String" = some m.cls := findClass_of_methodNamed Bd.named
 have X0 : Stand p l e (mkR 1 0 0 13) s m #[(.ref s0_)] below meth c s₁ [] 0 0 := Stand.of_body Bd
 have e0 : s₁.heap = h0 := by rw [← hh, Bd.state]; rfl
 have N0 := Fr.nil n0
 show Ends _ _ _ _ s₁ (entryFrame m #[(.ref s0_)] 1) (mkR 1 0 0 13).cells (mkR 1 0 0 13).slots (fun v h L => v = some (.int 2) ∧ Fr n0 L ∧ Keep h0 h [])
 refine Ends.go (fun _ k => castTop (ef10_r m s0_) k) ?_
 obtain ⟨SCS, P5, SSF, RG3, HC1, HC2, HCW⟩ := id GF
 have K0 := Keep.refl h0 []
 show Ends _ _ _ _ s₁ (mkF m 0 #[cr s0_] []) _ _ _
 refine walN X0 hx hby d10_0 rfl rfl ?_
 obtain ⟨T53, X53, e53, st53⟩ := getF X0 hx hZ hown (host := "") (Or.inl (ow hw 27 rfl)) Via.refl e0 PF_s0__value (g := (mkF m 1 #[cr s0_] [(.ref s0_)])) rfl rfl (hb hby d10_1)
 refine Ends.go st53 ?_
 obtain ⟨cl54, Ar54, q54, S54, M54, H54, G54⟩ := id PV_b0_
 refine Ends.go (X53.arraylength hx (by rw [e53]; exact Ar54.1) (State.isArrayOf_alike hZ.alike Ar54.2.1) (g := (mkF m 4 #[cr s0_] [(.ref b0_)])) rfl rfl (hb hby d10_4)) ?_
 rw [len_of S54 M54]
 refine walN X53 hx hby d10_5 rfl rfl ?_
 obtain ⟨cq55, kq55, q55a, q55b, q55c⟩ := isOf hZ e53 PE_s0_
 obtain ⟨_, _, ⟨T55, L55, k55, n55⟩, -, X55, ⟨Lc55, hQ55, l55, y55, z55⟩, st55⟩ := X53.virtualBack hx (y := ym10) (z := ym10) hown (ov hZ hw 54 rfl) (ov hZ hw 55 rfl) (notFace_of_selects (args := #[]) (ov hZ hw 57 rfl)) (ov hZ hw 57 rfl) (ov hZ hw 56 rfl) (by decide) (own_backOf (W := 1) (rx11_16 l Z a0 hw [] n0 h0 O0 G1 G3 GF s0_ PF_s0__coder) hZ (ow hw 58 rfl) (ow hw 10 rfl) (by decide) (by decide)) q55a q55c (g := (mkF m 6 #[cr s0_] [(.ref s0_), (.int 2)])) rfl (by rw [hml]; rfl) (Steps.refl _) (argsL := []) (rest := [(.int 2)]) (lenOf pdx_3 rfl) rfl (own_w rfl) (hb hby d10_6) (fun _ _ => ⟨rfl, e53, (by decide : 0 + 0 ≤ _), (by decide : 0 + 0 ≤ _)⟩)
 dsimp only [Pt.U, Pt.locs, Pt.cells, Pt.slots] at X55 l55 y55 z55 st55 hQ55
 subst l55 y55 z55
 obtain ⟨rfl, N55q, K55c⟩ := hQ55
 have N55 := Fr.app N0 N55q
 refine Ends.go (fun _ k => st55.trans k) ?_
 obtain ⟨h55, e55⟩ : ∃ z, T55.heap = z := ⟨_, rfl⟩
 rw [e55] at K55c
 have K55 := K0.trans K55c all0
 refine .go (fun _ => XS.ishr X55.here hx rfl (hb hby d10_9) rfl) ?_
 refine Ends.ret X55 hx Bd.notSynchronized (t := .int) Bd.returns rfl (Or.inl ⟨rfl, by simp, _, rfl⟩) (hb hby d10_10) (by decide) (by decide) ?_
 rw [e55]
 exact ⟨rfl, N55, K55⟩

theorem rmI8_2 (l : Launch) (Z : State) (a0 : Array Value) (hw : HW a0 Z) (ws : List Jvm.Cond) (n0 : Nat) (h0 : Heap) (O0 : Old Z n0 h0)  (G1 : Int32) (G3 : Value) (GF : GlobF Z a0 G1 G3) (s0_ : Addr) (b0_ : Addr) (kb_ : ClassId) (c0_ c1_ : Int32) (E0 : Exa Z h0 s0_ cST) (Fv : Fld Z h0 s0_ cST "value" "[B" (.ref b0_)) (Fc : Fld Z h0 s0_ cST "coder" "B" (.int 0)) (Vb : Arv Z h0 b0_ kb_ .byte (2 : Int32) [(yb c0_), (yb c1_)] (.int 0)) :
  Meets1 l ym12 jdk_42_method_80_code 3 (some .int) ws (mkR 3 0 0 60) #[(.ref s0_), (.int 46), (.int 0)] Z h0 (fun v h L => ∃ r : Int32, v = some (.int r) ∧ Fr n0 L ∧ Keep h0 h [] ∧ ((r = 0 ∧ (c0_.toInt8.toInt32) = (46 : Int32)) ∨ (r = 1 ∧ ¬ (c0_.toInt8.toInt32) = (46 : Int32) ∧ (c1_.toInt8.toInt32) = (46 : Int32)) ∨ (r = -1 ∧ ¬ (c0_.toInt8.toInt32) = (46 : Int32) ∧ ¬ (c1_.toInt8.toInt32) = (46 : Int32)))) := by
 refine MetFree.of_bodySF (plainFor_of_name pn8) hisR ?_
 intro p e s m args below meth c s₁ Bd hml0 hP hK
 obtain ⟨rfl, hZ, hh⟩ := hP
 have hx := Bd.exec
 have hby := Bd.bytes
 have hml : c.maxLocals = 3 := hml0
 have hown : s.vm.findClass "java/lang/String" = some m.cls := findClass_of_methodNamed Bd.named
 have X0 : Stand p l e (mkR 3 0 0 60) s m #[(.ref s0_), (.int 46), (.int 0)] below meth c s₁ [] 0 0 := Stand.of_body Bd
 have e0 : s₁.heap = h0 := by rw [← hh, Bd.state]; rfl
 have N0 := Fr.nil n0
 show Ends _ _ _ _ s₁ (entryFrame m #[(.ref s0_), (.int 46), (.int 0)] 3) (mkR 3 0 0 60).cells (mkR 3 0 0 60).slots (fun v h L => ∃ r : Int32, v = some (.int r) ∧ Fr n0 L ∧ Keep h0 h [] ∧ ((r = 0 ∧ (c0_.toInt8.toInt32) = (46 : Int32)) ∨ (r = 1 ∧ ¬ (c0_.toInt8.toInt32) = (46 : Int32) ∧ (c1_.toInt8.toInt32) = (46 : Int32)) ∨ (r = -1 ∧ ¬ (c0_.toInt8.toInt32) = (46 : Int32) ∧ ¬ (c1_.toInt8.toInt32) = (46 : Int32))))
 refine Ends.go (fun _ k => castTop (ef8_rii m s0_ (46 : Int32) (0 : Int32)) k) ?_
 have K0 := Keep.refl h0 []
 obtain ⟨SCS, P5, SSF, RG3, HC1, HC2, HCW⟩ := id GF
 refine walN X0 hx hby d8_0 rfl rfl ?_
 obtain ⟨cq50, kq50, q50a, q50b, q50c⟩ := isOf hZ e0 E0
 obtain ⟨_, _, ⟨T50, L50, k50, n50⟩, -, X50, ⟨Lc50, hQ50, l50, y50, z50⟩, st50⟩ := X0.virtualBack hx (y := ym9) (z := ym9) hown (ov hZ hw 43 rfl) (ov hZ hw 44 rfl) (notFace_of_selects (args := #[]) (ov hZ hw 46 rfl)) (ov hZ hw 46 rfl) (ov hZ hw 45 rfl) (by decide) (own_backOf (W := 0) (rx9_8 l Z a0 hw [] n0 h0 O0 G1 G3 GF s0_ Fc) hZ (ow hw 47 rfl) (ow hw 10 rfl) (by decide) (by decide)) q50a q50c (g := (mkF m 1 #[cr s0_, ci 46, ci 0] [(.ref s0_)])) rfl (by rw [hml]; rfl) (Steps.refl _) (argsL := []) (rest := []) (lenOf pdx_2 rfl) rfl (own_w rfl) (hb hby d8_1) (fun _ _ => ⟨rfl, e0, (by decide : 0 + 0 ≤ _), (by decide : 0 + 0 ≤ _)⟩)
 dsimp only [Pt.U, Pt.locs, Pt.cells, Pt.slots] at X50 l50 y50 z50 st50 hQ50
 subst l50 y50 z50
 obtain ⟨rfl, N50q, K50c⟩ := hQ50
 have N50 := Fr.app N0 N50q
 refine Ends.go (fun _ k => st50.trans k) ?_
 obtain ⟨h50, e50⟩ : ∃ z, T50.heap = z := ⟨_, rfl⟩
 rw [e50] at K50c
 have K50 := K0.trans K50c all0
 have O50 := O0.keep K50c all0
 refine win X50 hx hby d8_4 ((if0 _ _).trans (feq (by decide : ¬ ((1 : Int32) = (0 : Int32)))).1) ?_
 refine walN X50 hx hby d8_7 rfl rfl ?_
 obtain ⟨T51, X51, e51, st51⟩ := getF X50 hx hZ hown (host := "") (Or.inl (ow hw 27 rfl)) Via.refl e50 (Fv.keep K50c nin0) (g := (mkF m 8 #[cr s0_, ci 46, ci 0] [(.ref s0_)])) rfl rfl (hb hby d8_8)
 refine Ends.go st51 ?_
 refine wilN X51 hx hby d8_11 rfl ?_
 refine wilN X51 hx hby d8_12 rfl ?_
 refine walN X51 hx hby d8_13 rfl rfl ?_
 obtain ⟨cq56, kq56, q56a, q56b, q56c⟩ := isOf hZ e51 (E0.keep K50c)
 obtain ⟨_, _, ⟨T56, L56, k56, n56⟩, -, X56, ⟨Lc56, hQ56, l56, y56, z56⟩, st56⟩ := X51.virtualBack hx (y := ym11) (z := ym11) hown (ov hZ hw 49 rfl) (ov hZ hw 50 rfl) (notFace_of_selects (args := #[]) (ov hZ hw 52 rfl)) (ov hZ hw 52 rfl) (ov hZ hw 51 rfl) (by decide) (own_backOf (W := 3) (rx10_52 l Z a0 hw [] n0 h50 O50 G1 G3 GF s0_ b0_ kb_ c0_ c1_ (Fv.keep K50c nin0) (Vb.keep K50c nin0) (Fc.keep K50c nin0) (E0.keep K50c)) hZ (ow hw 53 rfl) (ow hw 10 rfl) (by decide) (by decide)) q56a q56c (g := (mkF m 14 #[cr s0_, ci 46, ci 0] [(.ref s0_), (.int 0), (.int 46), (.ref b0_)])) rfl (by rw [hml]; rfl) (Steps.refl _) (argsL := []) (rest := [(.int 0), (.int 46), (.ref b0_)]) (lenOf pdx_4 rfl) rfl (own_w rfl) (hb hby d8_14) (fun _ _ => ⟨rfl, e51, (by decide : 0 + 0 ≤ _), (by decide : 0 + 0 ≤ _)⟩)
 dsimp only [Pt.U, Pt.locs, Pt.cells, Pt.slots] at X56 l56 y56 z56 st56 hQ56
 subst l56 y56 z56
 obtain ⟨rfl, N56q, K56c⟩ := hQ56
 have N56 := Fr.app N50 N56q
 refine Ends.go (fun _ k => st56.trans k) ?_
 obtain ⟨h56, e56⟩ : ∃ z, T56.heap = z := ⟨_, rfl⟩
 rw [e56] at K56c
 have K56 := K50.trans K56c all0
 have O56 := O50.keep K56c all0
 obtain ⟨_, _, ⟨T57, L57, k57, n57⟩, -, X57, ⟨Lc57, hQ57, l57, y57, z57⟩, st57⟩ := Jvm.LawKit.callS X56 hx (y := ym8) hown (ov hZ hw 59 rfl) (ov hZ hw 60 rfl) (ov hZ hw 61 rfl) (ov hZ hw 62 rfl) (by decide) (own_backOf (W := 0) (rmI12_2 l Z a0 hw [] n0 h56 O56  b0_ kb_ c0_ c1_ ((Vb.keep K50c nin0).keep K56c nin0)) hZ (ow hw 62 rfl) (ow hw 61 rfl) (by decide) (by decide)) (g := (mkF m 17 #[cr s0_, ci 46, ci 0] [(.int 2), (.int 0), (.int 46), (.ref b0_)])) rfl (by rw [hml]; rfl) (argsL := [(.ref b0_), (.int 46), (.int 0), (.int 2)]) (rest := []) (lenOf pdx_5 rfl) rfl (own_w rfl) (hb hby d8_17) (fun _ _ => ⟨rfl, e56, (by decide : 0 + 0 ≤ _), (by decide : 0 + 0 ≤ _)⟩)
 dsimp only [Pt.U, Pt.locs, Pt.cells, Pt.slots] at X57 l57 y57 z57 st57 hQ57
 subst l57 y57 z57
 obtain ⟨r57, rfl, N57q, K57c, hr57⟩ := hQ57
 have N57 := Fr.app N56 N57q
 refine Ends.go st57 ?_
 obtain ⟨h57, e57⟩ : ∃ z, T57.heap = z := ⟨_, rfl⟩
 rw [e57] at K57c
 have K57 := K56.trans K57c all0
 refine wgo (pc := 20) (pc' := 36) X57 hx hby d8_20 ?_
 refine Ends.ret X57 hx Bd.notSynchronized (t := .int) Bd.returns rfl (Or.inl ⟨rfl, by simp, _, rfl⟩) (hb hby d8_36) (by decide) (by decide) ?_
 rw [e57]
 exact ⟨_, rfl, N57, K57, hr57⟩

theorem rmI7_2 (l : Launch) (Z : State) (a0 : Array Value) (hw : HW a0 Z) (ws : List Jvm.Cond) (n0 : Nat) (h0 : Heap) (O0 : Old Z n0 h0)  (G1 : Int32) (G3 : Value) (GF : GlobF Z a0 G1 G3) (s0_ : Addr) (b0_ : Addr) (kb_ : ClassId) (c0_ c1_ : Int32) (E0 : Exa Z h0 s0_ cST) (Fv : Fld Z h0 s0_ cST "value" "[B" (.ref b0_)) (Fc : Fld Z h0 s0_ cST "coder" "B" (.int 0)) (Vb : Arv Z h0 b0_ kb_ .byte (2 : Int32) [(yb c0_), (yb c1_)] (.int 0)) :
  Meets1 l ym13 jdk_42_method_79_code 2 (some .int) ws (mkR 4 0 0 80) #[(.ref s0_), (.int 46)] Z h0 (fun v h L => ∃ r : Int32, v = some (.int r) ∧ Fr n0 L ∧ Keep h0 h [] ∧ ((r = 0 ∧ (c0_.toInt8.toInt32) = (46 : Int32)) ∨ (r = 1 ∧ ¬ (c0_.toInt8.toInt32) = (46 : Int32) ∧ (c1_.toInt8.toInt32) = (46 : Int32)) ∨ (r = -1 ∧ ¬ (c0_.toInt8.toInt32) = (46 : Int32) ∧ ¬ (c1_.toInt8.toInt32) = (46 : Int32)))) := by
 refine MetFree.of_bodySF (plainFor_of_name pn7) hisR ?_
 intro p e s m args below meth c s₁ Bd hml0 hP hK
 obtain ⟨rfl, hZ, hh⟩ := hP
 have hx := Bd.exec
 have hby := Bd.bytes
 have hml : c.maxLocals = 2 := hml0
 have hown : s.vm.findClass "java/lang/String" = some m.cls := findClass_of_methodNamed Bd.named
 have X0 : Stand p l e (mkR 4 0 0 80) s m #[(.ref s0_), (.int 46)] below meth c s₁ [] 0 0 := Stand.of_body Bd
 have e0 : s₁.heap = h0 := by rw [← hh, Bd.state]; rfl
 have N0 := Fr.nil n0
 show Ends _ _ _ _ s₁ (entryFrame m #[(.ref s0_), (.int 46)] 2) (mkR 4 0 0 80).cells (mkR 4 0 0 80).slots (fun v h L => ∃ r : Int32, v = some (.int r) ∧ Fr n0 L ∧ Keep h0 h [] ∧ ((r = 0 ∧ (c0_.toInt8.toInt32) = (46 : Int32)) ∨ (r = 1 ∧ ¬ (c0_.toInt8.toInt32) = (46 : Int32) ∧ (c1_.toInt8.toInt32) = (46 : Int32)) ∨ (r = -1 ∧ ¬ (c0_.toInt8.toInt32) = (46 : Int32) ∧ ¬ (c1_.toInt8.toInt32) = (46 : Int32))))
 refine Ends.go (fun _ k => castTop (ef7_ri m s0_ (46 : Int32)) k) ?_
 have K0 := Keep.refl h0 []
 obtain ⟨SCS, P5, SSF, RG3, HC1, HC2, HCW⟩ := id GF
 refine walN X0 hx hby d7_0 rfl rfl ?_
 refine wilN X0 hx hby d7_1 rfl ?_
 refine wic X0 hx hby d7_2 ?_
 obtain ⟨cq58, kq58, q58a, q58b, q58c⟩ := isOf hZ e0 E0
 obtain ⟨_, _, ⟨T58, L58, k58, n58⟩, -, X58, ⟨Lc58, hQ58, l58, y58, z58⟩, st58⟩ := X0.virtualBack hx (y := ym12) (z := ym12) hown (ov hZ hw 38 rfl) (ov hZ hw 39 rfl) (notFace_of_selects (args := #[]) (ov hZ hw 41 rfl)) (ov hZ hw 41 rfl) (ov hZ hw 40 rfl) (by decide) (own_backOf (W := 0) (rmI8_2 l Z a0 hw [] n0 h0 O0 G1 G3 GF s0_ b0_ kb_ c0_ c1_ E0 Fv Fc Vb) hZ (ow hw 42 rfl) (ow hw 10 rfl) (by decide) (by decide)) q58a q58c (g := (mkF m 3 #[cr s0_, ci 46] [(.int 0), (.int 46), (.ref s0_)])) rfl (by rw [hml]; rfl) (Steps.refl _) (argsL := [(.int 46), (.int 0)]) (rest := []) (lenOf pdx_1 rfl) rfl (own_w rfl) (hb hby d7_3) (fun _ _ => ⟨rfl, e0, (by decide : 0 + 0 ≤ _), (by decide : 0 + 0 ≤ _)⟩)
 dsimp only [Pt.U, Pt.locs, Pt.cells, Pt.slots] at X58 l58 y58 z58 st58 hQ58
 subst l58 y58 z58
 obtain ⟨r58, rfl, N58q, K58c, hr58⟩ := hQ58
 have N58 := Fr.app N0 N58q
 refine Ends.go (fun _ k => st58.trans k) ?_
 obtain ⟨h58, e58⟩ : ∃ z, T58.heap = z := ⟨_, rfl⟩
 rw [e58] at K58c
 have K58 := K0.trans K58c all0
 refine Ends.ret X58 hx Bd.notSynchronized (t := .int) Bd.returns rfl (Or.inl ⟨rfl, by simp, _, rfl⟩) (hb hby d7_6) (by decide) (by decide) ?_
 rw [e58]
 exact ⟨_, rfl, N58, K58, hr58⟩

theorem rmI19_3 (l : Launch) (Z : State) (a0 : Array Value) (hw : HW a0 Z) (ws : List Jvm.Cond) (n0 : Nat) (h0 : Heap) (O0 : Old Z n0 h0)  (b0_ : Addr) (kb_ : ClassId) (c0_ c1_ c2_ : Int32) (Vb : Arv Z h0 b0_ kb_ .byte (3 : Int32) [(yb c0_), (yb c1_), (yb c2_)] (.int 0)) :
  Meets1 l ym14 jdk_43_method_23_code 6 (some .int) ws (mkR 0 0 0 0) #[(.ref b0_), (.int 46), (.int 0), (.int 3)] Z h0 (fun v h L => ∃ r : Int32, v = some (.int r) ∧ Fr n0 L ∧ Keep h0 h [] ∧ ((r = 0 ∧ (c0_.toInt8.toInt32) = (46 : Int32)) ∨ (r = 1 ∧ ¬ (c0_.toInt8.toInt32) = (46 : Int32) ∧ (c1_.toInt8.toInt32) = (46 : Int32)) ∨ (r = 2 ∧ ¬ (c0_.toInt8.toInt32) = (46 : Int32) ∧ ¬ (c1_.toInt8.toInt32) = (46 : Int32) ∧ (c2_.toInt8.toInt32) = (46 : Int32)) ∨ (r = -1 ∧ ¬ (c0_.toInt8.toInt32) = (46 : Int32) ∧ ¬ (c1_.toInt8.toInt32) = (46 : Int32) ∧ ¬ (c2_.toInt8.toInt32) = (46 : Int32)))) := by
 refine MetFree.of_bodySF (plainFor_of_name pn19) hisR ?_
 intro p e s m args below meth c s₁ Bd hml0 hP hK
 obtain ⟨rfl, hZ, hh⟩ := hP
 have hx := Bd.exec
 have hby := Bd.bytes
 have X0 : Stand p l e (mkR 0 0 0 0) s m #[(.ref b0_), (.int 46), (.int 0), (.int 3)] below meth c s₁ [] 0 0 := Stand.of_body Bd
 have e0 : s₁.heap = h0 := by rw [← hh, Bd.state]; rfl
 have N0 := Fr.nil n0
 show Ends _ _ _ _ s₁ (entryFrame m #[(.ref b0_), (.int 46), (.int 0), (.int 3)] 6) (mkR 0 0 0 0).cells (mkR 0 0 0 0).slots (fun v h L => ∃ r : Int32, v = some (.int r) ∧ Fr n0 L ∧ Keep h0 h [] ∧ ((r = 0 ∧ (c0_.toInt8.toInt32) = (46 : Int32)) ∨ (r = 1 ∧ ¬ (c0_.toInt8.toInt32) = (46 : Int32) ∧ (c1_.toInt8.toInt32) = (46 : Int32)) ∨ (r = 2 ∧ ¬ (c0_.toInt8.toInt32) = (46 : Int32) ∧ ¬ (c1_.toInt8.toInt32) = (46 : Int32) ∧ (c2_.toInt8.toInt32) = (46 : Int32)) ∨ (r = -1 ∧ ¬ (c0_.toInt8.toInt32) = (46 : Int32) ∧ ¬ (c1_.toInt8.toInt32) = (46 : Int32) ∧ ¬ (c2_.toInt8.toInt32) = (46 : Int32))))
 refine Ends.go (fun _ k => castTop (ef19_riii m b0_ (46 : Int32) (0 : Int32) (3 : Int32)) k) ?_
 have K0 := Keep.refl h0 []
 refine wilN X0 hx hby d19_0 rfl ?_
 refine .go (fun _ => XS.i2b X0.here hx rfl (hb hby d19_1) rfl) ?_
 refine wst X0 hx hby d19_2 (l' := #[cr b0_, ci 46, ci 0, ci 3, ci 46, cu]) rfl ?_
 refine wilN X0 hx hby d19_4 rfl ?_
 refine wst X0 hx hby d19_5 (l' := #[cr b0_, ci 46, ci 0, ci 3, ci 46, ci 0]) rfl ?_
 refine wil X0 hx hby d19_7 rfl ?_
 refine wilN X0 hx hby d19_9 rfl ?_
 refine wcn X0 hx hby d19_10 (tlt (by decide : (0 : Int32) < (3 : Int32))).2.1 ?_
 refine walN X0 hx hby d19_13 rfl rfl ?_
 refine wil X0 hx hby d19_14 rfl ?_
 obtain ⟨cl59, Ar59, q59, S59, M59, H59, G59⟩ := id Vb
 have hin59 := inb_of (j := (0 : Int32)) S59 ⟨by decide, by decide⟩
 refine Ends.go (X0.baloadBytes hx (j := (0 : Int32)) (v := (yb c0_)) (by rw [e0]; exact Ar59.1) (State.isArrayOf_alike hZ.alike Ar59.2.1) Ar59.2.2 hin59 (H59.at hin59 rfl) (g := (mkF m 16 #[cr b0_, ci 46, ci 0, ci 3, ci 46, ci 0] [(.int 0), (.ref b0_)])) rfl rfl (hb hby d19_16)) ?_
 refine wil X0 hx hby d19_17 rfl ?_
 by_cases hc19_60 : (c0_.toInt8.toInt32) = (46 : Int32)
 ·refine wcn X0 hx hby d19_19 (teq hc19_60).2 ?_
  refine wil X0 hx hby d19_22 rfl ?_
  refine Ends.ret X0 hx Bd.notSynchronized (t := .int) Bd.returns rfl (Or.inl ⟨rfl, by simp, _, rfl⟩) (hb hby d19_24) (by decide) (by decide) ?_
  rw [e0]
  exact ⟨(0 : Int32), rfl, N0, K0, Or.inl ⟨rfl, hc19_60⟩⟩
 ·refine wcy (pc := 19) (pc' := 25) X0 hx hby d19_19 (feq hc19_60).2 ?_
  refine wii X0 hx hby d19_25 (l' := #[cr b0_, ci 46, ci 0, ci 3, ci 46, ci 1]) rfl rfl ?_
  refine wgo (pc := 28) (pc' := 7) X0 hx hby d19_28 ?_
  refine wil X0 hx hby d19_7 rfl ?_
  refine wilN X0 hx hby d19_9 rfl ?_
  refine wcn X0 hx hby d19_10 (tlt (by decide : (1 : Int32) < (3 : Int32))).2.1 ?_
  refine walN X0 hx hby d19_13 rfl rfl ?_
  refine wil X0 hx hby d19_14 rfl ?_
  obtain ⟨cl61, Ar61, q61, S61, M61, H61, G61⟩ := id Vb
  have hin61 := inb_of (j := (1 : Int32)) S61 ⟨by decide, by decide⟩
  refine Ends.go (X0.baloadBytes hx (j := (1 : Int32)) (v := (yb c1_)) (by rw [e0]; exact Ar61.1) (State.isArrayOf_alike hZ.alike Ar61.2.1) Ar61.2.2 hin61 (H61.at hin61 rfl) (g := (mkF m 16 #[cr b0_, ci 46, ci 0, ci 3, ci 46, ci 1] [(.int 1), (.ref b0_)])) rfl rfl (hb hby d19_16)) ?_
  refine wil X0 hx hby d19_17 rfl ?_
  by_cases hc19_62 : (c1_.toInt8.toInt32) = (46 : Int32)
  ·refine wcn X0 hx hby d19_19 (teq hc19_62).2 ?_
   refine wil X0 hx hby d19_22 rfl ?_
   refine Ends.ret X0 hx Bd.notSynchronized (t := .int) Bd.returns rfl (Or.inl ⟨rfl, by simp, _, rfl⟩) (hb hby d19_24) (by decide) (by decide) ?_
   rw [e0]
   exact ⟨(1 : Int32), rfl, N0, K0, Or.inr (Or.inl ⟨rfl, hc19_60, hc19_62⟩)⟩
  ·refine wcy (pc := 19) (pc' := 25) X0 hx hby d19_19 (feq hc19_62).2 ?_
   refine wii X0 hx hby d19_25 (l' := #[cr b0_, ci 46, ci 0, ci 3, ci 46, ci 2]) rfl rfl ?_
   refine wgo (pc := 28) (pc' := 7) X0 hx hby d19_28 ?_
   show Ends _ _ _ _ s₁ (mkF m 7 #[cr b0_, ci 46, ci 0, ci 3, ci 46, ci 2] []) _ _ _
   refine wil X0 hx hby d19_7 rfl ?_
   refine wilN X0 hx hby d19_9 rfl ?_
   refine wcn X0 hx hby d19_10 (tlt (by decide : (2 : Int32) < (3 : Int32))).2.1 ?_
   refine walN X0 hx hby d19_13 rfl rfl ?_
   refine wil X0 hx hby d19_14 rfl ?_
   obtain ⟨cl63, Ar63, q63, S63, M63, H63, G63⟩ := id Vb
   have hin63 := inb_of (j := (2 : Int32)) S63 ⟨by decide, by decide⟩
   refine Ends.go (X0.baloadBytes hx (j := (2 : Int32)) (v := (yb c2_)) (by rw [e0]; exact Ar63.1) (State.isArrayOf_alike hZ.alike Ar63.2.1) Ar63.2.2 hin63 (H63.at hin63 rfl) (g := (mkF m 16 #[cr b0_, ci 46, ci 0, ci 3, ci 46, ci 2] [(.int 2), (.ref b0_)])) rfl rfl (hb hby d19_16)) ?_
   refine wil X0 hx hby d19_17 rfl ?_
   by_cases hc19_64 : (c2_.toInt8.toInt32) = (46 : Int32)
   ·refine wcn X0 hx hby d19_19 (teq hc19_64).2 ?_
    refine wil X0 hx hby d19_22 rfl ?_
    refine Ends.ret X0 hx Bd.notSynchronized (t := .int) Bd.returns rfl (Or.inl ⟨rfl, by simp, _, rfl⟩) (hb hby d19_24) (by decide) (by decide) ?_
    rw [e0]
    exact ⟨(2 : Int32), rfl, N0, K0, Or.inr (Or.inr (Or.inl ⟨rfl, hc19_60, hc19_62, hc19_64⟩))⟩
   ·refine wcy (pc := 19) (pc' := 25) X0 hx hby d19_19 (feq hc19_64).2 ?_
    refine wii X0 hx hby d19_25 (l' := #[cr b0_, ci 46, ci 0, ci 3, ci 46, ci 3]) rfl rfl ?_
    refine wgo (pc := 28) (pc' := 7) X0 hx hby d19_28 ?_
    refine wil X0 hx hby d19_7 rfl ?_
    refine wilN X0 hx hby d19_9 rfl ?_
    refine wcy (pc := 10) (pc' := 31) X0 hx hby d19_10 (flt (by decide : ¬ ((3 : Int32) < (3 : Int32)))).2.1 ?_
    refine wic X0 hx hby d19_31 ?_
    refine Ends.ret X0 hx Bd.notSynchronized (t := .int) Bd.returns rfl (Or.inl ⟨rfl, by simp, _, rfl⟩) (hb hby d19_32) (by decide) (by decide) ?_
    rw [e0]
    exact ⟨(-1 : Int32), rfl, N0, K0, Or.inr (Or.inr (Or.inr (⟨rfl, hc19_60, hc19_62, hc19_64⟩)))⟩

theorem rx15_68 (l : Launch) (Z : State) (a0 : Array Value) (hw : HW a0 Z) (ws : List Jvm.Cond) (n0 : Nat) (h0 : Heap) (O0 : Old Z n0 h0)    :
  Meets1 l ym7 jdk_29_method_69_code 2 (some .int) ws (mkR 0 0 0 0) #[(.int 3), (.int 3)] Z h0 (fun v h L => v = some (.int 3) ∧ Fr n0 L ∧ Keep h0 h []) := by
 refine MetFree.of_bodySF (Jvm.Free.JP.mathPlain rfl (by decide +kernel)) hisR ?_
 intro p e s m args below meth c s₁ Bd hml0 hP hK
 obtain ⟨rfl, hZ, hh⟩ := hP
 have hx := Bd.exec
 have hby := Bd.bytes
 have X0 : Stand p l e (mkR 0 0 0 0) s m #[(.int 3), (.int 3)] below meth c s₁ [] 0 0 := Stand.of_body Bd
 have e0 : s₁.heap = h0 := by rw [← hh, Bd.state]; rfl
 have N0 := Fr.nil n0
 show Ends _ _ _ _ s₁ (entryFrame m #[(.int 3), (.int 3)] 2) (mkR 0 0 0 0).cells (mkR 0 0 0 0).slots (fun v h L => v = some (.int 3) ∧ Fr n0 L ∧ Keep h0 h [])
 refine Ends.go (fun _ k => castTop (ef15_ii m (3 : Int32) (3 : Int32)) k) ?_
 have K0 := Keep.refl h0 []
 show Ends _ _ _ _ s₁ (mkF m 0 #[ci 3, ci 3] []) _ _ _
 refine wilN X0 hx hby d15_0 rfl ?_
 refine wilN X0 hx hby d15_1 rfl ?_
 refine wcn X0 hx hby d15_2 (flt (by decide : ¬ ((3 : Int32) < (3 : Int32)))).2.2.1 ?_
 refine wilN X0 hx hby d15_5 rfl ?_
 refine wgo (pc := 6) (pc' := 10) X0 hx hby d15_6 ?_
 refine Ends.ret X0 hx Bd.notSynchronized (t := .int) Bd.returns rfl (Or.inl ⟨rfl, by simp, _, rfl⟩) (hb hby d15_10) (by decide) (by decide) ?_
 rw [e0]
 exact ⟨rfl, N0, K0⟩

theorem rmI12_3 (l : Launch) (Z : State) (a0 : Array Value) (hw : HW a0 Z) (ws : List Jvm.Cond) (n0 : Nat) (h0 : Heap) (O0 : Old Z n0 h0)  (b0_ : Addr) (kb_ : ClassId) (c0_ c1_ c2_ : Int32) (Vb : Arv Z h0 b0_ kb_ .byte (3 : Int32) [(yb c0_), (yb c1_), (yb c2_)] (.int 0)) :
  Meets1 l ym8 jdk_43_method_22_code 4 (some .int) ws (mkR 1 0 0 25) #[(.ref b0_), (.int 46), (.int 0), (.int 3)] Z h0 (fun v h L => ∃ r : Int32, v = some (.int r) ∧ Fr n0 L ∧ Keep h0 h [] ∧ ((r = 0 ∧ (c0_.toInt8.toInt32) = (46 : Int32)) ∨ (r = 1 ∧ ¬ (c0_.toInt8.toInt32) = (46 : Int32) ∧ (c1_.toInt8.toInt32) = (46 : Int32)) ∨ (r = 2 ∧ ¬ (c0_.toInt8.toInt32) = (46 : Int32) ∧ ¬ (c1_.toInt8.toInt32) = (46 : Int32) ∧ (c2_.toInt8.toInt32) = (46 : Int32)) ∨ (r = -1 ∧ ¬ (c0_.toInt8.toInt32) = (46 : Int32) ∧ ¬ (c1_.toInt8.toInt32) = (46 : Int32) ∧ ¬ (c2_.toInt8.toInt32) = (46 : Int32)))) := by
 refine MetFree.of_bodySF (plainFor_of_name pn12) hisR ?_
 intro p e s m args below meth c s₁ Bd hml0 hP hK
 obtain ⟨rfl, hZ, hh⟩ := hP
 have hx := Bd.exec
 have hby := Bd.bytes
 have hml : c.maxLocals = 4 := hml0
 have hown : s.vm.findClass "java/lang/StringLatin1" = some m.cls := findClass_of_methodNamed Bd.named
 have X0 : Stand p l e (mkR 1 0 0 25) s m #[(.ref b0_), (.int 46), (.int 0), (.int 3)] below meth c s₁ [] 0 0 := Stand.of_body Bd
 have e0 : s₁.heap = h0 := by rw [← hh, Bd.state]; rfl
 have N0 := Fr.nil n0
 show Ends _ _ _ _ s₁ (entryFrame m #[(.ref b0_), (.int 46), (.int 0), (.int 3)] 4) (mkR 1 0 0 25).cells (mkR 1 0 0 25).slots (fun v h L => ∃ r : Int32, v = some (.int r) ∧ Fr n0 L ∧ Keep h0 h [] ∧ ((r = 0 ∧ (c0_.toInt8.toInt32) = (46 : Int32)) ∨ (r = 1 ∧ ¬ (c0_.toInt8.toInt32) = (46 : Int32) ∧ (c1_.toInt8.toInt32) = (46 : Int32)) ∨ (r = 2 ∧ ¬ (c0_.toInt8.toInt32) = (46 : Int32) ∧ ¬ (c1_.toInt8.toInt32) = (46 : Int32) ∧ (c2_.toInt8.toInt32) = (46 : Int32)) ∨ (r = -1 ∧ ¬ (c0_.toInt8.toInt32) = (46 : Int32) ∧ ¬ (c1_.toInt8.toInt32) = (46 : Int32) ∧ ¬ (c2_.toInt8.toInt32) = (46 : Int32))))
 refine Ends.go (fun _ k => castTop (ef12_riii m b0_ (46 : Int32) (0 : Int32) (3 : Int32)) k) ?_
 have K0 := Keep.refl h0 []
 refine wilN X0 hx hby d12_0 rfl ?_
 obtain ⟨_, _, ⟨T65, L65, k65, n65⟩, -, X65, ⟨Lc65, hQ65, l65, y65, z65⟩, st65⟩ := Jvm.LawKit.callS X0 hx (y := ym5) hown (ov hZ hw 63 rfl) (ov hZ hw 64 rfl) (ov hZ hw 61 rfl) (ov hZ hw 65 rfl) (by decide) (own_backOf (W := 0) (rx13_1 l Z a0 hw [] n0 h0 O0   ) hZ (ow hw 65 rfl) (ow hw 61 rfl) (by decide) (by decide)) (g := (mkF m 1 #[cr b0_, ci 46, ci 0, ci 3] [(.int 46)])) rfl (by rw [hml]; rfl) (argsL := [(.int 46)]) (rest := []) (lenOf pdx_0 rfl) rfl (own_w rfl) (hb hby d12_1) (fun _ _ => ⟨rfl, e0, (by decide : 0 + 0 ≤ _), (by decide : 0 + 0 ≤ _)⟩)
 dsimp only [Pt.U, Pt.locs, Pt.cells, Pt.slots] at X65 l65 y65 z65 st65 hQ65
 subst l65 y65 z65
 obtain ⟨rfl, N65q, K65c⟩ := hQ65
 have N65 := Fr.app N0 N65q
 refine Ends.go st65 ?_
 obtain ⟨h65, e65⟩ : ∃ z, T65.heap = z := ⟨_, rfl⟩
 rw [e65] at K65c
 have K65 := K0.trans K65c all0
 have O65 := O0.keep K65c all0
 refine wiy (pc := 4) (pc' := 9) X65 hx hby d12_4 ((if0 _ _).trans (feq (by decide : ¬ ((1 : Int32) = (0 : Int32)))).2) ?_
 refine wilN X65 hx hby d12_9 rfl ?_
 refine wic X65 hx hby d12_10 ?_
 obtain ⟨_, _, ⟨T66, L66, k66, n66⟩, -, X66, ⟨Lc66, hQ66, l66, y66, z66⟩, st66⟩ := Jvm.LawKit.callS X65 hx (y := ym6) hown (ov hZ hw 66 rfl) (ov hZ hw 67 rfl) (ov hZ hw 68 rfl) (ov hZ hw 69 rfl) (by decide) (own_backOf (W := 0) (rx14_3 l Z a0 hw [] n0 h65 O65   ) hZ (ow hw 69 rfl) (ow hw 68 rfl) (by decide) (by decide)) (g := (mkF m 11 #[cr b0_, ci 46, ci 0, ci 3] [(.int 0), (.int 0)])) rfl (by rw [hml]; rfl) (argsL := [(.int 0), (.int 0)]) (rest := []) (lenOf pdx_1 rfl) rfl (own_w rfl) (hb hby d12_11) (fun _ _ => ⟨rfl, e65, (by decide : 0 + 0 ≤ _), (by decide : 0 + 0 ≤ _)⟩)
 dsimp only [Pt.U, Pt.locs, Pt.cells, Pt.slots] at X66 l66 y66 z66 st66 hQ66
 subst l66 y66 z66
 obtain ⟨rfl, N66q, K66c⟩ := hQ66
 have N66 := Fr.app N65 N66q
 refine Ends.go st66 ?_
 obtain ⟨h66, e66⟩ : ∃ z, T66.heap = z := ⟨_, rfl⟩
 rw [e66] at K66c
 have K66 := K65.trans K66c all0
 have O66 := O65.keep K66c all0
 refine wstN X66 hx hby d12_14 (l' := #[cr b0_, ci 46, ci 0, ci 3]) rfl ?_
 refine wilN X66 hx hby d12_15 rfl ?_
 refine walN X66 hx hby d12_16 rfl rfl ?_
 obtain ⟨cl67, Ar67, q67, S67, M67, H67, G67⟩ := id ((Vb.keep K65c nin0).keep K66c nin0)
 refine Ends.go (X66.arraylength hx (by rw [e66]; exact Ar67.1) (State.isArrayOf_alike hZ.alike Ar67.2.1) (g := (mkF m 17 #[cr b0_, ci 46, ci 0, ci 3] [(.ref b0_), (.int 3)])) rfl rfl (hb hby d12_17)) ?_
 rw [len_of S67 M67]
 obtain ⟨_, _, ⟨T69, L69, k69, n69⟩, -, X69, ⟨Lc69, hQ69, l69, y69, z69⟩, st69⟩ := Jvm.LawKit.callS X66 hx (y := ym7) hown (ov hZ hw 70 rfl) (ov hZ hw 71 rfl) (ov hZ hw 68 rfl) (ov hZ hw 72 rfl) (by decide) (own_backOf (W := 0) (rx15_68 l Z a0 hw [] n0 h66 O66   ) hZ (ow hw 72 rfl) (ow hw 68 rfl) (by decide) (by decide)) (g := (mkF m 18 #[cr b0_, ci 46, ci 0, ci 3] [(.int 3), (.int 3)])) rfl (by rw [hml]; rfl) (argsL := [(.int 3), (.int 3)]) (rest := []) (lenOf pdx_1 rfl) rfl (own_w rfl) (hb hby d12_18) (fun _ _ => ⟨rfl, e66, (by decide : 0 + 0 ≤ _), (by decide : 0 + 0 ≤ _)⟩)
 dsimp only [Pt.U, Pt.locs, Pt.cells, Pt.slots] at X69 l69 y69 z69 st69 hQ69
 subst l69 y69 z69
 obtain ⟨rfl, N69q, K69c⟩ := hQ69
 have N69 := Fr.app N66 N69q
 refine Ends.go st69 ?_
 obtain ⟨h69, e69⟩ : ∃ z, T69.heap = z := ⟨_, rfl⟩
 rw [e69] at K69c
 have K69 := K66.trans K69c all0
 have O69 := O66.keep K69c all0
 refine wstN X69 hx hby d12_21 (l' := #[cr b0_, ci 46, ci 0, ci 3]) rfl ?_
 refine wilN X69 hx hby d12_22 rfl ?_
 refine wilN X69 hx hby d12_23 rfl ?_
 refine wcy (pc := 24) (pc' := 29) X69 hx hby d12_24 (tlt (by decide : (0 : Int32) < (3 : Int32))).1 ?_
 refine walN X69 hx hby d12_29 rfl rfl ?_
 refine wilN X69 hx hby d12_30 rfl ?_
 refine wilN X69 hx hby d12_31 rfl ?_
 refine wilN X69 hx hby d12_32 rfl ?_
 obtain ⟨_, _, ⟨T70, L70, k70, n70⟩, -, X70, ⟨Lc70, hQ70, l70, y70, z70⟩, st70⟩ := Jvm.LawKit.callS X69 hx (y := ym14) hown (ov hZ hw 83 rfl) (ov hZ hw 84 rfl) (ov hZ hw 61 rfl) (ov hZ hw 85 rfl) (by decide) (own_backOf (W := 0) (rmI19_3 l Z a0 hw [] n0 h69 O69  b0_ kb_ c0_ c1_ c2_ (((Vb.keep K65c nin0).keep K66c nin0).keep K69c nin0)) hZ (ow hw 85 rfl) (ow hw 61 rfl) (by decide) (by decide)) (g := (mkF m 33 #[cr b0_, ci 46, ci 0, ci 3] [(.int 3), (.int 0), (.int 46), (.ref b0_)])) rfl (by rw [hml]; rfl) (argsL := [(.ref b0_), (.int 46), (.int 0), (.int 3)]) (rest := []) (lenOf pdx_5 rfl) rfl (own_w rfl) (hb hby d12_33) (fun _ _ => ⟨rfl, e69, (by decide : 0 + 0 ≤ _), (by decide : 0 + 0 ≤ _)⟩)
 dsimp only [Pt.U, Pt.locs, Pt.cells, Pt.slots] at X70 l70 y70 z70 st70 hQ70
 subst l70 y70 z70
 obtain ⟨r70, rfl, N70q, K70c, hr70⟩ := hQ70
 have N70 := Fr.app N69 N70q
 refine Ends.go st70 ?_
 obtain ⟨h70, e70⟩ : ∃ z, T70.heap = z := ⟨_, rfl⟩
 rw [e70] at K70c
 have K70 := K69.trans K70c all0
 refine Ends.ret X70 hx Bd.notSynchronized (t := .int) Bd.returns rfl (Or.inl ⟨rfl, by simp, _, rfl⟩) (hb hby d12_36) (by decide) (by decide) ?_
 rw [e70]
 exact ⟨_, rfl, N70, K70, hr70⟩

theorem rx10_73 (l : Launch) (Z : State) (a0 : Array Value) (hw : HW a0 Z) (ws : List Jvm.Cond) (n0 : Nat) (h0 : Heap) (O0 : Old Z n0 h0) (G1 : Int32) (G3 : Value) (GF : GlobF Z a0 G1 G3) (s0_ : Addr) (b0_ : Addr) (kb_ : ClassId) (c0_ : Int32) (c1_ : Int32) (c2_ : Int32) (PF_s0__value : Fld Z h0 s0_ cST "value" "[B" (.ref b0_)) (PV_b0_ : Arv Z h0 b0_ kb_ .byte (3 : Int32) [(yb c0_), (yb c1_), (yb c2_)] (.int 0)) (PF_s0__coder : Fld Z h0 s0_ cST "coder" "B" (.int 0)) (PE_s0_ : Exa Z h0 s0_ cST) :
  Meets1 l ym11 jdk_42_method_54_code 1 (some .int) ws (mkR 1 0 0 13) #[(.ref s0_)] Z h0 (fun v h L => v = some (.int 3) ∧ Fr n0 L ∧ Keep h0 h []) := by
 refine MetFree.of_bodySF (plainFor_of_name pn10) hisR ?_
 intro p e s m args below meth c s₁ Bd hml0 hP hK
 obtain ⟨rfl, hZ, hh⟩ := hP
 have hx := Bd.exec
 have hby := Bd.bytes
 have hml : c.maxLocals = 1 := hml0
 have hown : s.vm.findClass "java/lang/String" = some m.cls := findClass_of_methodNamed Bd.named
 have X0 : Stand p l e (mkR 1 0 0 13) s m #[(.ref s0_)] below meth c s₁ [] 0 0 := Stand.of_body Bd
 have e0 : s₁.heap = h0 := by rw [← hh, Bd.state]; rfl
 have N0 := Fr.nil n0
 show Ends _ _ _ _ s₁ (entryFrame m #[(.ref s0_)] 1) (mkR 1 0 0 13).cells (mkR 1 0 0 13).slots (fun v h L => v = some (.int 3) ∧ Fr n0 L ∧ Keep h0 h [])
 refine Ends.go (fun _ k => castTop (ef10_r m s0_) k) ?_
 obtain ⟨SCS, P5, SSF, RG3, HC1, HC2, HCW⟩ := id GF
 have K0 := Keep.refl h0 []
 show Ends _ _ _ _ s₁ (mkF m 0 #[cr s0_] []) _ _ _
 refine walN X0 hx hby d10_0 rfl rfl ?_
 obtain ⟨T74, X74, e74, st74⟩ := getF X0 hx hZ hown (host := "") (Or.inl (ow hw 27 rfl)) Via.refl e0 PF_s0__value (g := (mkF m 1 #[cr s0_] [(.ref s0_)])) rfl rfl (hb hby d10_1)
 refine Ends.go st74 ?_
 obtain ⟨cl75, Ar75, q75, S75, M75, H75, G75⟩ := id PV_b0_
 refine Ends.go (X74.arraylength hx (by rw [e74]; exact Ar75.1) (State.isArrayOf_alike hZ.alike Ar75.2.1) (g := (mkF m 4 #[cr s0_] [(.ref b0_)])) rfl rfl (hb hby d10_4)) ?_
 rw [len_of S75 M75]
 refine walN X74 hx hby d10_5 rfl rfl ?_
 obtain ⟨cq76, kq76, q76a, q76b, q76c⟩ := isOf hZ e74 PE_s0_
 obtain ⟨_, _, ⟨T76, L76, k76, n76⟩, -, X76, ⟨Lc76, hQ76, l76, y76, z76⟩, st76⟩ := X74.virtualBack hx (y := ym10) (z := ym10) hown (ov hZ hw 54 rfl) (ov hZ hw 55 rfl) (notFace_of_selects (args := #[]) (ov hZ hw 57 rfl)) (ov hZ hw 57 rfl) (ov hZ hw 56 rfl) (by decide) (own_backOf (W := 1) (rx11_16 l Z a0 hw [] n0 h0 O0 G1 G3 GF s0_ PF_s0__coder) hZ (ow hw 58 rfl) (ow hw 10 rfl) (by decide) (by decide)) q76a q76c (g := (mkF m 6 #[cr s0_] [(.ref s0_), (.int 3)])) rfl (by rw [hml]; rfl) (Steps.refl _) (argsL := []) (rest := [(.int 3)]) (lenOf pdx_3 rfl) rfl (own_w rfl) (hb hby d10_6) (fun _ _ => ⟨rfl, e74, (by decide : 0 + 0 ≤ _), (by decide : 0 + 0 ≤ _)⟩)
 dsimp only [Pt.U, Pt.locs, Pt.cells, Pt.slots] at X76 l76 y76 z76 st76 hQ76
 subst l76 y76 z76
 obtain ⟨rfl, N76q, K76c⟩ := hQ76
 have N76 := Fr.app N0 N76q
 refine Ends.go (fun _ k => st76.trans k) ?_
 obtain ⟨h76, e76⟩ : ∃ z, T76.heap = z := ⟨_, rfl⟩
 rw [e76] at K76c
 have K76 := K0.trans K76c all0
 refine .go (fun _ => XS.ishr X76.here hx rfl (hb hby d10_9) rfl) ?_
 refine Ends.ret X76 hx Bd.notSynchronized (t := .int) Bd.returns rfl (Or.inl ⟨rfl, by simp, _, rfl⟩) (hb hby d10_10) (by decide) (by decide) ?_
 rw [e76]
 exact ⟨rfl, N76, K76⟩

theorem rmI8_3 (l : Launch) (Z : State) (a0 : Array Value) (hw : HW a0 Z) (ws : List Jvm.Cond) (n0 : Nat) (h0 : Heap) (O0 : Old Z n0 h0)  (G1 : Int32) (G3 : Value) (GF : GlobF Z a0 G1 G3) (s0_ : Addr) (b0_ : Addr) (kb_ : ClassId) (c0_ c1_ c2_ : Int32) (E0 : Exa Z h0 s0_ cST) (Fv : Fld Z h0 s0_ cST "value" "[B" (.ref b0_)) (Fc : Fld Z h0 s0_ cST "coder" "B" (.int 0)) (Vb : Arv Z h0 b0_ kb_ .byte (3 : Int32) [(yb c0_), (yb c1_), (yb c2_)] (.int 0)) :
  Meets1 l ym12 jdk_42_method_80_code 3 (some .int) ws (mkR 3 0 0 60) #[(.ref s0_), (.int 46), (.int 0)] Z h0 (fun v h L => ∃ r : Int32, v = some (.int r) ∧ Fr n0 L ∧ Keep h0 h [] ∧ ((r = 0 ∧ (c0_.toInt8.toInt32) = (46 : Int32)) ∨ (r = 1 ∧ ¬ (c0_.toInt8.toInt32) = (46 : Int32) ∧ (c1_.toInt8.toInt32) = (46 : Int32)) ∨ (r = 2 ∧ ¬ (c0_.toInt8.toInt32) = (46 : Int32) ∧ ¬ (c1_.toInt8.toInt32) = (46 : Int32) ∧ (c2_.toInt8.toInt32) = (46 : Int32)) ∨ (r = -1 ∧ ¬ (c0_.toInt8.toInt32) = (46 : Int32) ∧ ¬ (c1_.toInt8.toInt32) = (46 : Int32) ∧ ¬ (c2_.toInt8.toInt32) = (46 : Int32)))) := by
 refine MetFree.of_bodySF (plainFor_of_name pn8) hisR ?_
 intro p e s m args below meth c s₁ Bd hml0 hP hK
 obtain ⟨rfl, hZ, hh⟩ := hP
 have hx := Bd.exec
 have hby := Bd.bytes
 have hml : c.maxLocals = 3 := hml0
 have hown : s.vm.findClass "java/lang/String" = some m.cls := findClass_of_methodNamed Bd.named
 have X0 : Stand p l e (mkR 3 0 0 60) s m #[(.ref s0_), (.int 46), (.int 0)] below meth c s₁ [] 0 0 := Stand.of_body Bd
 have e0 : s₁.heap = h0 := by rw [← hh, Bd.state]; rfl
 have N0 := Fr.nil n0
 show Ends _ _ _ _ s₁ (entryFrame m #[(.ref s0_), (.int 46), (.int 0)] 3) (mkR 3 0 0 60).cells (mkR 3 0 0 60).slots (fun v h L => ∃ r : Int32, v = some (.int r) ∧ Fr n0 L ∧ Keep h0 h [] ∧ ((r = 0 ∧ (c0_.toInt8.toInt32) = (46 : Int32)) ∨ (r = 1 ∧ ¬ (c0_.toInt8.toInt32) = (46 : Int32) ∧ (c1_.toInt8.toInt32) = (46 : Int32)) ∨ (r = 2 ∧ ¬ (c0_.toInt8.toInt32) = (46 : Int32) ∧ ¬ (c1_.toInt8.toInt32) = (46 : Int32) ∧ (c2_.toInt8.toInt32) = (46 : Int32)) ∨ (r = -1 ∧ ¬ (c0_.toInt8.toInt32) = (46 : Int32) ∧ ¬ (c1_.toInt8.toInt32) = (46 : Int32) ∧ ¬ (c2_.toInt8.toInt32) = (46 : Int32))))
 refine Ends.go (fun _ k => castTop (ef8_rii m s0_ (46 : Int32) (0 : Int32)) k) ?_
 have K0 := Keep.refl h0 []
 obtain ⟨SCS, P5, SSF, RG3, HC1, HC2, HCW⟩ := id GF
 refine walN X0 hx hby d8_0 rfl rfl ?_
 obtain ⟨cq71, kq71, q71a, q71b, q71c⟩ := isOf hZ e0 E0
 obtain ⟨_, _, ⟨T71, L71, k71, n71⟩, -, X71, ⟨Lc71, hQ71, l71, y71, z71⟩, st71⟩ := X0.virtualBack hx (y := ym9) (z := ym9) hown (ov hZ hw 43 rfl) (ov hZ hw 44 rfl) (notFace_of_selects (args := #[]) (ov hZ hw 46 rfl)) (ov hZ hw 46 rfl) (ov hZ hw 45 rfl) (by decide) (own_backOf (W := 0) (rx9_8 l Z a0 hw [] n0 h0 O0 G1 G3 GF s0_ Fc) hZ (ow hw 47 rfl) (ow hw 10 rfl) (by decide) (by decide)) q71a q71c (g := (mkF m 1 #[cr s0_, ci 46, ci 0] [(.ref s0_)])) rfl (by rw [hml]; rfl) (Steps.refl _) (argsL := []) (rest := []) (lenOf pdx_2 rfl) rfl (own_w rfl) (hb hby d8_1) (fun _ _ => ⟨rfl, e0, (by decide : 0 + 0 ≤ _), (by decide : 0 + 0 ≤ _)⟩)
 dsimp only [Pt.U, Pt.locs, Pt.cells, Pt.slots] at X71 l71 y71 z71 st71 hQ71
 subst l71 y71 z71
 obtain ⟨rfl, N71q, K71c⟩ := hQ71
 have N71 := Fr.app N0 N71q
 refine Ends.go (fun _ k => st71.trans k) ?_
 obtain ⟨h71, e71⟩ : ∃ z, T71.heap = z := ⟨_, rfl⟩
 rw [e71] at K71c
 have K71 := K0.trans K71c all0
 have O71 := O0.keep K71c all0
 refine win X71 hx hby d8_4 ((if0 _ _).trans (feq (by decide : ¬ ((1 : Int32) = (0 : Int32)))).1) ?_
 refine walN X71 hx hby d8_7 rfl rfl ?_
 obtain ⟨T72, X72, e72, st72⟩ := getF X71 hx hZ hown (host := "") (Or.inl (ow hw 27 rfl)) Via.refl e71 (Fv.keep K71c nin0) (g := (mkF m 8 #[cr s0_, ci 46, ci 0] [(.ref s0_)])) rfl rfl (hb hby d8_8)
 refine Ends.go st72 ?_
 refine wilN X72 hx hby d8_11 rfl ?_
 refine wilN X72 hx hby d8_12 rfl ?_
 refine walN X72 hx hby d8_13 rfl rfl ?_
 obtain ⟨cq77, kq77, q77a, q77b, q77c⟩ := isOf hZ e72 (E0.keep K71c)
 obtain ⟨_, _, ⟨T77, L77, k77, n77⟩, -, X77, ⟨Lc77, hQ77, l77, y77, z77⟩, st77⟩ := X72.virtualBack hx (y := ym11) (z := ym11) hown (ov hZ hw 49 rfl) (ov hZ hw 50 rfl) (notFace_of_selects (args := #[]) (ov hZ hw 52 rfl)) (ov hZ hw 52 rfl) (ov hZ hw 51 rfl) (by decide) (own_backOf (W := 3) (rx10_73 l Z a0 hw [] n0 h71 O71 G1 G3 GF s0_ b0_ kb_ c0_ c1_ c2_ (Fv.keep K71c nin0) (Vb.keep K71c nin0) (Fc.keep K71c nin0) (E0.keep K71c)) hZ (ow hw 53 rfl) (ow hw 10 rfl) (by decide) (by decide)) q77a q77c (g := (mkF m 14 #[cr s0_, ci 46, ci 0] [(.ref s0_), (.int 0), (.int 46), (.ref b0_)])) rfl (by rw [hml]; rfl) (Steps.refl _) (argsL := []) (rest := [(.int 0), (.int 46), (.ref b0_)]) (lenOf pdx_4 rfl) rfl (own_w rfl) (hb hby d8_14) (fun _ _ => ⟨rfl, e72, (by decide : 0 + 0 ≤ _), (by decide : 0 + 0 ≤ _)⟩)
 dsimp only [Pt.U, Pt.locs, Pt.cells, Pt.slots] at X77 l77 y77 z77 st77 hQ77
 subst l77 y77 z77
 obtain ⟨rfl, N77q, K77c⟩ := hQ77
 have N77 := Fr.app N71 N77q
 refine Ends.go (fun _ k => st77.trans k) ?_
 obtain ⟨h77, e77⟩ : ∃ z, T77.heap = z := ⟨_, rfl⟩
 rw [e77] at K77c
 have K77 := K71.trans K77c all0
 have O77 := O71.keep K77c all0
 obtain ⟨_, _, ⟨T78, L78, k78, n78⟩, -, X78, ⟨Lc78, hQ78, l78, y78, z78⟩, st78⟩ := Jvm.LawKit.callS X77 hx (y := ym8) hown (ov hZ hw 59 rfl) (ov hZ hw 60 rfl) (ov hZ hw 61 rfl) (ov hZ hw 62 rfl) (by decide) (own_backOf (W := 0) (rmI12_3 l Z a0 hw [] n0 h77 O77  b0_ kb_ c0_ c1_ c2_ ((Vb.keep K71c nin0).keep K77c nin0)) hZ (ow hw 62 rfl) (ow hw 61 rfl) (by decide) (by decide)) (g := (mkF m 17 #[cr s0_, ci 46, ci 0] [(.int 3), (.int 0), (.int 46), (.ref b0_)])) rfl (by rw [hml]; rfl) (argsL := [(.ref b0_), (.int 46), (.int 0), (.int 3)]) (rest := []) (lenOf pdx_5 rfl) rfl (own_w rfl) (hb hby d8_17) (fun _ _ => ⟨rfl, e77, (by decide : 0 + 0 ≤ _), (by decide : 0 + 0 ≤ _)⟩)
 dsimp only [Pt.U, Pt.locs, Pt.cells, Pt.slots] at X78 l78 y78 z78 st78 hQ78
 subst l78 y78 z78
 obtain ⟨r78, rfl, N78q, K78c, hr78⟩ := hQ78
 have N78 := Fr.app N77 N78q
 refine Ends.go st78 ?_
 obtain ⟨h78, e78⟩ : ∃ z, T78.heap = z := ⟨_, rfl⟩
 rw [e78] at K78c
 have K78 := K77.trans K78c all0
 refine wgo (pc := 20) (pc' := 36) X78 hx hby d8_20 ?_
 refine Ends.ret X78 hx Bd.notSynchronized (t := .int) Bd.returns rfl (Or.inl ⟨rfl, by simp, _, rfl⟩) (hb hby d8_36) (by decide) (by decide) ?_
 rw [e78]
 exact ⟨_, rfl, N78, K78, hr78⟩

theorem rmI7_3 (l : Launch) (Z : State) (a0 : Array Value) (hw : HW a0 Z) (ws : List Jvm.Cond) (n0 : Nat) (h0 : Heap) (O0 : Old Z n0 h0)  (G1 : Int32) (G3 : Value) (GF : GlobF Z a0 G1 G3) (s0_ : Addr) (b0_ : Addr) (kb_ : ClassId) (c0_ c1_ c2_ : Int32) (E0 : Exa Z h0 s0_ cST) (Fv : Fld Z h0 s0_ cST "value" "[B" (.ref b0_)) (Fc : Fld Z h0 s0_ cST "coder" "B" (.int 0)) (Vb : Arv Z h0 b0_ kb_ .byte (3 : Int32) [(yb c0_), (yb c1_), (yb c2_)] (.int 0)) :
  Meets1 l ym13 jdk_42_method_79_code 2 (some .int) ws (mkR 4 0 0 80) #[(.ref s0_), (.int 46)] Z h0 (fun v h L => ∃ r : Int32, v = some (.int r) ∧ Fr n0 L ∧ Keep h0 h [] ∧ ((r = 0 ∧ (c0_.toInt8.toInt32) = (46 : Int32)) ∨ (r = 1 ∧ ¬ (c0_.toInt8.toInt32) = (46 : Int32) ∧ (c1_.toInt8.toInt32) = (46 : Int32)) ∨ (r = 2 ∧ ¬ (c0_.toInt8.toInt32) = (46 : Int32) ∧ ¬ (c1_.toInt8.toInt32) = (46 : Int32) ∧ (c2_.toInt8.toInt32) = (46 : Int32)) ∨ (r = -1 ∧ ¬ (c0_.toInt8.toInt32) = (46 : Int32) ∧ ¬ (c1_.toInt8.toInt32) = (46 : Int32) ∧ ¬ (c2_.toInt8.toInt32) = (46 : Int32)))) := by
 refine MetFree.of_bodySF (plainFor_of_name pn7) hisR ?_
 intro p e s m args below meth c s₁ Bd hml0 hP hK
 obtain ⟨rfl, hZ, hh⟩ := hP
 have hx := Bd.exec
 have hby := Bd.bytes
 have hml : c.maxLocals = 2 := hml0
 have hown : s.vm.findClass "java/lang/String" = some m.cls := findClass_of_methodNamed Bd.named
 have X0 : Stand p l e (mkR 4 0 0 80) s m #[(.ref s0_), (.int 46)] below meth c s₁ [] 0 0 := Stand.of_body Bd
 have e0 : s₁.heap = h0 := by rw [← hh, Bd.state]; rfl
 have N0 := Fr.nil n0
 show Ends _ _ _ _ s₁ (entryFrame m #[(.ref s0_), (.int 46)] 2) (mkR 4 0 0 80).cells (mkR 4 0 0 80).slots (fun v h L => ∃ r : Int32, v = some (.int r) ∧ Fr n0 L ∧ Keep h0 h [] ∧ ((r = 0 ∧ (c0_.toInt8.toInt32) = (46 : Int32)) ∨ (r = 1 ∧ ¬ (c0_.toInt8.toInt32) = (46 : Int32) ∧ (c1_.toInt8.toInt32) = (46 : Int32)) ∨ (r = 2 ∧ ¬ (c0_.toInt8.toInt32) = (46 : Int32) ∧ ¬ (c1_.toInt8.toInt32) = (46 : Int32) ∧ (c2_.toInt8.toInt32) = (46 : Int32)) ∨ (r = -1 ∧ ¬ (c0_.toInt8.toInt32) = (46 : Int32) ∧ ¬ (c1_.toInt8.toInt32) = (46 : Int32) ∧ ¬ (c2_.toInt8.toInt32) = (46 : Int32))))
 refine Ends.go (fun _ k => castTop (ef7_ri m s0_ (46 : Int32)) k) ?_
 have K0 := Keep.refl h0 []
 obtain ⟨SCS, P5, SSF, RG3, HC1, HC2, HCW⟩ := id GF
 refine walN X0 hx hby d7_0 rfl rfl ?_
 refine wilN X0 hx hby d7_1 rfl ?_
 refine wic X0 hx hby d7_2 ?_
 obtain ⟨cq79, kq79, q79a, q79b, q79c⟩ := isOf hZ e0 E0
 obtain ⟨_, _, ⟨T79, L79, k79, n79⟩, -, X79, ⟨Lc79, hQ79, l79, y79, z79⟩, st79⟩ := X0.virtualBack hx (y := ym12) (z := ym12) hown (ov hZ hw 38 rfl) (ov hZ hw 39 rfl) (notFace_of_selects (args := #[]) (ov hZ hw 41 rfl)) (ov hZ hw 41 rfl) (ov hZ hw 40 rfl) (by decide) (own_backOf (W := 0) (rmI8_3 l Z a0 hw [] n0 h0 O0 G1 G3 GF s0_ b0_ kb_ c0_ c1_ c2_ E0 Fv Fc Vb) hZ (ow hw 42 rfl) (ow hw 10 rfl) (by decide) (by decide)) q79a q79c (g := (mkF m 3 #[cr s0_, ci 46] [(.int 0), (.int 46), (.ref s0_)])) rfl (by rw [hml]; rfl) (Steps.refl _) (argsL := [(.int 46), (.int 0)]) (rest := []) (lenOf pdx_1 rfl) rfl (own_w rfl) (hb hby d7_3) (fun _ _ => ⟨rfl, e0, (by decide : 0 + 0 ≤ _), (by decide : 0 + 0 ≤ _)⟩)
 dsimp only [Pt.U, Pt.locs, Pt.cells, Pt.slots] at X79 l79 y79 z79 st79 hQ79
 subst l79 y79 z79
 obtain ⟨r79, rfl, N79q, K79c, hr79⟩ := hQ79
 have N79 := Fr.app N0 N79q
 refine Ends.go (fun _ k => st79.trans k) ?_
 obtain ⟨h79, e79⟩ : ∃ z, T79.heap = z := ⟨_, rfl⟩
 rw [e79] at K79c
 have K79 := K0.trans K79c all0
 refine Ends.ret X79 hx Bd.notSynchronized (t := .int) Bd.returns rfl (Or.inl ⟨rfl, by simp, _, rfl⟩) (hb hby d7_6) (by decide) (by decide) ?_
 rw [e79]
 exact ⟨_, rfl, N79, K79, hr79⟩

theorem rmI19_4 (l : Launch) (Z : State) (a0 : Array Value) (hw : HW a0 Z) (ws : List Jvm.Cond) (n0 : Nat) (h0 : Heap) (O0 : Old Z n0 h0)  (b0_ : Addr) (kb_ : ClassId) (c0_ c1_ c2_ c3_ : Int32) (Vb : Arv Z h0 b0_ kb_ .byte (4 : Int32) [(yb c0_), (yb c1_), (yb c2_), (yb c3_)] (.int 0)) :
  Meets1 l ym14 jdk_43_method_23_code 6 (some .int) ws (mkR 0 0 0 0) #[(.ref b0_), (.int 46), (.int 0), (.int 4)] Z h0 (fun v h L => ∃ r : Int32, v = some (.int r) ∧ Fr n0 L ∧ Keep h0 h [] ∧ ((r = 0 ∧ (c0_.toInt8.toInt32) = (46 : Int32)) ∨ (r = 1 ∧ ¬ (c0_.toInt8.toInt32) = (46 : Int32) ∧ (c1_.toInt8.toInt32) = (46 : Int32)) ∨ (r = 2 ∧ ¬ (c0_.toInt8.toInt32) = (46 : Int32) ∧ ¬ (c1_.toInt8.toInt32) = (46 : Int32) ∧ (c2_.toInt8.toInt32) = (46 : Int32)) ∨ (r = 3 ∧ ¬ (c0_.toInt8.toInt32) = (46 : Int32) ∧ ¬ (c1_.toInt8.toInt32) = (46 : Int32) ∧ ¬ (c2_.toInt8.toInt32) = (46 : Int32) ∧ (c3_.toInt8.toInt32) = (46 : Int32)) ∨ (r = -1 ∧ ¬ (c0_.toInt8.toInt32) = (46 : Int32) ∧ ¬ (c1_.toInt8.toInt32) = (46 : Int32) ∧ ¬ (c2_.toInt8.toInt32) = (46 : Int32) ∧ ¬ (c3_.toInt8.toInt32) = (46 : Int32)))) := by
 refine MetFree.of_bodySF (plainFor_of_name pn19) hisR ?_
 intro p e s m args below meth c s₁ Bd hml0 hP hK
 obtain ⟨rfl, hZ, hh⟩ := hP
 have hx := Bd.exec
 have hby := Bd.bytes
 have X0 : Stand p l e (mkR 0 0 0 0) s m #[(.ref b0_), (.int 46), (.int 0), (.int 4)] below meth c s₁ [] 0 0 := Stand.of_body Bd
 have e0 : s₁.heap = h0 := by rw [← hh, Bd.state]; rfl
 have N0 := Fr.nil n0
 show Ends _ _ _ _ s₁ (entryFrame m #[(.ref b0_), (.int 46), (.int 0), (.int 4)] 6) (mkR 0 0 0 0).cells (mkR 0 0 0 0).slots (fun v h L => ∃ r : Int32, v = some (.int r) ∧ Fr n0 L ∧ Keep h0 h [] ∧ ((r = 0 ∧ (c0_.toInt8.toInt32) = (46 : Int32)) ∨ (r = 1 ∧ ¬ (c0_.toInt8.toInt32) = (46 : Int32) ∧ (c1_.toInt8.toInt32) = (46 : Int32)) ∨ (r = 2 ∧ ¬ (c0_.toInt8.toInt32) = (46 : Int32) ∧ ¬ (c1_.toInt8.toInt32) = (46 : Int32) ∧ (c2_.toInt8.toInt32) = (46 : Int32)) ∨ (r = 3 ∧ ¬ (c0_.toInt8.toInt32) = (46 : Int32) ∧ ¬ (c1_.toInt8.toInt32) = (46 : Int32) ∧ ¬ (c2_.toInt8.toInt32) = (46 : Int32) ∧ (c3_.toInt8.toInt32) = (46 : Int32)) ∨ (r = -1 ∧ ¬ (c0_.toInt8.toInt32) = (46 : Int32) ∧ ¬ (c1_.toInt8.toInt32) = (46 : Int32) ∧ ¬ (c2_.toInt8.toInt32) = (46 : Int32) ∧ ¬ (c3_.toInt8.toInt32) = (46 : Int32))))
 refine Ends.go (fun _ k => castTop (ef19_riii m b0_ (46 : Int32) (0 : Int32) (4 : Int32)) k) ?_
 have K0 := Keep.refl h0 []
 refine wilN X0 hx hby d19_0 rfl ?_
 refine .go (fun _ => XS.i2b X0.here hx rfl (hb hby d19_1) rfl) ?_
 refine wst X0 hx hby d19_2 (l' := #[cr b0_, ci 46, ci 0, ci 4, ci 46, cu]) rfl ?_
 refine wilN X0 hx hby d19_4 rfl ?_
 refine wst X0 hx hby d19_5 (l' := #[cr b0_, ci 46, ci 0, ci 4, ci 46, ci 0]) rfl ?_
 refine wil X0 hx hby d19_7 rfl ?_
 refine wilN X0 hx hby d19_9 rfl ?_
 refine wcn X0 hx hby d19_10 (tlt (by decide : (0 : Int32) < (4 : Int32))).2.1 ?_
 refine walN X0 hx hby d19_13 rfl rfl ?_
 refine wil X0 hx hby d19_14 rfl ?_
 obtain ⟨cl80, Ar80, q80, S80, M80, H80, G80⟩ := id Vb
 have hin80 := inb_of (j := (0 : Int32)) S80 ⟨by decide, by decide⟩
 refine Ends.go (X0.baloadBytes hx (j := (0 : Int32)) (v := (yb c0_)) (by rw [e0]; exact Ar80.1) (State.isArrayOf_alike hZ.alike Ar80.2.1) Ar80.2.2 hin80 (H80.at hin80 rfl) (g := (mkF m 16 #[cr b0_, ci 46, ci 0, ci 4, ci 46, ci 0] [(.int 0), (.ref b0_)])) rfl rfl (hb hby d19_16)) ?_
 refine wil X0 hx hby d19_17 rfl ?_
 by_cases hc19_81 : (c0_.toInt8.toInt32) = (46 : Int32)
 ·refine wcn X0 hx hby d19_19 (teq hc19_81).2 ?_
  refine wil X0 hx hby d19_22 rfl ?_
  refine Ends.ret X0 hx Bd.notSynchronized (t := .int) Bd.returns rfl (Or.inl ⟨rfl, by simp, _, rfl⟩) (hb hby d19_24) (by decide) (by decide) ?_
  rw [e0]
  exact ⟨(0 : Int32), rfl, N0, K0, Or.inl ⟨rfl, hc19_81⟩⟩
 ·refine wcy (pc := 19) (pc' := 25) X0 hx hby d19_19 (feq hc19_81).2 ?_
  refine wii X0 hx hby d19_25 (l' := #[cr b0_, ci 46, ci 0, ci 4, ci 46, ci 1]) rfl rfl ?_
  refine wgo (pc := 28) (pc' := 7) X0 hx hby d19_28 ?_
  refine wil X0 hx hby d19_7 rfl ?_
  refine wilN X0 hx hby d19_9 rfl ?_
  refine wcn X0 hx hby d19_10 (tlt (by decide : (1 : Int32) < (4 : Int32))).2.1 ?_
  refine walN X0 hx hby d19_13 rfl rfl ?_
  refine wil X0 hx hby d19_14 rfl ?_
  obtain ⟨cl82, Ar82, q82, S82, M82, H82, G82⟩ := id Vb
  have hin82 := inb_of (j := (1 : Int32)) S82 ⟨by decide, by decide⟩
  refine Ends.go (X0.baloadBytes hx (j := (1 : Int32)) (v := (yb c1_)) (by rw [e0]; exact Ar82.1) (State.isArrayOf_alike hZ.alike Ar82.2.1) Ar82.2.2 hin82 (H82.at hin82 rfl) (g := (mkF m 16 #[cr b0_, ci 46, ci 0, ci 4, ci 46, ci 1] [(.int 1), (.ref b0_)])) rfl rfl (hb hby d19_16)) ?_
  refine wil X0 hx hby d19_17 rfl ?_
  by_cases hc19_83 : (c1_.toInt8.toInt32) = (46 : Int32)
  ·refine wcn X0 hx hby d19_19 (teq hc19_83).2 ?_
   refine wil X0 hx hby d19_22 rfl ?_
   refine Ends.ret X0 hx Bd.notSynchronized (t := .int) Bd.returns rfl (Or.inl ⟨rfl, by simp, _, rfl⟩) (hb hby d19_24) (by decide) (by decide) ?_
   rw [e0]
   exact ⟨(1 : Int32), rfl, N0, K0, Or.inr (Or.inl ⟨rfl, hc19_81, hc19_83⟩)⟩
  ·refine wcy (pc := 19) (pc' := 25) X0 hx hby d19_19 (feq hc19_83).2 ?_
   refine wii X0 hx hby d19_25 (l' := #[cr b0_, ci 46, ci 0, ci 4, ci 46, ci 2]) rfl rfl ?_
   refine wgo (pc := 28) (pc' := 7) X0 hx hby d19_28 ?_
   show Ends _ _ _ _ s₁ (mkF m 7 #[cr b0_, ci 46, ci 0, ci 4, ci 46, ci 2] []) _ _ _
   refine wil X0 hx hby d19_7 rfl ?_
   refine wilN X0 hx hby d19_9 rfl ?_
   refine wcn X0 hx hby d19_10 (tlt (by decide : (2 : Int32) < (4 : Int32))).2.1 ?_
   refine walN X0 hx hby d19_13 rfl rfl ?_
   refine wil X0 hx hby d19_14 rfl ?_
   obtain ⟨cl84, Ar84, q84, S84, M84, H84, G84⟩ := id Vb
   have hin84 := inb_of (j := (2 : Int32)) S84 ⟨by decide, by decide⟩
   refine Ends.go (X0.baloadBytes hx (j := (2 : Int32)) (v := (yb c2_)) (by rw [e0]; exact Ar84.1) (State.isArrayOf_alike hZ.alike Ar84.2.1) Ar84.2.2 hin84 (H84.at hin84 rfl) (g := (mkF m 16 #[cr b0_, ci 46, ci 0, ci 4, ci 46, ci 2] [(.int 2), (.ref b0_)])) rfl rfl (hb hby d19_16)) ?_
   refine wil X0 hx hby d19_17 rfl ?_
   by_cases hc19_85 : (c2_.toInt8.toInt32) = (46 : Int32)
   ·refine wcn X0 hx hby d19_19 (teq hc19_85).2 ?_
    refine wil X0 hx hby d19_22 rfl ?_
    refine Ends.ret X0 hx Bd.notSynchronized (t := .int) Bd.returns rfl (Or.inl ⟨rfl, by simp, _, rfl⟩) (hb hby d19_24) (by decide) (by decide) ?_
    rw [e0]
    exact ⟨(2 : Int32), rfl, N0, K0, Or.inr (Or.inr (Or.inl ⟨rfl, hc19_81, hc19_83, hc19_85⟩))⟩
   ·refine wcy (pc := 19) (pc' := 25) X0 hx hby d19_19 (feq hc19_85).2 ?_
    refine wii X0 hx hby d19_25 (l' := #[cr b0_, ci 46, ci 0, ci 4, ci 46, ci 3]) rfl rfl ?_
    refine wgo (pc := 28) (pc' := 7) X0 hx hby d19_28 ?_
    refine wil X0 hx hby d19_7 rfl ?_
    refine wilN X0 hx hby d19_9 rfl ?_
    refine wcn X0 hx hby d19_10 (tlt (by decide : (3 : Int32) < (4 : Int32))).2.1 ?_
    refine walN X0 hx hby d19_13 rfl rfl ?_
    refine wil X0 hx hby d19_14 rfl ?_
    obtain ⟨cl86, Ar86, q86, S86, M86, H86, G86⟩ := id Vb
    have hin86 := inb_of (j := (3 : Int32)) S86 ⟨by decide, by decide⟩
    refine Ends.go (X0.baloadBytes hx (j := (3 : Int32)) (v := (yb c3_)) (by rw [e0]; exact Ar86.1) (State.isArrayOf_alike hZ.alike Ar86.2.1) Ar86.2.2 hin86 (H86.at hin86 rfl) (g := (mkF m 16 #[cr b0_, ci 46, ci 0, ci 4, ci 46, ci 3] [(.int 3), (.ref b0_)])) rfl rfl (hb hby d19_16)) ?_
    refine wil X0 hx hby d19_17 rfl ?_
    by_cases hc19_87 : (c3_.toInt8.toInt32) = (46 : Int32)
    ·refine wcn X0 hx hby d19_19 (teq hc19_87).2 ?_
     refine wil X0 hx hby d19_22 rfl ?_
     refine Ends.ret X0 hx Bd.notSynchronized (t := .int) Bd.returns rfl (Or.inl ⟨rfl, by simp, _, rfl⟩) (hb hby d19_24) (by decide) (by decide) ?_
     rw [e0]
     exact ⟨(3 : Int32), rfl, N0, K0, Or.inr (Or.inr (Or.inr (Or.inl ⟨rfl, hc19_81, hc19_83, hc19_85, hc19_87⟩)))⟩
    ·refine wcy (pc := 19) (pc' := 25) X0 hx hby d19_19 (feq hc19_87).2 ?_
     refine wii X0 hx hby d19_25 (l' := #[cr b0_, ci 46, ci 0, ci 4, ci 46, ci 4]) rfl rfl ?_
     refine wgo (pc := 28) (pc' := 7) X0 hx hby d19_28 ?_
     refine wil X0 hx hby d19_7 rfl ?_
     refine wilN X0 hx hby d19_9 rfl ?_
     refine wcy (pc := 10) (pc' := 31) X0 hx hby d19_10 (flt (by decide : ¬ ((4 : Int32) < (4 : Int32)))).2.1 ?_
     refine wic X0 hx hby d19_31 ?_
     refine Ends.ret X0 hx Bd.notSynchronized (t := .int) Bd.returns rfl (Or.inl ⟨rfl, by simp, _, rfl⟩) (hb hby d19_32) (by decide) (by decide) ?_
     rw [e0]
     exact ⟨(-1 : Int32), rfl, N0, K0, Or.inr (Or.inr (Or.inr (Or.inr (⟨rfl, hc19_81, hc19_83, hc19_85, hc19_87⟩))))⟩

theorem rx15_91 (l : Launch) (Z : State) (a0 : Array Value) (hw : HW a0 Z) (ws : List Jvm.Cond) (n0 : Nat) (h0 : Heap) (O0 : Old Z n0 h0)    :
  Meets1 l ym7 jdk_29_method_69_code 2 (some .int) ws (mkR 0 0 0 0) #[(.int 4), (.int 4)] Z h0 (fun v h L => v = some (.int 4) ∧ Fr n0 L ∧ Keep h0 h []) := by
 refine MetFree.of_bodySF (Jvm.Free.JP.mathPlain rfl (by decide +kernel)) hisR ?_
 intro p e s m args below meth c s₁ Bd hml0 hP hK
 obtain ⟨rfl, hZ, hh⟩ := hP
 have hx := Bd.exec
 have hby := Bd.bytes
 have X0 : Stand p l e (mkR 0 0 0 0) s m #[(.int 4), (.int 4)] below meth c s₁ [] 0 0 := Stand.of_body Bd
 have e0 : s₁.heap = h0 := by rw [← hh, Bd.state]; rfl
 have N0 := Fr.nil n0
 show Ends _ _ _ _ s₁ (entryFrame m #[(.int 4), (.int 4)] 2) (mkR 0 0 0 0).cells (mkR 0 0 0 0).slots (fun v h L => v = some (.int 4) ∧ Fr n0 L ∧ Keep h0 h [])
 refine Ends.go (fun _ k => castTop (ef15_ii m (4 : Int32) (4 : Int32)) k) ?_
 have K0 := Keep.refl h0 []
 show Ends _ _ _ _ s₁ (mkF m 0 #[ci 4, ci 4] []) _ _ _
 refine wilN X0 hx hby d15_0 rfl ?_
 refine wilN X0 hx hby d15_1 rfl ?_
 refine wcn X0 hx hby d15_2 (flt (by decide : ¬ ((4 : Int32) < (4 : Int32)))).2.2.1 ?_
 refine wilN X0 hx hby d15_5 rfl ?_
 refine wgo (pc := 6) (pc' := 10) X0 hx hby d15_6 ?_
 refine Ends.ret X0 hx Bd.notSynchronized (t := .int) Bd.returns rfl (Or.inl ⟨rfl, by simp, _, rfl⟩) (hb hby d15_10) (by decide) (by decide) ?_
 rw [e0]
 exact ⟨rfl, N0, K0⟩

theorem rmI12_4 (l : Launch) (Z : State) (a0 : Array Value) (hw : HW a0 Z) (ws : List Jvm.Cond) (n0 : Nat) (h0 : Heap) (O0 : Old Z n0 h0)  (b0_ : Addr) (kb_ : ClassId) (c0_ c1_ c2_ c3_ : Int32) (Vb : Arv Z h0 b0_ kb_ .byte (4 : Int32) [(yb c0_), (yb c1_), (yb c2_), (yb c3_)] (.int 0)) :
  Meets1 l ym8 jdk_43_method_22_code 4 (some .int) ws (mkR 1 0 0 25) #[(.ref b0_), (.int 46), (.int 0), (.int 4)] Z h0 (fun v h L => ∃ r : Int32, v = some (.int r) ∧ Fr n0 L ∧ Keep h0 h [] ∧ ((r = 0 ∧ (c0_.toInt8.toInt32) = (46 : Int32)) ∨ (r = 1 ∧ ¬ (c0_.toInt8.toInt32) = (46 : Int32) ∧ (c1_.toInt8.toInt32) = (46 : Int32)) ∨ (r = 2 ∧ ¬ (c0_.toInt8.toInt32) = (46 : Int32) ∧ ¬ (c1_.toInt8.toInt32) = (46 : Int32) ∧ (c2_.toInt8.toInt32) = (46 : Int32)) ∨ (r = 3 ∧ ¬ (c0_.toInt8.toInt32) = (46 : Int32) ∧ ¬ (c1_.toInt8.toInt32) = (46 : Int32) ∧ ¬ (c2_.toInt8.toInt32) = (46 : Int32) ∧ (c3_.toInt8.toInt32) = (46 : Int32)) ∨ (r = -1 ∧ ¬ (c0_.toInt8.toInt32) = (46 : Int32) ∧ ¬ (c1_.toInt8.toInt32) = (46 : Int32) ∧ ¬ (c2_.toInt8.toInt32) = (46 : Int32) ∧ ¬ (c3_.toInt8.toInt32) = (46 : Int32)))) := by
 refine MetFree.of_bodySF (plainFor_of_name pn12) hisR ?_
 intro p e s m args below meth c s₁ Bd hml0 hP hK
 obtain ⟨rfl, hZ, hh⟩ := hP
 have hx := Bd.exec
 have hby := Bd.bytes
 have hml : c.maxLocals = 4 := hml0
 have hown : s.vm.findClass "java/lang/StringLatin1" = some m.cls := findClass_of_methodNamed Bd.named
 have X0 : Stand p l e (mkR 1 0 0 25) s m #[(.ref b0_), (.int 46), (.int 0), (.int 4)] below meth c s₁ [] 0 0 := Stand.of_body Bd
 have e0 : s₁.heap = h0 := by rw [← hh, Bd.state]; rfl
 have N0 := Fr.nil n0
 show Ends _ _ _ _ s₁ (entryFrame m #[(.ref b0_), (.int 46), (.int 0), (.int 4)] 4) (mkR 1 0 0 25).cells (mkR 1 0 0 25).slots (fun v h L => ∃ r : Int32, v = some (.int r) ∧ Fr n0 L ∧ Keep h0 h [] ∧ ((r = 0 ∧ (c0_.toInt8.toInt32) = (46 : Int32)) ∨ (r = 1 ∧ ¬ (c0_.toInt8.toInt32) = (46 : Int32) ∧ (c1_.toInt8.toInt32) = (46 : Int32)) ∨ (r = 2 ∧ ¬ (c0_.toInt8.toInt32) = (46 : Int32) ∧ ¬ (c1_.toInt8.toInt32) = (46 : Int32) ∧ (c2_.toInt8.toInt32) = (46 : Int32)) ∨ (r = 3 ∧ ¬ (c0_.toInt8.toInt32) = (46 : Int32) ∧ ¬ (c1_.toInt8.toInt32) = (46 : Int32) ∧ ¬ (c2_.toInt8.toInt32) = (46 : Int32) ∧ (c3_.toInt8.toInt32) = (46 : Int32)) ∨ (r = -1 ∧ ¬ (c0_.toInt8.toInt32) = (46 : Int32) ∧ ¬ (c1_.toInt8.toInt32) = (46 : Int32) ∧ ¬ (c2_.toInt8.toInt32) = (46 : Int32) ∧ ¬ (c3_.toInt8.toInt32) = (46 : Int32))))
 refine Ends.go (fun _ k => castTop (ef12_riii m b0_ (46 : Int32) (0 : Int32) (4 : Int32)) k) ?_
 have K0 := Keep.refl h0 []
 refine wilN X0 hx hby d12_0 rfl ?_
 obtain ⟨_, _, ⟨T88, L88, k88, n88⟩, -, X88, ⟨Lc88, hQ88, l88, y88, z88⟩, st88⟩ := Jvm.LawKit.callS X0 hx (y := ym5) hown (ov hZ hw 63 rfl) (ov hZ hw 64 rfl) (ov hZ hw 61 rfl) (ov hZ hw 65 rfl) (by decide) (own_backOf (W := 0) (rx13_1 l Z a0 hw [] n0 h0 O0   ) hZ (ow hw 65 rfl) (ow hw 61 rfl) (by decide) (by decide)) (g := (mkF m 1 #[cr b0_, ci 46, ci 0, ci 4] [(.int 46)])) rfl (by rw [hml]; rfl) (argsL := [(.int 46)]) (rest := []) (lenOf pdx_0 rfl) rfl (own_w rfl) (hb hby d12_1) (fun _ _ => ⟨rfl, e0, (by decide : 0 + 0 ≤ _), (by decide : 0 + 0 ≤ _)⟩)
 dsimp only [Pt.U, Pt.locs, Pt.cells, Pt.slots] at X88 l88 y88 z88 st88 hQ88
 subst l88 y88 z88
 obtain ⟨rfl, N88q, K88c⟩ := hQ88
 have N88 := Fr.app N0 N88q
 refine Ends.go st88 ?_
 obtain ⟨h88, e88⟩ : ∃ z, T88.heap = z := ⟨_, rfl⟩
 rw [e88] at K88c
 have K88 := K0.trans K88c all0
 have O88 := O0.keep K88c all0
 refine wiy (pc := 4) (pc' := 9) X88 hx hby d12_4 ((if0 _ _).trans (feq (by decide : ¬ ((1 : Int32) = (0 : Int32)))).2) ?_
 refine wilN X88 hx hby d12_9 rfl ?_
 refine wic X88 hx hby d12_10 ?_
 obtain ⟨_, _, ⟨T89, L89, k89, n89⟩, -, X89, ⟨Lc89, hQ89, l89, y89, z89⟩, st89⟩ := Jvm.LawKit.callS X88 hx (y := ym6) hown (ov hZ hw 66 rfl) (ov hZ hw 67 rfl) (ov hZ hw 68 rfl) (ov hZ hw 69 rfl) (by decide) (own_backOf (W := 0) (rx14_3 l Z a0 hw [] n0 h88 O88   ) hZ (ow hw 69 rfl) (ow hw 68 rfl) (by decide) (by decide)) (g := (mkF m 11 #[cr b0_, ci 46, ci 0, ci 4] [(.int 0), (.int 0)])) rfl (by rw [hml]; rfl) (argsL := [(.int 0), (.int 0)]) (rest := []) (lenOf pdx_1 rfl) rfl (own_w rfl) (hb hby d12_11) (fun _ _ => ⟨rfl, e88, (by decide : 0 + 0 ≤ _), (by decide : 0 + 0 ≤ _)⟩)
 dsimp only [Pt.U, Pt.locs, Pt.cells, Pt.slots] at X89 l89 y89 z89 st89 hQ89
 subst l89 y89 z89
 obtain ⟨rfl, N89q, K89c⟩ := hQ89
 have N89 := Fr.app N88 N89q
 refine Ends.go st89 ?_
 obtain ⟨h89, e89⟩ : ∃ z, T89.heap = z := ⟨_, rfl⟩
 rw [e89] at K89c
 have K89 := K88.trans K89c all0
 have O89 := O88.keep K89c all0
 refine wstN X89 hx hby d12_14 (l' := #[cr b0_, ci 46, ci 0, ci 4]) rfl ?_
 refine wilN X89 hx hby d12_15 rfl ?_
 refine walN X89 hx hby d12_16 rfl rfl ?_
 obtain ⟨cl90, Ar90, q90, S90, M90, H90, G90⟩ := id ((Vb.keep K88c nin0).keep K89c nin0)
 refine Ends.go (X89.arraylength hx (by rw [e89]; exact Ar90.1) (State.isArrayOf_alike hZ.alike Ar90.2.1) (g := (mkF m 17 #[cr b0_, ci 46, ci 0, ci 4] [(.ref b0_), (.int 4)])) rfl rfl (hb hby d12_17)) ?_
 rw [len_of S90 M90]
 obtain ⟨_, _, ⟨T92, L92, k92, n92⟩, -, X92, ⟨Lc92, hQ92, l92, y92, z92⟩, st92⟩ := Jvm.LawKit.callS X89 hx (y := ym7) hown (ov hZ hw 70 rfl) (ov hZ hw 71 rfl) (ov hZ hw 68 rfl) (ov hZ hw 72 rfl) (by decide) (own_backOf (W := 0) (rx15_91 l Z a0 hw [] n0 h89 O89   ) hZ (ow hw 72 rfl) (ow hw 68 rfl) (by decide) (by decide)) (g := (mkF m 18 #[cr b0_, ci 46, ci 0, ci 4] [(.int 4), (.int 4)])) rfl (by rw [hml]; rfl) (argsL := [(.int 4), (.int 4)]) (rest := []) (lenOf pdx_1 rfl) rfl (own_w rfl) (hb hby d12_18) (fun _ _ => ⟨rfl, e89, (by decide : 0 + 0 ≤ _), (by decide : 0 + 0 ≤ _)⟩)
 dsimp only [Pt.U, Pt.locs, Pt.cells, Pt.slots] at X92 l92 y92 z92 st92 hQ92
 subst l92 y92 z92
 obtain ⟨rfl, N92q, K92c⟩ := hQ92
 have N92 := Fr.app N89 N92q
 refine Ends.go st92 ?_
 obtain ⟨h92, e92⟩ : ∃ z, T92.heap = z := ⟨_, rfl⟩
 rw [e92] at K92c
 have K92 := K89.trans K92c all0
 have O92 := O89.keep K92c all0
 refine wstN X92 hx hby d12_21 (l' := #[cr b0_, ci 46, ci 0, ci 4]) rfl ?_
 refine wilN X92 hx hby d12_22 rfl ?_
 refine wilN X92 hx hby d12_23 rfl ?_
 refine wcy (pc := 24) (pc' := 29) X92 hx hby d12_24 (tlt (by decide : (0 : Int32) < (4 : Int32))).1 ?_
 refine walN X92 hx hby d12_29 rfl rfl ?_
 refine wilN X92 hx hby d12_30 rfl ?_
 refine wilN X92 hx hby d12_31 rfl ?_
 refine wilN X92 hx hby d12_32 rfl ?_
 obtain ⟨_, _, ⟨T93, L93, k93, n93⟩, -, X93, ⟨Lc93, hQ93, l93, y93, z93⟩, st93⟩ := Jvm.LawKit.callS X92 hx (y := ym14) hown (ov hZ hw 83 rfl) (ov hZ hw 84 rfl) (ov hZ hw 61 rfl) (ov hZ hw 85 rfl) (by decide) (own_backOf (W := 0) (rmI19_4 l Z a0 hw [] n0 h92 O92  b0_ kb_ c0_ c1_ c2_ c3_ (((Vb.keep K88c nin0).keep K89c nin0).keep K92c nin0)) hZ (ow hw 85 rfl) (ow hw 61 rfl) (by decide) (by decide)) (g := (mkF m 33 #[cr b0_, ci 46, ci 0, ci 4] [(.int 4), (.int 0), (.int 46), (.ref b0_)])) rfl (by rw [hml]; rfl) (argsL := [(.ref b0_), (.int 46), (.int 0), (.int 4)]) (rest := []) (lenOf pdx_5 rfl) rfl (own_w rfl) (hb hby d12_33) (fun _ _ => ⟨rfl, e92, (by decide : 0 + 0 ≤ _), (by decide : 0 + 0 ≤ _)⟩)
 dsimp only [Pt.U, Pt.locs, Pt.cells, Pt.slots] at X93 l93 y93 z93 st93 hQ93
 subst l93 y93 z93
 obtain ⟨r93, rfl, N93q, K93c, hr93⟩ := hQ93
 have N93 := Fr.app N92 N93q
 refine Ends.go st93 ?_
 obtain ⟨h93, e93⟩ : ∃ z, T93.heap = z := ⟨_, rfl⟩
 rw [e93] at K93c
 have K93 := K92.trans K93c all0
 refine Ends.ret X93 hx Bd.notSynchronized (t := .int) Bd.returns rfl (Or.inl ⟨rfl, by simp, _, rfl⟩) (hb hby d12_36) (by decide) (by decide) ?_
 rw [e93]
 exact ⟨_, rfl, N93, K93, hr93⟩

theorem rx10_96 (l : Launch) (Z : State) (a0 : Array Value) (hw : HW a0 Z) (ws : List Jvm.Cond) (n0 : Nat) (h0 : Heap) (O0 : Old Z n0 h0) (G1 : Int32) (G3 : Value) (GF : GlobF Z a0 G1 G3) (s0_ : Addr) (b0_ : Addr) (kb_ : ClassId) (c0_ : Int32) (c1_ : Int32) (c2_ : Int32) (c3_ : Int32) (PF_s0__value : Fld Z h0 s0_ cST "value" "[B" (.ref b0_)) (PV_b0_ : Arv Z h0 b0_ kb_ .byte (4 : Int32) [(yb c0_), (yb c1_), (yb c2_), (yb c3_)] (.int 0)) (PF_s0__coder : Fld Z h0 s0_ cST "coder" "B" (.int 0)) (PE_s0_ : Exa Z h0 s0_ cST) :
  Meets1 l ym11 jdk_42_method_54_code 1 (some .int) ws (mkR 1 0 0 13) #[(.ref s0_)] Z h0 (fun v h L => v = some (.int 4) ∧ Fr n0 L ∧ Keep h0 h []) := by
 refine MetFree.of_bodySF (plainFor_of_name pn10) hisR ?_
 intro p e s m args below meth c s₁ Bd hml0 hP hK
 obtain ⟨rfl, hZ, hh⟩ := hP
 have hx := Bd.exec
 have hby := Bd.bytes
 have hml : c.maxLocals = 1 := hml0
 have hown : s.vm.findClass "java/lang/String" = some m.cls := findClass_of_methodNamed Bd.named
 have X0 : Stand p l e (mkR 1 0 0 13) s m #[(.ref s0_)] below meth c s₁ [] 0 0 := Stand.of_body Bd
 have e0 : s₁.heap = h0 := by rw [← hh, Bd.state]; rfl
 have N0 := Fr.nil n0
 show Ends _ _ _ _ s₁ (entryFrame m #[(.ref s0_)] 1) (mkR 1 0 0 13).cells (mkR 1 0 0 13).slots (fun v h L => v = some (.int 4) ∧ Fr n0 L ∧ Keep h0 h [])
 refine Ends.go (fun _ k => castTop (ef10_r m s0_) k) ?_
 obtain ⟨SCS, P5, SSF, RG3, HC1, HC2, HCW⟩ := id GF
 have K0 := Keep.refl h0 []
 show Ends _ _ _ _ s₁ (mkF m 0 #[cr s0_] []) _ _ _
 refine walN X0 hx hby d10_0 rfl rfl ?_
 obtain ⟨T97, X97, e97, st97⟩ := getF X0 hx hZ hown (host := "") (Or.inl (ow hw 27 rfl)) Via.refl e0 PF_s0__value (g := (mkF m 1 #[cr s0_] [(.ref s0_)])) rfl rfl (hb hby d10_1)
 refine Ends.go st97 ?_
 obtain ⟨cl98, Ar98, q98, S98, M98, H98, G98⟩ := id PV_b0_
 refine Ends.go (X97.arraylength hx (by rw [e97]; exact Ar98.1) (State.isArrayOf_alike hZ.alike Ar98.2.1) (g := (mkF m 4 #[cr s0_] [(.ref b0_)])) rfl rfl (hb hby d10_4)) ?_
 rw [len_of S98 M98]
 refine walN X97 hx hby d10_5 rfl rfl ?_
 obtain ⟨cq99, kq99, q99a, q99b, q99c⟩ := isOf hZ e97 PE_s0_
 obtain ⟨_, _, ⟨T99, L99, k99, n99⟩, -, X99, ⟨Lc99, hQ99, l99, y99, z99⟩, st99⟩ := X97.virtualBack hx (y := ym10) (z := ym10) hown (ov hZ hw 54 rfl) (ov hZ hw 55 rfl) (notFace_of_selects (args := #[]) (ov hZ hw 57 rfl)) (ov hZ hw 57 rfl) (ov hZ hw 56 rfl) (by decide) (own_backOf (W := 1) (rx11_16 l Z a0 hw [] n0 h0 O0 G1 G3 GF s0_ PF_s0__coder) hZ (ow hw 58 rfl) (ow hw 10 rfl) (by decide) (by decide)) q99a q99c (g := (mkF m 6 #[cr s0_] [(.ref s0_), (.int 4)])) rfl (by rw [hml]; rfl) (Steps.refl _) (argsL := []) (rest := [(.int 4)]) (lenOf pdx_3 rfl) rfl (own_w rfl) (hb hby d10_6) (fun _ _ => ⟨rfl, e97, (by decide : 0 + 0 ≤ _), (by decide : 0 + 0 ≤ _)⟩)
 dsimp only [Pt.U, Pt.locs, Pt.cells, Pt.slots] at X99 l99 y99 z99 st99 hQ99
 subst l99 y99 z99
 obtain ⟨rfl, N99q, K99c⟩ := hQ99
 have N99 := Fr.app N0 N99q
 refine Ends.go (fun _ k => st99.trans k) ?_
 obtain ⟨h99, e99⟩ : ∃ z, T99.heap = z := ⟨_, rfl⟩
 rw [e99] at K99c
 have K99 := K0.trans K99c all0
 refine .go (fun _ => XS.ishr X99.here hx rfl (hb hby d10_9) rfl) ?_
 refine Ends.ret X99 hx Bd.notSynchronized (t := .int) Bd.returns rfl (Or.inl ⟨rfl, by simp, _, rfl⟩) (hb hby d10_10) (by decide) (by decide) ?_
 rw [e99]
 exact ⟨rfl, N99, K99⟩

theorem rmI8_4 (l : Launch) (Z : State) (a0 : Array Value) (hw : HW a0 Z) (ws : List Jvm.Cond) (n0 : Nat) (h0 : Heap) (O0 : Old Z n0 h0)  (G1 : Int32) (G3 : Value) (GF : GlobF Z a0 G1 G3) (s0_ : Addr) (b0_ : Addr) (kb_ : ClassId) (c0_ c1_ c2_ c3_ : Int32) (E0 : Exa Z h0 s0_ cST) (Fv : Fld Z h0 s0_ cST "value" "[B" (.ref b0_)) (Fc : Fld Z h0 s0_ cST "coder" "B" (.int 0)) (Vb : Arv Z h0 b0_ kb_ .byte (4 : Int32) [(yb c0_), (yb c1_), (yb c2_), (yb c3_)] (.int 0)) :
  Meets1 l ym12 jdk_42_method_80_code 3 (some .int) ws (mkR 3 0 0 60) #[(.ref s0_), (.int 46), (.int 0)] Z h0 (fun v h L => ∃ r : Int32, v = some (.int r) ∧ Fr n0 L ∧ Keep h0 h [] ∧ ((r = 0 ∧ (c0_.toInt8.toInt32) = (46 : Int32)) ∨ (r = 1 ∧ ¬ (c0_.toInt8.toInt32) = (46 : Int32) ∧ (c1_.toInt8.toInt32) = (46 : Int32)) ∨ (r = 2 ∧ ¬ (c0_.toInt8.toInt32) = (46 : Int32) ∧ ¬ (c1_.toInt8.toInt32) = (46 : Int32) ∧ (c2_.toInt8.toInt32) = (46 : Int32)) ∨ (r = 3 ∧ ¬ (c0_.toInt8.toInt32) = (46 : Int32) ∧ ¬ (c1_.toInt8.toInt32) = (46 : Int32) ∧ ¬ (c2_.toInt8.toInt32) = (46 : Int32) ∧ (c3_.toInt8.toInt32) = (46 : Int32)) ∨ (r = -1 ∧ ¬ (c0_.toInt8.toInt32) = (46 : Int32) ∧ ¬ (c1_.toInt8.toInt32) = (46 : Int32) ∧ ¬ (c2_.toInt8.toInt32) = (46 : Int32) ∧ ¬ (c3_.toInt8.toInt32) = (46 : Int32)))) := by
 refine MetFree.of_bodySF (plainFor_of_name pn8) hisR ?_
 intro p e s m args below meth c s₁ Bd hml0 hP hK
 obtain ⟨rfl, hZ, hh⟩ := hP
 have hx := Bd.exec
 have hby := Bd.bytes
 have hml : c.maxLocals = 3 := hml0
 have hown : s.vm.findClass "java/lang/String" = some m.cls := findClass_of_methodNamed Bd.named
 have X0 : Stand p l e (mkR 3 0 0 60) s m #[(.ref s0_), (.int 46), (.int 0)] below meth c s₁ [] 0 0 := Stand.of_body Bd
 have e0 : s₁.heap = h0 := by rw [← hh, Bd.state]; rfl
 have N0 := Fr.nil n0
 show Ends _ _ _ _ s₁ (entryFrame m #[(.ref s0_), (.int 46), (.int 0)] 3) (mkR 3 0 0 60).cells (mkR 3 0 0 60).slots (fun v h L => ∃ r : Int32, v = some (.int r) ∧ Fr n0 L ∧ Keep h0 h [] ∧ ((r = 0 ∧ (c0_.toInt8.toInt32) = (46 : Int32)) ∨ (r = 1 ∧ ¬ (c0_.toInt8.toInt32) = (46 : Int32) ∧ (c1_.toInt8.toInt32) = (46 : Int32)) ∨ (r = 2 ∧ ¬ (c0_.toInt8.toInt32) = (46 : Int32) ∧ ¬ (c1_.toInt8.toInt32) = (46 : Int32) ∧ (c2_.toInt8.toInt32) = (46 : Int32)) ∨ (r = 3 ∧ ¬ (c0_.toInt8.toInt32) = (46 : Int32) ∧ ¬ (c1_.toInt8.toInt32) = (46 : Int32) ∧ ¬ (c2_.toInt8.toInt32) = (46 : Int32) ∧ (c3_.toInt8.toInt32) = (46 : Int32)) ∨ (r = -1 ∧ ¬ (c0_.toInt8.toInt32) = (46 : Int32) ∧ ¬ (c1_.toInt8.toInt32) = (46 : Int32) ∧ ¬ (c2_.toInt8.toInt32) = (46 : Int32) ∧ ¬ (c3_.toInt8.toInt32) = (46 : Int32))))
 refine Ends.go (fun _ k => castTop (ef8_rii m s0_ (46 : Int32) (0 : Int32)) k) ?_
 have K0 := Keep.refl h0 []
 obtain ⟨SCS, P5, SSF, RG3, HC1, HC2, HCW⟩ := id GF
 refine walN X0 hx hby d8_0 rfl rfl ?_
 obtain ⟨cq94, kq94, q94a, q94b, q94c⟩ := isOf hZ e0 E0
 obtain ⟨_, _, ⟨T94, L94, k94, n94⟩, -, X94, ⟨Lc94, hQ94, l94, y94, z94⟩, st94⟩ := X0.virtualBack hx (y := ym9) (z := ym9) hown (ov hZ hw 43 rfl) (ov hZ hw 44 rfl) (notFace_of_selects (args := #[]) (ov hZ hw 46 rfl)) (ov hZ hw 46 rfl) (ov hZ hw 45 rfl) (by decide) (own_backOf (W := 0) (rx9_8 l Z a0 hw [] n0 h0 O0 G1 G3 GF s0_ Fc) hZ (ow hw 47 rfl) (ow hw 10 rfl) (by decide) (by decide)) q94a q94c (g := (mkF m 1 #[cr s0_, ci 46, ci 0] [(.ref s0_)])) rfl (by rw [hml]; rfl) (Steps.refl _) (argsL := []) (rest := []) (lenOf pdx_2 rfl) rfl (own_w rfl) (hb hby d8_1) (fun _ _ => ⟨rfl, e0, (by decide : 0 + 0 ≤ _), (by decide : 0 + 0 ≤ _)⟩)
 dsimp only [Pt.U, Pt.locs, Pt.cells, Pt.slots] at X94 l94 y94 z94 st94 hQ94
 subst l94 y94 z94
 obtain ⟨rfl, N94q, K94c⟩ := hQ94
 have N94 := Fr.app N0 N94q
 refine Ends.go (fun _ k => st94.trans k) ?_
 obtain ⟨h94, e94⟩ : ∃ z, T94.heap = z := ⟨_, rfl⟩
 rw [e94] at K94c
 have K94 := K0.trans K94c all0
 have O94 := O0.keep K94c all0
 refine win X94 hx hby d8_4 ((if0 _ _).trans (feq (by decide : ¬ ((1 : Int32) = (0 : Int32)))).1) ?_
 refine walN X94 hx hby d8_7 rfl rfl ?_
 obtain ⟨T95, X95, e95, st95⟩ := getF X94 hx hZ hown (host := "") (Or.inl (ow hw 27 rfl)) Via.refl e94 (Fv.keep K94c nin0) (g := (mkF m 8 #[cr s0_, ci 46, ci 0] [(.ref s0_)])) rfl rfl (hb hby d8_8)
 refine Ends.go st95 ?_
 refine wilN X95 hx hby d8_11 rfl ?_
 refine wilN X95 hx hby d8_12 rfl ?_
 refine walN X95 hx hby d8_13 rfl rfl ?_
 obtain ⟨cq100, kq100, q100a, q100b, q100c⟩ := isOf hZ e95 (E0.keep K94c)
 obtain ⟨_, _, ⟨T100, L100, k100, n100⟩, -, X100, ⟨Lc100, hQ100, l100, y100, z100⟩, st100⟩ := X95.virtualBack hx (y := ym11) (z := ym11) hown (ov hZ hw 49 rfl) (ov hZ hw 50 rfl) (notFace_of_selects (args := #[]) (ov hZ hw 52 rfl)) (ov hZ hw 52 rfl) (ov hZ hw 51 rfl) (by decide) (own_backOf (W := 3) (rx10_96 l Z a0 hw [] n0 h94 O94 G1 G3 GF s0_ b0_ kb_ c0_ c1_ c2_ c3_ (Fv.keep K94c nin0) (Vb.keep K94c nin0) (Fc.keep K94c nin0) (E0.keep K94c)) hZ (ow hw 53 rfl) (ow hw 10 rfl) (by decide) (by decide)) q100a q100c (g := (mkF m 14 #[cr s0_, ci 46, ci 0] [(.ref s0_), (.int 0), (.int 46), (.ref b0_)])) rfl (by rw [hml]; rfl) (Steps.refl _) (argsL := []) (rest := [(.int 0), (.int 46), (.ref b0_)]) (lenOf pdx_4 rfl) rfl (own_w rfl) (hb hby d8_14) (fun _ _ => ⟨rfl, e95, (by decide : 0 + 0 ≤ _), (by decide : 0 + 0 ≤ _)⟩)
 dsimp only [Pt.U, Pt.locs, Pt.cells, Pt.slots] at X100 l100 y100 z100 st100 hQ100
 subst l100 y100 z100
 obtain ⟨rfl, N100q, K100c⟩ := hQ100
 have N100 := Fr.app N94 N100q
 refine Ends.go (fun _ k => st100.trans k) ?_
 obtain ⟨h100, e100⟩ : ∃ z, T100.heap = z := ⟨_, rfl⟩
 rw [e100] at K100c
 have K100 := K94.trans K100c all0
 have O100 := O94.keep K100c all0
 obtain ⟨_, _, ⟨T101, L101, k101, n101⟩, -, X101, ⟨Lc101, hQ101, l101, y101, z101⟩, st101⟩ := Jvm.LawKit.callS X100 hx (y := ym8) hown (ov hZ hw 59 rfl) (ov hZ hw 60 rfl) (ov hZ hw 61 rfl) (ov hZ hw 62 rfl) (by decide) (own_backOf (W := 0) (rmI12_4 l Z a0 hw [] n0 h100 O100  b0_ kb_ c0_ c1_ c2_ c3_ ((Vb.keep K94c nin0).keep K100c nin0)) hZ (ow hw 62 rfl) (ow hw 61 rfl) (by decide) (by decide)) (g := (mkF m 17 #[cr s0_, ci 46, ci 0] [(.int 4), (.int 0), (.int 46), (.ref b0_)])) rfl (by rw [hml]; rfl) (argsL := [(.ref b0_), (.int 46), (.int 0), (.int 4)]) (rest := []) (lenOf pdx_5 rfl) rfl (own_w rfl) (hb hby d8_17) (fun _ _ => ⟨rfl, e100, (by decide : 0 + 0 ≤ _), (by decide : 0 + 0 ≤ _)⟩)
 dsimp only [Pt.U, Pt.locs, Pt.cells, Pt.slots] at X101 l101 y101 z101 st101 hQ101
 subst l101 y101 z101
 obtain ⟨r101, rfl, N101q, K101c, hr101⟩ := hQ101
 have N101 := Fr.app N100 N101q
 refine Ends.go st101 ?_
 obtain ⟨h101, e101⟩ : ∃ z, T101.heap = z := ⟨_, rfl⟩
 rw [e101] at K101c
 have K101 := K100.trans K101c all0
 refine wgo (pc := 20) (pc' := 36) X101 hx hby d8_20 ?_
 refine Ends.ret X101 hx Bd.notSynchronized (t := .int) Bd.returns rfl (Or.inl ⟨rfl, by simp, _, rfl⟩) (hb hby d8_36) (by decide) (by decide) ?_
 rw [e101]
 exact ⟨_, rfl, N101, K101, hr101⟩

theorem rmI7_4 (l : Launch) (Z : State) (a0 : Array Value) (hw : HW a0 Z) (ws : List Jvm.Cond) (n0 : Nat) (h0 : Heap) (O0 : Old Z n0 h0)  (G1 : Int32) (G3 : Value) (GF : GlobF Z a0 G1 G3) (s0_ : Addr) (b0_ : Addr) (kb_ : ClassId) (c0_ c1_ c2_ c3_ : Int32) (E0 : Exa Z h0 s0_ cST) (Fv : Fld Z h0 s0_ cST "value" "[B" (.ref b0_)) (Fc : Fld Z h0 s0_ cST "coder" "B" (.int 0)) (Vb : Arv Z h0 b0_ kb_ .byte (4 : Int32) [(yb c0_), (yb c1_), (yb c2_), (yb c3_)] (.int 0)) :
  Meets1 l ym13 jdk_42_method_79_code 2 (some .int) ws (mkR 4 0 0 80) #[(.ref s0_), (.int 46)] Z h0 (fun v h L => ∃ r : Int32, v = some (.int r) ∧ Fr n0 L ∧ Keep h0 h [] ∧ ((r = 0 ∧ (c0_.toInt8.toInt32) = (46 : Int32)) ∨ (r = 1 ∧ ¬ (c0_.toInt8.toInt32) = (46 : Int32) ∧ (c1_.toInt8.toInt32) = (46 : Int32)) ∨ (r = 2 ∧ ¬ (c0_.toInt8.toInt32) = (46 : Int32) ∧ ¬ (c1_.toInt8.toInt32) = (46 : Int32) ∧ (c2_.toInt8.toInt32) = (46 : Int32)) ∨ (r = 3 ∧ ¬ (c0_.toInt8.toInt32) = (46 : Int32) ∧ ¬ (c1_.toInt8.toInt32) = (46 : Int32) ∧ ¬ (c2_.toInt8.toInt32) = (46 : Int32) ∧ (c3_.toInt8.toInt32) = (46 : Int32)) ∨ (r = -1 ∧ ¬ (c0_.toInt8.toInt32) = (46 : Int32) ∧ ¬ (c1_.toInt8.toInt32) = (46 : Int32) ∧ ¬ (c2_.toInt8.toInt32) = (46 : Int32) ∧ ¬ (c3_.toInt8.toInt32) = (46 : Int32)))) := by
 refine MetFree.of_bodySF (plainFor_of_name pn7) hisR ?_
 intro p e s m args below meth c s₁ Bd hml0 hP hK
 obtain ⟨rfl, hZ, hh⟩ := hP
 have hx := Bd.exec
 have hby := Bd.bytes
 have hml : c.maxLocals = 2 := hml0
 have hown : s.vm.findClass "java/lang/String" = some m.cls := findClass_of_methodNamed Bd.named
 have X0 : Stand p l e (mkR 4 0 0 80) s m #[(.ref s0_), (.int 46)] below meth c s₁ [] 0 0 := Stand.of_body Bd
 have e0 : s₁.heap = h0 := by rw [← hh, Bd.state]; rfl
 have N0 := Fr.nil n0
 show Ends _ _ _ _ s₁ (entryFrame m #[(.ref s0_), (.int 46)] 2) (mkR 4 0 0 80).cells (mkR 4 0 0 80).slots (fun v h L => ∃ r : Int32, v = some (.int r) ∧ Fr n0 L ∧ Keep h0 h [] ∧ ((r = 0 ∧ (c0_.toInt8.toInt32) = (46 : Int32)) ∨ (r = 1 ∧ ¬ (c0_.toInt8.toInt32) = (46 : Int32) ∧ (c1_.toInt8.toInt32) = (46 : Int32)) ∨ (r = 2 ∧ ¬ (c0_.toInt8.toInt32) = (46 : Int32) ∧ ¬ (c1_.toInt8.toInt32) = (46 : Int32) ∧ (c2_.toInt8.toInt32) = (46 : Int32)) ∨ (r = 3 ∧ ¬ (c0_.toInt8.toInt32) = (46 : Int32) ∧ ¬ (c1_.toInt8.toInt32) = (46 : Int32) ∧ ¬ (c2_.toInt8.toInt32) = (46 : Int32) ∧ (c3_.toInt8.toInt32) = (46 : Int32)) ∨ (r = -1 ∧ ¬ (c0_.toInt8.toInt32) = (46 : Int32) ∧ ¬ (c1_.toInt8.toInt32) = (46 : Int32) ∧ ¬ (c2_.toInt8.toInt32) = (46 : Int32) ∧ ¬ (c3_.toInt8.toInt32) = (46 : Int32))))
 refine Ends.go (fun _ k => castTop (ef7_ri m s0_ (46 : Int32)) k) ?_
 have K0 := Keep.refl h0 []
 obtain ⟨SCS, P5, SSF, RG3, HC1, HC2, HCW⟩ := id GF
 refine walN X0 hx hby d7_0 rfl rfl ?_
 refine wilN X0 hx hby d7_1 rfl ?_
 refine wic X0 hx hby d7_2 ?_
 obtain ⟨cq102, kq102, q102a, q102b, q102c⟩ := isOf hZ e0 E0
 obtain ⟨_, _, ⟨T102, L102, k102, n102⟩, -, X102, ⟨Lc102, hQ102, l102, y102, z102⟩, st102⟩ := X0.virtualBack hx (y := ym12) (z := ym12) hown (ov hZ hw 38 rfl) (ov hZ hw 39 rfl) (notFace_of_selects (args := #[]) (ov hZ hw 41 rfl)) (ov hZ hw 41 rfl) (ov hZ hw 40 rfl) (by decide) (own_backOf (W := 0) (rmI8_4 l Z a0 hw [] n0 h0 O0 G1 G3 GF s0_ b0_ kb_ c0_ c1_ c2_ c3_ E0 Fv Fc Vb) hZ (ow hw 42 rfl) (ow hw 10 rfl) (by decide) (by decide)) q102a q102c (g := (mkF m 3 #[cr s0_, ci 46] [(.int 0), (.int 46), (.ref s0_)])) rfl (by rw [hml]; rfl) (Steps.refl _) (argsL := [(.int 46), (.int 0)]) (rest := []) (lenOf pdx_1 rfl) rfl (own_w rfl) (hb hby d7_3) (fun _ _ => ⟨rfl, e0, (by decide : 0 + 0 ≤ _), (by decide : 0 + 0 ≤ _)⟩)
 dsimp only [Pt.U, Pt.locs, Pt.cells, Pt.slots] at X102 l102 y102 z102 st102 hQ102
 subst l102 y102 z102
 obtain ⟨r102, rfl, N102q, K102c, hr102⟩ := hQ102
 have N102 := Fr.app N0 N102q
 refine Ends.go (fun _ k => st102.trans k) ?_
 obtain ⟨h102, e102⟩ : ∃ z, T102.heap = z := ⟨_, rfl⟩
 rw [e102] at K102c
 have K102 := K0.trans K102c all0
 refine Ends.ret X102 hx Bd.notSynchronized (t := .int) Bd.returns rfl (Or.inl ⟨rfl, by simp, _, rfl⟩) (hb hby d7_6) (by decide) (by decide) ?_
 rw [e102]
 exact ⟨_, rfl, N102, K102, hr102⟩

theorem d4_0 : decode jdk_42_method_149_code 0 = .ok (.aload_n 0, 1) := by decide +kernel
theorem d4_1 : decode jdk_42_method_149_code 1 = .ok (.invokespecial 1, 3) := by decide +kernel
theorem d4_4 : decode jdk_42_method_149_code 4 = .ok (.iload_n 3, 1) := by decide +kernel
theorem d4_5 : decode jdk_42_method_149_code 5 = .ok (.ifCond .ne 22, 3) := by decide +kernel
theorem d4_8 : decode jdk_42_method_149_code 8 = .ok (.aload_n 0, 1) := by decide +kernel
theorem d4_9 : decode jdk_42_method_149_code 9 = .ok (.ldc 7, 2) := by decide +kernel
theorem d4_11 : decode jdk_42_method_149_code 11 = .ok (.getfield 9, 3) := by decide +kernel
theorem d4_14 : decode jdk_42_method_149_code 14 = .ok (.putfield 9, 3) := by decide +kernel
theorem d4_17 : decode jdk_42_method_149_code 17 = .ok (.aload_n 0, 1) := by decide +kernel
theorem d4_18 : decode jdk_42_method_149_code 18 = .ok (.ldc 7, 2) := by decide +kernel
theorem d4_20 : decode jdk_42_method_149_code 20 = .ok (.getfield 15, 3) := by decide +kernel
theorem d4_23 : decode jdk_42_method_149_code 23 = .ok (.putfield 15, 3) := by decide +kernel
theorem d4_26 : decode jdk_42_method_149_code 26 = .ok (.return_, 1) := by decide +kernel
theorem pn4 : plainName "java/lang/String" = true := by first | (simp [plainName, overriddenIn]; done) | decide +kernel
theorem pdx_6 : parseMethodDescriptor "(I)C" = some ⟨[.int], some .char⟩ := by decide +kernel
theorem ef4_rriin (m : MethodId) (x0 : Addr) (x1 : Addr) (x2 : Int32) (x3 : Int32) : entryFrame m #[(.ref x0), (.ref x1), (.int x2), (.int x3), .null] 6 = mkF m 0 #[.val (.ref x0), .val (.ref x1), .val (.int x2), .val (.int x3), .val .null, .unset] [] := by first | (simp [entryFrame, mkF, argsToLocals, Value.category]; done) | rfl
theorem rx4_118 (l : Launch) (Z : State) (a0 : Array Value) (hw : HW a0 Z) (ws : List Jvm.Cond) (n0 : Nat) (h0 : Heap) (O0 : Old Z n0 h0) (G1 : Int32) (G3 : Value) (GF : GlobF Z a0 G1 G3) (b114 : Addr) (b115 : Addr) (PE_b114 : Exa Z h0 b114 cST) (PF_b114_value : Fld Z h0 b114 cST "value" "[B" .null) (PF_b114_coder : Fld Z h0 b114 cST "coder" "B" (.int 0)) (g_b114 : n0 ≤ b114) :
  Meets1W l ym15 jdk_42_method_149_code 6 none ws (mkR 1 2 4 12) #[(.ref b114), (.ref b115), (.int 0), (.int 0), .null] Z h0 true (fun v h L => ∃ (kb120 : ClassId) (b120 : Addr), v = none ∧ Fr n0 L ∧ Keep h0 h [b114] ∧ Fld Z h b114 cST "value" "[B" (.ref b120) ∧ Fld Z h b114 cST "coder" "B" (.int 0) ∧ Arv Z h b120 kb120 .byte (0 : Int32) [] (.int 0)) := by
 refine MetFree.of_bodySF (plainFor_of_name pn4) hisR ?_
 intro p e s m args below meth c s₁ Bd hml0 hP hK
 obtain ⟨rfl, hZ, hh, hI⟩ := hP
 have hx := Bd.exec
 have hby := Bd.bytes
 have hml : c.maxLocals = 6 := hml0
 have hown : s.vm.findClass "java/lang/String" = some m.cls := findClass_of_methodNamed Bd.named
 have hnm := (name_of_methodNamed Bd.named Bd.method).1
 have X0 : Stand p l e (mkR 1 2 4 12) s m #[(.ref b114), (.ref b115), (.int 0), (.int 0), .null] below meth c s₁ [] 0 0 := Stand.of_body Bd
 have e0 : s₁.heap = h0 := by rw [← hh, Bd.state]; rfl
 have N0 := Fr.nil n0
 have hS0 := own_since0 s
 have hk0 : s.heap.size ≤ h0.size := Nat.le_of_eq (congrArg Array.size hh)
 show EndsW _ _ _ _ s₁ (entryFrame m #[(.ref b114), (.ref b115), (.int 0), (.int 0), .null] 6) (mkR 1 2 4 12).cells (mkR 1 2 4 12).slots (fun v h L => ∃ (kb120 : ClassId) (b120 : Addr), v = none ∧ Fr n0 L ∧ Keep h0 h [b114] ∧ Fld Z h b114 cST "value" "[B" (.ref b120) ∧ Fld Z h b114 cST "coder" "B" (.int 0) ∧ Arv Z h b120 kb120 .byte (0 : Int32) [] (.int 0))
 refine EndsW.go (fun _ k => castTop (ef4_rriin m b114 b115 (0 : Int32) (0 : Int32)) k) ?_
 obtain ⟨SCS, P5, SSF, RG3, HC1, HC2, HCW⟩ := id GF
 have K0 := Keep.refl h0 [b114]
 show EndsW _ _ _ _ s₁ (mkF m 0 #[cr b114, cr b115, ci 0, ci 0, .val .null, cu] []) _ _ _
 refine walNW X0 hx hby d4_0 rfl rfl ?_
 obtain ⟨T119, X119, e119, st119⟩ := initO X0 hx hZ hown (ow hw 18 rfl) (ow hw 19 rfl) (ow hw 20 rfl) e0 (g := (mkF m 1 #[cr b114, cr b115, ci 0, ci 0, .val .null, cu] [(.ref b114)])) rfl (by rw [hml]; rfl) rfl (hb hby d4_1) (by decide) (W := 0) (own_w rfl) (by decide)
 refine EndsW.go st119 ?_
 refine wilNW X119 hx hby d4_4 rfl ?_
 refine winW X119 hx hby d4_5 ((if0 _ _).trans (teq (by decide : (0 : Int32) = (0 : Int32))).2) ?_
 refine walNW X119 hx hby d4_8 rfl rfl ?_
 obtain ⟨a120, T120, h120, k120, b120, kb120, X120, e120, E120, hS120, hk120, hZ, hown, LE120, LC120, LV120, LA120, -, -, -, LL120, st120⟩ := ldcSVL (s := s) (vm0 := s.vm) X119 hx hZ hown (ow hw 21 rfl) (own_atoms hw) e119 hS0 hk0 (Fr.nil _) (fun b_ c_ q_ => by rw [hh]; exact O0.2.2 b_ c_ q_) (own_ib (hI rfl)) (by simp) HC1 HCW (vs := []) (z := 0) (by simp) (by decide) (by decide) (g := (mkF m 9 #[cr b114, cr b115, ci 0, ci 0, .val .null, cu] [(.ref b114)])) rfl (hb hby d4_9) (n := 0) (by decide) (by decide) (by decide) (by decide)
 refine EndsW.go st120 ?_
 have K120 := K0.ext E120
 have ne_b114_b120 := Exa.neArv (PE_b114.ext E120) LA120 (ow hw 9 rfl)
 obtain ⟨T121, X121, e121, st121⟩ := getF X120 hx hZ hown (host := "") (Or.inl (ow hw 27 rfl)) Via.refl e120 LV120 (g := (mkF m 11 #[cr b114, cr b115, ci 0, ci 0, .val .null, cu] [(.ref a120), (.ref b114)])) rfl rfl (hb hby d4_11)
 refine EndsW.go st121 ?_
 obtain ⟨T122, h122, X122, e122, W122, st122⟩ := putF X121 hx hZ hown (host := "") (Or.inl (ow hw 27 rfl)) Via.refl e121 (PF_b114_value.ext E120) (PE_b114.ext E120) (Or.inr ⟨(ow hw 23 rfl), rfl, hnm⟩) (ow hw 9 rfl) (ty := (.array .byte)) (by decide) rfl rfl (g := (mkF m 14 #[cr b114, cr b115, ci 0, ci 0, .val .null, cu] [(.ref b120), (.ref b114)])) rfl rfl (hb hby d4_14)
 refine EndsW.go st122 ?_
 have Fw122 := (PF_b114_value.ext E120).same W122
 have K122 := K120.wr W122 (Or.inl (List.mem_of_getElem? (i := 0) rfl))
 have N122 := Fr.snoc X122 N0 g_b114
 refine walNW X122 hx hby d4_17 rfl rfl ?_
 refine EndsW.go (ldcAgain (s := s) (vm0 := T120.vm) X122 hx hZ hown (ow hw 21 rfl) LL120 (g := (mkF m 18 #[cr b114, cr b115, ci 0, ci 0, .val .null, cu] [(.ref b114)])) rfl (hb hby d4_18)) ?_
 obtain ⟨T124, X124, e124, st124⟩ := getF X122 hx hZ hown (host := "") (Or.inl (ow hw 28 rfl)) Via.refl e122 (LC120.other W122 (Or.inr (slot_ne (Or.inr (ow hw 24 rfl)) (Or.inr (ow hw 23 rfl)) (by decide) (t := .byte) (t' := (.array .byte)) (by decide) (by decide)))) (g := (mkF m 20 #[cr b114, cr b115, ci 0, ci 0, .val .null, cu] [(.ref a120), (.ref b114)])) rfl rfl (hb hby d4_20)
 refine EndsW.go st124 ?_
 obtain ⟨T125, h125, X125, e125, W125, st125⟩ := putFN X124 hx hZ hown (ow hw 28 rfl) Via.refl e124 ((PF_b114_coder.ext E120).other W122 (Or.inr (slot_ne (Or.inr (ow hw 24 rfl)) (Or.inr (ow hw 23 rfl)) (by decide) (t := .byte) (t' := (.array .byte)) (by decide) (by decide)))) ((PE_b114.ext E120).wr W122) (Or.inr ⟨(ow hw 24 rfl), rfl, hnm⟩) (ow hw 9 rfl) (ty := .byte) (v' := (.int 0)) (by decide) rfl (by decide) (g := (mkF m 23 #[cr b114, cr b115, ci 0, ci 0, .val .null, cu] [(.int 0), (.ref b114)])) rfl rfl (hb hby d4_23)
 refine EndsW.go st125 ?_
 have Fw125 := ((PF_b114_coder.ext E120).other W122 (Or.inr (slot_ne (Or.inr (ow hw 24 rfl)) (Or.inr (ow hw 23 rfl)) (by decide) (t := .byte) (t' := (.array .byte)) (by decide) (by decide)))).same W125
 have K125 := K122.wr W125 (Or.inl (List.mem_of_getElem? (i := 0) rfl))
 have N125 := Fr.snoc X125 N122 g_b114
 refine EndsW.retV (s := s) (vm := T120.vm) X125 hx hS120 (Nat.le_trans (Nat.le_trans (Nat.le_trans hk120 (own_wrsz W122)) (own_wrsz W125)) (Nat.le_of_eq (congrArg Array.size e125.symm))) Bd.notSynchronized Bd.returns (hb hby d4_26) (by decide) (by decide) ?_
 rw [e125]
 exact ⟨kb120, b120, rfl, N125, K125, (Fw122.other W125 (Or.inr (slot_ne (Or.inr (ow hw 23 rfl)) (Or.inr (ow hw 24 rfl)) (by decide) (t := (.array .byte)) (t' := .byte) (by decide) (by decide)))), Fw125, ((LA120.other W122 (Ne.symm ne_b114_b120)).other W125 (Ne.symm ne_b114_b120))⟩

theorem d3_0 : decode jdk_42_method_3_code 0 = .ok (.aload_n 0, 1) := by decide +kernel
theorem d3_1 : decode jdk_42_method_3_code 1 = .ok (.aload_n 1, 1) := by decide +kernel
theorem d3_2 : decode jdk_42_method_3_code 2 = .ok (.iconst 0, 1) := by decide +kernel
theorem d3_3 : decode jdk_42_method_3_code 3 = .ok (.aload_n 1, 1) := by decide +kernel
theorem d3_4 : decode jdk_42_method_3_code 4 = .ok (.arraylength, 1) := by decide +kernel
theorem d3_5 : decode jdk_42_method_3_code 5 = .ok (.aconst_null, 1) := by decide +kernel
theorem d3_6 : decode jdk_42_method_3_code 6 = .ok (.invokespecial 27, 3) := by decide +kernel
theorem d3_9 : decode jdk_42_method_3_code 9 = .ok (.return_, 1) := by decide +kernel
theorem pn3 : plainName "java/lang/String" = true := by first | (simp [plainName, overriddenIn]; done) | decide +kernel
theorem pdx_7 : parseMethodDescriptor "([CIILjava/lang/Void;)V" = some ⟨[(.array .char), .int, .int, (.object "java/lang/Void")], none⟩ := by decide +kernel
theorem ef3_rr (m : MethodId) (x0 : Addr) (x1 : Addr) : entryFrame m #[(.ref x0), (.ref x1)] 2 = mkF m 0 #[.val (.ref x0), .val (.ref x1)] [] := by first | (simp [entryFrame, mkF, argsToLocals, Value.category]; done) | rfl
theorem rx3_116 (l : Launch) (Z : State) (a0 : Array Value) (hw : HW a0 Z) (ws : List Jvm.Cond) (n0 : Nat) (h0 : Heap) (O0 : Old Z n0 h0) (G1 : Int32) (G3 : Value) (GF : GlobF Z a0 G1 G3) (b114 : Addr) (b115 : Addr) (k115 : ClassId) (PV_b115 : Arv Z h0 b115 k115 .char (0 : Int32) [] (.int 0)) (PE_b114 : Exa Z h0 b114 cST) (PF_b114_value : Fld Z h0 b114 cST "value" "[B" .null) (PF_b114_coder : Fld Z h0 b114 cST "coder" "B" (.int 0)) (g_b114 : n0 ≤ b114) :
  Meets1W l ym16 jdk_42_method_3_code 2 none ws (mkR 2 2 4 29) #[(.ref b114), (.ref b115)] Z h0 true (fun v h L => ∃ (k127 : ClassId) (a128 : Addr), v = none ∧ Fr n0 L ∧ Keep h0 h [b114] ∧ Fld Z h b114 cST "value" "[B" (.ref a128) ∧ Fld Z h b114 cST "coder" "B" (.int 0) ∧ Arv Z h a128 k127 .byte (0 : Int32) [] (.int 0)) := by
 refine MetFree.of_bodySF (plainFor_of_name pn3) hisR ?_
 intro p e s m args below meth c s₁ Bd hml0 hP hK
 obtain ⟨rfl, hZ, hh, hI⟩ := hP
 have hx := Bd.exec
 have hby := Bd.bytes
 have hml : c.maxLocals = 2 := hml0
 have hown : s.vm.findClass "java/lang/String" = some m.cls := findClass_of_methodNamed Bd.named
 have X0 : Stand p l e (mkR 2 2 4 29) s m #[(.ref b114), (.ref b115)] below meth c s₁ [] 0 0 := Stand.of_body Bd
 have e0 : s₁.heap = h0 := by rw [← hh, Bd.state]; rfl
 have N0 := Fr.nil n0
 have hS0 := own_since0 s
 have hk0 : s.heap.size ≤ h0.size := Nat.le_of_eq (congrArg Array.size hh)
 show EndsW _ _ _ _ s₁ (entryFrame m #[(.ref b114), (.ref b115)] 2) (mkR 2 2 4 29).cells (mkR 2 2 4 29).slots (fun v h L => ∃ (k127 : ClassId) (a128 : Addr), v = none ∧ Fr n0 L ∧ Keep h0 h [b114] ∧ Fld Z h b114 cST "value" "[B" (.ref a128) ∧ Fld Z h b114 cST "coder" "B" (.int 0) ∧ Arv Z h a128 k127 .byte (0 : Int32) [] (.int 0))
 refine EndsW.go (fun _ k => castTop (ef3_rr m b114 b115) k) ?_
 obtain ⟨SCS, P5, SSF, RG3, HC1, HC2, HCW⟩ := id GF
 have K0 := Keep.refl h0 [b114]
 show EndsW _ _ _ _ s₁ (mkF m 0 #[cr b114, cr b115] []) _ _ _
 refine walNW X0 hx hby d3_0 rfl rfl ?_
 refine walNW X0 hx hby d3_1 rfl rfl ?_
 refine wicW X0 hx hby d3_2 ?_
 refine walNW X0 hx hby d3_3 rfl rfl ?_
 obtain ⟨cl117, Ar117, q117, S117, M117, H117, G117⟩ := id PV_b115
 refine EndsW.go (X0.arraylength hx (by rw [e0]; exact Ar117.1) (State.isArrayOf_alike hZ.alike Ar117.2.1) (g := (mkF m 4 #[cr b114, cr b115] [(.ref b115), (.int 0), (.ref b115), (.ref b114)])) rfl rfl (hb hby d3_4)) ?_
 rw [len_of S117 M117]
 refine .go (fun _ => XS.aconstNull X0.here hx rfl (hb hby d3_5)) ?_
 obtain ⟨_, _, ⟨T126, L126, k126, n126⟩, -, X126, hSq126, hgq126, ⟨Lc126, hQ126, l126, y126, z126⟩, st126⟩ := X0.specialBackS hx (y := ym15) rfl hown (ov hZ hw 14 rfl) (ov hZ hw 15 rfl) (ov hZ hw 17 rfl) (by decide) (own_backOfS (W := 0) (rx4_118 l Z a0 hw [] n0 h0 O0 G1 G3 GF b114 b115 PE_b114 PF_b114_value PF_b114_coder g_b114) hZ (ow hw 17 rfl) (ow hw 10 rfl) (by decide) (by decide) hI) (g := (mkF m 6 #[cr b114, cr b115] [.null, (.int 0), (.int 0), (.ref b115), (.ref b114)])) rfl (by rw [hml]; rfl) (Steps.refl _) (a := b114) (argsL := [(.ref b115), (.int 0), (.int 0), .null]) (rest := []) (lenOf pdx_7 rfl) rfl (own_w rfl) (hb hby d3_6) (fun _ _ => ⟨rfl, e0, (by decide : 0 + 2 ≤ _), (by decide : 0 + 4 ≤ _)⟩)
 dsimp only [Pt.U, Pt.locs, Pt.cells, Pt.slots] at X126 l126 y126 z126 st126 hQ126 hSq126 hgq126
 subst l126 y126 z126
 have hS126 := foldS hS0 (Nat.le_trans hk0 (Nat.le_of_eq (congrArg Array.size e0.symm))) hSq126 hgq126
 have hZ : Z.Warmed39 (s.setVm T126.vm).vm := State.Warmed39.trans (t := s.setVm s.vm) hZ hSq126.1
 have hown : (s.setVm T126.vm).vm.findClass "java/lang/String" = some m.cls := by rw [show (s.setVm T126.vm).vm = T126.vm from rfl, hSq126.1.alike.findClass]; exact hown
 obtain ⟨k127, a128, rfl, N126q, K126c, Y126_0, Y126_1, Y126_2⟩ := hQ126
 have N126 := Fr.app N0 N126q
 refine EndsW.go (fun _ k => st126.trans k) ?_
 obtain ⟨h126, e126⟩ : ∃ z, T126.heap = z := ⟨_, rfl⟩
 rw [e126] at K126c Y126_0 Y126_1 Y126_2
 have K126 := K0.trans K126c (allS (Or.inl (List.mem_of_getElem? (i := 0) rfl)) all0)
 refine EndsW.retV (s := s) (vm := T126.vm) X126 hx hS126 (Nat.le_trans (Nat.le_of_eq (congrArg Array.size e126)) (Nat.le_of_eq (congrArg Array.size e126.symm))) Bd.notSynchronized Bd.returns (hb hby d3_9) (by decide) (by decide) ?_
 rw [e126]
 exact ⟨k127, a128, rfl, N126, K126, Y126_0, Y126_1, Y126_2⟩

theorem d2_0 : decode method_3_code 0 = .ok (.iload_n 1, 1) := by decide +kernel
theorem d2_1 : decode method_3_code 1 = .ok (.ifCond .ne 14, 3) := by decide +kernel
theorem d2_4 : decode method_3_code 4 = .ok (.new 7, 3) := by decide +kernel
theorem d2_7 : decode method_3_code 7 = .ok (.dup, 1) := by decide +kernel
theorem d2_8 : decode method_3_code 8 = .ok (.iconst 0, 1) := by decide +kernel
theorem d2_9 : decode method_3_code 9 = .ok (.newarray .char, 2) := by decide +kernel
theorem d2_11 : decode method_3_code 11 = .ok (.invokespecial 9, 3) := by decide +kernel
theorem d2_14 : decode method_3_code 14 = .ok (.areturn, 1) := by decide +kernel
theorem pn2 : plainName "com/example/wakeline/wakeline/format/shareplex/SharePlexMessageDatabasePinLaw" = true := by first | (simp [plainName, overriddenIn]; done) | decide +kernel
theorem pdx_8 : parseMethodDescriptor "([C)V" = some ⟨[(.array .char)], none⟩ := by decide +kernel
theorem ef2_ri (m : MethodId) (x0 : Addr) (x1 : Int32) : entryFrame m #[(.ref x0), (.int x1)] 2 = mkF m 0 #[.val (.ref x0), .val (.int x1)] [] := by first | (simp [entryFrame, mkF, argsToLocals, Value.category]; done) | rfl
theorem rx2_113 (l : Launch) (Z : State) (a0 : Array Value) (hw : HW a0 Z) (ws : List Jvm.Cond) (n0 : Nat) (h0 : Heap) (O0 : Old Z n0 h0) (G1 : Int32) (G3 : Value) (GF : GlobF Z a0 G1 G3) (b104 : Addr)  :
  Meets1W l ym17 method_3_code 2 (some (.object cST)) ws (mkR 3 4 8 43) #[(.ref b104), (.int 0)] Z h0 true (fun v h L => ∃ (b114 : Addr) (b115 : Addr) (k115 : ClassId) (k130 : ClassId) (a131 : Addr), v = some (.ref b114) ∧ Fr n0 L ∧ Keep h0 h [] ∧ h0.size ≤ b114 ∧ h0.size ≤ b115 ∧ b114 ≠ b115 ∧ Exa Z h b114 cST ∧ Arv Z h b115 k115 .char (0 : Int32) [] (.int 0) ∧ Fld Z h b114 cST "value" "[B" (.ref a131) ∧ Fld Z h b114 cST "coder" "B" (.int 0) ∧ Arv Z h a131 k130 .byte (0 : Int32) [] (.int 0)) := by
 refine MetFree.of_bodySF (plainFor_of_name pn2) hisR ?_
 intro p e s m args below meth c s₁ Bd hml0 hP hK
 obtain ⟨rfl, hZ, hh, hI⟩ := hP
 have hx := Bd.exec
 have hby := Bd.bytes
 have hml : c.maxLocals = 2 := hml0
 have hown : s.vm.findClass "com/example/wakeline/wakeline/format/shareplex/SharePlexMessageDatabasePinLaw" = some m.cls := findClass_of_methodNamed Bd.named
 have X0 : Stand p l e (mkR 3 4 8 43) s m #[(.ref b104), (.int 0)] below meth c s₁ [] 0 0 := Stand.of_body Bd
 have e0 : s₁.heap = h0 := by rw [← hh, Bd.state]; rfl
 have N0 := Fr.nil n0
 have hS0 := own_since0 s
 have hk0 : s.heap.size ≤ h0.size := Nat.le_of_eq (congrArg Array.size hh)
 show EndsW _ _ _ _ s₁ (entryFrame m #[(.ref b104), (.int 0)] 2) (mkR 3 4 8 43).cells (mkR 3 4 8 43).slots (fun v h L => ∃ (b114 : Addr) (b115 : Addr) (k115 : ClassId) (k130 : ClassId) (a131 : Addr), v = some (.ref b114) ∧ Fr n0 L ∧ Keep h0 h [] ∧ h0.size ≤ b114 ∧ h0.size ≤ b115 ∧ b114 ≠ b115 ∧ Exa Z h b114 cST ∧ Arv Z h b115 k115 .char (0 : Int32) [] (.int 0) ∧ Fld Z h b114 cST "value" "[B" (.ref a131) ∧ Fld Z h b114 cST "coder" "B" (.int 0) ∧ Arv Z h a131 k130 .byte (0 : Int32) [] (.int 0))
 refine EndsW.go (fun _ k => castTop (ef2_ri m b104 (0 : Int32)) k) ?_
 obtain ⟨SCS, P5, SSF, RG3, HC1, HC2, HCW⟩ := id GF
 have K0 := Keep.refl h0 []
 show EndsW _ _ _ _ s₁ (mkF m 0 #[cr b104, ci 0] []) _ _ _
 refine wilNW X0 hx hby d2_0 rfl ?_
 refine winW X0 hx hby d2_1 ((if0 _ _).trans (teq (by decide : (0 : Int32) = (0 : Int32))).2) ?_
 obtain ⟨T114, h114, X114, e114, E114, A114, D114, -, st114⟩ := newO X0 hx hZ hown (ow hw 8 rfl) (ow hw 9 rfl) (ow hw 10 rfl) e0 (g := (mkF m 4 #[cr b104, ci 0] [])) rfl (hb hby d2_4) (by decide) (by decide)
 obtain ⟨b114, g114⟩ : ∃ z, z = h0.size := ⟨_, rfl⟩
 rw [← g114] at A114 D114 st114
 refine EndsW.go st114 ?_
 have g_b114 : n0 ≤ b114 := Nat.le_trans (own_old_le O0) (Nat.le_of_eq g114.symm)
 have sz_b114 : h0.size ≤ b114 := Nat.le_trans K0.1 (Nat.le_of_eq g114.symm)
 have K114 := K0.ext E114
 have O114 := O0.ext E114
 have F_value_b114 : Fld Z h114 b114 cST "value" "[B" .null := D114 (Or.inr (ow hw 23 rfl)) (ty := (.array .byte)) (by decide)
 have F_coder_b114 : Fld Z h114 b114 cST "coder" "B" (.int 0) := D114 (Or.inr (ow hw 24 rfl)) (ty := .byte) (by decide)
 refine wduW X114 hx hby d2_7 rfl ?_
 refine wicW X114 hx hby d2_8 ?_
 obtain ⟨T115, h115, k115, X115, e115, E115, A115, st115⟩ := newP X114 hx hZ (ow hw 0 rfl) e114 (g := (mkF m 9 #[cr b104, ci 0] [(.int 0), (.ref b114), (.ref b114)])) rfl (hb hby d2_9) rfl (by decide) (cap := 0) (by decide) (by decide) (by decide) (by decide)
 obtain ⟨b115, g115⟩ : ∃ z, z = h114.size := ⟨_, rfl⟩
 rw [← g115] at A115 st115
 refine EndsW.go st115 ?_
 have sz_b115 : h0.size ≤ b115 := Nat.le_trans K114.1 (Nat.le_of_eq g115.symm)
 have K115 := K114.ext E115
 have O115 := O114.ext E115
 have V_b115 : Arv Z h115 b115 k115 .char (0 : Int32) [] (.int 0) := (Arv.new A115 (by decide)).pad (pad_rep [] (.int 0) 0)
 obtain ⟨_, _, ⟨T129, L129, k129, n129⟩, -, X129, hSq129, hgq129, ⟨Lc129, hQ129, l129, y129, z129⟩, st129⟩ := X115.specialBackS hx (y := ym16) rfl hown (ov hZ hw 11 rfl) (ov hZ hw 12 rfl) (ov hZ hw 13 rfl) (by decide) (own_backOfS (W := 1) (rx3_116 l Z a0 hw [] n0 h115 O115 G1 G3 GF b114 b115 k115 V_b115 (A114.ext E115) (F_value_b114.ext E115) (F_coder_b114.ext E115) g_b114) hZ (ow hw 13 rfl) (ow hw 10 rfl) (by decide) (by decide) hI) (g := (mkF m 11 #[cr b104, ci 0] [(.ref b115), (.ref b114), (.ref b114)])) rfl (by rw [hml]; rfl) (Steps.refl _) (a := b114) (argsL := [(.ref b115)]) (rest := [(.ref b114)]) (lenOf pdx_8 rfl) rfl (own_w rfl) (hb hby d2_11) (fun _ _ => ⟨rfl, e115, (by decide : 2 + 2 ≤ _), (by decide : 4 + 4 ≤ _)⟩)
 dsimp only [Pt.U, Pt.locs, Pt.cells, Pt.slots] at X129 l129 y129 z129 st129 hQ129 hSq129 hgq129
 subst l129 y129 z129
 have hS129 := foldS hS0 (Nat.le_trans (Nat.le_trans (Nat.le_trans hk0 E114.1) E115.1) (Nat.le_of_eq (congrArg Array.size e115.symm))) hSq129 hgq129
 have hZ : Z.Warmed39 (s.setVm T129.vm).vm := State.Warmed39.trans (t := s.setVm s.vm) hZ hSq129.1
 have hown : (s.setVm T129.vm).vm.findClass "com/example/wakeline/wakeline/format/shareplex/SharePlexMessageDatabasePinLaw" = some m.cls := by rw [show (s.setVm T129.vm).vm = T129.vm from rfl, hSq129.1.alike.findClass]; exact hown
 obtain ⟨k130, a131, rfl, N129q, K129c, Y129_0, Y129_1, Y129_2⟩ := hQ129
 have N129 := Fr.app N0 N129q
 refine EndsW.go (fun _ k => st129.trans k) ?_
 obtain ⟨h129, e129⟩ : ∃ z, T129.heap = z := ⟨_, rfl⟩
 rw [e129] at K129c Y129_0 Y129_1 Y129_2
 have K129 := K115.trans K129c (allS (Or.inr sz_b114) all0)
 refine EndsW.ret (s := s) (vm := T129.vm) X129 hx hS129 (Nat.le_trans (Nat.le_of_eq (congrArg Array.size e129)) (Nat.le_of_eq (congrArg Array.size e129.symm))) Bd.notSynchronized (t := (.object cST)) Bd.returns rfl (Or.inr (Or.inr (Or.inr (Or.inr ⟨rfl, rfl, rfl⟩)))) (hb hby d2_14) (by decide) (by decide) ?_
 rw [e129]
 have ne_b114_b115 : b114 ≠ b115 := Nat.ne_of_lt (Nat.lt_of_lt_of_le A114.lt (Nat.le_of_eq g115.symm))
 exact ⟨b114, b115, k115, k130, a131, rfl, N129, K129, sz_b114, sz_b115, ne_b114_b115, ((A114.ext E115).keep K129c), (V_b115.keep K129c (ninS (Ne.symm ne_b114_b115) nin0)), Y129_0, Y129_1, Y129_2⟩

theorem d6_0 : decode prog_33_method_5_code 0 = .ok (.aload_n 0, 1) := by decide +kernel
theorem d6_1 : decode prog_33_method_5_code 1 = .ok (.ifnonnull 7, 3) := by decide +kernel
theorem d6_8 : decode prog_33_method_5_code 8 = .ok (.aload_n 0, 1) := by decide +kernel
theorem d6_9 : decode prog_33_method_5_code 9 = .ok (.bipush 46, 2) := by decide +kernel
theorem d6_11 : decode prog_33_method_5_code 11 = .ok (.invokevirtual 38, 3) := by decide +kernel
theorem d6_14 : decode prog_33_method_5_code 14 = .ok (.istore_n 1, 1) := by decide +kernel
theorem d6_15 : decode prog_33_method_5_code 15 = .ok (.iload_n 1, 1) := by decide +kernel
theorem d6_16 : decode prog_33_method_5_code 16 = .ok (.ifCond .ge 7, 3) := by decide +kernel
theorem d6_19 : decode prog_33_method_5_code 19 = .ok (.aconst_null, 1) := by decide +kernel
theorem d6_20 : decode prog_33_method_5_code 20 = .ok (.goto 9, 3) := by decide +kernel
theorem d6_29 : decode prog_33_method_5_code 29 = .ok (.areturn, 1) := by decide +kernel
theorem pn6 : plainName "com/example/wakeline/wakeline/format/shareplex/SharePlexMessage" = true := by first | (simp [plainName, overriddenIn]; done) | decide +kernel
theorem pdx_9 : parseMethodDescriptor "([CI)Ljava/lang/String;" = some ⟨[(.array .char), .int], some (.object "java/lang/String")⟩ := by decide +kernel
theorem pdx_10 : parseMethodDescriptor "(I)I" = some ⟨[.int], some .int⟩ := by decide +kernel
theorem ef6_r (m : MethodId) (x0 : Addr) : entryFrame m #[(.ref x0)] 2 = mkF m 0 #[.val (.ref x0), .unset] [] := by first | (simp [entryFrame, mkF, argsToLocals, Value.category]; done) | rfl
theorem rx6_138 (l : Launch) (Z : State) (a0 : Array Value) (hw : HW a0 Z) (ws : List Jvm.Cond) (n0 : Nat) (h0 : Heap) (O0 : Old Z n0 h0) (G1 : Int32) (G3 : Value) (GF : GlobF Z a0 G1 G3) (b133 : Addr) (a137 : Addr) (k136 : ClassId) (PF_b133_value : Fld Z h0 b133 cST "value" "[B" (.ref a137)) (PE_b133 : Exa Z h0 b133 cST) (PF_b133_coder : Fld Z h0 b133 cST "coder" "B" (.int 0)) (PV_a137 : Arv Z h0 a137 k136 .byte (0 : Int32) [] (.int 0)) :
  Meets1 l ym18 prog_33_method_5_code 2 (some (.object cST)) ws (mkR 5 0 0 93) #[(.ref b133)] Z h0 (fun v h L => v = some .null ∧ Fr n0 L ∧ Keep h0 h []) := by
 refine MetFree.of_bodySF (plainFor_of_name pn6) hisR ?_
 intro p e s m args below meth c s₁ Bd hml0 hP hK
 obtain ⟨rfl, hZ, hh⟩ := hP
 have hx := Bd.exec
 have hby := Bd.bytes
 have hml : c.maxLocals = 2 := hml0
 have hown : s.vm.findClass "com/example/wakeline/wakeline/format/shareplex/SharePlexMessage" = some m.cls := findClass_of_methodNamed Bd.named
 have X0 : Stand p l e (mkR 5 0 0 93) s m #[(.ref b133)] below meth c s₁ [] 0 0 := Stand.of_body Bd
 have e0 : s₁.heap = h0 := by rw [← hh, Bd.state]; rfl
 have N0 := Fr.nil n0
 show Ends _ _ _ _ s₁ (entryFrame m #[(.ref b133)] 2) (mkR 5 0 0 93).cells (mkR 5 0 0 93).slots (fun v h L => v = some .null ∧ Fr n0 L ∧ Keep h0 h [])
 refine Ends.go (fun _ k => castTop (ef6_r m b133) k) ?_
 obtain ⟨SCS, P5, SSF, RG3, HC1, HC2, HCW⟩ := id GF
 have K0 := Keep.refl h0 []
 show Ends _ _ _ _ s₁ (mkF m 0 #[cr b133, cu] []) _ _ _
 refine walN X0 hx hby d6_0 rfl rfl ?_
 refine .go (fun _ => XS.ifnonnullYes X0.here hx rfl (pc0 := 1) (pc' := 8) rfl (hb hby d6_1) rfl (by decide) (by decide)) ?_
 refine walN X0 hx hby d6_8 rfl rfl ?_
 refine wbp X0 hx hby d6_9 ?_
 obtain ⟨cq139, kq139, q139a, q139b, q139c⟩ := isOf hZ e0 PE_b133
 obtain ⟨_, _, ⟨T139, L139, k139, n139⟩, -, X139, ⟨Lc139, hQ139, l139, y139, z139⟩, st139⟩ := X0.virtualBack hx (y := ym13) (z := ym13) hown (ov hZ hw 33 rfl) (ov hZ hw 34 rfl) (notFace_of_selects (args := #[]) (ov hZ hw 36 rfl)) (ov hZ hw 36 rfl) (ov hZ hw 35 rfl) (by decide) (own_backOf (W := 0) (rmI7_0 l Z a0 hw [] n0 h0 O0 G1 G3 GF b133 a137 k136  PE_b133 PF_b133_value PF_b133_coder PV_a137) hZ (ow hw 37 rfl) (ow hw 10 rfl) (by decide) (by decide)) q139a q139c (g := (mkF m 11 #[cr b133, cu] [(.int 46), (.ref b133)])) rfl (by rw [hml]; rfl) (Steps.refl _) (argsL := [(.int 46)]) (rest := []) (lenOf pdx_10 rfl) rfl (own_w rfl) (hb hby d6_11) (fun _ _ => ⟨rfl, e0, (by decide : 0 + 0 ≤ _), (by decide : 0 + 0 ≤ _)⟩)
 dsimp only [Pt.U, Pt.locs, Pt.cells, Pt.slots] at X139 l139 y139 z139 st139 hQ139
 subst l139 y139 z139
 obtain ⟨r139, rfl, N139q, K139c, hr139⟩ := hQ139
 have N139 := Fr.app N0 N139q
 refine Ends.go (fun _ k => st139.trans k) ?_
 obtain ⟨h139, e139⟩ : ∃ z, T139.heap = z := ⟨_, rfl⟩
 rw [e139] at K139c
 have K139 := K0.trans K139c all0
 obtain rfl : r139 = -1 := (fun z => z) hr139
 refine wstN X139 hx hby d6_14 (l' := #[cr b133, ci (-1)]) rfl ?_
 refine wilN X139 hx hby d6_15 rfl ?_
 refine win X139 hx hby d6_16 ((if0 _ _).trans (tlt (by decide : (-1 : Int32) < (0 : Int32))).2.1) ?_
 refine .go (fun _ => XS.aconstNull X139.here hx rfl (hb hby d6_19)) ?_
 refine wgo (pc := 20) (pc' := 29) X139 hx hby d6_20 ?_
 refine Ends.ret X139 hx Bd.notSynchronized (t := (.object cST)) Bd.returns rfl (Or.inr (Or.inr (Or.inr (Or.inr ⟨rfl, rfl, rfl⟩)))) (hb hby d6_29) (by decide) (by decide) ?_
 rw [e139]
 exact ⟨rfl, N139, K139⟩

theorem d17_0 : decode jdk_52_method_21_code 0 = .ok (.iconst 0, 1) := by decide +kernel
theorem d17_1 : decode jdk_52_method_21_code 1 = .ok (.istore 5, 2) := by decide +kernel
theorem d17_3 : decode jdk_52_method_21_code 3 = .ok (.iload 5, 2) := by decide +kernel
theorem d17_5 : decode jdk_52_method_21_code 5 = .ok (.iload 4, 2) := by decide +kernel
theorem d17_7 : decode jdk_52_method_21_code 7 = .ok (.if_icmp .ge 37, 3) := by decide +kernel
theorem d17_10 : decode jdk_52_method_21_code 10 = .ok (.aload_n 0, 1) := by decide +kernel
theorem d17_11 : decode jdk_52_method_21_code 11 = .ok (.iload_n 1, 1) := by decide +kernel
theorem d17_12 : decode jdk_52_method_21_code 12 = .ok (.caload, 1) := by decide +kernel
theorem d17_13 : decode jdk_52_method_21_code 13 = .ok (.istore 6, 2) := by decide +kernel
theorem d17_15 : decode jdk_52_method_21_code 15 = .ok (.iload 6, 2) := by decide +kernel
theorem d17_17 : decode jdk_52_method_21_code 17 = .ok (.sipush 255, 3) := by decide +kernel
theorem d17_20 : decode jdk_52_method_21_code 20 = .ok (.if_icmp .le 6, 3) := by decide +kernel
theorem d17_26 : decode jdk_52_method_21_code 26 = .ok (.aload_n 2, 1) := by decide +kernel
theorem d17_27 : decode jdk_52_method_21_code 27 = .ok (.iload_n 3, 1) := by decide +kernel
theorem d17_28 : decode jdk_52_method_21_code 28 = .ok (.iload 6, 2) := by decide +kernel
theorem d17_30 : decode jdk_52_method_21_code 30 = .ok (.i2b, 1) := by decide +kernel
theorem d17_31 : decode jdk_52_method_21_code 31 = .ok (.bastore, 1) := by decide +kernel
theorem d17_32 : decode jdk_52_method_21_code 32 = .ok (.iinc 1 1, 3) := by decide +kernel
theorem d17_35 : decode jdk_52_method_21_code 35 = .ok (.iinc 3 1, 3) := by decide +kernel
theorem d17_38 : decode jdk_52_method_21_code 38 = .ok (.iinc 5 1, 3) := by decide +kernel
theorem d17_41 : decode jdk_52_method_21_code 41 = .ok (.goto (-38), 3) := by decide +kernel
theorem d17_44 : decode jdk_52_method_21_code 44 = .ok (.iload 4, 2) := by decide +kernel
theorem d17_46 : decode jdk_52_method_21_code 46 = .ok (.ireturn, 1) := by decide +kernel
theorem pn17 : plainName "java/lang/StringUTF16" = true := by first | (simp [plainName, overriddenIn]; done) | decide +kernel
theorem pdx_11 : parseMethodDescriptor "(Ljava/lang/String;)Ljava/lang/String;" = some ⟨[(.object "java/lang/String")], some (.object "java/lang/String")⟩ := by decide +kernel
theorem ef17_ririi (m : MethodId) (x0 : Addr) (x1 : Int32) (x2 : Addr) (x3 : Int32) (x4 : Int32) : entryFrame m #[(.ref x0), (.int x1), (.ref x2), (.int x3), (.int x4)] 7 = mkF m 0 #[.val (.ref x0), .val (.int x1), .val (.ref x2), .val (.int x3), .val (.int x4), .unset, .unset] [] := by first | (simp [entryFrame, mkF, argsToLocals, Value.category]; done) | rfl
theorem rx17_153 (l : Launch) (Z : State) (a0 : Array Value) (hw : HW a0 Z) (ws : List Jvm.Cond) (n0 : Nat) (h0 : Heap) (O0 : Old Z n0 h0)  (b143 : Addr) (b152 : Addr) (k143 : ClassId) (c0_ : Int32) (k152 : ClassId) (PV_b143 : Arv Z h0 b143 k143 .char (1 : Int32) [(.int c0_)] (.int 0)) (PV_b152 : Arv Z h0 b152 k152 .byte (1 : Int32) [(.int 0)] (.int 0)) (g_b152 : n0 ≤ b152) (hc0_ : 0 ≤ c0_.toInt ∧ c0_.toInt < 256) :
  Meets1 l ym19 jdk_52_method_21_code 7 (some .int) ws (mkR 0 0 0 0) #[(.ref b143), (.int 0), (.ref b152), (.int 0), (.int 1)] Z h0 (fun v h L => v = some (.int 1) ∧ Fr n0 L ∧ Keep h0 h [b152] ∧ Arv Z h b152 k152 .byte (1 : Int32) [(yb c0_)] (.int 0)) := by
 refine MetFree.of_bodySF (plainFor_of_name pn17) hisR ?_
 intro p e s m args below meth c s₁ Bd hml0 hP hK
 obtain ⟨rfl, hZ, hh⟩ := hP
 have hx := Bd.exec
 have hby := Bd.bytes
 have X0 : Stand p l e (mkR 0 0 0 0) s m #[(.ref b143), (.int 0), (.ref b152), (.int 0), (.int 1)] below meth c s₁ [] 0 0 := Stand.of_body Bd
 have e0 : s₁.heap = h0 := by rw [← hh, Bd.state]; rfl
 have N0 := Fr.nil n0
 show Ends _ _ _ _ s₁ (entryFrame m #[(.ref b143), (.int 0), (.ref b152), (.int 0), (.int 1)] 7) (mkR 0 0 0 0).cells (mkR 0 0 0 0).slots (fun v h L => v = some (.int 1) ∧ Fr n0 L ∧ Keep h0 h [b152] ∧ Arv Z h b152 k152 .byte (1 : Int32) [(yb c0_)] (.int 0))
 refine Ends.go (fun _ k => castTop (ef17_ririi m b143 (0 : Int32) b152 (0 : Int32) (1 : Int32)) k) ?_
 have K0 := Keep.refl h0 [b152]
 show Ends _ _ _ _ s₁ (mkF m 0 #[cr b143, ci 0, cr b152, ci 0, ci 1, cu, cu] []) _ _ _
 refine wic X0 hx hby d17_0 ?_
 refine wst X0 hx hby d17_1 (l' := #[cr b143, ci 0, cr b152, ci 0, ci 1, ci 0, cu]) rfl ?_
 refine wil X0 hx hby d17_3 rfl ?_
 refine wil X0 hx hby d17_5 rfl ?_
 refine wcn X0 hx hby d17_7 (tlt (by decide : (0 : Int32) < (1 : Int32))).2.1 ?_
 refine walN X0 hx hby d17_10 rfl rfl ?_
 refine wilN X0 hx hby d17_11 rfl ?_
 obtain ⟨cl154, Ar154, q154, S154, M154, H154, G154⟩ := id PV_b143
 have hin154 := inb_of (j := (0 : Int32)) S154 ⟨by decide, by decide⟩
 refine Ends.go (X0.caload hx (j := (0 : Int32)) (v := (.int c0_)) (by rw [e0]; exact Ar154.1) (State.isArrayOf_alike hZ.alike Ar154.2.1) Ar154.2.2 hin154 (H154.at hin154 rfl) (g := (mkF m 12 #[cr b143, ci 0, cr b152, ci 0, ci 1, ci 0, cu] [(.int 0), (.ref b143)])) rfl rfl (hb hby d17_12)) ?_
 refine wst X0 hx hby d17_13 (l' := #[cr b143, ci 0, cr b152, ci 0, ci 1, ci 0, ci c0_]) rfl ?_
 refine wil X0 hx hby d17_15 rfl ?_
 refine wsp X0 hx hby d17_17 ?_
 refine wcy (pc := 20) (pc' := 26) X0 hx hby d17_20 (flt ((own_c255 hc0_) : ¬ ((255 : Int32) < c0_))).2.2.2 ?_
 refine walN X0 hx hby d17_26 rfl rfl ?_
 refine wilN X0 hx hby d17_27 rfl ?_
 refine wil X0 hx hby d17_28 rfl ?_
 refine .go (fun _ => XS.i2b X0.here hx rfl (hb hby d17_30) rfl) ?_
 obtain ⟨cl155, Ar155, q155, S155, M155, H155, G155⟩ := id PV_b152
 have hin155 := inb_of (j := (0 : Int32)) S155 ⟨by decide, by decide⟩
 obtain ⟨T155, h155, X155, e155, W155, st155⟩ := stB X0 hx hZ e0 Ar155 (j := (0 : Int32)) hin155 (g := (mkF m 31 #[cr b143, ci 0, cr b152, ci 0, ci 1, ci 0, ci c0_] [(yb c0_), (.int 0), (.ref b152)])) rfl rfl (hb hby d17_31)
 refine Ends.go st155 ?_
 have V155 : Arv Z h155 b152 k152 .byte (1 : Int32) [(.int (nar .byte (c0_.toInt8.toInt32)))] (.int 0) := Arv.set Ar155 q155 S155 M155 H155 G155 (fits_nar_byte _) W155 0 rfl (Nat.le_of_ble_eq_true rfl)
 rw [own_narb] at V155
 have K155 := K0.wr W155 (Or.inl (List.mem_of_getElem? (i := 0) rfl))
 have N155 := Fr.snoc X155 N0 g_b152
 refine wii X155 hx hby d17_32 (l' := #[cr b143, ci 1, cr b152, ci 0, ci 1, ci 0, ci c0_]) rfl rfl ?_
 refine wii X155 hx hby d17_35 (l' := #[cr b143, ci 1, cr b152, ci 1, ci 1, ci 0, ci c0_]) rfl rfl ?_
 refine wii X155 hx hby d17_38 (l' := #[cr b143, ci 1, cr b152, ci 1, ci 1, ci 1, ci c0_]) rfl rfl ?_
 refine wgo (pc := 41) (pc' := 3) X155 hx hby d17_41 ?_
 refine wil X155 hx hby d17_3 rfl ?_
 refine wil X155 hx hby d17_5 rfl ?_
 refine wcy (pc := 7) (pc' := 44) X155 hx hby d17_7 (flt (by decide : ¬ ((1 : Int32) < (1 : Int32)))).2.1 ?_
 refine wil X155 hx hby d17_44 rfl ?_
 refine Ends.ret X155 hx Bd.notSynchronized (t := .int) Bd.returns rfl (Or.inl ⟨rfl, by simp, _, rfl⟩) (hb hby d17_46) (by decide) (by decide) ?_
 rw [e155]
 exact ⟨rfl, N155, K155, V155⟩

theorem d16_0 : decode jdk_52_method_16_code 0 = .ok (.iload_n 2, 1) := by decide +kernel
theorem d16_1 : decode jdk_52_method_16_code 1 = .ok (.newarray .byte, 2) := by decide +kernel
theorem d16_3 : decode jdk_52_method_16_code 3 = .ok (.astore_n 3, 1) := by decide +kernel
theorem d16_4 : decode jdk_52_method_16_code 4 = .ok (.aload_n 0, 1) := by decide +kernel
theorem d16_5 : decode jdk_52_method_16_code 5 = .ok (.iload_n 1, 1) := by decide +kernel
theorem d16_6 : decode jdk_52_method_16_code 6 = .ok (.aload_n 3, 1) := by decide +kernel
theorem d16_7 : decode jdk_52_method_16_code 7 = .ok (.iconst 0, 1) := by decide +kernel
theorem d16_8 : decode jdk_52_method_16_code 8 = .ok (.iload_n 2, 1) := by decide +kernel
theorem d16_9 : decode jdk_52_method_16_code 9 = .ok (.invokestatic 115, 3) := by decide +kernel
theorem d16_12 : decode jdk_52_method_16_code 12 = .ok (.istore 4, 2) := by decide +kernel
theorem d16_14 : decode jdk_52_method_16_code 14 = .ok (.iload 4, 2) := by decide +kernel
theorem d16_16 : decode jdk_52_method_16_code 16 = .ok (.iload_n 2, 1) := by decide +kernel
theorem d16_17 : decode jdk_52_method_16_code 17 = .ok (.if_icmp .eq 40, 3) := by decide +kernel
theorem d16_57 : decode jdk_52_method_16_code 57 = .ok (.aload_n 3, 1) := by decide +kernel
theorem d16_58 : decode jdk_52_method_16_code 58 = .ok (.areturn, 1) := by decide +kernel
theorem pn16 : plainName "java/lang/StringUTF16" = true := by first | (simp [plainName, overriddenIn]; done) | decide +kernel
theorem pdx_12 : parseMethodDescriptor "([CI[BII)I" = some ⟨[(.array .char), .int, (.array .byte), .int, .int], some .int⟩ := by decide +kernel
theorem ef16_rii (m : MethodId) (x0 : Addr) (x1 : Int32) (x2 : Int32) : entryFrame m #[(.ref x0), (.int x1), (.int x2)] 6 = mkF m 0 #[.val (.ref x0), .val (.int x1), .val (.int x2), .unset, .unset, .unset] [] := by first | (simp [entryFrame, mkF, argsToLocals, Value.category]; done) | rfl
theorem rx16_151 (l : Launch) (Z : State) (a0 : Array Value) (hw : HW a0 Z) (ws : List Jvm.Cond) (n0 : Nat) (h0 : Heap) (O0 : Old Z n0 h0)  (b143 : Addr) (k143 : ClassId) (c0_ : Int32) (PV_b143 : Arv Z h0 b143 k143 .char (1 : Int32) [(.int c0_)] (.int 0)) (hc0_ : 0 ≤ c0_.toInt ∧ c0_.toInt < 256) :
  Meets1 l ym20 jdk_52_method_16_code 6 (some (.array .byte)) ws (mkR 1 1 1 18) #[(.ref b143), (.int 0), (.int 1)] Z h0 (fun v h L => ∃ (b152 : Addr) (k152 : ClassId), v = some (.ref b152) ∧ Fr n0 L ∧ Keep h0 h [] ∧ h0.size ≤ b152 ∧ Arv Z h b152 k152 .byte (1 : Int32) [(yb c0_)] (.int 0)) := by
 refine MetFree.of_bodySF (plainFor_of_name pn16) hisR ?_
 intro p e s m args below meth c s₁ Bd hml0 hP hK
 obtain ⟨rfl, hZ, hh⟩ := hP
 have hx := Bd.exec
 have hby := Bd.bytes
 have hml : c.maxLocals = 6 := hml0
 have hown : s.vm.findClass "java/lang/StringUTF16" = some m.cls := findClass_of_methodNamed Bd.named
 have X0 : Stand p l e (mkR 1 1 1 18) s m #[(.ref b143), (.int 0), (.int 1)] below meth c s₁ [] 0 0 := Stand.of_body Bd
 have e0 : s₁.heap = h0 := by rw [← hh, Bd.state]; rfl
 have N0 := Fr.nil n0
 show Ends _ _ _ _ s₁ (entryFrame m #[(.ref b143), (.int 0), (.int 1)] 6) (mkR 1 1 1 18).cells (mkR 1 1 1 18).slots (fun v h L => ∃ (b152 : Addr) (k152 : ClassId), v = some (.ref b152) ∧ Fr n0 L ∧ Keep h0 h [] ∧ h0.size ≤ b152 ∧ Arv Z h b152 k152 .byte (1 : Int32) [(yb c0_)] (.int 0))
 refine Ends.go (fun _ k => castTop (ef16_rii m b143 (0 : Int32) (1 : Int32)) k) ?_
 have K0 := Keep.refl h0 []
 show Ends _ _ _ _ s₁ (mkF m 0 #[cr b143, ci 0, ci 1, cu, cu, cu] []) _ _ _
 refine wilN X0 hx hby d16_0 rfl ?_
 obtain ⟨T152, h152, k152, X152, e152, E152, A152, st152⟩ := newP X0 hx hZ (ow hw 22 rfl) e0 (g := (mkF m 1 #[cr b143, ci 0, ci 1, cu, cu, cu] [(.int 1)])) rfl (hb hby d16_1) rfl (by decide) (cap := 1) (by decide) (by decide) (by decide) (by decide)
 obtain ⟨b152, g152⟩ : ∃ z, z = h0.size := ⟨_, rfl⟩
 rw [← g152] at A152 st152
 refine Ends.go st152 ?_
 have g_b152 : n0 ≤ b152 := Nat.le_trans (own_old_le O0) (Nat.le_of_eq g152.symm)
 have sz_b152 : h0.size ≤ b152 := Nat.le_trans K0.1 (Nat.le_of_eq g152.symm)
 have K152 := K0.ext E152
 have O152 := O0.ext E152
 have V_b152 : Arv Z h152 b152 k152 .byte (1 : Int32) [(.int 0)] (.int 0) := (Arv.new A152 (by decide)).pad (pad_rep [] (.int 0) 1)
 refine wasN X152 hx hby d16_3 (l' := #[cr b143, ci 0, ci 1, cr b152, cu, cu]) rfl rfl ?_
 refine walN X152 hx hby d16_4 rfl rfl ?_
 refine wilN X152 hx hby d16_5 rfl ?_
 refine walN X152 hx hby d16_6 rfl rfl ?_
 refine wic X152 hx hby d16_7 ?_
 refine wilN X152 hx hby d16_8 rfl ?_
 obtain ⟨_, _, ⟨T156, L156, k156, n156⟩, -, X156, ⟨Lc156, hQ156, l156, y156, z156⟩, st156⟩ := Jvm.LawKit.callS X152 hx (y := ym19) hown (ov hZ hw 77 rfl) (ov hZ hw 78 rfl) (ov hZ hw 75 rfl) (ov hZ hw 79 rfl) (by decide) (own_backOf (W := 0) (rx17_153 l Z a0 hw [] n0 h152 O152  b143 b152 k143 c0_ k152 (PV_b143.ext E152) V_b152 g_b152 hc0_) hZ (ow hw 79 rfl) (ow hw 75 rfl) (by decide) (by decide)) (g := (mkF m 9 #[cr b143, ci 0, ci 1, cr b152, cu, cu] [(.int 1), (.int 0), (.ref b152), (.int 0), (.ref b143)])) rfl (by rw [hml]; rfl) (argsL := [(.ref b143), (.int 0), (.ref b152), (.int 0), (.int 1)]) (rest := []) (lenOf pdx_12 rfl) rfl (own_w rfl) (hb hby d16_9) (fun _ _ => ⟨rfl, e152, (by decide : 1 + 0 ≤ _), (by decide : 1 + 0 ≤ _)⟩)
 dsimp only [Pt.U, Pt.locs, Pt.cells, Pt.slots] at X156 l156 y156 z156 st156 hQ156
 subst l156 y156 z156
 obtain ⟨rfl, N156q, K156c, Y156_0⟩ := hQ156
 have N156 := Fr.app N0 N156q
 refine Ends.go st156 ?_
 obtain ⟨h156, e156⟩ : ∃ z, T156.heap = z := ⟨_, rfl⟩
 rw [e156] at K156c Y156_0
 have K156 := K152.trans K156c (allS (Or.inr sz_b152) all0)
 refine wst X156 hx hby d16_12 (l' := #[cr b143, ci 0, ci 1, cr b152, ci 1, cu]) rfl ?_
 refine wil X156 hx hby d16_14 rfl ?_
 refine wilN X156 hx hby d16_16 rfl ?_
 refine wcy (pc := 17) (pc' := 57) X156 hx hby d16_17 (teq (by decide : (1 : Int32) = (1 : Int32))).1 ?_
 refine walN X156 hx hby d16_57 rfl rfl ?_
 refine Ends.ret X156 hx Bd.notSynchronized (t := (.array .byte)) Bd.returns rfl (Or.inr (Or.inr (Or.inr (Or.inr ⟨rfl, rfl, rfl⟩)))) (hb hby d16_58) (by decide) (by decide) ?_
 rw [e156]
 exact ⟨b152, k152, rfl, N156, K156, sz_b152, Y156_0⟩

theorem d18_0 : decode jdk_52_method_15_code 0 = .ok (.iload_n 1, 1) := by decide +kernel
theorem d18_1 : decode jdk_52_method_15_code 1 = .ok (.aload_n 0, 1) := by decide +kernel
theorem d18_2 : decode jdk_52_method_15_code 2 = .ok (.arraylength, 1) := by decide +kernel
theorem d18_3 : decode jdk_52_method_15_code 3 = .ok (.isub, 1) := by decide +kernel
theorem d18_4 : decode jdk_52_method_15_code 4 = .ok (.bipush 31, 2) := by decide +kernel
theorem d18_6 : decode jdk_52_method_15_code 6 = .ok (.iushr, 1) := by decide +kernel
theorem d18_7 : decode jdk_52_method_15_code 7 = .ok (.i2b, 1) := by decide +kernel
theorem d18_8 : decode jdk_52_method_15_code 8 = .ok (.ireturn, 1) := by decide +kernel
theorem pn18 : plainName "java/lang/StringUTF16" = true := by first | (simp [plainName, overriddenIn]; done) | decide +kernel
theorem pdx_13 : parseMethodDescriptor "([CII)[B" = some ⟨[(.array .char), .int, .int], some (.array .byte)⟩ := by decide +kernel
theorem ef18_ri (m : MethodId) (x0 : Addr) (x1 : Int32) : entryFrame m #[(.ref x0), (.int x1)] 2 = mkF m 0 #[.val (.ref x0), .val (.int x1)] [] := by first | (simp [entryFrame, mkF, argsToLocals, Value.category]; done) | rfl
theorem rx18_160 (l : Launch) (Z : State) (a0 : Array Value) (hw : HW a0 Z) (ws : List Jvm.Cond) (n0 : Nat) (h0 : Heap) (O0 : Old Z n0 h0)  (b158 : Addr) (k159 : ClassId) (c0_ : Int32) (PV_b158 : Arv Z h0 b158 k159 .byte (1 : Int32) [(yb c0_)] (.int 0)) :
  Meets1 l ym21 jdk_52_method_15_code 2 (some .byte) ws (mkR 0 0 0 0) #[(.ref b158), (.int 1)] Z h0 (fun v h L => v = some (.int 0) ∧ Fr n0 L ∧ Keep h0 h []) := by
 refine MetFree.of_bodySF (plainFor_of_name pn18) hisR ?_
 intro p e s m args below meth c s₁ Bd hml0 hP hK
 obtain ⟨rfl, hZ, hh⟩ := hP
 have hx := Bd.exec
 have hby := Bd.bytes
 have X0 : Stand p l e (mkR 0 0 0 0) s m #[(.ref b158), (.int 1)] below meth c s₁ [] 0 0 := Stand.of_body Bd
 have e0 : s₁.heap = h0 := by rw [← hh, Bd.state]; rfl
 have N0 := Fr.nil n0
 show Ends _ _ _ _ s₁ (entryFrame m #[(.ref b158), (.int 1)] 2) (mkR 0 0 0 0).cells (mkR 0 0 0 0).slots (fun v h L => v = some (.int 0) ∧ Fr n0 L ∧ Keep h0 h [])
 refine Ends.go (fun _ k => castTop (ef18_ri m b158 (1 : Int32)) k) ?_
 have K0 := Keep.refl h0 []
 show Ends _ _ _ _ s₁ (mkF m 0 #[cr b158, ci 1] []) _ _ _
 refine wilN X0 hx hby d18_0 rfl ?_
 refine walN X0 hx hby d18_1 rfl rfl ?_
 obtain ⟨cl161, Ar161, q161, S161, M161, H161, G161⟩ := id PV_b158
 refine Ends.go (X0.arraylength hx (by rw [e0]; exact Ar161.1) (State.isArrayOf_alike hZ.alike Ar161.2.1) (g := (mkF m 2 #[cr b158, ci 1] [(.ref b158), (.int 1)])) rfl rfl (hb hby d18_2)) ?_
 rw [len_of S161 M161]
 refine wis X0 hx hby d18_3 ?_
 refine wbp X0 hx hby d18_4 ?_
 refine .go (fun _ => XS.iushr X0.here hx rfl (hb hby d18_6) rfl) ?_
 refine .go (fun _ => XS.i2b X0.here hx rfl (hb hby d18_7) rfl) ?_
 refine Ends.retZ X0 hx Bd.notSynchronized (t := .byte) Bd.returns (by simp) (hb hby d18_8) (by decide) (by decide) ?_
 rw [e0]
 exact ⟨rfl, N0, K0⟩

theorem d4_27 : decode jdk_42_method_149_code 27 = .ok (.getstatic 38, 3) := by decide +kernel
theorem d4_30 : decode jdk_42_method_149_code 30 = .ok (.ifCond .eq 28, 3) := by decide +kernel
theorem d4_33 : decode jdk_42_method_149_code 33 = .ok (.aload_n 1, 1) := by decide +kernel
theorem d4_34 : decode jdk_42_method_149_code 34 = .ok (.iload_n 2, 1) := by decide +kernel
theorem d4_35 : decode jdk_42_method_149_code 35 = .ok (.iload_n 3, 1) := by decide +kernel
theorem d4_36 : decode jdk_42_method_149_code 36 = .ok (.invokestatic 177, 3) := by decide +kernel
theorem d4_39 : decode jdk_42_method_149_code 39 = .ok (.astore 5, 2) := by decide +kernel
theorem d4_41 : decode jdk_42_method_149_code 41 = .ok (.aload_n 0, 1) := by decide +kernel
theorem d4_42 : decode jdk_42_method_149_code 42 = .ok (.aload 5, 2) := by decide +kernel
theorem d4_44 : decode jdk_42_method_149_code 44 = .ok (.iload_n 3, 1) := by decide +kernel
theorem d4_45 : decode jdk_42_method_149_code 45 = .ok (.invokestatic 47, 3) := by decide +kernel
theorem d4_48 : decode jdk_42_method_149_code 48 = .ok (.putfield 15, 3) := by decide +kernel
theorem d4_51 : decode jdk_42_method_149_code 51 = .ok (.aload_n 0, 1) := by decide +kernel
theorem d4_52 : decode jdk_42_method_149_code 52 = .ok (.aload 5, 2) := by decide +kernel
theorem d4_54 : decode jdk_42_method_149_code 54 = .ok (.putfield 9, 3) := by decide +kernel
theorem d4_57 : decode jdk_42_method_149_code 57 = .ok (.return_, 1) := by decide +kernel
theorem pdx_14 : parseMethodDescriptor "([BI)B" = some ⟨[(.array .byte), .int], some .byte⟩ := by decide +kernel
theorem rx4_148 (l : Launch) (Z : State) (a0 : Array Value) (hw : HW a0 Z) (ws : List Jvm.Cond) (n0 : Nat) (h0 : Heap) (O0 : Old Z n0 h0) (G1 : Int32) (G3 : Value) (GF : GlobF Z a0 G1 G3) (b142 : Addr) (b143 : Addr) (k143 : ClassId) (c0_ : Int32) (PV_b143 : Arv Z h0 b143 k143 .char (1 : Int32) [(.int c0_)] (.int 0)) (PE_b142 : Exa Z h0 b142 cST) (PF_b142_coder : Fld Z h0 b142 cST "coder" "B" (.int 0)) (PF_b142_value : Fld Z h0 b142 cST "value" "[B" .null) (g_b142 : n0 ≤ b142) (hc0_ : 0 ≤ c0_.toInt ∧ c0_.toInt < 256) :
  Meets1 l ym15 jdk_42_method_149_code 6 none ws (mkR 2 1 1 35) #[(.ref b142), (.ref b143), (.int 0), (.int 1), .null] Z h0 (fun v h L => ∃ (b158 : Addr) (k159 : ClassId), v = none ∧ Fr n0 L ∧ Keep h0 h [b142] ∧ h0.size ≤ b158 ∧ Arv Z h b158 k159 .byte (1 : Int32) [(yb c0_)] (.int 0) ∧ Fld Z h b142 cST "coder" "B" (.int 0) ∧ Fld Z h b142 cST "value" "[B" (.ref b158)) := by
 refine MetFree.of_bodySF (plainFor_of_name pn4) hisR ?_
 intro p e s m args below meth c s₁ Bd hml0 hP hK
 obtain ⟨rfl, hZ, hh⟩ := hP
 have hx := Bd.exec
 have hby := Bd.bytes
 have hml : c.maxLocals = 6 := hml0
 have hown : s.vm.findClass "java/lang/String" = some m.cls := findClass_of_methodNamed Bd.named
 have hnm := (name_of_methodNamed Bd.named Bd.method).1
 have X0 : Stand p l e (mkR 2 1 1 35) s m #[(.ref b142), (.ref b143), (.int 0), (.int 1), .null] below meth c s₁ [] 0 0 := Stand.of_body Bd
 have e0 : s₁.heap = h0 := by rw [← hh, Bd.state]; rfl
 have N0 := Fr.nil n0
 show Ends _ _ _ _ s₁ (entryFrame m #[(.ref b142), (.ref b143), (.int 0), (.int 1), .null] 6) (mkR 2 1 1 35).cells (mkR 2 1 1 35).slots (fun v h L => ∃ (b158 : Addr) (k159 : ClassId), v = none ∧ Fr n0 L ∧ Keep h0 h [b142] ∧ h0.size ≤ b158 ∧ Arv Z h b158 k159 .byte (1 : Int32) [(yb c0_)] (.int 0) ∧ Fld Z h b142 cST "coder" "B" (.int 0) ∧ Fld Z h b142 cST "value" "[B" (.ref b158))
 refine Ends.go (fun _ k => castTop (ef4_rriin m b142 b143 (0 : Int32) (1 : Int32)) k) ?_
 obtain ⟨SCS, P5, SSF, RG3, HC1, HC2, HCW⟩ := id GF
 have K0 := Keep.refl h0 [b142]
 show Ends _ _ _ _ s₁ (mkF m 0 #[cr b142, cr b143, ci 0, ci 1, .val .null, cu] []) _ _ _
 refine walN X0 hx hby d4_0 rfl rfl ?_
 obtain ⟨T149, X149, e149, st149⟩ := initO X0 hx hZ hown (ow hw 18 rfl) (ow hw 19 rfl) (ow hw 20 rfl) e0 (g := (mkF m 1 #[cr b142, cr b143, ci 0, ci 1, .val .null, cu] [(.ref b142)])) rfl (by rw [hml]; rfl) rfl (hb hby d4_1) (by decide) (W := 0) (own_w rfl) (by decide)
 refine Ends.go st149 ?_
 refine wilN X149 hx hby d4_4 rfl ?_
 refine wiy (pc := 5) (pc' := 27) X149 hx hby d4_5 ((if0 _ _).trans (feq (by decide : ¬ ((1 : Int32) = (0 : Int32)))).2) ?_
 obtain ⟨T150, X150, e150, st150⟩ := getS2 X149 hx hZ hown (host := "") (Or.inl (ow hw 48 rfl)) Via.refl e149 (SCS.ext O0.2) (g := (mkF m 27 #[cr b142, cr b143, ci 0, ci 1, .val .null, cu] [])) rfl (hb hby d4_27)
 refine Ends.go st150 ?_
 refine win X150 hx hby d4_30 ((if0 _ _).trans (feq (P5 : ¬ (G1 = (0 : Int32)))).1) ?_
 refine walN X150 hx hby d4_33 rfl rfl ?_
 refine wilN X150 hx hby d4_34 rfl ?_
 refine wilN X150 hx hby d4_35 rfl ?_
 obtain ⟨_, _, ⟨T157, L157, k157, n157⟩, -, X157, ⟨Lc157, hQ157, l157, y157, z157⟩, st157⟩ := Jvm.LawKit.callS X150 hx (y := ym20) hown (ov hZ hw 73 rfl) (ov hZ hw 74 rfl) (ov hZ hw 75 rfl) (ov hZ hw 76 rfl) (by decide) (own_backOf (W := 0) (rx16_151 l Z a0 hw [] n0 h0 O0  b143 k143 c0_ PV_b143 hc0_) hZ (ow hw 76 rfl) (ow hw 75 rfl) (by decide) (by decide)) (g := (mkF m 36 #[cr b142, cr b143, ci 0, ci 1, .val .null, cu] [(.int 1), (.int 0), (.ref b143)])) rfl (by rw [hml]; rfl) (argsL := [(.ref b143), (.int 0), (.int 1)]) (rest := []) (lenOf pdx_13 rfl) rfl (own_w rfl) (hb hby d4_36) (fun _ _ => ⟨rfl, e150, (by decide : 0 + 1 ≤ _), (by decide : 0 + 1 ≤ _)⟩)
 dsimp only [Pt.U, Pt.locs, Pt.cells, Pt.slots] at X157 l157 y157 z157 st157 hQ157
 subst l157 y157 z157
 obtain ⟨b158, k159, rfl, N157q, K157c, hb157_b158, Y157_0⟩ := hQ157
 have N157 := Fr.app N0 N157q
 refine Ends.go st157 ?_
 have sz_b158 : h0.size ≤ b158 := Nat.le_trans K0.1 hb157_b158
 obtain ⟨h157, e157⟩ : ∃ z, T157.heap = z := ⟨_, rfl⟩
 rw [e157] at K157c Y157_0
 have K157 := K0.trans K157c all0
 have O157 := O0.keep K157c all0
 refine was X157 hx hby d4_39 (l' := #[cr b142, cr b143, ci 0, ci 1, .val .null, cr b158]) rfl rfl ?_
 refine walN X157 hx hby d4_41 rfl rfl ?_
 refine wal X157 hx hby d4_42 rfl rfl ?_
 refine wilN X157 hx hby d4_44 rfl ?_
 obtain ⟨_, _, ⟨T162, L162, k162, n162⟩, -, X162, ⟨Lc162, hQ162, l162, y162, z162⟩, st162⟩ := Jvm.LawKit.callS X157 hx (y := ym21) hown (ov hZ hw 80 rfl) (ov hZ hw 81 rfl) (ov hZ hw 75 rfl) (ov hZ hw 82 rfl) (by decide) (own_backOf (W := 1) (rx18_160 l Z a0 hw [] n0 h157 O157  b158 k159 c0_ Y157_0) hZ (ow hw 82 rfl) (ow hw 75 rfl) (by decide) (by decide)) (g := (mkF m 45 #[cr b142, cr b143, ci 0, ci 1, .val .null, cr b158] [(.int 1), (.ref b158), (.ref b142)])) rfl (by rw [hml]; rfl) (argsL := [(.ref b158), (.int 1)]) (rest := [(.ref b142)]) (lenOf pdx_14 rfl) rfl (own_w rfl) (hb hby d4_45) (fun _ _ => ⟨rfl, e157, (by decide : 1 + 0 ≤ _), (by decide : 1 + 0 ≤ _)⟩)
 dsimp only [Pt.U, Pt.locs, Pt.cells, Pt.slots] at X162 l162 y162 z162 st162 hQ162
 subst l162 y162 z162
 obtain ⟨rfl, N162q, K162c⟩ := hQ162
 have N162 := Fr.app N157 N162q
 refine Ends.go st162 ?_
 obtain ⟨h162, e162⟩ : ∃ z, T162.heap = z := ⟨_, rfl⟩
 rw [e162] at K162c
 have K162 := K157.trans K162c all0
 obtain ⟨T163, h163, X163, e163, W163, st163⟩ := putFN X162 hx hZ hown (ow hw 28 rfl) Via.refl e162 ((PF_b142_coder.keep K157c nin0).keep K162c nin0) ((PE_b142.keep K157c).keep K162c) (Or.inr ⟨(ow hw 24 rfl), rfl, hnm⟩) (ow hw 9 rfl) (ty := .byte) (v' := (.int 0)) (by decide) rfl (by decide) (g := (mkF m 48 #[cr b142, cr b143, ci 0, ci 1, .val .null, cr b158] [(.int 0), (.ref b142)])) rfl rfl (hb hby d4_48)
 refine Ends.go st163 ?_
 have Fw163 := ((PF_b142_coder.keep K157c nin0).keep K162c nin0).same W163
 have K163 := K162.wr W163 (Or.inl (List.mem_of_getElem? (i := 0) rfl))
 have N163 := Fr.snoc X163 N162 g_b142
 refine walN X163 hx hby d4_51 rfl rfl ?_
 refine wal X163 hx hby d4_52 rfl rfl ?_
 obtain ⟨T164, h164, X164, e164, W164, st164⟩ := putF X163 hx hZ hown (host := "") (Or.inl (ow hw 27 rfl)) Via.refl e163 (((PF_b142_value.keep K157c nin0).keep K162c nin0).other W163 (Or.inr (slot_ne (Or.inr (ow hw 23 rfl)) (Or.inr (ow hw 24 rfl)) (by decide) (t := (.array .byte)) (t' := .byte) (by decide) (by decide)))) (((PE_b142.keep K157c).keep K162c).wr W163) (Or.inr ⟨(ow hw 23 rfl), rfl, hnm⟩) (ow hw 9 rfl) (ty := (.array .byte)) (by decide) rfl rfl (g := (mkF m 54 #[cr b142, cr b143, ci 0, ci 1, .val .null, cr b158] [(.ref b158), (.ref b142)])) rfl rfl (hb hby d4_54)
 refine Ends.go st164 ?_
 have Fw164 := (((PF_b142_value.keep K157c nin0).keep K162c nin0).other W163 (Or.inr (slot_ne (Or.inr (ow hw 23 rfl)) (Or.inr (ow hw 24 rfl)) (by decide) (t := (.array .byte)) (t' := .byte) (by decide) (by decide)))).same W164
 have K164 := K163.wr W164 (Or.inl (List.mem_of_getElem? (i := 0) rfl))
 have N164 := Fr.snoc X164 N163 g_b142
 refine Ends.retV X164 hx Bd.notSynchronized Bd.returns (hb hby d4_57) (by decide) (by decide) ?_
 rw [e164]
 exact ⟨b158, k159, rfl, N164, K164, sz_b158, (((Y157_0.keep K162c nin0).other W163 (Ne.symm (Nat.ne_of_lt (Nat.lt_of_lt_of_le PE_b142.lt sz_b158)))).other W164 (Ne.symm (Nat.ne_of_lt (Nat.lt_of_lt_of_le PE_b142.lt sz_b158)))), (Fw163.other W164 (Or.inr (slot_ne (Or.inr (ow hw 24 rfl)) (Or.inr (ow hw 23 rfl)) (by decide) (t := .byte) (t' := (.array .byte)) (by decide) (by decide)))), Fw164⟩

theorem rx3_146 (l : Launch) (Z : State) (a0 : Array Value) (hw : HW a0 Z) (ws : List Jvm.Cond) (n0 : Nat) (h0 : Heap) (O0 : Old Z n0 h0) (G1 : Int32) (G3 : Value) (GF : GlobF Z a0 G1 G3) (b142 : Addr) (b143 : Addr) (k143 : ClassId) (c0_ : Int32) (PV_b143 : Arv Z h0 b143 k143 .char (1 : Int32) [(.int c0_)] (.int 0)) (PE_b142 : Exa Z h0 b142 cST) (PF_b142_coder : Fld Z h0 b142 cST "coder" "B" (.int 0)) (PF_b142_value : Fld Z h0 b142 cST "value" "[B" .null) (g_b142 : n0 ≤ b142) (hc0_ : 0 ≤ c0_.toInt ∧ c0_.toInt < 256) :
  Meets1 l ym16 jdk_42_method_3_code 2 none ws (mkR 3 1 1 52) #[(.ref b142), (.ref b143)] Z h0 (fun v h L => ∃ (b166 : Addr) (k167 : ClassId), v = none ∧ Fr n0 L ∧ Keep h0 h [b142] ∧ h0.size ≤ b166 ∧ Arv Z h b166 k167 .byte (1 : Int32) [(yb c0_)] (.int 0) ∧ Fld Z h b142 cST "coder" "B" (.int 0) ∧ Fld Z h b142 cST "value" "[B" (.ref b166)) := by
 refine MetFree.of_bodySF (plainFor_of_name pn3) hisR ?_
 intro p e s m args below meth c s₁ Bd hml0 hP hK
 obtain ⟨rfl, hZ, hh⟩ := hP
 have hx := Bd.exec
 have hby := Bd.bytes
 have hml : c.maxLocals = 2 := hml0
 have hown : s.vm.findClass "java/lang/String" = some m.cls := findClass_of_methodNamed Bd.named
 have X0 : Stand p l e (mkR 3 1 1 52) s m #[(.ref b142), (.ref b143)] below meth c s₁ [] 0 0 := Stand.of_body Bd
 have e0 : s₁.heap = h0 := by rw [← hh, Bd.state]; rfl
 have N0 := Fr.nil n0
 show Ends _ _ _ _ s₁ (entryFrame m #[(.ref b142), (.ref b143)] 2) (mkR 3 1 1 52).cells (mkR 3 1 1 52).slots (fun v h L => ∃ (b166 : Addr) (k167 : ClassId), v = none ∧ Fr n0 L ∧ Keep h0 h [b142] ∧ h0.size ≤ b166 ∧ Arv Z h b166 k167 .byte (1 : Int32) [(yb c0_)] (.int 0) ∧ Fld Z h b142 cST "coder" "B" (.int 0) ∧ Fld Z h b142 cST "value" "[B" (.ref b166))
 refine Ends.go (fun _ k => castTop (ef3_rr m b142 b143) k) ?_
 obtain ⟨SCS, P5, SSF, RG3, HC1, HC2, HCW⟩ := id GF
 have K0 := Keep.refl h0 [b142]
 show Ends _ _ _ _ s₁ (mkF m 0 #[cr b142, cr b143] []) _ _ _
 refine walN X0 hx hby d3_0 rfl rfl ?_
 refine walN X0 hx hby d3_1 rfl rfl ?_
 refine wic X0 hx hby d3_2 ?_
 refine walN X0 hx hby d3_3 rfl rfl ?_
 obtain ⟨cl147, Ar147, q147, S147, M147, H147, G147⟩ := id PV_b143
 refine Ends.go (X0.arraylength hx (by rw [e0]; exact Ar147.1) (State.isArrayOf_alike hZ.alike Ar147.2.1) (g := (mkF m 4 #[cr b142, cr b143] [(.ref b143), (.int 0), (.ref b143), (.ref b142)])) rfl rfl (hb hby d3_4)) ?_
 rw [len_of S147 M147]
 refine .go (fun _ => XS.aconstNull X0.here hx rfl (hb hby d3_5)) ?_
 obtain ⟨_, _, ⟨T165, L165, k165, n165⟩, -, X165, ⟨Lc165, hQ165, l165, y165, z165⟩, st165⟩ := X0.specialBack hx (y := ym15) rfl hown (ov hZ hw 14 rfl) (ov hZ hw 15 rfl) (ov hZ hw 17 rfl) (by decide) (own_backOf (W := 0) (rx4_148 l Z a0 hw [] n0 h0 O0 G1 G3 GF b142 b143 k143 c0_ PV_b143 PE_b142 PF_b142_coder PF_b142_value g_b142 hc0_) hZ (ow hw 17 rfl) (ow hw 10 rfl) (by decide) (by decide)) (g := (mkF m 6 #[cr b142, cr b143] [.null, (.int 1), (.int 0), (.ref b143), (.ref b142)])) rfl (by rw [hml]; rfl) (Steps.refl _) (a := b142) (argsL := [(.ref b143), (.int 0), (.int 1), .null]) (rest := []) (lenOf pdx_7 rfl) rfl (own_w rfl) (hb hby d3_6) (fun _ _ => ⟨rfl, e0, (by decide : 0 + 1 ≤ _), (by decide : 0 + 1 ≤ _)⟩)
 dsimp only [Pt.U, Pt.locs, Pt.cells, Pt.slots] at X165 l165 y165 z165 st165 hQ165
 subst l165 y165 z165
 obtain ⟨b166, k167, rfl, N165q, K165c, hb165_b166, Y165_0, Y165_1, Y165_2⟩ := hQ165
 have N165 := Fr.app N0 N165q
 refine Ends.go (fun _ k => st165.trans k) ?_
 have sz_b166 : h0.size ≤ b166 := Nat.le_trans K0.1 hb165_b166
 obtain ⟨h165, e165⟩ : ∃ z, T165.heap = z := ⟨_, rfl⟩
 rw [e165] at K165c Y165_0 Y165_1 Y165_2
 have K165 := K0.trans K165c (allS (Or.inl (List.mem_of_getElem? (i := 0) rfl)) all0)
 refine Ends.retV X165 hx Bd.notSynchronized Bd.returns (hb hby d3_9) (by decide) (by decide) ?_
 rw [e165]
 exact ⟨b166, k167, rfl, N165, K165, sz_b166, Y165_0, Y165_1, Y165_2⟩

theorem d2_15 : decode method_3_code 15 = .ok (.iload_n 1, 1) := by decide +kernel
theorem d2_16 : decode method_3_code 16 = .ok (.iconst 1, 1) := by decide +kernel
theorem d2_17 : decode method_3_code 17 = .ok (.if_icmp .ne 20, 3) := by decide +kernel
theorem d2_20 : decode method_3_code 20 = .ok (.new 7, 3) := by decide +kernel
theorem d2_23 : decode method_3_code 23 = .ok (.dup, 1) := by decide +kernel
theorem d2_24 : decode method_3_code 24 = .ok (.iconst 1, 1) := by decide +kernel
theorem d2_25 : decode method_3_code 25 = .ok (.newarray .char, 2) := by decide +kernel
theorem d2_27 : decode method_3_code 27 = .ok (.dup, 1) := by decide +kernel
theorem d2_28 : decode method_3_code 28 = .ok (.iconst 0, 1) := by decide +kernel
theorem d2_29 : decode method_3_code 29 = .ok (.aload_n 0, 1) := by decide +kernel
theorem d2_30 : decode method_3_code 30 = .ok (.iconst 0, 1) := by decide +kernel
theorem d2_31 : decode method_3_code 31 = .ok (.caload, 1) := by decide +kernel
theorem d2_32 : decode method_3_code 32 = .ok (.castore, 1) := by decide +kernel
theorem d2_33 : decode method_3_code 33 = .ok (.invokespecial 9, 3) := by decide +kernel
theorem d2_36 : decode method_3_code 36 = .ok (.areturn, 1) := by decide +kernel
theorem rx2_141 (l : Launch) (Z : State) (a0 : Array Value) (hw : HW a0 Z) (ws : List Jvm.Cond) (n0 : Nat) (h0 : Heap) (O0 : Old Z n0 h0) (G1 : Int32) (G3 : Value) (GF : GlobF Z a0 G1 G3) (b104 : Addr) (k104 : ClassId) (c0_ : Int32) (c1_ : Int32) (c2_ : Int32) (c3_ : Int32) (PV_b104 : Arv Z h0 b104 k104 .char (4 : Int32) [(.int c0_), (.int c1_), (.int c2_), (.int c3_)] (.int 0)) (hc0_ : 0 ≤ c0_.toInt ∧ c0_.toInt < 256) :
  Meets1 l ym17 method_3_code 2 (some (.object cST)) ws (mkR 4 3 6 66) #[(.ref b104), (.int 1)] Z h0 (fun v h L => ∃ (b142 : Addr) (b143 : Addr) (b169 : Addr) (k143 : ClassId) (k170 : ClassId), v = some (.ref b142) ∧ Fr n0 L ∧ Keep h0 h [] ∧ h0.size ≤ b142 ∧ h0.size ≤ b143 ∧ h0.size ≤ b169 ∧ b142 ≠ b143 ∧ b142 ≠ b169 ∧ b143 ≠ b169 ∧ Exa Z h b142 cST ∧ Arv Z h b143 k143 .char (1 : Int32) [(.int c0_)] (.int 0) ∧ Arv Z h b169 k170 .byte (1 : Int32) [(yb c0_)] (.int 0) ∧ Fld Z h b142 cST "coder" "B" (.int 0) ∧ Fld Z h b142 cST "value" "[B" (.ref b169)) := by
 refine MetFree.of_bodySF (plainFor_of_name pn2) hisR ?_
 intro p e s m args below meth c s₁ Bd hml0 hP hK
 obtain ⟨rfl, hZ, hh⟩ := hP
 have hx := Bd.exec
 have hby := Bd.bytes
 have hml : c.maxLocals = 2 := hml0
 have hown : s.vm.findClass "com/example/wakeline/wakeline/format/shareplex/SharePlexMessageDatabasePinLaw" = some m.cls := findClass_of_methodNamed Bd.named
 have X0 : Stand p l e (mkR 4 3 6 66) s m #[(.ref b104), (.int 1)] below meth c s₁ [] 0 0 := Stand.of_body Bd
 have e0 : s₁.heap = h0 := by rw [← hh, Bd.state]; rfl
 have N0 := Fr.nil n0
 show Ends _ _ _ _ s₁ (entryFrame m #[(.ref b104), (.int 1)] 2) (mkR 4 3 6 66).cells (mkR 4 3 6 66).slots (fun v h L => ∃ (b142 : Addr) (b143 : Addr) (b169 : Addr) (k143 : ClassId) (k170 : ClassId), v = some (.ref b142) ∧ Fr n0 L ∧ Keep h0 h [] ∧ h0.size ≤ b142 ∧ h0.size ≤ b143 ∧ h0.size ≤ b169 ∧ b142 ≠ b143 ∧ b142 ≠ b169 ∧ b143 ≠ b169 ∧ Exa Z h b142 cST ∧ Arv Z h b143 k143 .char (1 : Int32) [(.int c0_)] (.int 0) ∧ Arv Z h b169 k170 .byte (1 : Int32) [(yb c0_)] (.int 0) ∧ Fld Z h b142 cST "coder" "B" (.int 0) ∧ Fld Z h b142 cST "value" "[B" (.ref b169))
 refine Ends.go (fun _ k => castTop (ef2_ri m b104 (1 : Int32)) k) ?_
 obtain ⟨SCS, P5, SSF, RG3, HC1, HC2, HCW⟩ := id GF
 have K0 := Keep.refl h0 []
 show Ends _ _ _ _ s₁ (mkF m 0 #[cr b104, ci 1] []) _ _ _
 refine wilN X0 hx hby d2_0 rfl ?_
 refine wiy (pc := 1) (pc' := 15) X0 hx hby d2_1 ((if0 _ _).trans (feq (by decide : ¬ ((1 : Int32) = (0 : Int32)))).2) ?_
 refine wilN X0 hx hby d2_15 rfl ?_
 refine wic X0 hx hby d2_16 ?_
 refine wcn X0 hx hby d2_17 (teq (by decide : (1 : Int32) = (1 : Int32))).2 ?_
 obtain ⟨T142, h142, X142, e142, E142, A142, D142, -, st142⟩ := newO X0 hx hZ hown (ow hw 8 rfl) (ow hw 9 rfl) (ow hw 10 rfl) e0 (g := (mkF m 20 #[cr b104, ci 1] [])) rfl (hb hby d2_20) (by decide) (by decide)
 obtain ⟨b142, g142⟩ : ∃ z, z = h0.size := ⟨_, rfl⟩
 rw [← g142] at A142 D142 st142
 refine Ends.go st142 ?_
 have g_b142 : n0 ≤ b142 := Nat.le_trans (own_old_le O0) (Nat.le_of_eq g142.symm)
 have sz_b142 : h0.size ≤ b142 := Nat.le_trans K0.1 (Nat.le_of_eq g142.symm)
 have K142 := K0.ext E142
 have O142 := O0.ext E142
 have F_value_b142 : Fld Z h142 b142 cST "value" "[B" .null := D142 (Or.inr (ow hw 23 rfl)) (ty := (.array .byte)) (by decide)
 have F_coder_b142 : Fld Z h142 b142 cST "coder" "B" (.int 0) := D142 (Or.inr (ow hw 24 rfl)) (ty := .byte) (by decide)
 refine wdu X142 hx hby d2_23 rfl ?_
 refine wic X142 hx hby d2_24 ?_
 obtain ⟨T143, h143, k143, X143, e143, E143, A143, st143⟩ := newP X142 hx hZ (ow hw 0 rfl) e142 (g := (mkF m 25 #[cr b104, ci 1] [(.int 1), (.ref b142), (.ref b142)])) rfl (hb hby d2_25) rfl (by decide) (cap := 1) (by decide) (by decide) (by decide) (by decide)
 obtain ⟨b143, g143⟩ : ∃ z, z = h142.size := ⟨_, rfl⟩
 rw [← g143] at A143 st143
 refine Ends.go st143 ?_
 have g_b143 : n0 ≤ b143 := Nat.le_trans (own_old_le O142) (Nat.le_of_eq g143.symm)
 have sz_b143 : h0.size ≤ b143 := Nat.le_trans K142.1 (Nat.le_of_eq g143.symm)
 have K143 := K142.ext E143
 have O143 := O142.ext E143
 have V_b143 : Arv Z h143 b143 k143 .char (1 : Int32) [(.int 0)] (.int 0) := (Arv.new A143 (by decide)).pad (pad_rep [] (.int 0) 1)
 refine wdu X143 hx hby d2_27 rfl ?_
 refine wic X143 hx hby d2_28 ?_
 refine walN X143 hx hby d2_29 rfl rfl ?_
 refine wic X143 hx hby d2_30 ?_
 obtain ⟨cl144, Ar144, q144, S144, M144, H144, G144⟩ := id ((PV_b104.ext E142).ext E143)
 have hin144 := inb_of (j := (0 : Int32)) S144 ⟨by decide, by decide⟩
 refine Ends.go (X143.caload hx (j := (0 : Int32)) (v := (.int c0_)) (by rw [e143]; exact Ar144.1) (State.isArrayOf_alike hZ.alike Ar144.2.1) Ar144.2.2 hin144 (H144.at hin144 rfl) (g := (mkF m 31 #[cr b104, ci 1] [(.int 0), (.ref b104), (.int 0), (.ref b143), (.ref b143), (.ref b142), (.ref b142)])) rfl rfl (hb hby d2_31)) ?_
 obtain ⟨cl145, Ar145, q145, S145, M145, H145, G145⟩ := id V_b143
 have hin145 := inb_of (j := (0 : Int32)) S145 ⟨by decide, by decide⟩
 obtain ⟨T145, h145, X145, e145, W145, st145⟩ := stC X143 hx hZ e143 Ar145 (j := (0 : Int32)) hin145 (g := (mkF m 32 #[cr b104, ci 1] [(.int c0_), (.int 0), (.ref b143), (.ref b143), (.ref b142), (.ref b142)])) rfl rfl (hb hby d2_32)
 refine Ends.go st145 ?_
 have V145 : Arv Z h145 b143 k143 .char (1 : Int32) [(.int (nar .char c0_))] (.int 0) := Arv.set Ar145 q145 S145 M145 H145 G145 (fits_nar_char _) W145 0 rfl (Nat.le_of_ble_eq_true rfl)
 rw [own_narc hc0_] at V145
 have K145 := K143.wr W145 (Or.inr sz_b143)
 have O145 := O143.wr W145 g_b143
 have N145 := Fr.snoc X145 N0 g_b143
 have ne_b142_b143 : b142 ≠ b143 := Nat.ne_of_lt (Nat.lt_of_lt_of_le A142.lt (Nat.le_of_eq g143.symm))
 obtain ⟨_, _, ⟨T168, L168, k168, n168⟩, -, X168, ⟨Lc168, hQ168, l168, y168, z168⟩, st168⟩ := X145.specialBack hx (y := ym16) rfl hown (ov hZ hw 11 rfl) (ov hZ hw 12 rfl) (ov hZ hw 13 rfl) (by decide) (own_backOf (W := 1) (rx3_146 l Z a0 hw [] n0 h145 O145 G1 G3 GF b142 b143 k143 c0_ V145 ((A142.ext E143).wr W145) ((F_coder_b142.ext E143).other W145 (Or.inl ne_b142_b143)) ((F_value_b142.ext E143).other W145 (Or.inl ne_b142_b143)) g_b142 hc0_) hZ (ow hw 13 rfl) (ow hw 10 rfl) (by decide) (by decide)) (g := (mkF m 33 #[cr b104, ci 1] [(.ref b143), (.ref b142), (.ref b142)])) rfl (by rw [hml]; rfl) (Steps.refl _) (a := b142) (argsL := [(.ref b143)]) (rest := [(.ref b142)]) (lenOf pdx_8 rfl) rfl (own_w rfl) (hb hby d2_33) (fun _ _ => ⟨rfl, e145, (by decide : 2 + 1 ≤ _), (by decide : 5 + 1 ≤ _)⟩)
 dsimp only [Pt.U, Pt.locs, Pt.cells, Pt.slots] at X168 l168 y168 z168 st168 hQ168
 subst l168 y168 z168
 obtain ⟨b169, k170, rfl, N168q, K168c, hb168_b169, Y168_0, Y168_1, Y168_2⟩ := hQ168
 have N168 := Fr.app N145 N168q
 refine Ends.go (fun _ k => st168.trans k) ?_
 have sz_b169 : h0.size ≤ b169 := Nat.le_trans K145.1 hb168_b169
 obtain ⟨h168, e168⟩ : ∃ z, T168.heap = z := ⟨_, rfl⟩
 rw [e168] at K168c Y168_0 Y168_1 Y168_2
 have K168 := K145.trans K168c (allS (Or.inr sz_b142) all0)
 refine Ends.ret X168 hx Bd.notSynchronized (t := (.object cST)) Bd.returns rfl (Or.inr (Or.inr (Or.inr (Or.inr ⟨rfl, rfl, rfl⟩)))) (hb hby d2_36) (by decide) (by decide) ?_
 rw [e168]
 have ne_b142_b169 : b142 ≠ b169 := Nat.ne_of_lt (Nat.lt_of_lt_of_le ((A142.ext E143).wr W145).lt hb168_b169)
 have ne_b143_b169 : b143 ≠ b169 := Nat.ne_of_lt (Nat.lt_of_lt_of_le V145.lt hb168_b169)
 exact ⟨b142, b143, b169, k143, k170, rfl, N168, K168, sz_b142, sz_b143, sz_b169, ne_b142_b143, ne_b142_b169, ne_b143_b169, (((A142.ext E143).wr W145).keep K168c), (V145.keep K168c (ninS (Ne.symm ne_b142_b143) nin0)), Y168_0, Y168_1, Y168_2⟩

theorem d23_0 : decode jdk_43_method_47_code 0 = .ok (.iload_n 2, 1) := by decide +kernel
theorem d23_1 : decode jdk_43_method_47_code 1 = .ok (.ifCond .ne 6, 3) := by decide +kernel
theorem d23_4 : decode jdk_43_method_47_code 4 = .ok (.ldc 151, 2) := by decide +kernel
theorem d23_6 : decode jdk_43_method_47_code 6 = .ok (.areturn, 1) := by decide +kernel
theorem pn23 : plainName "java/lang/StringLatin1" = true := by first | (simp [plainName, overriddenIn]; done) | decide +kernel
theorem pdx_15 : parseMethodDescriptor "(III)V" = some ⟨[.int, .int, .int], none⟩ := by decide +kernel
theorem ef23_rii (m : MethodId) (x0 : Addr) (x1 : Int32) (x2 : Int32) : entryFrame m #[(.ref x0), (.int x1), (.int x2)] 3 = mkF m 0 #[.val (.ref x0), .val (.int x1), .val (.int x2)] [] := by first | (simp [entryFrame, mkF, argsToLocals, Value.category]; done) | rfl
theorem rx23_184 (l : Launch) (Z : State) (a0 : Array Value) (hw : HW a0 Z) (ws : List Jvm.Cond) (n0 : Nat) (h0 : Heap) (O0 : Old Z n0 h0) (G1 : Int32) (G3 : Value) (GF : GlobF Z a0 G1 G3) (b174 : Addr)  :
  Meets1W l ym22 jdk_43_method_47_code 3 (some (.object cST)) ws (mkR 0 2 4 0) #[(.ref b174), (.int 0), (.int 0)] Z h0 true (fun v h L => ∃ (kb185 : ClassId) (a185 : Addr) (b185 : Addr), v = some (.ref a185) ∧ Fr n0 L ∧ Keep h0 h [] ∧ Exa Z h a185 cST ∧ Fld Z h a185 cST "coder" "B" (.int 0) ∧ Fld Z h a185 cST "value" "[B" (.ref b185) ∧ Arv Z h b185 kb185 .byte (0 : Int32) [] (.int 0)) := by
 refine MetFree.of_bodySF (plainFor_of_name pn23) hisR ?_
 intro p e s m args below meth c s₁ Bd hml0 hP hK
 obtain ⟨rfl, hZ, hh, hI⟩ := hP
 have hx := Bd.exec
 have hby := Bd.bytes
 have hown : s.vm.findClass "java/lang/StringLatin1" = some m.cls := findClass_of_methodNamed Bd.named
 have X0 : Stand p l e (mkR 0 2 4 0) s m #[(.ref b174), (.int 0), (.int 0)] below meth c s₁ [] 0 0 := Stand.of_body Bd
 have e0 : s₁.heap = h0 := by rw [← hh, Bd.state]; rfl
 have N0 := Fr.nil n0
 have hS0 := own_since0 s
 have hk0 : s.heap.size ≤ h0.size := Nat.le_of_eq (congrArg Array.size hh)
 show EndsW _ _ _ _ s₁ (entryFrame m #[(.ref b174), (.int 0), (.int 0)] 3) (mkR 0 2 4 0).cells (mkR 0 2 4 0).slots (fun v h L => ∃ (kb185 : ClassId) (a185 : Addr) (b185 : Addr), v = some (.ref a185) ∧ Fr n0 L ∧ Keep h0 h [] ∧ Exa Z h a185 cST ∧ Fld Z h a185 cST "coder" "B" (.int 0) ∧ Fld Z h a185 cST "value" "[B" (.ref b185) ∧ Arv Z h b185 kb185 .byte (0 : Int32) [] (.int 0))
 refine EndsW.go (fun _ k => castTop (ef23_rii m b174 (0 : Int32) (0 : Int32)) k) ?_
 obtain ⟨SCS, P5, SSF, RG3, HC1, HC2, HCW⟩ := id GF
 have K0 := Keep.refl h0 []
 show EndsW _ _ _ _ s₁ (mkF m 0 #[cr b174, ci 0, ci 0] []) _ _ _
 refine wilNW X0 hx hby d23_0 rfl ?_
 refine winW X0 hx hby d23_1 ((if0 _ _).trans (teq (by decide : (0 : Int32) = (0 : Int32))).2) ?_
 obtain ⟨a185, T185, h185, k185, b185, kb185, X185, e185, E185, hS185, hk185, hZ, hown, LE185, LC185, LV185, LA185, -, -, -, LL185, st185⟩ := ldcSVL (s := s) (vm0 := s.vm) X0 hx hZ hown (ow hw 102 rfl) (own_atoms hw) e0 hS0 hk0 (Fr.nil _) (fun b_ c_ q_ => by rw [hh]; exact O0.2.2 b_ c_ q_) (own_ib (hI rfl)) (by simp) HC2 HCW (vs := []) (z := 0) (by simp) (by decide) (by decide) (g := (mkF m 4 #[cr b174, ci 0, ci 0] [])) rfl (hb hby d23_4) (n := 0) (by decide) (by decide) (by decide) (by decide)
 refine EndsW.go st185 ?_
 have K185 := K0.ext E185
 refine EndsW.ret (s := s) (vm := T185.vm) X185 hx hS185 (Nat.le_trans hk185 (Nat.le_of_eq (congrArg Array.size e185.symm))) Bd.notSynchronized (t := (.object cST)) Bd.returns rfl (Or.inr (Or.inr (Or.inr (Or.inr ⟨rfl, rfl, rfl⟩)))) (hb hby d23_6) (by decide) (by decide) ?_
 rw [e185]
 exact ⟨kb185, a185, b185, rfl, N0, K185, LE185, LC185, LV185, LA185⟩

theorem d20_0 : decode jdk_42_method_92_code 0 = .ok (.aload_n 0, 1) := by decide +kernel
theorem d20_1 : decode jdk_42_method_92_code 1 = .ok (.invokevirtual 505, 3) := by decide +kernel
theorem d20_4 : decode jdk_42_method_92_code 4 = .ok (.istore_n 3, 1) := by decide +kernel
theorem d20_5 : decode jdk_42_method_92_code 5 = .ok (.iload_n 1, 1) := by decide +kernel
theorem d20_6 : decode jdk_42_method_92_code 6 = .ok (.iload_n 2, 1) := by decide +kernel
theorem d20_7 : decode jdk_42_method_92_code 7 = .ok (.iload_n 3, 1) := by decide +kernel
theorem d20_8 : decode jdk_42_method_92_code 8 = .ok (.invokestatic 521, 3) := by decide +kernel
theorem d20_11 : decode jdk_42_method_92_code 11 = .ok (.iload_n 1, 1) := by decide +kernel
theorem d20_12 : decode jdk_42_method_92_code 12 = .ok (.ifCond .ne 10, 3) := by decide +kernel
theorem d20_15 : decode jdk_42_method_92_code 15 = .ok (.iload_n 2, 1) := by decide +kernel
theorem d20_16 : decode jdk_42_method_92_code 16 = .ok (.iload_n 3, 1) := by decide +kernel
theorem d20_17 : decode jdk_42_method_92_code 17 = .ok (.if_icmp .ne 5, 3) := by decide +kernel
theorem d20_22 : decode jdk_42_method_92_code 22 = .ok (.iload_n 2, 1) := by decide +kernel
theorem d20_23 : decode jdk_42_method_92_code 23 = .ok (.iload_n 1, 1) := by decide +kernel
theorem d20_24 : decode jdk_42_method_92_code 24 = .ok (.isub, 1) := by decide +kernel
theorem d20_25 : decode jdk_42_method_92_code 25 = .ok (.istore 4, 2) := by decide +kernel
theorem d20_27 : decode jdk_42_method_92_code 27 = .ok (.aload_n 0, 1) := by decide +kernel
theorem d20_28 : decode jdk_42_method_92_code 28 = .ok (.invokevirtual 492, 3) := by decide +kernel
theorem d20_31 : decode jdk_42_method_92_code 31 = .ok (.ifCond .eq 16, 3) := by decide +kernel
theorem d20_34 : decode jdk_42_method_92_code 34 = .ok (.aload_n 0, 1) := by decide +kernel
theorem d20_35 : decode jdk_42_method_92_code 35 = .ok (.getfield 9, 3) := by decide +kernel
theorem d20_38 : decode jdk_42_method_92_code 38 = .ok (.iload_n 1, 1) := by decide +kernel
theorem d20_39 : decode jdk_42_method_92_code 39 = .ok (.iload 4, 2) := by decide +kernel
theorem d20_41 : decode jdk_42_method_92_code 41 = .ok (.invokestatic 685, 3) := by decide +kernel
theorem d20_44 : decode jdk_42_method_92_code 44 = .ok (.goto 13, 3) := by decide +kernel
theorem d20_57 : decode jdk_42_method_92_code 57 = .ok (.areturn, 1) := by decide +kernel
theorem pn20 : plainName "java/lang/String" = true := by first | (simp [plainName, overriddenIn]; done) | decide +kernel
theorem pdx_16 : parseMethodDescriptor "([BII)Ljava/lang/String;" = some ⟨[(.array .byte), .int, .int], some (.object "java/lang/String")⟩ := by decide +kernel
theorem ef20_rii (m : MethodId) (x0 : Addr) (x1 : Int32) (x2 : Int32) : entryFrame m #[(.ref x0), (.int x1), (.int x2)] 5 = mkF m 0 #[.val (.ref x0), .val (.int x1), .val (.int x2), .unset, .unset] [] := by first | (simp [entryFrame, mkF, argsToLocals, Value.category]; done) | rfl
theorem rx20_179 (l : Launch) (Z : State) (a0 : Array Value) (hw : HW a0 Z) (ws : List Jvm.Cond) (n0 : Nat) (h0 : Heap) (O0 : Old Z n0 h0) (G1 : Int32) (G3 : Value) (GF : GlobF Z a0 G1 G3) (b172 : Addr) (b174 : Addr) (k176 : ClassId) (c0_ : Int32) (PF_b172_value : Fld Z h0 b172 cST "value" "[B" (.ref b174)) (PV_b174 : Arv Z h0 b174 k176 .byte (1 : Int32) [(yb c0_)] (.int 0)) (PF_b172_coder : Fld Z h0 b172 cST "coder" "B" (.int 0)) (PE_b172 : Exa Z h0 b172 cST) :
  Meets1W l ym23 jdk_42_method_92_code 5 (some (.object cST)) ws (mkR 2 2 4 29) #[(.ref b172), (.int 0), (.int 0)] Z h0 true (fun v h L => ∃ (k187 : ClassId) (a188 : Addr) (a189 : Addr), v = some (.ref a188) ∧ Fr n0 L ∧ Keep h0 h [] ∧ Exa Z h a188 cST ∧ Fld Z h a188 cST "coder" "B" (.int 0) ∧ Fld Z h a188 cST "value" "[B" (.ref a189) ∧ Arv Z h a189 k187 .byte (0 : Int32) [] (.int 0)) := by
 refine MetFree.of_bodySF (plainFor_of_name pn20) hisR ?_
 intro p e s m args below meth c s₁ Bd hml0 hP hK
 obtain ⟨rfl, hZ, hh, hI⟩ := hP
 have hx := Bd.exec
 have hby := Bd.bytes
 have hml : c.maxLocals = 5 := hml0
 have hown : s.vm.findClass "java/lang/String" = some m.cls := findClass_of_methodNamed Bd.named
 have X0 : Stand p l e (mkR 2 2 4 29) s m #[(.ref b172), (.int 0), (.int 0)] below meth c s₁ [] 0 0 := Stand.of_body Bd
 have e0 : s₁.heap = h0 := by rw [← hh, Bd.state]; rfl
 have N0 := Fr.nil n0
 have hS0 := own_since0 s
 have hk0 : s.heap.size ≤ h0.size := Nat.le_of_eq (congrArg Array.size hh)
 show EndsW _ _ _ _ s₁ (entryFrame m #[(.ref b172), (.int 0), (.int 0)] 5) (mkR 2 2 4 29).cells (mkR 2 2 4 29).slots (fun v h L => ∃ (k187 : ClassId) (a188 : Addr) (a189 : Addr), v = some (.ref a188) ∧ Fr n0 L ∧ Keep h0 h [] ∧ Exa Z h a188 cST ∧ Fld Z h a188 cST "coder" "B" (.int 0) ∧ Fld Z h a188 cST "value" "[B" (.ref a189) ∧ Arv Z h a189 k187 .byte (0 : Int32) [] (.int 0))
 refine EndsW.go (fun _ k => castTop (ef20_rii m b172 (0 : Int32) (0 : Int32)) k) ?_
 obtain ⟨SCS, P5, SSF, RG3, HC1, HC2, HCW⟩ := id GF
 have K0 := Keep.refl h0 []
 show EndsW _ _ _ _ s₁ (mkF m 0 #[cr b172, ci 0, ci 0, cu, cu] []) _ _ _
 refine walNW X0 hx hby d20_0 rfl rfl ?_
 obtain ⟨cq180, kq180, q180a, q180b, q180c⟩ := isOf hZ e0 PE_b172
 obtain ⟨_, _, ⟨T180, L180, k180, n180⟩, -, X180, ⟨Lc180, hQ180, l180, y180, z180⟩, st180⟩ := X0.virtualBack hx (y := ym11) (z := ym11) hown (ov hZ hw 49 rfl) (ov hZ hw 50 rfl) (notFace_of_selects (args := #[]) (ov hZ hw 52 rfl)) (ov hZ hw 52 rfl) (ov hZ hw 51 rfl) (by decide) (own_backOf (W := 0) (rx10_33 l Z a0 hw [] n0 h0 O0 G1 G3 GF b172 b174 k176 c0_ PF_b172_value PV_b174 PF_b172_coder PE_b172) hZ (ow hw 53 rfl) (ow hw 10 rfl) (by decide) (by decide)) q180a q180c (g := (mkF m 1 #[cr b172, ci 0, ci 0, cu, cu] [(.ref b172)])) rfl (by rw [hml]; rfl) (Steps.refl _) (argsL := []) (rest := []) (lenOf pdx_4 rfl) rfl (own_w rfl) (hb hby d20_1) (fun _ _ => ⟨rfl, e0, (by decide : 0 + 0 ≤ _), (by decide : 0 + 0 ≤ _)⟩)
 dsimp only [Pt.U, Pt.locs, Pt.cells, Pt.slots] at X180 l180 y180 z180 st180 hQ180
 subst l180 y180 z180
 obtain ⟨rfl, N180q, K180c⟩ := hQ180
 have N180 := Fr.app N0 N180q
 refine EndsW.go (fun _ k => st180.trans k) ?_
 obtain ⟨h180, e180⟩ : ∃ z, T180.heap = z := ⟨_, rfl⟩
 rw [e180] at K180c
 have K180 := K0.trans K180c all0
 have O180 := O0.keep K180c all0
 refine wstNW X180 hx hby d20_4 (l' := #[cr b172, ci 0, ci 0, ci 1, cu]) rfl ?_
 refine wilNW X180 hx hby d20_5 rfl ?_
 refine wilNW X180 hx hby d20_6 rfl ?_
 refine wilNW X180 hx hby d20_7 rfl ?_
 obtain ⟨_, _, ⟨T181, L181, k181, n181⟩, -, X181, ⟨Lc181, hQ181, l181, y181, z181⟩, st181⟩ := Jvm.LawKit.callS X180 hx (y := ym4) hown (ov hZ hw 91 rfl) (ov hZ hw 92 rfl) (ov hZ hw 10 rfl) (ov hZ hw 93 rfl) (by decide) (own_backOf (W := 0) (rm_checkBoundsBeginEnd l Z a0 hw [] n0 h180 O180 (0 : Int32) (0 : Int32) (1 : Int32) G1 G3 GF (by decide) (by decide) (by decide)) hZ (ow hw 93 rfl) (ow hw 10 rfl) (by decide) (by decide)) (g := (mkF m 8 #[cr b172, ci 0, ci 0, ci 1, cu] [(.int 1), (.int 0), (.int 0)])) rfl (by rw [hml]; rfl) (argsL := [(.int 0), (.int 0), (.int 1)]) (rest := []) (lenOf pdx_15 rfl) rfl (own_w rfl) (hb hby d20_8) (fun _ _ => ⟨rfl, e180, (by decide : 0 + 0 ≤ _), (by decide : 0 + 0 ≤ _)⟩)
 dsimp only [Pt.U, Pt.locs, Pt.cells, Pt.slots] at X181 l181 y181 z181 st181 hQ181
 subst l181 y181 z181
 obtain ⟨rfl, N181q, e181q⟩ := hQ181
 have N181 := Fr.app N180 N181q
 refine EndsW.go st181 ?_
 refine wilNW X181 hx hby d20_11 rfl ?_
 refine winW X181 hx hby d20_12 ((if0 _ _).trans (teq (by decide : (0 : Int32) = (0 : Int32))).2) ?_
 refine wilNW X181 hx hby d20_15 rfl ?_
 refine wilNW X181 hx hby d20_16 rfl ?_
 refine wcyW (pc := 17) (pc' := 22) X181 hx hby d20_17 (feq (by decide : ¬ ((0 : Int32) = (1 : Int32)))).2 ?_
 refine wilNW X181 hx hby d20_22 rfl ?_
 refine wilNW X181 hx hby d20_23 rfl ?_
 refine wisW X181 hx hby d20_24 ?_
 refine wstW X181 hx hby d20_25 (l' := #[cr b172, ci 0, ci 0, ci 1, ci 0]) rfl ?_
 refine walNW X181 hx hby d20_27 rfl rfl ?_
 obtain ⟨cq182, kq182, q182a, q182b, q182c⟩ := isOf hZ e181q (PE_b172.keep K180c)
 obtain ⟨_, _, ⟨T182, L182, k182, n182⟩, -, X182, ⟨Lc182, hQ182, l182, y182, z182⟩, st182⟩ := X181.virtualBack hx (y := ym9) (z := ym9) hown (ov hZ hw 43 rfl) (ov hZ hw 44 rfl) (notFace_of_selects (args := #[]) (ov hZ hw 46 rfl)) (ov hZ hw 46 rfl) (ov hZ hw 45 rfl) (by decide) (own_backOf (W := 0) (rx9_8 l Z a0 hw [] n0 h180 O180 G1 G3 GF b172 (PF_b172_coder.keep K180c nin0)) hZ (ow hw 47 rfl) (ow hw 10 rfl) (by decide) (by decide)) q182a q182c (g := (mkF m 28 #[cr b172, ci 0, ci 0, ci 1, ci 0] [(.ref b172)])) rfl (by rw [hml]; rfl) (Steps.refl _) (argsL := []) (rest := []) (lenOf pdx_2 rfl) rfl (own_w rfl) (hb hby d20_28) (fun _ _ => ⟨rfl, e181q, (by decide : 0 + 0 ≤ _), (by decide : 0 + 0 ≤ _)⟩)
 dsimp only [Pt.U, Pt.locs, Pt.cells, Pt.slots] at X182 l182 y182 z182 st182 hQ182
 subst l182 y182 z182
 obtain ⟨rfl, N182q, K182c⟩ := hQ182
 have N182 := Fr.app N181 N182q
 refine EndsW.go (fun _ k => st182.trans k) ?_
 obtain ⟨h182, e182⟩ : ∃ z, T182.heap = z := ⟨_, rfl⟩
 rw [e182] at K182c
 have K182 := K180.trans K182c all0
 have O182 := O180.keep K182c all0
 refine winW X182 hx hby d20_31 ((if0 _ _).trans (feq (by decide : ¬ ((1 : Int32) = (0 : Int32)))).1) ?_
 refine walNW X182 hx hby d20_34 rfl rfl ?_
 obtain ⟨T183, X183, e183, st183⟩ := getF X182 hx hZ hown (host := "") (Or.inl (ow hw 27 rfl)) Via.refl e182 ((PF_b172_value.keep K180c nin0).keep K182c nin0) (g := (mkF m 35 #[cr b172, ci 0, ci 0, ci 1, ci 0] [(.ref b172)])) rfl rfl (hb hby d20_35)
 refine EndsW.go st183 ?_
 refine wilNW X183 hx hby d20_38 rfl ?_
 refine wilW X183 hx hby d20_39 rfl ?_
 obtain ⟨_, _, ⟨T186, L186, k186, n186⟩, -, X186, hSq186, hgq186, ⟨Lc186, hQ186, l186, y186, z186⟩, st186⟩ := callSS X183 hx (y := ym22) hown (ov hZ hw 99 rfl) (ov hZ hw 100 rfl) (ov hZ hw 61 rfl) (ov hZ hw 101 rfl) (by decide) (own_backOfS (W := 0) (rx23_184 l Z a0 hw [] n0 h182 O182 G1 G3 GF b174 ) hZ (ow hw 101 rfl) (ow hw 61 rfl) (by decide) (by decide) hI) (g := (mkF m 41 #[cr b172, ci 0, ci 0, ci 1, ci 0] [(.int 0), (.int 0), (.ref b174)])) rfl (by rw [hml]; rfl) (argsL := [(.ref b174), (.int 0), (.int 0)]) (rest := []) (lenOf pdx_16 rfl) rfl (own_w rfl) (hb hby d20_41) (fun _ _ => ⟨rfl, e183, (by decide : 0 + 2 ≤ _), (by decide : 0 + 4 ≤ _)⟩)
 dsimp only [Pt.U, Pt.locs, Pt.cells, Pt.slots] at X186 l186 y186 z186 st186 hQ186 hSq186 hgq186
 subst l186 y186 z186
 have hS186 := foldS hS0 (Nat.le_trans (Nat.le_trans (Nat.le_trans hk0 K180c.1) K182c.1) (Nat.le_of_eq (congrArg Array.size e183.symm))) hSq186 hgq186
 have hZ : Z.Warmed39 (s.setVm T186.vm).vm := State.Warmed39.trans (t := s.setVm s.vm) hZ hSq186.1
 have hown : (s.setVm T186.vm).vm.findClass "java/lang/String" = some m.cls := by rw [show (s.setVm T186.vm).vm = T186.vm from rfl, hSq186.1.alike.findClass]; exact hown
 obtain ⟨k187, a188, a189, rfl, N186q, K186c, Y186_0, Y186_1, Y186_2, Y186_3⟩ := hQ186
 have N186 := Fr.app N182 N186q
 refine EndsW.go (fun _ k => st186.trans k) ?_
 obtain ⟨h186, e186⟩ : ∃ z, T186.heap = z := ⟨_, rfl⟩
 rw [e186] at K186c Y186_0 Y186_1 Y186_2 Y186_3
 have K186 := K182.trans K186c all0
 refine wgoW (pc := 44) (pc' := 57) X186 hx hby d20_44 ?_
 refine EndsW.ret (s := s) (vm := T186.vm) X186 hx hS186 (Nat.le_trans (Nat.le_of_eq (congrArg Array.size e186)) (Nat.le_of_eq (congrArg Array.size e186.symm))) Bd.notSynchronized (t := (.object cST)) Bd.returns rfl (Or.inr (Or.inr (Or.inr (Or.inr ⟨rfl, rfl, rfl⟩)))) (hb hby d20_57) (by decide) (by decide) ?_
 rw [e186]
 exact ⟨k187, a188, a189, rfl, N186, K186, Y186_0, Y186_1, Y186_2, Y186_3⟩

theorem d6_23 : decode prog_33_method_5_code 23 = .ok (.aload_n 0, 1) := by decide +kernel
theorem d6_24 : decode prog_33_method_5_code 24 = .ok (.iconst 0, 1) := by decide +kernel
theorem d6_25 : decode prog_33_method_5_code 25 = .ok (.iload_n 1, 1) := by decide +kernel
theorem d6_26 : decode prog_33_method_5_code 26 = .ok (.invokevirtual 42, 3) := by decide +kernel
theorem pdx_17 : parseMethodDescriptor "(II)Ljava/lang/String;" = some ⟨[.int, .int], some (.object "java/lang/String")⟩ := by decide +kernel
theorem rx6_177 (l : Launch) (Z : State) (a0 : Array Value) (hw : HW a0 Z) (ws : List Jvm.Cond) (n0 : Nat) (h0 : Heap) (O0 : Old Z n0 h0) (G1 : Int32) (G3 : Value) (GF : GlobF Z a0 G1 G3) (b172 : Addr) (b174 : Addr) (k176 : ClassId) (c0_ : Int32) (PF_b172_value : Fld Z h0 b172 cST "value" "[B" (.ref b174)) (PE_b172 : Exa Z h0 b172 cST) (PF_b172_coder : Fld Z h0 b172 cST "coder" "B" (.int 0)) (PV_b174 : Arv Z h0 b174 k176 .byte (1 : Int32) [(yb c0_)] (.int 0)) (hq0_ : c0_ = (46 : Int32)) (hc0_ : 0 ≤ c0_.toInt ∧ c0_.toInt < 256) :
  Meets1W l ym18 prog_33_method_5_code 2 (some (.object cST)) ws (mkR 5 2 4 93) #[(.ref b172)] Z h0 true (fun v h L => ∃ (k191 : ClassId) (a192 : Addr) (a193 : Addr), v = some (.ref a192) ∧ Fr n0 L ∧ Keep h0 h [] ∧ Exa Z h a192 cST ∧ Fld Z h a192 cST "coder" "B" (.int 0) ∧ Fld Z h a192 cST "value" "[B" (.ref a193) ∧ Arv Z h a193 k191 .byte (0 : Int32) [] (.int 0)) := by
 refine MetFree.of_bodySF (plainFor_of_name pn6) hisR ?_
 intro p e s m args below meth c s₁ Bd hml0 hP hK
 obtain ⟨rfl, hZ, hh, hI⟩ := hP
 have hx := Bd.exec
 have hby := Bd.bytes
 have hml : c.maxLocals = 2 := hml0
 have hown : s.vm.findClass "com/example/wakeline/wakeline/format/shareplex/SharePlexMessage" = some m.cls := findClass_of_methodNamed Bd.named
 have X0 : Stand p l e (mkR 5 2 4 93) s m #[(.ref b172)] below meth c s₁ [] 0 0 := Stand.of_body Bd
 have e0 : s₁.heap = h0 := by rw [← hh, Bd.state]; rfl
 have N0 := Fr.nil n0
 have hS0 := own_since0 s
 have hk0 : s.heap.size ≤ h0.size := Nat.le_of_eq (congrArg Array.size hh)
 show EndsW _ _ _ _ s₁ (entryFrame m #[(.ref b172)] 2) (mkR 5 2 4 93).cells (mkR 5 2 4 93).slots (fun v h L => ∃ (k191 : ClassId) (a192 : Addr) (a193 : Addr), v = some (.ref a192) ∧ Fr n0 L ∧ Keep h0 h [] ∧ Exa Z h a192 cST ∧ Fld Z h a192 cST "coder" "B" (.int 0) ∧ Fld Z h a192 cST "value" "[B" (.ref a193) ∧ Arv Z h a193 k191 .byte (0 : Int32) [] (.int 0))
 refine EndsW.go (fun _ k => castTop (ef6_r m b172) k) ?_
 obtain ⟨SCS, P5, SSF, RG3, HC1, HC2, HCW⟩ := id GF
 have K0 := Keep.refl h0 []
 show EndsW _ _ _ _ s₁ (mkF m 0 #[cr b172, cu] []) _ _ _
 refine walNW X0 hx hby d6_0 rfl rfl ?_
 refine .go (fun _ => XS.ifnonnullYes X0.here hx rfl (pc0 := 1) (pc' := 8) rfl (hb hby d6_1) rfl (by decide) (by decide)) ?_
 refine walNW X0 hx hby d6_8 rfl rfl ?_
 refine wbpW X0 hx hby d6_9 ?_
 obtain ⟨cq178, kq178, q178a, q178b, q178c⟩ := isOf hZ e0 PE_b172
 obtain ⟨_, _, ⟨T178, L178, k178, n178⟩, -, X178, ⟨Lc178, hQ178, l178, y178, z178⟩, st178⟩ := X0.virtualBack hx (y := ym13) (z := ym13) hown (ov hZ hw 33 rfl) (ov hZ hw 34 rfl) (notFace_of_selects (args := #[]) (ov hZ hw 36 rfl)) (ov hZ hw 36 rfl) (ov hZ hw 35 rfl) (by decide) (own_backOf (W := 0) (rmI7_1 l Z a0 hw [] n0 h0 O0 G1 G3 GF b172 b174 k176 c0_ PE_b172 PF_b172_value PF_b172_coder PV_b174) hZ (ow hw 37 rfl) (ow hw 10 rfl) (by decide) (by decide)) q178a q178c (g := (mkF m 11 #[cr b172, cu] [(.int 46), (.ref b172)])) rfl (by rw [hml]; rfl) (Steps.refl _) (argsL := [(.int 46)]) (rest := []) (lenOf pdx_10 rfl) rfl (own_w rfl) (hb hby d6_11) (fun _ _ => ⟨rfl, e0, (by decide : 0 + 0 ≤ _), (by decide : 0 + 0 ≤ _)⟩)
 dsimp only [Pt.U, Pt.locs, Pt.cells, Pt.slots] at X178 l178 y178 z178 st178 hQ178
 subst l178 y178 z178
 obtain ⟨r178, rfl, N178q, K178c, hr178⟩ := hQ178
 have N178 := Fr.app N0 N178q
 refine EndsW.go (fun _ k => st178.trans k) ?_
 obtain ⟨h178, e178⟩ : ∃ z, T178.heap = z := ⟨_, rfl⟩
 rw [e178] at K178c
 have K178 := K0.trans K178c all0
 have O178 := O0.keep K178c all0
 obtain rfl : r178 = 0 := hr178.elim (fun z => z.1) (fun z => absurd ((own_b46 hc0_).mpr hq0_) z.2)
 refine wstNW X178 hx hby d6_14 (l' := #[cr b172, ci 0]) rfl ?_
 refine wilNW X178 hx hby d6_15 rfl ?_
 refine wiyW (pc := 16) (pc' := 23) X178 hx hby d6_16 ((if0 _ _).trans (flt (by decide : ¬ ((0 : Int32) < (0 : Int32)))).2.1) ?_
 refine walNW X178 hx hby d6_23 rfl rfl ?_
 refine wicW X178 hx hby d6_24 ?_
 refine wilNW X178 hx hby d6_25 rfl ?_
 obtain ⟨cq190, kq190, q190a, q190b, q190c⟩ := isOf hZ e178 (PE_b172.keep K178c)
 obtain ⟨_, _, ⟨T190, L190, k190, n190⟩, -, X190, hSq190, hgq190, ⟨Lc190, hQ190, l190, y190, z190⟩, st190⟩ := X178.virtualBackS hx (y := ym23) (z := ym23) hown (ov hZ hw 86 rfl) (ov hZ hw 87 rfl) (notFace_of_selects (args := #[]) (ov hZ hw 89 rfl)) (ov hZ hw 89 rfl) (ov hZ hw 88 rfl) (by decide) (own_backOfS (W := 0) (rx20_179 l Z a0 hw [] n0 h178 O178 G1 G3 GF b172 b174 k176 c0_ (PF_b172_value.keep K178c nin0) (PV_b174.keep K178c nin0) (PF_b172_coder.keep K178c nin0) (PE_b172.keep K178c)) hZ (ow hw 90 rfl) (ow hw 10 rfl) (by decide) (by decide) hI) q190a q190c (g := (mkF m 26 #[cr b172, ci 0] [(.int 0), (.int 0), (.ref b172)])) rfl (by rw [hml]; rfl) (Steps.refl _) (argsL := [(.int 0), (.int 0)]) (rest := []) (lenOf pdx_17 rfl) rfl (own_w rfl) (hb hby d6_26) (fun _ _ => ⟨rfl, e178, (by decide : 0 + 2 ≤ _), (by decide : 0 + 4 ≤ _)⟩)
 dsimp only [Pt.U, Pt.locs, Pt.cells, Pt.slots] at X190 l190 y190 z190 st190 hQ190 hSq190 hgq190
 subst l190 y190 z190
 have hS190 := foldS hS0 (Nat.le_trans (Nat.le_trans hk0 K178c.1) (Nat.le_of_eq (congrArg Array.size e178.symm))) hSq190 hgq190
 have hZ : Z.Warmed39 (s.setVm T190.vm).vm := State.Warmed39.trans (t := s.setVm s.vm) hZ hSq190.1
 have hown : (s.setVm T190.vm).vm.findClass "com/example/wakeline/wakeline/format/shareplex/SharePlexMessage" = some m.cls := by rw [show (s.setVm T190.vm).vm = T190.vm from rfl, hSq190.1.alike.findClass]; exact hown
 obtain ⟨k191, a192, a193, rfl, N190q, K190c, Y190_0, Y190_1, Y190_2, Y190_3⟩ := hQ190
 have N190 := Fr.app N178 N190q
 refine EndsW.go (fun _ k => st190.trans k) ?_
 obtain ⟨h190, e190⟩ : ∃ z, T190.heap = z := ⟨_, rfl⟩
 rw [e190] at K190c Y190_0 Y190_1 Y190_2 Y190_3
 have K190 := K178.trans K190c all0
 refine EndsW.ret (s := s) (vm := T190.vm) X190 hx hS190 (Nat.le_trans (Nat.le_of_eq (congrArg Array.size e190)) (Nat.le_of_eq (congrArg Array.size e190.symm))) Bd.notSynchronized (t := (.object cST)) Bd.returns rfl (Or.inr (Or.inr (Or.inr (Or.inr ⟨rfl, rfl, rfl⟩)))) (hb hby d6_29) (by decide) (by decide) ?_
 rw [e190]
 exact ⟨k191, a192, a193, rfl, N190, K190, Y190_0, Y190_1, Y190_2, Y190_3⟩

theorem rx6_206 (l : Launch) (Z : State) (a0 : Array Value) (hw : HW a0 Z) (ws : List Jvm.Cond) (n0 : Nat) (h0 : Heap) (O0 : Old Z n0 h0) (G1 : Int32) (G3 : Value) (GF : GlobF Z a0 G1 G3) (b201 : Addr) (b203 : Addr) (k205 : ClassId) (c0_ : Int32) (PF_b201_value : Fld Z h0 b201 cST "value" "[B" (.ref b203)) (PE_b201 : Exa Z h0 b201 cST) (PF_b201_coder : Fld Z h0 b201 cST "coder" "B" (.int 0)) (PV_b203 : Arv Z h0 b203 k205 .byte (1 : Int32) [(yb c0_)] (.int 0)) (hq0_ : ¬ (c0_ = (46 : Int32))) (hc0_ : 0 ≤ c0_.toInt ∧ c0_.toInt < 256) :
  Meets1 l ym18 prog_33_method_5_code 2 (some (.object cST)) ws (mkR 5 0 0 93) #[(.ref b201)] Z h0 (fun v h L => v = some .null ∧ Fr n0 L ∧ Keep h0 h []) := by
 refine MetFree.of_bodySF (plainFor_of_name pn6) hisR ?_
 intro p e s m args below meth c s₁ Bd hml0 hP hK
 obtain ⟨rfl, hZ, hh⟩ := hP
 have hx := Bd.exec
 have hby := Bd.bytes
 have hml : c.maxLocals = 2 := hml0
 have hown : s.vm.findClass "com/example/wakeline/wakeline/format/shareplex/SharePlexMessage" = some m.cls := findClass_of_methodNamed Bd.named
 have X0 : Stand p l e (mkR 5 0 0 93) s m #[(.ref b201)] below meth c s₁ [] 0 0 := Stand.of_body Bd
 have e0 : s₁.heap = h0 := by rw [← hh, Bd.state]; rfl
 have N0 := Fr.nil n0
 show Ends _ _ _ _ s₁ (entryFrame m #[(.ref b201)] 2) (mkR 5 0 0 93).cells (mkR 5 0 0 93).slots (fun v h L => v = some .null ∧ Fr n0 L ∧ Keep h0 h [])
 refine Ends.go (fun _ k => castTop (ef6_r m b201) k) ?_
 obtain ⟨SCS, P5, SSF, RG3, HC1, HC2, HCW⟩ := id GF
 have K0 := Keep.refl h0 []
 show Ends _ _ _ _ s₁ (mkF m 0 #[cr b201, cu] []) _ _ _
 refine walN X0 hx hby d6_0 rfl rfl ?_
 refine .go (fun _ => XS.ifnonnullYes X0.here hx rfl (pc0 := 1) (pc' := 8) rfl (hb hby d6_1) rfl (by decide) (by decide)) ?_
 refine walN X0 hx hby d6_8 rfl rfl ?_
 refine wbp X0 hx hby d6_9 ?_
 obtain ⟨cq207, kq207, q207a, q207b, q207c⟩ := isOf hZ e0 PE_b201
 obtain ⟨_, _, ⟨T207, L207, k207, n207⟩, -, X207, ⟨Lc207, hQ207, l207, y207, z207⟩, st207⟩ := X0.virtualBack hx (y := ym13) (z := ym13) hown (ov hZ hw 33 rfl) (ov hZ hw 34 rfl) (notFace_of_selects (args := #[]) (ov hZ hw 36 rfl)) (ov hZ hw 36 rfl) (ov hZ hw 35 rfl) (by decide) (own_backOf (W := 0) (rmI7_1 l Z a0 hw [] n0 h0 O0 G1 G3 GF b201 b203 k205 c0_ PE_b201 PF_b201_value PF_b201_coder PV_b203) hZ (ow hw 37 rfl) (ow hw 10 rfl) (by decide) (by decide)) q207a q207c (g := (mkF m 11 #[cr b201, cu] [(.int 46), (.ref b201)])) rfl (by rw [hml]; rfl) (Steps.refl _) (argsL := [(.int 46)]) (rest := []) (lenOf pdx_10 rfl) rfl (own_w rfl) (hb hby d6_11) (fun _ _ => ⟨rfl, e0, (by decide : 0 + 0 ≤ _), (by decide : 0 + 0 ≤ _)⟩)
 dsimp only [Pt.U, Pt.locs, Pt.cells, Pt.slots] at X207 l207 y207 z207 st207 hQ207
 subst l207 y207 z207
 obtain ⟨r207, rfl, N207q, K207c, hr207⟩ := hQ207
 have N207 := Fr.app N0 N207q
 refine Ends.go (fun _ k => st207.trans k) ?_
 obtain ⟨h207, e207⟩ : ∃ z, T207.heap = z := ⟨_, rfl⟩
 rw [e207] at K207c
 have K207 := K0.trans K207c all0
 obtain rfl : r207 = -1 := hr207.elim (fun z => absurd z.2 (fun q => hq0_ ((own_b46 hc0_).mp q))) (fun z => z.1)
 refine wstN X207 hx hby d6_14 (l' := #[cr b201, ci (-1)]) rfl ?_
 refine wilN X207 hx hby d6_15 rfl ?_
 refine win X207 hx hby d6_16 ((if0 _ _).trans (tlt (by decide : (-1 : Int32) < (0 : Int32))).2.1) ?_
 refine .go (fun _ => XS.aconstNull X207.here hx rfl (hb hby d6_19)) ?_
 refine wgo (pc := 20) (pc' := 29) X207 hx hby d6_20 ?_
 refine Ends.ret X207 hx Bd.notSynchronized (t := (.object cST)) Bd.returns rfl (Or.inr (Or.inr (Or.inr (Or.inr ⟨rfl, rfl, rfl⟩)))) (hb hby d6_29) (by decide) (by decide) ?_
 rw [e207]
 exact ⟨rfl, N207, K207⟩

theorem rx17_224 (l : Launch) (Z : State) (a0 : Array Value) (hw : HW a0 Z) (ws : List Jvm.Cond) (n0 : Nat) (h0 : Heap) (O0 : Old Z n0 h0)  (b212 : Addr) (b223 : Addr) (k212 : ClassId) (c0_ : Int32) (c1_ : Int32) (k223 : ClassId) (PV_b212 : Arv Z h0 b212 k212 .char (2 : Int32) [(.int c0_), (.int c1_)] (.int 0)) (PV_b223 : Arv Z h0 b223 k223 .byte (2 : Int32) [(.int 0), (.int 0)] (.int 0)) (ne_b212_b223 : b212 ≠ b223) (g_b223 : n0 ≤ b223) (hc0_ : 0 ≤ c0_.toInt ∧ c0_.toInt < 256) (hc1_ : 0 ≤ c1_.toInt ∧ c1_.toInt < 256) :
  Meets1 l ym19 jdk_52_method_21_code 7 (some .int) ws (mkR 0 0 0 0) #[(.ref b212), (.int 0), (.ref b223), (.int 0), (.int 2)] Z h0 (fun v h L => v = some (.int 2) ∧ Fr n0 L ∧ Keep h0 h [b223] ∧ Arv Z h b223 k223 .byte (2 : Int32) [(yb c0_), (yb c1_)] (.int 0)) := by
 refine MetFree.of_bodySF (plainFor_of_name pn17) hisR ?_
 intro p e s m args below meth c s₁ Bd hml0 hP hK
 obtain ⟨rfl, hZ, hh⟩ := hP
 have hx := Bd.exec
 have hby := Bd.bytes
 have X0 : Stand p l e (mkR 0 0 0 0) s m #[(.ref b212), (.int 0), (.ref b223), (.int 0), (.int 2)] below meth c s₁ [] 0 0 := Stand.of_body Bd
 have e0 : s₁.heap = h0 := by rw [← hh, Bd.state]; rfl
 have N0 := Fr.nil n0
 show Ends _ _ _ _ s₁ (entryFrame m #[(.ref b212), (.int 0), (.ref b223), (.int 0), (.int 2)] 7) (mkR 0 0 0 0).cells (mkR 0 0 0 0).slots (fun v h L => v = some (.int 2) ∧ Fr n0 L ∧ Keep h0 h [b223] ∧ Arv Z h b223 k223 .byte (2 : Int32) [(yb c0_), (yb c1_)] (.int 0))
 refine Ends.go (fun _ k => castTop (ef17_ririi m b212 (0 : Int32) b223 (0 : Int32) (2 : Int32)) k) ?_
 have K0 := Keep.refl h0 [b223]
 show Ends _ _ _ _ s₁ (mkF m 0 #[cr b212, ci 0, cr b223, ci 0, ci 2, cu, cu] []) _ _ _
 refine wic X0 hx hby d17_0 ?_
 refine wst X0 hx hby d17_1 (l' := #[cr b212, ci 0, cr b223, ci 0, ci 2, ci 0, cu]) rfl ?_
 refine wil X0 hx hby d17_3 rfl ?_
 refine wil X0 hx hby d17_5 rfl ?_
 refine wcn X0 hx hby d17_7 (tlt (by decide : (0 : Int32) < (2 : Int32))).2.1 ?_
 refine walN X0 hx hby d17_10 rfl rfl ?_
 refine wilN X0 hx hby d17_11 rfl ?_
 obtain ⟨cl225, Ar225, q225, S225, M225, H225, G225⟩ := id PV_b212
 have hin225 := inb_of (j := (0 : Int32)) S225 ⟨by decide, by decide⟩
 refine Ends.go (X0.caload hx (j := (0 : Int32)) (v := (.int c0_)) (by rw [e0]; exact Ar225.1) (State.isArrayOf_alike hZ.alike Ar225.2.1) Ar225.2.2 hin225 (H225.at hin225 rfl) (g := (mkF m 12 #[cr b212, ci 0, cr b223, ci 0, ci 2, ci 0, cu] [(.int 0), (.ref b212)])) rfl rfl (hb hby d17_12)) ?_
 refine wst X0 hx hby d17_13 (l' := #[cr b212, ci 0, cr b223, ci 0, ci 2, ci 0, ci c0_]) rfl ?_
 refine wil X0 hx hby d17_15 rfl ?_
 refine wsp X0 hx hby d17_17 ?_
 refine wcy (pc := 20) (pc' := 26) X0 hx hby d17_20 (flt ((own_c255 hc0_) : ¬ ((255 : Int32) < c0_))).2.2.2 ?_
 refine walN X0 hx hby d17_26 rfl rfl ?_
 refine wilN X0 hx hby d17_27 rfl ?_
 refine wil X0 hx hby d17_28 rfl ?_
 refine .go (fun _ => XS.i2b X0.here hx rfl (hb hby d17_30) rfl) ?_
 obtain ⟨cl226, Ar226, q226, S226, M226, H226, G226⟩ := id PV_b223
 have hin226 := inb_of (j := (0 : Int32)) S226 ⟨by decide, by decide⟩
 obtain ⟨T226, h226, X226, e226, W226, st226⟩ := stB X0 hx hZ e0 Ar226 (j := (0 : Int32)) hin226 (g := (mkF m 31 #[cr b212, ci 0, cr b223, ci 0, ci 2, ci 0, ci c0_] [(yb c0_), (.int 0), (.ref b223)])) rfl rfl (hb hby d17_31)
 refine Ends.go st226 ?_
 have V226 : Arv Z h226 b223 k223 .byte (2 : Int32) [(.int (nar .byte (c0_.toInt8.toInt32))), (.int 0)] (.int 0) := Arv.set Ar226 q226 S226 M226 H226 G226 (fits_nar_byte _) W226 0 rfl (Nat.le_of_ble_eq_true rfl)
 rw [own_narb] at V226
 have K226 := K0.wr W226 (Or.inl (List.mem_of_getElem? (i := 0) rfl))
 have N226 := Fr.snoc X226 N0 g_b223
 refine wii X226 hx hby d17_32 (l' := #[cr b212, ci 1, cr b223, ci 0, ci 2, ci 0, ci c0_]) rfl rfl ?_
 refine wii X226 hx hby d17_35 (l' := #[cr b212, ci 1, cr b223, ci 1, ci 2, ci 0, ci c0_]) rfl rfl ?_
 refine wii X226 hx hby d17_38 (l' := #[cr b212, ci 1, cr b223, ci 1, ci 2, ci 1, ci c0_]) rfl rfl ?_
 refine wgo (pc := 41) (pc' := 3) X226 hx hby d17_41 ?_
 refine wil X226 hx hby d17_3 rfl ?_
 refine wil X226 hx hby d17_5 rfl ?_
 refine wcn X226 hx hby d17_7 (tlt (by decide : (1 : Int32) < (2 : Int32))).2.1 ?_
 refine walN X226 hx hby d17_10 rfl rfl ?_
 refine wilN X226 hx hby d17_11 rfl ?_
 obtain ⟨cl227, Ar227, q227, S227, M227, H227, G227⟩ := id (PV_b212.other W226 ne_b212_b223)
 have hin227 := inb_of (j := (1 : Int32)) S227 ⟨by decide, by decide⟩
 refine Ends.go (X226.caload hx (j := (1 : Int32)) (v := (.int c1_)) (by rw [e226]; exact Ar227.1) (State.isArrayOf_alike hZ.alike Ar227.2.1) Ar227.2.2 hin227 (H227.at hin227 rfl) (g := (mkF m 12 #[cr b212, ci 1, cr b223, ci 1, ci 2, ci 1, ci c0_] [(.int 1), (.ref b212)])) rfl rfl (hb hby d17_12)) ?_
 refine wst X226 hx hby d17_13 (l' := #[cr b212, ci 1, cr b223, ci 1, ci 2, ci 1, ci c1_]) rfl ?_
 refine wil X226 hx hby d17_15 rfl ?_
 show Ends _ _ _ _ T226 (mkF m 17 #[cr b212, ci 1, cr b223, ci 1, ci 2, ci 1, ci c1_] [(.int c1_)]) _ _ _
 refine wsp X226 hx hby d17_17 ?_
 refine wcy (pc := 20) (pc' := 26) X226 hx hby d17_20 (flt ((own_c255 hc1_) : ¬ ((255 : Int32) < c1_))).2.2.2 ?_
 refine walN X226 hx hby d17_26 rfl rfl ?_
 refine wilN X226 hx hby d17_27 rfl ?_
 refine wil X226 hx hby d17_28 rfl ?_
 refine .go (fun _ => XS.i2b X226.here hx rfl (hb hby d17_30) rfl) ?_
 obtain ⟨cl228, Ar228, q228, S228, M228, H228, G228⟩ := id V226
 have hin228 := inb_of (j := (1 : Int32)) S228 ⟨by decide, by decide⟩
 obtain ⟨T228, h228, X228, e228, W228, st228⟩ := stB X226 hx hZ e226 Ar228 (j := (1 : Int32)) hin228 (g := (mkF m 31 #[cr b212, ci 1, cr b223, ci 1, ci 2, ci 1, ci c1_] [(yb c1_), (.int 1), (.ref b223)])) rfl rfl (hb hby d17_31)
 refine Ends.go st228 ?_
 have V228 : Arv Z h228 b223 k223 .byte (2 : Int32) [(yb c0_), (.int (nar .byte (c1_.toInt8.toInt32)))] (.int 0) := Arv.set Ar228 q228 S228 M228 H228 G228 (fits_nar_byte _) W228 1 rfl (Nat.le_of_ble_eq_true rfl)
 rw [own_narb] at V228
 have K228 := K226.wr W228 (Or.inl (List.mem_of_getElem? (i := 0) rfl))
 have N228 := Fr.snoc X228 N226 g_b223
 refine wii X228 hx hby d17_32 (l' := #[cr b212, ci 2, cr b223, ci 1, ci 2, ci 1, ci c1_]) rfl rfl ?_
 refine wii X228 hx hby d17_35 (l' := #[cr b212, ci 2, cr b223, ci 2, ci 2, ci 1, ci c1_]) rfl rfl ?_
 refine wii X228 hx hby d17_38 (l' := #[cr b212, ci 2, cr b223, ci 2, ci 2, ci 2, ci c1_]) rfl rfl ?_
 refine wgo (pc := 41) (pc' := 3) X228 hx hby d17_41 ?_
 refine wil X228 hx hby d17_3 rfl ?_
 refine wil X228 hx hby d17_5 rfl ?_
 refine wcy (pc := 7) (pc' := 44) X228 hx hby d17_7 (flt (by decide : ¬ ((2 : Int32) < (2 : Int32)))).2.1 ?_
 refine wil X228 hx hby d17_44 rfl ?_
 refine Ends.ret X228 hx Bd.notSynchronized (t := .int) Bd.returns rfl (Or.inl ⟨rfl, by simp, _, rfl⟩) (hb hby d17_46) (by decide) (by decide) ?_
 rw [e228]
 exact ⟨rfl, N228, K228, V228⟩

theorem rx16_222 (l : Launch) (Z : State) (a0 : Array Value) (hw : HW a0 Z) (ws : List Jvm.Cond) (n0 : Nat) (h0 : Heap) (O0 : Old Z n0 h0)  (b212 : Addr) (k212 : ClassId) (c0_ : Int32) (c1_ : Int32) (PV_b212 : Arv Z h0 b212 k212 .char (2 : Int32) [(.int c0_), (.int c1_)] (.int 0)) (hc0_ : 0 ≤ c0_.toInt ∧ c0_.toInt < 256) (hc1_ : 0 ≤ c1_.toInt ∧ c1_.toInt < 256) :
  Meets1 l ym20 jdk_52_method_16_code 6 (some (.array .byte)) ws (mkR 1 1 2 18) #[(.ref b212), (.int 0), (.int 2)] Z h0 (fun v h L => ∃ (b223 : Addr) (k223 : ClassId), v = some (.ref b223) ∧ Fr n0 L ∧ Keep h0 h [] ∧ h0.size ≤ b223 ∧ Arv Z h b223 k223 .byte (2 : Int32) [(yb c0_), (yb c1_)] (.int 0)) := by
 refine MetFree.of_bodySF (plainFor_of_name pn16) hisR ?_
 intro p e s m args below meth c s₁ Bd hml0 hP hK
 obtain ⟨rfl, hZ, hh⟩ := hP
 have hx := Bd.exec
 have hby := Bd.bytes
 have hml : c.maxLocals = 6 := hml0
 have hown : s.vm.findClass "java/lang/StringUTF16" = some m.cls := findClass_of_methodNamed Bd.named
 have X0 : Stand p l e (mkR 1 1 2 18) s m #[(.ref b212), (.int 0), (.int 2)] below meth c s₁ [] 0 0 := Stand.of_body Bd
 have e0 : s₁.heap = h0 := by rw [← hh, Bd.state]; rfl
 have N0 := Fr.nil n0
 show Ends _ _ _ _ s₁ (entryFrame m #[(.ref b212), (.int 0), (.int 2)] 6) (mkR 1 1 2 18).cells (mkR 1 1 2 18).slots (fun v h L => ∃ (b223 : Addr) (k223 : ClassId), v = some (.ref b223) ∧ Fr n0 L ∧ Keep h0 h [] ∧ h0.size ≤ b223 ∧ Arv Z h b223 k223 .byte (2 : Int32) [(yb c0_), (yb c1_)] (.int 0))
 refine Ends.go (fun _ k => castTop (ef16_rii m b212 (0 : Int32) (2 : Int32)) k) ?_
 have K0 := Keep.refl h0 []
 show Ends _ _ _ _ s₁ (mkF m 0 #[cr b212, ci 0, ci 2, cu, cu, cu] []) _ _ _
 refine wilN X0 hx hby d16_0 rfl ?_
 obtain ⟨T223, h223, k223, X223, e223, E223, A223, st223⟩ := newP X0 hx hZ (ow hw 22 rfl) e0 (g := (mkF m 1 #[cr b212, ci 0, ci 2, cu, cu, cu] [(.int 2)])) rfl (hb hby d16_1) rfl (by decide) (cap := 2) (by decide) (by decide) (by decide) (by decide)
 obtain ⟨b223, g223⟩ : ∃ z, z = h0.size := ⟨_, rfl⟩
 rw [← g223] at A223 st223
 refine Ends.go st223 ?_
 have g_b223 : n0 ≤ b223 := Nat.le_trans (own_old_le O0) (Nat.le_of_eq g223.symm)
 have sz_b223 : h0.size ≤ b223 := Nat.le_trans K0.1 (Nat.le_of_eq g223.symm)
 have K223 := K0.ext E223
 have O223 := O0.ext E223
 have V_b223 : Arv Z h223 b223 k223 .byte (2 : Int32) [(.int 0), (.int 0)] (.int 0) := (Arv.new A223 (by decide)).pad (pad_rep [] (.int 0) 2)
 refine wasN X223 hx hby d16_3 (l' := #[cr b212, ci 0, ci 2, cr b223, cu, cu]) rfl rfl ?_
 refine walN X223 hx hby d16_4 rfl rfl ?_
 refine wilN X223 hx hby d16_5 rfl ?_
 refine walN X223 hx hby d16_6 rfl rfl ?_
 refine wic X223 hx hby d16_7 ?_
 refine wilN X223 hx hby d16_8 rfl ?_
 obtain ⟨_, _, ⟨T229, L229, k229, n229⟩, -, X229, ⟨Lc229, hQ229, l229, y229, z229⟩, st229⟩ := Jvm.LawKit.callS X223 hx (y := ym19) hown (ov hZ hw 77 rfl) (ov hZ hw 78 rfl) (ov hZ hw 75 rfl) (ov hZ hw 79 rfl) (by decide) (own_backOf (W := 0) (rx17_224 l Z a0 hw [] n0 h223 O223  b212 b223 k212 c0_ c1_ k223 (PV_b212.ext E223) V_b223 (Nat.ne_of_lt (Nat.lt_of_lt_of_le PV_b212.lt sz_b223)) g_b223 hc0_ hc1_) hZ (ow hw 79 rfl) (ow hw 75 rfl) (by decide) (by decide)) (g := (mkF m 9 #[cr b212, ci 0, ci 2, cr b223, cu, cu] [(.int 2), (.int 0), (.ref b223), (.int 0), (.ref b212)])) rfl (by rw [hml]; rfl) (argsL := [(.ref b212), (.int 0), (.ref b223), (.int 0), (.int 2)]) (rest := []) (lenOf pdx_12 rfl) rfl (own_w rfl) (hb hby d16_9) (fun _ _ => ⟨rfl, e223, (by decide : 1 + 0 ≤ _), (by decide : 2 + 0 ≤ _)⟩)
 dsimp only [Pt.U, Pt.locs, Pt.cells, Pt.slots] at X229 l229 y229 z229 st229 hQ229
 subst l229 y229 z229
 obtain ⟨rfl, N229q, K229c, Y229_0⟩ := hQ229
 have N229 := Fr.app N0 N229q
 refine Ends.go st229 ?_
 obtain ⟨h229, e229⟩ : ∃ z, T229.heap = z := ⟨_, rfl⟩
 rw [e229] at K229c Y229_0
 have K229 := K223.trans K229c (allS (Or.inr sz_b223) all0)
 refine wst X229 hx hby d16_12 (l' := #[cr b212, ci 0, ci 2, cr b223, ci 2, cu]) rfl ?_
 refine wil X229 hx hby d16_14 rfl ?_
 refine wilN X229 hx hby d16_16 rfl ?_
 refine wcy (pc := 17) (pc' := 57) X229 hx hby d16_17 (teq (by decide : (2 : Int32) = (2 : Int32))).1 ?_
 refine walN X229 hx hby d16_57 rfl rfl ?_
 refine Ends.ret X229 hx Bd.notSynchronized (t := (.array .byte)) Bd.returns rfl (Or.inr (Or.inr (Or.inr (Or.inr ⟨rfl, rfl, rfl⟩)))) (hb hby d16_58) (by decide) (by decide) ?_
 rw [e229]
 exact ⟨b223, k223, rfl, N229, K229, sz_b223, Y229_0⟩

theorem rx18_233 (l : Launch) (Z : State) (a0 : Array Value) (hw : HW a0 Z) (ws : List Jvm.Cond) (n0 : Nat) (h0 : Heap) (O0 : Old Z n0 h0)  (b231 : Addr) (k232 : ClassId) (c0_ : Int32) (c1_ : Int32) (PV_b231 : Arv Z h0 b231 k232 .byte (2 : Int32) [(yb c0_), (yb c1_)] (.int 0)) :
  Meets1 l ym21 jdk_52_method_15_code 2 (some .byte) ws (mkR 0 0 0 0) #[(.ref b231), (.int 2)] Z h0 (fun v h L => v = some (.int 0) ∧ Fr n0 L ∧ Keep h0 h []) := by
 refine MetFree.of_bodySF (plainFor_of_name pn18) hisR ?_
 intro p e s m args below meth c s₁ Bd hml0 hP hK
 obtain ⟨rfl, hZ, hh⟩ := hP
 have hx := Bd.exec
 have hby := Bd.bytes
 have X0 : Stand p l e (mkR 0 0 0 0) s m #[(.ref b231), (.int 2)] below meth c s₁ [] 0 0 := Stand.of_body Bd
 have e0 : s₁.heap = h0 := by rw [← hh, Bd.state]; rfl
 have N0 := Fr.nil n0
 show Ends _ _ _ _ s₁ (entryFrame m #[(.ref b231), (.int 2)] 2) (mkR 0 0 0 0).cells (mkR 0 0 0 0).slots (fun v h L => v = some (.int 0) ∧ Fr n0 L ∧ Keep h0 h [])
 refine Ends.go (fun _ k => castTop (ef18_ri m b231 (2 : Int32)) k) ?_
 have K0 := Keep.refl h0 []
 show Ends _ _ _ _ s₁ (mkF m 0 #[cr b231, ci 2] []) _ _ _
 refine wilN X0 hx hby d18_0 rfl ?_
 refine walN X0 hx hby d18_1 rfl rfl ?_
 obtain ⟨cl234, Ar234, q234, S234, M234, H234, G234⟩ := id PV_b231
 refine Ends.go (X0.arraylength hx (by rw [e0]; exact Ar234.1) (State.isArrayOf_alike hZ.alike Ar234.2.1) (g := (mkF m 2 #[cr b231, ci 2] [(.ref b231), (.int 2)])) rfl rfl (hb hby d18_2)) ?_
 rw [len_of S234 M234]
 refine wis X0 hx hby d18_3 ?_
 refine wbp X0 hx hby d18_4 ?_
 refine .go (fun _ => XS.iushr X0.here hx rfl (hb hby d18_6) rfl) ?_
 refine .go (fun _ => XS.i2b X0.here hx rfl (hb hby d18_7) rfl) ?_
 refine Ends.retZ X0 hx Bd.notSynchronized (t := .byte) Bd.returns (by simp) (hb hby d18_8) (by decide) (by decide) ?_
 rw [e0]
 exact ⟨rfl, N0, K0⟩

theorem rx4_219 (l : Launch) (Z : State) (a0 : Array Value) (hw : HW a0 Z) (ws : List Jvm.Cond) (n0 : Nat) (h0 : Heap) (O0 : Old Z n0 h0) (G1 : Int32) (G3 : Value) (GF : GlobF Z a0 G1 G3) (b211 : Addr) (b212 : Addr) (k212 : ClassId) (c0_ : Int32) (c1_ : Int32) (PV_b212 : Arv Z h0 b212 k212 .char (2 : Int32) [(.int c0_), (.int c1_)] (.int 0)) (PE_b211 : Exa Z h0 b211 cST) (PF_b211_coder : Fld Z h0 b211 cST "coder" "B" (.int 0)) (PF_b211_value : Fld Z h0 b211 cST "value" "[B" .null) (g_b211 : n0 ≤ b211) (hc0_ : 0 ≤ c0_.toInt ∧ c0_.toInt < 256) (hc1_ : 0 ≤ c1_.toInt ∧ c1_.toInt < 256) :
  Meets1 l ym15 jdk_42_method_149_code 6 none ws (mkR 2 1 2 35) #[(.ref b211), (.ref b212), (.int 0), (.int 2), .null] Z h0 (fun v h L => ∃ (b231 : Addr) (k232 : ClassId), v = none ∧ Fr n0 L ∧ Keep h0 h [b211] ∧ h0.size ≤ b231 ∧ Arv Z h b231 k232 .byte (2 : Int32) [(yb c0_), (yb c1_)] (.int 0) ∧ Fld Z h b211 cST "coder" "B" (.int 0) ∧ Fld Z h b211 cST "value" "[B" (.ref b231)) := by
 refine MetFree.of_bodySF (plainFor_of_name pn4) hisR ?_
 intro p e s m args below meth c s₁ Bd hml0 hP hK
 obtain ⟨rfl, hZ, hh⟩ := hP
 have hx := Bd.exec
 have hby := Bd.bytes
 have hml : c.maxLocals = 6 := hml0
 have hown : s.vm.findClass "java/lang/String" = some m.cls := findClass_of_methodNamed Bd.named
 have hnm := (name_of_methodNamed Bd.named Bd.method).1
 have X0 : Stand p l e (mkR 2 1 2 35) s m #[(.ref b211), (.ref b212), (.int 0), (.int 2), .null] below meth c s₁ [] 0 0 := Stand.of_body Bd
 have e0 : s₁.heap = h0 := by rw [← hh, Bd.state]; rfl
 have N0 := Fr.nil n0
 show Ends _ _ _ _ s₁ (entryFrame m #[(.ref b211), (.ref b212), (.int 0), (.int 2), .null] 6) (mkR 2 1 2 35).cells (mkR 2 1 2 35).slots (fun v h L => ∃ (b231 : Addr) (k232 : ClassId), v = none ∧ Fr n0 L ∧ Keep h0 h [b211] ∧ h0.size ≤ b231 ∧ Arv Z h b231 k232 .byte (2 : Int32) [(yb c0_), (yb c1_)] (.int 0) ∧ Fld Z h b211 cST "coder" "B" (.int 0) ∧ Fld Z h b211 cST "value" "[B" (.ref b231))
 refine Ends.go (fun _ k => castTop (ef4_rriin m b211 b212 (0 : Int32) (2 : Int32)) k) ?_
 obtain ⟨SCS, P5, SSF, RG3, HC1, HC2, HCW⟩ := id GF
 have K0 := Keep.refl h0 [b211]
 show Ends _ _ _ _ s₁ (mkF m 0 #[cr b211, cr b212, ci 0, ci 2, .val .null, cu] []) _ _ _
 refine walN X0 hx hby d4_0 rfl rfl ?_
 obtain ⟨T220, X220, e220, st220⟩ := initO X0 hx hZ hown (ow hw 18 rfl) (ow hw 19 rfl) (ow hw 20 rfl) e0 (g := (mkF m 1 #[cr b211, cr b212, ci 0, ci 2, .val .null, cu] [(.ref b211)])) rfl (by rw [hml]; rfl) rfl (hb hby d4_1) (by decide) (W := 0) (own_w rfl) (by decide)
 refine Ends.go st220 ?_
 refine wilN X220 hx hby d4_4 rfl ?_
 refine wiy (pc := 5) (pc' := 27) X220 hx hby d4_5 ((if0 _ _).trans (feq (by decide : ¬ ((2 : Int32) = (0 : Int32)))).2) ?_
 obtain ⟨T221, X221, e221, st221⟩ := getS2 X220 hx hZ hown (host := "") (Or.inl (ow hw 48 rfl)) Via.refl e220 (SCS.ext O0.2) (g := (mkF m 27 #[cr b211, cr b212, ci 0, ci 2, .val .null, cu] [])) rfl (hb hby d4_27)
 refine Ends.go st221 ?_
 refine win X221 hx hby d4_30 ((if0 _ _).trans (feq (P5 : ¬ (G1 = (0 : Int32)))).1) ?_
 refine walN X221 hx hby d4_33 rfl rfl ?_
 refine wilN X221 hx hby d4_34 rfl ?_
 refine wilN X221 hx hby d4_35 rfl ?_
 obtain ⟨_, _, ⟨T230, L230, k230, n230⟩, -, X230, ⟨Lc230, hQ230, l230, y230, z230⟩, st230⟩ := Jvm.LawKit.callS X221 hx (y := ym20) hown (ov hZ hw 73 rfl) (ov hZ hw 74 rfl) (ov hZ hw 75 rfl) (ov hZ hw 76 rfl) (by decide) (own_backOf (W := 0) (rx16_222 l Z a0 hw [] n0 h0 O0  b212 k212 c0_ c1_ PV_b212 hc0_ hc1_) hZ (ow hw 76 rfl) (ow hw 75 rfl) (by decide) (by decide)) (g := (mkF m 36 #[cr b211, cr b212, ci 0, ci 2, .val .null, cu] [(.int 2), (.int 0), (.ref b212)])) rfl (by rw [hml]; rfl) (argsL := [(.ref b212), (.int 0), (.int 2)]) (rest := []) (lenOf pdx_13 rfl) rfl (own_w rfl) (hb hby d4_36) (fun _ _ => ⟨rfl, e221, (by decide : 0 + 1 ≤ _), (by decide : 0 + 2 ≤ _)⟩)
 dsimp only [Pt.U, Pt.locs, Pt.cells, Pt.slots] at X230 l230 y230 z230 st230 hQ230
 subst l230 y230 z230
 obtain ⟨b231, k232, rfl, N230q, K230c, hb230_b231, Y230_0⟩ := hQ230
 have N230 := Fr.app N0 N230q
 refine Ends.go st230 ?_
 have sz_b231 : h0.size ≤ b231 := Nat.le_trans K0.1 hb230_b231
 obtain ⟨h230, e230⟩ : ∃ z, T230.heap = z := ⟨_, rfl⟩
 rw [e230] at K230c Y230_0
 have K230 := K0.trans K230c all0
 have O230 := O0.keep K230c all0
 refine was X230 hx hby d4_39 (l' := #[cr b211, cr b212, ci 0, ci 2, .val .null, cr b231]) rfl rfl ?_
 refine walN X230 hx hby d4_41 rfl rfl ?_
 refine wal X230 hx hby d4_42 rfl rfl ?_
 refine wilN X230 hx hby d4_44 rfl ?_
 obtain ⟨_, _, ⟨T235, L235, k235, n235⟩, -, X235, ⟨Lc235, hQ235, l235, y235, z235⟩, st235⟩ := Jvm.LawKit.callS X230 hx (y := ym21) hown (ov hZ hw 80 rfl) (ov hZ hw 81 rfl) (ov hZ hw 75 rfl) (ov hZ hw 82 rfl) (by decide) (own_backOf (W := 1) (rx18_233 l Z a0 hw [] n0 h230 O230  b231 k232 c0_ c1_ Y230_0) hZ (ow hw 82 rfl) (ow hw 75 rfl) (by decide) (by decide)) (g := (mkF m 45 #[cr b211, cr b212, ci 0, ci 2, .val .null, cr b231] [(.int 2), (.ref b231), (.ref b211)])) rfl (by rw [hml]; rfl) (argsL := [(.ref b231), (.int 2)]) (rest := [(.ref b211)]) (lenOf pdx_14 rfl) rfl (own_w rfl) (hb hby d4_45) (fun _ _ => ⟨rfl, e230, (by decide : 1 + 0 ≤ _), (by decide : 2 + 0 ≤ _)⟩)
 dsimp only [Pt.U, Pt.locs, Pt.cells, Pt.slots] at X235 l235 y235 z235 st235 hQ235
 subst l235 y235 z235
 obtain ⟨rfl, N235q, K235c⟩ := hQ235
 have N235 := Fr.app N230 N235q
 refine Ends.go st235 ?_
 obtain ⟨h235, e235⟩ : ∃ z, T235.heap = z := ⟨_, rfl⟩
 rw [e235] at K235c
 have K235 := K230.trans K235c all0
 obtain ⟨T236, h236, X236, e236, W236, st236⟩ := putFN X235 hx hZ hown (ow hw 28 rfl) Via.refl e235 ((PF_b211_coder.keep K230c nin0).keep K235c nin0) ((PE_b211.keep K230c).keep K235c) (Or.inr ⟨(ow hw 24 rfl), rfl, hnm⟩) (ow hw 9 rfl) (ty := .byte) (v' := (.int 0)) (by decide) rfl (by decide) (g := (mkF m 48 #[cr b211, cr b212, ci 0, ci 2, .val .null, cr b231] [(.int 0), (.ref b211)])) rfl rfl (hb hby d4_48)
 refine Ends.go st236 ?_
 have Fw236 := ((PF_b211_coder.keep K230c nin0).keep K235c nin0).same W236
 have K236 := K235.wr W236 (Or.inl (List.mem_of_getElem? (i := 0) rfl))
 have N236 := Fr.snoc X236 N235 g_b211
 refine walN X236 hx hby d4_51 rfl rfl ?_
 refine wal X236 hx hby d4_52 rfl rfl ?_
 obtain ⟨T237, h237, X237, e237, W237, st237⟩ := putF X236 hx hZ hown (host := "") (Or.inl (ow hw 27 rfl)) Via.refl e236 (((PF_b211_value.keep K230c nin0).keep K235c nin0).other W236 (Or.inr (slot_ne (Or.inr (ow hw 23 rfl)) (Or.inr (ow hw 24 rfl)) (by decide) (t := (.array .byte)) (t' := .byte) (by decide) (by decide)))) (((PE_b211.keep K230c).keep K235c).wr W236) (Or.inr ⟨(ow hw 23 rfl), rfl, hnm⟩) (ow hw 9 rfl) (ty := (.array .byte)) (by decide) rfl rfl (g := (mkF m 54 #[cr b211, cr b212, ci 0, ci 2, .val .null, cr b231] [(.ref b231), (.ref b211)])) rfl rfl (hb hby d4_54)
 refine Ends.go st237 ?_
 have Fw237 := (((PF_b211_value.keep K230c nin0).keep K235c nin0).other W236 (Or.inr (slot_ne (Or.inr (ow hw 23 rfl)) (Or.inr (ow hw 24 rfl)) (by decide) (t := (.array .byte)) (t' := .byte) (by decide) (by decide)))).same W237
 have K237 := K236.wr W237 (Or.inl (List.mem_of_getElem? (i := 0) rfl))
 have N237 := Fr.snoc X237 N236 g_b211
 refine Ends.retV X237 hx Bd.notSynchronized Bd.returns (hb hby d4_57) (by decide) (by decide) ?_
 rw [e237]
 exact ⟨b231, k232, rfl, N237, K237, sz_b231, (((Y230_0.keep K235c nin0).other W236 (Ne.symm (Nat.ne_of_lt (Nat.lt_of_lt_of_le PE_b211.lt sz_b231)))).other W237 (Ne.symm (Nat.ne_of_lt (Nat.lt_of_lt_of_le PE_b211.lt sz_b231)))), (Fw236.other W237 (Or.inr (slot_ne (Or.inr (ow hw 24 rfl)) (Or.inr (ow hw 23 rfl)) (by decide) (t := .byte) (t' := (.array .byte)) (by decide) (by decide)))), Fw237⟩

theorem rx3_217 (l : Launch) (Z : State) (a0 : Array Value) (hw : HW a0 Z) (ws : List Jvm.Cond) (n0 : Nat) (h0 : Heap) (O0 : Old Z n0 h0) (G1 : Int32) (G3 : Value) (GF : GlobF Z a0 G1 G3) (b211 : Addr) (b212 : Addr) (k212 : ClassId) (c0_ : Int32) (c1_ : Int32) (PV_b212 : Arv Z h0 b212 k212 .char (2 : Int32) [(.int c0_), (.int c1_)] (.int 0)) (PE_b211 : Exa Z h0 b211 cST) (PF_b211_coder : Fld Z h0 b211 cST "coder" "B" (.int 0)) (PF_b211_value : Fld Z h0 b211 cST "value" "[B" .null) (g_b211 : n0 ≤ b211) (hc0_ : 0 ≤ c0_.toInt ∧ c0_.toInt < 256) (hc1_ : 0 ≤ c1_.toInt ∧ c1_.toInt < 256) :
  Meets1 l ym16 jdk_42_method_3_code 2 none ws (mkR 3 1 2 52) #[(.ref b211), (.ref b212)] Z h0 (fun v h L => ∃ (b239 : Addr) (k240 : ClassId), v = none ∧ Fr n0 L ∧ Keep h0 h [b211] ∧ h0.size ≤ b239 ∧ Arv Z h b239 k240 .byte (2 : Int32) [(yb c0_), (yb c1_)] (.int 0) ∧ Fld Z h b211 cST "coder" "B" (.int 0) ∧ Fld Z h b211 cST "value" "[B" (.ref b239)) := by
 refine MetFree.of_bodySF (plainFor_of_name pn3) hisR ?_
 intro p e s m args below meth c s₁ Bd hml0 hP hK
 obtain ⟨rfl, hZ, hh⟩ := hP
 have hx := Bd.exec
 have hby := Bd.bytes
 have hml : c.maxLocals = 2 := hml0
 have hown : s.vm.findClass "java/lang/String" = some m.cls := findClass_of_methodNamed Bd.named
 have X0 : Stand p l e (mkR 3 1 2 52) s m #[(.ref b211), (.ref b212)] below meth c s₁ [] 0 0 := Stand.of_body Bd
 have e0 : s₁.heap = h0 := by rw [← hh, Bd.state]; rfl
 have N0 := Fr.nil n0
 show Ends _ _ _ _ s₁ (entryFrame m #[(.ref b211), (.ref b212)] 2) (mkR 3 1 2 52).cells (mkR 3 1 2 52).slots (fun v h L => ∃ (b239 : Addr) (k240 : ClassId), v = none ∧ Fr n0 L ∧ Keep h0 h [b211] ∧ h0.size ≤ b239 ∧ Arv Z h b239 k240 .byte (2 : Int32) [(yb c0_), (yb c1_)] (.int 0) ∧ Fld Z h b211 cST "coder" "B" (.int 0) ∧ Fld Z h b211 cST "value" "[B" (.ref b239))
 refine Ends.go (fun _ k => castTop (ef3_rr m b211 b212) k) ?_
 obtain ⟨SCS, P5, SSF, RG3, HC1, HC2, HCW⟩ := id GF
 have K0 := Keep.refl h0 [b211]
 show Ends _ _ _ _ s₁ (mkF m 0 #[cr b211, cr b212] []) _ _ _
 refine walN X0 hx hby d3_0 rfl rfl ?_
 refine walN X0 hx hby d3_1 rfl rfl ?_
 refine wic X0 hx hby d3_2 ?_
 refine walN X0 hx hby d3_3 rfl rfl ?_
 obtain ⟨cl218, Ar218, q218, S218, M218, H218, G218⟩ := id PV_b212
 refine Ends.go (X0.arraylength hx (by rw [e0]; exact Ar218.1) (State.isArrayOf_alike hZ.alike Ar218.2.1) (g := (mkF m 4 #[cr b211, cr b212] [(.ref b212), (.int 0), (.ref b212), (.ref b211)])) rfl rfl (hb hby d3_4)) ?_
 rw [len_of S218 M218]
 refine .go (fun _ => XS.aconstNull X0.here hx rfl (hb hby d3_5)) ?_
 obtain ⟨_, _, ⟨T238, L238, k238, n238⟩, -, X238, ⟨Lc238, hQ238, l238, y238, z238⟩, st238⟩ := X0.specialBack hx (y := ym15) rfl hown (ov hZ hw 14 rfl) (ov hZ hw 15 rfl) (ov hZ hw 17 rfl) (by decide) (own_backOf (W := 0) (rx4_219 l Z a0 hw [] n0 h0 O0 G1 G3 GF b211 b212 k212 c0_ c1_ PV_b212 PE_b211 PF_b211_coder PF_b211_value g_b211 hc0_ hc1_) hZ (ow hw 17 rfl) (ow hw 10 rfl) (by decide) (by decide)) (g := (mkF m 6 #[cr b211, cr b212] [.null, (.int 2), (.int 0), (.ref b212), (.ref b211)])) rfl (by rw [hml]; rfl) (Steps.refl _) (a := b211) (argsL := [(.ref b212), (.int 0), (.int 2), .null]) (rest := []) (lenOf pdx_7 rfl) rfl (own_w rfl) (hb hby d3_6) (fun _ _ => ⟨rfl, e0, (by decide : 0 + 1 ≤ _), (by decide : 0 + 2 ≤ _)⟩)
 dsimp only [Pt.U, Pt.locs, Pt.cells, Pt.slots] at X238 l238 y238 z238 st238 hQ238
 subst l238 y238 z238
 obtain ⟨b239, k240, rfl, N238q, K238c, hb238_b239, Y238_0, Y238_1, Y238_2⟩ := hQ238
 have N238 := Fr.app N0 N238q
 refine Ends.go (fun _ k => st238.trans k) ?_
 have sz_b239 : h0.size ≤ b239 := Nat.le_trans K0.1 hb238_b239
 obtain ⟨h238, e238⟩ : ∃ z, T238.heap = z := ⟨_, rfl⟩
 rw [e238] at K238c Y238_0 Y238_1 Y238_2
 have K238 := K0.trans K238c (allS (Or.inl (List.mem_of_getElem? (i := 0) rfl)) all0)
 refine Ends.retV X238 hx Bd.notSynchronized Bd.returns (hb hby d3_9) (by decide) (by decide) ?_
 rw [e238]
 exact ⟨b239, k240, rfl, N238, K238, sz_b239, Y238_0, Y238_1, Y238_2⟩

theorem d2_37 : decode method_3_code 37 = .ok (.iload_n 1, 1) := by decide +kernel
theorem d2_38 : decode method_3_code 38 = .ok (.iconst 2, 1) := by decide +kernel
theorem d2_39 : decode method_3_code 39 = .ok (.if_icmp .ne 26, 3) := by decide +kernel
theorem d2_42 : decode method_3_code 42 = .ok (.new 7, 3) := by decide +kernel
theorem d2_45 : decode method_3_code 45 = .ok (.dup, 1) := by decide +kernel
theorem d2_46 : decode method_3_code 46 = .ok (.iconst 2, 1) := by decide +kernel
theorem d2_47 : decode method_3_code 47 = .ok (.newarray .char, 2) := by decide +kernel
theorem d2_49 : decode method_3_code 49 = .ok (.dup, 1) := by decide +kernel
theorem d2_50 : decode method_3_code 50 = .ok (.iconst 0, 1) := by decide +kernel
theorem d2_51 : decode method_3_code 51 = .ok (.aload_n 0, 1) := by decide +kernel
theorem d2_52 : decode method_3_code 52 = .ok (.iconst 0, 1) := by decide +kernel
theorem d2_53 : decode method_3_code 53 = .ok (.caload, 1) := by decide +kernel
theorem d2_54 : decode method_3_code 54 = .ok (.castore, 1) := by decide +kernel
theorem d2_55 : decode method_3_code 55 = .ok (.dup, 1) := by decide +kernel
theorem d2_56 : decode method_3_code 56 = .ok (.iconst 1, 1) := by decide +kernel
theorem d2_57 : decode method_3_code 57 = .ok (.aload_n 0, 1) := by decide +kernel
theorem d2_58 : decode method_3_code 58 = .ok (.iconst 1, 1) := by decide +kernel
theorem d2_59 : decode method_3_code 59 = .ok (.caload, 1) := by decide +kernel
theorem d2_60 : decode method_3_code 60 = .ok (.castore, 1) := by decide +kernel
theorem d2_61 : decode method_3_code 61 = .ok (.invokespecial 9, 3) := by decide +kernel
theorem d2_64 : decode method_3_code 64 = .ok (.areturn, 1) := by decide +kernel
theorem rx2_210 (l : Launch) (Z : State) (a0 : Array Value) (hw : HW a0 Z) (ws : List Jvm.Cond) (n0 : Nat) (h0 : Heap) (O0 : Old Z n0 h0) (G1 : Int32) (G3 : Value) (GF : GlobF Z a0 G1 G3) (b104 : Addr) (k104 : ClassId) (c0_ : Int32) (c1_ : Int32) (c2_ : Int32) (c3_ : Int32) (PV_b104 : Arv Z h0 b104 k104 .char (4 : Int32) [(.int c0_), (.int c1_), (.int c2_), (.int c3_)] (.int 0)) (hc0_ : 0 ≤ c0_.toInt ∧ c0_.toInt < 256) (hc1_ : 0 ≤ c1_.toInt ∧ c1_.toInt < 256) :
  Meets1 l ym17 method_3_code 2 (some (.object cST)) ws (mkR 4 3 8 66) #[(.ref b104), (.int 2)] Z h0 (fun v h L => ∃ (b211 : Addr) (b212 : Addr) (b242 : Addr) (k212 : ClassId) (k243 : ClassId), v = some (.ref b211) ∧ Fr n0 L ∧ Keep h0 h [] ∧ h0.size ≤ b211 ∧ h0.size ≤ b212 ∧ h0.size ≤ b242 ∧ b211 ≠ b212 ∧ b211 ≠ b242 ∧ b212 ≠ b242 ∧ Exa Z h b211 cST ∧ Arv Z h b212 k212 .char (2 : Int32) [(.int c0_), (.int c1_)] (.int 0) ∧ Arv Z h b242 k243 .byte (2 : Int32) [(yb c0_), (yb c1_)] (.int 0) ∧ Fld Z h b211 cST "coder" "B" (.int 0) ∧ Fld Z h b211 cST "value" "[B" (.ref b242)) := by
 refine MetFree.of_bodySF (plainFor_of_name pn2) hisR ?_
 intro p e s m args below meth c s₁ Bd hml0 hP hK
 obtain ⟨rfl, hZ, hh⟩ := hP
 have hx := Bd.exec
 have hby := Bd.bytes
 have hml : c.maxLocals = 2 := hml0
 have hown : s.vm.findClass "com/example/wakeline/wakeline/format/shareplex/SharePlexMessageDatabasePinLaw" = some m.cls := findClass_of_methodNamed Bd.named
 have X0 : Stand p l e (mkR 4 3 8 66) s m #[(.ref b104), (.int 2)] below meth c s₁ [] 0 0 := Stand.of_body Bd
 have e0 : s₁.heap = h0 := by rw [← hh, Bd.state]; rfl
 have N0 := Fr.nil n0
 show Ends _ _ _ _ s₁ (entryFrame m #[(.ref b104), (.int 2)] 2) (mkR 4 3 8 66).cells (mkR 4 3 8 66).slots (fun v h L => ∃ (b211 : Addr) (b212 : Addr) (b242 : Addr) (k212 : ClassId) (k243 : ClassId), v = some (.ref b211) ∧ Fr n0 L ∧ Keep h0 h [] ∧ h0.size ≤ b211 ∧ h0.size ≤ b212 ∧ h0.size ≤ b242 ∧ b211 ≠ b212 ∧ b211 ≠ b242 ∧ b212 ≠ b242 ∧ Exa Z h b211 cST ∧ Arv Z h b212 k212 .char (2 : Int32) [(.int c0_), (.int c1_)] (.int 0) ∧ Arv Z h b242 k243 .byte (2 : Int32) [(yb c0_), (yb c1_)] (.int 0) ∧ Fld Z h b211 cST "coder" "B" (.int 0) ∧ Fld Z h b211 cST "value" "[B" (.ref b242))
 refine Ends.go (fun _ k => castTop (ef2_ri m b104 (2 : Int32)) k) ?_
 obtain ⟨SCS, P5, SSF, RG3, HC1, HC2, HCW⟩ := id GF
 have K0 := Keep.refl h0 []
 show Ends _ _ _ _ s₁ (mkF m 0 #[cr b104, ci 2] []) _ _ _
 refine wilN X0 hx hby d2_0 rfl ?_
 refine wiy (pc := 1) (pc' := 15) X0 hx hby d2_1 ((if0 _ _).trans (feq (by decide : ¬ ((2 : Int32) = (0 : Int32)))).2) ?_
 refine wilN X0 hx hby d2_15 rfl ?_
 refine wic X0 hx hby d2_16 ?_
 refine wcy (pc := 17) (pc' := 37) X0 hx hby d2_17 (feq (by decide : ¬ ((2 : Int32) = (1 : Int32)))).2 ?_
 refine wilN X0 hx hby d2_37 rfl ?_
 refine wic X0 hx hby d2_38 ?_
 refine wcn X0 hx hby d2_39 (teq (by decide : (2 : Int32) = (2 : Int32))).2 ?_
 obtain ⟨T211, h211, X211, e211, E211, A211, D211, -, st211⟩ := newO X0 hx hZ hown (ow hw 8 rfl) (ow hw 9 rfl) (ow hw 10 rfl) e0 (g := (mkF m 42 #[cr b104, ci 2] [])) rfl (hb hby d2_42) (by decide) (by decide)
 obtain ⟨b211, g211⟩ : ∃ z, z = h0.size := ⟨_, rfl⟩
 rw [← g211] at A211 D211 st211
 refine Ends.go st211 ?_
 have g_b211 : n0 ≤ b211 := Nat.le_trans (own_old_le O0) (Nat.le_of_eq g211.symm)
 have sz_b211 : h0.size ≤ b211 := Nat.le_trans K0.1 (Nat.le_of_eq g211.symm)
 have K211 := K0.ext E211
 have O211 := O0.ext E211
 have F_value_b211 : Fld Z h211 b211 cST "value" "[B" .null := D211 (Or.inr (ow hw 23 rfl)) (ty := (.array .byte)) (by decide)
 have F_coder_b211 : Fld Z h211 b211 cST "coder" "B" (.int 0) := D211 (Or.inr (ow hw 24 rfl)) (ty := .byte) (by decide)
 refine wdu X211 hx hby d2_45 rfl ?_
 refine wic X211 hx hby d2_46 ?_
 obtain ⟨T212, h212, k212, X212, e212, E212, A212, st212⟩ := newP X211 hx hZ (ow hw 0 rfl) e211 (g := (mkF m 47 #[cr b104, ci 2] [(.int 2), (.ref b211), (.ref b211)])) rfl (hb hby d2_47) rfl (by decide) (cap := 2) (by decide) (by decide) (by decide) (by decide)
 obtain ⟨b212, g212⟩ : ∃ z, z = h211.size := ⟨_, rfl⟩
 rw [← g212] at A212 st212
 refine Ends.go st212 ?_
 have g_b212 : n0 ≤ b212 := Nat.le_trans (own_old_le O211) (Nat.le_of_eq g212.symm)
 have sz_b212 : h0.size ≤ b212 := Nat.le_trans K211.1 (Nat.le_of_eq g212.symm)
 have K212 := K211.ext E212
 have O212 := O211.ext E212
 have V_b212 : Arv Z h212 b212 k212 .char (2 : Int32) [(.int 0), (.int 0)] (.int 0) := (Arv.new A212 (by decide)).pad (pad_rep [] (.int 0) 2)
 refine wdu X212 hx hby d2_49 rfl ?_
 refine wic X212 hx hby d2_50 ?_
 refine walN X212 hx hby d2_51 rfl rfl ?_
 refine wic X212 hx hby d2_52 ?_
 obtain ⟨cl213, Ar213, q213, S213, M213, H213, G213⟩ := id ((PV_b104.ext E211).ext E212)
 have hin213 := inb_of (j := (0 : Int32)) S213 ⟨by decide, by decide⟩
 refine Ends.go (X212.caload hx (j := (0 : Int32)) (v := (.int c0_)) (by rw [e212]; exact Ar213.1) (State.isArrayOf_alike hZ.alike Ar213.2.1) Ar213.2.2 hin213 (H213.at hin213 rfl) (g := (mkF m 53 #[cr b104, ci 2] [(.int 0), (.ref b104), (.int 0), (.ref b212), (.ref b212), (.ref b211), (.ref b211)])) rfl rfl (hb hby d2_53)) ?_
 obtain ⟨cl214, Ar214, q214, S214, M214, H214, G214⟩ := id V_b212
 have hin214 := inb_of (j := (0 : Int32)) S214 ⟨by decide, by decide⟩
 obtain ⟨T214, h214, X214, e214, W214, st214⟩ := stC X212 hx hZ e212 Ar214 (j := (0 : Int32)) hin214 (g := (mkF m 54 #[cr b104, ci 2] [(.int c0_), (.int 0), (.ref b212), (.ref b212), (.ref b211), (.ref b211)])) rfl rfl (hb hby d2_54)
 refine Ends.go st214 ?_
 have V214 : Arv Z h214 b212 k212 .char (2 : Int32) [(.int (nar .char c0_)), (.int 0)] (.int 0) := Arv.set Ar214 q214 S214 M214 H214 G214 (fits_nar_char _) W214 0 rfl (Nat.le_of_ble_eq_true rfl)
 rw [own_narc hc0_] at V214
 have K214 := K212.wr W214 (Or.inr sz_b212)
 have O214 := O212.wr W214 g_b212
 have N214 := Fr.snoc X214 N0 g_b212
 refine wdu X214 hx hby d2_55 rfl ?_
 refine wic X214 hx hby d2_56 ?_
 refine walN X214 hx hby d2_57 rfl rfl ?_
 refine wic X214 hx hby d2_58 ?_
 obtain ⟨cl215, Ar215, q215, S215, M215, H215, G215⟩ := id (((PV_b104.ext E211).ext E212).other W214 (Nat.ne_of_lt (Nat.lt_of_lt_of_le PV_b104.lt sz_b212)))
 have hin215 := inb_of (j := (1 : Int32)) S215 ⟨by decide, by decide⟩
 refine Ends.go (X214.caload hx (j := (1 : Int32)) (v := (.int c1_)) (by rw [e214]; exact Ar215.1) (State.isArrayOf_alike hZ.alike Ar215.2.1) Ar215.2.2 hin215 (H215.at hin215 rfl) (g := (mkF m 59 #[cr b104, ci 2] [(.int 1), (.ref b104), (.int 1), (.ref b212), (.ref b212), (.ref b211), (.ref b211)])) rfl rfl (hb hby d2_59)) ?_
 obtain ⟨cl216, Ar216, q216, S216, M216, H216, G216⟩ := id V214
 have hin216 := inb_of (j := (1 : Int32)) S216 ⟨by decide, by decide⟩
 obtain ⟨T216, h216, X216, e216, W216, st216⟩ := stC X214 hx hZ e214 Ar216 (j := (1 : Int32)) hin216 (g := (mkF m 60 #[cr b104, ci 2] [(.int c1_), (.int 1), (.ref b212), (.ref b212), (.ref b211), (.ref b211)])) rfl rfl (hb hby d2_60)
 refine Ends.go st216 ?_
 have V216 : Arv Z h216 b212 k212 .char (2 : Int32) [(.int c0_), (.int (nar .char c1_))] (.int 0) := Arv.set Ar216 q216 S216 M216 H216 G216 (fits_nar_char _) W216 1 rfl (Nat.le_of_ble_eq_true rfl)
 rw [own_narc hc1_] at V216
 have K216 := K214.wr W216 (Or.inr sz_b212)
 have O216 := O214.wr W216 g_b212
 have N216 := Fr.snoc X216 N214 g_b212
 have ne_b211_b212 : b211 ≠ b212 := Nat.ne_of_lt (Nat.lt_of_lt_of_le A211.lt (Nat.le_of_eq g212.symm))
 obtain ⟨_, _, ⟨T241, L241, k241, n241⟩, -, X241, ⟨Lc241, hQ241, l241, y241, z241⟩, st241⟩ := X216.specialBack hx (y := ym16) rfl hown (ov hZ hw 11 rfl) (ov hZ hw 12 rfl) (ov hZ hw 13 rfl) (by decide) (own_backOf (W := 1) (rx3_217 l Z a0 hw [] n0 h216 O216 G1 G3 GF b211 b212 k212 c0_ c1_ V216 (((A211.ext E212).wr W214).wr W216) (((F_coder_b211.ext E212).other W214 (Or.inl ne_b211_b212)).other W216 (Or.inl ne_b211_b212)) (((F_value_b211.ext E212).other W214 (Or.inl ne_b211_b212)).other W216 (Or.inl ne_b211_b212)) g_b211 hc0_ hc1_) hZ (ow hw 13 rfl) (ow hw 10 rfl) (by decide) (by decide)) (g := (mkF m 61 #[cr b104, ci 2] [(.ref b212), (.ref b211), (.ref b211)])) rfl (by rw [hml]; rfl) (Steps.refl _) (a := b211) (argsL := [(.ref b212)]) (rest := [(.ref b211)]) (lenOf pdx_8 rfl) rfl (own_w rfl) (hb hby d2_61) (fun _ _ => ⟨rfl, e216, (by decide : 2 + 1 ≤ _), (by decide : 6 + 2 ≤ _)⟩)
 dsimp only [Pt.U, Pt.locs, Pt.cells, Pt.slots] at X241 l241 y241 z241 st241 hQ241
 subst l241 y241 z241
 obtain ⟨b242, k243, rfl, N241q, K241c, hb241_b242, Y241_0, Y241_1, Y241_2⟩ := hQ241
 have N241 := Fr.app N216 N241q
 refine Ends.go (fun _ k => st241.trans k) ?_
 have sz_b242 : h0.size ≤ b242 := Nat.le_trans K216.1 hb241_b242
 obtain ⟨h241, e241⟩ : ∃ z, T241.heap = z := ⟨_, rfl⟩
 rw [e241] at K241c Y241_0 Y241_1 Y241_2
 have K241 := K216.trans K241c (allS (Or.inr sz_b211) all0)
 refine Ends.ret X241 hx Bd.notSynchronized (t := (.object cST)) Bd.returns rfl (Or.inr (Or.inr (Or.inr (Or.inr ⟨rfl, rfl, rfl⟩)))) (hb hby d2_64) (by decide) (by decide) ?_
 rw [e241]
 have ne_b211_b242 : b211 ≠ b242 := Nat.ne_of_lt (Nat.lt_of_lt_of_le (((A211.ext E212).wr W214).wr W216).lt hb241_b242)
 have ne_b212_b242 : b212 ≠ b242 := Nat.ne_of_lt (Nat.lt_of_lt_of_le V216.lt hb241_b242)
 exact ⟨b211, b212, b242, k212, k243, rfl, N241, K241, sz_b211, sz_b212, sz_b242, ne_b211_b212, ne_b211_b242, ne_b212_b242, ((((A211.ext E212).wr W214).wr W216).keep K241c), (V216.keep K241c (ninS (Ne.symm ne_b211_b212) nin0)), Y241_0, Y241_1, Y241_2⟩

theorem rx20_252 (l : Launch) (Z : State) (a0 : Array Value) (hw : HW a0 Z) (ws : List Jvm.Cond) (n0 : Nat) (h0 : Heap) (O0 : Old Z n0 h0) (G1 : Int32) (G3 : Value) (GF : GlobF Z a0 G1 G3) (b245 : Addr) (b247 : Addr) (k249 : ClassId) (c0_ : Int32) (c1_ : Int32) (PF_b245_value : Fld Z h0 b245 cST "value" "[B" (.ref b247)) (PV_b247 : Arv Z h0 b247 k249 .byte (2 : Int32) [(yb c0_), (yb c1_)] (.int 0)) (PF_b245_coder : Fld Z h0 b245 cST "coder" "B" (.int 0)) (PE_b245 : Exa Z h0 b245 cST) :
  Meets1W l ym23 jdk_42_method_92_code 5 (some (.object cST)) ws (mkR 2 2 4 29) #[(.ref b245), (.int 0), (.int 0)] Z h0 true (fun v h L => ∃ (k258 : ClassId) (a259 : Addr) (a260 : Addr), v = some (.ref a259) ∧ Fr n0 L ∧ Keep h0 h [] ∧ Exa Z h a259 cST ∧ Fld Z h a259 cST "coder" "B" (.int 0) ∧ Fld Z h a259 cST "value" "[B" (.ref a260) ∧ Arv Z h a260 k258 .byte (0 : Int32) [] (.int 0)) := by
 refine MetFree.of_bodySF (plainFor_of_name pn20) hisR ?_
 intro p e s m args below meth c s₁ Bd hml0 hP hK
 obtain ⟨rfl, hZ, hh, hI⟩ := hP
 have hx := Bd.exec
 have hby := Bd.bytes
 have hml : c.maxLocals = 5 := hml0
 have hown : s.vm.findClass "java/lang/String" = some m.cls := findClass_of_methodNamed Bd.named
 have X0 : Stand p l e (mkR 2 2 4 29) s m #[(.ref b245), (.int 0), (.int 0)] below meth c s₁ [] 0 0 := Stand.of_body Bd
 have e0 : s₁.heap = h0 := by rw [← hh, Bd.state]; rfl
 have N0 := Fr.nil n0
 have hS0 := own_since0 s
 have hk0 : s.heap.size ≤ h0.size := Nat.le_of_eq (congrArg Array.size hh)
 show EndsW _ _ _ _ s₁ (entryFrame m #[(.ref b245), (.int 0), (.int 0)] 5) (mkR 2 2 4 29).cells (mkR 2 2 4 29).slots (fun v h L => ∃ (k258 : ClassId) (a259 : Addr) (a260 : Addr), v = some (.ref a259) ∧ Fr n0 L ∧ Keep h0 h [] ∧ Exa Z h a259 cST ∧ Fld Z h a259 cST "coder" "B" (.int 0) ∧ Fld Z h a259 cST "value" "[B" (.ref a260) ∧ Arv Z h a260 k258 .byte (0 : Int32) [] (.int 0))
 refine EndsW.go (fun _ k => castTop (ef20_rii m b245 (0 : Int32) (0 : Int32)) k) ?_
 obtain ⟨SCS, P5, SSF, RG3, HC1, HC2, HCW⟩ := id GF
 have K0 := Keep.refl h0 []
 show EndsW _ _ _ _ s₁ (mkF m 0 #[cr b245, ci 0, ci 0, cu, cu] []) _ _ _
 refine walNW X0 hx hby d20_0 rfl rfl ?_
 obtain ⟨cq253, kq253, q253a, q253b, q253c⟩ := isOf hZ e0 PE_b245
 obtain ⟨_, _, ⟨T253, L253, k253, n253⟩, -, X253, ⟨Lc253, hQ253, l253, y253, z253⟩, st253⟩ := X0.virtualBack hx (y := ym11) (z := ym11) hown (ov hZ hw 49 rfl) (ov hZ hw 50 rfl) (notFace_of_selects (args := #[]) (ov hZ hw 52 rfl)) (ov hZ hw 52 rfl) (ov hZ hw 51 rfl) (by decide) (own_backOf (W := 0) (rx10_52 l Z a0 hw [] n0 h0 O0 G1 G3 GF b245 b247 k249 c0_ c1_ PF_b245_value PV_b247 PF_b245_coder PE_b245) hZ (ow hw 53 rfl) (ow hw 10 rfl) (by decide) (by decide)) q253a q253c (g := (mkF m 1 #[cr b245, ci 0, ci 0, cu, cu] [(.ref b245)])) rfl (by rw [hml]; rfl) (Steps.refl _) (argsL := []) (rest := []) (lenOf pdx_4 rfl) rfl (own_w rfl) (hb hby d20_1) (fun _ _ => ⟨rfl, e0, (by decide : 0 + 0 ≤ _), (by decide : 0 + 0 ≤ _)⟩)
 dsimp only [Pt.U, Pt.locs, Pt.cells, Pt.slots] at X253 l253 y253 z253 st253 hQ253
 subst l253 y253 z253
 obtain ⟨rfl, N253q, K253c⟩ := hQ253
 have N253 := Fr.app N0 N253q
 refine EndsW.go (fun _ k => st253.trans k) ?_
 obtain ⟨h253, e253⟩ : ∃ z, T253.heap = z := ⟨_, rfl⟩
 rw [e253] at K253c
 have K253 := K0.trans K253c all0
 have O253 := O0.keep K253c all0
 refine wstNW X253 hx hby d20_4 (l' := #[cr b245, ci 0, ci 0, ci 2, cu]) rfl ?_
 refine wilNW X253 hx hby d20_5 rfl ?_
 refine wilNW X253 hx hby d20_6 rfl ?_
 refine wilNW X253 hx hby d20_7 rfl ?_
 obtain ⟨_, _, ⟨T254, L254, k254, n254⟩, -, X254, ⟨Lc254, hQ254, l254, y254, z254⟩, st254⟩ := Jvm.LawKit.callS X253 hx (y := ym4) hown (ov hZ hw 91 rfl) (ov hZ hw 92 rfl) (ov hZ hw 10 rfl) (ov hZ hw 93 rfl) (by decide) (own_backOf (W := 0) (rm_checkBoundsBeginEnd l Z a0 hw [] n0 h253 O253 (0 : Int32) (0 : Int32) (2 : Int32) G1 G3 GF (by decide) (by decide) (by decide)) hZ (ow hw 93 rfl) (ow hw 10 rfl) (by decide) (by decide)) (g := (mkF m 8 #[cr b245, ci 0, ci 0, ci 2, cu] [(.int 2), (.int 0), (.int 0)])) rfl (by rw [hml]; rfl) (argsL := [(.int 0), (.int 0), (.int 2)]) (rest := []) (lenOf pdx_15 rfl) rfl (own_w rfl) (hb hby d20_8) (fun _ _ => ⟨rfl, e253, (by decide : 0 + 0 ≤ _), (by decide : 0 + 0 ≤ _)⟩)
 dsimp only [Pt.U, Pt.locs, Pt.cells, Pt.slots] at X254 l254 y254 z254 st254 hQ254
 subst l254 y254 z254
 obtain ⟨rfl, N254q, e254q⟩ := hQ254
 have N254 := Fr.app N253 N254q
 refine EndsW.go st254 ?_
 refine wilNW X254 hx hby d20_11 rfl ?_
 refine winW X254 hx hby d20_12 ((if0 _ _).trans (teq (by decide : (0 : Int32) = (0 : Int32))).2) ?_
 refine wilNW X254 hx hby d20_15 rfl ?_
 refine wilNW X254 hx hby d20_16 rfl ?_
 refine wcyW (pc := 17) (pc' := 22) X254 hx hby d20_17 (feq (by decide : ¬ ((0 : Int32) = (2 : Int32)))).2 ?_
 refine wilNW X254 hx hby d20_22 rfl ?_
 refine wilNW X254 hx hby d20_23 rfl ?_
 refine wisW X254 hx hby d20_24 ?_
 refine wstW X254 hx hby d20_25 (l' := #[cr b245, ci 0, ci 0, ci 2, ci 0]) rfl ?_
 refine walNW X254 hx hby d20_27 rfl rfl ?_
 obtain ⟨cq255, kq255, q255a, q255b, q255c⟩ := isOf hZ e254q (PE_b245.keep K253c)
 obtain ⟨_, _, ⟨T255, L255, k255, n255⟩, -, X255, ⟨Lc255, hQ255, l255, y255, z255⟩, st255⟩ := X254.virtualBack hx (y := ym9) (z := ym9) hown (ov hZ hw 43 rfl) (ov hZ hw 44 rfl) (notFace_of_selects (args := #[]) (ov hZ hw 46 rfl)) (ov hZ hw 46 rfl) (ov hZ hw 45 rfl) (by decide) (own_backOf (W := 0) (rx9_8 l Z a0 hw [] n0 h253 O253 G1 G3 GF b245 (PF_b245_coder.keep K253c nin0)) hZ (ow hw 47 rfl) (ow hw 10 rfl) (by decide) (by decide)) q255a q255c (g := (mkF m 28 #[cr b245, ci 0, ci 0, ci 2, ci 0] [(.ref b245)])) rfl (by rw [hml]; rfl) (Steps.refl _) (argsL := []) (rest := []) (lenOf pdx_2 rfl) rfl (own_w rfl) (hb hby d20_28) (fun _ _ => ⟨rfl, e254q, (by decide : 0 + 0 ≤ _), (by decide : 0 + 0 ≤ _)⟩)
 dsimp only [Pt.U, Pt.locs, Pt.cells, Pt.slots] at X255 l255 y255 z255 st255 hQ255
 subst l255 y255 z255
 obtain ⟨rfl, N255q, K255c⟩ := hQ255
 have N255 := Fr.app N254 N255q
 refine EndsW.go (fun _ k => st255.trans k) ?_
 obtain ⟨h255, e255⟩ : ∃ z, T255.heap = z := ⟨_, rfl⟩
 rw [e255] at K255c
 have K255 := K253.trans K255c all0
 have O255 := O253.keep K255c all0
 refine winW X255 hx hby d20_31 ((if0 _ _).trans (feq (by decide : ¬ ((1 : Int32) = (0 : Int32)))).1) ?_
 refine walNW X255 hx hby d20_34 rfl rfl ?_
 obtain ⟨T256, X256, e256, st256⟩ := getF X255 hx hZ hown (host := "") (Or.inl (ow hw 27 rfl)) Via.refl e255 ((PF_b245_value.keep K253c nin0).keep K255c nin0) (g := (mkF m 35 #[cr b245, ci 0, ci 0, ci 2, ci 0] [(.ref b245)])) rfl rfl (hb hby d20_35)
 refine EndsW.go st256 ?_
 refine wilNW X256 hx hby d20_38 rfl ?_
 refine wilW X256 hx hby d20_39 rfl ?_
 obtain ⟨_, _, ⟨T257, L257, k257, n257⟩, -, X257, hSq257, hgq257, ⟨Lc257, hQ257, l257, y257, z257⟩, st257⟩ := callSS X256 hx (y := ym22) hown (ov hZ hw 99 rfl) (ov hZ hw 100 rfl) (ov hZ hw 61 rfl) (ov hZ hw 101 rfl) (by decide) (own_backOfS (W := 0) (rx23_184 l Z a0 hw [] n0 h255 O255 G1 G3 GF b247 ) hZ (ow hw 101 rfl) (ow hw 61 rfl) (by decide) (by decide) hI) (g := (mkF m 41 #[cr b245, ci 0, ci 0, ci 2, ci 0] [(.int 0), (.int 0), (.ref b247)])) rfl (by rw [hml]; rfl) (argsL := [(.ref b247), (.int 0), (.int 0)]) (rest := []) (lenOf pdx_16 rfl) rfl (own_w rfl) (hb hby d20_41) (fun _ _ => ⟨rfl, e256, (by decide : 0 + 2 ≤ _), (by decide : 0 + 4 ≤ _)⟩)
 dsimp only [Pt.U, Pt.locs, Pt.cells, Pt.slots] at X257 l257 y257 z257 st257 hQ257 hSq257 hgq257
 subst l257 y257 z257
 have hS257 := foldS hS0 (Nat.le_trans (Nat.le_trans (Nat.le_trans hk0 K253c.1) K255c.1) (Nat.le_of_eq (congrArg Array.size e256.symm))) hSq257 hgq257
 have hZ : Z.Warmed39 (s.setVm T257.vm).vm := State.Warmed39.trans (t := s.setVm s.vm) hZ hSq257.1
 have hown : (s.setVm T257.vm).vm.findClass "java/lang/String" = some m.cls := by rw [show (s.setVm T257.vm).vm = T257.vm from rfl, hSq257.1.alike.findClass]; exact hown
 obtain ⟨k258, a259, a260, rfl, N257q, K257c, Y257_0, Y257_1, Y257_2, Y257_3⟩ := hQ257
 have N257 := Fr.app N255 N257q
 refine EndsW.go (fun _ k => st257.trans k) ?_
 obtain ⟨h257, e257⟩ : ∃ z, T257.heap = z := ⟨_, rfl⟩
 rw [e257] at K257c Y257_0 Y257_1 Y257_2 Y257_3
 have K257 := K255.trans K257c all0
 refine wgoW (pc := 44) (pc' := 57) X257 hx hby d20_44 ?_
 refine EndsW.ret (s := s) (vm := T257.vm) X257 hx hS257 (Nat.le_trans (Nat.le_of_eq (congrArg Array.size e257)) (Nat.le_of_eq (congrArg Array.size e257.symm))) Bd.notSynchronized (t := (.object cST)) Bd.returns rfl (Or.inr (Or.inr (Or.inr (Or.inr ⟨rfl, rfl, rfl⟩)))) (hb hby d20_57) (by decide) (by decide) ?_
 rw [e257]
 exact ⟨k258, a259, a260, rfl, N257, K257, Y257_0, Y257_1, Y257_2, Y257_3⟩

theorem rx6_250 (l : Launch) (Z : State) (a0 : Array Value) (hw : HW a0 Z) (ws : List Jvm.Cond) (n0 : Nat) (h0 : Heap) (O0 : Old Z n0 h0) (G1 : Int32) (G3 : Value) (GF : GlobF Z a0 G1 G3) (b245 : Addr) (b247 : Addr) (k249 : ClassId) (c0_ : Int32) (c1_ : Int32) (PF_b245_value : Fld Z h0 b245 cST "value" "[B" (.ref b247)) (PE_b245 : Exa Z h0 b245 cST) (PF_b245_coder : Fld Z h0 b245 cST "coder" "B" (.int 0)) (PV_b247 : Arv Z h0 b247 k249 .byte (2 : Int32) [(yb c0_), (yb c1_)] (.int 0)) (hq0_ : c0_ = (46 : Int32)) (hc0_ : 0 ≤ c0_.toInt ∧ c0_.toInt < 256) :
  Meets1W l ym18 prog_33_method_5_code 2 (some (.object cST)) ws (mkR 5 2 4 93) #[(.ref b245)] Z h0 true (fun v h L => ∃ (k262 : ClassId) (a263 : Addr) (a264 : Addr), v = some (.ref a263) ∧ Fr n0 L ∧ Keep h0 h [] ∧ Exa Z h a263 cST ∧ Fld Z h a263 cST "coder" "B" (.int 0) ∧ Fld Z h a263 cST "value" "[B" (.ref a264) ∧ Arv Z h a264 k262 .byte (0 : Int32) [] (.int 0)) := by
 refine MetFree.of_bodySF (plainFor_of_name pn6) hisR ?_
 intro p e s m args below meth c s₁ Bd hml0 hP hK
 obtain ⟨rfl, hZ, hh, hI⟩ := hP
 have hx := Bd.exec
 have hby := Bd.bytes
 have hml : c.maxLocals = 2 := hml0
 have hown : s.vm.findClass "com/example/wakeline/wakeline/format/shareplex/SharePlexMessage" = some m.cls := findClass_of_methodNamed Bd.named
 have X0 : Stand p l e (mkR 5 2 4 93) s m #[(.ref b245)] below meth c s₁ [] 0 0 := Stand.of_body Bd
 have e0 : s₁.heap = h0 := by rw [← hh, Bd.state]; rfl
 have N0 := Fr.nil n0
 have hS0 := own_since0 s
 have hk0 : s.heap.size ≤ h0.size := Nat.le_of_eq (congrArg Array.size hh)
 show EndsW _ _ _ _ s₁ (entryFrame m #[(.ref b245)] 2) (mkR 5 2 4 93).cells (mkR 5 2 4 93).slots (fun v h L => ∃ (k262 : ClassId) (a263 : Addr) (a264 : Addr), v = some (.ref a263) ∧ Fr n0 L ∧ Keep h0 h [] ∧ Exa Z h a263 cST ∧ Fld Z h a263 cST "coder" "B" (.int 0) ∧ Fld Z h a263 cST "value" "[B" (.ref a264) ∧ Arv Z h a264 k262 .byte (0 : Int32) [] (.int 0))
 refine EndsW.go (fun _ k => castTop (ef6_r m b245) k) ?_
 obtain ⟨SCS, P5, SSF, RG3, HC1, HC2, HCW⟩ := id GF
 have K0 := Keep.refl h0 []
 show EndsW _ _ _ _ s₁ (mkF m 0 #[cr b245, cu] []) _ _ _
 refine walNW X0 hx hby d6_0 rfl rfl ?_
 refine .go (fun _ => XS.ifnonnullYes X0.here hx rfl (pc0 := 1) (pc' := 8) rfl (hb hby d6_1) rfl (by decide) (by decide)) ?_
 refine walNW X0 hx hby d6_8 rfl rfl ?_
 refine wbpW X0 hx hby d6_9 ?_
 obtain ⟨cq251, kq251, q251a, q251b, q251c⟩ := isOf hZ e0 PE_b245
 obtain ⟨_, _, ⟨T251, L251, k251, n251⟩, -, X251, ⟨Lc251, hQ251, l251, y251, z251⟩, st251⟩ := X0.virtualBack hx (y := ym13) (z := ym13) hown (ov hZ hw 33 rfl) (ov hZ hw 34 rfl) (notFace_of_selects (args := #[]) (ov hZ hw 36 rfl)) (ov hZ hw 36 rfl) (ov hZ hw 35 rfl) (by decide) (own_backOf (W := 0) (rmI7_2 l Z a0 hw [] n0 h0 O0 G1 G3 GF b245 b247 k249 c0_ c1_ PE_b245 PF_b245_value PF_b245_coder PV_b247) hZ (ow hw 37 rfl) (ow hw 10 rfl) (by decide) (by decide)) q251a q251c (g := (mkF m 11 #[cr b245, cu] [(.int 46), (.ref b245)])) rfl (by rw [hml]; rfl) (Steps.refl _) (argsL := [(.int 46)]) (rest := []) (lenOf pdx_10 rfl) rfl (own_w rfl) (hb hby d6_11) (fun _ _ => ⟨rfl, e0, (by decide : 0 + 0 ≤ _), (by decide : 0 + 0 ≤ _)⟩)
 dsimp only [Pt.U, Pt.locs, Pt.cells, Pt.slots] at X251 l251 y251 z251 st251 hQ251
 subst l251 y251 z251
 obtain ⟨r251, rfl, N251q, K251c, hr251⟩ := hQ251
 have N251 := Fr.app N0 N251q
 refine EndsW.go (fun _ k => st251.trans k) ?_
 obtain ⟨h251, e251⟩ : ∃ z, T251.heap = z := ⟨_, rfl⟩
 rw [e251] at K251c
 have K251 := K0.trans K251c all0
 have O251 := O0.keep K251c all0
 obtain rfl : r251 = 0 := hr251.elim (fun z => z.1) (fun o1 => o1.elim (fun z => absurd ((own_b46 hc0_).mpr hq0_) z.2.1) (fun z => absurd ((own_b46 hc0_).mpr hq0_) z.2.1))
 refine wstNW X251 hx hby d6_14 (l' := #[cr b245, ci 0]) rfl ?_
 refine wilNW X251 hx hby d6_15 rfl ?_
 refine wiyW (pc := 16) (pc' := 23) X251 hx hby d6_16 ((if0 _ _).trans (flt (by decide : ¬ ((0 : Int32) < (0 : Int32)))).2.1) ?_
 refine walNW X251 hx hby d6_23 rfl rfl ?_
 refine wicW X251 hx hby d6_24 ?_
 refine wilNW X251 hx hby d6_25 rfl ?_
 obtain ⟨cq261, kq261, q261a, q261b, q261c⟩ := isOf hZ e251 (PE_b245.keep K251c)
 obtain ⟨_, _, ⟨T261, L261, k261, n261⟩, -, X261, hSq261, hgq261, ⟨Lc261, hQ261, l261, y261, z261⟩, st261⟩ := X251.virtualBackS hx (y := ym23) (z := ym23) hown (ov hZ hw 86 rfl) (ov hZ hw 87 rfl) (notFace_of_selects (args := #[]) (ov hZ hw 89 rfl)) (ov hZ hw 89 rfl) (ov hZ hw 88 rfl) (by decide) (own_backOfS (W := 0) (rx20_252 l Z a0 hw [] n0 h251 O251 G1 G3 GF b245 b247 k249 c0_ c1_ (PF_b245_value.keep K251c nin0) (PV_b247.keep K251c nin0) (PF_b245_coder.keep K251c nin0) (PE_b245.keep K251c)) hZ (ow hw 90 rfl) (ow hw 10 rfl) (by decide) (by decide) hI) q261a q261c (g := (mkF m 26 #[cr b245, ci 0] [(.int 0), (.int 0), (.ref b245)])) rfl (by rw [hml]; rfl) (Steps.refl _) (argsL := [(.int 0), (.int 0)]) (rest := []) (lenOf pdx_17 rfl) rfl (own_w rfl) (hb hby d6_26) (fun _ _ => ⟨rfl, e251, (by decide : 0 + 2 ≤ _), (by decide : 0 + 4 ≤ _)⟩)
 dsimp only [Pt.U, Pt.locs, Pt.cells, Pt.slots] at X261 l261 y261 z261 st261 hQ261 hSq261 hgq261
 subst l261 y261 z261
 have hS261 := foldS hS0 (Nat.le_trans (Nat.le_trans hk0 K251c.1) (Nat.le_of_eq (congrArg Array.size e251.symm))) hSq261 hgq261
 have hZ : Z.Warmed39 (s.setVm T261.vm).vm := State.Warmed39.trans (t := s.setVm s.vm) hZ hSq261.1
 have hown : (s.setVm T261.vm).vm.findClass "com/example/wakeline/wakeline/format/shareplex/SharePlexMessage" = some m.cls := by rw [show (s.setVm T261.vm).vm = T261.vm from rfl, hSq261.1.alike.findClass]; exact hown
 obtain ⟨k262, a263, a264, rfl, N261q, K261c, Y261_0, Y261_1, Y261_2, Y261_3⟩ := hQ261
 have N261 := Fr.app N251 N261q
 refine EndsW.go (fun _ k => st261.trans k) ?_
 obtain ⟨h261, e261⟩ : ∃ z, T261.heap = z := ⟨_, rfl⟩
 rw [e261] at K261c Y261_0 Y261_1 Y261_2 Y261_3
 have K261 := K251.trans K261c all0
 refine EndsW.ret (s := s) (vm := T261.vm) X261 hx hS261 (Nat.le_trans (Nat.le_of_eq (congrArg Array.size e261)) (Nat.le_of_eq (congrArg Array.size e261.symm))) Bd.notSynchronized (t := (.object cST)) Bd.returns rfl (Or.inr (Or.inr (Or.inr (Or.inr ⟨rfl, rfl, rfl⟩)))) (hb hby d6_29) (by decide) (by decide) ?_
 rw [e261]
 exact ⟨k262, a263, a264, rfl, N261, K261, Y261_0, Y261_1, Y261_2, Y261_3⟩

theorem d26_0 : decode jdk_65_method_131_code 0 = .ok (.iload_n 1, 1) := by decide +kernel
theorem d26_1 : decode jdk_65_method_131_code 1 = .ok (.iload_n 0, 1) := by decide +kernel
theorem d26_2 : decode jdk_65_method_131_code 2 = .ok (.if_icmp .ge 35, 3) := by decide +kernel
theorem d26_37 : decode jdk_65_method_131_code 37 = .ok (.return_, 1) := by decide +kernel
theorem pn26 : plainName "java/util/Arrays" = true := by first | (simp [plainName, overriddenIn]; done) | decide +kernel
theorem ef26_ii (m : MethodId) (x0 : Int32) (x1 : Int32) : entryFrame m #[(.int x0), (.int x1)] 2 = mkF m 0 #[.val (.int x0), .val (.int x1)] [] := by first | (simp [entryFrame, mkF, argsToLocals, Value.category]; done) | rfl
theorem rx26_289 (l : Launch) (Z : State) (a0 : Array Value) (hw : HW a0 Z) (ws : List Jvm.Cond) (n0 : Nat) (h0 : Heap) (O0 : Old Z n0 h0)    :
  Meets1 l ym24 jdk_65_method_131_code 2 none ws (mkR 0 0 0 0) #[(.int 0), (.int 1)] Z h0 (fun v h L => v = none ∧ Fr n0 L ∧ Keep h0 h []) := by
 refine MetFree.of_bodySF (plainFor_of_name pn26) hisR ?_
 intro p e s m args below meth c s₁ Bd hml0 hP hK
 obtain ⟨rfl, hZ, hh⟩ := hP
 have hx := Bd.exec
 have hby := Bd.bytes
 have X0 : Stand p l e (mkR 0 0 0 0) s m #[(.int 0), (.int 1)] below meth c s₁ [] 0 0 := Stand.of_body Bd
 have e0 : s₁.heap = h0 := by rw [← hh, Bd.state]; rfl
 have N0 := Fr.nil n0
 show Ends _ _ _ _ s₁ (entryFrame m #[(.int 0), (.int 1)] 2) (mkR 0 0 0 0).cells (mkR 0 0 0 0).slots (fun v h L => v = none ∧ Fr n0 L ∧ Keep h0 h [])
 refine Ends.go (fun _ k => castTop (ef26_ii m (0 : Int32) (1 : Int32)) k) ?_
 have K0 := Keep.refl h0 []
 show Ends _ _ _ _ s₁ (mkF m 0 #[ci 0, ci 1] []) _ _ _
 refine wilN X0 hx hby d26_0 rfl ?_
 refine wilN X0 hx hby d26_1 rfl ?_
 refine wcy (pc := 2) (pc' := 37) X0 hx hby d26_2 (flt (by decide : ¬ ((1 : Int32) < (0 : Int32)))).2.1 ?_
 refine Ends.retV X0 hx Bd.notSynchronized Bd.returns (hb hby d26_37) (by decide) (by decide) ?_
 rw [e0]
 exact ⟨rfl, N0, K0⟩

theorem d15_9 : decode jdk_29_method_69_code 9 = .ok (.iload_n 1, 1) := by decide +kernel
theorem pdx_18 : parseMethodDescriptor "(II)V" = some ⟨[.int, .int], none⟩ := by decide +kernel
theorem rx15_293 (l : Launch) (Z : State) (a0 : Array Value) (hw : HW a0 Z) (ws : List Jvm.Cond) (n0 : Nat) (h0 : Heap) (O0 : Old Z n0 h0)    :
  Meets1 l ym7 jdk_29_method_69_code 2 (some .int) ws (mkR 0 0 0 0) #[(.int 2), (.int 1)] Z h0 (fun v h L => v = some (.int 1) ∧ Fr n0 L ∧ Keep h0 h []) := by
 refine MetFree.of_bodySF (Jvm.Free.JP.mathPlain rfl (by decide +kernel)) hisR ?_
 intro p e s m args below meth c s₁ Bd hml0 hP hK
 obtain ⟨rfl, hZ, hh⟩ := hP
 have hx := Bd.exec
 have hby := Bd.bytes
 have X0 : Stand p l e (mkR 0 0 0 0) s m #[(.int 2), (.int 1)] below meth c s₁ [] 0 0 := Stand.of_body Bd
 have e0 : s₁.heap = h0 := by rw [← hh, Bd.state]; rfl
 have N0 := Fr.nil n0
 show Ends _ _ _ _ s₁ (entryFrame m #[(.int 2), (.int 1)] 2) (mkR 0 0 0 0).cells (mkR 0 0 0 0).slots (fun v h L => v = some (.int 1) ∧ Fr n0 L ∧ Keep h0 h [])
 refine Ends.go (fun _ k => castTop (ef15_ii m (2 : Int32) (1 : Int32)) k) ?_
 have K0 := Keep.refl h0 []
 show Ends _ _ _ _ s₁ (mkF m 0 #[ci 2, ci 1] []) _ _ _
 refine wilN X0 hx hby d15_0 rfl ?_
 refine wilN X0 hx hby d15_1 rfl ?_
 refine wcy (pc := 2) (pc' := 9) X0 hx hby d15_2 (tlt (by decide : (1 : Int32) < (2 : Int32))).2.2.1 ?_
 refine wilN X0 hx hby d15_9 rfl ?_
 refine Ends.ret X0 hx Bd.notSynchronized (t := .int) Bd.returns rfl (Or.inl ⟨rfl, by simp, _, rfl⟩) (hb hby d15_10) (by decide) (by decide) ?_
 rw [e0]
 exact ⟨rfl, N0, K0⟩

theorem d25_0 : decode jdk_65_method_133_code 0 = .ok (.iload_n 1, 1) := by decide +kernel
theorem d25_1 : decode jdk_65_method_133_code 1 = .ok (.iload_n 2, 1) := by decide +kernel
theorem d25_2 : decode jdk_65_method_133_code 2 = .ok (.invokestatic 343, 3) := by decide +kernel
theorem d25_5 : decode jdk_65_method_133_code 5 = .ok (.iload_n 2, 1) := by decide +kernel
theorem d25_6 : decode jdk_65_method_133_code 6 = .ok (.iload_n 1, 1) := by decide +kernel
theorem d25_7 : decode jdk_65_method_133_code 7 = .ok (.isub, 1) := by decide +kernel
theorem d25_8 : decode jdk_65_method_133_code 8 = .ok (.istore_n 3, 1) := by decide +kernel
theorem d25_9 : decode jdk_65_method_133_code 9 = .ok (.iload_n 3, 1) := by decide +kernel
theorem d25_10 : decode jdk_65_method_133_code 10 = .ok (.newarray .byte, 2) := by decide +kernel
theorem d25_12 : decode jdk_65_method_133_code 12 = .ok (.astore 4, 2) := by decide +kernel
theorem d25_14 : decode jdk_65_method_133_code 14 = .ok (.aload_n 0, 1) := by decide +kernel
theorem d25_15 : decode jdk_65_method_133_code 15 = .ok (.iload_n 1, 1) := by decide +kernel
theorem d25_16 : decode jdk_65_method_133_code 16 = .ok (.aload 4, 2) := by decide +kernel
theorem d25_18 : decode jdk_65_method_133_code 18 = .ok (.iconst 0, 1) := by decide +kernel
theorem d25_19 : decode jdk_65_method_133_code 19 = .ok (.aload_n 0, 1) := by decide +kernel
theorem d25_20 : decode jdk_65_method_133_code 20 = .ok (.arraylength, 1) := by decide +kernel
theorem d25_21 : decode jdk_65_method_133_code 21 = .ok (.iload_n 1, 1) := by decide +kernel
theorem d25_22 : decode jdk_65_method_133_code 22 = .ok (.isub, 1) := by decide +kernel
theorem d25_23 : decode jdk_65_method_133_code 23 = .ok (.iload_n 3, 1) := by decide +kernel
theorem d25_24 : decode jdk_65_method_133_code 24 = .ok (.invokestatic 304, 3) := by decide +kernel
theorem d25_27 : decode jdk_65_method_133_code 27 = .ok (.invokestatic 150, 3) := by decide +kernel
theorem d25_30 : decode jdk_65_method_133_code 30 = .ok (.aload 4, 2) := by decide +kernel
theorem d25_32 : decode jdk_65_method_133_code 32 = .ok (.areturn, 1) := by decide +kernel
theorem pn25 : plainName "java/util/Arrays" = true := by first | (simp [plainName, overriddenIn]; done) | decide +kernel
theorem ef25_rii (m : MethodId) (x0 : Addr) (x1 : Int32) (x2 : Int32) : entryFrame m #[(.ref x0), (.int x1), (.int x2)] 5 = mkF m 0 #[.val (.ref x0), .val (.int x1), .val (.int x2), .unset, .unset] [] := by first | (simp [entryFrame, mkF, argsToLocals, Value.category]; done) | rfl
theorem rx25_288 (l : Launch) (Z : State) (a0 : Array Value) (hw : HW a0 Z) (ws : List Jvm.Cond) (n0 : Nat) (h0 : Heap) (O0 : Old Z n0 h0)  (b274 : Addr) (k276 : ClassId) (c0_ : Int32) (c1_ : Int32) (PV_b274 : Arv Z h0 b274 k276 .byte (2 : Int32) [(yb c0_), (yb c1_)] (.int 0)) :
  Meets1 l ym25 jdk_65_method_133_code 5 (some (.array .byte)) ws (mkR 1 1 1 40) #[(.ref b274), (.int 0), (.int 1)] Z h0 (fun v h L => ∃ (b291 : Addr) (k291 : ClassId), v = some (.ref b291) ∧ Fr n0 L ∧ Keep h0 h [] ∧ h0.size ≤ b291 ∧ Arv Z h b291 k291 .byte (1 : Int32) [(yb c0_)] (.int 0)) := by
 refine MetFree.of_bodySF (plainFor_of_name pn25) hisR ?_
 intro p e s m args below meth c s₁ Bd hml0 hP hK
 obtain ⟨rfl, hZ, hh⟩ := hP
 have hx := Bd.exec
 have hby := Bd.bytes
 have hml : c.maxLocals = 5 := hml0
 have hown : s.vm.findClass "java/util/Arrays" = some m.cls := findClass_of_methodNamed Bd.named
 have X0 : Stand p l e (mkR 1 1 1 40) s m #[(.ref b274), (.int 0), (.int 1)] below meth c s₁ [] 0 0 := Stand.of_body Bd
 have e0 : s₁.heap = h0 := by rw [← hh, Bd.state]; rfl
 have N0 := Fr.nil n0
 show Ends _ _ _ _ s₁ (entryFrame m #[(.ref b274), (.int 0), (.int 1)] 5) (mkR 1 1 1 40).cells (mkR 1 1 1 40).slots (fun v h L => ∃ (b291 : Addr) (k291 : ClassId), v = some (.ref b291) ∧ Fr n0 L ∧ Keep h0 h [] ∧ h0.size ≤ b291 ∧ Arv Z h b291 k291 .byte (1 : Int32) [(yb c0_)] (.int 0))
 refine Ends.go (fun _ k => castTop (ef25_rii m b274 (0 : Int32) (1 : Int32)) k) ?_
 have K0 := Keep.refl h0 []
 show Ends _ _ _ _ s₁ (mkF m 0 #[cr b274, ci 0, ci 1, cu, cu] []) _ _ _
 refine wilN X0 hx hby d25_0 rfl ?_
 refine wilN X0 hx hby d25_1 rfl ?_
 obtain ⟨_, _, ⟨T290, L290, k290, n290⟩, -, X290, ⟨Lc290, hQ290, l290, y290, z290⟩, st290⟩ := Jvm.LawKit.callS X0 hx (y := ym24) hown (ov hZ hw 112 rfl) (ov hZ hw 113 rfl) (ov hZ hw 107 rfl) (ov hZ hw 114 rfl) (by decide) (own_backOf (W := 0) (rx26_289 l Z a0 hw [] n0 h0 O0   ) hZ (ow hw 114 rfl) (ow hw 107 rfl) (by decide) (by decide)) (g := (mkF m 2 #[cr b274, ci 0, ci 1, cu, cu] [(.int 1), (.int 0)])) rfl (by rw [hml]; rfl) (argsL := [(.int 0), (.int 1)]) (rest := []) (lenOf pdx_18 rfl) rfl (own_w rfl) (hb hby d25_2) (fun _ _ => ⟨rfl, e0, (by decide : 0 + 0 ≤ _), (by decide : 0 + 0 ≤ _)⟩)
 dsimp only [Pt.U, Pt.locs, Pt.cells, Pt.slots] at X290 l290 y290 z290 st290 hQ290
 subst l290 y290 z290
 obtain ⟨rfl, N290q, K290c⟩ := hQ290
 have N290 := Fr.app N0 N290q
 refine Ends.go st290 ?_
 obtain ⟨h290, e290⟩ : ∃ z, T290.heap = z := ⟨_, rfl⟩
 rw [e290] at K290c
 have K290 := K0.trans K290c all0
 have O290 := O0.keep K290c all0
 refine wilN X290 hx hby d25_5 rfl ?_
 refine wilN X290 hx hby d25_6 rfl ?_
 refine wis X290 hx hby d25_7 ?_
 refine wstN X290 hx hby d25_8 (l' := #[cr b274, ci 0, ci 1, ci 1, cu]) rfl ?_
 refine wilN X290 hx hby d25_9 rfl ?_
 obtain ⟨T291, h291, k291, X291, e291, E291, A291, st291⟩ := newP X290 hx hZ (ow hw 22 rfl) e290 (g := (mkF m 10 #[cr b274, ci 0, ci 1, ci 1, cu] [(.int 1)])) rfl (hb hby d25_10) rfl (by decide) (cap := 1) (by decide) (by decide) (by decide) (by decide)
 obtain ⟨b291, g291⟩ : ∃ z, z = h290.size := ⟨_, rfl⟩
 rw [← g291] at A291 st291
 refine Ends.go st291 ?_
 have g_b291 : n0 ≤ b291 := Nat.le_trans (own_old_le O290) (Nat.le_of_eq g291.symm)
 have sz_b291 : h0.size ≤ b291 := Nat.le_trans K290.1 (Nat.le_of_eq g291.symm)
 have K291 := K290.ext E291
 have O291 := O290.ext E291
 have V_b291 : Arv Z h291 b291 k291 .byte (1 : Int32) [(.int 0)] (.int 0) := (Arv.new A291 (by decide)).pad (pad_rep [] (.int 0) 1)
 refine was X291 hx hby d25_12 (l' := #[cr b274, ci 0, ci 1, ci 1, cr b291]) rfl rfl ?_
 refine walN X291 hx hby d25_14 rfl rfl ?_
 refine wilN X291 hx hby d25_15 rfl ?_
 refine wal X291 hx hby d25_16 rfl rfl ?_
 refine wic X291 hx hby d25_18 ?_
 refine walN X291 hx hby d25_19 rfl rfl ?_
 obtain ⟨cl292, Ar292, q292, S292, M292, H292, G292⟩ := id ((PV_b274.keep K290c nin0).ext E291)
 refine Ends.go (X291.arraylength hx (by rw [e291]; exact Ar292.1) (State.isArrayOf_alike hZ.alike Ar292.2.1) (g := (mkF m 20 #[cr b274, ci 0, ci 1, ci 1, cr b291] [(.ref b274), (.int 0), (.ref b291), (.int 0), (.ref b274)])) rfl rfl (hb hby d25_20)) ?_
 rw [len_of S292 M292]
 refine wilN X291 hx hby d25_21 rfl ?_
 refine wis X291 hx hby d25_22 ?_
 refine wilN X291 hx hby d25_23 rfl ?_
 obtain ⟨_, _, ⟨T294, L294, k294, n294⟩, -, X294, ⟨Lc294, hQ294, l294, y294, z294⟩, st294⟩ := Jvm.LawKit.callS X291 hx (y := ym7) hown (ov hZ hw 115 rfl) (ov hZ hw 71 rfl) (ov hZ hw 68 rfl) (ov hZ hw 72 rfl) (by decide) (own_backOf (W := 4) (rx15_293 l Z a0 hw [] n0 h291 O291   ) hZ (ow hw 72 rfl) (ow hw 68 rfl) (by decide) (by decide)) (g := (mkF m 24 #[cr b274, ci 0, ci 1, ci 1, cr b291] [(.int 1), (.int 2), (.int 0), (.ref b291), (.int 0), (.ref b274)])) rfl (by rw [hml]; rfl) (argsL := [(.int 2), (.int 1)]) (rest := [(.int 0), (.ref b291), (.int 0), (.ref b274)]) (lenOf pdx_1 rfl) rfl (own_w rfl) (hb hby d25_24) (fun _ _ => ⟨rfl, e291, (by decide : 1 + 0 ≤ _), (by decide : 1 + 0 ≤ _)⟩)
 dsimp only [Pt.U, Pt.locs, Pt.cells, Pt.slots] at X294 l294 y294 z294 st294 hQ294
 subst l294 y294 z294
 obtain ⟨rfl, N294q, K294c⟩ := hQ294
 have N294 := Fr.app N290 N294q
 refine Ends.go st294 ?_
 obtain ⟨h294, e294⟩ : ∃ z, T294.heap = z := ⟨_, rfl⟩
 rw [e294] at K294c
 have K294 := K291.trans K294c all0
 obtain ⟨T295, h295, L295, X295, e295, N295, K295c, V295, st295⟩ := cpA X294 hx hZ hown (ow hw 116 rfl) (ow hw 119 rfl) (ow hw 117 rfl) (ow hw 118 rfl) e294 (((PV_b274.keep K290c nin0).ext E291).keep K294c nin0) (V_b291.keep K294c nin0) (sp := (0 : Int32)) (dp := (0 : Int32)) (nn := (1 : Int32)) (us := [(yb c0_)]) (Or.inl ⟨rfl, rfl⟩) (by decide) (by decide) (by decide) (by decide) (by decide) rfl (by decide) N294 g_b291 (g := (mkF m 27 #[cr b274, ci 0, ci 1, ci 1, cr b291] [(.int 1), (.int 0), (.ref b291), (.int 0), (.ref b274)])) rfl (by rw [hml]; rfl) rfl (hb hby d25_27) (by decide) (W := 0) (own_w rfl) (by decide)
 refine Ends.go st295 ?_
 have K295 := K294.trans K295c (allS (Or.inr sz_b291) all0)
 have V295' : Arv Z h295 b291 k291 .byte (1 : Int32) [(yb c0_)] (.int 0) := V295
 refine wal X295 hx hby d25_30 rfl rfl ?_
 refine Ends.ret X295 hx Bd.notSynchronized (t := (.array .byte)) Bd.returns rfl (Or.inr (Or.inr (Or.inr (Or.inr ⟨rfl, rfl, rfl⟩)))) (hb hby d25_32) (by decide) (by decide) ?_
 rw [e295]
 exact ⟨b291, k291, rfl, N295, K295, sz_b291, V295'⟩

theorem d24_0 : decode jdk_65_method_132_code 0 = .ok (.iload_n 1, 1) := by decide +kernel
theorem d24_1 : decode jdk_65_method_132_code 1 = .ok (.ifCond .ne 9, 3) := by decide +kernel
theorem d24_4 : decode jdk_65_method_132_code 4 = .ok (.iload_n 2, 1) := by decide +kernel
theorem d24_5 : decode jdk_65_method_132_code 5 = .ok (.aload_n 0, 1) := by decide +kernel
theorem d24_6 : decode jdk_65_method_132_code 6 = .ok (.arraylength, 1) := by decide +kernel
theorem d24_7 : decode jdk_65_method_132_code 7 = .ok (.if_icmp .eq 10, 3) := by decide +kernel
theorem d24_10 : decode jdk_65_method_132_code 10 = .ok (.aload_n 0, 1) := by decide +kernel
theorem d24_11 : decode jdk_65_method_132_code 11 = .ok (.iload_n 1, 1) := by decide +kernel
theorem d24_12 : decode jdk_65_method_132_code 12 = .ok (.iload_n 2, 1) := by decide +kernel
theorem d24_13 : decode jdk_65_method_132_code 13 = .ok (.invokestatic 339, 3) := by decide +kernel
theorem d24_16 : decode jdk_65_method_132_code 16 = .ok (.areturn, 1) := by decide +kernel
theorem pn24 : plainName "java/util/Arrays" = true := by first | (simp [plainName, overriddenIn]; done) | decide +kernel
theorem pdx_19 : parseMethodDescriptor "([BII)[B" = some ⟨[(.array .byte), .int, .int], some (.array .byte)⟩ := by decide +kernel
theorem ef24_rii (m : MethodId) (x0 : Addr) (x1 : Int32) (x2 : Int32) : entryFrame m #[(.ref x0), (.int x1), (.int x2)] 3 = mkF m 0 #[.val (.ref x0), .val (.int x1), .val (.int x2)] [] := by first | (simp [entryFrame, mkF, argsToLocals, Value.category]; done) | rfl
theorem rx24_286 (l : Launch) (Z : State) (a0 : Array Value) (hw : HW a0 Z) (ws : List Jvm.Cond) (n0 : Nat) (h0 : Heap) (O0 : Old Z n0 h0)  (b274 : Addr) (k276 : ClassId) (c0_ : Int32) (c1_ : Int32) (PV_b274 : Arv Z h0 b274 k276 .byte (2 : Int32) [(yb c0_), (yb c1_)] (.int 0)) :
  Meets1 l ym26 jdk_65_method_132_code 3 (some (.array .byte)) ws (mkR 2 1 1 56) #[(.ref b274), (.int 0), (.int 1)] Z h0 (fun v h L => ∃ (b297 : Addr) (k298 : ClassId), v = some (.ref b297) ∧ Fr n0 L ∧ Keep h0 h [] ∧ h0.size ≤ b297 ∧ Arv Z h b297 k298 .byte (1 : Int32) [(yb c0_)] (.int 0)) := by
 refine MetFree.of_bodySF (plainFor_of_name pn24) hisR ?_
 intro p e s m args below meth c s₁ Bd hml0 hP hK
 obtain ⟨rfl, hZ, hh⟩ := hP
 have hx := Bd.exec
 have hby := Bd.bytes
 have hml : c.maxLocals = 3 := hml0
 have hown : s.vm.findClass "java/util/Arrays" = some m.cls := findClass_of_methodNamed Bd.named
 have X0 : Stand p l e (mkR 2 1 1 56) s m #[(.ref b274), (.int 0), (.int 1)] below meth c s₁ [] 0 0 := Stand.of_body Bd
 have e0 : s₁.heap = h0 := by rw [← hh, Bd.state]; rfl
 have N0 := Fr.nil n0
 show Ends _ _ _ _ s₁ (entryFrame m #[(.ref b274), (.int 0), (.int 1)] 3) (mkR 2 1 1 56).cells (mkR 2 1 1 56).slots (fun v h L => ∃ (b297 : Addr) (k298 : ClassId), v = some (.ref b297) ∧ Fr n0 L ∧ Keep h0 h [] ∧ h0.size ≤ b297 ∧ Arv Z h b297 k298 .byte (1 : Int32) [(yb c0_)] (.int 0))
 refine Ends.go (fun _ k => castTop (ef24_rii m b274 (0 : Int32) (1 : Int32)) k) ?_
 have K0 := Keep.refl h0 []
 show Ends _ _ _ _ s₁ (mkF m 0 #[cr b274, ci 0, ci 1] []) _ _ _
 refine wilN X0 hx hby d24_0 rfl ?_
 refine win X0 hx hby d24_1 ((if0 _ _).trans (teq (by decide : (0 : Int32) = (0 : Int32))).2) ?_
 refine wilN X0 hx hby d24_4 rfl ?_
 refine walN X0 hx hby d24_5 rfl rfl ?_
 obtain ⟨cl287, Ar287, q287, S287, M287, H287, G287⟩ := id PV_b274
 refine Ends.go (X0.arraylength hx (by rw [e0]; exact Ar287.1) (State.isArrayOf_alike hZ.alike Ar287.2.1) (g := (mkF m 6 #[cr b274, ci 0, ci 1] [(.ref b274), (.int 1)])) rfl rfl (hb hby d24_6)) ?_
 rw [len_of S287 M287]
 refine wcn X0 hx hby d24_7 (feq (by decide : ¬ ((1 : Int32) = (2 : Int32)))).1 ?_
 refine walN X0 hx hby d24_10 rfl rfl ?_
 refine wilN X0 hx hby d24_11 rfl ?_
 refine wilN X0 hx hby d24_12 rfl ?_
 obtain ⟨_, _, ⟨T296, L296, k296, n296⟩, -, X296, ⟨Lc296, hQ296, l296, y296, z296⟩, st296⟩ := Jvm.LawKit.callS X0 hx (y := ym25) hown (ov hZ hw 109 rfl) (ov hZ hw 110 rfl) (ov hZ hw 107 rfl) (ov hZ hw 111 rfl) (by decide) (own_backOf (W := 0) (rx25_288 l Z a0 hw [] n0 h0 O0  b274 k276 c0_ c1_ PV_b274) hZ (ow hw 111 rfl) (ow hw 107 rfl) (by decide) (by decide)) (g := (mkF m 13 #[cr b274, ci 0, ci 1] [(.int 1), (.int 0), (.ref b274)])) rfl (by rw [hml]; rfl) (argsL := [(.ref b274), (.int 0), (.int 1)]) (rest := []) (lenOf pdx_19 rfl) rfl (own_w rfl) (hb hby d24_13) (fun _ _ => ⟨rfl, e0, (by decide : 0 + 1 ≤ _), (by decide : 0 + 1 ≤ _)⟩)
 dsimp only [Pt.U, Pt.locs, Pt.cells, Pt.slots] at X296 l296 y296 z296 st296 hQ296
 subst l296 y296 z296
 obtain ⟨b297, k298, rfl, N296q, K296c, hb296_b297, Y296_0⟩ := hQ296
 have N296 := Fr.app N0 N296q
 refine Ends.go st296 ?_
 have sz_b297 : h0.size ≤ b297 := Nat.le_trans K0.1 hb296_b297
 obtain ⟨h296, e296⟩ : ∃ z, T296.heap = z := ⟨_, rfl⟩
 rw [e296] at K296c Y296_0
 have K296 := K0.trans K296c all0
 refine Ends.ret X296 hx Bd.notSynchronized (t := (.array .byte)) Bd.returns rfl (Or.inr (Or.inr (Or.inr (Or.inr ⟨rfl, rfl, rfl⟩)))) (hb hby d24_16) (by decide) (by decide) ?_
 rw [e296]
 exact ⟨b297, k298, rfl, N296, K296, sz_b297, Y296_0⟩

theorem d27_0 : decode jdk_42_method_151_code 0 = .ok (.aload_n 0, 1) := by decide +kernel
theorem d27_1 : decode jdk_42_method_151_code 1 = .ok (.invokespecial 1, 3) := by decide +kernel
theorem d27_4 : decode jdk_42_method_151_code 4 = .ok (.aload_n 0, 1) := by decide +kernel
theorem d27_5 : decode jdk_42_method_151_code 5 = .ok (.aload_n 1, 1) := by decide +kernel
theorem d27_6 : decode jdk_42_method_151_code 6 = .ok (.putfield 9, 3) := by decide +kernel
theorem d27_9 : decode jdk_42_method_151_code 9 = .ok (.aload_n 0, 1) := by decide +kernel
theorem d27_10 : decode jdk_42_method_151_code 10 = .ok (.iload_n 2, 1) := by decide +kernel
theorem d27_11 : decode jdk_42_method_151_code 11 = .ok (.putfield 15, 3) := by decide +kernel
theorem d27_14 : decode jdk_42_method_151_code 14 = .ok (.return_, 1) := by decide +kernel
theorem pn27 : plainName "java/lang/String" = true := by first | (simp [plainName, overriddenIn]; done) | decide +kernel
theorem ef27_rri (m : MethodId) (x0 : Addr) (x1 : Addr) (x2 : Int32) : entryFrame m #[(.ref x0), (.ref x1), (.int x2)] 3 = mkF m 0 #[.val (.ref x0), .val (.ref x1), .val (.int x2)] [] := by first | (simp [entryFrame, mkF, argsToLocals, Value.category]; done) | rfl
theorem rx27_302 (l : Launch) (Z : State) (a0 : Array Value) (hw : HW a0 Z) (ws : List Jvm.Cond) (n0 : Nat) (h0 : Heap) (O0 : Old Z n0 h0)  (b285 : Addr) (b300 : Addr) (PE_b285 : Exa Z h0 b285 cST) (PF_b285_value : Fld Z h0 b285 cST "value" "[B" .null) (PF_b285_coder : Fld Z h0 b285 cST "coder" "B" (.int 0)) (g_b285 : n0 ≤ b285) :
  Meets1 l ym27 jdk_42_method_151_code 3 none ws (mkR 1 0 0 12) #[(.ref b285), (.ref b300), (.int 0)] Z h0 (fun v h L => v = none ∧ Fr n0 L ∧ Keep h0 h [b285] ∧ Fld Z h b285 cST "value" "[B" (.ref b300) ∧ Fld Z h b285 cST "coder" "B" (.int 0)) := by
 refine MetFree.of_bodySF (plainFor_of_name pn27) hisR ?_
 intro p e s m args below meth c s₁ Bd hml0 hP hK
 obtain ⟨rfl, hZ, hh⟩ := hP
 have hx := Bd.exec
 have hby := Bd.bytes
 have hml : c.maxLocals = 3 := hml0
 have hown : s.vm.findClass "java/lang/String" = some m.cls := findClass_of_methodNamed Bd.named
 have hnm := (name_of_methodNamed Bd.named Bd.method).1
 have X0 : Stand p l e (mkR 1 0 0 12) s m #[(.ref b285), (.ref b300), (.int 0)] below meth c s₁ [] 0 0 := Stand.of_body Bd
 have e0 : s₁.heap = h0 := by rw [← hh, Bd.state]; rfl
 have N0 := Fr.nil n0
 show Ends _ _ _ _ s₁ (entryFrame m #[(.ref b285), (.ref b300), (.int 0)] 3) (mkR 1 0 0 12).cells (mkR 1 0 0 12).slots (fun v h L => v = none ∧ Fr n0 L ∧ Keep h0 h [b285] ∧ Fld Z h b285 cST "value" "[B" (.ref b300) ∧ Fld Z h b285 cST "coder" "B" (.int 0))
 refine Ends.go (fun _ k => castTop (ef27_rri m b285 b300 (0 : Int32)) k) ?_
 have K0 := Keep.refl h0 [b285]
 show Ends _ _ _ _ s₁ (mkF m 0 #[cr b285, cr b300, ci 0] []) _ _ _
 refine walN X0 hx hby d27_0 rfl rfl ?_
 obtain ⟨T303, X303, e303, st303⟩ := initO X0 hx hZ hown (ow hw 18 rfl) (ow hw 19 rfl) (ow hw 20 rfl) e0 (g := (mkF m 1 #[cr b285, cr b300, ci 0] [(.ref b285)])) rfl (by rw [hml]; rfl) rfl (hb hby d27_1) (by decide) (W := 0) (own_w rfl) (by decide)
 refine Ends.go st303 ?_
 refine walN X303 hx hby d27_4 rfl rfl ?_
 refine walN X303 hx hby d27_5 rfl rfl ?_
 obtain ⟨T304, h304, X304, e304, W304, st304⟩ := putF X303 hx hZ hown (host := "") (Or.inl (ow hw 27 rfl)) Via.refl e303 PF_b285_value PE_b285 (Or.inr ⟨(ow hw 23 rfl), rfl, hnm⟩) (ow hw 9 rfl) (ty := (.array .byte)) (by decide) rfl rfl (g := (mkF m 6 #[cr b285, cr b300, ci 0] [(.ref b300), (.ref b285)])) rfl rfl (hb hby d27_6)
 refine Ends.go st304 ?_
 have Fw304 := PF_b285_value.same W304
 have K304 := K0.wr W304 (Or.inl (List.mem_of_getElem? (i := 0) rfl))
 have N304 := Fr.snoc X304 N0 g_b285
 refine walN X304 hx hby d27_9 rfl rfl ?_
 refine wilN X304 hx hby d27_10 rfl ?_
 obtain ⟨T305, h305, X305, e305, W305, st305⟩ := putFN X304 hx hZ hown (ow hw 28 rfl) Via.refl e304 (PF_b285_coder.other W304 (Or.inr (slot_ne (Or.inr (ow hw 24 rfl)) (Or.inr (ow hw 23 rfl)) (by decide) (t := .byte) (t' := (.array .byte)) (by decide) (by decide)))) (PE_b285.wr W304) (Or.inr ⟨(ow hw 24 rfl), rfl, hnm⟩) (ow hw 9 rfl) (ty := .byte) (v' := (.int 0)) (by decide) rfl (by decide) (g := (mkF m 11 #[cr b285, cr b300, ci 0] [(.int 0), (.ref b285)])) rfl rfl (hb hby d27_11)
 refine Ends.go st305 ?_
 have Fw305 := (PF_b285_coder.other W304 (Or.inr (slot_ne (Or.inr (ow hw 24 rfl)) (Or.inr (ow hw 23 rfl)) (by decide) (t := .byte) (t' := (.array .byte)) (by decide) (by decide)))).same W305
 have K305 := K304.wr W305 (Or.inl (List.mem_of_getElem? (i := 0) rfl))
 have N305 := Fr.snoc X305 N304 g_b285
 refine Ends.retV X305 hx Bd.notSynchronized Bd.returns (hb hby d27_14) (by decide) (by decide) ?_
 rw [e305]
 exact ⟨rfl, N305, K305, (Fw304.other W305 (Or.inr (slot_ne (Or.inr (ow hw 23 rfl)) (Or.inr (ow hw 24 rfl)) (by decide) (t := (.array .byte)) (t' := .byte) (by decide) (by decide)))), Fw305⟩

theorem d23_7 : decode jdk_43_method_47_code 7 = .ok (.new 1, 3) := by decide +kernel
theorem d23_10 : decode jdk_43_method_47_code 10 = .ok (.dup, 1) := by decide +kernel
theorem d23_11 : decode jdk_43_method_47_code 11 = .ok (.aload_n 0, 1) := by decide +kernel
theorem d23_12 : decode jdk_43_method_47_code 12 = .ok (.iload_n 1, 1) := by decide +kernel
theorem d23_13 : decode jdk_43_method_47_code 13 = .ok (.iload_n 1, 1) := by decide +kernel
theorem d23_14 : decode jdk_43_method_47_code 14 = .ok (.iload_n 2, 1) := by decide +kernel
theorem d23_15 : decode jdk_43_method_47_code 15 = .ok (.iadd, 1) := by decide +kernel
theorem d23_16 : decode jdk_43_method_47_code 16 = .ok (.invokestatic 232, 3) := by decide +kernel
theorem d23_19 : decode jdk_43_method_47_code 19 = .ok (.iconst 0, 1) := by decide +kernel
theorem d23_20 : decode jdk_43_method_47_code 20 = .ok (.invokespecial 112, 3) := by decide +kernel
theorem d23_23 : decode jdk_43_method_47_code 23 = .ok (.areturn, 1) := by decide +kernel
theorem pdx_20 : parseMethodDescriptor "([BB)V" = some ⟨[(.array .byte), .byte], none⟩ := by decide +kernel
theorem rx23_284 (l : Launch) (Z : State) (a0 : Array Value) (hw : HW a0 Z) (ws : List Jvm.Cond) (n0 : Nat) (h0 : Heap) (O0 : Old Z n0 h0)  (b274 : Addr) (k276 : ClassId) (c0_ : Int32) (c1_ : Int32) (PV_b274 : Arv Z h0 b274 k276 .byte (2 : Int32) [(yb c0_), (yb c1_)] (.int 0)) :
  Meets1 l ym22 jdk_43_method_47_code 3 (some (.object cST)) ws (mkR 3 2 5 72) #[(.ref b274), (.int 0), (.int 1)] Z h0 (fun v h L => ∃ (b285 : Addr) (b300 : Addr) (k301 : ClassId), v = some (.ref b285) ∧ Fr n0 L ∧ Keep h0 h [] ∧ h0.size ≤ b285 ∧ h0.size ≤ b300 ∧ b285 ≠ b300 ∧ Exa Z h b285 cST ∧ Arv Z h b300 k301 .byte (1 : Int32) [(yb c0_)] (.int 0) ∧ Fld Z h b285 cST "value" "[B" (.ref b300) ∧ Fld Z h b285 cST "coder" "B" (.int 0)) := by
 refine MetFree.of_bodySF (plainFor_of_name pn23) hisR ?_
 intro p e s m args below meth c s₁ Bd hml0 hP hK
 obtain ⟨rfl, hZ, hh⟩ := hP
 have hx := Bd.exec
 have hby := Bd.bytes
 have hml : c.maxLocals = 3 := hml0
 have hown : s.vm.findClass "java/lang/StringLatin1" = some m.cls := findClass_of_methodNamed Bd.named
 have X0 : Stand p l e (mkR 3 2 5 72) s m #[(.ref b274), (.int 0), (.int 1)] below meth c s₁ [] 0 0 := Stand.of_body Bd
 have e0 : s₁.heap = h0 := by rw [← hh, Bd.state]; rfl
 have N0 := Fr.nil n0
 show Ends _ _ _ _ s₁ (entryFrame m #[(.ref b274), (.int 0), (.int 1)] 3) (mkR 3 2 5 72).cells (mkR 3 2 5 72).slots (fun v h L => ∃ (b285 : Addr) (b300 : Addr) (k301 : ClassId), v = some (.ref b285) ∧ Fr n0 L ∧ Keep h0 h [] ∧ h0.size ≤ b285 ∧ h0.size ≤ b300 ∧ b285 ≠ b300 ∧ Exa Z h b285 cST ∧ Arv Z h b300 k301 .byte (1 : Int32) [(yb c0_)] (.int 0) ∧ Fld Z h b285 cST "value" "[B" (.ref b300) ∧ Fld Z h b285 cST "coder" "B" (.int 0))
 refine Ends.go (fun _ k => castTop (ef23_rii m b274 (0 : Int32) (1 : Int32)) k) ?_
 have K0 := Keep.refl h0 []
 show Ends _ _ _ _ s₁ (mkF m 0 #[cr b274, ci 0, ci 1] []) _ _ _
 refine wilN X0 hx hby d23_0 rfl ?_
 refine wiy (pc := 1) (pc' := 7) X0 hx hby d23_1 ((if0 _ _).trans (feq (by decide : ¬ ((1 : Int32) = (0 : Int32)))).2) ?_
 obtain ⟨T285, h285, X285, e285, E285, A285, D285, -, st285⟩ := newO X0 hx hZ hown (ow hw 104 rfl) (ow hw 9 rfl) (ow hw 10 rfl) e0 (g := (mkF m 7 #[cr b274, ci 0, ci 1] [])) rfl (hb hby d23_7) (by decide) (by decide)
 obtain ⟨b285, g285⟩ : ∃ z, z = h0.size := ⟨_, rfl⟩
 rw [← g285] at A285 D285 st285
 refine Ends.go st285 ?_
 have g_b285 : n0 ≤ b285 := Nat.le_trans (own_old_le O0) (Nat.le_of_eq g285.symm)
 have sz_b285 : h0.size ≤ b285 := Nat.le_trans K0.1 (Nat.le_of_eq g285.symm)
 have K285 := K0.ext E285
 have O285 := O0.ext E285
 have F_value_b285 : Fld Z h285 b285 cST "value" "[B" .null := D285 (Or.inr (ow hw 23 rfl)) (ty := (.array .byte)) (by decide)
 have F_coder_b285 : Fld Z h285 b285 cST "coder" "B" (.int 0) := D285 (Or.inr (ow hw 24 rfl)) (ty := .byte) (by decide)
 refine wdu X285 hx hby d23_10 rfl ?_
 refine walN X285 hx hby d23_11 rfl rfl ?_
 refine wilN X285 hx hby d23_12 rfl ?_
 refine wilN X285 hx hby d23_13 rfl ?_
 refine wilN X285 hx hby d23_14 rfl ?_
 refine wia X285 hx hby d23_15 ?_
 obtain ⟨_, _, ⟨T299, L299, k299, n299⟩, -, X299, ⟨Lc299, hQ299, l299, y299, z299⟩, st299⟩ := Jvm.LawKit.callS X285 hx (y := ym26) hown (ov hZ hw 105 rfl) (ov hZ hw 106 rfl) (ov hZ hw 107 rfl) (ov hZ hw 108 rfl) (by decide) (own_backOf (W := 2) (rx24_286 l Z a0 hw [] n0 h285 O285  b274 k276 c0_ c1_ (PV_b274.ext E285)) hZ (ow hw 108 rfl) (ow hw 107 rfl) (by decide) (by decide)) (g := (mkF m 16 #[cr b274, ci 0, ci 1] [(.int 1), (.int 0), (.ref b274), (.ref b285), (.ref b285)])) rfl (by rw [hml]; rfl) (argsL := [(.ref b274), (.int 0), (.int 1)]) (rest := [(.ref b285), (.ref b285)]) (lenOf pdx_19 rfl) rfl (own_w rfl) (hb hby d23_16) (fun _ _ => ⟨rfl, e285, (by decide : 1 + 1 ≤ _), (by decide : 4 + 1 ≤ _)⟩)
 dsimp only [Pt.U, Pt.locs, Pt.cells, Pt.slots] at X299 l299 y299 z299 st299 hQ299
 subst l299 y299 z299
 obtain ⟨b300, k301, rfl, N299q, K299c, hb299_b300, Y299_0⟩ := hQ299
 have N299 := Fr.app N0 N299q
 refine Ends.go st299 ?_
 have sz_b300 : h0.size ≤ b300 := Nat.le_trans K285.1 hb299_b300
 obtain ⟨h299, e299⟩ : ∃ z, T299.heap = z := ⟨_, rfl⟩
 rw [e299] at K299c Y299_0
 have K299 := K285.trans K299c all0
 have O299 := O285.keep K299c all0
 refine wic X299 hx hby d23_19 ?_
 obtain ⟨_, _, ⟨T306, L306, k306, n306⟩, -, X306, ⟨Lc306, hQ306, l306, y306, z306⟩, st306⟩ := X299.specialBack hx (y := ym27) rfl hown (ov hZ hw 120 rfl) (ov hZ hw 121 rfl) (ov hZ hw 122 rfl) (by decide) (own_backOf (W := 1) (rx27_302 l Z a0 hw [] n0 h299 O299  b285 b300 (A285.keep K299c) (F_value_b285.keep K299c nin0) (F_coder_b285.keep K299c nin0) g_b285) hZ (ow hw 122 rfl) (ow hw 10 rfl) (by decide) (by decide)) (g := (mkF m 20 #[cr b274, ci 0, ci 1] [(.int 0), (.ref b300), (.ref b285), (.ref b285)])) rfl (by rw [hml]; rfl) (Steps.refl _) (a := b285) (argsL := [(.ref b300), (.int 0)]) (rest := [(.ref b285)]) (lenOf pdx_20 rfl) rfl (own_w rfl) (hb hby d23_20) (fun _ _ => ⟨rfl, e299, (by decide : 2 + 0 ≤ _), (by decide : 5 + 0 ≤ _)⟩)
 dsimp only [Pt.U, Pt.locs, Pt.cells, Pt.slots] at X306 l306 y306 z306 st306 hQ306
 subst l306 y306 z306
 obtain ⟨rfl, N306q, K306c, Y306_0, Y306_1⟩ := hQ306
 have N306 := Fr.app N299 N306q
 refine Ends.go (fun _ k => st306.trans k) ?_
 obtain ⟨h306, e306⟩ : ∃ z, T306.heap = z := ⟨_, rfl⟩
 rw [e306] at K306c Y306_0 Y306_1
 have K306 := K299.trans K306c (allS (Or.inr sz_b285) all0)
 refine Ends.ret X306 hx Bd.notSynchronized (t := (.object cST)) Bd.returns rfl (Or.inr (Or.inr (Or.inr (Or.inr ⟨rfl, rfl, rfl⟩)))) (hb hby d23_23) (by decide) (by decide) ?_
 rw [e306]
 have ne_b285_b300 : b285 ≠ b300 := Nat.ne_of_lt (Nat.lt_of_lt_of_le A285.lt hb299_b300)
 exact ⟨b285, b300, k301, rfl, N306, K306, sz_b285, sz_b300, ne_b285_b300, ((A285.keep K299c).keep K306c), (Y299_0.keep K306c (ninS (Ne.symm ne_b285_b300) nin0)), Y306_0, Y306_1⟩

theorem rx20_279 (l : Launch) (Z : State) (a0 : Array Value) (hw : HW a0 Z) (ws : List Jvm.Cond) (n0 : Nat) (h0 : Heap) (O0 : Old Z n0 h0) (G1 : Int32) (G3 : Value) (GF : GlobF Z a0 G1 G3) (b272 : Addr) (b274 : Addr) (k276 : ClassId) (c0_ : Int32) (c1_ : Int32) (PF_b272_value : Fld Z h0 b272 cST "value" "[B" (.ref b274)) (PV_b274 : Arv Z h0 b274 k276 .byte (2 : Int32) [(yb c0_), (yb c1_)] (.int 0)) (PF_b272_coder : Fld Z h0 b272 cST "coder" "B" (.int 0)) (PE_b272 : Exa Z h0 b272 cST) :
  Meets1 l ym23 jdk_42_method_92_code 5 (some (.object cST)) ws (mkR 4 2 5 86) #[(.ref b272), (.int 0), (.int 1)] Z h0 (fun v h L => ∃ (b308 : Addr) (b309 : Addr) (k310 : ClassId), v = some (.ref b308) ∧ Fr n0 L ∧ Keep h0 h [] ∧ h0.size ≤ b308 ∧ h0.size ≤ b309 ∧ b308 ≠ b309 ∧ Exa Z h b308 cST ∧ Arv Z h b309 k310 .byte (1 : Int32) [(yb c0_)] (.int 0) ∧ Fld Z h b308 cST "value" "[B" (.ref b309) ∧ Fld Z h b308 cST "coder" "B" (.int 0)) := by
 refine MetFree.of_bodySF (plainFor_of_name pn20) hisR ?_
 intro p e s m args below meth c s₁ Bd hml0 hP hK
 obtain ⟨rfl, hZ, hh⟩ := hP
 have hx := Bd.exec
 have hby := Bd.bytes
 have hml : c.maxLocals = 5 := hml0
 have hown : s.vm.findClass "java/lang/String" = some m.cls := findClass_of_methodNamed Bd.named
 have X0 : Stand p l e (mkR 4 2 5 86) s m #[(.ref b272), (.int 0), (.int 1)] below meth c s₁ [] 0 0 := Stand.of_body Bd
 have e0 : s₁.heap = h0 := by rw [← hh, Bd.state]; rfl
 have N0 := Fr.nil n0
 show Ends _ _ _ _ s₁ (entryFrame m #[(.ref b272), (.int 0), (.int 1)] 5) (mkR 4 2 5 86).cells (mkR 4 2 5 86).slots (fun v h L => ∃ (b308 : Addr) (b309 : Addr) (k310 : ClassId), v = some (.ref b308) ∧ Fr n0 L ∧ Keep h0 h [] ∧ h0.size ≤ b308 ∧ h0.size ≤ b309 ∧ b308 ≠ b309 ∧ Exa Z h b308 cST ∧ Arv Z h b309 k310 .byte (1 : Int32) [(yb c0_)] (.int 0) ∧ Fld Z h b308 cST "value" "[B" (.ref b309) ∧ Fld Z h b308 cST "coder" "B" (.int 0))
 refine Ends.go (fun _ k => castTop (ef20_rii m b272 (0 : Int32) (1 : Int32)) k) ?_
 obtain ⟨SCS, P5, SSF, RG3, HC1, HC2, HCW⟩ := id GF
 have K0 := Keep.refl h0 []
 show Ends _ _ _ _ s₁ (mkF m 0 #[cr b272, ci 0, ci 1, cu, cu] []) _ _ _
 refine walN X0 hx hby d20_0 rfl rfl ?_
 obtain ⟨cq280, kq280, q280a, q280b, q280c⟩ := isOf hZ e0 PE_b272
 obtain ⟨_, _, ⟨T280, L280, k280, n280⟩, -, X280, ⟨Lc280, hQ280, l280, y280, z280⟩, st280⟩ := X0.virtualBack hx (y := ym11) (z := ym11) hown (ov hZ hw 49 rfl) (ov hZ hw 50 rfl) (notFace_of_selects (args := #[]) (ov hZ hw 52 rfl)) (ov hZ hw 52 rfl) (ov hZ hw 51 rfl) (by decide) (own_backOf (W := 0) (rx10_52 l Z a0 hw [] n0 h0 O0 G1 G3 GF b272 b274 k276 c0_ c1_ PF_b272_value PV_b274 PF_b272_coder PE_b272) hZ (ow hw 53 rfl) (ow hw 10 rfl) (by decide) (by decide)) q280a q280c (g := (mkF m 1 #[cr b272, ci 0, ci 1, cu, cu] [(.ref b272)])) rfl (by rw [hml]; rfl) (Steps.refl _) (argsL := []) (rest := []) (lenOf pdx_4 rfl) rfl (own_w rfl) (hb hby d20_1) (fun _ _ => ⟨rfl, e0, (by decide : 0 + 0 ≤ _), (by decide : 0 + 0 ≤ _)⟩)
 dsimp only [Pt.U, Pt.locs, Pt.cells, Pt.slots] at X280 l280 y280 z280 st280 hQ280
 subst l280 y280 z280
 obtain ⟨rfl, N280q, K280c⟩ := hQ280
 have N280 := Fr.app N0 N280q
 refine Ends.go (fun _ k => st280.trans k) ?_
 obtain ⟨h280, e280⟩ : ∃ z, T280.heap = z := ⟨_, rfl⟩
 rw [e280] at K280c
 have K280 := K0.trans K280c all0
 have O280 := O0.keep K280c all0
 refine wstN X280 hx hby d20_4 (l' := #[cr b272, ci 0, ci 1, ci 2, cu]) rfl ?_
 refine wilN X280 hx hby d20_5 rfl ?_
 refine wilN X280 hx hby d20_6 rfl ?_
 refine wilN X280 hx hby d20_7 rfl ?_
 obtain ⟨_, _, ⟨T281, L281, k281, n281⟩, -, X281, ⟨Lc281, hQ281, l281, y281, z281⟩, st281⟩ := Jvm.LawKit.callS X280 hx (y := ym4) hown (ov hZ hw 91 rfl) (ov hZ hw 92 rfl) (ov hZ hw 10 rfl) (ov hZ hw 93 rfl) (by decide) (own_backOf (W := 0) (rm_checkBoundsBeginEnd l Z a0 hw [] n0 h280 O280 (0 : Int32) (1 : Int32) (2 : Int32) G1 G3 GF (by decide) (by decide) (by decide)) hZ (ow hw 93 rfl) (ow hw 10 rfl) (by decide) (by decide)) (g := (mkF m 8 #[cr b272, ci 0, ci 1, ci 2, cu] [(.int 2), (.int 1), (.int 0)])) rfl (by rw [hml]; rfl) (argsL := [(.int 0), (.int 1), (.int 2)]) (rest := []) (lenOf pdx_15 rfl) rfl (own_w rfl) (hb hby d20_8) (fun _ _ => ⟨rfl, e280, (by decide : 0 + 0 ≤ _), (by decide : 0 + 0 ≤ _)⟩)
 dsimp only [Pt.U, Pt.locs, Pt.cells, Pt.slots] at X281 l281 y281 z281 st281 hQ281
 subst l281 y281 z281
 obtain ⟨rfl, N281q, e281q⟩ := hQ281
 have N281 := Fr.app N280 N281q
 refine Ends.go st281 ?_
 refine wilN X281 hx hby d20_11 rfl ?_
 refine win X281 hx hby d20_12 ((if0 _ _).trans (teq (by decide : (0 : Int32) = (0 : Int32))).2) ?_
 refine wilN X281 hx hby d20_15 rfl ?_
 refine wilN X281 hx hby d20_16 rfl ?_
 refine wcy (pc := 17) (pc' := 22) X281 hx hby d20_17 (feq (by decide : ¬ ((1 : Int32) = (2 : Int32)))).2 ?_
 refine wilN X281 hx hby d20_22 rfl ?_
 refine wilN X281 hx hby d20_23 rfl ?_
 refine wis X281 hx hby d20_24 ?_
 refine wst X281 hx hby d20_25 (l' := #[cr b272, ci 0, ci 1, ci 2, ci 1]) rfl ?_
 refine walN X281 hx hby d20_27 rfl rfl ?_
 obtain ⟨cq282, kq282, q282a, q282b, q282c⟩ := isOf hZ e281q (PE_b272.keep K280c)
 obtain ⟨_, _, ⟨T282, L282, k282, n282⟩, -, X282, ⟨Lc282, hQ282, l282, y282, z282⟩, st282⟩ := X281.virtualBack hx (y := ym9) (z := ym9) hown (ov hZ hw 43 rfl) (ov hZ hw 44 rfl) (notFace_of_selects (args := #[]) (ov hZ hw 46 rfl)) (ov hZ hw 46 rfl) (ov hZ hw 45 rfl) (by decide) (own_backOf (W := 0) (rx9_8 l Z a0 hw [] n0 h280 O280 G1 G3 GF b272 (PF_b272_coder.keep K280c nin0)) hZ (ow hw 47 rfl) (ow hw 10 rfl) (by decide) (by decide)) q282a q282c (g := (mkF m 28 #[cr b272, ci 0, ci 1, ci 2, ci 1] [(.ref b272)])) rfl (by rw [hml]; rfl) (Steps.refl _) (argsL := []) (rest := []) (lenOf pdx_2 rfl) rfl (own_w rfl) (hb hby d20_28) (fun _ _ => ⟨rfl, e281q, (by decide : 0 + 0 ≤ _), (by decide : 0 + 0 ≤ _)⟩)
 dsimp only [Pt.U, Pt.locs, Pt.cells, Pt.slots] at X282 l282 y282 z282 st282 hQ282
 subst l282 y282 z282
 obtain ⟨rfl, N282q, K282c⟩ := hQ282
 have N282 := Fr.app N281 N282q
 refine Ends.go (fun _ k => st282.trans k) ?_
 obtain ⟨h282, e282⟩ : ∃ z, T282.heap = z := ⟨_, rfl⟩
 rw [e282] at K282c
 have K282 := K280.trans K282c all0
 have O282 := O280.keep K282c all0
 refine win X282 hx hby d20_31 ((if0 _ _).trans (feq (by decide : ¬ ((1 : Int32) = (0 : Int32)))).1) ?_
 refine walN X282 hx hby d20_34 rfl rfl ?_
 obtain ⟨T283, X283, e283, st283⟩ := getF X282 hx hZ hown (host := "") (Or.inl (ow hw 27 rfl)) Via.refl e282 ((PF_b272_value.keep K280c nin0).keep K282c nin0) (g := (mkF m 35 #[cr b272, ci 0, ci 1, ci 2, ci 1] [(.ref b272)])) rfl rfl (hb hby d20_35)
 refine Ends.go st283 ?_
 refine wilN X283 hx hby d20_38 rfl ?_
 refine wil X283 hx hby d20_39 rfl ?_
 obtain ⟨_, _, ⟨T307, L307, k307, n307⟩, -, X307, ⟨Lc307, hQ307, l307, y307, z307⟩, st307⟩ := Jvm.LawKit.callS X283 hx (y := ym22) hown (ov hZ hw 99 rfl) (ov hZ hw 100 rfl) (ov hZ hw 61 rfl) (ov hZ hw 101 rfl) (by decide) (own_backOf (W := 0) (rx23_284 l Z a0 hw [] n0 h282 O282  b274 k276 c0_ c1_ ((PV_b274.keep K280c nin0).keep K282c nin0)) hZ (ow hw 101 rfl) (ow hw 61 rfl) (by decide) (by decide)) (g := (mkF m 41 #[cr b272, ci 0, ci 1, ci 2, ci 1] [(.int 1), (.int 0), (.ref b274)])) rfl (by rw [hml]; rfl) (argsL := [(.ref b274), (.int 0), (.int 1)]) (rest := []) (lenOf pdx_16 rfl) rfl (own_w rfl) (hb hby d20_41) (fun _ _ => ⟨rfl, e283, (by decide : 0 + 2 ≤ _), (by decide : 0 + 5 ≤ _)⟩)
 dsimp only [Pt.U, Pt.locs, Pt.cells, Pt.slots] at X307 l307 y307 z307 st307 hQ307
 subst l307 y307 z307
 obtain ⟨b308, b309, k310, rfl, N307q, K307c, hb307_b308, hb307_b309, hne307_b308_b309, Y307_0, Y307_1, Y307_2, Y307_3⟩ := hQ307
 have N307 := Fr.app N282 N307q
 refine Ends.go st307 ?_
 have sz_b308 : h0.size ≤ b308 := Nat.le_trans K282.1 hb307_b308
 have sz_b309 : h0.size ≤ b309 := Nat.le_trans K282.1 hb307_b309
 obtain ⟨h307, e307⟩ : ∃ z, T307.heap = z := ⟨_, rfl⟩
 rw [e307] at K307c Y307_0 Y307_1 Y307_2 Y307_3
 have K307 := K282.trans K307c all0
 refine wgo (pc := 44) (pc' := 57) X307 hx hby d20_44 ?_
 refine Ends.ret X307 hx Bd.notSynchronized (t := (.object cST)) Bd.returns rfl (Or.inr (Or.inr (Or.inr (Or.inr ⟨rfl, rfl, rfl⟩)))) (hb hby d20_57) (by decide) (by decide) ?_
 rw [e307]
 exact ⟨b308, b309, k310, rfl, N307, K307, sz_b308, sz_b309, hne307_b308_b309, Y307_0, Y307_1, Y307_2, Y307_3⟩

theorem rx6_277 (l : Launch) (Z : State) (a0 : Array Value) (hw : HW a0 Z) (ws : List Jvm.Cond) (n0 : Nat) (h0 : Heap) (O0 : Old Z n0 h0) (G1 : Int32) (G3 : Value) (GF : GlobF Z a0 G1 G3) (b272 : Addr) (b274 : Addr) (k276 : ClassId) (c0_ : Int32) (c1_ : Int32) (PF_b272_value : Fld Z h0 b272 cST "value" "[B" (.ref b274)) (PE_b272 : Exa Z h0 b272 cST) (PF_b272_coder : Fld Z h0 b272 cST "coder" "B" (.int 0)) (PV_b274 : Arv Z h0 b274 k276 .byte (2 : Int32) [(yb c0_), (yb c1_)] (.int 0)) (hq0_ : ¬ (c0_ = (46 : Int32))) (hq1_ : c1_ = (46 : Int32)) (hc0_ : 0 ≤ c0_.toInt ∧ c0_.toInt < 256) (hc1_ : 0 ≤ c1_.toInt ∧ c1_.toInt < 256) :
  Meets1 l ym18 prog_33_method_5_code 2 (some (.object cST)) ws (mkR 5 2 5 102) #[(.ref b272)] Z h0 (fun v h L => ∃ (b312 : Addr) (b313 : Addr) (k314 : ClassId), v = some (.ref b312) ∧ Fr n0 L ∧ Keep h0 h [] ∧ h0.size ≤ b312 ∧ h0.size ≤ b313 ∧ b312 ≠ b313 ∧ Exa Z h b312 cST ∧ Arv Z h b313 k314 .byte (1 : Int32) [(yb c0_)] (.int 0) ∧ Fld Z h b312 cST "value" "[B" (.ref b313) ∧ Fld Z h b312 cST "coder" "B" (.int 0)) := by
 refine MetFree.of_bodySF (plainFor_of_name pn6) hisR ?_
 intro p e s m args below meth c s₁ Bd hml0 hP hK
 obtain ⟨rfl, hZ, hh⟩ := hP
 have hx := Bd.exec
 have hby := Bd.bytes
 have hml : c.maxLocals = 2 := hml0
 have hown : s.vm.findClass "com/example/wakeline/wakeline/format/shareplex/SharePlexMessage" = some m.cls := findClass_of_methodNamed Bd.named
 have X0 : Stand p l e (mkR 5 2 5 102) s m #[(.ref b272)] below meth c s₁ [] 0 0 := Stand.of_body Bd
 have e0 : s₁.heap = h0 := by rw [← hh, Bd.state]; rfl
 have N0 := Fr.nil n0
 show Ends _ _ _ _ s₁ (entryFrame m #[(.ref b272)] 2) (mkR 5 2 5 102).cells (mkR 5 2 5 102).slots (fun v h L => ∃ (b312 : Addr) (b313 : Addr) (k314 : ClassId), v = some (.ref b312) ∧ Fr n0 L ∧ Keep h0 h [] ∧ h0.size ≤ b312 ∧ h0.size ≤ b313 ∧ b312 ≠ b313 ∧ Exa Z h b312 cST ∧ Arv Z h b313 k314 .byte (1 : Int32) [(yb c0_)] (.int 0) ∧ Fld Z h b312 cST "value" "[B" (.ref b313) ∧ Fld Z h b312 cST "coder" "B" (.int 0))
 refine Ends.go (fun _ k => castTop (ef6_r m b272) k) ?_
 obtain ⟨SCS, P5, SSF, RG3, HC1, HC2, HCW⟩ := id GF
 have K0 := Keep.refl h0 []
 show Ends _ _ _ _ s₁ (mkF m 0 #[cr b272, cu] []) _ _ _
 refine walN X0 hx hby d6_0 rfl rfl ?_
 refine .go (fun _ => XS.ifnonnullYes X0.here hx rfl (pc0 := 1) (pc' := 8) rfl (hb hby d6_1) rfl (by decide) (by decide)) ?_
 refine walN X0 hx hby d6_8 rfl rfl ?_
 refine wbp X0 hx hby d6_9 ?_
 obtain ⟨cq278, kq278, q278a, q278b, q278c⟩ := isOf hZ e0 PE_b272
 obtain ⟨_, _, ⟨T278, L278, k278, n278⟩, -, X278, ⟨Lc278, hQ278, l278, y278, z278⟩, st278⟩ := X0.virtualBack hx (y := ym13) (z := ym13) hown (ov hZ hw 33 rfl) (ov hZ hw 34 rfl) (notFace_of_selects (args := #[]) (ov hZ hw 36 rfl)) (ov hZ hw 36 rfl) (ov hZ hw 35 rfl) (by decide) (own_backOf (W := 0) (rmI7_2 l Z a0 hw [] n0 h0 O0 G1 G3 GF b272 b274 k276 c0_ c1_ PE_b272 PF_b272_value PF_b272_coder PV_b274) hZ (ow hw 37 rfl) (ow hw 10 rfl) (by decide) (by decide)) q278a q278c (g := (mkF m 11 #[cr b272, cu] [(.int 46), (.ref b272)])) rfl (by rw [hml]; rfl) (Steps.refl _) (argsL := [(.int 46)]) (rest := []) (lenOf pdx_10 rfl) rfl (own_w rfl) (hb hby d6_11) (fun _ _ => ⟨rfl, e0, (by decide : 0 + 0 ≤ _), (by decide : 0 + 0 ≤ _)⟩)
 dsimp only [Pt.U, Pt.locs, Pt.cells, Pt.slots] at X278 l278 y278 z278 st278 hQ278
 subst l278 y278 z278
 obtain ⟨r278, rfl, N278q, K278c, hr278⟩ := hQ278
 have N278 := Fr.app N0 N278q
 refine Ends.go (fun _ k => st278.trans k) ?_
 obtain ⟨h278, e278⟩ : ∃ z, T278.heap = z := ⟨_, rfl⟩
 rw [e278] at K278c
 have K278 := K0.trans K278c all0
 have O278 := O0.keep K278c all0
 obtain rfl : r278 = 1 := hr278.elim (fun z => absurd z.2 (fun q => hq0_ ((own_b46 hc0_).mp q))) (fun o1 => o1.elim (fun z => z.1) (fun z => absurd ((own_b46 hc1_).mpr hq1_) z.2.2))
 refine wstN X278 hx hby d6_14 (l' := #[cr b272, ci 1]) rfl ?_
 refine wilN X278 hx hby d6_15 rfl ?_
 refine wiy (pc := 16) (pc' := 23) X278 hx hby d6_16 ((if0 _ _).trans (flt (by decide : ¬ ((1 : Int32) < (0 : Int32)))).2.1) ?_
 refine walN X278 hx hby d6_23 rfl rfl ?_
 refine wic X278 hx hby d6_24 ?_
 refine wilN X278 hx hby d6_25 rfl ?_
 obtain ⟨cq311, kq311, q311a, q311b, q311c⟩ := isOf hZ e278 (PE_b272.keep K278c)
 obtain ⟨_, _, ⟨T311, L311, k311, n311⟩, -, X311, ⟨Lc311, hQ311, l311, y311, z311⟩, st311⟩ := X278.virtualBack hx (y := ym23) (z := ym23) hown (ov hZ hw 86 rfl) (ov hZ hw 87 rfl) (notFace_of_selects (args := #[]) (ov hZ hw 89 rfl)) (ov hZ hw 89 rfl) (ov hZ hw 88 rfl) (by decide) (own_backOf (W := 0) (rx20_279 l Z a0 hw [] n0 h278 O278 G1 G3 GF b272 b274 k276 c0_ c1_ (PF_b272_value.keep K278c nin0) (PV_b274.keep K278c nin0) (PF_b272_coder.keep K278c nin0) (PE_b272.keep K278c)) hZ (ow hw 90 rfl) (ow hw 10 rfl) (by decide) (by decide)) q311a q311c (g := (mkF m 26 #[cr b272, ci 1] [(.int 1), (.int 0), (.ref b272)])) rfl (by rw [hml]; rfl) (Steps.refl _) (argsL := [(.int 0), (.int 1)]) (rest := []) (lenOf pdx_17 rfl) rfl (own_w rfl) (hb hby d6_26) (fun _ _ => ⟨rfl, e278, (by decide : 0 + 2 ≤ _), (by decide : 0 + 5 ≤ _)⟩)
 dsimp only [Pt.U, Pt.locs, Pt.cells, Pt.slots] at X311 l311 y311 z311 st311 hQ311
 subst l311 y311 z311
 obtain ⟨b312, b313, k314, rfl, N311q, K311c, hb311_b312, hb311_b313, hne311_b312_b313, Y311_0, Y311_1, Y311_2, Y311_3⟩ := hQ311
 have N311 := Fr.app N278 N311q
 refine Ends.go (fun _ k => st311.trans k) ?_
 have sz_b312 : h0.size ≤ b312 := Nat.le_trans K278.1 hb311_b312
 have sz_b313 : h0.size ≤ b313 := Nat.le_trans K278.1 hb311_b313
 obtain ⟨h311, e311⟩ : ∃ z, T311.heap = z := ⟨_, rfl⟩
 rw [e311] at K311c Y311_0 Y311_1 Y311_2 Y311_3
 have K311 := K278.trans K311c all0
 refine Ends.ret X311 hx Bd.notSynchronized (t := (.object cST)) Bd.returns rfl (Or.inr (Or.inr (Or.inr (Or.inr ⟨rfl, rfl, rfl⟩)))) (hb hby d6_29) (by decide) (by decide) ?_
 rw [e311]
 exact ⟨b312, b313, k314, rfl, N311, K311, sz_b312, sz_b313, hne311_b312_b313, Y311_0, Y311_1, Y311_2, Y311_3⟩

theorem d29_0 : decode jdk_43_method_2_code 0 = .ok (.iload_n 1, 1) := by decide +kernel
theorem d29_1 : decode jdk_43_method_2_code 1 = .ok (.aload_n 0, 1) := by decide +kernel
theorem d29_2 : decode jdk_43_method_2_code 2 = .ok (.arraylength, 1) := by decide +kernel
theorem d29_3 : decode jdk_43_method_2_code 3 = .ok (.invokestatic 9, 3) := by decide +kernel
theorem d29_6 : decode jdk_43_method_2_code 6 = .ok (.aload_n 0, 1) := by decide +kernel
theorem d29_7 : decode jdk_43_method_2_code 7 = .ok (.iload_n 1, 1) := by decide +kernel
theorem d29_8 : decode jdk_43_method_2_code 8 = .ok (.baload, 1) := by decide +kernel
theorem d29_9 : decode jdk_43_method_2_code 9 = .ok (.sipush 255, 3) := by decide +kernel
theorem d29_12 : decode jdk_43_method_2_code 12 = .ok (.iand, 1) := by decide +kernel
theorem d29_13 : decode jdk_43_method_2_code 13 = .ok (.i2c, 1) := by decide +kernel
theorem d29_14 : decode jdk_43_method_2_code 14 = .ok (.ireturn, 1) := by decide +kernel
theorem pn29 : plainName "java/lang/StringLatin1" = true := by first | (simp [plainName, overriddenIn]; done) | decide +kernel
theorem ef29_ri (m : MethodId) (x0 : Addr) (x1 : Int32) : entryFrame m #[(.ref x0), (.int x1)] 2 = mkF m 0 #[.val (.ref x0), .val (.int x1)] [] := by first | (simp [entryFrame, mkF, argsToLocals, Value.category]; done) | rfl
theorem rx29_325 (l : Launch) (Z : State) (a0 : Array Value) (hw : HW a0 Z) (ws : List Jvm.Cond) (n0 : Nat) (h0 : Heap) (O0 : Old Z n0 h0) (G1 : Int32) (G3 : Value) (GF : GlobF Z a0 G1 G3) (b317 : Addr) (k318 : ClassId) (c0_ : Int32) (PV_b317 : Arv Z h0 b317 k318 .byte (1 : Int32) [(yb c0_)] (.int 0)) (hc0_ : 0 ≤ c0_.toInt ∧ c0_.toInt < 256) :
  Meets1 l ym28 jdk_43_method_2_code 2 (some .char) ws (mkR 2 0 0 28) #[(.ref b317), (.int 0)] Z h0 (fun v h L => v = some (.int c0_) ∧ Fr n0 L ∧ Keep h0 h []) := by
 refine MetFree.of_bodySF (plainFor_of_name pn29) hisR ?_
 intro p e s m args below meth c s₁ Bd hml0 hP hK
 obtain ⟨rfl, hZ, hh⟩ := hP
 have hx := Bd.exec
 have hby := Bd.bytes
 have hml : c.maxLocals = 2 := hml0
 have hown : s.vm.findClass "java/lang/StringLatin1" = some m.cls := findClass_of_methodNamed Bd.named
 have X0 : Stand p l e (mkR 2 0 0 28) s m #[(.ref b317), (.int 0)] below meth c s₁ [] 0 0 := Stand.of_body Bd
 have e0 : s₁.heap = h0 := by rw [← hh, Bd.state]; rfl
 have N0 := Fr.nil n0
 show Ends _ _ _ _ s₁ (entryFrame m #[(.ref b317), (.int 0)] 2) (mkR 2 0 0 28).cells (mkR 2 0 0 28).slots (fun v h L => v = some (.int c0_) ∧ Fr n0 L ∧ Keep h0 h [])
 refine Ends.go (fun _ k => castTop (ef29_ri m b317 (0 : Int32)) k) ?_
 obtain ⟨SCS, P5, SSF, RG3, HC1, HC2, HCW⟩ := id GF
 have K0 := Keep.refl h0 []
 show Ends _ _ _ _ s₁ (mkF m 0 #[cr b317, ci 0] []) _ _ _
 refine wilN X0 hx hby d29_0 rfl ?_
 refine walN X0 hx hby d29_1 rfl rfl ?_
 obtain ⟨cl326, Ar326, q326, S326, M326, H326, G326⟩ := id PV_b317
 refine Ends.go (X0.arraylength hx (by rw [e0]; exact Ar326.1) (State.isArrayOf_alike hZ.alike Ar326.2.1) (g := (mkF m 2 #[cr b317, ci 0] [(.ref b317), (.int 0)])) rfl rfl (hb hby d29_2)) ?_
 rw [len_of S326 M326]
 obtain ⟨_, _, ⟨T327, L327, k327, n327⟩, -, X327, ⟨Lc327, hQ327, l327, y327, z327⟩, st327⟩ := Jvm.LawKit.callS X0 hx (y := ym2) hown (ov hZ hw 131 rfl) (ov hZ hw 132 rfl) (ov hZ hw 10 rfl) (ov hZ hw 133 rfl) (by decide) (own_backOf (W := 0) (rm_checkIndex l Z a0 hw [] n0 h0 O0 (0 : Int32) (1 : Int32) G1 G3 GF (by decide) (by decide)) hZ (ow hw 133 rfl) (ow hw 10 rfl) (by decide) (by decide)) (g := (mkF m 3 #[cr b317, ci 0] [(.int 1), (.int 0)])) rfl (by rw [hml]; rfl) (argsL := [(.int 0), (.int 1)]) (rest := []) (lenOf pdx_18 rfl) rfl (own_w rfl) (hb hby d29_3) (fun _ _ => ⟨rfl, e0, (by decide : 0 + 0 ≤ _), (by decide : 0 + 0 ≤ _)⟩)
 dsimp only [Pt.U, Pt.locs, Pt.cells, Pt.slots] at X327 l327 y327 z327 st327 hQ327
 subst l327 y327 z327
 obtain ⟨rfl, N327q, e327q⟩ := hQ327
 have N327 := Fr.app N0 N327q
 refine Ends.go st327 ?_
 refine walN X327 hx hby d29_6 rfl rfl ?_
 refine wilN X327 hx hby d29_7 rfl ?_
 obtain ⟨cl328, Ar328, q328, S328, M328, H328, G328⟩ := id PV_b317
 have hin328 := inb_of (j := (0 : Int32)) S328 ⟨by decide, by decide⟩
 refine Ends.go (X327.baloadBytes hx (j := (0 : Int32)) (v := (yb c0_)) (by rw [e327q]; exact Ar328.1) (State.isArrayOf_alike hZ.alike Ar328.2.1) Ar328.2.2 hin328 (H328.at hin328 rfl) (g := (mkF m 8 #[cr b317, ci 0] [(.int 0), (.ref b317)])) rfl rfl (hb hby d29_8)) ?_
 refine wsp X327 hx hby d29_9 ?_
 refine wan X327 hx hby d29_12 ?_
 refine .go (fun _ => XS.i2c X327.here hx rfl (hb hby d29_13) rfl) ?_
 refine Ends.retZ X327 hx Bd.notSynchronized (t := .char) Bd.returns (by simp) (hb hby d29_14) (by decide) (by decide) ?_
 rw [e327q]
 exact ⟨(congrArg (fun z => some (Value.int z)) (own_l1 hc0_)), N327, K0⟩

theorem d28_0 : decode jdk_42_method_56_code 0 = .ok (.aload_n 0, 1) := by decide +kernel
theorem d28_1 : decode jdk_42_method_56_code 1 = .ok (.invokevirtual 492, 3) := by decide +kernel
theorem d28_4 : decode jdk_42_method_56_code 4 = .ok (.ifCond .eq 12, 3) := by decide +kernel
theorem d28_7 : decode jdk_42_method_56_code 7 = .ok (.aload_n 0, 1) := by decide +kernel
theorem d28_8 : decode jdk_42_method_56_code 8 = .ok (.getfield 9, 3) := by decide +kernel
theorem d28_11 : decode jdk_42_method_56_code 11 = .ok (.iload_n 1, 1) := by decide +kernel
theorem d28_12 : decode jdk_42_method_56_code 12 = .ok (.invokestatic 495, 3) := by decide +kernel
theorem d28_15 : decode jdk_42_method_56_code 15 = .ok (.ireturn, 1) := by decide +kernel
theorem pn28 : plainName "java/lang/String" = true := by first | (simp [plainName, overriddenIn]; done) | decide +kernel
theorem pdx_21 : parseMethodDescriptor "([BI)C" = some ⟨[(.array .byte), .int], some .char⟩ := by decide +kernel
theorem ef28_ri (m : MethodId) (x0 : Addr) (x1 : Int32) : entryFrame m #[(.ref x0), (.int x1)] 2 = mkF m 0 #[.val (.ref x0), .val (.int x1)] [] := by first | (simp [entryFrame, mkF, argsToLocals, Value.category]; done) | rfl
theorem rx28_322 (l : Launch) (Z : State) (a0 : Array Value) (hw : HW a0 Z) (ws : List Jvm.Cond) (n0 : Nat) (h0 : Heap) (O0 : Old Z n0 h0) (G1 : Int32) (G3 : Value) (GF : GlobF Z a0 G1 G3) (b316 : Addr) (b317 : Addr) (k318 : ClassId) (c0_ : Int32) (PF_b316_coder : Fld Z h0 b316 cST "coder" "B" (.int 0)) (PE_b316 : Exa Z h0 b316 cST) (PF_b316_value : Fld Z h0 b316 cST "value" "[B" (.ref b317)) (PV_b317 : Arv Z h0 b317 k318 .byte (1 : Int32) [(yb c0_)] (.int 0)) (hc0_ : 0 ≤ c0_.toInt ∧ c0_.toInt < 256) :
  Meets1 l ym29 jdk_42_method_56_code 2 (some .char) ws (mkR 3 0 0 41) #[(.ref b316), (.int 0)] Z h0 (fun v h L => v = some (.int c0_) ∧ Fr n0 L ∧ Keep h0 h []) := by
 refine MetFree.of_bodySF (plainFor_of_name pn28) hisR ?_
 intro p e s m args below meth c s₁ Bd hml0 hP hK
 obtain ⟨rfl, hZ, hh⟩ := hP
 have hx := Bd.exec
 have hby := Bd.bytes
 have hml : c.maxLocals = 2 := hml0
 have hown : s.vm.findClass "java/lang/String" = some m.cls := findClass_of_methodNamed Bd.named
 have X0 : Stand p l e (mkR 3 0 0 41) s m #[(.ref b316), (.int 0)] below meth c s₁ [] 0 0 := Stand.of_body Bd
 have e0 : s₁.heap = h0 := by rw [← hh, Bd.state]; rfl
 have N0 := Fr.nil n0
 show Ends _ _ _ _ s₁ (entryFrame m #[(.ref b316), (.int 0)] 2) (mkR 3 0 0 41).cells (mkR 3 0 0 41).slots (fun v h L => v = some (.int c0_) ∧ Fr n0 L ∧ Keep h0 h [])
 refine Ends.go (fun _ k => castTop (ef28_ri m b316 (0 : Int32)) k) ?_
 obtain ⟨SCS, P5, SSF, RG3, HC1, HC2, HCW⟩ := id GF
 have K0 := Keep.refl h0 []
 show Ends _ _ _ _ s₁ (mkF m 0 #[cr b316, ci 0] []) _ _ _
 refine walN X0 hx hby d28_0 rfl rfl ?_
 obtain ⟨cq323, kq323, q323a, q323b, q323c⟩ := isOf hZ e0 PE_b316
 obtain ⟨_, _, ⟨T323, L323, k323, n323⟩, -, X323, ⟨Lc323, hQ323, l323, y323, z323⟩, st323⟩ := X0.virtualBack hx (y := ym9) (z := ym9) hown (ov hZ hw 43 rfl) (ov hZ hw 44 rfl) (notFace_of_selects (args := #[]) (ov hZ hw 46 rfl)) (ov hZ hw 46 rfl) (ov hZ hw 45 rfl) (by decide) (own_backOf (W := 0) (rx9_8 l Z a0 hw [] n0 h0 O0 G1 G3 GF b316 PF_b316_coder) hZ (ow hw 47 rfl) (ow hw 10 rfl) (by decide) (by decide)) q323a q323c (g := (mkF m 1 #[cr b316, ci 0] [(.ref b316)])) rfl (by rw [hml]; rfl) (Steps.refl _) (argsL := []) (rest := []) (lenOf pdx_2 rfl) rfl (own_w rfl) (hb hby d28_1) (fun _ _ => ⟨rfl, e0, (by decide : 0 + 0 ≤ _), (by decide : 0 + 0 ≤ _)⟩)
 dsimp only [Pt.U, Pt.locs, Pt.cells, Pt.slots] at X323 l323 y323 z323 st323 hQ323
 subst l323 y323 z323
 obtain ⟨rfl, N323q, K323c⟩ := hQ323
 have N323 := Fr.app N0 N323q
 refine Ends.go (fun _ k => st323.trans k) ?_
 obtain ⟨h323, e323⟩ : ∃ z, T323.heap = z := ⟨_, rfl⟩
 rw [e323] at K323c
 have K323 := K0.trans K323c all0
 have O323 := O0.keep K323c all0
 refine win X323 hx hby d28_4 ((if0 _ _).trans (feq (by decide : ¬ ((1 : Int32) = (0 : Int32)))).1) ?_
 refine walN X323 hx hby d28_7 rfl rfl ?_
 obtain ⟨T324, X324, e324, st324⟩ := getF X323 hx hZ hown (host := "") (Or.inl (ow hw 27 rfl)) Via.refl e323 (PF_b316_value.keep K323c nin0) (g := (mkF m 8 #[cr b316, ci 0] [(.ref b316)])) rfl rfl (hb hby d28_8)
 refine Ends.go st324 ?_
 refine wilN X324 hx hby d28_11 rfl ?_
 obtain ⟨_, _, ⟨T329, L329, k329, n329⟩, -, X329, ⟨Lc329, hQ329, l329, y329, z329⟩, st329⟩ := Jvm.LawKit.callS X324 hx (y := ym28) hown (ov hZ hw 128 rfl) (ov hZ hw 129 rfl) (ov hZ hw 61 rfl) (ov hZ hw 130 rfl) (by decide) (own_backOf (W := 0) (rx29_325 l Z a0 hw [] n0 h323 O323 G1 G3 GF b317 k318 c0_ (PV_b317.keep K323c nin0) hc0_) hZ (ow hw 130 rfl) (ow hw 61 rfl) (by decide) (by decide)) (g := (mkF m 12 #[cr b316, ci 0] [(.int 0), (.ref b317)])) rfl (by rw [hml]; rfl) (argsL := [(.ref b317), (.int 0)]) (rest := []) (lenOf pdx_21 rfl) rfl (own_w rfl) (hb hby d28_12) (fun _ _ => ⟨rfl, e324, (by decide : 0 + 0 ≤ _), (by decide : 0 + 0 ≤ _)⟩)
 dsimp only [Pt.U, Pt.locs, Pt.cells, Pt.slots] at X329 l329 y329 z329 st329 hQ329
 subst l329 y329 z329
 obtain ⟨rfl, N329q, K329c⟩ := hQ329
 have N329 := Fr.app N323 N329q
 refine Ends.go st329 ?_
 obtain ⟨h329, e329⟩ : ∃ z, T329.heap = z := ⟨_, rfl⟩
 rw [e329] at K329c
 have K329 := K323.trans K329c all0
 refine Ends.retZ X329 hx Bd.notSynchronized (t := .char) Bd.returns (by simp) (hb hby d28_15) (by decide) (by decide) ?_
 rw [e329]
 exact ⟨(congrArg (fun z => some (Value.int z)) (own_narc hc0_)), N329, K329⟩

theorem rx6_338 (l : Launch) (Z : State) (a0 : Array Value) (hw : HW a0 Z) (ws : List Jvm.Cond) (n0 : Nat) (h0 : Heap) (O0 : Old Z n0 h0) (G1 : Int32) (G3 : Value) (GF : GlobF Z a0 G1 G3) (b333 : Addr) (b335 : Addr) (k337 : ClassId) (c0_ : Int32) (c1_ : Int32) (PF_b333_value : Fld Z h0 b333 cST "value" "[B" (.ref b335)) (PE_b333 : Exa Z h0 b333 cST) (PF_b333_coder : Fld Z h0 b333 cST "coder" "B" (.int 0)) (PV_b335 : Arv Z h0 b335 k337 .byte (2 : Int32) [(yb c0_), (yb c1_)] (.int 0)) (hq0_ : ¬ (c0_ = (46 : Int32))) (hq1_ : ¬ (c1_ = (46 : Int32))) (hc0_ : 0 ≤ c0_.toInt ∧ c0_.toInt < 256) (hc1_ : 0 ≤ c1_.toInt ∧ c1_.toInt < 256) :
  Meets1 l ym18 prog_33_method_5_code 2 (some (.object cST)) ws (mkR 5 0 0 93) #[(.ref b333)] Z h0 (fun v h L => v = some .null ∧ Fr n0 L ∧ Keep h0 h []) := by
 refine MetFree.of_bodySF (plainFor_of_name pn6) hisR ?_
 intro p e s m args below meth c s₁ Bd hml0 hP hK
 obtain ⟨rfl, hZ, hh⟩ := hP
 have hx := Bd.exec
 have hby := Bd.bytes
 have hml : c.maxLocals = 2 := hml0
 have hown : s.vm.findClass "com/example/wakeline/wakeline/format/shareplex/SharePlexMessage" = some m.cls := findClass_of_methodNamed Bd.named
 have X0 : Stand p l e (mkR 5 0 0 93) s m #[(.ref b333)] below meth c s₁ [] 0 0 := Stand.of_body Bd
 have e0 : s₁.heap = h0 := by rw [← hh, Bd.state]; rfl
 have N0 := Fr.nil n0
 show Ends _ _ _ _ s₁ (entryFrame m #[(.ref b333)] 2) (mkR 5 0 0 93).cells (mkR 5 0 0 93).slots (fun v h L => v = some .null ∧ Fr n0 L ∧ Keep h0 h [])
 refine Ends.go (fun _ k => castTop (ef6_r m b333) k) ?_
 obtain ⟨SCS, P5, SSF, RG3, HC1, HC2, HCW⟩ := id GF
 have K0 := Keep.refl h0 []
 show Ends _ _ _ _ s₁ (mkF m 0 #[cr b333, cu] []) _ _ _
 refine walN X0 hx hby d6_0 rfl rfl ?_
 refine .go (fun _ => XS.ifnonnullYes X0.here hx rfl (pc0 := 1) (pc' := 8) rfl (hb hby d6_1) rfl (by decide) (by decide)) ?_
 refine walN X0 hx hby d6_8 rfl rfl ?_
 refine wbp X0 hx hby d6_9 ?_
 obtain ⟨cq339, kq339, q339a, q339b, q339c⟩ := isOf hZ e0 PE_b333
 obtain ⟨_, _, ⟨T339, L339, k339, n339⟩, -, X339, ⟨Lc339, hQ339, l339, y339, z339⟩, st339⟩ := X0.virtualBack hx (y := ym13) (z := ym13) hown (ov hZ hw 33 rfl) (ov hZ hw 34 rfl) (notFace_of_selects (args := #[]) (ov hZ hw 36 rfl)) (ov hZ hw 36 rfl) (ov hZ hw 35 rfl) (by decide) (own_backOf (W := 0) (rmI7_2 l Z a0 hw [] n0 h0 O0 G1 G3 GF b333 b335 k337 c0_ c1_ PE_b333 PF_b333_value PF_b333_coder PV_b335) hZ (ow hw 37 rfl) (ow hw 10 rfl) (by decide) (by decide)) q339a q339c (g := (mkF m 11 #[cr b333, cu] [(.int 46), (.ref b333)])) rfl (by rw [hml]; rfl) (Steps.refl _) (argsL := [(.int 46)]) (rest := []) (lenOf pdx_10 rfl) rfl (own_w rfl) (hb hby d6_11) (fun _ _ => ⟨rfl, e0, (by decide : 0 + 0 ≤ _), (by decide : 0 + 0 ≤ _)⟩)
 dsimp only [Pt.U, Pt.locs, Pt.cells, Pt.slots] at X339 l339 y339 z339 st339 hQ339
 subst l339 y339 z339
 obtain ⟨r339, rfl, N339q, K339c, hr339⟩ := hQ339
 have N339 := Fr.app N0 N339q
 refine Ends.go (fun _ k => st339.trans k) ?_
 obtain ⟨h339, e339⟩ : ∃ z, T339.heap = z := ⟨_, rfl⟩
 rw [e339] at K339c
 have K339 := K0.trans K339c all0
 obtain rfl : r339 = -1 := hr339.elim (fun z => absurd z.2 (fun q => hq0_ ((own_b46 hc0_).mp q))) (fun o1 => o1.elim (fun z => absurd z.2.2 (fun q => hq1_ ((own_b46 hc1_).mp q))) (fun z => z.1))
 refine wstN X339 hx hby d6_14 (l' := #[cr b333, ci (-1)]) rfl ?_
 refine wilN X339 hx hby d6_15 rfl ?_
 refine win X339 hx hby d6_16 ((if0 _ _).trans (tlt (by decide : (-1 : Int32) < (0 : Int32))).2.1) ?_
 refine .go (fun _ => XS.aconstNull X339.here hx rfl (hb hby d6_19)) ?_
 refine wgo (pc := 20) (pc' := 29) X339 hx hby d6_20 ?_
 refine Ends.ret X339 hx Bd.notSynchronized (t := (.object cST)) Bd.returns rfl (Or.inr (Or.inr (Or.inr (Or.inr ⟨rfl, rfl, rfl⟩)))) (hb hby d6_29) (by decide) (by decide) ?_
 rw [e339]
 exact ⟨rfl, N339, K339⟩

theorem rx17_359 (l : Launch) (Z : State) (a0 : Array Value) (hw : HW a0 Z) (ws : List Jvm.Cond) (n0 : Nat) (h0 : Heap) (O0 : Old Z n0 h0)  (b345 : Addr) (b358 : Addr) (k345 : ClassId) (c0_ : Int32) (c1_ : Int32) (c2_ : Int32) (k358 : ClassId) (PV_b345 : Arv Z h0 b345 k345 .char (3 : Int32) [(.int c0_), (.int c1_), (.int c2_)] (.int 0)) (PV_b358 : Arv Z h0 b358 k358 .byte (3 : Int32) [(.int 0), (.int 0), (.int 0)] (.int 0)) (ne_b345_b358 : b345 ≠ b358) (g_b358 : n0 ≤ b358) (hc0_ : 0 ≤ c0_.toInt ∧ c0_.toInt < 256) (hc1_ : 0 ≤ c1_.toInt ∧ c1_.toInt < 256) (hc2_ : 0 ≤ c2_.toInt ∧ c2_.toInt < 256) :
  Meets1 l ym19 jdk_52_method_21_code 7 (some .int) ws (mkR 0 0 0 0) #[(.ref b345), (.int 0), (.ref b358), (.int 0), (.int 3)] Z h0 (fun v h L => v = some (.int 3) ∧ Fr n0 L ∧ Keep h0 h [b358] ∧ Arv Z h b358 k358 .byte (3 : Int32) [(yb c0_), (yb c1_), (yb c2_)] (.int 0)) := by
 refine MetFree.of_bodySF (plainFor_of_name pn17) hisR ?_
 intro p e s m args below meth c s₁ Bd hml0 hP hK
 obtain ⟨rfl, hZ, hh⟩ := hP
 have hx := Bd.exec
 have hby := Bd.bytes
 have X0 : Stand p l e (mkR 0 0 0 0) s m #[(.ref b345), (.int 0), (.ref b358), (.int 0), (.int 3)] below meth c s₁ [] 0 0 := Stand.of_body Bd
 have e0 : s₁.heap = h0 := by rw [← hh, Bd.state]; rfl
 have N0 := Fr.nil n0
 show Ends _ _ _ _ s₁ (entryFrame m #[(.ref b345), (.int 0), (.ref b358), (.int 0), (.int 3)] 7) (mkR 0 0 0 0).cells (mkR 0 0 0 0).slots (fun v h L => v = some (.int 3) ∧ Fr n0 L ∧ Keep h0 h [b358] ∧ Arv Z h b358 k358 .byte (3 : Int32) [(yb c0_), (yb c1_), (yb c2_)] (.int 0))
 refine Ends.go (fun _ k => castTop (ef17_ririi m b345 (0 : Int32) b358 (0 : Int32) (3 : Int32)) k) ?_
 have K0 := Keep.refl h0 [b358]
 show Ends _ _ _ _ s₁ (mkF m 0 #[cr b345, ci 0, cr b358, ci 0, ci 3, cu, cu] []) _ _ _
 refine wic X0 hx hby d17_0 ?_
 refine wst X0 hx hby d17_1 (l' := #[cr b345, ci 0, cr b358, ci 0, ci 3, ci 0, cu]) rfl ?_
 refine wil X0 hx hby d17_3 rfl ?_
 refine wil X0 hx hby d17_5 rfl ?_
 refine wcn X0 hx hby d17_7 (tlt (by decide : (0 : Int32) < (3 : Int32))).2.1 ?_
 refine walN X0 hx hby d17_10 rfl rfl ?_
 refine wilN X0 hx hby d17_11 rfl ?_
 obtain ⟨cl360, Ar360, q360, S360, M360, H360, G360⟩ := id PV_b345
 have hin360 := inb_of (j := (0 : Int32)) S360 ⟨by decide, by decide⟩
 refine Ends.go (X0.caload hx (j := (0 : Int32)) (v := (.int c0_)) (by rw [e0]; exact Ar360.1) (State.isArrayOf_alike hZ.alike Ar360.2.1) Ar360.2.2 hin360 (H360.at hin360 rfl) (g := (mkF m 12 #[cr b345, ci 0, cr b358, ci 0, ci 3, ci 0, cu] [(.int 0), (.ref b345)])) rfl rfl (hb hby d17_12)) ?_
 refine wst X0 hx hby d17_13 (l' := #[cr b345, ci 0, cr b358, ci 0, ci 3, ci 0, ci c0_]) rfl ?_
 refine wil X0 hx hby d17_15 rfl ?_
 refine wsp X0 hx hby d17_17 ?_
 refine wcy (pc := 20) (pc' := 26) X0 hx hby d17_20 (flt ((own_c255 hc0_) : ¬ ((255 : Int32) < c0_))).2.2.2 ?_
 refine walN X0 hx hby d17_26 rfl rfl ?_
 refine wilN X0 hx hby d17_27 rfl ?_
 refine wil X0 hx hby d17_28 rfl ?_
 refine .go (fun _ => XS.i2b X0.here hx rfl (hb hby d17_30) rfl) ?_
 obtain ⟨cl361, Ar361, q361, S361, M361, H361, G361⟩ := id PV_b358
 have hin361 := inb_of (j := (0 : Int32)) S361 ⟨by decide, by decide⟩
 obtain ⟨T361, h361, X361, e361, W361, st361⟩ := stB X0 hx hZ e0 Ar361 (j := (0 : Int32)) hin361 (g := (mkF m 31 #[cr b345, ci 0, cr b358, ci 0, ci 3, ci 0, ci c0_] [(yb c0_), (.int 0), (.ref b358)])) rfl rfl (hb hby d17_31)
 refine Ends.go st361 ?_
 have V361 : Arv Z h361 b358 k358 .byte (3 : Int32) [(.int (nar .byte (c0_.toInt8.toInt32))), (.int 0), (.int 0)] (.int 0) := Arv.set Ar361 q361 S361 M361 H361 G361 (fits_nar_byte _) W361 0 rfl (Nat.le_of_ble_eq_true rfl)
 rw [own_narb] at V361
 have K361 := K0.wr W361 (Or.inl (List.mem_of_getElem? (i := 0) rfl))
 have N361 := Fr.snoc X361 N0 g_b358
 refine wii X361 hx hby d17_32 (l' := #[cr b345, ci 1, cr b358, ci 0, ci 3, ci 0, ci c0_]) rfl rfl ?_
 refine wii X361 hx hby d17_35 (l' := #[cr b345, ci 1, cr b358, ci 1, ci 3, ci 0, ci c0_]) rfl rfl ?_
 refine wii X361 hx hby d17_38 (l' := #[cr b345, ci 1, cr b358, ci 1, ci 3, ci 1, ci c0_]) rfl rfl ?_
 refine wgo (pc := 41) (pc' := 3) X361 hx hby d17_41 ?_
 refine wil X361 hx hby d17_3 rfl ?_
 refine wil X361 hx hby d17_5 rfl ?_
 refine wcn X361 hx hby d17_7 (tlt (by decide : (1 : Int32) < (3 : Int32))).2.1 ?_
 refine walN X361 hx hby d17_10 rfl rfl ?_
 refine wilN X361 hx hby d17_11 rfl ?_
 obtain ⟨cl362, Ar362, q362, S362, M362, H362, G362⟩ := id (PV_b345.other W361 ne_b345_b358)
 have hin362 := inb_of (j := (1 : Int32)) S362 ⟨by decide, by decide⟩
 refine Ends.go (X361.caload hx (j := (1 : Int32)) (v := (.int c1_)) (by rw [e361]; exact Ar362.1) (State.isArrayOf_alike hZ.alike Ar362.2.1) Ar362.2.2 hin362 (H362.at hin362 rfl) (g := (mkF m 12 #[cr b345, ci 1, cr b358, ci 1, ci 3, ci 1, ci c0_] [(.int 1), (.ref b345)])) rfl rfl (hb hby d17_12)) ?_
 refine wst X361 hx hby d17_13 (l' := #[cr b345, ci 1, cr b358, ci 1, ci 3, ci 1, ci c1_]) rfl ?_
 refine wil X361 hx hby d17_15 rfl ?_
 show Ends _ _ _ _ T361 (mkF m 17 #[cr b345, ci 1, cr b358, ci 1, ci 3, ci 1, ci c1_] [(.int c1_)]) _ _ _
 refine wsp X361 hx hby d17_17 ?_
 refine wcy (pc := 20) (pc' := 26) X361 hx hby d17_20 (flt ((own_c255 hc1_) : ¬ ((255 : Int32) < c1_))).2.2.2 ?_
 refine walN X361 hx hby d17_26 rfl rfl ?_
 refine wilN X361 hx hby d17_27 rfl ?_
 refine wil X361 hx hby d17_28 rfl ?_
 refine .go (fun _ => XS.i2b X361.here hx rfl (hb hby d17_30) rfl) ?_
 obtain ⟨cl363, Ar363, q363, S363, M363, H363, G363⟩ := id V361
 have hin363 := inb_of (j := (1 : Int32)) S363 ⟨by decide, by decide⟩
 obtain ⟨T363, h363, X363, e363, W363, st363⟩ := stB X361 hx hZ e361 Ar363 (j := (1 : Int32)) hin363 (g := (mkF m 31 #[cr b345, ci 1, cr b358, ci 1, ci 3, ci 1, ci c1_] [(yb c1_), (.int 1), (.ref b358)])) rfl rfl (hb hby d17_31)
 refine Ends.go st363 ?_
 have V363 : Arv Z h363 b358 k358 .byte (3 : Int32) [(yb c0_), (.int (nar .byte (c1_.toInt8.toInt32))), (.int 0)] (.int 0) := Arv.set Ar363 q363 S363 M363 H363 G363 (fits_nar_byte _) W363 1 rfl (Nat.le_of_ble_eq_true rfl)
 rw [own_narb] at V363
 have K363 := K361.wr W363 (Or.inl (List.mem_of_getElem? (i := 0) rfl))
 have N363 := Fr.snoc X363 N361 g_b358
 refine wii X363 hx hby d17_32 (l' := #[cr b345, ci 2, cr b358, ci 1, ci 3, ci 1, ci c1_]) rfl rfl ?_
 refine wii X363 hx hby d17_35 (l' := #[cr b345, ci 2, cr b358, ci 2, ci 3, ci 1, ci c1_]) rfl rfl ?_
 refine wii X363 hx hby d17_38 (l' := #[cr b345, ci 2, cr b358, ci 2, ci 3, ci 2, ci c1_]) rfl rfl ?_
 refine wgo (pc := 41) (pc' := 3) X363 hx hby d17_41 ?_
 refine wil X363 hx hby d17_3 rfl ?_
 refine wil X363 hx hby d17_5 rfl ?_
 refine wcn X363 hx hby d17_7 (tlt (by decide : (2 : Int32) < (3 : Int32))).2.1 ?_
 refine walN X363 hx hby d17_10 rfl rfl ?_
 refine wilN X363 hx hby d17_11 rfl ?_
 obtain ⟨cl364, Ar364, q364, S364, M364, H364, G364⟩ := id ((PV_b345.other W361 ne_b345_b358).other W363 ne_b345_b358)
 have hin364 := inb_of (j := (2 : Int32)) S364 ⟨by decide, by decide⟩
 refine Ends.go (X363.caload hx (j := (2 : Int32)) (v := (.int c2_)) (by rw [e363]; exact Ar364.1) (State.isArrayOf_alike hZ.alike Ar364.2.1) Ar364.2.2 hin364 (H364.at hin364 rfl) (g := (mkF m 12 #[cr b345, ci 2, cr b358, ci 2, ci 3, ci 2, ci c1_] [(.int 2), (.ref b345)])) rfl rfl (hb hby d17_12)) ?_
 refine wst X363 hx hby d17_13 (l' := #[cr b345, ci 2, cr b358, ci 2, ci 3, ci 2, ci c2_]) rfl ?_
 refine wil X363 hx hby d17_15 rfl ?_
 refine wsp X363 hx hby d17_17 ?_
 refine wcy (pc := 20) (pc' := 26) X363 hx hby d17_20 (flt ((own_c255 hc2_) : ¬ ((255 : Int32) < c2_))).2.2.2 ?_
 refine walN X363 hx hby d17_26 rfl rfl ?_
 refine wilN X363 hx hby d17_27 rfl ?_
 refine wil X363 hx hby d17_28 rfl ?_
 refine .go (fun _ => XS.i2b X363.here hx rfl (hb hby d17_30) rfl) ?_
 obtain ⟨cl365, Ar365, q365, S365, M365, H365, G365⟩ := id V363
 have hin365 := inb_of (j := (2 : Int32)) S365 ⟨by decide, by decide⟩
 obtain ⟨T365, h365, X365, e365, W365, st365⟩ := stB X363 hx hZ e363 Ar365 (j := (2 : Int32)) hin365 (g := (mkF m 31 #[cr b345, ci 2, cr b358, ci 2, ci 3, ci 2, ci c2_] [(yb c2_), (.int 2), (.ref b358)])) rfl rfl (hb hby d17_31)
 refine Ends.go st365 ?_
 have V365 : Arv Z h365 b358 k358 .byte (3 : Int32) [(yb c0_), (yb c1_), (.int (nar .byte (c2_.toInt8.toInt32)))] (.int 0) := Arv.set Ar365 q365 S365 M365 H365 G365 (fits_nar_byte _) W365 2 rfl (Nat.le_of_ble_eq_true rfl)
 rw [own_narb] at V365
 have K365 := K363.wr W365 (Or.inl (List.mem_of_getElem? (i := 0) rfl))
 have N365 := Fr.snoc X365 N363 g_b358
 refine wii X365 hx hby d17_32 (l' := #[cr b345, ci 3, cr b358, ci 2, ci 3, ci 2, ci c2_]) rfl rfl ?_
 refine wii X365 hx hby d17_35 (l' := #[cr b345, ci 3, cr b358, ci 3, ci 3, ci 2, ci c2_]) rfl rfl ?_
 refine wii X365 hx hby d17_38 (l' := #[cr b345, ci 3, cr b358, ci 3, ci 3, ci 3, ci c2_]) rfl rfl ?_
 refine wgo (pc := 41) (pc' := 3) X365 hx hby d17_41 ?_
 show Ends _ _ _ _ T365 (mkF m 3 #[cr b345, ci 3, cr b358, ci 3, ci 3, ci 3, ci c2_] []) _ _ _
 refine wil X365 hx hby d17_3 rfl ?_
 refine wil X365 hx hby d17_5 rfl ?_
 refine wcy (pc := 7) (pc' := 44) X365 hx hby d17_7 (flt (by decide : ¬ ((3 : Int32) < (3 : Int32)))).2.1 ?_
 refine wil X365 hx hby d17_44 rfl ?_
 refine Ends.ret X365 hx Bd.notSynchronized (t := .int) Bd.returns rfl (Or.inl ⟨rfl, by simp, _, rfl⟩) (hb hby d17_46) (by decide) (by decide) ?_
 rw [e365]
 exact ⟨rfl, N365, K365, V365⟩

theorem rx16_357 (l : Launch) (Z : State) (a0 : Array Value) (hw : HW a0 Z) (ws : List Jvm.Cond) (n0 : Nat) (h0 : Heap) (O0 : Old Z n0 h0)  (b345 : Addr) (k345 : ClassId) (c0_ : Int32) (c1_ : Int32) (c2_ : Int32) (PV_b345 : Arv Z h0 b345 k345 .char (3 : Int32) [(.int c0_), (.int c1_), (.int c2_)] (.int 0)) (hc0_ : 0 ≤ c0_.toInt ∧ c0_.toInt < 256) (hc1_ : 0 ≤ c1_.toInt ∧ c1_.toInt < 256) (hc2_ : 0 ≤ c2_.toInt ∧ c2_.toInt < 256) :
  Meets1 l ym20 jdk_52_method_16_code 6 (some (.array .byte)) ws (mkR 1 1 3 18) #[(.ref b345), (.int 0), (.int 3)] Z h0 (fun v h L => ∃ (b358 : Addr) (k358 : ClassId), v = some (.ref b358) ∧ Fr n0 L ∧ Keep h0 h [] ∧ h0.size ≤ b358 ∧ Arv Z h b358 k358 .byte (3 : Int32) [(yb c0_), (yb c1_), (yb c2_)] (.int 0)) := by
 refine MetFree.of_bodySF (plainFor_of_name pn16) hisR ?_
 intro p e s m args below meth c s₁ Bd hml0 hP hK
 obtain ⟨rfl, hZ, hh⟩ := hP
 have hx := Bd.exec
 have hby := Bd.bytes
 have hml : c.maxLocals = 6 := hml0
 have hown : s.vm.findClass "java/lang/StringUTF16" = some m.cls := findClass_of_methodNamed Bd.named
 have X0 : Stand p l e (mkR 1 1 3 18) s m #[(.ref b345), (.int 0), (.int 3)] below meth c s₁ [] 0 0 := Stand.of_body Bd
 have e0 : s₁.heap = h0 := by rw [← hh, Bd.state]; rfl
 have N0 := Fr.nil n0
 show Ends _ _ _ _ s₁ (entryFrame m #[(.ref b345), (.int 0), (.int 3)] 6) (mkR 1 1 3 18).cells (mkR 1 1 3 18).slots (fun v h L => ∃ (b358 : Addr) (k358 : ClassId), v = some (.ref b358) ∧ Fr n0 L ∧ Keep h0 h [] ∧ h0.size ≤ b358 ∧ Arv Z h b358 k358 .byte (3 : Int32) [(yb c0_), (yb c1_), (yb c2_)] (.int 0))
 refine Ends.go (fun _ k => castTop (ef16_rii m b345 (0 : Int32) (3 : Int32)) k) ?_
 have K0 := Keep.refl h0 []
 show Ends _ _ _ _ s₁ (mkF m 0 #[cr b345, ci 0, ci 3, cu, cu, cu] []) _ _ _
 refine wilN X0 hx hby d16_0 rfl ?_
 obtain ⟨T358, h358, k358, X358, e358, E358, A358, st358⟩ := newP X0 hx hZ (ow hw 22 rfl) e0 (g := (mkF m 1 #[cr b345, ci 0, ci 3, cu, cu, cu] [(.int 3)])) rfl (hb hby d16_1) rfl (by decide) (cap := 3) (by decide) (by decide) (by decide) (by decide)
 obtain ⟨b358, g358⟩ : ∃ z, z = h0.size := ⟨_, rfl⟩
 rw [← g358] at A358 st358
 refine Ends.go st358 ?_
 have g_b358 : n0 ≤ b358 := Nat.le_trans (own_old_le O0) (Nat.le_of_eq g358.symm)
 have sz_b358 : h0.size ≤ b358 := Nat.le_trans K0.1 (Nat.le_of_eq g358.symm)
 have K358 := K0.ext E358
 have O358 := O0.ext E358
 have V_b358 : Arv Z h358 b358 k358 .byte (3 : Int32) [(.int 0), (.int 0), (.int 0)] (.int 0) := (Arv.new A358 (by decide)).pad (pad_rep [] (.int 0) 3)
 refine wasN X358 hx hby d16_3 (l' := #[cr b345, ci 0, ci 3, cr b358, cu, cu]) rfl rfl ?_
 refine walN X358 hx hby d16_4 rfl rfl ?_
 refine wilN X358 hx hby d16_5 rfl ?_
 refine walN X358 hx hby d16_6 rfl rfl ?_
 refine wic X358 hx hby d16_7 ?_
 refine wilN X358 hx hby d16_8 rfl ?_
 obtain ⟨_, _, ⟨T366, L366, k366, n366⟩, -, X366, ⟨Lc366, hQ366, l366, y366, z366⟩, st366⟩ := Jvm.LawKit.callS X358 hx (y := ym19) hown (ov hZ hw 77 rfl) (ov hZ hw 78 rfl) (ov hZ hw 75 rfl) (ov hZ hw 79 rfl) (by decide) (own_backOf (W := 0) (rx17_359 l Z a0 hw [] n0 h358 O358  b345 b358 k345 c0_ c1_ c2_ k358 (PV_b345.ext E358) V_b358 (Nat.ne_of_lt (Nat.lt_of_lt_of_le PV_b345.lt sz_b358)) g_b358 hc0_ hc1_ hc2_) hZ (ow hw 79 rfl) (ow hw 75 rfl) (by decide) (by decide)) (g := (mkF m 9 #[cr b345, ci 0, ci 3, cr b358, cu, cu] [(.int 3), (.int 0), (.ref b358), (.int 0), (.ref b345)])) rfl (by rw [hml]; rfl) (argsL := [(.ref b345), (.int 0), (.ref b358), (.int 0), (.int 3)]) (rest := []) (lenOf pdx_12 rfl) rfl (own_w rfl) (hb hby d16_9) (fun _ _ => ⟨rfl, e358, (by decide : 1 + 0 ≤ _), (by decide : 3 + 0 ≤ _)⟩)
 dsimp only [Pt.U, Pt.locs, Pt.cells, Pt.slots] at X366 l366 y366 z366 st366 hQ366
 subst l366 y366 z366
 obtain ⟨rfl, N366q, K366c, Y366_0⟩ := hQ366
 have N366 := Fr.app N0 N366q
 refine Ends.go st366 ?_
 obtain ⟨h366, e366⟩ : ∃ z, T366.heap = z := ⟨_, rfl⟩
 rw [e366] at K366c Y366_0
 have K366 := K358.trans K366c (allS (Or.inr sz_b358) all0)
 refine wst X366 hx hby d16_12 (l' := #[cr b345, ci 0, ci 3, cr b358, ci 3, cu]) rfl ?_
 refine wil X366 hx hby d16_14 rfl ?_
 refine wilN X366 hx hby d16_16 rfl ?_
 refine wcy (pc := 17) (pc' := 57) X366 hx hby d16_17 (teq (by decide : (3 : Int32) = (3 : Int32))).1 ?_
 refine walN X366 hx hby d16_57 rfl rfl ?_
 refine Ends.ret X366 hx Bd.notSynchronized (t := (.array .byte)) Bd.returns rfl (Or.inr (Or.inr (Or.inr (Or.inr ⟨rfl, rfl, rfl⟩)))) (hb hby d16_58) (by decide) (by decide) ?_
 rw [e366]
 exact ⟨b358, k358, rfl, N366, K366, sz_b358, Y366_0⟩

theorem rx18_370 (l : Launch) (Z : State) (a0 : Array Value) (hw : HW a0 Z) (ws : List Jvm.Cond) (n0 : Nat) (h0 : Heap) (O0 : Old Z n0 h0)  (b368 : Addr) (k369 : ClassId) (c0_ : Int32) (c1_ : Int32) (c2_ : Int32) (PV_b368 : Arv Z h0 b368 k369 .byte (3 : Int32) [(yb c0_), (yb c1_), (yb c2_)] (.int 0)) :
  Meets1 l ym21 jdk_52_method_15_code 2 (some .byte) ws (mkR 0 0 0 0) #[(.ref b368), (.int 3)] Z h0 (fun v h L => v = some (.int 0) ∧ Fr n0 L ∧ Keep h0 h []) := by
 refine MetFree.of_bodySF (plainFor_of_name pn18) hisR ?_
 intro p e s m args below meth c s₁ Bd hml0 hP hK
 obtain ⟨rfl, hZ, hh⟩ := hP
 have hx := Bd.exec
 have hby := Bd.bytes
 have X0 : Stand p l e (mkR 0 0 0 0) s m #[(.ref b368), (.int 3)] below meth c s₁ [] 0 0 := Stand.of_body Bd
 have e0 : s₁.heap = h0 := by rw [← hh, Bd.state]; rfl
 have N0 := Fr.nil n0
 show Ends _ _ _ _ s₁ (entryFrame m #[(.ref b368), (.int 3)] 2) (mkR 0 0 0 0).cells (mkR 0 0 0 0).slots (fun v h L => v = some (.int 0) ∧ Fr n0 L ∧ Keep h0 h [])
 refine Ends.go (fun _ k => castTop (ef18_ri m b368 (3 : Int32)) k) ?_
 have K0 := Keep.refl h0 []
 show Ends _ _ _ _ s₁ (mkF m 0 #[cr b368, ci 3] []) _ _ _
 refine wilN X0 hx hby d18_0 rfl ?_
 refine walN X0 hx hby d18_1 rfl rfl ?_
 obtain ⟨cl371, Ar371, q371, S371, M371, H371, G371⟩ := id PV_b368
 refine Ends.go (X0.arraylength hx (by rw [e0]; exact Ar371.1) (State.isArrayOf_alike hZ.alike Ar371.2.1) (g := (mkF m 2 #[cr b368, ci 3] [(.ref b368), (.int 3)])) rfl rfl (hb hby d18_2)) ?_
 rw [len_of S371 M371]
 refine wis X0 hx hby d18_3 ?_
 refine wbp X0 hx hby d18_4 ?_
 refine .go (fun _ => XS.iushr X0.here hx rfl (hb hby d18_6) rfl) ?_
 refine .go (fun _ => XS.i2b X0.here hx rfl (hb hby d18_7) rfl) ?_
 refine Ends.retZ X0 hx Bd.notSynchronized (t := .byte) Bd.returns (by simp) (hb hby d18_8) (by decide) (by decide) ?_
 rw [e0]
 exact ⟨rfl, N0, K0⟩

theorem rx4_354 (l : Launch) (Z : State) (a0 : Array Value) (hw : HW a0 Z) (ws : List Jvm.Cond) (n0 : Nat) (h0 : Heap) (O0 : Old Z n0 h0) (G1 : Int32) (G3 : Value) (GF : GlobF Z a0 G1 G3) (b344 : Addr) (b345 : Addr) (k345 : ClassId) (c0_ : Int32) (c1_ : Int32) (c2_ : Int32) (PV_b345 : Arv Z h0 b345 k345 .char (3 : Int32) [(.int c0_), (.int c1_), (.int c2_)] (.int 0)) (PE_b344 : Exa Z h0 b344 cST) (PF_b344_coder : Fld Z h0 b344 cST "coder" "B" (.int 0)) (PF_b344_value : Fld Z h0 b344 cST "value" "[B" .null) (g_b344 : n0 ≤ b344) (hc0_ : 0 ≤ c0_.toInt ∧ c0_.toInt < 256) (hc1_ : 0 ≤ c1_.toInt ∧ c1_.toInt < 256) (hc2_ : 0 ≤ c2_.toInt ∧ c2_.toInt < 256) :
  Meets1 l ym15 jdk_42_method_149_code 6 none ws (mkR 2 1 3 35) #[(.ref b344), (.ref b345), (.int 0), (.int 3), .null] Z h0 (fun v h L => ∃ (b368 : Addr) (k369 : ClassId), v = none ∧ Fr n0 L ∧ Keep h0 h [b344] ∧ h0.size ≤ b368 ∧ Arv Z h b368 k369 .byte (3 : Int32) [(yb c0_), (yb c1_), (yb c2_)] (.int 0) ∧ Fld Z h b344 cST "coder" "B" (.int 0) ∧ Fld Z h b344 cST "value" "[B" (.ref b368)) := by
 refine MetFree.of_bodySF (plainFor_of_name pn4) hisR ?_
 intro p e s m args below meth c s₁ Bd hml0 hP hK
 obtain ⟨rfl, hZ, hh⟩ := hP
 have hx := Bd.exec
 have hby := Bd.bytes
 have hml : c.maxLocals = 6 := hml0
 have hown : s.vm.findClass "java/lang/String" = some m.cls := findClass_of_methodNamed Bd.named
 have hnm := (name_of_methodNamed Bd.named Bd.method).1
 have X0 : Stand p l e (mkR 2 1 3 35) s m #[(.ref b344), (.ref b345), (.int 0), (.int 3), .null] below meth c s₁ [] 0 0 := Stand.of_body Bd
 have e0 : s₁.heap = h0 := by rw [← hh, Bd.state]; rfl
 have N0 := Fr.nil n0
 show Ends _ _ _ _ s₁ (entryFrame m #[(.ref b344), (.ref b345), (.int 0), (.int 3), .null] 6) (mkR 2 1 3 35).cells (mkR 2 1 3 35).slots (fun v h L => ∃ (b368 : Addr) (k369 : ClassId), v = none ∧ Fr n0 L ∧ Keep h0 h [b344] ∧ h0.size ≤ b368 ∧ Arv Z h b368 k369 .byte (3 : Int32) [(yb c0_), (yb c1_), (yb c2_)] (.int 0) ∧ Fld Z h b344 cST "coder" "B" (.int 0) ∧ Fld Z h b344 cST "value" "[B" (.ref b368))
 refine Ends.go (fun _ k => castTop (ef4_rriin m b344 b345 (0 : Int32) (3 : Int32)) k) ?_
 obtain ⟨SCS, P5, SSF, RG3, HC1, HC2, HCW⟩ := id GF
 have K0 := Keep.refl h0 [b344]
 show Ends _ _ _ _ s₁ (mkF m 0 #[cr b344, cr b345, ci 0, ci 3, .val .null, cu] []) _ _ _
 refine walN X0 hx hby d4_0 rfl rfl ?_
 obtain ⟨T355, X355, e355, st355⟩ := initO X0 hx hZ hown (ow hw 18 rfl) (ow hw 19 rfl) (ow hw 20 rfl) e0 (g := (mkF m 1 #[cr b344, cr b345, ci 0, ci 3, .val .null, cu] [(.ref b344)])) rfl (by rw [hml]; rfl) rfl (hb hby d4_1) (by decide) (W := 0) (own_w rfl) (by decide)
 refine Ends.go st355 ?_
 refine wilN X355 hx hby d4_4 rfl ?_
 refine wiy (pc := 5) (pc' := 27) X355 hx hby d4_5 ((if0 _ _).trans (feq (by decide : ¬ ((3 : Int32) = (0 : Int32)))).2) ?_
 obtain ⟨T356, X356, e356, st356⟩ := getS2 X355 hx hZ hown (host := "") (Or.inl (ow hw 48 rfl)) Via.refl e355 (SCS.ext O0.2) (g := (mkF m 27 #[cr b344, cr b345, ci 0, ci 3, .val .null, cu] [])) rfl (hb hby d4_27)
 refine Ends.go st356 ?_
 refine win X356 hx hby d4_30 ((if0 _ _).trans (feq (P5 : ¬ (G1 = (0 : Int32)))).1) ?_
 refine walN X356 hx hby d4_33 rfl rfl ?_
 refine wilN X356 hx hby d4_34 rfl ?_
 refine wilN X356 hx hby d4_35 rfl ?_
 obtain ⟨_, _, ⟨T367, L367, k367, n367⟩, -, X367, ⟨Lc367, hQ367, l367, y367, z367⟩, st367⟩ := Jvm.LawKit.callS X356 hx (y := ym20) hown (ov hZ hw 73 rfl) (ov hZ hw 74 rfl) (ov hZ hw 75 rfl) (ov hZ hw 76 rfl) (by decide) (own_backOf (W := 0) (rx16_357 l Z a0 hw [] n0 h0 O0  b345 k345 c0_ c1_ c2_ PV_b345 hc0_ hc1_ hc2_) hZ (ow hw 76 rfl) (ow hw 75 rfl) (by decide) (by decide)) (g := (mkF m 36 #[cr b344, cr b345, ci 0, ci 3, .val .null, cu] [(.int 3), (.int 0), (.ref b345)])) rfl (by rw [hml]; rfl) (argsL := [(.ref b345), (.int 0), (.int 3)]) (rest := []) (lenOf pdx_13 rfl) rfl (own_w rfl) (hb hby d4_36) (fun _ _ => ⟨rfl, e356, (by decide : 0 + 1 ≤ _), (by decide : 0 + 3 ≤ _)⟩)
 dsimp only [Pt.U, Pt.locs, Pt.cells, Pt.slots] at X367 l367 y367 z367 st367 hQ367
 subst l367 y367 z367
 obtain ⟨b368, k369, rfl, N367q, K367c, hb367_b368, Y367_0⟩ := hQ367
 have N367 := Fr.app N0 N367q
 refine Ends.go st367 ?_
 have sz_b368 : h0.size ≤ b368 := Nat.le_trans K0.1 hb367_b368
 obtain ⟨h367, e367⟩ : ∃ z, T367.heap = z := ⟨_, rfl⟩
 rw [e367] at K367c Y367_0
 have K367 := K0.trans K367c all0
 have O367 := O0.keep K367c all0
 refine was X367 hx hby d4_39 (l' := #[cr b344, cr b345, ci 0, ci 3, .val .null, cr b368]) rfl rfl ?_
 refine walN X367 hx hby d4_41 rfl rfl ?_
 refine wal X367 hx hby d4_42 rfl rfl ?_
 refine wilN X367 hx hby d4_44 rfl ?_
 obtain ⟨_, _, ⟨T372, L372, k372, n372⟩, -, X372, ⟨Lc372, hQ372, l372, y372, z372⟩, st372⟩ := Jvm.LawKit.callS X367 hx (y := ym21) hown (ov hZ hw 80 rfl) (ov hZ hw 81 rfl) (ov hZ hw 75 rfl) (ov hZ hw 82 rfl) (by decide) (own_backOf (W := 1) (rx18_370 l Z a0 hw [] n0 h367 O367  b368 k369 c0_ c1_ c2_ Y367_0) hZ (ow hw 82 rfl) (ow hw 75 rfl) (by decide) (by decide)) (g := (mkF m 45 #[cr b344, cr b345, ci 0, ci 3, .val .null, cr b368] [(.int 3), (.ref b368), (.ref b344)])) rfl (by rw [hml]; rfl) (argsL := [(.ref b368), (.int 3)]) (rest := [(.ref b344)]) (lenOf pdx_14 rfl) rfl (own_w rfl) (hb hby d4_45) (fun _ _ => ⟨rfl, e367, (by decide : 1 + 0 ≤ _), (by decide : 3 + 0 ≤ _)⟩)
 dsimp only [Pt.U, Pt.locs, Pt.cells, Pt.slots] at X372 l372 y372 z372 st372 hQ372
 subst l372 y372 z372
 obtain ⟨rfl, N372q, K372c⟩ := hQ372
 have N372 := Fr.app N367 N372q
 refine Ends.go st372 ?_
 obtain ⟨h372, e372⟩ : ∃ z, T372.heap = z := ⟨_, rfl⟩
 rw [e372] at K372c
 have K372 := K367.trans K372c all0
 obtain ⟨T373, h373, X373, e373, W373, st373⟩ := putFN X372 hx hZ hown (ow hw 28 rfl) Via.refl e372 ((PF_b344_coder.keep K367c nin0).keep K372c nin0) ((PE_b344.keep K367c).keep K372c) (Or.inr ⟨(ow hw 24 rfl), rfl, hnm⟩) (ow hw 9 rfl) (ty := .byte) (v' := (.int 0)) (by decide) rfl (by decide) (g := (mkF m 48 #[cr b344, cr b345, ci 0, ci 3, .val .null, cr b368] [(.int 0), (.ref b344)])) rfl rfl (hb hby d4_48)
 refine Ends.go st373 ?_
 have Fw373 := ((PF_b344_coder.keep K367c nin0).keep K372c nin0).same W373
 have K373 := K372.wr W373 (Or.inl (List.mem_of_getElem? (i := 0) rfl))
 have N373 := Fr.snoc X373 N372 g_b344
 refine walN X373 hx hby d4_51 rfl rfl ?_
 refine wal X373 hx hby d4_52 rfl rfl ?_
 obtain ⟨T374, h374, X374, e374, W374, st374⟩ := putF X373 hx hZ hown (host := "") (Or.inl (ow hw 27 rfl)) Via.refl e373 (((PF_b344_value.keep K367c nin0).keep K372c nin0).other W373 (Or.inr (slot_ne (Or.inr (ow hw 23 rfl)) (Or.inr (ow hw 24 rfl)) (by decide) (t := (.array .byte)) (t' := .byte) (by decide) (by decide)))) (((PE_b344.keep K367c).keep K372c).wr W373) (Or.inr ⟨(ow hw 23 rfl), rfl, hnm⟩) (ow hw 9 rfl) (ty := (.array .byte)) (by decide) rfl rfl (g := (mkF m 54 #[cr b344, cr b345, ci 0, ci 3, .val .null, cr b368] [(.ref b368), (.ref b344)])) rfl rfl (hb hby d4_54)
 refine Ends.go st374 ?_
 have Fw374 := (((PF_b344_value.keep K367c nin0).keep K372c nin0).other W373 (Or.inr (slot_ne (Or.inr (ow hw 23 rfl)) (Or.inr (ow hw 24 rfl)) (by decide) (t := (.array .byte)) (t' := .byte) (by decide) (by decide)))).same W374
 have K374 := K373.wr W374 (Or.inl (List.mem_of_getElem? (i := 0) rfl))
 have N374 := Fr.snoc X374 N373 g_b344
 refine Ends.retV X374 hx Bd.notSynchronized Bd.returns (hb hby d4_57) (by decide) (by decide) ?_
 rw [e374]
 exact ⟨b368, k369, rfl, N374, K374, sz_b368, (((Y367_0.keep K372c nin0).other W373 (Ne.symm (Nat.ne_of_lt (Nat.lt_of_lt_of_le PE_b344.lt sz_b368)))).other W374 (Ne.symm (Nat.ne_of_lt (Nat.lt_of_lt_of_le PE_b344.lt sz_b368)))), (Fw373.other W374 (Or.inr (slot_ne (Or.inr (ow hw 24 rfl)) (Or.inr (ow hw 23 rfl)) (by decide) (t := .byte) (t' := (.array .byte)) (by decide) (by decide)))), Fw374⟩

theorem rx3_352 (l : Launch) (Z : State) (a0 : Array Value) (hw : HW a0 Z) (ws : List Jvm.Cond) (n0 : Nat) (h0 : Heap) (O0 : Old Z n0 h0) (G1 : Int32) (G3 : Value) (GF : GlobF Z a0 G1 G3) (b344 : Addr) (b345 : Addr) (k345 : ClassId) (c0_ : Int32) (c1_ : Int32) (c2_ : Int32) (PV_b345 : Arv Z h0 b345 k345 .char (3 : Int32) [(.int c0_), (.int c1_), (.int c2_)] (.int 0)) (PE_b344 : Exa Z h0 b344 cST) (PF_b344_coder : Fld Z h0 b344 cST "coder" "B" (.int 0)) (PF_b344_value : Fld Z h0 b344 cST "value" "[B" .null) (g_b344 : n0 ≤ b344) (hc0_ : 0 ≤ c0_.toInt ∧ c0_.toInt < 256) (hc1_ : 0 ≤ c1_.toInt ∧ c1_.toInt < 256) (hc2_ : 0 ≤ c2_.toInt ∧ c2_.toInt < 256) :
  Meets1 l ym16 jdk_42_method_3_code 2 none ws (mkR 3 1 3 52) #[(.ref b344), (.ref b345)] Z h0 (fun v h L => ∃ (b376 : Addr) (k377 : ClassId), v = none ∧ Fr n0 L ∧ Keep h0 h [b344] ∧ h0.size ≤ b376 ∧ Arv Z h b376 k377 .byte (3 : Int32) [(yb c0_), (yb c1_), (yb c2_)] (.int 0) ∧ Fld Z h b344 cST "coder" "B" (.int 0) ∧ Fld Z h b344 cST "value" "[B" (.ref b376)) := by
 refine MetFree.of_bodySF (plainFor_of_name pn3) hisR ?_
 intro p e s m args below meth c s₁ Bd hml0 hP hK
 obtain ⟨rfl, hZ, hh⟩ := hP
 have hx := Bd.exec
 have hby := Bd.bytes
 have hml : c.maxLocals = 2 := hml0
 have hown : s.vm.findClass "java/lang/String" = some m.cls := findClass_of_methodNamed Bd.named
 have X0 : Stand p l e (mkR 3 1 3 52) s m #[(.ref b344), (.ref b345)] below meth c s₁ [] 0 0 := Stand.of_body Bd
 have e0 : s₁.heap = h0 := by rw [← hh, Bd.state]; rfl
 have N0 := Fr.nil n0
 show Ends _ _ _ _ s₁ (entryFrame m #[(.ref b344), (.ref b345)] 2) (mkR 3 1 3 52).cells (mkR 3 1 3 52).slots (fun v h L => ∃ (b376 : Addr) (k377 : ClassId), v = none ∧ Fr n0 L ∧ Keep h0 h [b344] ∧ h0.size ≤ b376 ∧ Arv Z h b376 k377 .byte (3 : Int32) [(yb c0_), (yb c1_), (yb c2_)] (.int 0) ∧ Fld Z h b344 cST "coder" "B" (.int 0) ∧ Fld Z h b344 cST "value" "[B" (.ref b376))
 refine Ends.go (fun _ k => castTop (ef3_rr m b344 b345) k) ?_
 obtain ⟨SCS, P5, SSF, RG3, HC1, HC2, HCW⟩ := id GF
 have K0 := Keep.refl h0 [b344]
 show Ends _ _ _ _ s₁ (mkF m 0 #[cr b344, cr b345] []) _ _ _
 refine walN X0 hx hby d3_0 rfl rfl ?_
 refine walN X0 hx hby d3_1 rfl rfl ?_
 refine wic X0 hx hby d3_2 ?_
 refine walN X0 hx hby d3_3 rfl rfl ?_
 obtain ⟨cl353, Ar353, q353, S353, M353, H353, G353⟩ := id PV_b345
 refine Ends.go (X0.arraylength hx (by rw [e0]; exact Ar353.1) (State.isArrayOf_alike hZ.alike Ar353.2.1) (g := (mkF m 4 #[cr b344, cr b345] [(.ref b345), (.int 0), (.ref b345), (.ref b344)])) rfl rfl (hb hby d3_4)) ?_
 rw [len_of S353 M353]
 refine .go (fun _ => XS.aconstNull X0.here hx rfl (hb hby d3_5)) ?_
 obtain ⟨_, _, ⟨T375, L375, k375, n375⟩, -, X375, ⟨Lc375, hQ375, l375, y375, z375⟩, st375⟩ := X0.specialBack hx (y := ym15) rfl hown (ov hZ hw 14 rfl) (ov hZ hw 15 rfl) (ov hZ hw 17 rfl) (by decide) (own_backOf (W := 0) (rx4_354 l Z a0 hw [] n0 h0 O0 G1 G3 GF b344 b345 k345 c0_ c1_ c2_ PV_b345 PE_b344 PF_b344_coder PF_b344_value g_b344 hc0_ hc1_ hc2_) hZ (ow hw 17 rfl) (ow hw 10 rfl) (by decide) (by decide)) (g := (mkF m 6 #[cr b344, cr b345] [.null, (.int 3), (.int 0), (.ref b345), (.ref b344)])) rfl (by rw [hml]; rfl) (Steps.refl _) (a := b344) (argsL := [(.ref b345), (.int 0), (.int 3), .null]) (rest := []) (lenOf pdx_7 rfl) rfl (own_w rfl) (hb hby d3_6) (fun _ _ => ⟨rfl, e0, (by decide : 0 + 1 ≤ _), (by decide : 0 + 3 ≤ _)⟩)
 dsimp only [Pt.U, Pt.locs, Pt.cells, Pt.slots] at X375 l375 y375 z375 st375 hQ375
 subst l375 y375 z375
 obtain ⟨b376, k377, rfl, N375q, K375c, hb375_b376, Y375_0, Y375_1, Y375_2⟩ := hQ375
 have N375 := Fr.app N0 N375q
 refine Ends.go (fun _ k => st375.trans k) ?_
 have sz_b376 : h0.size ≤ b376 := Nat.le_trans K0.1 hb375_b376
 obtain ⟨h375, e375⟩ : ∃ z, T375.heap = z := ⟨_, rfl⟩
 rw [e375] at K375c Y375_0 Y375_1 Y375_2
 have K375 := K0.trans K375c (allS (Or.inl (List.mem_of_getElem? (i := 0) rfl)) all0)
 refine Ends.retV X375 hx Bd.notSynchronized Bd.returns (hb hby d3_9) (by decide) (by decide) ?_
 rw [e375]
 exact ⟨b376, k377, rfl, N375, K375, sz_b376, Y375_0, Y375_1, Y375_2⟩

theorem d2_65 : decode method_3_code 65 = .ok (.iload_n 1, 1) := by decide +kernel
theorem d2_66 : decode method_3_code 66 = .ok (.iconst 3, 1) := by decide +kernel
theorem d2_67 : decode method_3_code 67 = .ok (.if_icmp .ne 32, 3) := by decide +kernel
theorem d2_70 : decode method_3_code 70 = .ok (.new 7, 3) := by decide +kernel
theorem d2_73 : decode method_3_code 73 = .ok (.dup, 1) := by decide +kernel
theorem d2_74 : decode method_3_code 74 = .ok (.iconst 3, 1) := by decide +kernel
theorem d2_75 : decode method_3_code 75 = .ok (.newarray .char, 2) := by decide +kernel
theorem d2_77 : decode method_3_code 77 = .ok (.dup, 1) := by decide +kernel
theorem d2_78 : decode method_3_code 78 = .ok (.iconst 0, 1) := by decide +kernel
theorem d2_79 : decode method_3_code 79 = .ok (.aload_n 0, 1) := by decide +kernel
theorem d2_80 : decode method_3_code 80 = .ok (.iconst 0, 1) := by decide +kernel
theorem d2_81 : decode method_3_code 81 = .ok (.caload, 1) := by decide +kernel
theorem d2_82 : decode method_3_code 82 = .ok (.castore, 1) := by decide +kernel
theorem d2_83 : decode method_3_code 83 = .ok (.dup, 1) := by decide +kernel
theorem d2_84 : decode method_3_code 84 = .ok (.iconst 1, 1) := by decide +kernel
theorem d2_85 : decode method_3_code 85 = .ok (.aload_n 0, 1) := by decide +kernel
theorem d2_86 : decode method_3_code 86 = .ok (.iconst 1, 1) := by decide +kernel
theorem d2_87 : decode method_3_code 87 = .ok (.caload, 1) := by decide +kernel
theorem d2_88 : decode method_3_code 88 = .ok (.castore, 1) := by decide +kernel
theorem d2_89 : decode method_3_code 89 = .ok (.dup, 1) := by decide +kernel
theorem d2_90 : decode method_3_code 90 = .ok (.iconst 2, 1) := by decide +kernel
theorem d2_91 : decode method_3_code 91 = .ok (.aload_n 0, 1) := by decide +kernel
theorem d2_92 : decode method_3_code 92 = .ok (.iconst 2, 1) := by decide +kernel
theorem d2_93 : decode method_3_code 93 = .ok (.caload, 1) := by decide +kernel
theorem d2_94 : decode method_3_code 94 = .ok (.castore, 1) := by decide +kernel
theorem d2_95 : decode method_3_code 95 = .ok (.invokespecial 9, 3) := by decide +kernel
theorem d2_98 : decode method_3_code 98 = .ok (.areturn, 1) := by decide +kernel
theorem rx2_343 (l : Launch) (Z : State) (a0 : Array Value) (hw : HW a0 Z) (ws : List Jvm.Cond) (n0 : Nat) (h0 : Heap) (O0 : Old Z n0 h0) (G1 : Int32) (G3 : Value) (GF : GlobF Z a0 G1 G3) (b104 : Addr) (k104 : ClassId) (c0_ : Int32) (c1_ : Int32) (c2_ : Int32) (c3_ : Int32) (PV_b104 : Arv Z h0 b104 k104 .char (4 : Int32) [(.int c0_), (.int c1_), (.int c2_), (.int c3_)] (.int 0)) (hc0_ : 0 ≤ c0_.toInt ∧ c0_.toInt < 256) (hc1_ : 0 ≤ c1_.toInt ∧ c1_.toInt < 256) (hc2_ : 0 ≤ c2_.toInt ∧ c2_.toInt < 256) :
  Meets1 l ym17 method_3_code 2 (some (.object cST)) ws (mkR 4 3 10 66) #[(.ref b104), (.int 3)] Z h0 (fun v h L => ∃ (b344 : Addr) (b345 : Addr) (b379 : Addr) (k345 : ClassId) (k380 : ClassId), v = some (.ref b344) ∧ Fr n0 L ∧ Keep h0 h [] ∧ h0.size ≤ b344 ∧ h0.size ≤ b345 ∧ h0.size ≤ b379 ∧ b344 ≠ b345 ∧ b344 ≠ b379 ∧ b345 ≠ b379 ∧ Exa Z h b344 cST ∧ Arv Z h b345 k345 .char (3 : Int32) [(.int c0_), (.int c1_), (.int c2_)] (.int 0) ∧ Arv Z h b379 k380 .byte (3 : Int32) [(yb c0_), (yb c1_), (yb c2_)] (.int 0) ∧ Fld Z h b344 cST "coder" "B" (.int 0) ∧ Fld Z h b344 cST "value" "[B" (.ref b379)) := by
 refine MetFree.of_bodySF (plainFor_of_name pn2) hisR ?_
 intro p e s m args below meth c s₁ Bd hml0 hP hK
 obtain ⟨rfl, hZ, hh⟩ := hP
 have hx := Bd.exec
 have hby := Bd.bytes
 have hml : c.maxLocals = 2 := hml0
 have hown : s.vm.findClass "com/example/wakeline/wakeline/format/shareplex/SharePlexMessageDatabasePinLaw" = some m.cls := findClass_of_methodNamed Bd.named
 have X0 : Stand p l e (mkR 4 3 10 66) s m #[(.ref b104), (.int 3)] below meth c s₁ [] 0 0 := Stand.of_body Bd
 have e0 : s₁.heap = h0 := by rw [← hh, Bd.state]; rfl
 have N0 := Fr.nil n0
 show Ends _ _ _ _ s₁ (entryFrame m #[(.ref b104), (.int 3)] 2) (mkR 4 3 10 66).cells (mkR 4 3 10 66).slots (fun v h L => ∃ (b344 : Addr) (b345 : Addr) (b379 : Addr) (k345 : ClassId) (k380 : ClassId), v = some (.ref b344) ∧ Fr n0 L ∧ Keep h0 h [] ∧ h0.size ≤ b344 ∧ h0.size ≤ b345 ∧ h0.size ≤ b379 ∧ b344 ≠ b345 ∧ b344 ≠ b379 ∧ b345 ≠ b379 ∧ Exa Z h b344 cST ∧ Arv Z h b345 k345 .char (3 : Int32) [(.int c0_), (.int c1_), (.int c2_)] (.int 0) ∧ Arv Z h b379 k380 .byte (3 : Int32) [(yb c0_), (yb c1_), (yb c2_)] (.int 0) ∧ Fld Z h b344 cST "coder" "B" (.int 0) ∧ Fld Z h b344 cST "value" "[B" (.ref b379))
 refine Ends.go (fun _ k => castTop (ef2_ri m b104 (3 : Int32)) k) ?_
 obtain ⟨SCS, P5, SSF, RG3, HC1, HC2, HCW⟩ := id GF
 have K0 := Keep.refl h0 []
 show Ends _ _ _ _ s₁ (mkF m 0 #[cr b104, ci 3] []) _ _ _
 refine wilN X0 hx hby d2_0 rfl ?_
 refine wiy (pc := 1) (pc' := 15) X0 hx hby d2_1 ((if0 _ _).trans (feq (by decide : ¬ ((3 : Int32) = (0 : Int32)))).2) ?_
 refine wilN X0 hx hby d2_15 rfl ?_
 refine wic X0 hx hby d2_16 ?_
 refine wcy (pc := 17) (pc' := 37) X0 hx hby d2_17 (feq (by decide : ¬ ((3 : Int32) = (1 : Int32)))).2 ?_
 refine wilN X0 hx hby d2_37 rfl ?_
 refine wic X0 hx hby d2_38 ?_
 refine wcy (pc := 39) (pc' := 65) X0 hx hby d2_39 (feq (by decide : ¬ ((3 : Int32) = (2 : Int32)))).2 ?_
 refine wilN X0 hx hby d2_65 rfl ?_
 refine wic X0 hx hby d2_66 ?_
 refine wcn X0 hx hby d2_67 (teq (by decide : (3 : Int32) = (3 : Int32))).2 ?_
 obtain ⟨T344, h344, X344, e344, E344, A344, D344, -, st344⟩ := newO X0 hx hZ hown (ow hw 8 rfl) (ow hw 9 rfl) (ow hw 10 rfl) e0 (g := (mkF m 70 #[cr b104, ci 3] [])) rfl (hb hby d2_70) (by decide) (by decide)
 obtain ⟨b344, g344⟩ : ∃ z, z = h0.size := ⟨_, rfl⟩
 rw [← g344] at A344 D344 st344
 refine Ends.go st344 ?_
 have g_b344 : n0 ≤ b344 := Nat.le_trans (own_old_le O0) (Nat.le_of_eq g344.symm)
 have sz_b344 : h0.size ≤ b344 := Nat.le_trans K0.1 (Nat.le_of_eq g344.symm)
 have K344 := K0.ext E344
 have O344 := O0.ext E344
 have F_value_b344 : Fld Z h344 b344 cST "value" "[B" .null := D344 (Or.inr (ow hw 23 rfl)) (ty := (.array .byte)) (by decide)
 have F_coder_b344 : Fld Z h344 b344 cST "coder" "B" (.int 0) := D344 (Or.inr (ow hw 24 rfl)) (ty := .byte) (by decide)
 refine wdu X344 hx hby d2_73 rfl ?_
 refine wic X344 hx hby d2_74 ?_
 obtain ⟨T345, h345, k345, X345, e345, E345, A345, st345⟩ := newP X344 hx hZ (ow hw 0 rfl) e344 (g := (mkF m 75 #[cr b104, ci 3] [(.int 3), (.ref b344), (.ref b344)])) rfl (hb hby d2_75) rfl (by decide) (cap := 3) (by decide) (by decide) (by decide) (by decide)
 obtain ⟨b345, g345⟩ : ∃ z, z = h344.size := ⟨_, rfl⟩
 rw [← g345] at A345 st345
 refine Ends.go st345 ?_
 have g_b345 : n0 ≤ b345 := Nat.le_trans (own_old_le O344) (Nat.le_of_eq g345.symm)
 have sz_b345 : h0.size ≤ b345 := Nat.le_trans K344.1 (Nat.le_of_eq g345.symm)
 have K345 := K344.ext E345
 have O345 := O344.ext E345
 have V_b345 : Arv Z h345 b345 k345 .char (3 : Int32) [(.int 0), (.int 0), (.int 0)] (.int 0) := (Arv.new A345 (by decide)).pad (pad_rep [] (.int 0) 3)
 refine wdu X345 hx hby d2_77 rfl ?_
 refine wic X345 hx hby d2_78 ?_
 refine walN X345 hx hby d2_79 rfl rfl ?_
 refine wic X345 hx hby d2_80 ?_
 obtain ⟨cl346, Ar346, q346, S346, M346, H346, G346⟩ := id ((PV_b104.ext E344).ext E345)
 have hin346 := inb_of (j := (0 : Int32)) S346 ⟨by decide, by decide⟩
 refine Ends.go (X345.caload hx (j := (0 : Int32)) (v := (.int c0_)) (by rw [e345]; exact Ar346.1) (State.isArrayOf_alike hZ.alike Ar346.2.1) Ar346.2.2 hin346 (H346.at hin346 rfl) (g := (mkF m 81 #[cr b104, ci 3] [(.int 0), (.ref b104), (.int 0), (.ref b345), (.ref b345), (.ref b344), (.ref b344)])) rfl rfl (hb hby d2_81)) ?_
 obtain ⟨cl347, Ar347, q347, S347, M347, H347, G347⟩ := id V_b345
 have hin347 := inb_of (j := (0 : Int32)) S347 ⟨by decide, by decide⟩
 obtain ⟨T347, h347, X347, e347, W347, st347⟩ := stC X345 hx hZ e345 Ar347 (j := (0 : Int32)) hin347 (g := (mkF m 82 #[cr b104, ci 3] [(.int c0_), (.int 0), (.ref b345), (.ref b345), (.ref b344), (.ref b344)])) rfl rfl (hb hby d2_82)
 refine Ends.go st347 ?_
 have V347 : Arv Z h347 b345 k345 .char (3 : Int32) [(.int (nar .char c0_)), (.int 0), (.int 0)] (.int 0) := Arv.set Ar347 q347 S347 M347 H347 G347 (fits_nar_char _) W347 0 rfl (Nat.le_of_ble_eq_true rfl)
 rw [own_narc hc0_] at V347
 have K347 := K345.wr W347 (Or.inr sz_b345)
 have O347 := O345.wr W347 g_b345
 have N347 := Fr.snoc X347 N0 g_b345
 refine wdu X347 hx hby d2_83 rfl ?_
 refine wic X347 hx hby d2_84 ?_
 refine walN X347 hx hby d2_85 rfl rfl ?_
 refine wic X347 hx hby d2_86 ?_
 obtain ⟨cl348, Ar348, q348, S348, M348, H348, G348⟩ := id (((PV_b104.ext E344).ext E345).other W347 (Nat.ne_of_lt (Nat.lt_of_lt_of_le PV_b104.lt sz_b345)))
 have hin348 := inb_of (j := (1 : Int32)) S348 ⟨by decide, by decide⟩
 refine Ends.go (X347.caload hx (j := (1 : Int32)) (v := (.int c1_)) (by rw [e347]; exact Ar348.1) (State.isArrayOf_alike hZ.alike Ar348.2.1) Ar348.2.2 hin348 (H348.at hin348 rfl) (g := (mkF m 87 #[cr b104, ci 3] [(.int 1), (.ref b104), (.int 1), (.ref b345), (.ref b345), (.ref b344), (.ref b344)])) rfl rfl (hb hby d2_87)) ?_
 obtain ⟨cl349, Ar349, q349, S349, M349, H349, G349⟩ := id V347
 have hin349 := inb_of (j := (1 : Int32)) S349 ⟨by decide, by decide⟩
 obtain ⟨T349, h349, X349, e349, W349, st349⟩ := stC X347 hx hZ e347 Ar349 (j := (1 : Int32)) hin349 (g := (mkF m 88 #[cr b104, ci 3] [(.int c1_), (.int 1), (.ref b345), (.ref b345), (.ref b344), (.ref b344)])) rfl rfl (hb hby d2_88)
 refine Ends.go st349 ?_
 have V349 : Arv Z h349 b345 k345 .char (3 : Int32) [(.int c0_), (.int (nar .char c1_)), (.int 0)] (.int 0) := Arv.set Ar349 q349 S349 M349 H349 G349 (fits_nar_char _) W349 1 rfl (Nat.le_of_ble_eq_true rfl)
 rw [own_narc hc1_] at V349
 have K349 := K347.wr W349 (Or.inr sz_b345)
 have O349 := O347.wr W349 g_b345
 have N349 := Fr.snoc X349 N347 g_b345
 refine wdu X349 hx hby d2_89 rfl ?_
 refine wic X349 hx hby d2_90 ?_
 show Ends _ _ _ _ T349 (mkF m 91 #[cr b104, ci 3] [(.int 2), (.ref b345), (.ref b345), (.ref b344), (.ref b344)]) _ _ _
 refine walN X349 hx hby d2_91 rfl rfl ?_
 refine wic X349 hx hby d2_92 ?_
 obtain ⟨cl350, Ar350, q350, S350, M350, H350, G350⟩ := id ((((PV_b104.ext E344).ext E345).other W347 (Nat.ne_of_lt (Nat.lt_of_lt_of_le PV_b104.lt sz_b345))).other W349 (Nat.ne_of_lt (Nat.lt_of_lt_of_le PV_b104.lt sz_b345)))
 have hin350 := inb_of (j := (2 : Int32)) S350 ⟨by decide, by decide⟩
 refine Ends.go (X349.caload hx (j := (2 : Int32)) (v := (.int c2_)) (by rw [e349]; exact Ar350.1) (State.isArrayOf_alike hZ.alike Ar350.2.1) Ar350.2.2 hin350 (H350.at hin350 rfl) (g := (mkF m 93 #[cr b104, ci 3] [(.int 2), (.ref b104), (.int 2), (.ref b345), (.ref b345), (.ref b344), (.ref b344)])) rfl rfl (hb hby d2_93)) ?_
 obtain ⟨cl351, Ar351, q351, S351, M351, H351, G351⟩ := id V349
 have hin351 := inb_of (j := (2 : Int32)) S351 ⟨by decide, by decide⟩
 obtain ⟨T351, h351, X351, e351, W351, st351⟩ := stC X349 hx hZ e349 Ar351 (j := (2 : Int32)) hin351 (g := (mkF m 94 #[cr b104, ci 3] [(.int c2_), (.int 2), (.ref b345), (.ref b345), (.ref b344), (.ref b344)])) rfl rfl (hb hby d2_94)
 refine Ends.go st351 ?_
 have V351 : Arv Z h351 b345 k345 .char (3 : Int32) [(.int c0_), (.int c1_), (.int (nar .char c2_))] (.int 0) := Arv.set Ar351 q351 S351 M351 H351 G351 (fits_nar_char _) W351 2 rfl (Nat.le_of_ble_eq_true rfl)
 rw [own_narc hc2_] at V351
 have K351 := K349.wr W351 (Or.inr sz_b345)
 have O351 := O349.wr W351 g_b345
 have N351 := Fr.snoc X351 N349 g_b345
 have ne_b344_b345 : b344 ≠ b345 := Nat.ne_of_lt (Nat.lt_of_lt_of_le A344.lt (Nat.le_of_eq g345.symm))
 obtain ⟨_, _, ⟨T378, L378, k378, n378⟩, -, X378, ⟨Lc378, hQ378, l378, y378, z378⟩, st378⟩ := X351.specialBack hx (y := ym16) rfl hown (ov hZ hw 11 rfl) (ov hZ hw 12 rfl) (ov hZ hw 13 rfl) (by decide) (own_backOf (W := 1) (rx3_352 l Z a0 hw [] n0 h351 O351 G1 G3 GF b344 b345 k345 c0_ c1_ c2_ V351 ((((A344.ext E345).wr W347).wr W349).wr W351) ((((F_coder_b344.ext E345).other W347 (Or.inl ne_b344_b345)).other W349 (Or.inl ne_b344_b345)).other W351 (Or.inl ne_b344_b345)) ((((F_value_b344.ext E345).other W347 (Or.inl ne_b344_b345)).other W349 (Or.inl ne_b344_b345)).other W351 (Or.inl ne_b344_b345)) g_b344 hc0_ hc1_ hc2_) hZ (ow hw 13 rfl) (ow hw 10 rfl) (by decide) (by decide)) (g := (mkF m 95 #[cr b104, ci 3] [(.ref b345), (.ref b344), (.ref b344)])) rfl (by rw [hml]; rfl) (Steps.refl _) (a := b344) (argsL := [(.ref b345)]) (rest := [(.ref b344)]) (lenOf pdx_8 rfl) rfl (own_w rfl) (hb hby d2_95) (fun _ _ => ⟨rfl, e351, (by decide : 2 + 1 ≤ _), (by decide : 7 + 3 ≤ _)⟩)
 dsimp only [Pt.U, Pt.locs, Pt.cells, Pt.slots] at X378 l378 y378 z378 st378 hQ378
 subst l378 y378 z378
 obtain ⟨b379, k380, rfl, N378q, K378c, hb378_b379, Y378_0, Y378_1, Y378_2⟩ := hQ378
 have N378 := Fr.app N351 N378q
 refine Ends.go (fun _ k => st378.trans k) ?_
 have sz_b379 : h0.size ≤ b379 := Nat.le_trans K351.1 hb378_b379
 obtain ⟨h378, e378⟩ : ∃ z, T378.heap = z := ⟨_, rfl⟩
 rw [e378] at K378c Y378_0 Y378_1 Y378_2
 have K378 := K351.trans K378c (allS (Or.inr sz_b344) all0)
 refine Ends.ret X378 hx Bd.notSynchronized (t := (.object cST)) Bd.returns rfl (Or.inr (Or.inr (Or.inr (Or.inr ⟨rfl, rfl, rfl⟩)))) (hb hby d2_98) (by decide) (by decide) ?_
 rw [e378]
 have ne_b344_b379 : b344 ≠ b379 := Nat.ne_of_lt (Nat.lt_of_lt_of_le ((((A344.ext E345).wr W347).wr W349).wr W351).lt hb378_b379)
 have ne_b345_b379 : b345 ≠ b379 := Nat.ne_of_lt (Nat.lt_of_lt_of_le V351.lt hb378_b379)
 exact ⟨b344, b345, b379, k345, k380, rfl, N378, K378, sz_b344, sz_b345, sz_b379, ne_b344_b345, ne_b344_b379, ne_b345_b379, (((((A344.ext E345).wr W347).wr W349).wr W351).keep K378c), (V351.keep K378c (ninS (Ne.symm ne_b344_b345) nin0)), Y378_0, Y378_1, Y378_2⟩

theorem rx20_389 (l : Launch) (Z : State) (a0 : Array Value) (hw : HW a0 Z) (ws : List Jvm.Cond) (n0 : Nat) (h0 : Heap) (O0 : Old Z n0 h0) (G1 : Int32) (G3 : Value) (GF : GlobF Z a0 G1 G3) (b382 : Addr) (b384 : Addr) (k386 : ClassId) (c0_ : Int32) (c1_ : Int32) (c2_ : Int32) (PF_b382_value : Fld Z h0 b382 cST "value" "[B" (.ref b384)) (PV_b384 : Arv Z h0 b384 k386 .byte (3 : Int32) [(yb c0_), (yb c1_), (yb c2_)] (.int 0)) (PF_b382_coder : Fld Z h0 b382 cST "coder" "B" (.int 0)) (PE_b382 : Exa Z h0 b382 cST) :
  Meets1W l ym23 jdk_42_method_92_code 5 (some (.object cST)) ws (mkR 2 2 4 29) #[(.ref b382), (.int 0), (.int 0)] Z h0 true (fun v h L => ∃ (k395 : ClassId) (a396 : Addr) (a397 : Addr), v = some (.ref a396) ∧ Fr n0 L ∧ Keep h0 h [] ∧ Exa Z h a396 cST ∧ Fld Z h a396 cST "coder" "B" (.int 0) ∧ Fld Z h a396 cST "value" "[B" (.ref a397) ∧ Arv Z h a397 k395 .byte (0 : Int32) [] (.int 0)) := by
 refine MetFree.of_bodySF (plainFor_of_name pn20) hisR ?_
 intro p e s m args below meth c s₁ Bd hml0 hP hK
 obtain ⟨rfl, hZ, hh, hI⟩ := hP
 have hx := Bd.exec
 have hby := Bd.bytes
 have hml : c.maxLocals = 5 := hml0
 have hown : s.vm.findClass "java/lang/String" = some m.cls := findClass_of_methodNamed Bd.named
 have X0 : Stand p l e (mkR 2 2 4 29) s m #[(.ref b382), (.int 0), (.int 0)] below meth c s₁ [] 0 0 := Stand.of_body Bd
 have e0 : s₁.heap = h0 := by rw [← hh, Bd.state]; rfl
 have N0 := Fr.nil n0
 have hS0 := own_since0 s
 have hk0 : s.heap.size ≤ h0.size := Nat.le_of_eq (congrArg Array.size hh)
 show EndsW _ _ _ _ s₁ (entryFrame m #[(.ref b382), (.int 0), (.int 0)] 5) (mkR 2 2 4 29).cells (mkR 2 2 4 29).slots (fun v h L => ∃ (k395 : ClassId) (a396 : Addr) (a397 : Addr), v = some (.ref a396) ∧ Fr n0 L ∧ Keep h0 h [] ∧ Exa Z h a396 cST ∧ Fld Z h a396 cST "coder" "B" (.int 0) ∧ Fld Z h a396 cST "value" "[B" (.ref a397) ∧ Arv Z h a397 k395 .byte (0 : Int32) [] (.int 0))
 refine EndsW.go (fun _ k => castTop (ef20_rii m b382 (0 : Int32) (0 : Int32)) k) ?_
 obtain ⟨SCS, P5, SSF, RG3, HC1, HC2, HCW⟩ := id GF
 have K0 := Keep.refl h0 []
 show EndsW _ _ _ _ s₁ (mkF m 0 #[cr b382, ci 0, ci 0, cu, cu] []) _ _ _
 refine walNW X0 hx hby d20_0 rfl rfl ?_
 obtain ⟨cq390, kq390, q390a, q390b, q390c⟩ := isOf hZ e0 PE_b382
 obtain ⟨_, _, ⟨T390, L390, k390, n390⟩, -, X390, ⟨Lc390, hQ390, l390, y390, z390⟩, st390⟩ := X0.virtualBack hx (y := ym11) (z := ym11) hown (ov hZ hw 49 rfl) (ov hZ hw 50 rfl) (notFace_of_selects (args := #[]) (ov hZ hw 52 rfl)) (ov hZ hw 52 rfl) (ov hZ hw 51 rfl) (by decide) (own_backOf (W := 0) (rx10_73 l Z a0 hw [] n0 h0 O0 G1 G3 GF b382 b384 k386 c0_ c1_ c2_ PF_b382_value PV_b384 PF_b382_coder PE_b382) hZ (ow hw 53 rfl) (ow hw 10 rfl) (by decide) (by decide)) q390a q390c (g := (mkF m 1 #[cr b382, ci 0, ci 0, cu, cu] [(.ref b382)])) rfl (by rw [hml]; rfl) (Steps.refl _) (argsL := []) (rest := []) (lenOf pdx_4 rfl) rfl (own_w rfl) (hb hby d20_1) (fun _ _ => ⟨rfl, e0, (by decide : 0 + 0 ≤ _), (by decide : 0 + 0 ≤ _)⟩)
 dsimp only [Pt.U, Pt.locs, Pt.cells, Pt.slots] at X390 l390 y390 z390 st390 hQ390
 subst l390 y390 z390
 obtain ⟨rfl, N390q, K390c⟩ := hQ390
 have N390 := Fr.app N0 N390q
 refine EndsW.go (fun _ k => st390.trans k) ?_
 obtain ⟨h390, e390⟩ : ∃ z, T390.heap = z := ⟨_, rfl⟩
 rw [e390] at K390c
 have K390 := K0.trans K390c all0
 have O390 := O0.keep K390c all0
 refine wstNW X390 hx hby d20_4 (l' := #[cr b382, ci 0, ci 0, ci 3, cu]) rfl ?_
 refine wilNW X390 hx hby d20_5 rfl ?_
 refine wilNW X390 hx hby d20_6 rfl ?_
 refine wilNW X390 hx hby d20_7 rfl ?_
 obtain ⟨_, _, ⟨T391, L391, k391, n391⟩, -, X391, ⟨Lc391, hQ391, l391, y391, z391⟩, st391⟩ := Jvm.LawKit.callS X390 hx (y := ym4) hown (ov hZ hw 91 rfl) (ov hZ hw 92 rfl) (ov hZ hw 10 rfl) (ov hZ hw 93 rfl) (by decide) (own_backOf (W := 0) (rm_checkBoundsBeginEnd l Z a0 hw [] n0 h390 O390 (0 : Int32) (0 : Int32) (3 : Int32) G1 G3 GF (by decide) (by decide) (by decide)) hZ (ow hw 93 rfl) (ow hw 10 rfl) (by decide) (by decide)) (g := (mkF m 8 #[cr b382, ci 0, ci 0, ci 3, cu] [(.int 3), (.int 0), (.int 0)])) rfl (by rw [hml]; rfl) (argsL := [(.int 0), (.int 0), (.int 3)]) (rest := []) (lenOf pdx_15 rfl) rfl (own_w rfl) (hb hby d20_8) (fun _ _ => ⟨rfl, e390, (by decide : 0 + 0 ≤ _), (by decide : 0 + 0 ≤ _)⟩)
 dsimp only [Pt.U, Pt.locs, Pt.cells, Pt.slots] at X391 l391 y391 z391 st391 hQ391
 subst l391 y391 z391
 obtain ⟨rfl, N391q, e391q⟩ := hQ391
 have N391 := Fr.app N390 N391q
 refine EndsW.go st391 ?_
 refine wilNW X391 hx hby d20_11 rfl ?_
 refine winW X391 hx hby d20_12 ((if0 _ _).trans (teq (by decide : (0 : Int32) = (0 : Int32))).2) ?_
 refine wilNW X391 hx hby d20_15 rfl ?_
 refine wilNW X391 hx hby d20_16 rfl ?_
 refine wcyW (pc := 17) (pc' := 22) X391 hx hby d20_17 (feq (by decide : ¬ ((0 : Int32) = (3 : Int32)))).2 ?_
 refine wilNW X391 hx hby d20_22 rfl ?_
 refine wilNW X391 hx hby d20_23 rfl ?_
 refine wisW X391 hx hby d20_24 ?_
 refine wstW X391 hx hby d20_25 (l' := #[cr b382, ci 0, ci 0, ci 3, ci 0]) rfl ?_
 refine walNW X391 hx hby d20_27 rfl rfl ?_
 obtain ⟨cq392, kq392, q392a, q392b, q392c⟩ := isOf hZ e391q (PE_b382.keep K390c)
 obtain ⟨_, _, ⟨T392, L392, k392, n392⟩, -, X392, ⟨Lc392, hQ392, l392, y392, z392⟩, st392⟩ := X391.virtualBack hx (y := ym9) (z := ym9) hown (ov hZ hw 43 rfl) (ov hZ hw 44 rfl) (notFace_of_selects (args := #[]) (ov hZ hw 46 rfl)) (ov hZ hw 46 rfl) (ov hZ hw 45 rfl) (by decide) (own_backOf (W := 0) (rx9_8 l Z a0 hw [] n0 h390 O390 G1 G3 GF b382 (PF_b382_coder.keep K390c nin0)) hZ (ow hw 47 rfl) (ow hw 10 rfl) (by decide) (by decide)) q392a q392c (g := (mkF m 28 #[cr b382, ci 0, ci 0, ci 3, ci 0] [(.ref b382)])) rfl (by rw [hml]; rfl) (Steps.refl _) (argsL := []) (rest := []) (lenOf pdx_2 rfl) rfl (own_w rfl) (hb hby d20_28) (fun _ _ => ⟨rfl, e391q, (by decide : 0 + 0 ≤ _), (by decide : 0 + 0 ≤ _)⟩)
 dsimp only [Pt.U, Pt.locs, Pt.cells, Pt.slots] at X392 l392 y392 z392 st392 hQ392
 subst l392 y392 z392
 obtain ⟨rfl, N392q, K392c⟩ := hQ392
 have N392 := Fr.app N391 N392q
 refine EndsW.go (fun _ k => st392.trans k) ?_
 obtain ⟨h392, e392⟩ : ∃ z, T392.heap = z := ⟨_, rfl⟩
 rw [e392] at K392c
 have K392 := K390.trans K392c all0
 have O392 := O390.keep K392c all0
 refine winW X392 hx hby d20_31 ((if0 _ _).trans (feq (by decide : ¬ ((1 : Int32) = (0 : Int32)))).1) ?_
 refine walNW X392 hx hby d20_34 rfl rfl ?_
 obtain ⟨T393, X393, e393, st393⟩ := getF X392 hx hZ hown (host := "") (Or.inl (ow hw 27 rfl)) Via.refl e392 ((PF_b382_value.keep K390c nin0).keep K392c nin0) (g := (mkF m 35 #[cr b382, ci 0, ci 0, ci 3, ci 0] [(.ref b382)])) rfl rfl (hb hby d20_35)
 refine EndsW.go st393 ?_
 refine wilNW X393 hx hby d20_38 rfl ?_
 refine wilW X393 hx hby d20_39 rfl ?_
 obtain ⟨_, _, ⟨T394, L394, k394, n394⟩, -, X394, hSq394, hgq394, ⟨Lc394, hQ394, l394, y394, z394⟩, st394⟩ := callSS X393 hx (y := ym22) hown (ov hZ hw 99 rfl) (ov hZ hw 100 rfl) (ov hZ hw 61 rfl) (ov hZ hw 101 rfl) (by decide) (own_backOfS (W := 0) (rx23_184 l Z a0 hw [] n0 h392 O392 G1 G3 GF b384 ) hZ (ow hw 101 rfl) (ow hw 61 rfl) (by decide) (by decide) hI) (g := (mkF m 41 #[cr b382, ci 0, ci 0, ci 3, ci 0] [(.int 0), (.int 0), (.ref b384)])) rfl (by rw [hml]; rfl) (argsL := [(.ref b384), (.int 0), (.int 0)]) (rest := []) (lenOf pdx_16 rfl) rfl (own_w rfl) (hb hby d20_41) (fun _ _ => ⟨rfl, e393, (by decide : 0 + 2 ≤ _), (by decide : 0 + 4 ≤ _)⟩)
 dsimp only [Pt.U, Pt.locs, Pt.cells, Pt.slots] at X394 l394 y394 z394 st394 hQ394 hSq394 hgq394
 subst l394 y394 z394
 have hS394 := foldS hS0 (Nat.le_trans (Nat.le_trans (Nat.le_trans hk0 K390c.1) K392c.1) (Nat.le_of_eq (congrArg Array.size e393.symm))) hSq394 hgq394
 have hZ : Z.Warmed39 (s.setVm T394.vm).vm := State.Warmed39.trans (t := s.setVm s.vm) hZ hSq394.1
 have hown : (s.setVm T394.vm).vm.findClass "java/lang/String" = some m.cls := by rw [show (s.setVm T394.vm).vm = T394.vm from rfl, hSq394.1.alike.findClass]; exact hown
 obtain ⟨k395, a396, a397, rfl, N394q, K394c, Y394_0, Y394_1, Y394_2, Y394_3⟩ := hQ394
 have N394 := Fr.app N392 N394q
 refine EndsW.go (fun _ k => st394.trans k) ?_
 obtain ⟨h394, e394⟩ : ∃ z, T394.heap = z := ⟨_, rfl⟩
 rw [e394] at K394c Y394_0 Y394_1 Y394_2 Y394_3
 have K394 := K392.trans K394c all0
 refine wgoW (pc := 44) (pc' := 57) X394 hx hby d20_44 ?_
 refine EndsW.ret (s := s) (vm := T394.vm) X394 hx hS394 (Nat.le_trans (Nat.le_of_eq (congrArg Array.size e394)) (Nat.le_of_eq (congrArg Array.size e394.symm))) Bd.notSynchronized (t := (.object cST)) Bd.returns rfl (Or.inr (Or.inr (Or.inr (Or.inr ⟨rfl, rfl, rfl⟩)))) (hb hby d20_57) (by decide) (by decide) ?_
 rw [e394]
 exact ⟨k395, a396, a397, rfl, N394, K394, Y394_0, Y394_1, Y394_2, Y394_3⟩

theorem rx6_387 (l : Launch) (Z : State) (a0 : Array Value) (hw : HW a0 Z) (ws : List Jvm.Cond) (n0 : Nat) (h0 : Heap) (O0 : Old Z n0 h0) (G1 : Int32) (G3 : Value) (GF : GlobF Z a0 G1 G3) (b382 : Addr) (b384 : Addr) (k386 : ClassId) (c0_ : Int32) (c1_ : Int32) (c2_ : Int32) (PF_b382_value : Fld Z h0 b382 cST "value" "[B" (.ref b384)) (PE_b382 : Exa Z h0 b382 cST) (PF_b382_coder : Fld Z h0 b382 cST "coder" "B" (.int 0)) (PV_b384 : Arv Z h0 b384 k386 .byte (3 : Int32) [(yb c0_), (yb c1_), (yb c2_)] (.int 0)) (hq0_ : c0_ = (46 : Int32)) (hc0_ : 0 ≤ c0_.toInt ∧ c0_.toInt < 256) :
  Meets1W l ym18 prog_33_method_5_code 2 (some (.object cST)) ws (mkR 5 2 4 93) #[(.ref b382)] Z h0 true (fun v h L => ∃ (k399 : ClassId) (a400 : Addr) (a401 : Addr), v = some (.ref a400) ∧ Fr n0 L ∧ Keep h0 h [] ∧ Exa Z h a400 cST ∧ Fld Z h a400 cST "coder" "B" (.int 0) ∧ Fld Z h a400 cST "value" "[B" (.ref a401) ∧ Arv Z h a401 k399 .byte (0 : Int32) [] (.int 0)) := by
 refine MetFree.of_bodySF (plainFor_of_name pn6) hisR ?_
 intro p e s m args below meth c s₁ Bd hml0 hP hK
 obtain ⟨rfl, hZ, hh, hI⟩ := hP
 have hx := Bd.exec
 have hby := Bd.bytes
 have hml : c.maxLocals = 2 := hml0
 have hown : s.vm.findClass "com/example/wakeline/wakeline/format/shareplex/SharePlexMessage" = some m.cls := findClass_of_methodNamed Bd.named
 have X0 : Stand p l e (mkR 5 2 4 93) s m #[(.ref b382)] below meth c s₁ [] 0 0 := Stand.of_body Bd
 have e0 : s₁.heap = h0 := by rw [← hh, Bd.state]; rfl
 have N0 := Fr.nil n0
 have hS0 := own_since0 s
 have hk0 : s.heap.size ≤ h0.size := Nat.le_of_eq (congrArg Array.size hh)
 show EndsW _ _ _ _ s₁ (entryFrame m #[(.ref b382)] 2) (mkR 5 2 4 93).cells (mkR 5 2 4 93).slots (fun v h L => ∃ (k399 : ClassId) (a400 : Addr) (a401 : Addr), v = some (.ref a400) ∧ Fr n0 L ∧ Keep h0 h [] ∧ Exa Z h a400 cST ∧ Fld Z h a400 cST "coder" "B" (.int 0) ∧ Fld Z h a400 cST "value" "[B" (.ref a401) ∧ Arv Z h a401 k399 .byte (0 : Int32) [] (.int 0))
 refine EndsW.go (fun _ k => castTop (ef6_r m b382) k) ?_
 obtain ⟨SCS, P5, SSF, RG3, HC1, HC2, HCW⟩ := id GF
 have K0 := Keep.refl h0 []
 show EndsW _ _ _ _ s₁ (mkF m 0 #[cr b382, cu] []) _ _ _
 refine walNW X0 hx hby d6_0 rfl rfl ?_
 refine .go (fun _ => XS.ifnonnullYes X0.here hx rfl (pc0 := 1) (pc' := 8) rfl (hb hby d6_1) rfl (by decide) (by decide)) ?_
 refine walNW X0 hx hby d6_8 rfl rfl ?_
 refine wbpW X0 hx hby d6_9 ?_
 obtain ⟨cq388, kq388, q388a, q388b, q388c⟩ := isOf hZ e0 PE_b382
 obtain ⟨_, _, ⟨T388, L388, k388, n388⟩, -, X388, ⟨Lc388, hQ388, l388, y388, z388⟩, st388⟩ := X0.virtualBack hx (y := ym13) (z := ym13) hown (ov hZ hw 33 rfl) (ov hZ hw 34 rfl) (notFace_of_selects (args := #[]) (ov hZ hw 36 rfl)) (ov hZ hw 36 rfl) (ov hZ hw 35 rfl) (by decide) (own_backOf (W := 0) (rmI7_3 l Z a0 hw [] n0 h0 O0 G1 G3 GF b382 b384 k386 c0_ c1_ c2_ PE_b382 PF_b382_value PF_b382_coder PV_b384) hZ (ow hw 37 rfl) (ow hw 10 rfl) (by decide) (by decide)) q388a q388c (g := (mkF m 11 #[cr b382, cu] [(.int 46), (.ref b382)])) rfl (by rw [hml]; rfl) (Steps.refl _) (argsL := [(.int 46)]) (rest := []) (lenOf pdx_10 rfl) rfl (own_w rfl) (hb hby d6_11) (fun _ _ => ⟨rfl, e0, (by decide : 0 + 0 ≤ _), (by decide : 0 + 0 ≤ _)⟩)
 dsimp only [Pt.U, Pt.locs, Pt.cells, Pt.slots] at X388 l388 y388 z388 st388 hQ388
 subst l388 y388 z388
 obtain ⟨r388, rfl, N388q, K388c, hr388⟩ := hQ388
 have N388 := Fr.app N0 N388q
 refine EndsW.go (fun _ k => st388.trans k) ?_
 obtain ⟨h388, e388⟩ : ∃ z, T388.heap = z := ⟨_, rfl⟩
 rw [e388] at K388c
 have K388 := K0.trans K388c all0
 have O388 := O0.keep K388c all0
 obtain rfl : r388 = 0 := hr388.elim (fun z => z.1) (fun o1 => o1.elim (fun z => absurd ((own_b46 hc0_).mpr hq0_) z.2.1) (fun o2 => o2.elim (fun z => absurd ((own_b46 hc0_).mpr hq0_) z.2.1) (fun z => absurd ((own_b46 hc0_).mpr hq0_) z.2.1)))
 refine wstNW X388 hx hby d6_14 (l' := #[cr b382, ci 0]) rfl ?_
 refine wilNW X388 hx hby d6_15 rfl ?_
 refine wiyW (pc := 16) (pc' := 23) X388 hx hby d6_16 ((if0 _ _).trans (flt (by decide : ¬ ((0 : Int32) < (0 : Int32)))).2.1) ?_
 refine walNW X388 hx hby d6_23 rfl rfl ?_
 refine wicW X388 hx hby d6_24 ?_
 refine wilNW X388 hx hby d6_25 rfl ?_
 obtain ⟨cq398, kq398, q398a, q398b, q398c⟩ := isOf hZ e388 (PE_b382.keep K388c)
 obtain ⟨_, _, ⟨T398, L398, k398, n398⟩, -, X398, hSq398, hgq398, ⟨Lc398, hQ398, l398, y398, z398⟩, st398⟩ := X388.virtualBackS hx (y := ym23) (z := ym23) hown (ov hZ hw 86 rfl) (ov hZ hw 87 rfl) (notFace_of_selects (args := #[]) (ov hZ hw 89 rfl)) (ov hZ hw 89 rfl) (ov hZ hw 88 rfl) (by decide) (own_backOfS (W := 0) (rx20_389 l Z a0 hw [] n0 h388 O388 G1 G3 GF b382 b384 k386 c0_ c1_ c2_ (PF_b382_value.keep K388c nin0) (PV_b384.keep K388c nin0) (PF_b382_coder.keep K388c nin0) (PE_b382.keep K388c)) hZ (ow hw 90 rfl) (ow hw 10 rfl) (by decide) (by decide) hI) q398a q398c (g := (mkF m 26 #[cr b382, ci 0] [(.int 0), (.int 0), (.ref b382)])) rfl (by rw [hml]; rfl) (Steps.refl _) (argsL := [(.int 0), (.int 0)]) (rest := []) (lenOf pdx_17 rfl) rfl (own_w rfl) (hb hby d6_26) (fun _ _ => ⟨rfl, e388, (by decide : 0 + 2 ≤ _), (by decide : 0 + 4 ≤ _)⟩)
 dsimp only [Pt.U, Pt.locs, Pt.cells, Pt.slots] at X398 l398 y398 z398 st398 hQ398 hSq398 hgq398
 subst l398 y398 z398
 have hS398 := foldS hS0 (Nat.le_trans (Nat.le_trans hk0 K388c.1) (Nat.le_of_eq (congrArg Array.size e388.symm))) hSq398 hgq398
 have hZ : Z.Warmed39 (s.setVm T398.vm).vm := State.Warmed39.trans (t := s.setVm s.vm) hZ hSq398.1
 have hown : (s.setVm T398.vm).vm.findClass "com/example/wakeline/wakeline/format/shareplex/SharePlexMessage" = some m.cls := by rw [show (s.setVm T398.vm).vm = T398.vm from rfl, hSq398.1.alike.findClass]; exact hown
 obtain ⟨k399, a400, a401, rfl, N398q, K398c, Y398_0, Y398_1, Y398_2, Y398_3⟩ := hQ398
 have N398 := Fr.app N388 N398q
 refine EndsW.go (fun _ k => st398.trans k) ?_
 obtain ⟨h398, e398⟩ : ∃ z, T398.heap = z := ⟨_, rfl⟩
 rw [e398] at K398c Y398_0 Y398_1 Y398_2 Y398_3
 have K398 := K388.trans K398c all0
 refine EndsW.ret (s := s) (vm := T398.vm) X398 hx hS398 (Nat.le_trans (Nat.le_of_eq (congrArg Array.size e398)) (Nat.le_of_eq (congrArg Array.size e398.symm))) Bd.notSynchronized (t := (.object cST)) Bd.returns rfl (Or.inr (Or.inr (Or.inr (Or.inr ⟨rfl, rfl, rfl⟩)))) (hb hby d6_29) (by decide) (by decide) ?_
 rw [e398]
 exact ⟨k399, a400, a401, rfl, N398, K398, Y398_0, Y398_1, Y398_2, Y398_3⟩

theorem rx15_429 (l : Launch) (Z : State) (a0 : Array Value) (hw : HW a0 Z) (ws : List Jvm.Cond) (n0 : Nat) (h0 : Heap) (O0 : Old Z n0 h0)    :
  Meets1 l ym7 jdk_29_method_69_code 2 (some .int) ws (mkR 0 0 0 0) #[(.int 3), (.int 1)] Z h0 (fun v h L => v = some (.int 1) ∧ Fr n0 L ∧ Keep h0 h []) := by
 refine MetFree.of_bodySF (Jvm.Free.JP.mathPlain rfl (by decide +kernel)) hisR ?_
 intro p e s m args below meth c s₁ Bd hml0 hP hK
 obtain ⟨rfl, hZ, hh⟩ := hP
 have hx := Bd.exec
 have hby := Bd.bytes
 have X0 : Stand p l e (mkR 0 0 0 0) s m #[(.int 3), (.int 1)] below meth c s₁ [] 0 0 := Stand.of_body Bd
 have e0 : s₁.heap = h0 := by rw [← hh, Bd.state]; rfl
 have N0 := Fr.nil n0
 show Ends _ _ _ _ s₁ (entryFrame m #[(.int 3), (.int 1)] 2) (mkR 0 0 0 0).cells (mkR 0 0 0 0).slots (fun v h L => v = some (.int 1) ∧ Fr n0 L ∧ Keep h0 h [])
 refine Ends.go (fun _ k => castTop (ef15_ii m (3 : Int32) (1 : Int32)) k) ?_
 have K0 := Keep.refl h0 []
 show Ends _ _ _ _ s₁ (mkF m 0 #[ci 3, ci 1] []) _ _ _
 refine wilN X0 hx hby d15_0 rfl ?_
 refine wilN X0 hx hby d15_1 rfl ?_
 refine wcy (pc := 2) (pc' := 9) X0 hx hby d15_2 (tlt (by decide : (1 : Int32) < (3 : Int32))).2.2.1 ?_
 refine wilN X0 hx hby d15_9 rfl ?_
 refine Ends.ret X0 hx Bd.notSynchronized (t := .int) Bd.returns rfl (Or.inl ⟨rfl, by simp, _, rfl⟩) (hb hby d15_10) (by decide) (by decide) ?_
 rw [e0]
 exact ⟨rfl, N0, K0⟩

theorem rx25_425 (l : Launch) (Z : State) (a0 : Array Value) (hw : HW a0 Z) (ws : List Jvm.Cond) (n0 : Nat) (h0 : Heap) (O0 : Old Z n0 h0)  (b411 : Addr) (k413 : ClassId) (c0_ : Int32) (c1_ : Int32) (c2_ : Int32) (PV_b411 : Arv Z h0 b411 k413 .byte (3 : Int32) [(yb c0_), (yb c1_), (yb c2_)] (.int 0)) :
  Meets1 l ym25 jdk_65_method_133_code 5 (some (.array .byte)) ws (mkR 1 1 1 40) #[(.ref b411), (.int 0), (.int 1)] Z h0 (fun v h L => ∃ (b427 : Addr) (k427 : ClassId), v = some (.ref b427) ∧ Fr n0 L ∧ Keep h0 h [] ∧ h0.size ≤ b427 ∧ Arv Z h b427 k427 .byte (1 : Int32) [(yb c0_)] (.int 0)) := by
 refine MetFree.of_bodySF (plainFor_of_name pn25) hisR ?_
 intro p e s m args below meth c s₁ Bd hml0 hP hK
 obtain ⟨rfl, hZ, hh⟩ := hP
 have hx := Bd.exec
 have hby := Bd.bytes
 have hml : c.maxLocals = 5 := hml0
 have hown : s.vm.findClass "java/util/Arrays" = some m.cls := findClass_of_methodNamed Bd.named
 have X0 : Stand p l e (mkR 1 1 1 40) s m #[(.ref b411), (.int 0), (.int 1)] below meth c s₁ [] 0 0 := Stand.of_body Bd
 have e0 : s₁.heap = h0 := by rw [← hh, Bd.state]; rfl
 have N0 := Fr.nil n0
 show Ends _ _ _ _ s₁ (entryFrame m #[(.ref b411), (.int 0), (.int 1)] 5) (mkR 1 1 1 40).cells (mkR 1 1 1 40).slots (fun v h L => ∃ (b427 : Addr) (k427 : ClassId), v = some (.ref b427) ∧ Fr n0 L ∧ Keep h0 h [] ∧ h0.size ≤ b427 ∧ Arv Z h b427 k427 .byte (1 : Int32) [(yb c0_)] (.int 0))
 refine Ends.go (fun _ k => castTop (ef25_rii m b411 (0 : Int32) (1 : Int32)) k) ?_
 have K0 := Keep.refl h0 []
 show Ends _ _ _ _ s₁ (mkF m 0 #[cr b411, ci 0, ci 1, cu, cu] []) _ _ _
 refine wilN X0 hx hby d25_0 rfl ?_
 refine wilN X0 hx hby d25_1 rfl ?_
 obtain ⟨_, _, ⟨T426, L426, k426, n426⟩, -, X426, ⟨Lc426, hQ426, l426, y426, z426⟩, st426⟩ := Jvm.LawKit.callS X0 hx (y := ym24) hown (ov hZ hw 112 rfl) (ov hZ hw 113 rfl) (ov hZ hw 107 rfl) (ov hZ hw 114 rfl) (by decide) (own_backOf (W := 0) (rx26_289 l Z a0 hw [] n0 h0 O0   ) hZ (ow hw 114 rfl) (ow hw 107 rfl) (by decide) (by decide)) (g := (mkF m 2 #[cr b411, ci 0, ci 1, cu, cu] [(.int 1), (.int 0)])) rfl (by rw [hml]; rfl) (argsL := [(.int 0), (.int 1)]) (rest := []) (lenOf pdx_18 rfl) rfl (own_w rfl) (hb hby d25_2) (fun _ _ => ⟨rfl, e0, (by decide : 0 + 0 ≤ _), (by decide : 0 + 0 ≤ _)⟩)
 dsimp only [Pt.U, Pt.locs, Pt.cells, Pt.slots] at X426 l426 y426 z426 st426 hQ426
 subst l426 y426 z426
 obtain ⟨rfl, N426q, K426c⟩ := hQ426
 have N426 := Fr.app N0 N426q
 refine Ends.go st426 ?_
 obtain ⟨h426, e426⟩ : ∃ z, T426.heap = z := ⟨_, rfl⟩
 rw [e426] at K426c
 have K426 := K0.trans K426c all0
 have O426 := O0.keep K426c all0
 refine wilN X426 hx hby d25_5 rfl ?_
 refine wilN X426 hx hby d25_6 rfl ?_
 refine wis X426 hx hby d25_7 ?_
 refine wstN X426 hx hby d25_8 (l' := #[cr b411, ci 0, ci 1, ci 1, cu]) rfl ?_
 refine wilN X426 hx hby d25_9 rfl ?_
 obtain ⟨T427, h427, k427, X427, e427, E427, A427, st427⟩ := newP X426 hx hZ (ow hw 22 rfl) e426 (g := (mkF m 10 #[cr b411, ci 0, ci 1, ci 1, cu] [(.int 1)])) rfl (hb hby d25_10) rfl (by decide) (cap := 1) (by decide) (by decide) (by decide) (by decide)
 obtain ⟨b427, g427⟩ : ∃ z, z = h426.size := ⟨_, rfl⟩
 rw [← g427] at A427 st427
 refine Ends.go st427 ?_
 have g_b427 : n0 ≤ b427 := Nat.le_trans (own_old_le O426) (Nat.le_of_eq g427.symm)
 have sz_b427 : h0.size ≤ b427 := Nat.le_trans K426.1 (Nat.le_of_eq g427.symm)
 have K427 := K426.ext E427
 have O427 := O426.ext E427
 have V_b427 : Arv Z h427 b427 k427 .byte (1 : Int32) [(.int 0)] (.int 0) := (Arv.new A427 (by decide)).pad (pad_rep [] (.int 0) 1)
 refine was X427 hx hby d25_12 (l' := #[cr b411, ci 0, ci 1, ci 1, cr b427]) rfl rfl ?_
 refine walN X427 hx hby d25_14 rfl rfl ?_
 refine wilN X427 hx hby d25_15 rfl ?_
 refine wal X427 hx hby d25_16 rfl rfl ?_
 refine wic X427 hx hby d25_18 ?_
 refine walN X427 hx hby d25_19 rfl rfl ?_
 obtain ⟨cl428, Ar428, q428, S428, M428, H428, G428⟩ := id ((PV_b411.keep K426c nin0).ext E427)
 refine Ends.go (X427.arraylength hx (by rw [e427]; exact Ar428.1) (State.isArrayOf_alike hZ.alike Ar428.2.1) (g := (mkF m 20 #[cr b411, ci 0, ci 1, ci 1, cr b427] [(.ref b411), (.int 0), (.ref b427), (.int 0), (.ref b411)])) rfl rfl (hb hby d25_20)) ?_
 rw [len_of S428 M428]
 refine wilN X427 hx hby d25_21 rfl ?_
 refine wis X427 hx hby d25_22 ?_
 refine wilN X427 hx hby d25_23 rfl ?_
 obtain ⟨_, _, ⟨T430, L430, k430, n430⟩, -, X430, ⟨Lc430, hQ430, l430, y430, z430⟩, st430⟩ := Jvm.LawKit.callS X427 hx (y := ym7) hown (ov hZ hw 115 rfl) (ov hZ hw 71 rfl) (ov hZ hw 68 rfl) (ov hZ hw 72 rfl) (by decide) (own_backOf (W := 4) (rx15_429 l Z a0 hw [] n0 h427 O427   ) hZ (ow hw 72 rfl) (ow hw 68 rfl) (by decide) (by decide)) (g := (mkF m 24 #[cr b411, ci 0, ci 1, ci 1, cr b427] [(.int 1), (.int 3), (.int 0), (.ref b427), (.int 0), (.ref b411)])) rfl (by rw [hml]; rfl) (argsL := [(.int 3), (.int 1)]) (rest := [(.int 0), (.ref b427), (.int 0), (.ref b411)]) (lenOf pdx_1 rfl) rfl (own_w rfl) (hb hby d25_24) (fun _ _ => ⟨rfl, e427, (by decide : 1 + 0 ≤ _), (by decide : 1 + 0 ≤ _)⟩)
 dsimp only [Pt.U, Pt.locs, Pt.cells, Pt.slots] at X430 l430 y430 z430 st430 hQ430
 subst l430 y430 z430
 obtain ⟨rfl, N430q, K430c⟩ := hQ430
 have N430 := Fr.app N426 N430q
 refine Ends.go st430 ?_
 obtain ⟨h430, e430⟩ : ∃ z, T430.heap = z := ⟨_, rfl⟩
 rw [e430] at K430c
 have K430 := K427.trans K430c all0
 obtain ⟨T431, h431, L431, X431, e431, N431, K431c, V431, st431⟩ := cpA X430 hx hZ hown (ow hw 116 rfl) (ow hw 119 rfl) (ow hw 117 rfl) (ow hw 118 rfl) e430 (((PV_b411.keep K426c nin0).ext E427).keep K430c nin0) (V_b427.keep K430c nin0) (sp := (0 : Int32)) (dp := (0 : Int32)) (nn := (1 : Int32)) (us := [(yb c0_)]) (Or.inl ⟨rfl, rfl⟩) (by decide) (by decide) (by decide) (by decide) (by decide) rfl (by decide) N430 g_b427 (g := (mkF m 27 #[cr b411, ci 0, ci 1, ci 1, cr b427] [(.int 1), (.int 0), (.ref b427), (.int 0), (.ref b411)])) rfl (by rw [hml]; rfl) rfl (hb hby d25_27) (by decide) (W := 0) (own_w rfl) (by decide)
 refine Ends.go st431 ?_
 have K431 := K430.trans K431c (allS (Or.inr sz_b427) all0)
 have V431' : Arv Z h431 b427 k427 .byte (1 : Int32) [(yb c0_)] (.int 0) := V431
 refine wal X431 hx hby d25_30 rfl rfl ?_
 refine Ends.ret X431 hx Bd.notSynchronized (t := (.array .byte)) Bd.returns rfl (Or.inr (Or.inr (Or.inr (Or.inr ⟨rfl, rfl, rfl⟩)))) (hb hby d25_32) (by decide) (by decide) ?_
 rw [e431]
 exact ⟨b427, k427, rfl, N431, K431, sz_b427, V431'⟩

theorem rx24_423 (l : Launch) (Z : State) (a0 : Array Value) (hw : HW a0 Z) (ws : List Jvm.Cond) (n0 : Nat) (h0 : Heap) (O0 : Old Z n0 h0)  (b411 : Addr) (k413 : ClassId) (c0_ : Int32) (c1_ : Int32) (c2_ : Int32) (PV_b411 : Arv Z h0 b411 k413 .byte (3 : Int32) [(yb c0_), (yb c1_), (yb c2_)] (.int 0)) :
  Meets1 l ym26 jdk_65_method_132_code 3 (some (.array .byte)) ws (mkR 2 1 1 56) #[(.ref b411), (.int 0), (.int 1)] Z h0 (fun v h L => ∃ (b433 : Addr) (k434 : ClassId), v = some (.ref b433) ∧ Fr n0 L ∧ Keep h0 h [] ∧ h0.size ≤ b433 ∧ Arv Z h b433 k434 .byte (1 : Int32) [(yb c0_)] (.int 0)) := by
 refine MetFree.of_bodySF (plainFor_of_name pn24) hisR ?_
 intro p e s m args below meth c s₁ Bd hml0 hP hK
 obtain ⟨rfl, hZ, hh⟩ := hP
 have hx := Bd.exec
 have hby := Bd.bytes
 have hml : c.maxLocals = 3 := hml0
 have hown : s.vm.findClass "java/util/Arrays" = some m.cls := findClass_of_methodNamed Bd.named
 have X0 : Stand p l e (mkR 2 1 1 56) s m #[(.ref b411), (.int 0), (.int 1)] below meth c s₁ [] 0 0 := Stand.of_body Bd
 have e0 : s₁.heap = h0 := by rw [← hh, Bd.state]; rfl
 have N0 := Fr.nil n0
 show Ends _ _ _ _ s₁ (entryFrame m #[(.ref b411), (.int 0), (.int 1)] 3) (mkR 2 1 1 56).cells (mkR 2 1 1 56).slots (fun v h L => ∃ (b433 : Addr) (k434 : ClassId), v = some (.ref b433) ∧ Fr n0 L ∧ Keep h0 h [] ∧ h0.size ≤ b433 ∧ Arv Z h b433 k434 .byte (1 : Int32) [(yb c0_)] (.int 0))
 refine Ends.go (fun _ k => castTop (ef24_rii m b411 (0 : Int32) (1 : Int32)) k) ?_
 have K0 := Keep.refl h0 []
 show Ends _ _ _ _ s₁ (mkF m 0 #[cr b411, ci 0, ci 1] []) _ _ _
 refine wilN X0 hx hby d24_0 rfl ?_
 refine win X0 hx hby d24_1 ((if0 _ _).trans (teq (by decide : (0 : Int32) = (0 : Int32))).2) ?_
 refine wilN X0 hx hby d24_4 rfl ?_
 refine walN X0 hx hby d24_5 rfl rfl ?_
 obtain ⟨cl424, Ar424, q424, S424, M424, H424, G424⟩ := id PV_b411
 refine Ends.go (X0.arraylength hx (by rw [e0]; exact Ar424.1) (State.isArrayOf_alike hZ.alike Ar424.2.1) (g := (mkF m 6 #[cr b411, ci 0, ci 1] [(.ref b411), (.int 1)])) rfl rfl (hb hby d24_6)) ?_
 rw [len_of S424 M424]
 refine wcn X0 hx hby d24_7 (feq (by decide : ¬ ((1 : Int32) = (3 : Int32)))).1 ?_
 refine walN X0 hx hby d24_10 rfl rfl ?_
 refine wilN X0 hx hby d24_11 rfl ?_
 refine wilN X0 hx hby d24_12 rfl ?_
 obtain ⟨_, _, ⟨T432, L432, k432, n432⟩, -, X432, ⟨Lc432, hQ432, l432, y432, z432⟩, st432⟩ := Jvm.LawKit.callS X0 hx (y := ym25) hown (ov hZ hw 109 rfl) (ov hZ hw 110 rfl) (ov hZ hw 107 rfl) (ov hZ hw 111 rfl) (by decide) (own_backOf (W := 0) (rx25_425 l Z a0 hw [] n0 h0 O0  b411 k413 c0_ c1_ c2_ PV_b411) hZ (ow hw 111 rfl) (ow hw 107 rfl) (by decide) (by decide)) (g := (mkF m 13 #[cr b411, ci 0, ci 1] [(.int 1), (.int 0), (.ref b411)])) rfl (by rw [hml]; rfl) (argsL := [(.ref b411), (.int 0), (.int 1)]) (rest := []) (lenOf pdx_19 rfl) rfl (own_w rfl) (hb hby d24_13) (fun _ _ => ⟨rfl, e0, (by decide : 0 + 1 ≤ _), (by decide : 0 + 1 ≤ _)⟩)
 dsimp only [Pt.U, Pt.locs, Pt.cells, Pt.slots] at X432 l432 y432 z432 st432 hQ432
 subst l432 y432 z432
 obtain ⟨b433, k434, rfl, N432q, K432c, hb432_b433, Y432_0⟩ := hQ432
 have N432 := Fr.app N0 N432q
 refine Ends.go st432 ?_
 have sz_b433 : h0.size ≤ b433 := Nat.le_trans K0.1 hb432_b433
 obtain ⟨h432, e432⟩ : ∃ z, T432.heap = z := ⟨_, rfl⟩
 rw [e432] at K432c Y432_0
 have K432 := K0.trans K432c all0
 refine Ends.ret X432 hx Bd.notSynchronized (t := (.array .byte)) Bd.returns rfl (Or.inr (Or.inr (Or.inr (Or.inr ⟨rfl, rfl, rfl⟩)))) (hb hby d24_16) (by decide) (by decide) ?_
 rw [e432]
 exact ⟨b433, k434, rfl, N432, K432, sz_b433, Y432_0⟩

theorem rx23_421 (l : Launch) (Z : State) (a0 : Array Value) (hw : HW a0 Z) (ws : List Jvm.Cond) (n0 : Nat) (h0 : Heap) (O0 : Old Z n0 h0)  (b411 : Addr) (k413 : ClassId) (c0_ : Int32) (c1_ : Int32) (c2_ : Int32) (PV_b411 : Arv Z h0 b411 k413 .byte (3 : Int32) [(yb c0_), (yb c1_), (yb c2_)] (.int 0)) :
  Meets1 l ym22 jdk_43_method_47_code 3 (some (.object cST)) ws (mkR 3 2 5 72) #[(.ref b411), (.int 0), (.int 1)] Z h0 (fun v h L => ∃ (b422 : Addr) (b436 : Addr) (k437 : ClassId), v = some (.ref b422) ∧ Fr n0 L ∧ Keep h0 h [] ∧ h0.size ≤ b422 ∧ h0.size ≤ b436 ∧ b422 ≠ b436 ∧ Exa Z h b422 cST ∧ Arv Z h b436 k437 .byte (1 : Int32) [(yb c0_)] (.int 0) ∧ Fld Z h b422 cST "value" "[B" (.ref b436) ∧ Fld Z h b422 cST "coder" "B" (.int 0)) := by
 refine MetFree.of_bodySF (plainFor_of_name pn23) hisR ?_
 intro p e s m args below meth c s₁ Bd hml0 hP hK
 obtain ⟨rfl, hZ, hh⟩ := hP
 have hx := Bd.exec
 have hby := Bd.bytes
 have hml : c.maxLocals = 3 := hml0
 have hown : s.vm.findClass "java/lang/StringLatin1" = some m.cls := findClass_of_methodNamed Bd.named
 have X0 : Stand p l e (mkR 3 2 5 72) s m #[(.ref b411), (.int 0), (.int 1)] below meth c s₁ [] 0 0 := Stand.of_body Bd
 have e0 : s₁.heap = h0 := by rw [← hh, Bd.state]; rfl
 have N0 := Fr.nil n0
 show Ends _ _ _ _ s₁ (entryFrame m #[(.ref b411), (.int 0), (.int 1)] 3) (mkR 3 2 5 72).cells (mkR 3 2 5 72).slots (fun v h L => ∃ (b422 : Addr) (b436 : Addr) (k437 : ClassId), v = some (.ref b422) ∧ Fr n0 L ∧ Keep h0 h [] ∧ h0.size ≤ b422 ∧ h0.size ≤ b436 ∧ b422 ≠ b436 ∧ Exa Z h b422 cST ∧ Arv Z h b436 k437 .byte (1 : Int32) [(yb c0_)] (.int 0) ∧ Fld Z h b422 cST "value" "[B" (.ref b436) ∧ Fld Z h b422 cST "coder" "B" (.int 0))
 refine Ends.go (fun _ k => castTop (ef23_rii m b411 (0 : Int32) (1 : Int32)) k) ?_
 have K0 := Keep.refl h0 []
 show Ends _ _ _ _ s₁ (mkF m 0 #[cr b411, ci 0, ci 1] []) _ _ _
 refine wilN X0 hx hby d23_0 rfl ?_
 refine wiy (pc := 1) (pc' := 7) X0 hx hby d23_1 ((if0 _ _).trans (feq (by decide : ¬ ((1 : Int32) = (0 : Int32)))).2) ?_
 obtain ⟨T422, h422, X422, e422, E422, A422, D422, -, st422⟩ := newO X0 hx hZ hown (ow hw 104 rfl) (ow hw 9 rfl) (ow hw 10 rfl) e0 (g := (mkF m 7 #[cr b411, ci 0, ci 1] [])) rfl (hb hby d23_7) (by decide) (by decide)
 obtain ⟨b422, g422⟩ : ∃ z, z = h0.size := ⟨_, rfl⟩
 rw [← g422] at A422 D422 st422
 refine Ends.go st422 ?_
 have g_b422 : n0 ≤ b422 := Nat.le_trans (own_old_le O0) (Nat.le_of_eq g422.symm)
 have sz_b422 : h0.size ≤ b422 := Nat.le_trans K0.1 (Nat.le_of_eq g422.symm)
 have K422 := K0.ext E422
 have O422 := O0.ext E422
 have F_value_b422 : Fld Z h422 b422 cST "value" "[B" .null := D422 (Or.inr (ow hw 23 rfl)) (ty := (.array .byte)) (by decide)
 have F_coder_b422 : Fld Z h422 b422 cST "coder" "B" (.int 0) := D422 (Or.inr (ow hw 24 rfl)) (ty := .byte) (by decide)
 refine wdu X422 hx hby d23_10 rfl ?_
 refine walN X422 hx hby d23_11 rfl rfl ?_
 refine wilN X422 hx hby d23_12 rfl ?_
 refine wilN X422 hx hby d23_13 rfl ?_
 refine wilN X422 hx hby d23_14 rfl ?_
 refine wia X422 hx hby d23_15 ?_
 obtain ⟨_, _, ⟨T435, L435, k435, n435⟩, -, X435, ⟨Lc435, hQ435, l435, y435, z435⟩, st435⟩ := Jvm.LawKit.callS X422 hx (y := ym26) hown (ov hZ hw 105 rfl) (ov hZ hw 106 rfl) (ov hZ hw 107 rfl) (ov hZ hw 108 rfl) (by decide) (own_backOf (W := 2) (rx24_423 l Z a0 hw [] n0 h422 O422  b411 k413 c0_ c1_ c2_ (PV_b411.ext E422)) hZ (ow hw 108 rfl) (ow hw 107 rfl) (by decide) (by decide)) (g := (mkF m 16 #[cr b411, ci 0, ci 1] [(.int 1), (.int 0), (.ref b411), (.ref b422), (.ref b422)])) rfl (by rw [hml]; rfl) (argsL := [(.ref b411), (.int 0), (.int 1)]) (rest := [(.ref b422), (.ref b422)]) (lenOf pdx_19 rfl) rfl (own_w rfl) (hb hby d23_16) (fun _ _ => ⟨rfl, e422, (by decide : 1 + 1 ≤ _), (by decide : 4 + 1 ≤ _)⟩)
 dsimp only [Pt.U, Pt.locs, Pt.cells, Pt.slots] at X435 l435 y435 z435 st435 hQ435
 subst l435 y435 z435
 obtain ⟨b436, k437, rfl, N435q, K435c, hb435_b436, Y435_0⟩ := hQ435
 have N435 := Fr.app N0 N435q
 refine Ends.go st435 ?_
 have sz_b436 : h0.size ≤ b436 := Nat.le_trans K422.1 hb435_b436
 obtain ⟨h435, e435⟩ : ∃ z, T435.heap = z := ⟨_, rfl⟩
 rw [e435] at K435c Y435_0
 have K435 := K422.trans K435c all0
 have O435 := O422.keep K435c all0
 refine wic X435 hx hby d23_19 ?_
 obtain ⟨_, _, ⟨T438, L438, k438, n438⟩, -, X438, ⟨Lc438, hQ438, l438, y438, z438⟩, st438⟩ := X435.specialBack hx (y := ym27) rfl hown (ov hZ hw 120 rfl) (ov hZ hw 121 rfl) (ov hZ hw 122 rfl) (by decide) (own_backOf (W := 1) (rx27_302 l Z a0 hw [] n0 h435 O435  b422 b436 (A422.keep K435c) (F_value_b422.keep K435c nin0) (F_coder_b422.keep K435c nin0) g_b422) hZ (ow hw 122 rfl) (ow hw 10 rfl) (by decide) (by decide)) (g := (mkF m 20 #[cr b411, ci 0, ci 1] [(.int 0), (.ref b436), (.ref b422), (.ref b422)])) rfl (by rw [hml]; rfl) (Steps.refl _) (a := b422) (argsL := [(.ref b436), (.int 0)]) (rest := [(.ref b422)]) (lenOf pdx_20 rfl) rfl (own_w rfl) (hb hby d23_20) (fun _ _ => ⟨rfl, e435, (by decide : 2 + 0 ≤ _), (by decide : 5 + 0 ≤ _)⟩)
 dsimp only [Pt.U, Pt.locs, Pt.cells, Pt.slots] at X438 l438 y438 z438 st438 hQ438
 subst l438 y438 z438
 obtain ⟨rfl, N438q, K438c, Y438_0, Y438_1⟩ := hQ438
 have N438 := Fr.app N435 N438q
 refine Ends.go (fun _ k => st438.trans k) ?_
 obtain ⟨h438, e438⟩ : ∃ z, T438.heap = z := ⟨_, rfl⟩
 rw [e438] at K438c Y438_0 Y438_1
 have K438 := K435.trans K438c (allS (Or.inr sz_b422) all0)
 refine Ends.ret X438 hx Bd.notSynchronized (t := (.object cST)) Bd.returns rfl (Or.inr (Or.inr (Or.inr (Or.inr ⟨rfl, rfl, rfl⟩)))) (hb hby d23_23) (by decide) (by decide) ?_
 rw [e438]
 have ne_b422_b436 : b422 ≠ b436 := Nat.ne_of_lt (Nat.lt_of_lt_of_le A422.lt hb435_b436)
 exact ⟨b422, b436, k437, rfl, N438, K438, sz_b422, sz_b436, ne_b422_b436, ((A422.keep K435c).keep K438c), (Y435_0.keep K438c (ninS (Ne.symm ne_b422_b436) nin0)), Y438_0, Y438_1⟩

theorem rx20_416 (l : Launch) (Z : State) (a0 : Array Value) (hw : HW a0 Z) (ws : List Jvm.Cond) (n0 : Nat) (h0 : Heap) (O0 : Old Z n0 h0) (G1 : Int32) (G3 : Value) (GF : GlobF Z a0 G1 G3) (b409 : Addr) (b411 : Addr) (k413 : ClassId) (c0_ : Int32) (c1_ : Int32) (c2_ : Int32) (PF_b409_value : Fld Z h0 b409 cST "value" "[B" (.ref b411)) (PV_b411 : Arv Z h0 b411 k413 .byte (3 : Int32) [(yb c0_), (yb c1_), (yb c2_)] (.int 0)) (PF_b409_coder : Fld Z h0 b409 cST "coder" "B" (.int 0)) (PE_b409 : Exa Z h0 b409 cST) :
  Meets1 l ym23 jdk_42_method_92_code 5 (some (.object cST)) ws (mkR 4 2 5 86) #[(.ref b409), (.int 0), (.int 1)] Z h0 (fun v h L => ∃ (b440 : Addr) (b441 : Addr) (k442 : ClassId), v = some (.ref b440) ∧ Fr n0 L ∧ Keep h0 h [] ∧ h0.size ≤ b440 ∧ h0.size ≤ b441 ∧ b440 ≠ b441 ∧ Exa Z h b440 cST ∧ Arv Z h b441 k442 .byte (1 : Int32) [(yb c0_)] (.int 0) ∧ Fld Z h b440 cST "value" "[B" (.ref b441) ∧ Fld Z h b440 cST "coder" "B" (.int 0)) := by
 refine MetFree.of_bodySF (plainFor_of_name pn20) hisR ?_
 intro p e s m args below meth c s₁ Bd hml0 hP hK
 obtain ⟨rfl, hZ, hh⟩ := hP
 have hx := Bd.exec
 have hby := Bd.bytes
 have hml : c.maxLocals = 5 := hml0
 have hown : s.vm.findClass "java/lang/String" = some m.cls := findClass_of_methodNamed Bd.named
 have X0 : Stand p l e (mkR 4 2 5 86) s m #[(.ref b409), (.int 0), (.int 1)] below meth c s₁ [] 0 0 := Stand.of_body Bd
 have e0 : s₁.heap = h0 := by rw [← hh, Bd.state]; rfl
 have N0 := Fr.nil n0
 show Ends _ _ _ _ s₁ (entryFrame m #[(.ref b409), (.int 0), (.int 1)] 5) (mkR 4 2 5 86).cells (mkR 4 2 5 86).slots (fun v h L => ∃ (b440 : Addr) (b441 : Addr) (k442 : ClassId), v = some (.ref b440) ∧ Fr n0 L ∧ Keep h0 h [] ∧ h0.size ≤ b440 ∧ h0.size ≤ b441 ∧ b440 ≠ b441 ∧ Exa Z h b440 cST ∧ Arv Z h b441 k442 .byte (1 : Int32) [(yb c0_)] (.int 0) ∧ Fld Z h b440 cST "value" "[B" (.ref b441) ∧ Fld Z h b440 cST "coder" "B" (.int 0))
 refine Ends.go (fun _ k => castTop (ef20_rii m b409 (0 : Int32) (1 : Int32)) k) ?_
 obtain ⟨SCS, P5, SSF, RG3, HC1, HC2, HCW⟩ := id GF
 have K0 := Keep.refl h0 []
 show Ends _ _ _ _ s₁ (mkF m 0 #[cr b409, ci 0, ci 1, cu, cu] []) _ _ _
 refine walN X0 hx hby d20_0 rfl rfl ?_
 obtain ⟨cq417, kq417, q417a, q417b, q417c⟩ := isOf hZ e0 PE_b409
 obtain ⟨_, _, ⟨T417, L417, k417, n417⟩, -, X417, ⟨Lc417, hQ417, l417, y417, z417⟩, st417⟩ := X0.virtualBack hx (y := ym11) (z := ym11) hown (ov hZ hw 49 rfl) (ov hZ hw 50 rfl) (notFace_of_selects (args := #[]) (ov hZ hw 52 rfl)) (ov hZ hw 52 rfl) (ov hZ hw 51 rfl) (by decide) (own_backOf (W := 0) (rx10_73 l Z a0 hw [] n0 h0 O0 G1 G3 GF b409 b411 k413 c0_ c1_ c2_ PF_b409_value PV_b411 PF_b409_coder PE_b409) hZ (ow hw 53 rfl) (ow hw 10 rfl) (by decide) (by decide)) q417a q417c (g := (mkF m 1 #[cr b409, ci 0, ci 1, cu, cu] [(.ref b409)])) rfl (by rw [hml]; rfl) (Steps.refl _) (argsL := []) (rest := []) (lenOf pdx_4 rfl) rfl (own_w rfl) (hb hby d20_1) (fun _ _ => ⟨rfl, e0, (by decide : 0 + 0 ≤ _), (by decide : 0 + 0 ≤ _)⟩)
 dsimp only [Pt.U, Pt.locs, Pt.cells, Pt.slots] at X417 l417 y417 z417 st417 hQ417
 subst l417 y417 z417
 obtain ⟨rfl, N417q, K417c⟩ := hQ417
 have N417 := Fr.app N0 N417q
 refine Ends.go (fun _ k => st417.trans k) ?_
 obtain ⟨h417, e417⟩ : ∃ z, T417.heap = z := ⟨_, rfl⟩
 rw [e417] at K417c
 have K417 := K0.trans K417c all0
 have O417 := O0.keep K417c all0
 refine wstN X417 hx hby d20_4 (l' := #[cr b409, ci 0, ci 1, ci 3, cu]) rfl ?_
 refine wilN X417 hx hby d20_5 rfl ?_
 refine wilN X417 hx hby d20_6 rfl ?_
 refine wilN X417 hx hby d20_7 rfl ?_
 obtain ⟨_, _, ⟨T418, L418, k418, n418⟩, -, X418, ⟨Lc418, hQ418, l418, y418, z418⟩, st418⟩ := Jvm.LawKit.callS X417 hx (y := ym4) hown (ov hZ hw 91 rfl) (ov hZ hw 92 rfl) (ov hZ hw 10 rfl) (ov hZ hw 93 rfl) (by decide) (own_backOf (W := 0) (rm_checkBoundsBeginEnd l Z a0 hw [] n0 h417 O417 (0 : Int32) (1 : Int32) (3 : Int32) G1 G3 GF (by decide) (by decide) (by decide)) hZ (ow hw 93 rfl) (ow hw 10 rfl) (by decide) (by decide)) (g := (mkF m 8 #[cr b409, ci 0, ci 1, ci 3, cu] [(.int 3), (.int 1), (.int 0)])) rfl (by rw [hml]; rfl) (argsL := [(.int 0), (.int 1), (.int 3)]) (rest := []) (lenOf pdx_15 rfl) rfl (own_w rfl) (hb hby d20_8) (fun _ _ => ⟨rfl, e417, (by decide : 0 + 0 ≤ _), (by decide : 0 + 0 ≤ _)⟩)
 dsimp only [Pt.U, Pt.locs, Pt.cells, Pt.slots] at X418 l418 y418 z418 st418 hQ418
 subst l418 y418 z418
 obtain ⟨rfl, N418q, e418q⟩ := hQ418
 have N418 := Fr.app N417 N418q
 refine Ends.go st418 ?_
 refine wilN X418 hx hby d20_11 rfl ?_
 refine win X418 hx hby d20_12 ((if0 _ _).trans (teq (by decide : (0 : Int32) = (0 : Int32))).2) ?_
 refine wilN X418 hx hby d20_15 rfl ?_
 refine wilN X418 hx hby d20_16 rfl ?_
 refine wcy (pc := 17) (pc' := 22) X418 hx hby d20_17 (feq (by decide : ¬ ((1 : Int32) = (3 : Int32)))).2 ?_
 refine wilN X418 hx hby d20_22 rfl ?_
 refine wilN X418 hx hby d20_23 rfl ?_
 refine wis X418 hx hby d20_24 ?_
 refine wst X418 hx hby d20_25 (l' := #[cr b409, ci 0, ci 1, ci 3, ci 1]) rfl ?_
 refine walN X418 hx hby d20_27 rfl rfl ?_
 obtain ⟨cq419, kq419, q419a, q419b, q419c⟩ := isOf hZ e418q (PE_b409.keep K417c)
 obtain ⟨_, _, ⟨T419, L419, k419, n419⟩, -, X419, ⟨Lc419, hQ419, l419, y419, z419⟩, st419⟩ := X418.virtualBack hx (y := ym9) (z := ym9) hown (ov hZ hw 43 rfl) (ov hZ hw 44 rfl) (notFace_of_selects (args := #[]) (ov hZ hw 46 rfl)) (ov hZ hw 46 rfl) (ov hZ hw 45 rfl) (by decide) (own_backOf (W := 0) (rx9_8 l Z a0 hw [] n0 h417 O417 G1 G3 GF b409 (PF_b409_coder.keep K417c nin0)) hZ (ow hw 47 rfl) (ow hw 10 rfl) (by decide) (by decide)) q419a q419c (g := (mkF m 28 #[cr b409, ci 0, ci 1, ci 3, ci 1] [(.ref b409)])) rfl (by rw [hml]; rfl) (Steps.refl _) (argsL := []) (rest := []) (lenOf pdx_2 rfl) rfl (own_w rfl) (hb hby d20_28) (fun _ _ => ⟨rfl, e418q, (by decide : 0 + 0 ≤ _), (by decide : 0 + 0 ≤ _)⟩)
 dsimp only [Pt.U, Pt.locs, Pt.cells, Pt.slots] at X419 l419 y419 z419 st419 hQ419
 subst l419 y419 z419
 obtain ⟨rfl, N419q, K419c⟩ := hQ419
 have N419 := Fr.app N418 N419q
 refine Ends.go (fun _ k => st419.trans k) ?_
 obtain ⟨h419, e419⟩ : ∃ z, T419.heap = z := ⟨_, rfl⟩
 rw [e419] at K419c
 have K419 := K417.trans K419c all0
 have O419 := O417.keep K419c all0
 refine win X419 hx hby d20_31 ((if0 _ _).trans (feq (by decide : ¬ ((1 : Int32) = (0 : Int32)))).1) ?_
 refine walN X419 hx hby d20_34 rfl rfl ?_
 obtain ⟨T420, X420, e420, st420⟩ := getF X419 hx hZ hown (host := "") (Or.inl (ow hw 27 rfl)) Via.refl e419 ((PF_b409_value.keep K417c nin0).keep K419c nin0) (g := (mkF m 35 #[cr b409, ci 0, ci 1, ci 3, ci 1] [(.ref b409)])) rfl rfl (hb hby d20_35)
 refine Ends.go st420 ?_
 refine wilN X420 hx hby d20_38 rfl ?_
 refine wil X420 hx hby d20_39 rfl ?_
 obtain ⟨_, _, ⟨T439, L439, k439, n439⟩, -, X439, ⟨Lc439, hQ439, l439, y439, z439⟩, st439⟩ := Jvm.LawKit.callS X420 hx (y := ym22) hown (ov hZ hw 99 rfl) (ov hZ hw 100 rfl) (ov hZ hw 61 rfl) (ov hZ hw 101 rfl) (by decide) (own_backOf (W := 0) (rx23_421 l Z a0 hw [] n0 h419 O419  b411 k413 c0_ c1_ c2_ ((PV_b411.keep K417c nin0).keep K419c nin0)) hZ (ow hw 101 rfl) (ow hw 61 rfl) (by decide) (by decide)) (g := (mkF m 41 #[cr b409, ci 0, ci 1, ci 3, ci 1] [(.int 1), (.int 0), (.ref b411)])) rfl (by rw [hml]; rfl) (argsL := [(.ref b411), (.int 0), (.int 1)]) (rest := []) (lenOf pdx_16 rfl) rfl (own_w rfl) (hb hby d20_41) (fun _ _ => ⟨rfl, e420, (by decide : 0 + 2 ≤ _), (by decide : 0 + 5 ≤ _)⟩)
 dsimp only [Pt.U, Pt.locs, Pt.cells, Pt.slots] at X439 l439 y439 z439 st439 hQ439
 subst l439 y439 z439
 obtain ⟨b440, b441, k442, rfl, N439q, K439c, hb439_b440, hb439_b441, hne439_b440_b441, Y439_0, Y439_1, Y439_2, Y439_3⟩ := hQ439
 have N439 := Fr.app N419 N439q
 refine Ends.go st439 ?_
 have sz_b440 : h0.size ≤ b440 := Nat.le_trans K419.1 hb439_b440
 have sz_b441 : h0.size ≤ b441 := Nat.le_trans K419.1 hb439_b441
 obtain ⟨h439, e439⟩ : ∃ z, T439.heap = z := ⟨_, rfl⟩
 rw [e439] at K439c Y439_0 Y439_1 Y439_2 Y439_3
 have K439 := K419.trans K439c all0
 refine wgo (pc := 44) (pc' := 57) X439 hx hby d20_44 ?_
 refine Ends.ret X439 hx Bd.notSynchronized (t := (.object cST)) Bd.returns rfl (Or.inr (Or.inr (Or.inr (Or.inr ⟨rfl, rfl, rfl⟩)))) (hb hby d20_57) (by decide) (by decide) ?_
 rw [e439]
 exact ⟨b440, b441, k442, rfl, N439, K439, sz_b440, sz_b441, hne439_b440_b441, Y439_0, Y439_1, Y439_2, Y439_3⟩

theorem rx6_414 (l : Launch) (Z : State) (a0 : Array Value) (hw : HW a0 Z) (ws : List Jvm.Cond) (n0 : Nat) (h0 : Heap) (O0 : Old Z n0 h0) (G1 : Int32) (G3 : Value) (GF : GlobF Z a0 G1 G3) (b409 : Addr) (b411 : Addr) (k413 : ClassId) (c0_ : Int32) (c1_ : Int32) (c2_ : Int32) (PF_b409_value : Fld Z h0 b409 cST "value" "[B" (.ref b411)) (PE_b409 : Exa Z h0 b409 cST) (PF_b409_coder : Fld Z h0 b409 cST "coder" "B" (.int 0)) (PV_b411 : Arv Z h0 b411 k413 .byte (3 : Int32) [(yb c0_), (yb c1_), (yb c2_)] (.int 0)) (hq0_ : ¬ (c0_ = (46 : Int32))) (hq1_ : c1_ = (46 : Int32)) (hc0_ : 0 ≤ c0_.toInt ∧ c0_.toInt < 256) (hc1_ : 0 ≤ c1_.toInt ∧ c1_.toInt < 256) :
  Meets1 l ym18 prog_33_method_5_code 2 (some (.object cST)) ws (mkR 5 2 5 102) #[(.ref b409)] Z h0 (fun v h L => ∃ (b444 : Addr) (b445 : Addr) (k446 : ClassId), v = some (.ref b444) ∧ Fr n0 L ∧ Keep h0 h [] ∧ h0.size ≤ b444 ∧ h0.size ≤ b445 ∧ b444 ≠ b445 ∧ Exa Z h b444 cST ∧ Arv Z h b445 k446 .byte (1 : Int32) [(yb c0_)] (.int 0) ∧ Fld Z h b444 cST "value" "[B" (.ref b445) ∧ Fld Z h b444 cST "coder" "B" (.int 0)) := by
 refine MetFree.of_bodySF (plainFor_of_name pn6) hisR ?_
 intro p e s m args below meth c s₁ Bd hml0 hP hK
 obtain ⟨rfl, hZ, hh⟩ := hP
 have hx := Bd.exec
 have hby := Bd.bytes
 have hml : c.maxLocals = 2 := hml0
 have hown : s.vm.findClass "com/example/wakeline/wakeline/format/shareplex/SharePlexMessage" = some m.cls := findClass_of_methodNamed Bd.named
 have X0 : Stand p l e (mkR 5 2 5 102) s m #[(.ref b409)] below meth c s₁ [] 0 0 := Stand.of_body Bd
 have e0 : s₁.heap = h0 := by rw [← hh, Bd.state]; rfl
 have N0 := Fr.nil n0
 show Ends _ _ _ _ s₁ (entryFrame m #[(.ref b409)] 2) (mkR 5 2 5 102).cells (mkR 5 2 5 102).slots (fun v h L => ∃ (b444 : Addr) (b445 : Addr) (k446 : ClassId), v = some (.ref b444) ∧ Fr n0 L ∧ Keep h0 h [] ∧ h0.size ≤ b444 ∧ h0.size ≤ b445 ∧ b444 ≠ b445 ∧ Exa Z h b444 cST ∧ Arv Z h b445 k446 .byte (1 : Int32) [(yb c0_)] (.int 0) ∧ Fld Z h b444 cST "value" "[B" (.ref b445) ∧ Fld Z h b444 cST "coder" "B" (.int 0))
 refine Ends.go (fun _ k => castTop (ef6_r m b409) k) ?_
 obtain ⟨SCS, P5, SSF, RG3, HC1, HC2, HCW⟩ := id GF
 have K0 := Keep.refl h0 []
 show Ends _ _ _ _ s₁ (mkF m 0 #[cr b409, cu] []) _ _ _
 refine walN X0 hx hby d6_0 rfl rfl ?_
 refine .go (fun _ => XS.ifnonnullYes X0.here hx rfl (pc0 := 1) (pc' := 8) rfl (hb hby d6_1) rfl (by decide) (by decide)) ?_
 refine walN X0 hx hby d6_8 rfl rfl ?_
 refine wbp X0 hx hby d6_9 ?_
 obtain ⟨cq415, kq415, q415a, q415b, q415c⟩ := isOf hZ e0 PE_b409
 obtain ⟨_, _, ⟨T415, L415, k415, n415⟩, -, X415, ⟨Lc415, hQ415, l415, y415, z415⟩, st415⟩ := X0.virtualBack hx (y := ym13) (z := ym13) hown (ov hZ hw 33 rfl) (ov hZ hw 34 rfl) (notFace_of_selects (args := #[]) (ov hZ hw 36 rfl)) (ov hZ hw 36 rfl) (ov hZ hw 35 rfl) (by decide) (own_backOf (W := 0) (rmI7_3 l Z a0 hw [] n0 h0 O0 G1 G3 GF b409 b411 k413 c0_ c1_ c2_ PE_b409 PF_b409_value PF_b409_coder PV_b411) hZ (ow hw 37 rfl) (ow hw 10 rfl) (by decide) (by decide)) q415a q415c (g := (mkF m 11 #[cr b409, cu] [(.int 46), (.ref b409)])) rfl (by rw [hml]; rfl) (Steps.refl _) (argsL := [(.int 46)]) (rest := []) (lenOf pdx_10 rfl) rfl (own_w rfl) (hb hby d6_11) (fun _ _ => ⟨rfl, e0, (by decide : 0 + 0 ≤ _), (by decide : 0 + 0 ≤ _)⟩)
 dsimp only [Pt.U, Pt.locs, Pt.cells, Pt.slots] at X415 l415 y415 z415 st415 hQ415
 subst l415 y415 z415
 obtain ⟨r415, rfl, N415q, K415c, hr415⟩ := hQ415
 have N415 := Fr.app N0 N415q
 refine Ends.go (fun _ k => st415.trans k) ?_
 obtain ⟨h415, e415⟩ : ∃ z, T415.heap = z := ⟨_, rfl⟩
 rw [e415] at K415c
 have K415 := K0.trans K415c all0
 have O415 := O0.keep K415c all0
 obtain rfl : r415 = 1 := hr415.elim (fun z => absurd z.2 (fun q => hq0_ ((own_b46 hc0_).mp q))) (fun o1 => o1.elim (fun z => z.1) (fun o2 => o2.elim (fun z => absurd ((own_b46 hc1_).mpr hq1_) z.2.2.1) (fun z => absurd ((own_b46 hc1_).mpr hq1_) z.2.2.1)))
 refine wstN X415 hx hby d6_14 (l' := #[cr b409, ci 1]) rfl ?_
 refine wilN X415 hx hby d6_15 rfl ?_
 refine wiy (pc := 16) (pc' := 23) X415 hx hby d6_16 ((if0 _ _).trans (flt (by decide : ¬ ((1 : Int32) < (0 : Int32)))).2.1) ?_
 refine walN X415 hx hby d6_23 rfl rfl ?_
 refine wic X415 hx hby d6_24 ?_
 refine wilN X415 hx hby d6_25 rfl ?_
 obtain ⟨cq443, kq443, q443a, q443b, q443c⟩ := isOf hZ e415 (PE_b409.keep K415c)
 obtain ⟨_, _, ⟨T443, L443, k443, n443⟩, -, X443, ⟨Lc443, hQ443, l443, y443, z443⟩, st443⟩ := X415.virtualBack hx (y := ym23) (z := ym23) hown (ov hZ hw 86 rfl) (ov hZ hw 87 rfl) (notFace_of_selects (args := #[]) (ov hZ hw 89 rfl)) (ov hZ hw 89 rfl) (ov hZ hw 88 rfl) (by decide) (own_backOf (W := 0) (rx20_416 l Z a0 hw [] n0 h415 O415 G1 G3 GF b409 b411 k413 c0_ c1_ c2_ (PF_b409_value.keep K415c nin0) (PV_b411.keep K415c nin0) (PF_b409_coder.keep K415c nin0) (PE_b409.keep K415c)) hZ (ow hw 90 rfl) (ow hw 10 rfl) (by decide) (by decide)) q443a q443c (g := (mkF m 26 #[cr b409, ci 1] [(.int 1), (.int 0), (.ref b409)])) rfl (by rw [hml]; rfl) (Steps.refl _) (argsL := [(.int 0), (.int 1)]) (rest := []) (lenOf pdx_17 rfl) rfl (own_w rfl) (hb hby d6_26) (fun _ _ => ⟨rfl, e415, (by decide : 0 + 2 ≤ _), (by decide : 0 + 5 ≤ _)⟩)
 dsimp only [Pt.U, Pt.locs, Pt.cells, Pt.slots] at X443 l443 y443 z443 st443 hQ443
 subst l443 y443 z443
 obtain ⟨b444, b445, k446, rfl, N443q, K443c, hb443_b444, hb443_b445, hne443_b444_b445, Y443_0, Y443_1, Y443_2, Y443_3⟩ := hQ443
 have N443 := Fr.app N415 N443q
 refine Ends.go (fun _ k => st443.trans k) ?_
 have sz_b444 : h0.size ≤ b444 := Nat.le_trans K415.1 hb443_b444
 have sz_b445 : h0.size ≤ b445 := Nat.le_trans K415.1 hb443_b445
 obtain ⟨h443, e443⟩ : ∃ z, T443.heap = z := ⟨_, rfl⟩
 rw [e443] at K443c Y443_0 Y443_1 Y443_2 Y443_3
 have K443 := K415.trans K443c all0
 refine Ends.ret X443 hx Bd.notSynchronized (t := (.object cST)) Bd.returns rfl (Or.inr (Or.inr (Or.inr (Or.inr ⟨rfl, rfl, rfl⟩)))) (hb hby d6_29) (by decide) (by decide) ?_
 rw [e443]
 exact ⟨b444, b445, k446, rfl, N443, K443, sz_b444, sz_b445, hne443_b444_b445, Y443_0, Y443_1, Y443_2, Y443_3⟩

theorem rx26_474 (l : Launch) (Z : State) (a0 : Array Value) (hw : HW a0 Z) (ws : List Jvm.Cond) (n0 : Nat) (h0 : Heap) (O0 : Old Z n0 h0)    :
  Meets1 l ym24 jdk_65_method_131_code 2 none ws (mkR 0 0 0 0) #[(.int 0), (.int 2)] Z h0 (fun v h L => v = none ∧ Fr n0 L ∧ Keep h0 h []) := by
 refine MetFree.of_bodySF (plainFor_of_name pn26) hisR ?_
 intro p e s m args below meth c s₁ Bd hml0 hP hK
 obtain ⟨rfl, hZ, hh⟩ := hP
 have hx := Bd.exec
 have hby := Bd.bytes
 have X0 : Stand p l e (mkR 0 0 0 0) s m #[(.int 0), (.int 2)] below meth c s₁ [] 0 0 := Stand.of_body Bd
 have e0 : s₁.heap = h0 := by rw [← hh, Bd.state]; rfl
 have N0 := Fr.nil n0
 show Ends _ _ _ _ s₁ (entryFrame m #[(.int 0), (.int 2)] 2) (mkR 0 0 0 0).cells (mkR 0 0 0 0).slots (fun v h L => v = none ∧ Fr n0 L ∧ Keep h0 h [])
 refine Ends.go (fun _ k => castTop (ef26_ii m (0 : Int32) (2 : Int32)) k) ?_
 have K0 := Keep.refl h0 []
 show Ends _ _ _ _ s₁ (mkF m 0 #[ci 0, ci 2] []) _ _ _
 refine wilN X0 hx hby d26_0 rfl ?_
 refine wilN X0 hx hby d26_1 rfl ?_
 refine wcy (pc := 2) (pc' := 37) X0 hx hby d26_2 (flt (by decide : ¬ ((2 : Int32) < (0 : Int32)))).2.1 ?_
 refine Ends.retV X0 hx Bd.notSynchronized Bd.returns (hb hby d26_37) (by decide) (by decide) ?_
 rw [e0]
 exact ⟨rfl, N0, K0⟩

theorem rx15_478 (l : Launch) (Z : State) (a0 : Array Value) (hw : HW a0 Z) (ws : List Jvm.Cond) (n0 : Nat) (h0 : Heap) (O0 : Old Z n0 h0)    :
  Meets1 l ym7 jdk_29_method_69_code 2 (some .int) ws (mkR 0 0 0 0) #[(.int 3), (.int 2)] Z h0 (fun v h L => v = some (.int 2) ∧ Fr n0 L ∧ Keep h0 h []) := by
 refine MetFree.of_bodySF (Jvm.Free.JP.mathPlain rfl (by decide +kernel)) hisR ?_
 intro p e s m args below meth c s₁ Bd hml0 hP hK
 obtain ⟨rfl, hZ, hh⟩ := hP
 have hx := Bd.exec
 have hby := Bd.bytes
 have X0 : Stand p l e (mkR 0 0 0 0) s m #[(.int 3), (.int 2)] below meth c s₁ [] 0 0 := Stand.of_body Bd
 have e0 : s₁.heap = h0 := by rw [← hh, Bd.state]; rfl
 have N0 := Fr.nil n0
 show Ends _ _ _ _ s₁ (entryFrame m #[(.int 3), (.int 2)] 2) (mkR 0 0 0 0).cells (mkR 0 0 0 0).slots (fun v h L => v = some (.int 2) ∧ Fr n0 L ∧ Keep h0 h [])
 refine Ends.go (fun _ k => castTop (ef15_ii m (3 : Int32) (2 : Int32)) k) ?_
 have K0 := Keep.refl h0 []
 show Ends _ _ _ _ s₁ (mkF m 0 #[ci 3, ci 2] []) _ _ _
 refine wilN X0 hx hby d15_0 rfl ?_
 refine wilN X0 hx hby d15_1 rfl ?_
 refine wcy (pc := 2) (pc' := 9) X0 hx hby d15_2 (tlt (by decide : (2 : Int32) < (3 : Int32))).2.2.1 ?_
 refine wilN X0 hx hby d15_9 rfl ?_
 refine Ends.ret X0 hx Bd.notSynchronized (t := .int) Bd.returns rfl (Or.inl ⟨rfl, by simp, _, rfl⟩) (hb hby d15_10) (by decide) (by decide) ?_
 rw [e0]
 exact ⟨rfl, N0, K0⟩

theorem rx25_473 (l : Launch) (Z : State) (a0 : Array Value) (hw : HW a0 Z) (ws : List Jvm.Cond) (n0 : Nat) (h0 : Heap) (O0 : Old Z n0 h0)  (b459 : Addr) (k461 : ClassId) (c0_ : Int32) (c1_ : Int32) (c2_ : Int32) (PV_b459 : Arv Z h0 b459 k461 .byte (3 : Int32) [(yb c0_), (yb c1_), (yb c2_)] (.int 0)) :
  Meets1 l ym25 jdk_65_method_133_code 5 (some (.array .byte)) ws (mkR 1 1 2 40) #[(.ref b459), (.int 0), (.int 2)] Z h0 (fun v h L => ∃ (b476 : Addr) (k476 : ClassId), v = some (.ref b476) ∧ Fr n0 L ∧ Keep h0 h [] ∧ h0.size ≤ b476 ∧ Arv Z h b476 k476 .byte (2 : Int32) [(yb c0_), (yb c1_)] (.int 0)) := by
 refine MetFree.of_bodySF (plainFor_of_name pn25) hisR ?_
 intro p e s m args below meth c s₁ Bd hml0 hP hK
 obtain ⟨rfl, hZ, hh⟩ := hP
 have hx := Bd.exec
 have hby := Bd.bytes
 have hml : c.maxLocals = 5 := hml0
 have hown : s.vm.findClass "java/util/Arrays" = some m.cls := findClass_of_methodNamed Bd.named
 have X0 : Stand p l e (mkR 1 1 2 40) s m #[(.ref b459), (.int 0), (.int 2)] below meth c s₁ [] 0 0 := Stand.of_body Bd
 have e0 : s₁.heap = h0 := by rw [← hh, Bd.state]; rfl
 have N0 := Fr.nil n0
 show Ends _ _ _ _ s₁ (entryFrame m #[(.ref b459), (.int 0), (.int 2)] 5) (mkR 1 1 2 40).cells (mkR 1 1 2 40).slots (fun v h L => ∃ (b476 : Addr) (k476 : ClassId), v = some (.ref b476) ∧ Fr n0 L ∧ Keep h0 h [] ∧ h0.size ≤ b476 ∧ Arv Z h b476 k476 .byte (2 : Int32) [(yb c0_), (yb c1_)] (.int 0))
 refine Ends.go (fun _ k => castTop (ef25_rii m b459 (0 : Int32) (2 : Int32)) k) ?_
 have K0 := Keep.refl h0 []
 show Ends _ _ _ _ s₁ (mkF m 0 #[cr b459, ci 0, ci 2, cu, cu] []) _ _ _
 refine wilN X0 hx hby d25_0 rfl ?_
 refine wilN X0 hx hby d25_1 rfl ?_
 obtain ⟨_, _, ⟨T475, L475, k475, n475⟩, -, X475, ⟨Lc475, hQ475, l475, y475, z475⟩, st475⟩ := Jvm.LawKit.callS X0 hx (y := ym24) hown (ov hZ hw 112 rfl) (ov hZ hw 113 rfl) (ov hZ hw 107 rfl) (ov hZ hw 114 rfl) (by decide) (own_backOf (W := 0) (rx26_474 l Z a0 hw [] n0 h0 O0   ) hZ (ow hw 114 rfl) (ow hw 107 rfl) (by decide) (by decide)) (g := (mkF m 2 #[cr b459, ci 0, ci 2, cu, cu] [(.int 2), (.int 0)])) rfl (by rw [hml]; rfl) (argsL := [(.int 0), (.int 2)]) (rest := []) (lenOf pdx_18 rfl) rfl (own_w rfl) (hb hby d25_2) (fun _ _ => ⟨rfl, e0, (by decide : 0 + 0 ≤ _), (by decide : 0 + 0 ≤ _)⟩)
 dsimp only [Pt.U, Pt.locs, Pt.cells, Pt.slots] at X475 l475 y475 z475 st475 hQ475
 subst l475 y475 z475
 obtain ⟨rfl, N475q, K475c⟩ := hQ475
 have N475 := Fr.app N0 N475q
 refine Ends.go st475 ?_
 obtain ⟨h475, e475⟩ : ∃ z, T475.heap = z := ⟨_, rfl⟩
 rw [e475] at K475c
 have K475 := K0.trans K475c all0
 have O475 := O0.keep K475c all0
 refine wilN X475 hx hby d25_5 rfl ?_
 refine wilN X475 hx hby d25_6 rfl ?_
 refine wis X475 hx hby d25_7 ?_
 refine wstN X475 hx hby d25_8 (l' := #[cr b459, ci 0, ci 2, ci 2, cu]) rfl ?_
 refine wilN X475 hx hby d25_9 rfl ?_
 obtain ⟨T476, h476, k476, X476, e476, E476, A476, st476⟩ := newP X475 hx hZ (ow hw 22 rfl) e475 (g := (mkF m 10 #[cr b459, ci 0, ci 2, ci 2, cu] [(.int 2)])) rfl (hb hby d25_10) rfl (by decide) (cap := 2) (by decide) (by decide) (by decide) (by decide)
 obtain ⟨b476, g476⟩ : ∃ z, z = h475.size := ⟨_, rfl⟩
 rw [← g476] at A476 st476
 refine Ends.go st476 ?_
 have g_b476 : n0 ≤ b476 := Nat.le_trans (own_old_le O475) (Nat.le_of_eq g476.symm)
 have sz_b476 : h0.size ≤ b476 := Nat.le_trans K475.1 (Nat.le_of_eq g476.symm)
 have K476 := K475.ext E476
 have O476 := O475.ext E476
 have V_b476 : Arv Z h476 b476 k476 .byte (2 : Int32) [(.int 0), (.int 0)] (.int 0) := (Arv.new A476 (by decide)).pad (pad_rep [] (.int 0) 2)
 refine was X476 hx hby d25_12 (l' := #[cr b459, ci 0, ci 2, ci 2, cr b476]) rfl rfl ?_
 refine walN X476 hx hby d25_14 rfl rfl ?_
 refine wilN X476 hx hby d25_15 rfl ?_
 refine wal X476 hx hby d25_16 rfl rfl ?_
 refine wic X476 hx hby d25_18 ?_
 refine walN X476 hx hby d25_19 rfl rfl ?_
 obtain ⟨cl477, Ar477, q477, S477, M477, H477, G477⟩ := id ((PV_b459.keep K475c nin0).ext E476)
 refine Ends.go (X476.arraylength hx (by rw [e476]; exact Ar477.1) (State.isArrayOf_alike hZ.alike Ar477.2.1) (g := (mkF m 20 #[cr b459, ci 0, ci 2, ci 2, cr b476] [(.ref b459), (.int 0), (.ref b476), (.int 0), (.ref b459)])) rfl rfl (hb hby d25_20)) ?_
 rw [len_of S477 M477]
 refine wilN X476 hx hby d25_21 rfl ?_
 refine wis X476 hx hby d25_22 ?_
 refine wilN X476 hx hby d25_23 rfl ?_
 obtain ⟨_, _, ⟨T479, L479, k479, n479⟩, -, X479, ⟨Lc479, hQ479, l479, y479, z479⟩, st479⟩ := Jvm.LawKit.callS X476 hx (y := ym7) hown (ov hZ hw 115 rfl) (ov hZ hw 71 rfl) (ov hZ hw 68 rfl) (ov hZ hw 72 rfl) (by decide) (own_backOf (W := 4) (rx15_478 l Z a0 hw [] n0 h476 O476   ) hZ (ow hw 72 rfl) (ow hw 68 rfl) (by decide) (by decide)) (g := (mkF m 24 #[cr b459, ci 0, ci 2, ci 2, cr b476] [(.int 2), (.int 3), (.int 0), (.ref b476), (.int 0), (.ref b459)])) rfl (by rw [hml]; rfl) (argsL := [(.int 3), (.int 2)]) (rest := [(.int 0), (.ref b476), (.int 0), (.ref b459)]) (lenOf pdx_1 rfl) rfl (own_w rfl) (hb hby d25_24) (fun _ _ => ⟨rfl, e476, (by decide : 1 + 0 ≤ _), (by decide : 2 + 0 ≤ _)⟩)
 dsimp only [Pt.U, Pt.locs, Pt.cells, Pt.slots] at X479 l479 y479 z479 st479 hQ479
 subst l479 y479 z479
 obtain ⟨rfl, N479q, K479c⟩ := hQ479
 have N479 := Fr.app N475 N479q
 refine Ends.go st479 ?_
 obtain ⟨h479, e479⟩ : ∃ z, T479.heap = z := ⟨_, rfl⟩
 rw [e479] at K479c
 have K479 := K476.trans K479c all0
 obtain ⟨T480, h480, L480, X480, e480, N480, K480c, V480, st480⟩ := cpA X479 hx hZ hown (ow hw 116 rfl) (ow hw 119 rfl) (ow hw 117 rfl) (ow hw 118 rfl) e479 (((PV_b459.keep K475c nin0).ext E476).keep K479c nin0) (V_b476.keep K479c nin0) (sp := (0 : Int32)) (dp := (0 : Int32)) (nn := (2 : Int32)) (us := [(yb c0_), (yb c1_)]) (Or.inl ⟨rfl, rfl⟩) (by decide) (by decide) (by decide) (by decide) (by decide) rfl (by decide) N479 g_b476 (g := (mkF m 27 #[cr b459, ci 0, ci 2, ci 2, cr b476] [(.int 2), (.int 0), (.ref b476), (.int 0), (.ref b459)])) rfl (by rw [hml]; rfl) rfl (hb hby d25_27) (by decide) (W := 0) (own_w rfl) (by decide)
 refine Ends.go st480 ?_
 have K480 := K479.trans K480c (allS (Or.inr sz_b476) all0)
 have V480' : Arv Z h480 b476 k476 .byte (2 : Int32) [(yb c0_), (yb c1_)] (.int 0) := V480
 refine wal X480 hx hby d25_30 rfl rfl ?_
 refine Ends.ret X480 hx Bd.notSynchronized (t := (.array .byte)) Bd.returns rfl (Or.inr (Or.inr (Or.inr (Or.inr ⟨rfl, rfl, rfl⟩)))) (hb hby d25_32) (by decide) (by decide) ?_
 rw [e480]
 exact ⟨b476, k476, rfl, N480, K480, sz_b476, V480'⟩

theorem rx24_471 (l : Launch) (Z : State) (a0 : Array Value) (hw : HW a0 Z) (ws : List Jvm.Cond) (n0 : Nat) (h0 : Heap) (O0 : Old Z n0 h0)  (b459 : Addr) (k461 : ClassId) (c0_ : Int32) (c1_ : Int32) (c2_ : Int32) (PV_b459 : Arv Z h0 b459 k461 .byte (3 : Int32) [(yb c0_), (yb c1_), (yb c2_)] (.int 0)) :
  Meets1 l ym26 jdk_65_method_132_code 3 (some (.array .byte)) ws (mkR 2 1 2 56) #[(.ref b459), (.int 0), (.int 2)] Z h0 (fun v h L => ∃ (b482 : Addr) (k483 : ClassId), v = some (.ref b482) ∧ Fr n0 L ∧ Keep h0 h [] ∧ h0.size ≤ b482 ∧ Arv Z h b482 k483 .byte (2 : Int32) [(yb c0_), (yb c1_)] (.int 0)) := by
 refine MetFree.of_bodySF (plainFor_of_name pn24) hisR ?_
 intro p e s m args below meth c s₁ Bd hml0 hP hK
 obtain ⟨rfl, hZ, hh⟩ := hP
 have hx := Bd.exec
 have hby := Bd.bytes
 have hml : c.maxLocals = 3 := hml0
 have hown : s.vm.findClass "java/util/Arrays" = some m.cls := findClass_of_methodNamed Bd.named
 have X0 : Stand p l e (mkR 2 1 2 56) s m #[(.ref b459), (.int 0), (.int 2)] below meth c s₁ [] 0 0 := Stand.of_body Bd
 have e0 : s₁.heap = h0 := by rw [← hh, Bd.state]; rfl
 have N0 := Fr.nil n0
 show Ends _ _ _ _ s₁ (entryFrame m #[(.ref b459), (.int 0), (.int 2)] 3) (mkR 2 1 2 56).cells (mkR 2 1 2 56).slots (fun v h L => ∃ (b482 : Addr) (k483 : ClassId), v = some (.ref b482) ∧ Fr n0 L ∧ Keep h0 h [] ∧ h0.size ≤ b482 ∧ Arv Z h b482 k483 .byte (2 : Int32) [(yb c0_), (yb c1_)] (.int 0))
 refine Ends.go (fun _ k => castTop (ef24_rii m b459 (0 : Int32) (2 : Int32)) k) ?_
 have K0 := Keep.refl h0 []
 show Ends _ _ _ _ s₁ (mkF m 0 #[cr b459, ci 0, ci 2] []) _ _ _
 refine wilN X0 hx hby d24_0 rfl ?_
 refine win X0 hx hby d24_1 ((if0 _ _).trans (teq (by decide : (0 : Int32) = (0 : Int32))).2) ?_
 refine wilN X0 hx hby d24_4 rfl ?_
 refine walN X0 hx hby d24_5 rfl rfl ?_
 obtain ⟨cl472, Ar472, q472, S472, M472, H472, G472⟩ := id PV_b459
 refine Ends.go (X0.arraylength hx (by rw [e0]; exact Ar472.1) (State.isArrayOf_alike hZ.alike Ar472.2.1) (g := (mkF m 6 #[cr b459, ci 0, ci 2] [(.ref b459), (.int 2)])) rfl rfl (hb hby d24_6)) ?_
 rw [len_of S472 M472]
 refine wcn X0 hx hby d24_7 (feq (by decide : ¬ ((2 : Int32) = (3 : Int32)))).1 ?_
 refine walN X0 hx hby d24_10 rfl rfl ?_
 refine wilN X0 hx hby d24_11 rfl ?_
 refine wilN X0 hx hby d24_12 rfl ?_
 obtain ⟨_, _, ⟨T481, L481, k481, n481⟩, -, X481, ⟨Lc481, hQ481, l481, y481, z481⟩, st481⟩ := Jvm.LawKit.callS X0 hx (y := ym25) hown (ov hZ hw 109 rfl) (ov hZ hw 110 rfl) (ov hZ hw 107 rfl) (ov hZ hw 111 rfl) (by decide) (own_backOf (W := 0) (rx25_473 l Z a0 hw [] n0 h0 O0  b459 k461 c0_ c1_ c2_ PV_b459) hZ (ow hw 111 rfl) (ow hw 107 rfl) (by decide) (by decide)) (g := (mkF m 13 #[cr b459, ci 0, ci 2] [(.int 2), (.int 0), (.ref b459)])) rfl (by rw [hml]; rfl) (argsL := [(.ref b459), (.int 0), (.int 2)]) (rest := []) (lenOf pdx_19 rfl) rfl (own_w rfl) (hb hby d24_13) (fun _ _ => ⟨rfl, e0, (by decide : 0 + 1 ≤ _), (by decide : 0 + 2 ≤ _)⟩)
 dsimp only [Pt.U, Pt.locs, Pt.cells, Pt.slots] at X481 l481 y481 z481 st481 hQ481
 subst l481 y481 z481
 obtain ⟨b482, k483, rfl, N481q, K481c, hb481_b482, Y481_0⟩ := hQ481
 have N481 := Fr.app N0 N481q
 refine Ends.go st481 ?_
 have sz_b482 : h0.size ≤ b482 := Nat.le_trans K0.1 hb481_b482
 obtain ⟨h481, e481⟩ : ∃ z, T481.heap = z := ⟨_, rfl⟩
 rw [e481] at K481c Y481_0
 have K481 := K0.trans K481c all0
 refine Ends.ret X481 hx Bd.notSynchronized (t := (.array .byte)) Bd.returns rfl (Or.inr (Or.inr (Or.inr (Or.inr ⟨rfl, rfl, rfl⟩)))) (hb hby d24_16) (by decide) (by decide) ?_
 rw [e481]
 exact ⟨b482, k483, rfl, N481, K481, sz_b482, Y481_0⟩

theorem rx23_469 (l : Launch) (Z : State) (a0 : Array Value) (hw : HW a0 Z) (ws : List Jvm.Cond) (n0 : Nat) (h0 : Heap) (O0 : Old Z n0 h0)  (b459 : Addr) (k461 : ClassId) (c0_ : Int32) (c1_ : Int32) (c2_ : Int32) (PV_b459 : Arv Z h0 b459 k461 .byte (3 : Int32) [(yb c0_), (yb c1_), (yb c2_)] (.int 0)) :
  Meets1 l ym22 jdk_43_method_47_code 3 (some (.object cST)) ws (mkR 3 2 6 72) #[(.ref b459), (.int 0), (.int 2)] Z h0 (fun v h L => ∃ (b470 : Addr) (b485 : Addr) (k486 : ClassId), v = some (.ref b470) ∧ Fr n0 L ∧ Keep h0 h [] ∧ h0.size ≤ b470 ∧ h0.size ≤ b485 ∧ b470 ≠ b485 ∧ Exa Z h b470 cST ∧ Arv Z h b485 k486 .byte (2 : Int32) [(yb c0_), (yb c1_)] (.int 0) ∧ Fld Z h b470 cST "value" "[B" (.ref b485) ∧ Fld Z h b470 cST "coder" "B" (.int 0)) := by
 refine MetFree.of_bodySF (plainFor_of_name pn23) hisR ?_
 intro p e s m args below meth c s₁ Bd hml0 hP hK
 obtain ⟨rfl, hZ, hh⟩ := hP
 have hx := Bd.exec
 have hby := Bd.bytes
 have hml : c.maxLocals = 3 := hml0
 have hown : s.vm.findClass "java/lang/StringLatin1" = some m.cls := findClass_of_methodNamed Bd.named
 have X0 : Stand p l e (mkR 3 2 6 72) s m #[(.ref b459), (.int 0), (.int 2)] below meth c s₁ [] 0 0 := Stand.of_body Bd
 have e0 : s₁.heap = h0 := by rw [← hh, Bd.state]; rfl
 have N0 := Fr.nil n0
 show Ends _ _ _ _ s₁ (entryFrame m #[(.ref b459), (.int 0), (.int 2)] 3) (mkR 3 2 6 72).cells (mkR 3 2 6 72).slots (fun v h L => ∃ (b470 : Addr) (b485 : Addr) (k486 : ClassId), v = some (.ref b470) ∧ Fr n0 L ∧ Keep h0 h [] ∧ h0.size ≤ b470 ∧ h0.size ≤ b485 ∧ b470 ≠ b485 ∧ Exa Z h b470 cST ∧ Arv Z h b485 k486 .byte (2 : Int32) [(yb c0_), (yb c1_)] (.int 0) ∧ Fld Z h b470 cST "value" "[B" (.ref b485) ∧ Fld Z h b470 cST "coder" "B" (.int 0))
 refine Ends.go (fun _ k => castTop (ef23_rii m b459 (0 : Int32) (2 : Int32)) k) ?_
 have K0 := Keep.refl h0 []
 show Ends _ _ _ _ s₁ (mkF m 0 #[cr b459, ci 0, ci 2] []) _ _ _
 refine wilN X0 hx hby d23_0 rfl ?_
 refine wiy (pc := 1) (pc' := 7) X0 hx hby d23_1 ((if0 _ _).trans (feq (by decide : ¬ ((2 : Int32) = (0 : Int32)))).2) ?_
 obtain ⟨T470, h470, X470, e470, E470, A470, D470, -, st470⟩ := newO X0 hx hZ hown (ow hw 104 rfl) (ow hw 9 rfl) (ow hw 10 rfl) e0 (g := (mkF m 7 #[cr b459, ci 0, ci 2] [])) rfl (hb hby d23_7) (by decide) (by decide)
 obtain ⟨b470, g470⟩ : ∃ z, z = h0.size := ⟨_, rfl⟩
 rw [← g470] at A470 D470 st470
 refine Ends.go st470 ?_
 have g_b470 : n0 ≤ b470 := Nat.le_trans (own_old_le O0) (Nat.le_of_eq g470.symm)
 have sz_b470 : h0.size ≤ b470 := Nat.le_trans K0.1 (Nat.le_of_eq g470.symm)
 have K470 := K0.ext E470
 have O470 := O0.ext E470
 have F_value_b470 : Fld Z h470 b470 cST "value" "[B" .null := D470 (Or.inr (ow hw 23 rfl)) (ty := (.array .byte)) (by decide)
 have F_coder_b470 : Fld Z h470 b470 cST "coder" "B" (.int 0) := D470 (Or.inr (ow hw 24 rfl)) (ty := .byte) (by decide)
 refine wdu X470 hx hby d23_10 rfl ?_
 refine walN X470 hx hby d23_11 rfl rfl ?_
 refine wilN X470 hx hby d23_12 rfl ?_
 refine wilN X470 hx hby d23_13 rfl ?_
 refine wilN X470 hx hby d23_14 rfl ?_
 refine wia X470 hx hby d23_15 ?_
 obtain ⟨_, _, ⟨T484, L484, k484, n484⟩, -, X484, ⟨Lc484, hQ484, l484, y484, z484⟩, st484⟩ := Jvm.LawKit.callS X470 hx (y := ym26) hown (ov hZ hw 105 rfl) (ov hZ hw 106 rfl) (ov hZ hw 107 rfl) (ov hZ hw 108 rfl) (by decide) (own_backOf (W := 2) (rx24_471 l Z a0 hw [] n0 h470 O470  b459 k461 c0_ c1_ c2_ (PV_b459.ext E470)) hZ (ow hw 108 rfl) (ow hw 107 rfl) (by decide) (by decide)) (g := (mkF m 16 #[cr b459, ci 0, ci 2] [(.int 2), (.int 0), (.ref b459), (.ref b470), (.ref b470)])) rfl (by rw [hml]; rfl) (argsL := [(.ref b459), (.int 0), (.int 2)]) (rest := [(.ref b470), (.ref b470)]) (lenOf pdx_19 rfl) rfl (own_w rfl) (hb hby d23_16) (fun _ _ => ⟨rfl, e470, (by decide : 1 + 1 ≤ _), (by decide : 4 + 2 ≤ _)⟩)
 dsimp only [Pt.U, Pt.locs, Pt.cells, Pt.slots] at X484 l484 y484 z484 st484 hQ484
 subst l484 y484 z484
 obtain ⟨b485, k486, rfl, N484q, K484c, hb484_b485, Y484_0⟩ := hQ484
 have N484 := Fr.app N0 N484q
 refine Ends.go st484 ?_
 have sz_b485 : h0.size ≤ b485 := Nat.le_trans K470.1 hb484_b485
 obtain ⟨h484, e484⟩ : ∃ z, T484.heap = z := ⟨_, rfl⟩
 rw [e484] at K484c Y484_0
 have K484 := K470.trans K484c all0
 have O484 := O470.keep K484c all0
 refine wic X484 hx hby d23_19 ?_
 obtain ⟨_, _, ⟨T487, L487, k487, n487⟩, -, X487, ⟨Lc487, hQ487, l487, y487, z487⟩, st487⟩ := X484.specialBack hx (y := ym27) rfl hown (ov hZ hw 120 rfl) (ov hZ hw 121 rfl) (ov hZ hw 122 rfl) (by decide) (own_backOf (W := 1) (rx27_302 l Z a0 hw [] n0 h484 O484  b470 b485 (A470.keep K484c) (F_value_b470.keep K484c nin0) (F_coder_b470.keep K484c nin0) g_b470) hZ (ow hw 122 rfl) (ow hw 10 rfl) (by decide) (by decide)) (g := (mkF m 20 #[cr b459, ci 0, ci 2] [(.int 0), (.ref b485), (.ref b470), (.ref b470)])) rfl (by rw [hml]; rfl) (Steps.refl _) (a := b470) (argsL := [(.ref b485), (.int 0)]) (rest := [(.ref b470)]) (lenOf pdx_20 rfl) rfl (own_w rfl) (hb hby d23_20) (fun _ _ => ⟨rfl, e484, (by decide : 2 + 0 ≤ _), (by decide : 6 + 0 ≤ _)⟩)
 dsimp only [Pt.U, Pt.locs, Pt.cells, Pt.slots] at X487 l487 y487 z487 st487 hQ487
 subst l487 y487 z487
 obtain ⟨rfl, N487q, K487c, Y487_0, Y487_1⟩ := hQ487
 have N487 := Fr.app N484 N487q
 refine Ends.go (fun _ k => st487.trans k) ?_
 obtain ⟨h487, e487⟩ : ∃ z, T487.heap = z := ⟨_, rfl⟩
 rw [e487] at K487c Y487_0 Y487_1
 have K487 := K484.trans K487c (allS (Or.inr sz_b470) all0)
 refine Ends.ret X487 hx Bd.notSynchronized (t := (.object cST)) Bd.returns rfl (Or.inr (Or.inr (Or.inr (Or.inr ⟨rfl, rfl, rfl⟩)))) (hb hby d23_23) (by decide) (by decide) ?_
 rw [e487]
 have ne_b470_b485 : b470 ≠ b485 := Nat.ne_of_lt (Nat.lt_of_lt_of_le A470.lt hb484_b485)
 exact ⟨b470, b485, k486, rfl, N487, K487, sz_b470, sz_b485, ne_b470_b485, ((A470.keep K484c).keep K487c), (Y484_0.keep K487c (ninS (Ne.symm ne_b470_b485) nin0)), Y487_0, Y487_1⟩

theorem rx20_464 (l : Launch) (Z : State) (a0 : Array Value) (hw : HW a0 Z) (ws : List Jvm.Cond) (n0 : Nat) (h0 : Heap) (O0 : Old Z n0 h0) (G1 : Int32) (G3 : Value) (GF : GlobF Z a0 G1 G3) (b457 : Addr) (b459 : Addr) (k461 : ClassId) (c0_ : Int32) (c1_ : Int32) (c2_ : Int32) (PF_b457_value : Fld Z h0 b457 cST "value" "[B" (.ref b459)) (PV_b459 : Arv Z h0 b459 k461 .byte (3 : Int32) [(yb c0_), (yb c1_), (yb c2_)] (.int 0)) (PF_b457_coder : Fld Z h0 b457 cST "coder" "B" (.int 0)) (PE_b457 : Exa Z h0 b457 cST) :
  Meets1 l ym23 jdk_42_method_92_code 5 (some (.object cST)) ws (mkR 4 2 6 86) #[(.ref b457), (.int 0), (.int 2)] Z h0 (fun v h L => ∃ (b489 : Addr) (b490 : Addr) (k491 : ClassId), v = some (.ref b489) ∧ Fr n0 L ∧ Keep h0 h [] ∧ h0.size ≤ b489 ∧ h0.size ≤ b490 ∧ b489 ≠ b490 ∧ Exa Z h b489 cST ∧ Arv Z h b490 k491 .byte (2 : Int32) [(yb c0_), (yb c1_)] (.int 0) ∧ Fld Z h b489 cST "value" "[B" (.ref b490) ∧ Fld Z h b489 cST "coder" "B" (.int 0)) := by
 refine MetFree.of_bodySF (plainFor_of_name pn20) hisR ?_
 intro p e s m args below meth c s₁ Bd hml0 hP hK
 obtain ⟨rfl, hZ, hh⟩ := hP
 have hx := Bd.exec
 have hby := Bd.bytes
 have hml : c.maxLocals = 5 := hml0
 have hown : s.vm.findClass "java/lang/String" = some m.cls := findClass_of_methodNamed Bd.named
 have X0 : Stand p l e (mkR 4 2 6 86) s m #[(.ref b457), (.int 0), (.int 2)] below meth c s₁ [] 0 0 := Stand.of_body Bd
 have e0 : s₁.heap = h0 := by rw [← hh, Bd.state]; rfl
 have N0 := Fr.nil n0
 show Ends _ _ _ _ s₁ (entryFrame m #[(.ref b457), (.int 0), (.int 2)] 5) (mkR 4 2 6 86).cells (mkR 4 2 6 86).slots (fun v h L => ∃ (b489 : Addr) (b490 : Addr) (k491 : ClassId), v = some (.ref b489) ∧ Fr n0 L ∧ Keep h0 h [] ∧ h0.size ≤ b489 ∧ h0.size ≤ b490 ∧ b489 ≠ b490 ∧ Exa Z h b489 cST ∧ Arv Z h b490 k491 .byte (2 : Int32) [(yb c0_), (yb c1_)] (.int 0) ∧ Fld Z h b489 cST "value" "[B" (.ref b490) ∧ Fld Z h b489 cST "coder" "B" (.int 0))
 refine Ends.go (fun _ k => castTop (ef20_rii m b457 (0 : Int32) (2 : Int32)) k) ?_
 obtain ⟨SCS, P5, SSF, RG3, HC1, HC2, HCW⟩ := id GF
 have K0 := Keep.refl h0 []
 show Ends _ _ _ _ s₁ (mkF m 0 #[cr b457, ci 0, ci 2, cu, cu] []) _ _ _
 refine walN X0 hx hby d20_0 rfl rfl ?_
 obtain ⟨cq465, kq465, q465a, q465b, q465c⟩ := isOf hZ e0 PE_b457
 obtain ⟨_, _, ⟨T465, L465, k465, n465⟩, -, X465, ⟨Lc465, hQ465, l465, y465, z465⟩, st465⟩ := X0.virtualBack hx (y := ym11) (z := ym11) hown (ov hZ hw 49 rfl) (ov hZ hw 50 rfl) (notFace_of_selects (args := #[]) (ov hZ hw 52 rfl)) (ov hZ hw 52 rfl) (ov hZ hw 51 rfl) (by decide) (own_backOf (W := 0) (rx10_73 l Z a0 hw [] n0 h0 O0 G1 G3 GF b457 b459 k461 c0_ c1_ c2_ PF_b457_value PV_b459 PF_b457_coder PE_b457) hZ (ow hw 53 rfl) (ow hw 10 rfl) (by decide) (by decide)) q465a q465c (g := (mkF m 1 #[cr b457, ci 0, ci 2, cu, cu] [(.ref b457)])) rfl (by rw [hml]; rfl) (Steps.refl _) (argsL := []) (rest := []) (lenOf pdx_4 rfl) rfl (own_w rfl) (hb hby d20_1) (fun _ _ => ⟨rfl, e0, (by decide : 0 + 0 ≤ _), (by decide : 0 + 0 ≤ _)⟩)
 dsimp only [Pt.U, Pt.locs, Pt.cells, Pt.slots] at X465 l465 y465 z465 st465 hQ465
 subst l465 y465 z465
 obtain ⟨rfl, N465q, K465c⟩ := hQ465
 have N465 := Fr.app N0 N465q
 refine Ends.go (fun _ k => st465.trans k) ?_
 obtain ⟨h465, e465⟩ : ∃ z, T465.heap = z := ⟨_, rfl⟩
 rw [e465] at K465c
 have K465 := K0.trans K465c all0
 have O465 := O0.keep K465c all0
 refine wstN X465 hx hby d20_4 (l' := #[cr b457, ci 0, ci 2, ci 3, cu]) rfl ?_
 refine wilN X465 hx hby d20_5 rfl ?_
 refine wilN X465 hx hby d20_6 rfl ?_
 refine wilN X465 hx hby d20_7 rfl ?_
 obtain ⟨_, _, ⟨T466, L466, k466, n466⟩, -, X466, ⟨Lc466, hQ466, l466, y466, z466⟩, st466⟩ := Jvm.LawKit.callS X465 hx (y := ym4) hown (ov hZ hw 91 rfl) (ov hZ hw 92 rfl) (ov hZ hw 10 rfl) (ov hZ hw 93 rfl) (by decide) (own_backOf (W := 0) (rm_checkBoundsBeginEnd l Z a0 hw [] n0 h465 O465 (0 : Int32) (2 : Int32) (3 : Int32) G1 G3 GF (by decide) (by decide) (by decide)) hZ (ow hw 93 rfl) (ow hw 10 rfl) (by decide) (by decide)) (g := (mkF m 8 #[cr b457, ci 0, ci 2, ci 3, cu] [(.int 3), (.int 2), (.int 0)])) rfl (by rw [hml]; rfl) (argsL := [(.int 0), (.int 2), (.int 3)]) (rest := []) (lenOf pdx_15 rfl) rfl (own_w rfl) (hb hby d20_8) (fun _ _ => ⟨rfl, e465, (by decide : 0 + 0 ≤ _), (by decide : 0 + 0 ≤ _)⟩)
 dsimp only [Pt.U, Pt.locs, Pt.cells, Pt.slots] at X466 l466 y466 z466 st466 hQ466
 subst l466 y466 z466
 obtain ⟨rfl, N466q, e466q⟩ := hQ466
 have N466 := Fr.app N465 N466q
 refine Ends.go st466 ?_
 refine wilN X466 hx hby d20_11 rfl ?_
 refine win X466 hx hby d20_12 ((if0 _ _).trans (teq (by decide : (0 : Int32) = (0 : Int32))).2) ?_
 refine wilN X466 hx hby d20_15 rfl ?_
 refine wilN X466 hx hby d20_16 rfl ?_
 refine wcy (pc := 17) (pc' := 22) X466 hx hby d20_17 (feq (by decide : ¬ ((2 : Int32) = (3 : Int32)))).2 ?_
 refine wilN X466 hx hby d20_22 rfl ?_
 refine wilN X466 hx hby d20_23 rfl ?_
 refine wis X466 hx hby d20_24 ?_
 refine wst X466 hx hby d20_25 (l' := #[cr b457, ci 0, ci 2, ci 3, ci 2]) rfl ?_
 refine walN X466 hx hby d20_27 rfl rfl ?_
 obtain ⟨cq467, kq467, q467a, q467b, q467c⟩ := isOf hZ e466q (PE_b457.keep K465c)
 obtain ⟨_, _, ⟨T467, L467, k467, n467⟩, -, X467, ⟨Lc467, hQ467, l467, y467, z467⟩, st467⟩ := X466.virtualBack hx (y := ym9) (z := ym9) hown (ov hZ hw 43 rfl) (ov hZ hw 44 rfl) (notFace_of_selects (args := #[]) (ov hZ hw 46 rfl)) (ov hZ hw 46 rfl) (ov hZ hw 45 rfl) (by decide) (own_backOf (W := 0) (rx9_8 l Z a0 hw [] n0 h465 O465 G1 G3 GF b457 (PF_b457_coder.keep K465c nin0)) hZ (ow hw 47 rfl) (ow hw 10 rfl) (by decide) (by decide)) q467a q467c (g := (mkF m 28 #[cr b457, ci 0, ci 2, ci 3, ci 2] [(.ref b457)])) rfl (by rw [hml]; rfl) (Steps.refl _) (argsL := []) (rest := []) (lenOf pdx_2 rfl) rfl (own_w rfl) (hb hby d20_28) (fun _ _ => ⟨rfl, e466q, (by decide : 0 + 0 ≤ _), (by decide : 0 + 0 ≤ _)⟩)
 dsimp only [Pt.U, Pt.locs, Pt.cells, Pt.slots] at X467 l467 y467 z467 st467 hQ467
 subst l467 y467 z467
 obtain ⟨rfl, N467q, K467c⟩ := hQ467
 have N467 := Fr.app N466 N467q
 refine Ends.go (fun _ k => st467.trans k) ?_
 obtain ⟨h467, e467⟩ : ∃ z, T467.heap = z := ⟨_, rfl⟩
 rw [e467] at K467c
 have K467 := K465.trans K467c all0
 have O467 := O465.keep K467c all0
 refine win X467 hx hby d20_31 ((if0 _ _).trans (feq (by decide : ¬ ((1 : Int32) = (0 : Int32)))).1) ?_
 refine walN X467 hx hby d20_34 rfl rfl ?_
 obtain ⟨T468, X468, e468, st468⟩ := getF X467 hx hZ hown (host := "") (Or.inl (ow hw 27 rfl)) Via.refl e467 ((PF_b457_value.keep K465c nin0).keep K467c nin0) (g := (mkF m 35 #[cr b457, ci 0, ci 2, ci 3, ci 2] [(.ref b457)])) rfl rfl (hb hby d20_35)
 refine Ends.go st468 ?_
 refine wilN X468 hx hby d20_38 rfl ?_
 refine wil X468 hx hby d20_39 rfl ?_
 obtain ⟨_, _, ⟨T488, L488, k488, n488⟩, -, X488, ⟨Lc488, hQ488, l488, y488, z488⟩, st488⟩ := Jvm.LawKit.callS X468 hx (y := ym22) hown (ov hZ hw 99 rfl) (ov hZ hw 100 rfl) (ov hZ hw 61 rfl) (ov hZ hw 101 rfl) (by decide) (own_backOf (W := 0) (rx23_469 l Z a0 hw [] n0 h467 O467  b459 k461 c0_ c1_ c2_ ((PV_b459.keep K465c nin0).keep K467c nin0)) hZ (ow hw 101 rfl) (ow hw 61 rfl) (by decide) (by decide)) (g := (mkF m 41 #[cr b457, ci 0, ci 2, ci 3, ci 2] [(.int 2), (.int 0), (.ref b459)])) rfl (by rw [hml]; rfl) (argsL := [(.ref b459), (.int 0), (.int 2)]) (rest := []) (lenOf pdx_16 rfl) rfl (own_w rfl) (hb hby d20_41) (fun _ _ => ⟨rfl, e468, (by decide : 0 + 2 ≤ _), (by decide : 0 + 6 ≤ _)⟩)
 dsimp only [Pt.U, Pt.locs, Pt.cells, Pt.slots] at X488 l488 y488 z488 st488 hQ488
 subst l488 y488 z488
 obtain ⟨b489, b490, k491, rfl, N488q, K488c, hb488_b489, hb488_b490, hne488_b489_b490, Y488_0, Y488_1, Y488_2, Y488_3⟩ := hQ488
 have N488 := Fr.app N467 N488q
 refine Ends.go st488 ?_
 have sz_b489 : h0.size ≤ b489 := Nat.le_trans K467.1 hb488_b489
 have sz_b490 : h0.size ≤ b490 := Nat.le_trans K467.1 hb488_b490
 obtain ⟨h488, e488⟩ : ∃ z, T488.heap = z := ⟨_, rfl⟩
 rw [e488] at K488c Y488_0 Y488_1 Y488_2 Y488_3
 have K488 := K467.trans K488c all0
 refine wgo (pc := 44) (pc' := 57) X488 hx hby d20_44 ?_
 refine Ends.ret X488 hx Bd.notSynchronized (t := (.object cST)) Bd.returns rfl (Or.inr (Or.inr (Or.inr (Or.inr ⟨rfl, rfl, rfl⟩)))) (hb hby d20_57) (by decide) (by decide) ?_
 rw [e488]
 exact ⟨b489, b490, k491, rfl, N488, K488, sz_b489, sz_b490, hne488_b489_b490, Y488_0, Y488_1, Y488_2, Y488_3⟩

theorem rx6_462 (l : Launch) (Z : State) (a0 : Array Value) (hw : HW a0 Z) (ws : List Jvm.Cond) (n0 : Nat) (h0 : Heap) (O0 : Old Z n0 h0) (G1 : Int32) (G3 : Value) (GF : GlobF Z a0 G1 G3) (b457 : Addr) (b459 : Addr) (k461 : ClassId) (c0_ : Int32) (c1_ : Int32) (c2_ : Int32) (PF_b457_value : Fld Z h0 b457 cST "value" "[B" (.ref b459)) (PE_b457 : Exa Z h0 b457 cST) (PF_b457_coder : Fld Z h0 b457 cST "coder" "B" (.int 0)) (PV_b459 : Arv Z h0 b459 k461 .byte (3 : Int32) [(yb c0_), (yb c1_), (yb c2_)] (.int 0)) (hq0_ : ¬ (c0_ = (46 : Int32))) (hq1_ : ¬ (c1_ = (46 : Int32))) (hq2_ : c2_ = (46 : Int32)) (hc0_ : 0 ≤ c0_.toInt ∧ c0_.toInt < 256) (hc1_ : 0 ≤ c1_.toInt ∧ c1_.toInt < 256) (hc2_ : 0 ≤ c2_.toInt ∧ c2_.toInt < 256) :
  Meets1 l ym18 prog_33_method_5_code 2 (some (.object cST)) ws (mkR 5 2 6 102) #[(.ref b457)] Z h0 (fun v h L => ∃ (b493 : Addr) (b494 : Addr) (k495 : ClassId), v = some (.ref b493) ∧ Fr n0 L ∧ Keep h0 h [] ∧ h0.size ≤ b493 ∧ h0.size ≤ b494 ∧ b493 ≠ b494 ∧ Exa Z h b493 cST ∧ Arv Z h b494 k495 .byte (2 : Int32) [(yb c0_), (yb c1_)] (.int 0) ∧ Fld Z h b493 cST "value" "[B" (.ref b494) ∧ Fld Z h b493 cST "coder" "B" (.int 0)) := by
 refine MetFree.of_bodySF (plainFor_of_name pn6) hisR ?_
 intro p e s m args below meth c s₁ Bd hml0 hP hK
 obtain ⟨rfl, hZ, hh⟩ := hP
 have hx := Bd.exec
 have hby := Bd.bytes
 have hml : c.maxLocals = 2 := hml0
 have hown : s.vm.findClass "com/example/wakeline/wakeline/format/shareplex/SharePlexMessage" = some m.cls := findClass_of_methodNamed Bd.named
 have X0 : Stand p l e (mkR 5 2 6 102) s m #[(.ref b457)] below meth c s₁ [] 0 0 := Stand.of_body Bd
 have e0 : s₁.heap = h0 := by rw [← hh, Bd.state]; rfl
 have N0 := Fr.nil n0
 show Ends _ _ _ _ s₁ (entryFrame m #[(.ref b457)] 2) (mkR 5 2 6 102).cells (mkR 5 2 6 102).slots (fun v h L => ∃ (b493 : Addr) (b494 : Addr) (k495 : ClassId), v = some (.ref b493) ∧ Fr n0 L ∧ Keep h0 h [] ∧ h0.size ≤ b493 ∧ h0.size ≤ b494 ∧ b493 ≠ b494 ∧ Exa Z h b493 cST ∧ Arv Z h b494 k495 .byte (2 : Int32) [(yb c0_), (yb c1_)] (.int 0) ∧ Fld Z h b493 cST "value" "[B" (.ref b494) ∧ Fld Z h b493 cST "coder" "B" (.int 0))
 refine Ends.go (fun _ k => castTop (ef6_r m b457) k) ?_
 obtain ⟨SCS, P5, SSF, RG3, HC1, HC2, HCW⟩ := id GF
 have K0 := Keep.refl h0 []
 show Ends _ _ _ _ s₁ (mkF m 0 #[cr b457, cu] []) _ _ _
 refine walN X0 hx hby d6_0 rfl rfl ?_
 refine .go (fun _ => XS.ifnonnullYes X0.here hx rfl (pc0 := 1) (pc' := 8) rfl (hb hby d6_1) rfl (by decide) (by decide)) ?_
 refine walN X0 hx hby d6_8 rfl rfl ?_
 refine wbp X0 hx hby d6_9 ?_
 obtain ⟨cq463, kq463, q463a, q463b, q463c⟩ := isOf hZ e0 PE_b457
 obtain ⟨_, _, ⟨T463, L463, k463, n463⟩, -, X463, ⟨Lc463, hQ463, l463, y463, z463⟩, st463⟩ := X0.virtualBack hx (y := ym13) (z := ym13) hown (ov hZ hw 33 rfl) (ov hZ hw 34 rfl) (notFace_of_selects (args := #[]) (ov hZ hw 36 rfl)) (ov hZ hw 36 rfl) (ov hZ hw 35 rfl) (by decide) (own_backOf (W := 0) (rmI7_3 l Z a0 hw [] n0 h0 O0 G1 G3 GF b457 b459 k461 c0_ c1_ c2_ PE_b457 PF_b457_value PF_b457_coder PV_b459) hZ (ow hw 37 rfl) (ow hw 10 rfl) (by decide) (by decide)) q463a q463c (g := (mkF m 11 #[cr b457, cu] [(.int 46), (.ref b457)])) rfl (by rw [hml]; rfl) (Steps.refl _) (argsL := [(.int 46)]) (rest := []) (lenOf pdx_10 rfl) rfl (own_w rfl) (hb hby d6_11) (fun _ _ => ⟨rfl, e0, (by decide : 0 + 0 ≤ _), (by decide : 0 + 0 ≤ _)⟩)
 dsimp only [Pt.U, Pt.locs, Pt.cells, Pt.slots] at X463 l463 y463 z463 st463 hQ463
 subst l463 y463 z463
 obtain ⟨r463, rfl, N463q, K463c, hr463⟩ := hQ463
 have N463 := Fr.app N0 N463q
 refine Ends.go (fun _ k => st463.trans k) ?_
 obtain ⟨h463, e463⟩ : ∃ z, T463.heap = z := ⟨_, rfl⟩
 rw [e463] at K463c
 have K463 := K0.trans K463c all0
 have O463 := O0.keep K463c all0
 obtain rfl : r463 = 2 := hr463.elim (fun z => absurd z.2 (fun q => hq0_ ((own_b46 hc0_).mp q))) (fun o1 => o1.elim (fun z => absurd z.2.2 (fun q => hq1_ ((own_b46 hc1_).mp q))) (fun o2 => o2.elim (fun z => z.1) (fun z => absurd ((own_b46 hc2_).mpr hq2_) z.2.2.2)))
 refine wstN X463 hx hby d6_14 (l' := #[cr b457, ci 2]) rfl ?_
 refine wilN X463 hx hby d6_15 rfl ?_
 refine wiy (pc := 16) (pc' := 23) X463 hx hby d6_16 ((if0 _ _).trans (flt (by decide : ¬ ((2 : Int32) < (0 : Int32)))).2.1) ?_
 refine walN X463 hx hby d6_23 rfl rfl ?_
 refine wic X463 hx hby d6_24 ?_
 refine wilN X463 hx hby d6_25 rfl ?_
 obtain ⟨cq492, kq492, q492a, q492b, q492c⟩ := isOf hZ e463 (PE_b457.keep K463c)
 obtain ⟨_, _, ⟨T492, L492, k492, n492⟩, -, X492, ⟨Lc492, hQ492, l492, y492, z492⟩, st492⟩ := X463.virtualBack hx (y := ym23) (z := ym23) hown (ov hZ hw 86 rfl) (ov hZ hw 87 rfl) (notFace_of_selects (args := #[]) (ov hZ hw 89 rfl)) (ov hZ hw 89 rfl) (ov hZ hw 88 rfl) (by decide) (own_backOf (W := 0) (rx20_464 l Z a0 hw [] n0 h463 O463 G1 G3 GF b457 b459 k461 c0_ c1_ c2_ (PF_b457_value.keep K463c nin0) (PV_b459.keep K463c nin0) (PF_b457_coder.keep K463c nin0) (PE_b457.keep K463c)) hZ (ow hw 90 rfl) (ow hw 10 rfl) (by decide) (by decide)) q492a q492c (g := (mkF m 26 #[cr b457, ci 2] [(.int 2), (.int 0), (.ref b457)])) rfl (by rw [hml]; rfl) (Steps.refl _) (argsL := [(.int 0), (.int 2)]) (rest := []) (lenOf pdx_17 rfl) rfl (own_w rfl) (hb hby d6_26) (fun _ _ => ⟨rfl, e463, (by decide : 0 + 2 ≤ _), (by decide : 0 + 6 ≤ _)⟩)
 dsimp only [Pt.U, Pt.locs, Pt.cells, Pt.slots] at X492 l492 y492 z492 st492 hQ492
 subst l492 y492 z492
 obtain ⟨b493, b494, k495, rfl, N492q, K492c, hb492_b493, hb492_b494, hne492_b493_b494, Y492_0, Y492_1, Y492_2, Y492_3⟩ := hQ492
 have N492 := Fr.app N463 N492q
 refine Ends.go (fun _ k => st492.trans k) ?_
 have sz_b493 : h0.size ≤ b493 := Nat.le_trans K463.1 hb492_b493
 have sz_b494 : h0.size ≤ b494 := Nat.le_trans K463.1 hb492_b494
 obtain ⟨h492, e492⟩ : ∃ z, T492.heap = z := ⟨_, rfl⟩
 rw [e492] at K492c Y492_0 Y492_1 Y492_2 Y492_3
 have K492 := K463.trans K492c all0
 refine Ends.ret X492 hx Bd.notSynchronized (t := (.object cST)) Bd.returns rfl (Or.inr (Or.inr (Or.inr (Or.inr ⟨rfl, rfl, rfl⟩)))) (hb hby d6_29) (by decide) (by decide) ?_
 rw [e492]
 exact ⟨b493, b494, k495, rfl, N492, K492, sz_b493, sz_b494, hne492_b493_b494, Y492_0, Y492_1, Y492_2, Y492_3⟩

theorem rx29_507 (l : Launch) (Z : State) (a0 : Array Value) (hw : HW a0 Z) (ws : List Jvm.Cond) (n0 : Nat) (h0 : Heap) (O0 : Old Z n0 h0) (G1 : Int32) (G3 : Value) (GF : GlobF Z a0 G1 G3) (b498 : Addr) (k499 : ClassId) (c0_ : Int32) (c1_ : Int32) (PV_b498 : Arv Z h0 b498 k499 .byte (2 : Int32) [(yb c0_), (yb c1_)] (.int 0)) (hc0_ : 0 ≤ c0_.toInt ∧ c0_.toInt < 256) :
  Meets1 l ym28 jdk_43_method_2_code 2 (some .char) ws (mkR 2 0 0 28) #[(.ref b498), (.int 0)] Z h0 (fun v h L => v = some (.int c0_) ∧ Fr n0 L ∧ Keep h0 h []) := by
 refine MetFree.of_bodySF (plainFor_of_name pn29) hisR ?_
 intro p e s m args below meth c s₁ Bd hml0 hP hK
 obtain ⟨rfl, hZ, hh⟩ := hP
 have hx := Bd.exec
 have hby := Bd.bytes
 have hml : c.maxLocals = 2 := hml0
 have hown : s.vm.findClass "java/lang/StringLatin1" = some m.cls := findClass_of_methodNamed Bd.named
 have X0 : Stand p l e (mkR 2 0 0 28) s m #[(.ref b498), (.int 0)] below meth c s₁ [] 0 0 := Stand.of_body Bd
 have e0 : s₁.heap = h0 := by rw [← hh, Bd.state]; rfl
 have N0 := Fr.nil n0
 show Ends _ _ _ _ s₁ (entryFrame m #[(.ref b498), (.int 0)] 2) (mkR 2 0 0 28).cells (mkR 2 0 0 28).slots (fun v h L => v = some (.int c0_) ∧ Fr n0 L ∧ Keep h0 h [])
 refine Ends.go (fun _ k => castTop (ef29_ri m b498 (0 : Int32)) k) ?_
 obtain ⟨SCS, P5, SSF, RG3, HC1, HC2, HCW⟩ := id GF
 have K0 := Keep.refl h0 []
 show Ends _ _ _ _ s₁ (mkF m 0 #[cr b498, ci 0] []) _ _ _
 refine wilN X0 hx hby d29_0 rfl ?_
 refine walN X0 hx hby d29_1 rfl rfl ?_
 obtain ⟨cl508, Ar508, q508, S508, M508, H508, G508⟩ := id PV_b498
 refine Ends.go (X0.arraylength hx (by rw [e0]; exact Ar508.1) (State.isArrayOf_alike hZ.alike Ar508.2.1) (g := (mkF m 2 #[cr b498, ci 0] [(.ref b498), (.int 0)])) rfl rfl (hb hby d29_2)) ?_
 rw [len_of S508 M508]
 obtain ⟨_, _, ⟨T509, L509, k509, n509⟩, -, X509, ⟨Lc509, hQ509, l509, y509, z509⟩, st509⟩ := Jvm.LawKit.callS X0 hx (y := ym2) hown (ov hZ hw 131 rfl) (ov hZ hw 132 rfl) (ov hZ hw 10 rfl) (ov hZ hw 133 rfl) (by decide) (own_backOf (W := 0) (rm_checkIndex l Z a0 hw [] n0 h0 O0 (0 : Int32) (2 : Int32) G1 G3 GF (by decide) (by decide)) hZ (ow hw 133 rfl) (ow hw 10 rfl) (by decide) (by decide)) (g := (mkF m 3 #[cr b498, ci 0] [(.int 2), (.int 0)])) rfl (by rw [hml]; rfl) (argsL := [(.int 0), (.int 2)]) (rest := []) (lenOf pdx_18 rfl) rfl (own_w rfl) (hb hby d29_3) (fun _ _ => ⟨rfl, e0, (by decide : 0 + 0 ≤ _), (by decide : 0 + 0 ≤ _)⟩)
 dsimp only [Pt.U, Pt.locs, Pt.cells, Pt.slots] at X509 l509 y509 z509 st509 hQ509
 subst l509 y509 z509
 obtain ⟨rfl, N509q, e509q⟩ := hQ509
 have N509 := Fr.app N0 N509q
 refine Ends.go st509 ?_
 refine walN X509 hx hby d29_6 rfl rfl ?_
 refine wilN X509 hx hby d29_7 rfl ?_
 obtain ⟨cl510, Ar510, q510, S510, M510, H510, G510⟩ := id PV_b498
 have hin510 := inb_of (j := (0 : Int32)) S510 ⟨by decide, by decide⟩
 refine Ends.go (X509.baloadBytes hx (j := (0 : Int32)) (v := (yb c0_)) (by rw [e509q]; exact Ar510.1) (State.isArrayOf_alike hZ.alike Ar510.2.1) Ar510.2.2 hin510 (H510.at hin510 rfl) (g := (mkF m 8 #[cr b498, ci 0] [(.int 0), (.ref b498)])) rfl rfl (hb hby d29_8)) ?_
 refine wsp X509 hx hby d29_9 ?_
 refine wan X509 hx hby d29_12 ?_
 refine .go (fun _ => XS.i2c X509.here hx rfl (hb hby d29_13) rfl) ?_
 refine Ends.retZ X509 hx Bd.notSynchronized (t := .char) Bd.returns (by simp) (hb hby d29_14) (by decide) (by decide) ?_
 rw [e509q]
 exact ⟨(congrArg (fun z => some (Value.int z)) (own_l1 hc0_)), N509, K0⟩

theorem rx28_504 (l : Launch) (Z : State) (a0 : Array Value) (hw : HW a0 Z) (ws : List Jvm.Cond) (n0 : Nat) (h0 : Heap) (O0 : Old Z n0 h0) (G1 : Int32) (G3 : Value) (GF : GlobF Z a0 G1 G3) (b497 : Addr) (b498 : Addr) (k499 : ClassId) (c0_ : Int32) (c1_ : Int32) (PF_b497_coder : Fld Z h0 b497 cST "coder" "B" (.int 0)) (PE_b497 : Exa Z h0 b497 cST) (PF_b497_value : Fld Z h0 b497 cST "value" "[B" (.ref b498)) (PV_b498 : Arv Z h0 b498 k499 .byte (2 : Int32) [(yb c0_), (yb c1_)] (.int 0)) (hc0_ : 0 ≤ c0_.toInt ∧ c0_.toInt < 256) :
  Meets1 l ym29 jdk_42_method_56_code 2 (some .char) ws (mkR 3 0 0 41) #[(.ref b497), (.int 0)] Z h0 (fun v h L => v = some (.int c0_) ∧ Fr n0 L ∧ Keep h0 h []) := by
 refine MetFree.of_bodySF (plainFor_of_name pn28) hisR ?_
 intro p e s m args below meth c s₁ Bd hml0 hP hK
 obtain ⟨rfl, hZ, hh⟩ := hP
 have hx := Bd.exec
 have hby := Bd.bytes
 have hml : c.maxLocals = 2 := hml0
 have hown : s.vm.findClass "java/lang/String" = some m.cls := findClass_of_methodNamed Bd.named
 have X0 : Stand p l e (mkR 3 0 0 41) s m #[(.ref b497), (.int 0)] below meth c s₁ [] 0 0 := Stand.of_body Bd
 have e0 : s₁.heap = h0 := by rw [← hh, Bd.state]; rfl
 have N0 := Fr.nil n0
 show Ends _ _ _ _ s₁ (entryFrame m #[(.ref b497), (.int 0)] 2) (mkR 3 0 0 41).cells (mkR 3 0 0 41).slots (fun v h L => v = some (.int c0_) ∧ Fr n0 L ∧ Keep h0 h [])
 refine Ends.go (fun _ k => castTop (ef28_ri m b497 (0 : Int32)) k) ?_
 obtain ⟨SCS, P5, SSF, RG3, HC1, HC2, HCW⟩ := id GF
 have K0 := Keep.refl h0 []
 show Ends _ _ _ _ s₁ (mkF m 0 #[cr b497, ci 0] []) _ _ _
 refine walN X0 hx hby d28_0 rfl rfl ?_
 obtain ⟨cq505, kq505, q505a, q505b, q505c⟩ := isOf hZ e0 PE_b497
 obtain ⟨_, _, ⟨T505, L505, k505, n505⟩, -, X505, ⟨Lc505, hQ505, l505, y505, z505⟩, st505⟩ := X0.virtualBack hx (y := ym9) (z := ym9) hown (ov hZ hw 43 rfl) (ov hZ hw 44 rfl) (notFace_of_selects (args := #[]) (ov hZ hw 46 rfl)) (ov hZ hw 46 rfl) (ov hZ hw 45 rfl) (by decide) (own_backOf (W := 0) (rx9_8 l Z a0 hw [] n0 h0 O0 G1 G3 GF b497 PF_b497_coder) hZ (ow hw 47 rfl) (ow hw 10 rfl) (by decide) (by decide)) q505a q505c (g := (mkF m 1 #[cr b497, ci 0] [(.ref b497)])) rfl (by rw [hml]; rfl) (Steps.refl _) (argsL := []) (rest := []) (lenOf pdx_2 rfl) rfl (own_w rfl) (hb hby d28_1) (fun _ _ => ⟨rfl, e0, (by decide : 0 + 0 ≤ _), (by decide : 0 + 0 ≤ _)⟩)
 dsimp only [Pt.U, Pt.locs, Pt.cells, Pt.slots] at X505 l505 y505 z505 st505 hQ505
 subst l505 y505 z505
 obtain ⟨rfl, N505q, K505c⟩ := hQ505
 have N505 := Fr.app N0 N505q
 refine Ends.go (fun _ k => st505.trans k) ?_
 obtain ⟨h505, e505⟩ : ∃ z, T505.heap = z := ⟨_, rfl⟩
 rw [e505] at K505c
 have K505 := K0.trans K505c all0
 have O505 := O0.keep K505c all0
 refine win X505 hx hby d28_4 ((if0 _ _).trans (feq (by decide : ¬ ((1 : Int32) = (0 : Int32)))).1) ?_
 refine walN X505 hx hby d28_7 rfl rfl ?_
 obtain ⟨T506, X506, e506, st506⟩ := getF X505 hx hZ hown (host := "") (Or.inl (ow hw 27 rfl)) Via.refl e505 (PF_b497_value.keep K505c nin0) (g := (mkF m 8 #[cr b497, ci 0] [(.ref b497)])) rfl rfl (hb hby d28_8)
 refine Ends.go st506 ?_
 refine wilN X506 hx hby d28_11 rfl ?_
 obtain ⟨_, _, ⟨T511, L511, k511, n511⟩, -, X511, ⟨Lc511, hQ511, l511, y511, z511⟩, st511⟩ := Jvm.LawKit.callS X506 hx (y := ym28) hown (ov hZ hw 128 rfl) (ov hZ hw 129 rfl) (ov hZ hw 61 rfl) (ov hZ hw 130 rfl) (by decide) (own_backOf (W := 0) (rx29_507 l Z a0 hw [] n0 h505 O505 G1 G3 GF b498 k499 c0_ c1_ (PV_b498.keep K505c nin0) hc0_) hZ (ow hw 130 rfl) (ow hw 61 rfl) (by decide) (by decide)) (g := (mkF m 12 #[cr b497, ci 0] [(.int 0), (.ref b498)])) rfl (by rw [hml]; rfl) (argsL := [(.ref b498), (.int 0)]) (rest := []) (lenOf pdx_21 rfl) rfl (own_w rfl) (hb hby d28_12) (fun _ _ => ⟨rfl, e506, (by decide : 0 + 0 ≤ _), (by decide : 0 + 0 ≤ _)⟩)
 dsimp only [Pt.U, Pt.locs, Pt.cells, Pt.slots] at X511 l511 y511 z511 st511 hQ511
 subst l511 y511 z511
 obtain ⟨rfl, N511q, K511c⟩ := hQ511
 have N511 := Fr.app N505 N511q
 refine Ends.go st511 ?_
 obtain ⟨h511, e511⟩ : ∃ z, T511.heap = z := ⟨_, rfl⟩
 rw [e511] at K511c
 have K511 := K505.trans K511c all0
 refine Ends.retZ X511 hx Bd.notSynchronized (t := .char) Bd.returns (by simp) (hb hby d28_15) (by decide) (by decide) ?_
 rw [e511]
 exact ⟨(congrArg (fun z => some (Value.int z)) (own_narc hc0_)), N511, K511⟩

theorem rx29_517 (l : Launch) (Z : State) (a0 : Array Value) (hw : HW a0 Z) (ws : List Jvm.Cond) (n0 : Nat) (h0 : Heap) (O0 : Old Z n0 h0) (G1 : Int32) (G3 : Value) (GF : GlobF Z a0 G1 G3) (b498 : Addr) (k499 : ClassId) (c0_ : Int32) (c1_ : Int32) (PV_b498 : Arv Z h0 b498 k499 .byte (2 : Int32) [(yb c0_), (yb c1_)] (.int 0)) (hc1_ : 0 ≤ c1_.toInt ∧ c1_.toInt < 256) :
  Meets1 l ym28 jdk_43_method_2_code 2 (some .char) ws (mkR 2 0 0 28) #[(.ref b498), (.int 1)] Z h0 (fun v h L => v = some (.int c1_) ∧ Fr n0 L ∧ Keep h0 h []) := by
 refine MetFree.of_bodySF (plainFor_of_name pn29) hisR ?_
 intro p e s m args below meth c s₁ Bd hml0 hP hK
 obtain ⟨rfl, hZ, hh⟩ := hP
 have hx := Bd.exec
 have hby := Bd.bytes
 have hml : c.maxLocals = 2 := hml0
 have hown : s.vm.findClass "java/lang/StringLatin1" = some m.cls := findClass_of_methodNamed Bd.named
 have X0 : Stand p l e (mkR 2 0 0 28) s m #[(.ref b498), (.int 1)] below meth c s₁ [] 0 0 := Stand.of_body Bd
 have e0 : s₁.heap = h0 := by rw [← hh, Bd.state]; rfl
 have N0 := Fr.nil n0
 show Ends _ _ _ _ s₁ (entryFrame m #[(.ref b498), (.int 1)] 2) (mkR 2 0 0 28).cells (mkR 2 0 0 28).slots (fun v h L => v = some (.int c1_) ∧ Fr n0 L ∧ Keep h0 h [])
 refine Ends.go (fun _ k => castTop (ef29_ri m b498 (1 : Int32)) k) ?_
 obtain ⟨SCS, P5, SSF, RG3, HC1, HC2, HCW⟩ := id GF
 have K0 := Keep.refl h0 []
 show Ends _ _ _ _ s₁ (mkF m 0 #[cr b498, ci 1] []) _ _ _
 refine wilN X0 hx hby d29_0 rfl ?_
 refine walN X0 hx hby d29_1 rfl rfl ?_
 obtain ⟨cl518, Ar518, q518, S518, M518, H518, G518⟩ := id PV_b498
 refine Ends.go (X0.arraylength hx (by rw [e0]; exact Ar518.1) (State.isArrayOf_alike hZ.alike Ar518.2.1) (g := (mkF m 2 #[cr b498, ci 1] [(.ref b498), (.int 1)])) rfl rfl (hb hby d29_2)) ?_
 rw [len_of S518 M518]
 obtain ⟨_, _, ⟨T519, L519, k519, n519⟩, -, X519, ⟨Lc519, hQ519, l519, y519, z519⟩, st519⟩ := Jvm.LawKit.callS X0 hx (y := ym2) hown (ov hZ hw 131 rfl) (ov hZ hw 132 rfl) (ov hZ hw 10 rfl) (ov hZ hw 133 rfl) (by decide) (own_backOf (W := 0) (rm_checkIndex l Z a0 hw [] n0 h0 O0 (1 : Int32) (2 : Int32) G1 G3 GF (by decide) (by decide)) hZ (ow hw 133 rfl) (ow hw 10 rfl) (by decide) (by decide)) (g := (mkF m 3 #[cr b498, ci 1] [(.int 2), (.int 1)])) rfl (by rw [hml]; rfl) (argsL := [(.int 1), (.int 2)]) (rest := []) (lenOf pdx_18 rfl) rfl (own_w rfl) (hb hby d29_3) (fun _ _ => ⟨rfl, e0, (by decide : 0 + 0 ≤ _), (by decide : 0 + 0 ≤ _)⟩)
 dsimp only [Pt.U, Pt.locs, Pt.cells, Pt.slots] at X519 l519 y519 z519 st519 hQ519
 subst l519 y519 z519
 obtain ⟨rfl, N519q, e519q⟩ := hQ519
 have N519 := Fr.app N0 N519q
 refine Ends.go st519 ?_
 refine walN X519 hx hby d29_6 rfl rfl ?_
 refine wilN X519 hx hby d29_7 rfl ?_
 obtain ⟨cl520, Ar520, q520, S520, M520, H520, G520⟩ := id PV_b498
 have hin520 := inb_of (j := (1 : Int32)) S520 ⟨by decide, by decide⟩
 refine Ends.go (X519.baloadBytes hx (j := (1 : Int32)) (v := (yb c1_)) (by rw [e519q]; exact Ar520.1) (State.isArrayOf_alike hZ.alike Ar520.2.1) Ar520.2.2 hin520 (H520.at hin520 rfl) (g := (mkF m 8 #[cr b498, ci 1] [(.int 1), (.ref b498)])) rfl rfl (hb hby d29_8)) ?_
 refine wsp X519 hx hby d29_9 ?_
 refine wan X519 hx hby d29_12 ?_
 refine .go (fun _ => XS.i2c X519.here hx rfl (hb hby d29_13) rfl) ?_
 refine Ends.retZ X519 hx Bd.notSynchronized (t := .char) Bd.returns (by simp) (hb hby d29_14) (by decide) (by decide) ?_
 rw [e519q]
 exact ⟨(congrArg (fun z => some (Value.int z)) (own_l1 hc1_)), N519, K0⟩

theorem rx28_514 (l : Launch) (Z : State) (a0 : Array Value) (hw : HW a0 Z) (ws : List Jvm.Cond) (n0 : Nat) (h0 : Heap) (O0 : Old Z n0 h0) (G1 : Int32) (G3 : Value) (GF : GlobF Z a0 G1 G3) (b497 : Addr) (b498 : Addr) (k499 : ClassId) (c0_ : Int32) (c1_ : Int32) (PF_b497_coder : Fld Z h0 b497 cST "coder" "B" (.int 0)) (PE_b497 : Exa Z h0 b497 cST) (PF_b497_value : Fld Z h0 b497 cST "value" "[B" (.ref b498)) (PV_b498 : Arv Z h0 b498 k499 .byte (2 : Int32) [(yb c0_), (yb c1_)] (.int 0)) (hc1_ : 0 ≤ c1_.toInt ∧ c1_.toInt < 256) :
  Meets1 l ym29 jdk_42_method_56_code 2 (some .char) ws (mkR 3 0 0 41) #[(.ref b497), (.int 1)] Z h0 (fun v h L => v = some (.int c1_) ∧ Fr n0 L ∧ Keep h0 h []) := by
 refine MetFree.of_bodySF (plainFor_of_name pn28) hisR ?_
 intro p e s m args below meth c s₁ Bd hml0 hP hK
 obtain ⟨rfl, hZ, hh⟩ := hP
 have hx := Bd.exec
 have hby := Bd.bytes
 have hml : c.maxLocals = 2 := hml0
 have hown : s.vm.findClass "java/lang/String" = some m.cls := findClass_of_methodNamed Bd.named
 have X0 : Stand p l e (mkR 3 0 0 41) s m #[(.ref b497), (.int 1)] below meth c s₁ [] 0 0 := Stand.of_body Bd
 have e0 : s₁.heap = h0 := by rw [← hh, Bd.state]; rfl
 have N0 := Fr.nil n0
 show Ends _ _ _ _ s₁ (entryFrame m #[(.ref b497), (.int 1)] 2) (mkR 3 0 0 41).cells (mkR 3 0 0 41).slots (fun v h L => v = some (.int c1_) ∧ Fr n0 L ∧ Keep h0 h [])
 refine Ends.go (fun _ k => castTop (ef28_ri m b497 (1 : Int32)) k) ?_
 obtain ⟨SCS, P5, SSF, RG3, HC1, HC2, HCW⟩ := id GF
 have K0 := Keep.refl h0 []
 show Ends _ _ _ _ s₁ (mkF m 0 #[cr b497, ci 1] []) _ _ _
 refine walN X0 hx hby d28_0 rfl rfl ?_
 obtain ⟨cq515, kq515, q515a, q515b, q515c⟩ := isOf hZ e0 PE_b497
 obtain ⟨_, _, ⟨T515, L515, k515, n515⟩, -, X515, ⟨Lc515, hQ515, l515, y515, z515⟩, st515⟩ := X0.virtualBack hx (y := ym9) (z := ym9) hown (ov hZ hw 43 rfl) (ov hZ hw 44 rfl) (notFace_of_selects (args := #[]) (ov hZ hw 46 rfl)) (ov hZ hw 46 rfl) (ov hZ hw 45 rfl) (by decide) (own_backOf (W := 0) (rx9_8 l Z a0 hw [] n0 h0 O0 G1 G3 GF b497 PF_b497_coder) hZ (ow hw 47 rfl) (ow hw 10 rfl) (by decide) (by decide)) q515a q515c (g := (mkF m 1 #[cr b497, ci 1] [(.ref b497)])) rfl (by rw [hml]; rfl) (Steps.refl _) (argsL := []) (rest := []) (lenOf pdx_2 rfl) rfl (own_w rfl) (hb hby d28_1) (fun _ _ => ⟨rfl, e0, (by decide : 0 + 0 ≤ _), (by decide : 0 + 0 ≤ _)⟩)
 dsimp only [Pt.U, Pt.locs, Pt.cells, Pt.slots] at X515 l515 y515 z515 st515 hQ515
 subst l515 y515 z515
 obtain ⟨rfl, N515q, K515c⟩ := hQ515
 have N515 := Fr.app N0 N515q
 refine Ends.go (fun _ k => st515.trans k) ?_
 obtain ⟨h515, e515⟩ : ∃ z, T515.heap = z := ⟨_, rfl⟩
 rw [e515] at K515c
 have K515 := K0.trans K515c all0
 have O515 := O0.keep K515c all0
 refine win X515 hx hby d28_4 ((if0 _ _).trans (feq (by decide : ¬ ((1 : Int32) = (0 : Int32)))).1) ?_
 refine walN X515 hx hby d28_7 rfl rfl ?_
 obtain ⟨T516, X516, e516, st516⟩ := getF X515 hx hZ hown (host := "") (Or.inl (ow hw 27 rfl)) Via.refl e515 (PF_b497_value.keep K515c nin0) (g := (mkF m 8 #[cr b497, ci 1] [(.ref b497)])) rfl rfl (hb hby d28_8)
 refine Ends.go st516 ?_
 refine wilN X516 hx hby d28_11 rfl ?_
 obtain ⟨_, _, ⟨T521, L521, k521, n521⟩, -, X521, ⟨Lc521, hQ521, l521, y521, z521⟩, st521⟩ := Jvm.LawKit.callS X516 hx (y := ym28) hown (ov hZ hw 128 rfl) (ov hZ hw 129 rfl) (ov hZ hw 61 rfl) (ov hZ hw 130 rfl) (by decide) (own_backOf (W := 0) (rx29_517 l Z a0 hw [] n0 h515 O515 G1 G3 GF b498 k499 c0_ c1_ (PV_b498.keep K515c nin0) hc1_) hZ (ow hw 130 rfl) (ow hw 61 rfl) (by decide) (by decide)) (g := (mkF m 12 #[cr b497, ci 1] [(.int 1), (.ref b498)])) rfl (by rw [hml]; rfl) (argsL := [(.ref b498), (.int 1)]) (rest := []) (lenOf pdx_21 rfl) rfl (own_w rfl) (hb hby d28_12) (fun _ _ => ⟨rfl, e516, (by decide : 0 + 0 ≤ _), (by decide : 0 + 0 ≤ _)⟩)
 dsimp only [Pt.U, Pt.locs, Pt.cells, Pt.slots] at X521 l521 y521 z521 st521 hQ521
 subst l521 y521 z521
 obtain ⟨rfl, N521q, K521c⟩ := hQ521
 have N521 := Fr.app N515 N521q
 refine Ends.go st521 ?_
 obtain ⟨h521, e521⟩ : ∃ z, T521.heap = z := ⟨_, rfl⟩
 rw [e521] at K521c
 have K521 := K515.trans K521c all0
 refine Ends.retZ X521 hx Bd.notSynchronized (t := .char) Bd.returns (by simp) (hb hby d28_15) (by decide) (by decide) ?_
 rw [e521]
 exact ⟨(congrArg (fun z => some (Value.int z)) (own_narc hc1_)), N521, K521⟩

theorem rx6_530 (l : Launch) (Z : State) (a0 : Array Value) (hw : HW a0 Z) (ws : List Jvm.Cond) (n0 : Nat) (h0 : Heap) (O0 : Old Z n0 h0) (G1 : Int32) (G3 : Value) (GF : GlobF Z a0 G1 G3) (b525 : Addr) (b527 : Addr) (k529 : ClassId) (c0_ : Int32) (c1_ : Int32) (c2_ : Int32) (PF_b525_value : Fld Z h0 b525 cST "value" "[B" (.ref b527)) (PE_b525 : Exa Z h0 b525 cST) (PF_b525_coder : Fld Z h0 b525 cST "coder" "B" (.int 0)) (PV_b527 : Arv Z h0 b527 k529 .byte (3 : Int32) [(yb c0_), (yb c1_), (yb c2_)] (.int 0)) (hq0_ : ¬ (c0_ = (46 : Int32))) (hq1_ : ¬ (c1_ = (46 : Int32))) (hq2_ : ¬ (c2_ = (46 : Int32))) (hc0_ : 0 ≤ c0_.toInt ∧ c0_.toInt < 256) (hc1_ : 0 ≤ c1_.toInt ∧ c1_.toInt < 256) (hc2_ : 0 ≤ c2_.toInt ∧ c2_.toInt < 256) :
  Meets1 l ym18 prog_33_method_5_code 2 (some (.object cST)) ws (mkR 5 0 0 93) #[(.ref b525)] Z h0 (fun v h L => v = some .null ∧ Fr n0 L ∧ Keep h0 h []) := by
 refine MetFree.of_bodySF (plainFor_of_name pn6) hisR ?_
 intro p e s m args below meth c s₁ Bd hml0 hP hK
 obtain ⟨rfl, hZ, hh⟩ := hP
 have hx := Bd.exec
 have hby := Bd.bytes
 have hml : c.maxLocals = 2 := hml0
 have hown : s.vm.findClass "com/example/wakeline/wakeline/format/shareplex/SharePlexMessage" = some m.cls := findClass_of_methodNamed Bd.named
 have X0 : Stand p l e (mkR 5 0 0 93) s m #[(.ref b525)] below meth c s₁ [] 0 0 := Stand.of_body Bd
 have e0 : s₁.heap = h0 := by rw [← hh, Bd.state]; rfl
 have N0 := Fr.nil n0
 show Ends _ _ _ _ s₁ (entryFrame m #[(.ref b525)] 2) (mkR 5 0 0 93).cells (mkR 5 0 0 93).slots (fun v h L => v = some .null ∧ Fr n0 L ∧ Keep h0 h [])
 refine Ends.go (fun _ k => castTop (ef6_r m b525) k) ?_
 obtain ⟨SCS, P5, SSF, RG3, HC1, HC2, HCW⟩ := id GF
 have K0 := Keep.refl h0 []
 show Ends _ _ _ _ s₁ (mkF m 0 #[cr b525, cu] []) _ _ _
 refine walN X0 hx hby d6_0 rfl rfl ?_
 refine .go (fun _ => XS.ifnonnullYes X0.here hx rfl (pc0 := 1) (pc' := 8) rfl (hb hby d6_1) rfl (by decide) (by decide)) ?_
 refine walN X0 hx hby d6_8 rfl rfl ?_
 refine wbp X0 hx hby d6_9 ?_
 obtain ⟨cq531, kq531, q531a, q531b, q531c⟩ := isOf hZ e0 PE_b525
 obtain ⟨_, _, ⟨T531, L531, k531, n531⟩, -, X531, ⟨Lc531, hQ531, l531, y531, z531⟩, st531⟩ := X0.virtualBack hx (y := ym13) (z := ym13) hown (ov hZ hw 33 rfl) (ov hZ hw 34 rfl) (notFace_of_selects (args := #[]) (ov hZ hw 36 rfl)) (ov hZ hw 36 rfl) (ov hZ hw 35 rfl) (by decide) (own_backOf (W := 0) (rmI7_3 l Z a0 hw [] n0 h0 O0 G1 G3 GF b525 b527 k529 c0_ c1_ c2_ PE_b525 PF_b525_value PF_b525_coder PV_b527) hZ (ow hw 37 rfl) (ow hw 10 rfl) (by decide) (by decide)) q531a q531c (g := (mkF m 11 #[cr b525, cu] [(.int 46), (.ref b525)])) rfl (by rw [hml]; rfl) (Steps.refl _) (argsL := [(.int 46)]) (rest := []) (lenOf pdx_10 rfl) rfl (own_w rfl) (hb hby d6_11) (fun _ _ => ⟨rfl, e0, (by decide : 0 + 0 ≤ _), (by decide : 0 + 0 ≤ _)⟩)
 dsimp only [Pt.U, Pt.locs, Pt.cells, Pt.slots] at X531 l531 y531 z531 st531 hQ531
 subst l531 y531 z531
 obtain ⟨r531, rfl, N531q, K531c, hr531⟩ := hQ531
 have N531 := Fr.app N0 N531q
 refine Ends.go (fun _ k => st531.trans k) ?_
 obtain ⟨h531, e531⟩ : ∃ z, T531.heap = z := ⟨_, rfl⟩
 rw [e531] at K531c
 have K531 := K0.trans K531c all0
 obtain rfl : r531 = -1 := hr531.elim (fun z => absurd z.2 (fun q => hq0_ ((own_b46 hc0_).mp q))) (fun o1 => o1.elim (fun z => absurd z.2.2 (fun q => hq1_ ((own_b46 hc1_).mp q))) (fun o2 => o2.elim (fun z => absurd z.2.2.2 (fun q => hq2_ ((own_b46 hc2_).mp q))) (fun z => z.1)))
 refine wstN X531 hx hby d6_14 (l' := #[cr b525, ci (-1)]) rfl ?_
 refine wilN X531 hx hby d6_15 rfl ?_
 refine win X531 hx hby d6_16 ((if0 _ _).trans (tlt (by decide : (-1 : Int32) < (0 : Int32))).2.1) ?_
 refine .go (fun _ => XS.aconstNull X531.here hx rfl (hb hby d6_19)) ?_
 refine wgo (pc := 20) (pc' := 29) X531 hx hby d6_20 ?_
 refine Ends.ret X531 hx Bd.notSynchronized (t := (.object cST)) Bd.returns rfl (Or.inr (Or.inr (Or.inr (Or.inr ⟨rfl, rfl, rfl⟩)))) (hb hby d6_29) (by decide) (by decide) ?_
 rw [e531]
 exact ⟨rfl, N531, K531⟩

theorem rx17_554 (l : Launch) (Z : State) (a0 : Array Value) (hw : HW a0 Z) (ws : List Jvm.Cond) (n0 : Nat) (h0 : Heap) (O0 : Old Z n0 h0)  (b538 : Addr) (b553 : Addr) (k538 : ClassId) (c0_ : Int32) (c1_ : Int32) (c2_ : Int32) (c3_ : Int32) (k553 : ClassId) (PV_b538 : Arv Z h0 b538 k538 .char (4 : Int32) [(.int c0_), (.int c1_), (.int c2_), (.int c3_)] (.int 0)) (PV_b553 : Arv Z h0 b553 k553 .byte (4 : Int32) [(.int 0), (.int 0), (.int 0), (.int 0)] (.int 0)) (ne_b538_b553 : b538 ≠ b553) (g_b553 : n0 ≤ b553) (hc0_ : 0 ≤ c0_.toInt ∧ c0_.toInt < 256) (hc1_ : 0 ≤ c1_.toInt ∧ c1_.toInt < 256) (hc2_ : 0 ≤ c2_.toInt ∧ c2_.toInt < 256) (hc3_ : 0 ≤ c3_.toInt ∧ c3_.toInt < 256) :
  Meets1 l ym19 jdk_52_method_21_code 7 (some .int) ws (mkR 0 0 0 0) #[(.ref b538), (.int 0), (.ref b553), (.int 0), (.int 4)] Z h0 (fun v h L => v = some (.int 4) ∧ Fr n0 L ∧ Keep h0 h [b553] ∧ Arv Z h b553 k553 .byte (4 : Int32) [(yb c0_), (yb c1_), (yb c2_), (yb c3_)] (.int 0)) := by
 refine MetFree.of_bodySF (plainFor_of_name pn17) hisR ?_
 intro p e s m args below meth c s₁ Bd hml0 hP hK
 obtain ⟨rfl, hZ, hh⟩ := hP
 have hx := Bd.exec
 have hby := Bd.bytes
 have X0 : Stand p l e (mkR 0 0 0 0) s m #[(.ref b538), (.int 0), (.ref b553), (.int 0), (.int 4)] below meth c s₁ [] 0 0 := Stand.of_body Bd
 have e0 : s₁.heap = h0 := by rw [← hh, Bd.state]; rfl
 have N0 := Fr.nil n0
 show Ends _ _ _ _ s₁ (entryFrame m #[(.ref b538), (.int 0), (.ref b553), (.int 0), (.int 4)] 7) (mkR 0 0 0 0).cells (mkR 0 0 0 0).slots (fun v h L => v = some (.int 4) ∧ Fr n0 L ∧ Keep h0 h [b553] ∧ Arv Z h b553 k553 .byte (4 : Int32) [(yb c0_), (yb c1_), (yb c2_), (yb c3_)] (.int 0))
 refine Ends.go (fun _ k => castTop (ef17_ririi m b538 (0 : Int32) b553 (0 : Int32) (4 : Int32)) k) ?_
 have K0 := Keep.refl h0 [b553]
 show Ends _ _ _ _ s₁ (mkF m 0 #[cr b538, ci 0, cr b553, ci 0, ci 4, cu, cu] []) _ _ _
 refine wic X0 hx hby d17_0 ?_
 refine wst X0 hx hby d17_1 (l' := #[cr b538, ci 0, cr b553, ci 0, ci 4, ci 0, cu]) rfl ?_
 refine wil X0 hx hby d17_3 rfl ?_
 refine wil X0 hx hby d17_5 rfl ?_
 refine wcn X0 hx hby d17_7 (tlt (by decide : (0 : Int32) < (4 : Int32))).2.1 ?_
 refine walN X0 hx hby d17_10 rfl rfl ?_
 refine wilN X0 hx hby d17_11 rfl ?_
 obtain ⟨cl555, Ar555, q555, S555, M555, H555, G555⟩ := id PV_b538
 have hin555 := inb_of (j := (0 : Int32)) S555 ⟨by decide, by decide⟩
 refine Ends.go (X0.caload hx (j := (0 : Int32)) (v := (.int c0_)) (by rw [e0]; exact Ar555.1) (State.isArrayOf_alike hZ.alike Ar555.2.1) Ar555.2.2 hin555 (H555.at hin555 rfl) (g := (mkF m 12 #[cr b538, ci 0, cr b553, ci 0, ci 4, ci 0, cu] [(.int 0), (.ref b538)])) rfl rfl (hb hby d17_12)) ?_
 refine wst X0 hx hby d17_13 (l' := #[cr b538, ci 0, cr b553, ci 0, ci 4, ci 0, ci c0_]) rfl ?_
 refine wil X0 hx hby d17_15 rfl ?_
 refine wsp X0 hx hby d17_17 ?_
 refine wcy (pc := 20) (pc' := 26) X0 hx hby d17_20 (flt ((own_c255 hc0_) : ¬ ((255 : Int32) < c0_))).2.2.2 ?_
 refine walN X0 hx hby d17_26 rfl rfl ?_
 refine wilN X0 hx hby d17_27 rfl ?_
 refine wil X0 hx hby d17_28 rfl ?_
 refine .go (fun _ => XS.i2b X0.here hx rfl (hb hby d17_30) rfl) ?_
 obtain ⟨cl556, Ar556, q556, S556, M556, H556, G556⟩ := id PV_b553
 have hin556 := inb_of (j := (0 : Int32)) S556 ⟨by decide, by decide⟩
 obtain ⟨T556, h556, X556, e556, W556, st556⟩ := stB X0 hx hZ e0 Ar556 (j := (0 : Int32)) hin556 (g := (mkF m 31 #[cr b538, ci 0, cr b553, ci 0, ci 4, ci 0, ci c0_] [(yb c0_), (.int 0), (.ref b553)])) rfl rfl (hb hby d17_31)
 refine Ends.go st556 ?_
 have V556 : Arv Z h556 b553 k553 .byte (4 : Int32) [(.int (nar .byte (c0_.toInt8.toInt32))), (.int 0), (.int 0), (.int 0)] (.int 0) := Arv.set Ar556 q556 S556 M556 H556 G556 (fits_nar_byte _) W556 0 rfl (Nat.le_of_ble_eq_true rfl)
 rw [own_narb] at V556
 have K556 := K0.wr W556 (Or.inl (List.mem_of_getElem? (i := 0) rfl))
 have N556 := Fr.snoc X556 N0 g_b553
 refine wii X556 hx hby d17_32 (l' := #[cr b538, ci 1, cr b553, ci 0, ci 4, ci 0, ci c0_]) rfl rfl ?_
 refine wii X556 hx hby d17_35 (l' := #[cr b538, ci 1, cr b553, ci 1, ci 4, ci 0, ci c0_]) rfl rfl ?_
 refine wii X556 hx hby d17_38 (l' := #[cr b538, ci 1, cr b553, ci 1, ci 4, ci 1, ci c0_]) rfl rfl ?_
 refine wgo (pc := 41) (pc' := 3) X556 hx hby d17_41 ?_
 refine wil X556 hx hby d17_3 rfl ?_
 refine wil X556 hx hby d17_5 rfl ?_
 refine wcn X556 hx hby d17_7 (tlt (by decide : (1 : Int32) < (4 : Int32))).2.1 ?_
 refine walN X556 hx hby d17_10 rfl rfl ?_
 refine wilN X556 hx hby d17_11 rfl ?_
 obtain ⟨cl557, Ar557, q557, S557, M557, H557, G557⟩ := id (PV_b538.other W556 ne_b538_b553)
 have hin557 := inb_of (j := (1 : Int32)) S557 ⟨by decide, by decide⟩
 refine Ends.go (X556.caload hx (j := (1 : Int32)) (v := (.int c1_)) (by rw [e556]; exact Ar557.1) (State.isArrayOf_alike hZ.alike Ar557.2.1) Ar557.2.2 hin557 (H557.at hin557 rfl) (g := (mkF m 12 #[cr b538, ci 1, cr b553, ci 1, ci 4, ci 1, ci c0_] [(.int 1), (.ref b538)])) rfl rfl (hb hby d17_12)) ?_
 refine wst X556 hx hby d17_13 (l' := #[cr b538, ci 1, cr b553, ci 1, ci 4, ci 1, ci c1_]) rfl ?_
 refine wil X556 hx hby d17_15 rfl ?_
 show Ends _ _ _ _ T556 (mkF m 17 #[cr b538, ci 1, cr b553, ci 1, ci 4, ci 1, ci c1_] [(.int c1_)]) _ _ _
 refine wsp X556 hx hby d17_17 ?_
 refine wcy (pc := 20) (pc' := 26) X556 hx hby d17_20 (flt ((own_c255 hc1_) : ¬ ((255 : Int32) < c1_))).2.2.2 ?_
 refine walN X556 hx hby d17_26 rfl rfl ?_
 refine wilN X556 hx hby d17_27 rfl ?_
 refine wil X556 hx hby d17_28 rfl ?_
 refine .go (fun _ => XS.i2b X556.here hx rfl (hb hby d17_30) rfl) ?_
 obtain ⟨cl558, Ar558, q558, S558, M558, H558, G558⟩ := id V556
 have hin558 := inb_of (j := (1 : Int32)) S558 ⟨by decide, by decide⟩
 obtain ⟨T558, h558, X558, e558, W558, st558⟩ := stB X556 hx hZ e556 Ar558 (j := (1 : Int32)) hin558 (g := (mkF m 31 #[cr b538, ci 1, cr b553, ci 1, ci 4, ci 1, ci c1_] [(yb c1_), (.int 1), (.ref b553)])) rfl rfl (hb hby d17_31)
 refine Ends.go st558 ?_
 have V558 : Arv Z h558 b553 k553 .byte (4 : Int32) [(yb c0_), (.int (nar .byte (c1_.toInt8.toInt32))), (.int 0), (.int 0)] (.int 0) := Arv.set Ar558 q558 S558 M558 H558 G558 (fits_nar_byte _) W558 1 rfl (Nat.le_of_ble_eq_true rfl)
 rw [own_narb] at V558
 have K558 := K556.wr W558 (Or.inl (List.mem_of_getElem? (i := 0) rfl))
 have N558 := Fr.snoc X558 N556 g_b553
 refine wii X558 hx hby d17_32 (l' := #[cr b538, ci 2, cr b553, ci 1, ci 4, ci 1, ci c1_]) rfl rfl ?_
 refine wii X558 hx hby d17_35 (l' := #[cr b538, ci 2, cr b553, ci 2, ci 4, ci 1, ci c1_]) rfl rfl ?_
 refine wii X558 hx hby d17_38 (l' := #[cr b538, ci 2, cr b553, ci 2, ci 4, ci 2, ci c1_]) rfl rfl ?_
 refine wgo (pc := 41) (pc' := 3) X558 hx hby d17_41 ?_
 refine wil X558 hx hby d17_3 rfl ?_
 refine wil X558 hx hby d17_5 rfl ?_
 refine wcn X558 hx hby d17_7 (tlt (by decide : (2 : Int32) < (4 : Int32))).2.1 ?_
 refine walN X558 hx hby d17_10 rfl rfl ?_
 refine wilN X558 hx hby d17_11 rfl ?_
 obtain ⟨cl559, Ar559, q559, S559, M559, H559, G559⟩ := id ((PV_b538.other W556 ne_b538_b553).other W558 ne_b538_b553)
 have hin559 := inb_of (j := (2 : Int32)) S559 ⟨by decide, by decide⟩
 refine Ends.go (X558.caload hx (j := (2 : Int32)) (v := (.int c2_)) (by rw [e558]; exact Ar559.1) (State.isArrayOf_alike hZ.alike Ar559.2.1) Ar559.2.2 hin559 (H559.at hin559 rfl) (g := (mkF m 12 #[cr b538, ci 2, cr b553, ci 2, ci 4, ci 2, ci c1_] [(.int 2), (.ref b538)])) rfl rfl (hb hby d17_12)) ?_
 refine wst X558 hx hby d17_13 (l' := #[cr b538, ci 2, cr b553, ci 2, ci 4, ci 2, ci c2_]) rfl ?_
 refine wil X558 hx hby d17_15 rfl ?_
 refine wsp X558 hx hby d17_17 ?_
 refine wcy (pc := 20) (pc' := 26) X558 hx hby d17_20 (flt ((own_c255 hc2_) : ¬ ((255 : Int32) < c2_))).2.2.2 ?_
 refine walN X558 hx hby d17_26 rfl rfl ?_
 refine wilN X558 hx hby d17_27 rfl ?_
 refine wil X558 hx hby d17_28 rfl ?_
 refine .go (fun _ => XS.i2b X558.here hx rfl (hb hby d17_30) rfl) ?_
 obtain ⟨cl560, Ar560, q560, S560, M560, H560, G560⟩ := id V558
 have hin560 := inb_of (j := (2 : Int32)) S560 ⟨by decide, by decide⟩
 obtain ⟨T560, h560, X560, e560, W560, st560⟩ := stB X558 hx hZ e558 Ar560 (j := (2 : Int32)) hin560 (g := (mkF m 31 #[cr b538, ci 2, cr b553, ci 2, ci 4, ci 2, ci c2_] [(yb c2_), (.int 2), (.ref b553)])) rfl rfl (hb hby d17_31)
 refine Ends.go st560 ?_
 have V560 : Arv Z h560 b553 k553 .byte (4 : Int32) [(yb c0_), (yb c1_), (.int (nar .byte (c2_.toInt8.toInt32))), (.int 0)] (.int 0) := Arv.set Ar560 q560 S560 M560 H560 G560 (fits_nar_byte _) W560 2 rfl (Nat.le_of_ble_eq_true rfl)
 rw [own_narb] at V560
 have K560 := K558.wr W560 (Or.inl (List.mem_of_getElem? (i := 0) rfl))
 have N560 := Fr.snoc X560 N558 g_b553
 refine wii X560 hx hby d17_32 (l' := #[cr b538, ci 3, cr b553, ci 2, ci 4, ci 2, ci c2_]) rfl rfl ?_
 refine wii X560 hx hby d17_35 (l' := #[cr b538, ci 3, cr b553, ci 3, ci 4, ci 2, ci c2_]) rfl rfl ?_
 refine wii X560 hx hby d17_38 (l' := #[cr b538, ci 3, cr b553, ci 3, ci 4, ci 3, ci c2_]) rfl rfl ?_
 refine wgo (pc := 41) (pc' := 3) X560 hx hby d17_41 ?_
 show Ends _ _ _ _ T560 (mkF m 3 #[cr b538, ci 3, cr b553, ci 3, ci 4, ci 3, ci c2_] []) _ _ _
 refine wil X560 hx hby d17_3 rfl ?_
 refine wil X560 hx hby d17_5 rfl ?_
 refine wcn X560 hx hby d17_7 (tlt (by decide : (3 : Int32) < (4 : Int32))).2.1 ?_
 refine walN X560 hx hby d17_10 rfl rfl ?_
 refine wilN X560 hx hby d17_11 rfl ?_
 obtain ⟨cl561, Ar561, q561, S561, M561, H561, G561⟩ := id (((PV_b538.other W556 ne_b538_b553).other W558 ne_b538_b553).other W560 ne_b538_b553)
 have hin561 := inb_of (j := (3 : Int32)) S561 ⟨by decide, by decide⟩
 refine Ends.go (X560.caload hx (j := (3 : Int32)) (v := (.int c3_)) (by rw [e560]; exact Ar561.1) (State.isArrayOf_alike hZ.alike Ar561.2.1) Ar561.2.2 hin561 (H561.at hin561 rfl) (g := (mkF m 12 #[cr b538, ci 3, cr b553, ci 3, ci 4, ci 3, ci c2_] [(.int 3), (.ref b538)])) rfl rfl (hb hby d17_12)) ?_
 refine wst X560 hx hby d17_13 (l' := #[cr b538, ci 3, cr b553, ci 3, ci 4, ci 3, ci c3_]) rfl ?_
 refine wil X560 hx hby d17_15 rfl ?_
 refine wsp X560 hx hby d17_17 ?_
 refine wcy (pc := 20) (pc' := 26) X560 hx hby d17_20 (flt ((own_c255 hc3_) : ¬ ((255 : Int32) < c3_))).2.2.2 ?_
 refine walN X560 hx hby d17_26 rfl rfl ?_
 refine wilN X560 hx hby d17_27 rfl ?_
 refine wil X560 hx hby d17_28 rfl ?_
 refine .go (fun _ => XS.i2b X560.here hx rfl (hb hby d17_30) rfl) ?_
 obtain ⟨cl562, Ar562, q562, S562, M562, H562, G562⟩ := id V560
 have hin562 := inb_of (j := (3 : Int32)) S562 ⟨by decide, by decide⟩
 obtain ⟨T562, h562, X562, e562, W562, st562⟩ := stB X560 hx hZ e560 Ar562 (j := (3 : Int32)) hin562 (g := (mkF m 31 #[cr b538, ci 3, cr b553, ci 3, ci 4, ci 3, ci c3_] [(yb c3_), (.int 3), (.ref b553)])) rfl rfl (hb hby d17_31)
 refine Ends.go st562 ?_
 have V562 : Arv Z h562 b553 k553 .byte (4 : Int32) [(yb c0_), (yb c1_), (yb c2_), (.int (nar .byte (c3_.toInt8.toInt32)))] (.int 0) := Arv.set Ar562 q562 S562 M562 H562 G562 (fits_nar_byte _) W562 3 rfl (Nat.le_of_ble_eq_true rfl)
 rw [own_narb] at V562
 have K562 := K560.wr W562 (Or.inl (List.mem_of_getElem? (i := 0) rfl))
 have N562 := Fr.snoc X562 N560 g_b553
 refine wii X562 hx hby d17_32 (l' := #[cr b538, ci 4, cr b553, ci 3, ci 4, ci 3, ci c3_]) rfl rfl ?_
 refine wii X562 hx hby d17_35 (l' := #[cr b538, ci 4, cr b553, ci 4, ci 4, ci 3, ci c3_]) rfl rfl ?_
 refine wii X562 hx hby d17_38 (l' := #[cr b538, ci 4, cr b553, ci 4, ci 4, ci 4, ci c3_]) rfl rfl ?_
 refine wgo (pc := 41) (pc' := 3) X562 hx hby d17_41 ?_
 refine wil X562 hx hby d17_3 rfl ?_
 refine wil X562 hx hby d17_5 rfl ?_
 refine wcy (pc := 7) (pc' := 44) X562 hx hby d17_7 (flt (by decide : ¬ ((4 : Int32) < (4 : Int32)))).2.1 ?_
 refine wil X562 hx hby d17_44 rfl ?_
 refine Ends.ret X562 hx Bd.notSynchronized (t := .int) Bd.returns rfl (Or.inl ⟨rfl, by simp, _, rfl⟩) (hb hby d17_46) (by decide) (by decide) ?_
 rw [e562]
 exact ⟨rfl, N562, K562, V562⟩

theorem rx16_552 (l : Launch) (Z : State) (a0 : Array Value) (hw : HW a0 Z) (ws : List Jvm.Cond) (n0 : Nat) (h0 : Heap) (O0 : Old Z n0 h0)  (b538 : Addr) (k538 : ClassId) (c0_ : Int32) (c1_ : Int32) (c2_ : Int32) (c3_ : Int32) (PV_b538 : Arv Z h0 b538 k538 .char (4 : Int32) [(.int c0_), (.int c1_), (.int c2_), (.int c3_)] (.int 0)) (hc0_ : 0 ≤ c0_.toInt ∧ c0_.toInt < 256) (hc1_ : 0 ≤ c1_.toInt ∧ c1_.toInt < 256) (hc2_ : 0 ≤ c2_.toInt ∧ c2_.toInt < 256) (hc3_ : 0 ≤ c3_.toInt ∧ c3_.toInt < 256) :
  Meets1 l ym20 jdk_52_method_16_code 6 (some (.array .byte)) ws (mkR 1 1 4 18) #[(.ref b538), (.int 0), (.int 4)] Z h0 (fun v h L => ∃ (b553 : Addr) (k553 : ClassId), v = some (.ref b553) ∧ Fr n0 L ∧ Keep h0 h [] ∧ h0.size ≤ b553 ∧ Arv Z h b553 k553 .byte (4 : Int32) [(yb c0_), (yb c1_), (yb c2_), (yb c3_)] (.int 0)) := by
 refine MetFree.of_bodySF (plainFor_of_name pn16) hisR ?_
 intro p e s m args below meth c s₁ Bd hml0 hP hK
 obtain ⟨rfl, hZ, hh⟩ := hP
 have hx := Bd.exec
 have hby := Bd.bytes
 have hml : c.maxLocals = 6 := hml0
 have hown : s.vm.findClass "java/lang/StringUTF16" = some m.cls := findClass_of_methodNamed Bd.named
 have X0 : Stand p l e (mkR 1 1 4 18) s m #[(.ref b538), (.int 0), (.int 4)] below meth c s₁ [] 0 0 := Stand.of_body Bd
 have e0 : s₁.heap = h0 := by rw [← hh, Bd.state]; rfl
 have N0 := Fr.nil n0
 show Ends _ _ _ _ s₁ (entryFrame m #[(.ref b538), (.int 0), (.int 4)] 6) (mkR 1 1 4 18).cells (mkR 1 1 4 18).slots (fun v h L => ∃ (b553 : Addr) (k553 : ClassId), v = some (.ref b553) ∧ Fr n0 L ∧ Keep h0 h [] ∧ h0.size ≤ b553 ∧ Arv Z h b553 k553 .byte (4 : Int32) [(yb c0_), (yb c1_), (yb c2_), (yb c3_)] (.int 0))
 refine Ends.go (fun _ k => castTop (ef16_rii m b538 (0 : Int32) (4 : Int32)) k) ?_
 have K0 := Keep.refl h0 []
 show Ends _ _ _ _ s₁ (mkF m 0 #[cr b538, ci 0, ci 4, cu, cu, cu] []) _ _ _
 refine wilN X0 hx hby d16_0 rfl ?_
 obtain ⟨T553, h553, k553, X553, e553, E553, A553, st553⟩ := newP X0 hx hZ (ow hw 22 rfl) e0 (g := (mkF m 1 #[cr b538, ci 0, ci 4, cu, cu, cu] [(.int 4)])) rfl (hb hby d16_1) rfl (by decide) (cap := 4) (by decide) (by decide) (by decide) (by decide)
 obtain ⟨b553, g553⟩ : ∃ z, z = h0.size := ⟨_, rfl⟩
 rw [← g553] at A553 st553
 refine Ends.go st553 ?_
 have g_b553 : n0 ≤ b553 := Nat.le_trans (own_old_le O0) (Nat.le_of_eq g553.symm)
 have sz_b553 : h0.size ≤ b553 := Nat.le_trans K0.1 (Nat.le_of_eq g553.symm)
 have K553 := K0.ext E553
 have O553 := O0.ext E553
 have V_b553 : Arv Z h553 b553 k553 .byte (4 : Int32) [(.int 0), (.int 0), (.int 0), (.int 0)] (.int 0) := (Arv.new A553 (by decide)).pad (pad_rep [] (.int 0) 4)
 refine wasN X553 hx hby d16_3 (l' := #[cr b538, ci 0, ci 4, cr b553, cu, cu]) rfl rfl ?_
 refine walN X553 hx hby d16_4 rfl rfl ?_
 refine wilN X553 hx hby d16_5 rfl ?_
 refine walN X553 hx hby d16_6 rfl rfl ?_
 refine wic X553 hx hby d16_7 ?_
 refine wilN X553 hx hby d16_8 rfl ?_
 obtain ⟨_, _, ⟨T563, L563, k563, n563⟩, -, X563, ⟨Lc563, hQ563, l563, y563, z563⟩, st563⟩ := Jvm.LawKit.callS X553 hx (y := ym19) hown (ov hZ hw 77 rfl) (ov hZ hw 78 rfl) (ov hZ hw 75 rfl) (ov hZ hw 79 rfl) (by decide) (own_backOf (W := 0) (rx17_554 l Z a0 hw [] n0 h553 O553  b538 b553 k538 c0_ c1_ c2_ c3_ k553 (PV_b538.ext E553) V_b553 (Nat.ne_of_lt (Nat.lt_of_lt_of_le PV_b538.lt sz_b553)) g_b553 hc0_ hc1_ hc2_ hc3_) hZ (ow hw 79 rfl) (ow hw 75 rfl) (by decide) (by decide)) (g := (mkF m 9 #[cr b538, ci 0, ci 4, cr b553, cu, cu] [(.int 4), (.int 0), (.ref b553), (.int 0), (.ref b538)])) rfl (by rw [hml]; rfl) (argsL := [(.ref b538), (.int 0), (.ref b553), (.int 0), (.int 4)]) (rest := []) (lenOf pdx_12 rfl) rfl (own_w rfl) (hb hby d16_9) (fun _ _ => ⟨rfl, e553, (by decide : 1 + 0 ≤ _), (by decide : 4 + 0 ≤ _)⟩)
 dsimp only [Pt.U, Pt.locs, Pt.cells, Pt.slots] at X563 l563 y563 z563 st563 hQ563
 subst l563 y563 z563
 obtain ⟨rfl, N563q, K563c, Y563_0⟩ := hQ563
 have N563 := Fr.app N0 N563q
 refine Ends.go st563 ?_
 obtain ⟨h563, e563⟩ : ∃ z, T563.heap = z := ⟨_, rfl⟩
 rw [e563] at K563c Y563_0
 have K563 := K553.trans K563c (allS (Or.inr sz_b553) all0)
 refine wst X563 hx hby d16_12 (l' := #[cr b538, ci 0, ci 4, cr b553, ci 4, cu]) rfl ?_
 refine wil X563 hx hby d16_14 rfl ?_
 refine wilN X563 hx hby d16_16 rfl ?_
 refine wcy (pc := 17) (pc' := 57) X563 hx hby d16_17 (teq (by decide : (4 : Int32) = (4 : Int32))).1 ?_
 refine walN X563 hx hby d16_57 rfl rfl ?_
 refine Ends.ret X563 hx Bd.notSynchronized (t := (.array .byte)) Bd.returns rfl (Or.inr (Or.inr (Or.inr (Or.inr ⟨rfl, rfl, rfl⟩)))) (hb hby d16_58) (by decide) (by decide) ?_
 rw [e563]
 exact ⟨b553, k553, rfl, N563, K563, sz_b553, Y563_0⟩

theorem rx18_567 (l : Launch) (Z : State) (a0 : Array Value) (hw : HW a0 Z) (ws : List Jvm.Cond) (n0 : Nat) (h0 : Heap) (O0 : Old Z n0 h0)  (b565 : Addr) (k566 : ClassId) (c0_ : Int32) (c1_ : Int32) (c2_ : Int32) (c3_ : Int32) (PV_b565 : Arv Z h0 b565 k566 .byte (4 : Int32) [(yb c0_), (yb c1_), (yb c2_), (yb c3_)] (.int 0)) :
  Meets1 l ym21 jdk_52_method_15_code 2 (some .byte) ws (mkR 0 0 0 0) #[(.ref b565), (.int 4)] Z h0 (fun v h L => v = some (.int 0) ∧ Fr n0 L ∧ Keep h0 h []) := by
 refine MetFree.of_bodySF (plainFor_of_name pn18) hisR ?_
 intro p e s m args below meth c s₁ Bd hml0 hP hK
 obtain ⟨rfl, hZ, hh⟩ := hP
 have hx := Bd.exec
 have hby := Bd.bytes
 have X0 : Stand p l e (mkR 0 0 0 0) s m #[(.ref b565), (.int 4)] below meth c s₁ [] 0 0 := Stand.of_body Bd
 have e0 : s₁.heap = h0 := by rw [← hh, Bd.state]; rfl
 have N0 := Fr.nil n0
 show Ends _ _ _ _ s₁ (entryFrame m #[(.ref b565), (.int 4)] 2) (mkR 0 0 0 0).cells (mkR 0 0 0 0).slots (fun v h L => v = some (.int 0) ∧ Fr n0 L ∧ Keep h0 h [])
 refine Ends.go (fun _ k => castTop (ef18_ri m b565 (4 : Int32)) k) ?_
 have K0 := Keep.refl h0 []
 show Ends _ _ _ _ s₁ (mkF m 0 #[cr b565, ci 4] []) _ _ _
 refine wilN X0 hx hby d18_0 rfl ?_
 refine walN X0 hx hby d18_1 rfl rfl ?_
 obtain ⟨cl568, Ar568, q568, S568, M568, H568, G568⟩ := id PV_b565
 refine Ends.go (X0.arraylength hx (by rw [e0]; exact Ar568.1) (State.isArrayOf_alike hZ.alike Ar568.2.1) (g := (mkF m 2 #[cr b565, ci 4] [(.ref b565), (.int 4)])) rfl rfl (hb hby d18_2)) ?_
 rw [len_of S568 M568]
 refine wis X0 hx hby d18_3 ?_
 refine wbp X0 hx hby d18_4 ?_
 refine .go (fun _ => XS.iushr X0.here hx rfl (hb hby d18_6) rfl) ?_
 refine .go (fun _ => XS.i2b X0.here hx rfl (hb hby d18_7) rfl) ?_
 refine Ends.retZ X0 hx Bd.notSynchronized (t := .byte) Bd.returns (by simp) (hb hby d18_8) (by decide) (by decide) ?_
 rw [e0]
 exact ⟨rfl, N0, K0⟩

theorem rx4_549 (l : Launch) (Z : State) (a0 : Array Value) (hw : HW a0 Z) (ws : List Jvm.Cond) (n0 : Nat) (h0 : Heap) (O0 : Old Z n0 h0) (G1 : Int32) (G3 : Value) (GF : GlobF Z a0 G1 G3) (b537 : Addr) (b538 : Addr) (k538 : ClassId) (c0_ : Int32) (c1_ : Int32) (c2_ : Int32) (c3_ : Int32) (PV_b538 : Arv Z h0 b538 k538 .char (4 : Int32) [(.int c0_), (.int c1_), (.int c2_), (.int c3_)] (.int 0)) (PE_b537 : Exa Z h0 b537 cST) (PF_b537_coder : Fld Z h0 b537 cST "coder" "B" (.int 0)) (PF_b537_value : Fld Z h0 b537 cST "value" "[B" .null) (g_b537 : n0 ≤ b537) (hc0_ : 0 ≤ c0_.toInt ∧ c0_.toInt < 256) (hc1_ : 0 ≤ c1_.toInt ∧ c1_.toInt < 256) (hc2_ : 0 ≤ c2_.toInt ∧ c2_.toInt < 256) (hc3_ : 0 ≤ c3_.toInt ∧ c3_.toInt < 256) :
  Meets1 l ym15 jdk_42_method_149_code 6 none ws (mkR 2 1 4 35) #[(.ref b537), (.ref b538), (.int 0), (.int 4), .null] Z h0 (fun v h L => ∃ (b565 : Addr) (k566 : ClassId), v = none ∧ Fr n0 L ∧ Keep h0 h [b537] ∧ h0.size ≤ b565 ∧ Arv Z h b565 k566 .byte (4 : Int32) [(yb c0_), (yb c1_), (yb c2_), (yb c3_)] (.int 0) ∧ Fld Z h b537 cST "coder" "B" (.int 0) ∧ Fld Z h b537 cST "value" "[B" (.ref b565)) := by
 refine MetFree.of_bodySF (plainFor_of_name pn4) hisR ?_
 intro p e s m args below meth c s₁ Bd hml0 hP hK
 obtain ⟨rfl, hZ, hh⟩ := hP
 have hx := Bd.exec
 have hby := Bd.bytes
 have hml : c.maxLocals = 6 := hml0
 have hown : s.vm.findClass "java/lang/String" = some m.cls := findClass_of_methodNamed Bd.named
 have hnm := (name_of_methodNamed Bd.named Bd.method).1
 have X0 : Stand p l e (mkR 2 1 4 35) s m #[(.ref b537), (.ref b538), (.int 0), (.int 4), .null] below meth c s₁ [] 0 0 := Stand.of_body Bd
 have e0 : s₁.heap = h0 := by rw [← hh, Bd.state]; rfl
 have N0 := Fr.nil n0
 show Ends _ _ _ _ s₁ (entryFrame m #[(.ref b537), (.ref b538), (.int 0), (.int 4), .null] 6) (mkR 2 1 4 35).cells (mkR 2 1 4 35).slots (fun v h L => ∃ (b565 : Addr) (k566 : ClassId), v = none ∧ Fr n0 L ∧ Keep h0 h [b537] ∧ h0.size ≤ b565 ∧ Arv Z h b565 k566 .byte (4 : Int32) [(yb c0_), (yb c1_), (yb c2_), (yb c3_)] (.int 0) ∧ Fld Z h b537 cST "coder" "B" (.int 0) ∧ Fld Z h b537 cST "value" "[B" (.ref b565))
 refine Ends.go (fun _ k => castTop (ef4_rriin m b537 b538 (0 : Int32) (4 : Int32)) k) ?_
 obtain ⟨SCS, P5, SSF, RG3, HC1, HC2, HCW⟩ := id GF
 have K0 := Keep.refl h0 [b537]
 show Ends _ _ _ _ s₁ (mkF m 0 #[cr b537, cr b538, ci 0, ci 4, .val .null, cu] []) _ _ _
 refine walN X0 hx hby d4_0 rfl rfl ?_
 obtain ⟨T550, X550, e550, st550⟩ := initO X0 hx hZ hown (ow hw 18 rfl) (ow hw 19 rfl) (ow hw 20 rfl) e0 (g := (mkF m 1 #[cr b537, cr b538, ci 0, ci 4, .val .null, cu] [(.ref b537)])) rfl (by rw [hml]; rfl) rfl (hb hby d4_1) (by decide) (W := 0) (own_w rfl) (by decide)
 refine Ends.go st550 ?_
 refine wilN X550 hx hby d4_4 rfl ?_
 refine wiy (pc := 5) (pc' := 27) X550 hx hby d4_5 ((if0 _ _).trans (feq (by decide : ¬ ((4 : Int32) = (0 : Int32)))).2) ?_
 obtain ⟨T551, X551, e551, st551⟩ := getS2 X550 hx hZ hown (host := "") (Or.inl (ow hw 48 rfl)) Via.refl e550 (SCS.ext O0.2) (g := (mkF m 27 #[cr b537, cr b538, ci 0, ci 4, .val .null, cu] [])) rfl (hb hby d4_27)
 refine Ends.go st551 ?_
 refine win X551 hx hby d4_30 ((if0 _ _).trans (feq (P5 : ¬ (G1 = (0 : Int32)))).1) ?_
 refine walN X551 hx hby d4_33 rfl rfl ?_
 refine wilN X551 hx hby d4_34 rfl ?_
 refine wilN X551 hx hby d4_35 rfl ?_
 obtain ⟨_, _, ⟨T564, L564, k564, n564⟩, -, X564, ⟨Lc564, hQ564, l564, y564, z564⟩, st564⟩ := Jvm.LawKit.callS X551 hx (y := ym20) hown (ov hZ hw 73 rfl) (ov hZ hw 74 rfl) (ov hZ hw 75 rfl) (ov hZ hw 76 rfl) (by decide) (own_backOf (W := 0) (rx16_552 l Z a0 hw [] n0 h0 O0  b538 k538 c0_ c1_ c2_ c3_ PV_b538 hc0_ hc1_ hc2_ hc3_) hZ (ow hw 76 rfl) (ow hw 75 rfl) (by decide) (by decide)) (g := (mkF m 36 #[cr b537, cr b538, ci 0, ci 4, .val .null, cu] [(.int 4), (.int 0), (.ref b538)])) rfl (by rw [hml]; rfl) (argsL := [(.ref b538), (.int 0), (.int 4)]) (rest := []) (lenOf pdx_13 rfl) rfl (own_w rfl) (hb hby d4_36) (fun _ _ => ⟨rfl, e551, (by decide : 0 + 1 ≤ _), (by decide : 0 + 4 ≤ _)⟩)
 dsimp only [Pt.U, Pt.locs, Pt.cells, Pt.slots] at X564 l564 y564 z564 st564 hQ564
 subst l564 y564 z564
 obtain ⟨b565, k566, rfl, N564q, K564c, hb564_b565, Y564_0⟩ := hQ564
 have N564 := Fr.app N0 N564q
 refine Ends.go st564 ?_
 have sz_b565 : h0.size ≤ b565 := Nat.le_trans K0.1 hb564_b565
 obtain ⟨h564, e564⟩ : ∃ z, T564.heap = z := ⟨_, rfl⟩
 rw [e564] at K564c Y564_0
 have K564 := K0.trans K564c all0
 have O564 := O0.keep K564c all0
 refine was X564 hx hby d4_39 (l' := #[cr b537, cr b538, ci 0, ci 4, .val .null, cr b565]) rfl rfl ?_
 refine walN X564 hx hby d4_41 rfl rfl ?_
 refine wal X564 hx hby d4_42 rfl rfl ?_
 refine wilN X564 hx hby d4_44 rfl ?_
 obtain ⟨_, _, ⟨T569, L569, k569, n569⟩, -, X569, ⟨Lc569, hQ569, l569, y569, z569⟩, st569⟩ := Jvm.LawKit.callS X564 hx (y := ym21) hown (ov hZ hw 80 rfl) (ov hZ hw 81 rfl) (ov hZ hw 75 rfl) (ov hZ hw 82 rfl) (by decide) (own_backOf (W := 1) (rx18_567 l Z a0 hw [] n0 h564 O564  b565 k566 c0_ c1_ c2_ c3_ Y564_0) hZ (ow hw 82 rfl) (ow hw 75 rfl) (by decide) (by decide)) (g := (mkF m 45 #[cr b537, cr b538, ci 0, ci 4, .val .null, cr b565] [(.int 4), (.ref b565), (.ref b537)])) rfl (by rw [hml]; rfl) (argsL := [(.ref b565), (.int 4)]) (rest := [(.ref b537)]) (lenOf pdx_14 rfl) rfl (own_w rfl) (hb hby d4_45) (fun _ _ => ⟨rfl, e564, (by decide : 1 + 0 ≤ _), (by decide : 4 + 0 ≤ _)⟩)
 dsimp only [Pt.U, Pt.locs, Pt.cells, Pt.slots] at X569 l569 y569 z569 st569 hQ569
 subst l569 y569 z569
 obtain ⟨rfl, N569q, K569c⟩ := hQ569
 have N569 := Fr.app N564 N569q
 refine Ends.go st569 ?_
 obtain ⟨h569, e569⟩ : ∃ z, T569.heap = z := ⟨_, rfl⟩
 rw [e569] at K569c
 have K569 := K564.trans K569c all0
 obtain ⟨T570, h570, X570, e570, W570, st570⟩ := putFN X569 hx hZ hown (ow hw 28 rfl) Via.refl e569 ((PF_b537_coder.keep K564c nin0).keep K569c nin0) ((PE_b537.keep K564c).keep K569c) (Or.inr ⟨(ow hw 24 rfl), rfl, hnm⟩) (ow hw 9 rfl) (ty := .byte) (v' := (.int 0)) (by decide) rfl (by decide) (g := (mkF m 48 #[cr b537, cr b538, ci 0, ci 4, .val .null, cr b565] [(.int 0), (.ref b537)])) rfl rfl (hb hby d4_48)
 refine Ends.go st570 ?_
 have Fw570 := ((PF_b537_coder.keep K564c nin0).keep K569c nin0).same W570
 have K570 := K569.wr W570 (Or.inl (List.mem_of_getElem? (i := 0) rfl))
 have N570 := Fr.snoc X570 N569 g_b537
 refine walN X570 hx hby d4_51 rfl rfl ?_
 refine wal X570 hx hby d4_52 rfl rfl ?_
 obtain ⟨T571, h571, X571, e571, W571, st571⟩ := putF X570 hx hZ hown (host := "") (Or.inl (ow hw 27 rfl)) Via.refl e570 (((PF_b537_value.keep K564c nin0).keep K569c nin0).other W570 (Or.inr (slot_ne (Or.inr (ow hw 23 rfl)) (Or.inr (ow hw 24 rfl)) (by decide) (t := (.array .byte)) (t' := .byte) (by decide) (by decide)))) (((PE_b537.keep K564c).keep K569c).wr W570) (Or.inr ⟨(ow hw 23 rfl), rfl, hnm⟩) (ow hw 9 rfl) (ty := (.array .byte)) (by decide) rfl rfl (g := (mkF m 54 #[cr b537, cr b538, ci 0, ci 4, .val .null, cr b565] [(.ref b565), (.ref b537)])) rfl rfl (hb hby d4_54)
 refine Ends.go st571 ?_
 have Fw571 := (((PF_b537_value.keep K564c nin0).keep K569c nin0).other W570 (Or.inr (slot_ne (Or.inr (ow hw 23 rfl)) (Or.inr (ow hw 24 rfl)) (by decide) (t := (.array .byte)) (t' := .byte) (by decide) (by decide)))).same W571
 have K571 := K570.wr W571 (Or.inl (List.mem_of_getElem? (i := 0) rfl))
 have N571 := Fr.snoc X571 N570 g_b537
 refine Ends.retV X571 hx Bd.notSynchronized Bd.returns (hb hby d4_57) (by decide) (by decide) ?_
 rw [e571]
 exact ⟨b565, k566, rfl, N571, K571, sz_b565, (((Y564_0.keep K569c nin0).other W570 (Ne.symm (Nat.ne_of_lt (Nat.lt_of_lt_of_le PE_b537.lt sz_b565)))).other W571 (Ne.symm (Nat.ne_of_lt (Nat.lt_of_lt_of_le PE_b537.lt sz_b565)))), (Fw570.other W571 (Or.inr (slot_ne (Or.inr (ow hw 24 rfl)) (Or.inr (ow hw 23 rfl)) (by decide) (t := .byte) (t' := (.array .byte)) (by decide) (by decide)))), Fw571⟩

theorem rx3_547 (l : Launch) (Z : State) (a0 : Array Value) (hw : HW a0 Z) (ws : List Jvm.Cond) (n0 : Nat) (h0 : Heap) (O0 : Old Z n0 h0) (G1 : Int32) (G3 : Value) (GF : GlobF Z a0 G1 G3) (b537 : Addr) (b538 : Addr) (k538 : ClassId) (c0_ : Int32) (c1_ : Int32) (c2_ : Int32) (c3_ : Int32) (PV_b538 : Arv Z h0 b538 k538 .char (4 : Int32) [(.int c0_), (.int c1_), (.int c2_), (.int c3_)] (.int 0)) (PE_b537 : Exa Z h0 b537 cST) (PF_b537_coder : Fld Z h0 b537 cST "coder" "B" (.int 0)) (PF_b537_value : Fld Z h0 b537 cST "value" "[B" .null) (g_b537 : n0 ≤ b537) (hc0_ : 0 ≤ c0_.toInt ∧ c0_.toInt < 256) (hc1_ : 0 ≤ c1_.toInt ∧ c1_.toInt < 256) (hc2_ : 0 ≤ c2_.toInt ∧ c2_.toInt < 256) (hc3_ : 0 ≤ c3_.toInt ∧ c3_.toInt < 256) :
  Meets1 l ym16 jdk_42_method_3_code 2 none ws (mkR 3 1 4 52) #[(.ref b537), (.ref b538)] Z h0 (fun v h L => ∃ (b573 : Addr) (k574 : ClassId), v = none ∧ Fr n0 L ∧ Keep h0 h [b537] ∧ h0.size ≤ b573 ∧ Arv Z h b573 k574 .byte (4 : Int32) [(yb c0_), (yb c1_), (yb c2_), (yb c3_)] (.int 0) ∧ Fld Z h b537 cST "coder" "B" (.int 0) ∧ Fld Z h b537 cST "value" "[B" (.ref b573)) := by
 refine MetFree.of_bodySF (plainFor_of_name pn3) hisR ?_
 intro p e s m args below meth c s₁ Bd hml0 hP hK
 obtain ⟨rfl, hZ, hh⟩ := hP
 have hx := Bd.exec
 have hby := Bd.bytes
 have hml : c.maxLocals = 2 := hml0
 have hown : s.vm.findClass "java/lang/String" = some m.cls := findClass_of_methodNamed Bd.named
 have X0 : Stand p l e (mkR 3 1 4 52) s m #[(.ref b537), (.ref b538)] below meth c s₁ [] 0 0 := Stand.of_body Bd
 have e0 : s₁.heap = h0 := by rw [← hh, Bd.state]; rfl
 have N0 := Fr.nil n0
 show Ends _ _ _ _ s₁ (entryFrame m #[(.ref b537), (.ref b538)] 2) (mkR 3 1 4 52).cells (mkR 3 1 4 52).slots (fun v h L => ∃ (b573 : Addr) (k574 : ClassId), v = none ∧ Fr n0 L ∧ Keep h0 h [b537] ∧ h0.size ≤ b573 ∧ Arv Z h b573 k574 .byte (4 : Int32) [(yb c0_), (yb c1_), (yb c2_), (yb c3_)] (.int 0) ∧ Fld Z h b537 cST "coder" "B" (.int 0) ∧ Fld Z h b537 cST "value" "[B" (.ref b573))
 refine Ends.go (fun _ k => castTop (ef3_rr m b537 b538) k) ?_
 obtain ⟨SCS, P5, SSF, RG3, HC1, HC2, HCW⟩ := id GF
 have K0 := Keep.refl h0 [b537]
 show Ends _ _ _ _ s₁ (mkF m 0 #[cr b537, cr b538] []) _ _ _
 refine walN X0 hx hby d3_0 rfl rfl ?_
 refine walN X0 hx hby d3_1 rfl rfl ?_
 refine wic X0 hx hby d3_2 ?_
 refine walN X0 hx hby d3_3 rfl rfl ?_
 obtain ⟨cl548, Ar548, q548, S548, M548, H548, G548⟩ := id PV_b538
 refine Ends.go (X0.arraylength hx (by rw [e0]; exact Ar548.1) (State.isArrayOf_alike hZ.alike Ar548.2.1) (g := (mkF m 4 #[cr b537, cr b538] [(.ref b538), (.int 0), (.ref b538), (.ref b537)])) rfl rfl (hb hby d3_4)) ?_
 rw [len_of S548 M548]
 refine .go (fun _ => XS.aconstNull X0.here hx rfl (hb hby d3_5)) ?_
 obtain ⟨_, _, ⟨T572, L572, k572, n572⟩, -, X572, ⟨Lc572, hQ572, l572, y572, z572⟩, st572⟩ := X0.specialBack hx (y := ym15) rfl hown (ov hZ hw 14 rfl) (ov hZ hw 15 rfl) (ov hZ hw 17 rfl) (by decide) (own_backOf (W := 0) (rx4_549 l Z a0 hw [] n0 h0 O0 G1 G3 GF b537 b538 k538 c0_ c1_ c2_ c3_ PV_b538 PE_b537 PF_b537_coder PF_b537_value g_b537 hc0_ hc1_ hc2_ hc3_) hZ (ow hw 17 rfl) (ow hw 10 rfl) (by decide) (by decide)) (g := (mkF m 6 #[cr b537, cr b538] [.null, (.int 4), (.int 0), (.ref b538), (.ref b537)])) rfl (by rw [hml]; rfl) (Steps.refl _) (a := b537) (argsL := [(.ref b538), (.int 0), (.int 4), .null]) (rest := []) (lenOf pdx_7 rfl) rfl (own_w rfl) (hb hby d3_6) (fun _ _ => ⟨rfl, e0, (by decide : 0 + 1 ≤ _), (by decide : 0 + 4 ≤ _)⟩)
 dsimp only [Pt.U, Pt.locs, Pt.cells, Pt.slots] at X572 l572 y572 z572 st572 hQ572
 subst l572 y572 z572
 obtain ⟨b573, k574, rfl, N572q, K572c, hb572_b573, Y572_0, Y572_1, Y572_2⟩ := hQ572
 have N572 := Fr.app N0 N572q
 refine Ends.go (fun _ k => st572.trans k) ?_
 have sz_b573 : h0.size ≤ b573 := Nat.le_trans K0.1 hb572_b573
 obtain ⟨h572, e572⟩ : ∃ z, T572.heap = z := ⟨_, rfl⟩
 rw [e572] at K572c Y572_0 Y572_1 Y572_2
 have K572 := K0.trans K572c (allS (Or.inl (List.mem_of_getElem? (i := 0) rfl)) all0)
 refine Ends.retV X572 hx Bd.notSynchronized Bd.returns (hb hby d3_9) (by decide) (by decide) ?_
 rw [e572]
 exact ⟨b573, k574, rfl, N572, K572, sz_b573, Y572_0, Y572_1, Y572_2⟩

theorem d2_99 : decode method_3_code 99 = .ok (.new 7, 3) := by decide +kernel
theorem d2_102 : decode method_3_code 102 = .ok (.dup, 1) := by decide +kernel
theorem d2_103 : decode method_3_code 103 = .ok (.iconst 4, 1) := by decide +kernel
theorem d2_104 : decode method_3_code 104 = .ok (.newarray .char, 2) := by decide +kernel
theorem d2_106 : decode method_3_code 106 = .ok (.dup, 1) := by decide +kernel
theorem d2_107 : decode method_3_code 107 = .ok (.iconst 0, 1) := by decide +kernel
theorem d2_108 : decode method_3_code 108 = .ok (.aload_n 0, 1) := by decide +kernel
theorem d2_109 : decode method_3_code 109 = .ok (.iconst 0, 1) := by decide +kernel
theorem d2_110 : decode method_3_code 110 = .ok (.caload, 1) := by decide +kernel
theorem d2_111 : decode method_3_code 111 = .ok (.castore, 1) := by decide +kernel
theorem d2_112 : decode method_3_code 112 = .ok (.dup, 1) := by decide +kernel
theorem d2_113 : decode method_3_code 113 = .ok (.iconst 1, 1) := by decide +kernel
theorem d2_114 : decode method_3_code 114 = .ok (.aload_n 0, 1) := by decide +kernel
theorem d2_115 : decode method_3_code 115 = .ok (.iconst 1, 1) := by decide +kernel
theorem d2_116 : decode method_3_code 116 = .ok (.caload, 1) := by decide +kernel
theorem d2_117 : decode method_3_code 117 = .ok (.castore, 1) := by decide +kernel
theorem d2_118 : decode method_3_code 118 = .ok (.dup, 1) := by decide +kernel
theorem d2_119 : decode method_3_code 119 = .ok (.iconst 2, 1) := by decide +kernel
theorem d2_120 : decode method_3_code 120 = .ok (.aload_n 0, 1) := by decide +kernel
theorem d2_121 : decode method_3_code 121 = .ok (.iconst 2, 1) := by decide +kernel
theorem d2_122 : decode method_3_code 122 = .ok (.caload, 1) := by decide +kernel
theorem d2_123 : decode method_3_code 123 = .ok (.castore, 1) := by decide +kernel
theorem d2_124 : decode method_3_code 124 = .ok (.dup, 1) := by decide +kernel
theorem d2_125 : decode method_3_code 125 = .ok (.iconst 3, 1) := by decide +kernel
theorem d2_126 : decode method_3_code 126 = .ok (.aload_n 0, 1) := by decide +kernel
theorem d2_127 : decode method_3_code 127 = .ok (.iconst 3, 1) := by decide +kernel
theorem d2_128 : decode method_3_code 128 = .ok (.caload, 1) := by decide +kernel
theorem d2_129 : decode method_3_code 129 = .ok (.castore, 1) := by decide +kernel
theorem d2_130 : decode method_3_code 130 = .ok (.invokespecial 9, 3) := by decide +kernel
theorem d2_133 : decode method_3_code 133 = .ok (.areturn, 1) := by decide +kernel
theorem rx2_536 (l : Launch) (Z : State) (a0 : Array Value) (hw : HW a0 Z) (ws : List Jvm.Cond) (n0 : Nat) (h0 : Heap) (O0 : Old Z n0 h0) (G1 : Int32) (G3 : Value) (GF : GlobF Z a0 G1 G3) (b104 : Addr) (k104 : ClassId) (c0_ : Int32) (c1_ : Int32) (c2_ : Int32) (c3_ : Int32) (PV_b104 : Arv Z h0 b104 k104 .char (4 : Int32) [(.int c0_), (.int c1_), (.int c2_), (.int c3_)] (.int 0)) (hc0_ : 0 ≤ c0_.toInt ∧ c0_.toInt < 256) (hc1_ : 0 ≤ c1_.toInt ∧ c1_.toInt < 256) (hc2_ : 0 ≤ c2_.toInt ∧ c2_.toInt < 256) (hc3_ : 0 ≤ c3_.toInt ∧ c3_.toInt < 256) :
  Meets1 l ym17 method_3_code 2 (some (.object cST)) ws (mkR 4 3 12 66) #[(.ref b104), (.int 4)] Z h0 (fun v h L => ∃ (b537 : Addr) (b538 : Addr) (b576 : Addr) (k538 : ClassId) (k577 : ClassId), v = some (.ref b537) ∧ Fr n0 L ∧ Keep h0 h [] ∧ h0.size ≤ b537 ∧ h0.size ≤ b538 ∧ h0.size ≤ b576 ∧ b537 ≠ b538 ∧ b537 ≠ b576 ∧ b538 ≠ b576 ∧ Exa Z h b537 cST ∧ Arv Z h b538 k538 .char (4 : Int32) [(.int c0_), (.int c1_), (.int c2_), (.int c3_)] (.int 0) ∧ Arv Z h b576 k577 .byte (4 : Int32) [(yb c0_), (yb c1_), (yb c2_), (yb c3_)] (.int 0) ∧ Fld Z h b537 cST "coder" "B" (.int 0) ∧ Fld Z h b537 cST "value" "[B" (.ref b576)) := by
 refine MetFree.of_bodySF (plainFor_of_name pn2) hisR ?_
 intro p e s m args below meth c s₁ Bd hml0 hP hK
 obtain ⟨rfl, hZ, hh⟩ := hP
 have hx := Bd.exec
 have hby := Bd.bytes
 have hml : c.maxLocals = 2 := hml0
 have hown : s.vm.findClass "com/example/wakeline/wakeline/format/shareplex/SharePlexMessageDatabasePinLaw" = some m.cls := findClass_of_methodNamed Bd.named
 have X0 : Stand p l e (mkR 4 3 12 66) s m #[(.ref b104), (.int 4)] below meth c s₁ [] 0 0 := Stand.of_body Bd
 have e0 : s₁.heap = h0 := by rw [← hh, Bd.state]; rfl
 have N0 := Fr.nil n0
 show Ends _ _ _ _ s₁ (entryFrame m #[(.ref b104), (.int 4)] 2) (mkR 4 3 12 66).cells (mkR 4 3 12 66).slots (fun v h L => ∃ (b537 : Addr) (b538 : Addr) (b576 : Addr) (k538 : ClassId) (k577 : ClassId), v = some (.ref b537) ∧ Fr n0 L ∧ Keep h0 h [] ∧ h0.size ≤ b537 ∧ h0.size ≤ b538 ∧ h0.size ≤ b576 ∧ b537 ≠ b538 ∧ b537 ≠ b576 ∧ b538 ≠ b576 ∧ Exa Z h b537 cST ∧ Arv Z h b538 k538 .char (4 : Int32) [(.int c0_), (.int c1_), (.int c2_), (.int c3_)] (.int 0) ∧ Arv Z h b576 k577 .byte (4 : Int32) [(yb c0_), (yb c1_), (yb c2_), (yb c3_)] (.int 0) ∧ Fld Z h b537 cST "coder" "B" (.int 0) ∧ Fld Z h b537 cST "value" "[B" (.ref b576))
 refine Ends.go (fun _ k => castTop (ef2_ri m b104 (4 : Int32)) k) ?_
 obtain ⟨SCS, P5, SSF, RG3, HC1, HC2, HCW⟩ := id GF
 have K0 := Keep.refl h0 []
 show Ends _ _ _ _ s₁ (mkF m 0 #[cr b104, ci 4] []) _ _ _
 refine wilN X0 hx hby d2_0 rfl ?_
 refine wiy (pc := 1) (pc' := 15) X0 hx hby d2_1 ((if0 _ _).trans (feq (by decide : ¬ ((4 : Int32) = (0 : Int32)))).2) ?_
 refine wilN X0 hx hby d2_15 rfl ?_
 refine wic X0 hx hby d2_16 ?_
 refine wcy (pc := 17) (pc' := 37) X0 hx hby d2_17 (feq (by decide : ¬ ((4 : Int32) = (1 : Int32)))).2 ?_
 refine wilN X0 hx hby d2_37 rfl ?_
 refine wic X0 hx hby d2_38 ?_
 refine wcy (pc := 39) (pc' := 65) X0 hx hby d2_39 (feq (by decide : ¬ ((4 : Int32) = (2 : Int32)))).2 ?_
 refine wilN X0 hx hby d2_65 rfl ?_
 refine wic X0 hx hby d2_66 ?_
 refine wcy (pc := 67) (pc' := 99) X0 hx hby d2_67 (feq (by decide : ¬ ((4 : Int32) = (3 : Int32)))).2 ?_
 obtain ⟨T537, h537, X537, e537, E537, A537, D537, -, st537⟩ := newO X0 hx hZ hown (ow hw 8 rfl) (ow hw 9 rfl) (ow hw 10 rfl) e0 (g := (mkF m 99 #[cr b104, ci 4] [])) rfl (hb hby d2_99) (by decide) (by decide)
 obtain ⟨b537, g537⟩ : ∃ z, z = h0.size := ⟨_, rfl⟩
 rw [← g537] at A537 D537 st537
 refine Ends.go st537 ?_
 have g_b537 : n0 ≤ b537 := Nat.le_trans (own_old_le O0) (Nat.le_of_eq g537.symm)
 have sz_b537 : h0.size ≤ b537 := Nat.le_trans K0.1 (Nat.le_of_eq g537.symm)
 have K537 := K0.ext E537
 have O537 := O0.ext E537
 have F_value_b537 : Fld Z h537 b537 cST "value" "[B" .null := D537 (Or.inr (ow hw 23 rfl)) (ty := (.array .byte)) (by decide)
 have F_coder_b537 : Fld Z h537 b537 cST "coder" "B" (.int 0) := D537 (Or.inr (ow hw 24 rfl)) (ty := .byte) (by decide)
 refine wdu X537 hx hby d2_102 rfl ?_
 refine wic X537 hx hby d2_103 ?_
 obtain ⟨T538, h538, k538, X538, e538, E538, A538, st538⟩ := newP X537 hx hZ (ow hw 0 rfl) e537 (g := (mkF m 104 #[cr b104, ci 4] [(.int 4), (.ref b537), (.ref b537)])) rfl (hb hby d2_104) rfl (by decide) (cap := 4) (by decide) (by decide) (by decide) (by decide)
 obtain ⟨b538, g538⟩ : ∃ z, z = h537.size := ⟨_, rfl⟩
 rw [← g538] at A538 st538
 refine Ends.go st538 ?_
 have g_b538 : n0 ≤ b538 := Nat.le_trans (own_old_le O537) (Nat.le_of_eq g538.symm)
 have sz_b538 : h0.size ≤ b538 := Nat.le_trans K537.1 (Nat.le_of_eq g538.symm)
 have K538 := K537.ext E538
 have O538 := O537.ext E538
 have V_b538 : Arv Z h538 b538 k538 .char (4 : Int32) [(.int 0), (.int 0), (.int 0), (.int 0)] (.int 0) := (Arv.new A538 (by decide)).pad (pad_rep [] (.int 0) 4)
 refine wdu X538 hx hby d2_106 rfl ?_
 refine wic X538 hx hby d2_107 ?_
 refine walN X538 hx hby d2_108 rfl rfl ?_
 refine wic X538 hx hby d2_109 ?_
 obtain ⟨cl539, Ar539, q539, S539, M539, H539, G539⟩ := id ((PV_b104.ext E537).ext E538)
 have hin539 := inb_of (j := (0 : Int32)) S539 ⟨by decide, by decide⟩
 refine Ends.go (X538.caload hx (j := (0 : Int32)) (v := (.int c0_)) (by rw [e538]; exact Ar539.1) (State.isArrayOf_alike hZ.alike Ar539.2.1) Ar539.2.2 hin539 (H539.at hin539 rfl) (g := (mkF m 110 #[cr b104, ci 4] [(.int 0), (.ref b104), (.int 0), (.ref b538), (.ref b538), (.ref b537), (.ref b537)])) rfl rfl (hb hby d2_110)) ?_
 obtain ⟨cl540, Ar540, q540, S540, M540, H540, G540⟩ := id V_b538
 have hin540 := inb_of (j := (0 : Int32)) S540 ⟨by decide, by decide⟩
 obtain ⟨T540, h540, X540, e540, W540, st540⟩ := stC X538 hx hZ e538 Ar540 (j := (0 : Int32)) hin540 (g := (mkF m 111 #[cr b104, ci 4] [(.int c0_), (.int 0), (.ref b538), (.ref b538), (.ref b537), (.ref b537)])) rfl rfl (hb hby d2_111)
 refine Ends.go st540 ?_
 have V540 : Arv Z h540 b538 k538 .char (4 : Int32) [(.int (nar .char c0_)), (.int 0), (.int 0), (.int 0)] (.int 0) := Arv.set Ar540 q540 S540 M540 H540 G540 (fits_nar_char _) W540 0 rfl (Nat.le_of_ble_eq_true rfl)
 rw [own_narc hc0_] at V540
 have K540 := K538.wr W540 (Or.inr sz_b538)
 have O540 := O538.wr W540 g_b538
 have N540 := Fr.snoc X540 N0 g_b538
 refine wdu X540 hx hby d2_112 rfl ?_
 refine wic X540 hx hby d2_113 ?_
 refine walN X540 hx hby d2_114 rfl rfl ?_
 refine wic X540 hx hby d2_115 ?_
 obtain ⟨cl541, Ar541, q541, S541, M541, H541, G541⟩ := id (((PV_b104.ext E537).ext E538).other W540 (Nat.ne_of_lt (Nat.lt_of_lt_of_le PV_b104.lt sz_b538)))
 have hin541 := inb_of (j := (1 : Int32)) S541 ⟨by decide, by decide⟩
 refine Ends.go (X540.caload hx (j := (1 : Int32)) (v := (.int c1_)) (by rw [e540]; exact Ar541.1) (State.isArrayOf_alike hZ.alike Ar541.2.1) Ar541.2.2 hin541 (H541.at hin541 rfl) (g := (mkF m 116 #[cr b104, ci 4] [(.int 1), (.ref b104), (.int 1), (.ref b538), (.ref b538), (.ref b537), (.ref b537)])) rfl rfl (hb hby d2_116)) ?_
 obtain ⟨cl542, Ar542, q542, S542, M542, H542, G542⟩ := id V540
 have hin542 := inb_of (j := (1 : Int32)) S542 ⟨by decide, by decide⟩
 obtain ⟨T542, h542, X542, e542, W542, st542⟩ := stC X540 hx hZ e540 Ar542 (j := (1 : Int32)) hin542 (g := (mkF m 117 #[cr b104, ci 4] [(.int c1_), (.int 1), (.ref b538), (.ref b538), (.ref b537), (.ref b537)])) rfl rfl (hb hby d2_117)
 refine Ends.go st542 ?_
 have V542 : Arv Z h542 b538 k538 .char (4 : Int32) [(.int c0_), (.int (nar .char c1_)), (.int 0), (.int 0)] (.int 0) := Arv.set Ar542 q542 S542 M542 H542 G542 (fits_nar_char _) W542 1 rfl (Nat.le_of_ble_eq_true rfl)
 rw [own_narc hc1_] at V542
 have K542 := K540.wr W542 (Or.inr sz_b538)
 have O542 := O540.wr W542 g_b538
 have N542 := Fr.snoc X542 N540 g_b538
 refine wdu X542 hx hby d2_118 rfl ?_
 refine wic X542 hx hby d2_119 ?_
 show Ends _ _ _ _ T542 (mkF m 120 #[cr b104, ci 4] [(.int 2), (.ref b538), (.ref b538), (.ref b537), (.ref b537)]) _ _ _
 refine walN X542 hx hby d2_120 rfl rfl ?_
 refine wic X542 hx hby d2_121 ?_
 obtain ⟨cl543, Ar543, q543, S543, M543, H543, G543⟩ := id ((((PV_b104.ext E537).ext E538).other W540 (Nat.ne_of_lt (Nat.lt_of_lt_of_le PV_b104.lt sz_b538))).other W542 (Nat.ne_of_lt (Nat.lt_of_lt_of_le PV_b104.lt sz_b538)))
 have hin543 := inb_of (j := (2 : Int32)) S543 ⟨by decide, by decide⟩
 refine Ends.go (X542.caload hx (j := (2 : Int32)) (v := (.int c2_)) (by rw [e542]; exact Ar543.1) (State.isArrayOf_alike hZ.alike Ar543.2.1) Ar543.2.2 hin543 (H543.at hin543 rfl) (g := (mkF m 122 #[cr b104, ci 4] [(.int 2), (.ref b104), (.int 2), (.ref b538), (.ref b538), (.ref b537), (.ref b537)])) rfl rfl (hb hby d2_122)) ?_
 obtain ⟨cl544, Ar544, q544, S544, M544, H544, G544⟩ := id V542
 have hin544 := inb_of (j := (2 : Int32)) S544 ⟨by decide, by decide⟩
 obtain ⟨T544, h544, X544, e544, W544, st544⟩ := stC X542 hx hZ e542 Ar544 (j := (2 : Int32)) hin544 (g := (mkF m 123 #[cr b104, ci 4] [(.int c2_), (.int 2), (.ref b538), (.ref b538), (.ref b537), (.ref b537)])) rfl rfl (hb hby d2_123)
 refine Ends.go st544 ?_
 have V544 : Arv Z h544 b538 k538 .char (4 : Int32) [(.int c0_), (.int c1_), (.int (nar .char c2_)), (.int 0)] (.int 0) := Arv.set Ar544 q544 S544 M544 H544 G544 (fits_nar_char _) W544 2 rfl (Nat.le_of_ble_eq_true rfl)
 rw [own_narc hc2_] at V544
 have K544 := K542.wr W544 (Or.inr sz_b538)
 have O544 := O542.wr W544 g_b538
 have N544 := Fr.snoc X544 N542 g_b538
 refine wdu X544 hx hby d2_124 rfl ?_
 refine wic X544 hx hby d2_125 ?_
 refine walN X544 hx hby d2_126 rfl rfl ?_
 refine wic X544 hx hby d2_127 ?_
 obtain ⟨cl545, Ar545, q545, S545, M545, H545, G545⟩ := id (((((PV_b104.ext E537).ext E538).other W540 (Nat.ne_of_lt (Nat.lt_of_lt_of_le PV_b104.lt sz_b538))).other W542 (Nat.ne_of_lt (Nat.lt_of_lt_of_le PV_b104.lt sz_b538))).other W544 (Nat.ne_of_lt (Nat.lt_of_lt_of_le PV_b104.lt sz_b538)))
 have hin545 := inb_of (j := (3 : Int32)) S545 ⟨by decide, by decide⟩
 refine Ends.go (X544.caload hx (j := (3 : Int32)) (v := (.int c3_)) (by rw [e544]; exact Ar545.1) (State.isArrayOf_alike hZ.alike Ar545.2.1) Ar545.2.2 hin545 (H545.at hin545 rfl) (g := (mkF m 128 #[cr b104, ci 4] [(.int 3), (.ref b104), (.int 3), (.ref b538), (.ref b538), (.ref b537), (.ref b537)])) rfl rfl (hb hby d2_128)) ?_
 obtain ⟨cl546, Ar546, q546, S546, M546, H546, G546⟩ := id V544
 have hin546 := inb_of (j := (3 : Int32)) S546 ⟨by decide, by decide⟩
 obtain ⟨T546, h546, X546, e546, W546, st546⟩ := stC X544 hx hZ e544 Ar546 (j := (3 : Int32)) hin546 (g := (mkF m 129 #[cr b104, ci 4] [(.int c3_), (.int 3), (.ref b538), (.ref b538), (.ref b537), (.ref b537)])) rfl rfl (hb hby d2_129)
 refine Ends.go st546 ?_
 have V546 : Arv Z h546 b538 k538 .char (4 : Int32) [(.int c0_), (.int c1_), (.int c2_), (.int (nar .char c3_))] (.int 0) := Arv.set Ar546 q546 S546 M546 H546 G546 (fits_nar_char _) W546 3 rfl (Nat.le_of_ble_eq_true rfl)
 rw [own_narc hc3_] at V546
 have K546 := K544.wr W546 (Or.inr sz_b538)
 have O546 := O544.wr W546 g_b538
 have N546 := Fr.snoc X546 N544 g_b538
 have ne_b537_b538 : b537 ≠ b538 := Nat.ne_of_lt (Nat.lt_of_lt_of_le A537.lt (Nat.le_of_eq g538.symm))
 obtain ⟨_, _, ⟨T575, L575, k575, n575⟩, -, X575, ⟨Lc575, hQ575, l575, y575, z575⟩, st575⟩ := X546.specialBack hx (y := ym16) rfl hown (ov hZ hw 11 rfl) (ov hZ hw 12 rfl) (ov hZ hw 13 rfl) (by decide) (own_backOf (W := 1) (rx3_547 l Z a0 hw [] n0 h546 O546 G1 G3 GF b537 b538 k538 c0_ c1_ c2_ c3_ V546 (((((A537.ext E538).wr W540).wr W542).wr W544).wr W546) (((((F_coder_b537.ext E538).other W540 (Or.inl ne_b537_b538)).other W542 (Or.inl ne_b537_b538)).other W544 (Or.inl ne_b537_b538)).other W546 (Or.inl ne_b537_b538)) (((((F_value_b537.ext E538).other W540 (Or.inl ne_b537_b538)).other W542 (Or.inl ne_b537_b538)).other W544 (Or.inl ne_b537_b538)).other W546 (Or.inl ne_b537_b538)) g_b537 hc0_ hc1_ hc2_ hc3_) hZ (ow hw 13 rfl) (ow hw 10 rfl) (by decide) (by decide)) (g := (mkF m 130 #[cr b104, ci 4] [(.ref b538), (.ref b537), (.ref b537)])) rfl (by rw [hml]; rfl) (Steps.refl _) (a := b537) (argsL := [(.ref b538)]) (rest := [(.ref b537)]) (lenOf pdx_8 rfl) rfl (own_w rfl) (hb hby d2_130) (fun _ _ => ⟨rfl, e546, (by decide : 2 + 1 ≤ _), (by decide : 8 + 4 ≤ _)⟩)
 dsimp only [Pt.U, Pt.locs, Pt.cells, Pt.slots] at X575 l575 y575 z575 st575 hQ575
 subst l575 y575 z575
 obtain ⟨b576, k577, rfl, N575q, K575c, hb575_b576, Y575_0, Y575_1, Y575_2⟩ := hQ575
 have N575 := Fr.app N546 N575q
 refine Ends.go (fun _ k => st575.trans k) ?_
 have sz_b576 : h0.size ≤ b576 := Nat.le_trans K546.1 hb575_b576
 obtain ⟨h575, e575⟩ : ∃ z, T575.heap = z := ⟨_, rfl⟩
 rw [e575] at K575c Y575_0 Y575_1 Y575_2
 have K575 := K546.trans K575c (allS (Or.inr sz_b537) all0)
 refine Ends.ret X575 hx Bd.notSynchronized (t := (.object cST)) Bd.returns rfl (Or.inr (Or.inr (Or.inr (Or.inr ⟨rfl, rfl, rfl⟩)))) (hb hby d2_133) (by decide) (by decide) ?_
 rw [e575]
 have ne_b537_b576 : b537 ≠ b576 := Nat.ne_of_lt (Nat.lt_of_lt_of_le (((((A537.ext E538).wr W540).wr W542).wr W544).wr W546).lt hb575_b576)
 have ne_b538_b576 : b538 ≠ b576 := Nat.ne_of_lt (Nat.lt_of_lt_of_le V546.lt hb575_b576)
 exact ⟨b537, b538, b576, k538, k577, rfl, N575, K575, sz_b537, sz_b538, sz_b576, ne_b537_b538, ne_b537_b576, ne_b538_b576, ((((((A537.ext E538).wr W540).wr W542).wr W544).wr W546).keep K575c), (V546.keep K575c (ninS (Ne.symm ne_b537_b538) nin0)), Y575_0, Y575_1, Y575_2⟩

theorem rx20_586 (l : Launch) (Z : State) (a0 : Array Value) (hw : HW a0 Z) (ws : List Jvm.Cond) (n0 : Nat) (h0 : Heap) (O0 : Old Z n0 h0) (G1 : Int32) (G3 : Value) (GF : GlobF Z a0 G1 G3) (b579 : Addr) (b581 : Addr) (k583 : ClassId) (c0_ : Int32) (c1_ : Int32) (c2_ : Int32) (c3_ : Int32) (PF_b579_value : Fld Z h0 b579 cST "value" "[B" (.ref b581)) (PV_b581 : Arv Z h0 b581 k583 .byte (4 : Int32) [(yb c0_), (yb c1_), (yb c2_), (yb c3_)] (.int 0)) (PF_b579_coder : Fld Z h0 b579 cST "coder" "B" (.int 0)) (PE_b579 : Exa Z h0 b579 cST) :
  Meets1W l ym23 jdk_42_method_92_code 5 (some (.object cST)) ws (mkR 2 2 4 29) #[(.ref b579), (.int 0), (.int 0)] Z h0 true (fun v h L => ∃ (k592 : ClassId) (a593 : Addr) (a594 : Addr), v = some (.ref a593) ∧ Fr n0 L ∧ Keep h0 h [] ∧ Exa Z h a593 cST ∧ Fld Z h a593 cST "coder" "B" (.int 0) ∧ Fld Z h a593 cST "value" "[B" (.ref a594) ∧ Arv Z h a594 k592 .byte (0 : Int32) [] (.int 0)) := by
 refine MetFree.of_bodySF (plainFor_of_name pn20) hisR ?_
 intro p e s m args below meth c s₁ Bd hml0 hP hK
 obtain ⟨rfl, hZ, hh, hI⟩ := hP
 have hx := Bd.exec
 have hby := Bd.bytes
 have hml : c.maxLocals = 5 := hml0
 have hown : s.vm.findClass "java/lang/String" = some m.cls := findClass_of_methodNamed Bd.named
 have X0 : Stand p l e (mkR 2 2 4 29) s m #[(.ref b579), (.int 0), (.int 0)] below meth c s₁ [] 0 0 := Stand.of_body Bd
 have e0 : s₁.heap = h0 := by rw [← hh, Bd.state]; rfl
 have N0 := Fr.nil n0
 have hS0 := own_since0 s
 have hk0 : s.heap.size ≤ h0.size := Nat.le_of_eq (congrArg Array.size hh)
 show EndsW _ _ _ _ s₁ (entryFrame m #[(.ref b579), (.int 0), (.int 0)] 5) (mkR 2 2 4 29).cells (mkR 2 2 4 29).slots (fun v h L => ∃ (k592 : ClassId) (a593 : Addr) (a594 : Addr), v = some (.ref a593) ∧ Fr n0 L ∧ Keep h0 h [] ∧ Exa Z h a593 cST ∧ Fld Z h a593 cST "coder" "B" (.int 0) ∧ Fld Z h a593 cST "value" "[B" (.ref a594) ∧ Arv Z h a594 k592 .byte (0 : Int32) [] (.int 0))
 refine EndsW.go (fun _ k => castTop (ef20_rii m b579 (0 : Int32) (0 : Int32)) k) ?_
 obtain ⟨SCS, P5, SSF, RG3, HC1, HC2, HCW⟩ := id GF
 have K0 := Keep.refl h0 []
 show EndsW _ _ _ _ s₁ (mkF m 0 #[cr b579, ci 0, ci 0, cu, cu] []) _ _ _
 refine walNW X0 hx hby d20_0 rfl rfl ?_
 obtain ⟨cq587, kq587, q587a, q587b, q587c⟩ := isOf hZ e0 PE_b579
 obtain ⟨_, _, ⟨T587, L587, k587, n587⟩, -, X587, ⟨Lc587, hQ587, l587, y587, z587⟩, st587⟩ := X0.virtualBack hx (y := ym11) (z := ym11) hown (ov hZ hw 49 rfl) (ov hZ hw 50 rfl) (notFace_of_selects (args := #[]) (ov hZ hw 52 rfl)) (ov hZ hw 52 rfl) (ov hZ hw 51 rfl) (by decide) (own_backOf (W := 0) (rx10_96 l Z a0 hw [] n0 h0 O0 G1 G3 GF b579 b581 k583 c0_ c1_ c2_ c3_ PF_b579_value PV_b581 PF_b579_coder PE_b579) hZ (ow hw 53 rfl) (ow hw 10 rfl) (by decide) (by decide)) q587a q587c (g := (mkF m 1 #[cr b579, ci 0, ci 0, cu, cu] [(.ref b579)])) rfl (by rw [hml]; rfl) (Steps.refl _) (argsL := []) (rest := []) (lenOf pdx_4 rfl) rfl (own_w rfl) (hb hby d20_1) (fun _ _ => ⟨rfl, e0, (by decide : 0 + 0 ≤ _), (by decide : 0 + 0 ≤ _)⟩)
 dsimp only [Pt.U, Pt.locs, Pt.cells, Pt.slots] at X587 l587 y587 z587 st587 hQ587
 subst l587 y587 z587
 obtain ⟨rfl, N587q, K587c⟩ := hQ587
 have N587 := Fr.app N0 N587q
 refine EndsW.go (fun _ k => st587.trans k) ?_
 obtain ⟨h587, e587⟩ : ∃ z, T587.heap = z := ⟨_, rfl⟩
 rw [e587] at K587c
 have K587 := K0.trans K587c all0
 have O587 := O0.keep K587c all0
 refine wstNW X587 hx hby d20_4 (l' := #[cr b579, ci 0, ci 0, ci 4, cu]) rfl ?_
 refine wilNW X587 hx hby d20_5 rfl ?_
 refine wilNW X587 hx hby d20_6 rfl ?_
 refine wilNW X587 hx hby d20_7 rfl ?_
 obtain ⟨_, _, ⟨T588, L588, k588, n588⟩, -, X588, ⟨Lc588, hQ588, l588, y588, z588⟩, st588⟩ := Jvm.LawKit.callS X587 hx (y := ym4) hown (ov hZ hw 91 rfl) (ov hZ hw 92 rfl) (ov hZ hw 10 rfl) (ov hZ hw 93 rfl) (by decide) (own_backOf (W := 0) (rm_checkBoundsBeginEnd l Z a0 hw [] n0 h587 O587 (0 : Int32) (0 : Int32) (4 : Int32) G1 G3 GF (by decide) (by decide) (by decide)) hZ (ow hw 93 rfl) (ow hw 10 rfl) (by decide) (by decide)) (g := (mkF m 8 #[cr b579, ci 0, ci 0, ci 4, cu] [(.int 4), (.int 0), (.int 0)])) rfl (by rw [hml]; rfl) (argsL := [(.int 0), (.int 0), (.int 4)]) (rest := []) (lenOf pdx_15 rfl) rfl (own_w rfl) (hb hby d20_8) (fun _ _ => ⟨rfl, e587, (by decide : 0 + 0 ≤ _), (by decide : 0 + 0 ≤ _)⟩)
 dsimp only [Pt.U, Pt.locs, Pt.cells, Pt.slots] at X588 l588 y588 z588 st588 hQ588
 subst l588 y588 z588
 obtain ⟨rfl, N588q, e588q⟩ := hQ588
 have N588 := Fr.app N587 N588q
 refine EndsW.go st588 ?_
 refine wilNW X588 hx hby d20_11 rfl ?_
 refine winW X588 hx hby d20_12 ((if0 _ _).trans (teq (by decide : (0 : Int32) = (0 : Int32))).2) ?_
 refine wilNW X588 hx hby d20_15 rfl ?_
 refine wilNW X588 hx hby d20_16 rfl ?_
 refine wcyW (pc := 17) (pc' := 22) X588 hx hby d20_17 (feq (by decide : ¬ ((0 : Int32) = (4 : Int32)))).2 ?_
 refine wilNW X588 hx hby d20_22 rfl ?_
 refine wilNW X588 hx hby d20_23 rfl ?_
 refine wisW X588 hx hby d20_24 ?_
 refine wstW X588 hx hby d20_25 (l' := #[cr b579, ci 0, ci 0, ci 4, ci 0]) rfl ?_
 refine walNW X588 hx hby d20_27 rfl rfl ?_
 obtain ⟨cq589, kq589, q589a, q589b, q589c⟩ := isOf hZ e588q (PE_b579.keep K587c)
 obtain ⟨_, _, ⟨T589, L589, k589, n589⟩, -, X589, ⟨Lc589, hQ589, l589, y589, z589⟩, st589⟩ := X588.virtualBack hx (y := ym9) (z := ym9) hown (ov hZ hw 43 rfl) (ov hZ hw 44 rfl) (notFace_of_selects (args := #[]) (ov hZ hw 46 rfl)) (ov hZ hw 46 rfl) (ov hZ hw 45 rfl) (by decide) (own_backOf (W := 0) (rx9_8 l Z a0 hw [] n0 h587 O587 G1 G3 GF b579 (PF_b579_coder.keep K587c nin0)) hZ (ow hw 47 rfl) (ow hw 10 rfl) (by decide) (by decide)) q589a q589c (g := (mkF m 28 #[cr b579, ci 0, ci 0, ci 4, ci 0] [(.ref b579)])) rfl (by rw [hml]; rfl) (Steps.refl _) (argsL := []) (rest := []) (lenOf pdx_2 rfl) rfl (own_w rfl) (hb hby d20_28) (fun _ _ => ⟨rfl, e588q, (by decide : 0 + 0 ≤ _), (by decide : 0 + 0 ≤ _)⟩)
 dsimp only [Pt.U, Pt.locs, Pt.cells, Pt.slots] at X589 l589 y589 z589 st589 hQ589
 subst l589 y589 z589
 obtain ⟨rfl, N589q, K589c⟩ := hQ589
 have N589 := Fr.app N588 N589q
 refine EndsW.go (fun _ k => st589.trans k) ?_
 obtain ⟨h589, e589⟩ : ∃ z, T589.heap = z := ⟨_, rfl⟩
 rw [e589] at K589c
 have K589 := K587.trans K589c all0
 have O589 := O587.keep K589c all0
 refine winW X589 hx hby d20_31 ((if0 _ _).trans (feq (by decide : ¬ ((1 : Int32) = (0 : Int32)))).1) ?_
 refine walNW X589 hx hby d20_34 rfl rfl ?_
 obtain ⟨T590, X590, e590, st590⟩ := getF X589 hx hZ hown (host := "") (Or.inl (ow hw 27 rfl)) Via.refl e589 ((PF_b579_value.keep K587c nin0).keep K589c nin0) (g := (mkF m 35 #[cr b579, ci 0, ci 0, ci 4, ci 0] [(.ref b579)])) rfl rfl (hb hby d20_35)
 refine EndsW.go st590 ?_
 refine wilNW X590 hx hby d20_38 rfl ?_
 refine wilW X590 hx hby d20_39 rfl ?_
 obtain ⟨_, _, ⟨T591, L591, k591, n591⟩, -, X591, hSq591, hgq591, ⟨Lc591, hQ591, l591, y591, z591⟩, st591⟩ := callSS X590 hx (y := ym22) hown (ov hZ hw 99 rfl) (ov hZ hw 100 rfl) (ov hZ hw 61 rfl) (ov hZ hw 101 rfl) (by decide) (own_backOfS (W := 0) (rx23_184 l Z a0 hw [] n0 h589 O589 G1 G3 GF b581 ) hZ (ow hw 101 rfl) (ow hw 61 rfl) (by decide) (by decide) hI) (g := (mkF m 41 #[cr b579, ci 0, ci 0, ci 4, ci 0] [(.int 0), (.int 0), (.ref b581)])) rfl (by rw [hml]; rfl) (argsL := [(.ref b581), (.int 0), (.int 0)]) (rest := []) (lenOf pdx_16 rfl) rfl (own_w rfl) (hb hby d20_41) (fun _ _ => ⟨rfl, e590, (by decide : 0 + 2 ≤ _), (by decide : 0 + 4 ≤ _)⟩)
 dsimp only [Pt.U, Pt.locs, Pt.cells, Pt.slots] at X591 l591 y591 z591 st591 hQ591 hSq591 hgq591
 subst l591 y591 z591
 have hS591 := foldS hS0 (Nat.le_trans (Nat.le_trans (Nat.le_trans hk0 K587c.1) K589c.1) (Nat.le_of_eq (congrArg Array.size e590.symm))) hSq591 hgq591
 have hZ : Z.Warmed39 (s.setVm T591.vm).vm := State.Warmed39.trans (t := s.setVm s.vm) hZ hSq591.1
 have hown : (s.setVm T591.vm).vm.findClass "java/lang/String" = some m.cls := by rw [show (s.setVm T591.vm).vm = T591.vm from rfl, hSq591.1.alike.findClass]; exact hown
 obtain ⟨k592, a593, a594, rfl, N591q, K591c, Y591_0, Y591_1, Y591_2, Y591_3⟩ := hQ591
 have N591 := Fr.app N589 N591q
 refine EndsW.go (fun _ k => st591.trans k) ?_
 obtain ⟨h591, e591⟩ : ∃ z, T591.heap = z := ⟨_, rfl⟩
 rw [e591] at K591c Y591_0 Y591_1 Y591_2 Y591_3
 have K591 := K589.trans K591c all0
 refine wgoW (pc := 44) (pc' := 57) X591 hx hby d20_44 ?_
 refine EndsW.ret (s := s) (vm := T591.vm) X591 hx hS591 (Nat.le_trans (Nat.le_of_eq (congrArg Array.size e591)) (Nat.le_of_eq (congrArg Array.size e591.symm))) Bd.notSynchronized (t := (.object cST)) Bd.returns rfl (Or.inr (Or.inr (Or.inr (Or.inr ⟨rfl, rfl, rfl⟩)))) (hb hby d20_57) (by decide) (by decide) ?_
 rw [e591]
 exact ⟨k592, a593, a594, rfl, N591, K591, Y591_0, Y591_1, Y591_2, Y591_3⟩

theorem rx6_584 (l : Launch) (Z : State) (a0 : Array Value) (hw : HW a0 Z) (ws : List Jvm.Cond) (n0 : Nat) (h0 : Heap) (O0 : Old Z n0 h0) (G1 : Int32) (G3 : Value) (GF : GlobF Z a0 G1 G3) (b579 : Addr) (b581 : Addr) (k583 : ClassId) (c0_ : Int32) (c1_ : Int32) (c2_ : Int32) (c3_ : Int32) (PF_b579_value : Fld Z h0 b579 cST "value" "[B" (.ref b581)) (PE_b579 : Exa Z h0 b579 cST) (PF_b579_coder : Fld Z h0 b579 cST "coder" "B" (.int 0)) (PV_b581 : Arv Z h0 b581 k583 .byte (4 : Int32) [(yb c0_), (yb c1_), (yb c2_), (yb c3_)] (.int 0)) (hq0_ : c0_ = (46 : Int32)) (hc0_ : 0 ≤ c0_.toInt ∧ c0_.toInt < 256) :
  Meets1W l ym18 prog_33_method_5_code 2 (some (.object cST)) ws (mkR 5 2 4 93) #[(.ref b579)] Z h0 true (fun v h L => ∃ (k596 : ClassId) (a597 : Addr) (a598 : Addr), v = some (.ref a597) ∧ Fr n0 L ∧ Keep h0 h [] ∧ Exa Z h a597 cST ∧ Fld Z h a597 cST "coder" "B" (.int 0) ∧ Fld Z h a597 cST "value" "[B" (.ref a598) ∧ Arv Z h a598 k596 .byte (0 : Int32) [] (.int 0)) := by
 refine MetFree.of_bodySF (plainFor_of_name pn6) hisR ?_
 intro p e s m args below meth c s₁ Bd hml0 hP hK
 obtain ⟨rfl, hZ, hh, hI⟩ := hP
 have hx := Bd.exec
 have hby := Bd.bytes
 have hml : c.maxLocals = 2 := hml0
 have hown : s.vm.findClass "com/example/wakeline/wakeline/format/shareplex/SharePlexMessage" = some m.cls := findClass_of_methodNamed Bd.named
 have X0 : Stand p l e (mkR 5 2 4 93) s m #[(.ref b579)] below meth c s₁ [] 0 0 := Stand.of_body Bd
 have e0 : s₁.heap = h0 := by rw [← hh, Bd.state]; rfl
 have N0 := Fr.nil n0
 have hS0 := own_since0 s
 have hk0 : s.heap.size ≤ h0.size := Nat.le_of_eq (congrArg Array.size hh)
 show EndsW _ _ _ _ s₁ (entryFrame m #[(.ref b579)] 2) (mkR 5 2 4 93).cells (mkR 5 2 4 93).slots (fun v h L => ∃ (k596 : ClassId) (a597 : Addr) (a598 : Addr), v = some (.ref a597) ∧ Fr n0 L ∧ Keep h0 h [] ∧ Exa Z h a597 cST ∧ Fld Z h a597 cST "coder" "B" (.int 0) ∧ Fld Z h a597 cST "value" "[B" (.ref a598) ∧ Arv Z h a598 k596 .byte (0 : Int32) [] (.int 0))
 refine EndsW.go (fun _ k => castTop (ef6_r m b579) k) ?_
 obtain ⟨SCS, P5, SSF, RG3, HC1, HC2, HCW⟩ := id GF
 have K0 := Keep.refl h0 []
 show EndsW _ _ _ _ s₁ (mkF m 0 #[cr b579, cu] []) _ _ _
 refine walNW X0 hx hby d6_0 rfl rfl ?_
 refine .go (fun _ => XS.ifnonnullYes X0.here hx rfl (pc0 := 1) (pc' := 8) rfl (hb hby d6_1) rfl (by decide) (by decide)) ?_
 refine walNW X0 hx hby d6_8 rfl rfl ?_
 refine wbpW X0 hx hby d6_9 ?_
 obtain ⟨cq585, kq585, q585a, q585b, q585c⟩ := isOf hZ e0 PE_b579
 obtain ⟨_, _, ⟨T585, L585, k585, n585⟩, -, X585, ⟨Lc585, hQ585, l585, y585, z585⟩, st585⟩ := X0.virtualBack hx (y := ym13) (z := ym13) hown (ov hZ hw 33 rfl) (ov hZ hw 34 rfl) (notFace_of_selects (args := #[]) (ov hZ hw 36 rfl)) (ov hZ hw 36 rfl) (ov hZ hw 35 rfl) (by decide) (own_backOf (W := 0) (rmI7_4 l Z a0 hw [] n0 h0 O0 G1 G3 GF b579 b581 k583 c0_ c1_ c2_ c3_ PE_b579 PF_b579_value PF_b579_coder PV_b581) hZ (ow hw 37 rfl) (ow hw 10 rfl) (by decide) (by decide)) q585a q585c (g := (mkF m 11 #[cr b579, cu] [(.int 46), (.ref b579)])) rfl (by rw [hml]; rfl) (Steps.refl _) (argsL := [(.int 46)]) (rest := []) (lenOf pdx_10 rfl) rfl (own_w rfl) (hb hby d6_11) (fun _ _ => ⟨rfl, e0, (by decide : 0 + 0 ≤ _), (by decide : 0 + 0 ≤ _)⟩)
 dsimp only [Pt.U, Pt.locs, Pt.cells, Pt.slots] at X585 l585 y585 z585 st585 hQ585
 subst l585 y585 z585
 obtain ⟨r585, rfl, N585q, K585c, hr585⟩ := hQ585
 have N585 := Fr.app N0 N585q
 refine EndsW.go (fun _ k => st585.trans k) ?_
 obtain ⟨h585, e585⟩ : ∃ z, T585.heap = z := ⟨_, rfl⟩
 rw [e585] at K585c
 have K585 := K0.trans K585c all0
 have O585 := O0.keep K585c all0
 obtain rfl : r585 = 0 := hr585.elim (fun z => z.1) (fun o1 => o1.elim (fun z => absurd ((own_b46 hc0_).mpr hq0_) z.2.1) (fun o2 => o2.elim (fun z => absurd ((own_b46 hc0_).mpr hq0_) z.2.1) (fun o3 => o3.elim (fun z => absurd ((own_b46 hc0_).mpr hq0_) z.2.1) (fun z => absurd ((own_b46 hc0_).mpr hq0_) z.2.1))))
 refine wstNW X585 hx hby d6_14 (l' := #[cr b579, ci 0]) rfl ?_
 refine wilNW X585 hx hby d6_15 rfl ?_
 refine wiyW (pc := 16) (pc' := 23) X585 hx hby d6_16 ((if0 _ _).trans (flt (by decide : ¬ ((0 : Int32) < (0 : Int32)))).2.1) ?_
 refine walNW X585 hx hby d6_23 rfl rfl ?_
 refine wicW X585 hx hby d6_24 ?_
 refine wilNW X585 hx hby d6_25 rfl ?_
 obtain ⟨cq595, kq595, q595a, q595b, q595c⟩ := isOf hZ e585 (PE_b579.keep K585c)
 obtain ⟨_, _, ⟨T595, L595, k595, n595⟩, -, X595, hSq595, hgq595, ⟨Lc595, hQ595, l595, y595, z595⟩, st595⟩ := X585.virtualBackS hx (y := ym23) (z := ym23) hown (ov hZ hw 86 rfl) (ov hZ hw 87 rfl) (notFace_of_selects (args := #[]) (ov hZ hw 89 rfl)) (ov hZ hw 89 rfl) (ov hZ hw 88 rfl) (by decide) (own_backOfS (W := 0) (rx20_586 l Z a0 hw [] n0 h585 O585 G1 G3 GF b579 b581 k583 c0_ c1_ c2_ c3_ (PF_b579_value.keep K585c nin0) (PV_b581.keep K585c nin0) (PF_b579_coder.keep K585c nin0) (PE_b579.keep K585c)) hZ (ow hw 90 rfl) (ow hw 10 rfl) (by decide) (by decide) hI) q595a q595c (g := (mkF m 26 #[cr b579, ci 0] [(.int 0), (.int 0), (.ref b579)])) rfl (by rw [hml]; rfl) (Steps.refl _) (argsL := [(.int 0), (.int 0)]) (rest := []) (lenOf pdx_17 rfl) rfl (own_w rfl) (hb hby d6_26) (fun _ _ => ⟨rfl, e585, (by decide : 0 + 2 ≤ _), (by decide : 0 + 4 ≤ _)⟩)
 dsimp only [Pt.U, Pt.locs, Pt.cells, Pt.slots] at X595 l595 y595 z595 st595 hQ595 hSq595 hgq595
 subst l595 y595 z595
 have hS595 := foldS hS0 (Nat.le_trans (Nat.le_trans hk0 K585c.1) (Nat.le_of_eq (congrArg Array.size e585.symm))) hSq595 hgq595
 have hZ : Z.Warmed39 (s.setVm T595.vm).vm := State.Warmed39.trans (t := s.setVm s.vm) hZ hSq595.1
 have hown : (s.setVm T595.vm).vm.findClass "com/example/wakeline/wakeline/format/shareplex/SharePlexMessage" = some m.cls := by rw [show (s.setVm T595.vm).vm = T595.vm from rfl, hSq595.1.alike.findClass]; exact hown
 obtain ⟨k596, a597, a598, rfl, N595q, K595c, Y595_0, Y595_1, Y595_2, Y595_3⟩ := hQ595
 have N595 := Fr.app N585 N595q
 refine EndsW.go (fun _ k => st595.trans k) ?_
 obtain ⟨h595, e595⟩ : ∃ z, T595.heap = z := ⟨_, rfl⟩
 rw [e595] at K595c Y595_0 Y595_1 Y595_2 Y595_3
 have K595 := K585.trans K595c all0
 refine EndsW.ret (s := s) (vm := T595.vm) X595 hx hS595 (Nat.le_trans (Nat.le_of_eq (congrArg Array.size e595)) (Nat.le_of_eq (congrArg Array.size e595.symm))) Bd.notSynchronized (t := (.object cST)) Bd.returns rfl (Or.inr (Or.inr (Or.inr (Or.inr ⟨rfl, rfl, rfl⟩)))) (hb hby d6_29) (by decide) (by decide) ?_
 rw [e595]
 exact ⟨k596, a597, a598, rfl, N595, K595, Y595_0, Y595_1, Y595_2, Y595_3⟩

theorem rx15_626 (l : Launch) (Z : State) (a0 : Array Value) (hw : HW a0 Z) (ws : List Jvm.Cond) (n0 : Nat) (h0 : Heap) (O0 : Old Z n0 h0)    :
  Meets1 l ym7 jdk_29_method_69_code 2 (some .int) ws (mkR 0 0 0 0) #[(.int 4), (.int 1)] Z h0 (fun v h L => v = some (.int 1) ∧ Fr n0 L ∧ Keep h0 h []) := by
 refine MetFree.of_bodySF (Jvm.Free.JP.mathPlain rfl (by decide +kernel)) hisR ?_
 intro p e s m args below meth c s₁ Bd hml0 hP hK
 obtain ⟨rfl, hZ, hh⟩ := hP
 have hx := Bd.exec
 have hby := Bd.bytes
 have X0 : Stand p l e (mkR 0 0 0 0) s m #[(.int 4), (.int 1)] below meth c s₁ [] 0 0 := Stand.of_body Bd
 have e0 : s₁.heap = h0 := by rw [← hh, Bd.state]; rfl
 have N0 := Fr.nil n0
 show Ends _ _ _ _ s₁ (entryFrame m #[(.int 4), (.int 1)] 2) (mkR 0 0 0 0).cells (mkR 0 0 0 0).slots (fun v h L => v = some (.int 1) ∧ Fr n0 L ∧ Keep h0 h [])
 refine Ends.go (fun _ k => castTop (ef15_ii m (4 : Int32) (1 : Int32)) k) ?_
 have K0 := Keep.refl h0 []
 show Ends _ _ _ _ s₁ (mkF m 0 #[ci 4, ci 1] []) _ _ _
 refine wilN X0 hx hby d15_0 rfl ?_
 refine wilN X0 hx hby d15_1 rfl ?_
 refine wcy (pc := 2) (pc' := 9) X0 hx hby d15_2 (tlt (by decide : (1 : Int32) < (4 : Int32))).2.2.1 ?_
 refine wilN X0 hx hby d15_9 rfl ?_
 refine Ends.ret X0 hx Bd.notSynchronized (t := .int) Bd.returns rfl (Or.inl ⟨rfl, by simp, _, rfl⟩) (hb hby d15_10) (by decide) (by decide) ?_
 rw [e0]
 exact ⟨rfl, N0, K0⟩

theorem rx25_622 (l : Launch) (Z : State) (a0 : Array Value) (hw : HW a0 Z) (ws : List Jvm.Cond) (n0 : Nat) (h0 : Heap) (O0 : Old Z n0 h0)  (b608 : Addr) (k610 : ClassId) (c0_ : Int32) (c1_ : Int32) (c2_ : Int32) (c3_ : Int32) (PV_b608 : Arv Z h0 b608 k610 .byte (4 : Int32) [(yb c0_), (yb c1_), (yb c2_), (yb c3_)] (.int 0)) :
  Meets1 l ym25 jdk_65_method_133_code 5 (some (.array .byte)) ws (mkR 1 1 1 40) #[(.ref b608), (.int 0), (.int 1)] Z h0 (fun v h L => ∃ (b624 : Addr) (k624 : ClassId), v = some (.ref b624) ∧ Fr n0 L ∧ Keep h0 h [] ∧ h0.size ≤ b624 ∧ Arv Z h b624 k624 .byte (1 : Int32) [(yb c0_)] (.int 0)) := by
 refine MetFree.of_bodySF (plainFor_of_name pn25) hisR ?_
 intro p e s m args below meth c s₁ Bd hml0 hP hK
 obtain ⟨rfl, hZ, hh⟩ := hP
 have hx := Bd.exec
 have hby := Bd.bytes
 have hml : c.maxLocals = 5 := hml0
 have hown : s.vm.findClass "java/util/Arrays" = some m.cls := findClass_of_methodNamed Bd.named
 have X0 : Stand p l e (mkR 1 1 1 40) s m #[(.ref b608), (.int 0), (.int 1)] below meth c s₁ [] 0 0 := Stand.of_body Bd
 have e0 : s₁.heap = h0 := by rw [← hh, Bd.state]; rfl
 have N0 := Fr.nil n0
 show Ends _ _ _ _ s₁ (entryFrame m #[(.ref b608), (.int 0), (.int 1)] 5) (mkR 1 1 1 40).cells (mkR 1 1 1 40).slots (fun v h L => ∃ (b624 : Addr) (k624 : ClassId), v = some (.ref b624) ∧ Fr n0 L ∧ Keep h0 h [] ∧ h0.size ≤ b624 ∧ Arv Z h b624 k624 .byte (1 : Int32) [(yb c0_)] (.int 0))
 refine Ends.go (fun _ k => castTop (ef25_rii m b608 (0 : Int32) (1 : Int32)) k) ?_
 have K0 := Keep.refl h0 []
 show Ends _ _ _ _ s₁ (mkF m 0 #[cr b608, ci 0, ci 1, cu, cu] []) _ _ _
 refine wilN X0 hx hby d25_0 rfl ?_
 refine wilN X0 hx hby d25_1 rfl ?_
 obtain ⟨_, _, ⟨T623, L623, k623, n623⟩, -, X623, ⟨Lc623, hQ623, l623, y623, z623⟩, st623⟩ := Jvm.LawKit.callS X0 hx (y := ym24) hown (ov hZ hw 112 rfl) (ov hZ hw 113 rfl) (ov hZ hw 107 rfl) (ov hZ hw 114 rfl) (by decide) (own_backOf (W := 0) (rx26_289 l Z a0 hw [] n0 h0 O0   ) hZ (ow hw 114 rfl) (ow hw 107 rfl) (by decide) (by decide)) (g := (mkF m 2 #[cr b608, ci 0, ci 1, cu, cu] [(.int 1), (.int 0)])) rfl (by rw [hml]; rfl) (argsL := [(.int 0), (.int 1)]) (rest := []) (lenOf pdx_18 rfl) rfl (own_w rfl) (hb hby d25_2) (fun _ _ => ⟨rfl, e0, (by decide : 0 + 0 ≤ _), (by decide : 0 + 0 ≤ _)⟩)
 dsimp only [Pt.U, Pt.locs, Pt.cells, Pt.slots] at X623 l623 y623 z623 st623 hQ623
 subst l623 y623 z623
 obtain ⟨rfl, N623q, K623c⟩ := hQ623
 have N623 := Fr.app N0 N623q
 refine Ends.go st623 ?_
 obtain ⟨h623, e623⟩ : ∃ z, T623.heap = z := ⟨_, rfl⟩
 rw [e623] at K623c
 have K623 := K0.trans K623c all0
 have O623 := O0.keep K623c all0
 refine wilN X623 hx hby d25_5 rfl ?_
 refine wilN X623 hx hby d25_6 rfl ?_
 refine wis X623 hx hby d25_7 ?_
 refine wstN X623 hx hby d25_8 (l' := #[cr b608, ci 0, ci 1, ci 1, cu]) rfl ?_
 refine wilN X623 hx hby d25_9 rfl ?_
 obtain ⟨T624, h624, k624, X624, e624, E624, A624, st624⟩ := newP X623 hx hZ (ow hw 22 rfl) e623 (g := (mkF m 10 #[cr b608, ci 0, ci 1, ci 1, cu] [(.int 1)])) rfl (hb hby d25_10) rfl (by decide) (cap := 1) (by decide) (by decide) (by decide) (by decide)
 obtain ⟨b624, g624⟩ : ∃ z, z = h623.size := ⟨_, rfl⟩
 rw [← g624] at A624 st624
 refine Ends.go st624 ?_
 have g_b624 : n0 ≤ b624 := Nat.le_trans (own_old_le O623) (Nat.le_of_eq g624.symm)
 have sz_b624 : h0.size ≤ b624 := Nat.le_trans K623.1 (Nat.le_of_eq g624.symm)
 have K624 := K623.ext E624
 have O624 := O623.ext E624
 have V_b624 : Arv Z h624 b624 k624 .byte (1 : Int32) [(.int 0)] (.int 0) := (Arv.new A624 (by decide)).pad (pad_rep [] (.int 0) 1)
 refine was X624 hx hby d25_12 (l' := #[cr b608, ci 0, ci 1, ci 1, cr b624]) rfl rfl ?_
 refine walN X624 hx hby d25_14 rfl rfl ?_
 refine wilN X624 hx hby d25_15 rfl ?_
 refine wal X624 hx hby d25_16 rfl rfl ?_
 refine wic X624 hx hby d25_18 ?_
 refine walN X624 hx hby d25_19 rfl rfl ?_
 obtain ⟨cl625, Ar625, q625, S625, M625, H625, G625⟩ := id ((PV_b608.keep K623c nin0).ext E624)
 refine Ends.go (X624.arraylength hx (by rw [e624]; exact Ar625.1) (State.isArrayOf_alike hZ.alike Ar625.2.1) (g := (mkF m 20 #[cr b608, ci 0, ci 1, ci 1, cr b624] [(.ref b608), (.int 0), (.ref b624), (.int 0), (.ref b608)])) rfl rfl (hb hby d25_20)) ?_
 rw [len_of S625 M625]
 refine wilN X624 hx hby d25_21 rfl ?_
 refine wis X624 hx hby d25_22 ?_
 refine wilN X624 hx hby d25_23 rfl ?_
 obtain ⟨_, _, ⟨T627, L627, k627, n627⟩, -, X627, ⟨Lc627, hQ627, l627, y627, z627⟩, st627⟩ := Jvm.LawKit.callS X624 hx (y := ym7) hown (ov hZ hw 115 rfl) (ov hZ hw 71 rfl) (ov hZ hw 68 rfl) (ov hZ hw 72 rfl) (by decide) (own_backOf (W := 4) (rx15_626 l Z a0 hw [] n0 h624 O624   ) hZ (ow hw 72 rfl) (ow hw 68 rfl) (by decide) (by decide)) (g := (mkF m 24 #[cr b608, ci 0, ci 1, ci 1, cr b624] [(.int 1), (.int 4), (.int 0), (.ref b624), (.int 0), (.ref b608)])) rfl (by rw [hml]; rfl) (argsL := [(.int 4), (.int 1)]) (rest := [(.int 0), (.ref b624), (.int 0), (.ref b608)]) (lenOf pdx_1 rfl) rfl (own_w rfl) (hb hby d25_24) (fun _ _ => ⟨rfl, e624, (by decide : 1 + 0 ≤ _), (by decide : 1 + 0 ≤ _)⟩)
 dsimp only [Pt.U, Pt.locs, Pt.cells, Pt.slots] at X627 l627 y627 z627 st627 hQ627
 subst l627 y627 z627
 obtain ⟨rfl, N627q, K627c⟩ := hQ627
 have N627 := Fr.app N623 N627q
 refine Ends.go st627 ?_
 obtain ⟨h627, e627⟩ : ∃ z, T627.heap = z := ⟨_, rfl⟩
 rw [e627] at K627c
 have K627 := K624.trans K627c all0
 obtain ⟨T628, h628, L628, X628, e628, N628, K628c, V628, st628⟩ := cpA X627 hx hZ hown (ow hw 116 rfl) (ow hw 119 rfl) (ow hw 117 rfl) (ow hw 118 rfl) e627 (((PV_b608.keep K623c nin0).ext E624).keep K627c nin0) (V_b624.keep K627c nin0) (sp := (0 : Int32)) (dp := (0 : Int32)) (nn := (1 : Int32)) (us := [(yb c0_)]) (Or.inl ⟨rfl, rfl⟩) (by decide) (by decide) (by decide) (by decide) (by decide) rfl (by decide) N627 g_b624 (g := (mkF m 27 #[cr b608, ci 0, ci 1, ci 1, cr b624] [(.int 1), (.int 0), (.ref b624), (.int 0), (.ref b608)])) rfl (by rw [hml]; rfl) rfl (hb hby d25_27) (by decide) (W := 0) (own_w rfl) (by decide)
 refine Ends.go st628 ?_
 have K628 := K627.trans K628c (allS (Or.inr sz_b624) all0)
 have V628' : Arv Z h628 b624 k624 .byte (1 : Int32) [(yb c0_)] (.int 0) := V628
 refine wal X628 hx hby d25_30 rfl rfl ?_
 refine Ends.ret X628 hx Bd.notSynchronized (t := (.array .byte)) Bd.returns rfl (Or.inr (Or.inr (Or.inr (Or.inr ⟨rfl, rfl, rfl⟩)))) (hb hby d25_32) (by decide) (by decide) ?_
 rw [e628]
 exact ⟨b624, k624, rfl, N628, K628, sz_b624, V628'⟩

theorem rx24_620 (l : Launch) (Z : State) (a0 : Array Value) (hw : HW a0 Z) (ws : List Jvm.Cond) (n0 : Nat) (h0 : Heap) (O0 : Old Z n0 h0)  (b608 : Addr) (k610 : ClassId) (c0_ : Int32) (c1_ : Int32) (c2_ : Int32) (c3_ : Int32) (PV_b608 : Arv Z h0 b608 k610 .byte (4 : Int32) [(yb c0_), (yb c1_), (yb c2_), (yb c3_)] (.int 0)) :
  Meets1 l ym26 jdk_65_method_132_code 3 (some (.array .byte)) ws (mkR 2 1 1 56) #[(.ref b608), (.int 0), (.int 1)] Z h0 (fun v h L => ∃ (b630 : Addr) (k631 : ClassId), v = some (.ref b630) ∧ Fr n0 L ∧ Keep h0 h [] ∧ h0.size ≤ b630 ∧ Arv Z h b630 k631 .byte (1 : Int32) [(yb c0_)] (.int 0)) := by
 refine MetFree.of_bodySF (plainFor_of_name pn24) hisR ?_
 intro p e s m args below meth c s₁ Bd hml0 hP hK
 obtain ⟨rfl, hZ, hh⟩ := hP
 have hx := Bd.exec
 have hby := Bd.bytes
 have hml : c.maxLocals = 3 := hml0
 have hown : s.vm.findClass "java/util/Arrays" = some m.cls := findClass_of_methodNamed Bd.named
 have X0 : Stand p l e (mkR 2 1 1 56) s m #[(.ref b608), (.int 0), (.int 1)] below meth c s₁ [] 0 0 := Stand.of_body Bd
 have e0 : s₁.heap = h0 := by rw [← hh, Bd.state]; rfl
 have N0 := Fr.nil n0
 show Ends _ _ _ _ s₁ (entryFrame m #[(.ref b608), (.int 0), (.int 1)] 3) (mkR 2 1 1 56).cells (mkR 2 1 1 56).slots (fun v h L => ∃ (b630 : Addr) (k631 : ClassId), v = some (.ref b630) ∧ Fr n0 L ∧ Keep h0 h [] ∧ h0.size ≤ b630 ∧ Arv Z h b630 k631 .byte (1 : Int32) [(yb c0_)] (.int 0))
 refine Ends.go (fun _ k => castTop (ef24_rii m b608 (0 : Int32) (1 : Int32)) k) ?_
 have K0 := Keep.refl h0 []
 show Ends _ _ _ _ s₁ (mkF m 0 #[cr b608, ci 0, ci 1] []) _ _ _
 refine wilN X0 hx hby d24_0 rfl ?_
 refine win X0 hx hby d24_1 ((if0 _ _).trans (teq (by decide : (0 : Int32) = (0 : Int32))).2) ?_
 refine wilN X0 hx hby d24_4 rfl ?_
 refine walN X0 hx hby d24_5 rfl rfl ?_
 obtain ⟨cl621, Ar621, q621, S621, M621, H621, G621⟩ := id PV_b608
 refine Ends.go (X0.arraylength hx (by rw [e0]; exact Ar621.1) (State.isArrayOf_alike hZ.alike Ar621.2.1) (g := (mkF m 6 #[cr b608, ci 0, ci 1] [(.ref b608), (.int 1)])) rfl rfl (hb hby d24_6)) ?_
 rw [len_of S621 M621]
 refine wcn X0 hx hby d24_7 (feq (by decide : ¬ ((1 : Int32) = (4 : Int32)))).1 ?_
 refine walN X0 hx hby d24_10 rfl rfl ?_
 refine wilN X0 hx hby d24_11 rfl ?_
 refine wilN X0 hx hby d24_12 rfl ?_
 obtain ⟨_, _, ⟨T629, L629, k629, n629⟩, -, X629, ⟨Lc629, hQ629, l629, y629, z629⟩, st629⟩ := Jvm.LawKit.callS X0 hx (y := ym25) hown (ov hZ hw 109 rfl) (ov hZ hw 110 rfl) (ov hZ hw 107 rfl) (ov hZ hw 111 rfl) (by decide) (own_backOf (W := 0) (rx25_622 l Z a0 hw [] n0 h0 O0  b608 k610 c0_ c1_ c2_ c3_ PV_b608) hZ (ow hw 111 rfl) (ow hw 107 rfl) (by decide) (by decide)) (g := (mkF m 13 #[cr b608, ci 0, ci 1] [(.int 1), (.int 0), (.ref b608)])) rfl (by rw [hml]; rfl) (argsL := [(.ref b608), (.int 0), (.int 1)]) (rest := []) (lenOf pdx_19 rfl) rfl (own_w rfl) (hb hby d24_13) (fun _ _ => ⟨rfl, e0, (by decide : 0 + 1 ≤ _), (by decide : 0 + 1 ≤ _)⟩)
 dsimp only [Pt.U, Pt.locs, Pt.cells, Pt.slots] at X629 l629 y629 z629 st629 hQ629
 subst l629 y629 z629
 obtain ⟨b630, k631, rfl, N629q, K629c, hb629_b630, Y629_0⟩ := hQ629
 have N629 := Fr.app N0 N629q
 refine Ends.go st629 ?_
 have sz_b630 : h0.size ≤ b630 := Nat.le_trans K0.1 hb629_b630
 obtain ⟨h629, e629⟩ : ∃ z, T629.heap = z := ⟨_, rfl⟩
 rw [e629] at K629c Y629_0
 have K629 := K0.trans K629c all0
 refine Ends.ret X629 hx Bd.notSynchronized (t := (.array .byte)) Bd.returns rfl (Or.inr (Or.inr (Or.inr (Or.inr ⟨rfl, rfl, rfl⟩)))) (hb hby d24_16) (by decide) (by decide) ?_
 rw [e629]
 exact ⟨b630, k631, rfl, N629, K629, sz_b630, Y629_0⟩

theorem rx23_618 (l : Launch) (Z : State) (a0 : Array Value) (hw : HW a0 Z) (ws : List Jvm.Cond) (n0 : Nat) (h0 : Heap) (O0 : Old Z n0 h0)  (b608 : Addr) (k610 : ClassId) (c0_ : Int32) (c1_ : Int32) (c2_ : Int32) (c3_ : Int32) (PV_b608 : Arv Z h0 b608 k610 .byte (4 : Int32) [(yb c0_), (yb c1_), (yb c2_), (yb c3_)] (.int 0)) :
  Meets1 l ym22 jdk_43_method_47_code 3 (some (.object cST)) ws (mkR 3 2 5 72) #[(.ref b608), (.int 0), (.int 1)] Z h0 (fun v h L => ∃ (b619 : Addr) (b633 : Addr) (k634 : ClassId), v = some (.ref b619) ∧ Fr n0 L ∧ Keep h0 h [] ∧ h0.size ≤ b619 ∧ h0.size ≤ b633 ∧ b619 ≠ b633 ∧ Exa Z h b619 cST ∧ Arv Z h b633 k634 .byte (1 : Int32) [(yb c0_)] (.int 0) ∧ Fld Z h b619 cST "value" "[B" (.ref b633) ∧ Fld Z h b619 cST "coder" "B" (.int 0)) := by
 refine MetFree.of_bodySF (plainFor_of_name pn23) hisR ?_
 intro p e s m args below meth c s₁ Bd hml0 hP hK
 obtain ⟨rfl, hZ, hh⟩ := hP
 have hx := Bd.exec
 have hby := Bd.bytes
 have hml : c.maxLocals = 3 := hml0
 have hown : s.vm.findClass "java/lang/StringLatin1" = some m.cls := findClass_of_methodNamed Bd.named
 have X0 : Stand p l e (mkR 3 2 5 72) s m #[(.ref b608), (.int 0), (.int 1)] below meth c s₁ [] 0 0 := Stand.of_body Bd
 have e0 : s₁.heap = h0 := by rw [← hh, Bd.state]; rfl
 have N0 := Fr.nil n0
 show Ends _ _ _ _ s₁ (entryFrame m #[(.ref b608), (.int 0), (.int 1)] 3) (mkR 3 2 5 72).cells (mkR 3 2 5 72).slots (fun v h L => ∃ (b619 : Addr) (b633 : Addr) (k634 : ClassId), v = some (.ref b619) ∧ Fr n0 L ∧ Keep h0 h [] ∧ h0.size ≤ b619 ∧ h0.size ≤ b633 ∧ b619 ≠ b633 ∧ Exa Z h b619 cST ∧ Arv Z h b633 k634 .byte (1 : Int32) [(yb c0_)] (.int 0) ∧ Fld Z h b619 cST "value" "[B" (.ref b633) ∧ Fld Z h b619 cST "coder" "B" (.int 0))
 refine Ends.go (fun _ k => castTop (ef23_rii m b608 (0 : Int32) (1 : Int32)) k) ?_
 have K0 := Keep.refl h0 []
 show Ends _ _ _ _ s₁ (mkF m 0 #[cr b608, ci 0, ci 1] []) _ _ _
 refine wilN X0 hx hby d23_0 rfl ?_
 refine wiy (pc := 1) (pc' := 7) X0 hx hby d23_1 ((if0 _ _).trans (feq (by decide : ¬ ((1 : Int32) = (0 : Int32)))).2) ?_
 obtain ⟨T619, h619, X619, e619, E619, A619, D619, -, st619⟩ := newO X0 hx hZ hown (ow hw 104 rfl) (ow hw 9 rfl) (ow hw 10 rfl) e0 (g := (mkF m 7 #[cr b608, ci 0, ci 1] [])) rfl (hb hby d23_7) (by decide) (by decide)
 obtain ⟨b619, g619⟩ : ∃ z, z = h0.size := ⟨_, rfl⟩
 rw [← g619] at A619 D619 st619
 refine Ends.go st619 ?_
 have g_b619 : n0 ≤ b619 := Nat.le_trans (own_old_le O0) (Nat.le_of_eq g619.symm)
 have sz_b619 : h0.size ≤ b619 := Nat.le_trans K0.1 (Nat.le_of_eq g619.symm)
 have K619 := K0.ext E619
 have O619 := O0.ext E619
 have F_value_b619 : Fld Z h619 b619 cST "value" "[B" .null := D619 (Or.inr (ow hw 23 rfl)) (ty := (.array .byte)) (by decide)
 have F_coder_b619 : Fld Z h619 b619 cST "coder" "B" (.int 0) := D619 (Or.inr (ow hw 24 rfl)) (ty := .byte) (by decide)
 refine wdu X619 hx hby d23_10 rfl ?_
 refine walN X619 hx hby d23_11 rfl rfl ?_
 refine wilN X619 hx hby d23_12 rfl ?_
 refine wilN X619 hx hby d23_13 rfl ?_
 refine wilN X619 hx hby d23_14 rfl ?_
 refine wia X619 hx hby d23_15 ?_
 obtain ⟨_, _, ⟨T632, L632, k632, n632⟩, -, X632, ⟨Lc632, hQ632, l632, y632, z632⟩, st632⟩ := Jvm.LawKit.callS X619 hx (y := ym26) hown (ov hZ hw 105 rfl) (ov hZ hw 106 rfl) (ov hZ hw 107 rfl) (ov hZ hw 108 rfl) (by decide) (own_backOf (W := 2) (rx24_620 l Z a0 hw [] n0 h619 O619  b608 k610 c0_ c1_ c2_ c3_ (PV_b608.ext E619)) hZ (ow hw 108 rfl) (ow hw 107 rfl) (by decide) (by decide)) (g := (mkF m 16 #[cr b608, ci 0, ci 1] [(.int 1), (.int 0), (.ref b608), (.ref b619), (.ref b619)])) rfl (by rw [hml]; rfl) (argsL := [(.ref b608), (.int 0), (.int 1)]) (rest := [(.ref b619), (.ref b619)]) (lenOf pdx_19 rfl) rfl (own_w rfl) (hb hby d23_16) (fun _ _ => ⟨rfl, e619, (by decide : 1 + 1 ≤ _), (by decide : 4 + 1 ≤ _)⟩)
 dsimp only [Pt.U, Pt.locs, Pt.cells, Pt.slots] at X632 l632 y632 z632 st632 hQ632
 subst l632 y632 z632
 obtain ⟨b633, k634, rfl, N632q, K632c, hb632_b633, Y632_0⟩ := hQ632
 have N632 := Fr.app N0 N632q
 refine Ends.go st632 ?_
 have sz_b633 : h0.size ≤ b633 := Nat.le_trans K619.1 hb632_b633
 obtain ⟨h632, e632⟩ : ∃ z, T632.heap = z := ⟨_, rfl⟩
 rw [e632] at K632c Y632_0
 have K632 := K619.trans K632c all0
 have O632 := O619.keep K632c all0
 refine wic X632 hx hby d23_19 ?_
 obtain ⟨_, _, ⟨T635, L635, k635, n635⟩, -, X635, ⟨Lc635, hQ635, l635, y635, z635⟩, st635⟩ := X632.specialBack hx (y := ym27) rfl hown (ov hZ hw 120 rfl) (ov hZ hw 121 rfl) (ov hZ hw 122 rfl) (by decide) (own_backOf (W := 1) (rx27_302 l Z a0 hw [] n0 h632 O632  b619 b633 (A619.keep K632c) (F_value_b619.keep K632c nin0) (F_coder_b619.keep K632c nin0) g_b619) hZ (ow hw 122 rfl) (ow hw 10 rfl) (by decide) (by decide)) (g := (mkF m 20 #[cr b608, ci 0, ci 1] [(.int 0), (.ref b633), (.ref b619), (.ref b619)])) rfl (by rw [hml]; rfl) (Steps.refl _) (a := b619) (argsL := [(.ref b633), (.int 0)]) (rest := [(.ref b619)]) (lenOf pdx_20 rfl) rfl (own_w rfl) (hb hby d23_20) (fun _ _ => ⟨rfl, e632, (by decide : 2 + 0 ≤ _), (by decide : 5 + 0 ≤ _)⟩)
 dsimp only [Pt.U, Pt.locs, Pt.cells, Pt.slots] at X635 l635 y635 z635 st635 hQ635
 subst l635 y635 z635
 obtain ⟨rfl, N635q, K635c, Y635_0, Y635_1⟩ := hQ635
 have N635 := Fr.app N632 N635q
 refine Ends.go (fun _ k => st635.trans k) ?_
 obtain ⟨h635, e635⟩ : ∃ z, T635.heap = z := ⟨_, rfl⟩
 rw [e635] at K635c Y635_0 Y635_1
 have K635 := K632.trans K635c (allS (Or.inr sz_b619) all0)
 refine Ends.ret X635 hx Bd.notSynchronized (t := (.object cST)) Bd.returns rfl (Or.inr (Or.inr (Or.inr (Or.inr ⟨rfl, rfl, rfl⟩)))) (hb hby d23_23) (by decide) (by decide) ?_
 rw [e635]
 have ne_b619_b633 : b619 ≠ b633 := Nat.ne_of_lt (Nat.lt_of_lt_of_le A619.lt hb632_b633)
 exact ⟨b619, b633, k634, rfl, N635, K635, sz_b619, sz_b633, ne_b619_b633, ((A619.keep K632c).keep K635c), (Y632_0.keep K635c (ninS (Ne.symm ne_b619_b633) nin0)), Y635_0, Y635_1⟩

theorem rx20_613 (l : Launch) (Z : State) (a0 : Array Value) (hw : HW a0 Z) (ws : List Jvm.Cond) (n0 : Nat) (h0 : Heap) (O0 : Old Z n0 h0) (G1 : Int32) (G3 : Value) (GF : GlobF Z a0 G1 G3) (b606 : Addr) (b608 : Addr) (k610 : ClassId) (c0_ : Int32) (c1_ : Int32) (c2_ : Int32) (c3_ : Int32) (PF_b606_value : Fld Z h0 b606 cST "value" "[B" (.ref b608)) (PV_b608 : Arv Z h0 b608 k610 .byte (4 : Int32) [(yb c0_), (yb c1_), (yb c2_), (yb c3_)] (.int 0)) (PF_b606_coder : Fld Z h0 b606 cST "coder" "B" (.int 0)) (PE_b606 : Exa Z h0 b606 cST) :
  Meets1 l ym23 jdk_42_method_92_code 5 (some (.object cST)) ws (mkR 4 2 5 86) #[(.ref b606), (.int 0), (.int 1)] Z h0 (fun v h L => ∃ (b637 : Addr) (b638 : Addr) (k639 : ClassId), v = some (.ref b637) ∧ Fr n0 L ∧ Keep h0 h [] ∧ h0.size ≤ b637 ∧ h0.size ≤ b638 ∧ b637 ≠ b638 ∧ Exa Z h b637 cST ∧ Arv Z h b638 k639 .byte (1 : Int32) [(yb c0_)] (.int 0) ∧ Fld Z h b637 cST "value" "[B" (.ref b638) ∧ Fld Z h b637 cST "coder" "B" (.int 0)) := by
 refine MetFree.of_bodySF (plainFor_of_name pn20) hisR ?_
 intro p e s m args below meth c s₁ Bd hml0 hP hK
 obtain ⟨rfl, hZ, hh⟩ := hP
 have hx := Bd.exec
 have hby := Bd.bytes
 have hml : c.maxLocals = 5 := hml0
 have hown : s.vm.findClass "java/lang/String" = some m.cls := findClass_of_methodNamed Bd.named
 have X0 : Stand p l e (mkR 4 2 5 86) s m #[(.ref b606), (.int 0), (.int 1)] below meth c s₁ [] 0 0 := Stand.of_body Bd
 have e0 : s₁.heap = h0 := by rw [← hh, Bd.state]; rfl
 have N0 := Fr.nil n0
 show Ends _ _ _ _ s₁ (entryFrame m #[(.ref b606), (.int 0), (.int 1)] 5) (mkR 4 2 5 86).cells (mkR 4 2 5 86).slots (fun v h L => ∃ (b637 : Addr) (b638 : Addr) (k639 : ClassId), v = some (.ref b637) ∧ Fr n0 L ∧ Keep h0 h [] ∧ h0.size ≤ b637 ∧ h0.size ≤ b638 ∧ b637 ≠ b638 ∧ Exa Z h b637 cST ∧ Arv Z h b638 k639 .byte (1 : Int32) [(yb c0_)] (.int 0) ∧ Fld Z h b637 cST "value" "[B" (.ref b638) ∧ Fld Z h b637 cST "coder" "B" (.int 0))
 refine Ends.go (fun _ k => castTop (ef20_rii m b606 (0 : Int32) (1 : Int32)) k) ?_
 obtain ⟨SCS, P5, SSF, RG3, HC1, HC2, HCW⟩ := id GF
 have K0 := Keep.refl h0 []
 show Ends _ _ _ _ s₁ (mkF m 0 #[cr b606, ci 0, ci 1, cu, cu] []) _ _ _
 refine walN X0 hx hby d20_0 rfl rfl ?_
 obtain ⟨cq614, kq614, q614a, q614b, q614c⟩ := isOf hZ e0 PE_b606
 obtain ⟨_, _, ⟨T614, L614, k614, n614⟩, -, X614, ⟨Lc614, hQ614, l614, y614, z614⟩, st614⟩ := X0.virtualBack hx (y := ym11) (z := ym11) hown (ov hZ hw 49 rfl) (ov hZ hw 50 rfl) (notFace_of_selects (args := #[]) (ov hZ hw 52 rfl)) (ov hZ hw 52 rfl) (ov hZ hw 51 rfl) (by decide) (own_backOf (W := 0) (rx10_96 l Z a0 hw [] n0 h0 O0 G1 G3 GF b606 b608 k610 c0_ c1_ c2_ c3_ PF_b606_value PV_b608 PF_b606_coder PE_b606) hZ (ow hw 53 rfl) (ow hw 10 rfl) (by decide) (by decide)) q614a q614c (g := (mkF m 1 #[cr b606, ci 0, ci 1, cu, cu] [(.ref b606)])) rfl (by rw [hml]; rfl) (Steps.refl _) (argsL := []) (rest := []) (lenOf pdx_4 rfl) rfl (own_w rfl) (hb hby d20_1) (fun _ _ => ⟨rfl, e0, (by decide : 0 + 0 ≤ _), (by decide : 0 + 0 ≤ _)⟩)
 dsimp only [Pt.U, Pt.locs, Pt.cells, Pt.slots] at X614 l614 y614 z614 st614 hQ614
 subst l614 y614 z614
 obtain ⟨rfl, N614q, K614c⟩ := hQ614
 have N614 := Fr.app N0 N614q
 refine Ends.go (fun _ k => st614.trans k) ?_
 obtain ⟨h614, e614⟩ : ∃ z, T614.heap = z := ⟨_, rfl⟩
 rw [e614] at K614c
 have K614 := K0.trans K614c all0
 have O614 := O0.keep K614c all0
 refine wstN X614 hx hby d20_4 (l' := #[cr b606, ci 0, ci 1, ci 4, cu]) rfl ?_
 refine wilN X614 hx hby d20_5 rfl ?_
 refine wilN X614 hx hby d20_6 rfl ?_
 refine wilN X614 hx hby d20_7 rfl ?_
 obtain ⟨_, _, ⟨T615, L615, k615, n615⟩, -, X615, ⟨Lc615, hQ615, l615, y615, z615⟩, st615⟩ := Jvm.LawKit.callS X614 hx (y := ym4) hown (ov hZ hw 91 rfl) (ov hZ hw 92 rfl) (ov hZ hw 10 rfl) (ov hZ hw 93 rfl) (by decide) (own_backOf (W := 0) (rm_checkBoundsBeginEnd l Z a0 hw [] n0 h614 O614 (0 : Int32) (1 : Int32) (4 : Int32) G1 G3 GF (by decide) (by decide) (by decide)) hZ (ow hw 93 rfl) (ow hw 10 rfl) (by decide) (by decide)) (g := (mkF m 8 #[cr b606, ci 0, ci 1, ci 4, cu] [(.int 4), (.int 1), (.int 0)])) rfl (by rw [hml]; rfl) (argsL := [(.int 0), (.int 1), (.int 4)]) (rest := []) (lenOf pdx_15 rfl) rfl (own_w rfl) (hb hby d20_8) (fun _ _ => ⟨rfl, e614, (by decide : 0 + 0 ≤ _), (by decide : 0 + 0 ≤ _)⟩)
 dsimp only [Pt.U, Pt.locs, Pt.cells, Pt.slots] at X615 l615 y615 z615 st615 hQ615
 subst l615 y615 z615
 obtain ⟨rfl, N615q, e615q⟩ := hQ615
 have N615 := Fr.app N614 N615q
 refine Ends.go st615 ?_
 refine wilN X615 hx hby d20_11 rfl ?_
 refine win X615 hx hby d20_12 ((if0 _ _).trans (teq (by decide : (0 : Int32) = (0 : Int32))).2) ?_
 refine wilN X615 hx hby d20_15 rfl ?_
 refine wilN X615 hx hby d20_16 rfl ?_
 refine wcy (pc := 17) (pc' := 22) X615 hx hby d20_17 (feq (by decide : ¬ ((1 : Int32) = (4 : Int32)))).2 ?_
 refine wilN X615 hx hby d20_22 rfl ?_
 refine wilN X615 hx hby d20_23 rfl ?_
 refine wis X615 hx hby d20_24 ?_
 refine wst X615 hx hby d20_25 (l' := #[cr b606, ci 0, ci 1, ci 4, ci 1]) rfl ?_
 refine walN X615 hx hby d20_27 rfl rfl ?_
 obtain ⟨cq616, kq616, q616a, q616b, q616c⟩ := isOf hZ e615q (PE_b606.keep K614c)
 obtain ⟨_, _, ⟨T616, L616, k616, n616⟩, -, X616, ⟨Lc616, hQ616, l616, y616, z616⟩, st616⟩ := X615.virtualBack hx (y := ym9) (z := ym9) hown (ov hZ hw 43 rfl) (ov hZ hw 44 rfl) (notFace_of_selects (args := #[]) (ov hZ hw 46 rfl)) (ov hZ hw 46 rfl) (ov hZ hw 45 rfl) (by decide) (own_backOf (W := 0) (rx9_8 l Z a0 hw [] n0 h614 O614 G1 G3 GF b606 (PF_b606_coder.keep K614c nin0)) hZ (ow hw 47 rfl) (ow hw 10 rfl) (by decide) (by decide)) q616a q616c (g := (mkF m 28 #[cr b606, ci 0, ci 1, ci 4, ci 1] [(.ref b606)])) rfl (by rw [hml]; rfl) (Steps.refl _) (argsL := []) (rest := []) (lenOf pdx_2 rfl) rfl (own_w rfl) (hb hby d20_28) (fun _ _ => ⟨rfl, e615q, (by decide : 0 + 0 ≤ _), (by decide : 0 + 0 ≤ _)⟩)
 dsimp only [Pt.U, Pt.locs, Pt.cells, Pt.slots] at X616 l616 y616 z616 st616 hQ616
 subst l616 y616 z616
 obtain ⟨rfl, N616q, K616c⟩ := hQ616
 have N616 := Fr.app N615 N616q
 refine Ends.go (fun _ k => st616.trans k) ?_
 obtain ⟨h616, e616⟩ : ∃ z, T616.heap = z := ⟨_, rfl⟩
 rw [e616] at K616c
 have K616 := K614.trans K616c all0
 have O616 := O614.keep K616c all0
 refine win X616 hx hby d20_31 ((if0 _ _).trans (feq (by decide : ¬ ((1 : Int32) = (0 : Int32)))).1) ?_
 refine walN X616 hx hby d20_34 rfl rfl ?_
 obtain ⟨T617, X617, e617, st617⟩ := getF X616 hx hZ hown (host := "") (Or.inl (ow hw 27 rfl)) Via.refl e616 ((PF_b606_value.keep K614c nin0).keep K616c nin0) (g := (mkF m 35 #[cr b606, ci 0, ci 1, ci 4, ci 1] [(.ref b606)])) rfl rfl (hb hby d20_35)
 refine Ends.go st617 ?_
 refine wilN X617 hx hby d20_38 rfl ?_
 refine wil X617 hx hby d20_39 rfl ?_
 obtain ⟨_, _, ⟨T636, L636, k636, n636⟩, -, X636, ⟨Lc636, hQ636, l636, y636, z636⟩, st636⟩ := Jvm.LawKit.callS X617 hx (y := ym22) hown (ov hZ hw 99 rfl) (ov hZ hw 100 rfl) (ov hZ hw 61 rfl) (ov hZ hw 101 rfl) (by decide) (own_backOf (W := 0) (rx23_618 l Z a0 hw [] n0 h616 O616  b608 k610 c0_ c1_ c2_ c3_ ((PV_b608.keep K614c nin0).keep K616c nin0)) hZ (ow hw 101 rfl) (ow hw 61 rfl) (by decide) (by decide)) (g := (mkF m 41 #[cr b606, ci 0, ci 1, ci 4, ci 1] [(.int 1), (.int 0), (.ref b608)])) rfl (by rw [hml]; rfl) (argsL := [(.ref b608), (.int 0), (.int 1)]) (rest := []) (lenOf pdx_16 rfl) rfl (own_w rfl) (hb hby d20_41) (fun _ _ => ⟨rfl, e617, (by decide : 0 + 2 ≤ _), (by decide : 0 + 5 ≤ _)⟩)
 dsimp only [Pt.U, Pt.locs, Pt.cells, Pt.slots] at X636 l636 y636 z636 st636 hQ636
 subst l636 y636 z636
 obtain ⟨b637, b638, k639, rfl, N636q, K636c, hb636_b637, hb636_b638, hne636_b637_b638, Y636_0, Y636_1, Y636_2, Y636_3⟩ := hQ636
 have N636 := Fr.app N616 N636q
 refine Ends.go st636 ?_
 have sz_b637 : h0.size ≤ b637 := Nat.le_trans K616.1 hb636_b637
 have sz_b638 : h0.size ≤ b638 := Nat.le_trans K616.1 hb636_b638
 obtain ⟨h636, e636⟩ : ∃ z, T636.heap = z := ⟨_, rfl⟩
 rw [e636] at K636c Y636_0 Y636_1 Y636_2 Y636_3
 have K636 := K616.trans K636c all0
 refine wgo (pc := 44) (pc' := 57) X636 hx hby d20_44 ?_
 refine Ends.ret X636 hx Bd.notSynchronized (t := (.object cST)) Bd.returns rfl (Or.inr (Or.inr (Or.inr (Or.inr ⟨rfl, rfl, rfl⟩)))) (hb hby d20_57) (by decide) (by decide) ?_
 rw [e636]
 exact ⟨b637, b638, k639, rfl, N636, K636, sz_b637, sz_b638, hne636_b637_b638, Y636_0, Y636_1, Y636_2, Y636_3⟩

theorem rx6_611 (l : Launch) (Z : State) (a0 : Array Value) (hw : HW a0 Z) (ws : List Jvm.Cond) (n0 : Nat) (h0 : Heap) (O0 : Old Z n0 h0) (G1 : Int32) (G3 : Value) (GF : GlobF Z a0 G1 G3) (b606 : Addr) (b608 : Addr) (k610 : ClassId) (c0_ : Int32) (c1_ : Int32) (c2_ : Int32) (c3_ : Int32) (PF_b606_value : Fld Z h0 b606 cST "value" "[B" (.ref b608)) (PE_b606 : Exa Z h0 b606 cST) (PF_b606_coder : Fld Z h0 b606 cST "coder" "B" (.int 0)) (PV_b608 : Arv Z h0 b608 k610 .byte (4 : Int32) [(yb c0_), (yb c1_), (yb c2_), (yb c3_)] (.int 0)) (hq0_ : ¬ (c0_ = (46 : Int32))) (hq1_ : c1_ = (46 : Int32)) (hc0_ : 0 ≤ c0_.toInt ∧ c0_.toInt < 256) (hc1_ : 0 ≤ c1_.toInt ∧ c1_.toInt < 256) :
  Meets1 l ym18 prog_33_method_5_code 2 (some (.object cST)) ws (mkR 5 2 5 102) #[(.ref b606)] Z h0 (fun v h L => ∃ (b641 : Addr) (b642 : Addr) (k643 : ClassId), v = some (.ref b641) ∧ Fr n0 L ∧ Keep h0 h [] ∧ h0.size ≤ b641 ∧ h0.size ≤ b642 ∧ b641 ≠ b642 ∧ Exa Z h b641 cST ∧ Arv Z h b642 k643 .byte (1 : Int32) [(yb c0_)] (.int 0) ∧ Fld Z h b641 cST "value" "[B" (.ref b642) ∧ Fld Z h b641 cST "coder" "B" (.int 0)) := by
 refine MetFree.of_bodySF (plainFor_of_name pn6) hisR ?_
 intro p e s m args below meth c s₁ Bd hml0 hP hK
 obtain ⟨rfl, hZ, hh⟩ := hP
 have hx := Bd.exec
 have hby := Bd.bytes
 have hml : c.maxLocals = 2 := hml0
 have hown : s.vm.findClass "com/example/wakeline/wakeline/format/shareplex/SharePlexMessage" = some m.cls := findClass_of_methodNamed Bd.named
 have X0 : Stand p l e (mkR 5 2 5 102) s m #[(.ref b606)] below meth c s₁ [] 0 0 := Stand.of_body Bd
 have e0 : s₁.heap = h0 := by rw [← hh, Bd.state]; rfl
 have N0 := Fr.nil n0
 show Ends _ _ _ _ s₁ (entryFrame m #[(.ref b606)] 2) (mkR 5 2 5 102).cells (mkR 5 2 5 102).slots (fun v h L => ∃ (b641 : Addr) (b642 : Addr) (k643 : ClassId), v = some (.ref b641) ∧ Fr n0 L ∧ Keep h0 h [] ∧ h0.size ≤ b641 ∧ h0.size ≤ b642 ∧ b641 ≠ b642 ∧ Exa Z h b641 cST ∧ Arv Z h b642 k643 .byte (1 : Int32) [(yb c0_)] (.int 0) ∧ Fld Z h b641 cST "value" "[B" (.ref b642) ∧ Fld Z h b641 cST "coder" "B" (.int 0))
 refine Ends.go (fun _ k => castTop (ef6_r m b606) k) ?_
 obtain ⟨SCS, P5, SSF, RG3, HC1, HC2, HCW⟩ := id GF
 have K0 := Keep.refl h0 []
 show Ends _ _ _ _ s₁ (mkF m 0 #[cr b606, cu] []) _ _ _
 refine walN X0 hx hby d6_0 rfl rfl ?_
 refine .go (fun _ => XS.ifnonnullYes X0.here hx rfl (pc0 := 1) (pc' := 8) rfl (hb hby d6_1) rfl (by decide) (by decide)) ?_
 refine walN X0 hx hby d6_8 rfl rfl ?_
 refine wbp X0 hx hby d6_9 ?_
 obtain ⟨cq612, kq612, q612a, q612b, q612c⟩ := isOf hZ e0 PE_b606
 obtain ⟨_, _, ⟨T612, L612, k612, n612⟩, -, X612, ⟨Lc612, hQ612, l612, y612, z612⟩, st612⟩ := X0.virtualBack hx (y := ym13) (z := ym13) hown (ov hZ hw 33 rfl) (ov hZ hw 34 rfl) (notFace_of_selects (args := #[]) (ov hZ hw 36 rfl)) (ov hZ hw 36 rfl) (ov hZ hw 35 rfl) (by decide) (own_backOf (W := 0) (rmI7_4 l Z a0 hw [] n0 h0 O0 G1 G3 GF b606 b608 k610 c0_ c1_ c2_ c3_ PE_b606 PF_b606_value PF_b606_coder PV_b608) hZ (ow hw 37 rfl) (ow hw 10 rfl) (by decide) (by decide)) q612a q612c (g := (mkF m 11 #[cr b606, cu] [(.int 46), (.ref b606)])) rfl (by rw [hml]; rfl) (Steps.refl _) (argsL := [(.int 46)]) (rest := []) (lenOf pdx_10 rfl) rfl (own_w rfl) (hb hby d6_11) (fun _ _ => ⟨rfl, e0, (by decide : 0 + 0 ≤ _), (by decide : 0 + 0 ≤ _)⟩)
 dsimp only [Pt.U, Pt.locs, Pt.cells, Pt.slots] at X612 l612 y612 z612 st612 hQ612
 subst l612 y612 z612
 obtain ⟨r612, rfl, N612q, K612c, hr612⟩ := hQ612
 have N612 := Fr.app N0 N612q
 refine Ends.go (fun _ k => st612.trans k) ?_
 obtain ⟨h612, e612⟩ : ∃ z, T612.heap = z := ⟨_, rfl⟩
 rw [e612] at K612c
 have K612 := K0.trans K612c all0
 have O612 := O0.keep K612c all0
 obtain rfl : r612 = 1 := hr612.elim (fun z => absurd z.2 (fun q => hq0_ ((own_b46 hc0_).mp q))) (fun o1 => o1.elim (fun z => z.1) (fun o2 => o2.elim (fun z => absurd ((own_b46 hc1_).mpr hq1_) z.2.2.1) (fun o3 => o3.elim (fun z => absurd ((own_b46 hc1_).mpr hq1_) z.2.2.1) (fun z => absurd ((own_b46 hc1_).mpr hq1_) z.2.2.1))))
 refine wstN X612 hx hby d6_14 (l' := #[cr b606, ci 1]) rfl ?_
 refine wilN X612 hx hby d6_15 rfl ?_
 refine wiy (pc := 16) (pc' := 23) X612 hx hby d6_16 ((if0 _ _).trans (flt (by decide : ¬ ((1 : Int32) < (0 : Int32)))).2.1) ?_
 refine walN X612 hx hby d6_23 rfl rfl ?_
 refine wic X612 hx hby d6_24 ?_
 refine wilN X612 hx hby d6_25 rfl ?_
 obtain ⟨cq640, kq640, q640a, q640b, q640c⟩ := isOf hZ e612 (PE_b606.keep K612c)
 obtain ⟨_, _, ⟨T640, L640, k640, n640⟩, -, X640, ⟨Lc640, hQ640, l640, y640, z640⟩, st640⟩ := X612.virtualBack hx (y := ym23) (z := ym23) hown (ov hZ hw 86 rfl) (ov hZ hw 87 rfl) (notFace_of_selects (args := #[]) (ov hZ hw 89 rfl)) (ov hZ hw 89 rfl) (ov hZ hw 88 rfl) (by decide) (own_backOf (W := 0) (rx20_613 l Z a0 hw [] n0 h612 O612 G1 G3 GF b606 b608 k610 c0_ c1_ c2_ c3_ (PF_b606_value.keep K612c nin0) (PV_b608.keep K612c nin0) (PF_b606_coder.keep K612c nin0) (PE_b606.keep K612c)) hZ (ow hw 90 rfl) (ow hw 10 rfl) (by decide) (by decide)) q640a q640c (g := (mkF m 26 #[cr b606, ci 1] [(.int 1), (.int 0), (.ref b606)])) rfl (by rw [hml]; rfl) (Steps.refl _) (argsL := [(.int 0), (.int 1)]) (rest := []) (lenOf pdx_17 rfl) rfl (own_w rfl) (hb hby d6_26) (fun _ _ => ⟨rfl, e612, (by decide : 0 + 2 ≤ _), (by decide : 0 + 5 ≤ _)⟩)
 dsimp only [Pt.U, Pt.locs, Pt.cells, Pt.slots] at X640 l640 y640 z640 st640 hQ640
 subst l640 y640 z640
 obtain ⟨b641, b642, k643, rfl, N640q, K640c, hb640_b641, hb640_b642, hne640_b641_b642, Y640_0, Y640_1, Y640_2, Y640_3⟩ := hQ640
 have N640 := Fr.app N612 N640q
 refine Ends.go (fun _ k => st640.trans k) ?_
 have sz_b641 : h0.size ≤ b641 := Nat.le_trans K612.1 hb640_b641
 have sz_b642 : h0.size ≤ b642 := Nat.le_trans K612.1 hb640_b642
 obtain ⟨h640, e640⟩ : ∃ z, T640.heap = z := ⟨_, rfl⟩
 rw [e640] at K640c Y640_0 Y640_1 Y640_2 Y640_3
 have K640 := K612.trans K640c all0
 refine Ends.ret X640 hx Bd.notSynchronized (t := (.object cST)) Bd.returns rfl (Or.inr (Or.inr (Or.inr (Or.inr ⟨rfl, rfl, rfl⟩)))) (hb hby d6_29) (by decide) (by decide) ?_
 rw [e640]
 exact ⟨b641, b642, k643, rfl, N640, K640, sz_b641, sz_b642, hne640_b641_b642, Y640_0, Y640_1, Y640_2, Y640_3⟩

theorem rx15_674 (l : Launch) (Z : State) (a0 : Array Value) (hw : HW a0 Z) (ws : List Jvm.Cond) (n0 : Nat) (h0 : Heap) (O0 : Old Z n0 h0)    :
  Meets1 l ym7 jdk_29_method_69_code 2 (some .int) ws (mkR 0 0 0 0) #[(.int 4), (.int 2)] Z h0 (fun v h L => v = some (.int 2) ∧ Fr n0 L ∧ Keep h0 h []) := by
 refine MetFree.of_bodySF (Jvm.Free.JP.mathPlain rfl (by decide +kernel)) hisR ?_
 intro p e s m args below meth c s₁ Bd hml0 hP hK
 obtain ⟨rfl, hZ, hh⟩ := hP
 have hx := Bd.exec
 have hby := Bd.bytes
 have X0 : Stand p l e (mkR 0 0 0 0) s m #[(.int 4), (.int 2)] below meth c s₁ [] 0 0 := Stand.of_body Bd
 have e0 : s₁.heap = h0 := by rw [← hh, Bd.state]; rfl
 have N0 := Fr.nil n0
 show Ends _ _ _ _ s₁ (entryFrame m #[(.int 4), (.int 2)] 2) (mkR 0 0 0 0).cells (mkR 0 0 0 0).slots (fun v h L => v = some (.int 2) ∧ Fr n0 L ∧ Keep h0 h [])
 refine Ends.go (fun _ k => castTop (ef15_ii m (4 : Int32) (2 : Int32)) k) ?_
 have K0 := Keep.refl h0 []
 show Ends _ _ _ _ s₁ (mkF m 0 #[ci 4, ci 2] []) _ _ _
 refine wilN X0 hx hby d15_0 rfl ?_
 refine wilN X0 hx hby d15_1 rfl ?_
 refine wcy (pc := 2) (pc' := 9) X0 hx hby d15_2 (tlt (by decide : (2 : Int32) < (4 : Int32))).2.2.1 ?_
 refine wilN X0 hx hby d15_9 rfl ?_
 refine Ends.ret X0 hx Bd.notSynchronized (t := .int) Bd.returns rfl (Or.inl ⟨rfl, by simp, _, rfl⟩) (hb hby d15_10) (by decide) (by decide) ?_
 rw [e0]
 exact ⟨rfl, N0, K0⟩

theorem rx25_670 (l : Launch) (Z : State) (a0 : Array Value) (hw : HW a0 Z) (ws : List Jvm.Cond) (n0 : Nat) (h0 : Heap) (O0 : Old Z n0 h0)  (b656 : Addr) (k658 : ClassId) (c0_ : Int32) (c1_ : Int32) (c2_ : Int32) (c3_ : Int32) (PV_b656 : Arv Z h0 b656 k658 .byte (4 : Int32) [(yb c0_), (yb c1_), (yb c2_), (yb c3_)] (.int 0)) :
  Meets1 l ym25 jdk_65_method_133_code 5 (some (.array .byte)) ws (mkR 1 1 2 40) #[(.ref b656), (.int 0), (.int 2)] Z h0 (fun v h L => ∃ (b672 : Addr) (k672 : ClassId), v = some (.ref b672) ∧ Fr n0 L ∧ Keep h0 h [] ∧ h0.size ≤ b672 ∧ Arv Z h b672 k672 .byte (2 : Int32) [(yb c0_), (yb c1_)] (.int 0)) := by
 refine MetFree.of_bodySF (plainFor_of_name pn25) hisR ?_
 intro p e s m args below meth c s₁ Bd hml0 hP hK
 obtain ⟨rfl, hZ, hh⟩ := hP
 have hx := Bd.exec
 have hby := Bd.bytes
 have hml : c.maxLocals = 5 := hml0
 have hown : s.vm.findClass "java/util/Arrays" = some m.cls := findClass_of_methodNamed Bd.named
 have X0 : Stand p l e (mkR 1 1 2 40) s m #[(.ref b656), (.int 0), (.int 2)] below meth c s₁ [] 0 0 := Stand.of_body Bd
 have e0 : s₁.heap = h0 := by rw [← hh, Bd.state]; rfl
 have N0 := Fr.nil n0
 show Ends _ _ _ _ s₁ (entryFrame m #[(.ref b656), (.int 0), (.int 2)] 5) (mkR 1 1 2 40).cells (mkR 1 1 2 40).slots (fun v h L => ∃ (b672 : Addr) (k672 : ClassId), v = some (.ref b672) ∧ Fr n0 L ∧ Keep h0 h [] ∧ h0.size ≤ b672 ∧ Arv Z h b672 k672 .byte (2 : Int32) [(yb c0_), (yb c1_)] (.int 0))
 refine Ends.go (fun _ k => castTop (ef25_rii m b656 (0 : Int32) (2 : Int32)) k) ?_
 have K0 := Keep.refl h0 []
 show Ends _ _ _ _ s₁ (mkF m 0 #[cr b656, ci 0, ci 2, cu, cu] []) _ _ _
 refine wilN X0 hx hby d25_0 rfl ?_
 refine wilN X0 hx hby d25_1 rfl ?_
 obtain ⟨_, _, ⟨T671, L671, k671, n671⟩, -, X671, ⟨Lc671, hQ671, l671, y671, z671⟩, st671⟩ := Jvm.LawKit.callS X0 hx (y := ym24) hown (ov hZ hw 112 rfl) (ov hZ hw 113 rfl) (ov hZ hw 107 rfl) (ov hZ hw 114 rfl) (by decide) (own_backOf (W := 0) (rx26_474 l Z a0 hw [] n0 h0 O0   ) hZ (ow hw 114 rfl) (ow hw 107 rfl) (by decide) (by decide)) (g := (mkF m 2 #[cr b656, ci 0, ci 2, cu, cu] [(.int 2), (.int 0)])) rfl (by rw [hml]; rfl) (argsL := [(.int 0), (.int 2)]) (rest := []) (lenOf pdx_18 rfl) rfl (own_w rfl) (hb hby d25_2) (fun _ _ => ⟨rfl, e0, (by decide : 0 + 0 ≤ _), (by decide : 0 + 0 ≤ _)⟩)
 dsimp only [Pt.U, Pt.locs, Pt.cells, Pt.slots] at X671 l671 y671 z671 st671 hQ671
 subst l671 y671 z671
 obtain ⟨rfl, N671q, K671c⟩ := hQ671
 have N671 := Fr.app N0 N671q
 refine Ends.go st671 ?_
 obtain ⟨h671, e671⟩ : ∃ z, T671.heap = z := ⟨_, rfl⟩
 rw [e671] at K671c
 have K671 := K0.trans K671c all0
 have O671 := O0.keep K671c all0
 refine wilN X671 hx hby d25_5 rfl ?_
 refine wilN X671 hx hby d25_6 rfl ?_
 refine wis X671 hx hby d25_7 ?_
 refine wstN X671 hx hby d25_8 (l' := #[cr b656, ci 0, ci 2, ci 2, cu]) rfl ?_
 refine wilN X671 hx hby d25_9 rfl ?_
 obtain ⟨T672, h672, k672, X672, e672, E672, A672, st672⟩ := newP X671 hx hZ (ow hw 22 rfl) e671 (g := (mkF m 10 #[cr b656, ci 0, ci 2, ci 2, cu] [(.int 2)])) rfl (hb hby d25_10) rfl (by decide) (cap := 2) (by decide) (by decide) (by decide) (by decide)
 obtain ⟨b672, g672⟩ : ∃ z, z = h671.size := ⟨_, rfl⟩
 rw [← g672] at A672 st672
 refine Ends.go st672 ?_
 have g_b672 : n0 ≤ b672 := Nat.le_trans (own_old_le O671) (Nat.le_of_eq g672.symm)
 have sz_b672 : h0.size ≤ b672 := Nat.le_trans K671.1 (Nat.le_of_eq g672.symm)
 have K672 := K671.ext E672
 have O672 := O671.ext E672
 have V_b672 : Arv Z h672 b672 k672 .byte (2 : Int32) [(.int 0), (.int 0)] (.int 0) := (Arv.new A672 (by decide)).pad (pad_rep [] (.int 0) 2)
 refine was X672 hx hby d25_12 (l' := #[cr b656, ci 0, ci 2, ci 2, cr b672]) rfl rfl ?_
 refine walN X672 hx hby d25_14 rfl rfl ?_
 refine wilN X672 hx hby d25_15 rfl ?_
 refine wal X672 hx hby d25_16 rfl rfl ?_
 refine wic X672 hx hby d25_18 ?_
 refine walN X672 hx hby d25_19 rfl rfl ?_
 obtain ⟨cl673, Ar673, q673, S673, M673, H673, G673⟩ := id ((PV_b656.keep K671c nin0).ext E672)
 refine Ends.go (X672.arraylength hx (by rw [e672]; exact Ar673.1) (State.isArrayOf_alike hZ.alike Ar673.2.1) (g := (mkF m 20 #[cr b656, ci 0, ci 2, ci 2, cr b672] [(.ref b656), (.int 0), (.ref b672), (.int 0), (.ref b656)])) rfl rfl (hb hby d25_20)) ?_
 rw [len_of S673 M673]
 refine wilN X672 hx hby d25_21 rfl ?_
 refine wis X672 hx hby d25_22 ?_
 refine wilN X672 hx hby d25_23 rfl ?_
 obtain ⟨_, _, ⟨T675, L675, k675, n675⟩, -, X675, ⟨Lc675, hQ675, l675, y675, z675⟩, st675⟩ := Jvm.LawKit.callS X672 hx (y := ym7) hown (ov hZ hw 115 rfl) (ov hZ hw 71 rfl) (ov hZ hw 68 rfl) (ov hZ hw 72 rfl) (by decide) (own_backOf (W := 4) (rx15_674 l Z a0 hw [] n0 h672 O672   ) hZ (ow hw 72 rfl) (ow hw 68 rfl) (by decide) (by decide)) (g := (mkF m 24 #[cr b656, ci 0, ci 2, ci 2, cr b672] [(.int 2), (.int 4), (.int 0), (.ref b672), (.int 0), (.ref b656)])) rfl (by rw [hml]; rfl) (argsL := [(.int 4), (.int 2)]) (rest := [(.int 0), (.ref b672), (.int 0), (.ref b656)]) (lenOf pdx_1 rfl) rfl (own_w rfl) (hb hby d25_24) (fun _ _ => ⟨rfl, e672, (by decide : 1 + 0 ≤ _), (by decide : 2 + 0 ≤ _)⟩)
 dsimp only [Pt.U, Pt.locs, Pt.cells, Pt.slots] at X675 l675 y675 z675 st675 hQ675
 subst l675 y675 z675
 obtain ⟨rfl, N675q, K675c⟩ := hQ675
 have N675 := Fr.app N671 N675q
 refine Ends.go st675 ?_
 obtain ⟨h675, e675⟩ : ∃ z, T675.heap = z := ⟨_, rfl⟩
 rw [e675] at K675c
 have K675 := K672.trans K675c all0
 obtain ⟨T676, h676, L676, X676, e676, N676, K676c, V676, st676⟩ := cpA X675 hx hZ hown (ow hw 116 rfl) (ow hw 119 rfl) (ow hw 117 rfl) (ow hw 118 rfl) e675 (((PV_b656.keep K671c nin0).ext E672).keep K675c nin0) (V_b672.keep K675c nin0) (sp := (0 : Int32)) (dp := (0 : Int32)) (nn := (2 : Int32)) (us := [(yb c0_), (yb c1_)]) (Or.inl ⟨rfl, rfl⟩) (by decide) (by decide) (by decide) (by decide) (by decide) rfl (by decide) N675 g_b672 (g := (mkF m 27 #[cr b656, ci 0, ci 2, ci 2, cr b672] [(.int 2), (.int 0), (.ref b672), (.int 0), (.ref b656)])) rfl (by rw [hml]; rfl) rfl (hb hby d25_27) (by decide) (W := 0) (own_w rfl) (by decide)
 refine Ends.go st676 ?_
 have K676 := K675.trans K676c (allS (Or.inr sz_b672) all0)
 have V676' : Arv Z h676 b672 k672 .byte (2 : Int32) [(yb c0_), (yb c1_)] (.int 0) := V676
 refine wal X676 hx hby d25_30 rfl rfl ?_
 refine Ends.ret X676 hx Bd.notSynchronized (t := (.array .byte)) Bd.returns rfl (Or.inr (Or.inr (Or.inr (Or.inr ⟨rfl, rfl, rfl⟩)))) (hb hby d25_32) (by decide) (by decide) ?_
 rw [e676]
 exact ⟨b672, k672, rfl, N676, K676, sz_b672, V676'⟩

theorem rx24_668 (l : Launch) (Z : State) (a0 : Array Value) (hw : HW a0 Z) (ws : List Jvm.Cond) (n0 : Nat) (h0 : Heap) (O0 : Old Z n0 h0)  (b656 : Addr) (k658 : ClassId) (c0_ : Int32) (c1_ : Int32) (c2_ : Int32) (c3_ : Int32) (PV_b656 : Arv Z h0 b656 k658 .byte (4 : Int32) [(yb c0_), (yb c1_), (yb c2_), (yb c3_)] (.int 0)) :
  Meets1 l ym26 jdk_65_method_132_code 3 (some (.array .byte)) ws (mkR 2 1 2 56) #[(.ref b656), (.int 0), (.int 2)] Z h0 (fun v h L => ∃ (b678 : Addr) (k679 : ClassId), v = some (.ref b678) ∧ Fr n0 L ∧ Keep h0 h [] ∧ h0.size ≤ b678 ∧ Arv Z h b678 k679 .byte (2 : Int32) [(yb c0_), (yb c1_)] (.int 0)) := by
 refine MetFree.of_bodySF (plainFor_of_name pn24) hisR ?_
 intro p e s m args below meth c s₁ Bd hml0 hP hK
 obtain ⟨rfl, hZ, hh⟩ := hP
 have hx := Bd.exec
 have hby := Bd.bytes
 have hml : c.maxLocals = 3 := hml0
 have hown : s.vm.findClass "java/util/Arrays" = some m.cls := findClass_of_methodNamed Bd.named
 have X0 : Stand p l e (mkR 2 1 2 56) s m #[(.ref b656), (.int 0), (.int 2)] below meth c s₁ [] 0 0 := Stand.of_body Bd
 have e0 : s₁.heap = h0 := by rw [← hh, Bd.state]; rfl
 have N0 := Fr.nil n0
 show Ends _ _ _ _ s₁ (entryFrame m #[(.ref b656), (.int 0), (.int 2)] 3) (mkR 2 1 2 56).cells (mkR 2 1 2 56).slots (fun v h L => ∃ (b678 : Addr) (k679 : ClassId), v = some (.ref b678) ∧ Fr n0 L ∧ Keep h0 h [] ∧ h0.size ≤ b678 ∧ Arv Z h b678 k679 .byte (2 : Int32) [(yb c0_), (yb c1_)] (.int 0))
 refine Ends.go (fun _ k => castTop (ef24_rii m b656 (0 : Int32) (2 : Int32)) k) ?_
 have K0 := Keep.refl h0 []
 show Ends _ _ _ _ s₁ (mkF m 0 #[cr b656, ci 0, ci 2] []) _ _ _
 refine wilN X0 hx hby d24_0 rfl ?_
 refine win X0 hx hby d24_1 ((if0 _ _).trans (teq (by decide : (0 : Int32) = (0 : Int32))).2) ?_
 refine wilN X0 hx hby d24_4 rfl ?_
 refine walN X0 hx hby d24_5 rfl rfl ?_
 obtain ⟨cl669, Ar669, q669, S669, M669, H669, G669⟩ := id PV_b656
 refine Ends.go (X0.arraylength hx (by rw [e0]; exact Ar669.1) (State.isArrayOf_alike hZ.alike Ar669.2.1) (g := (mkF m 6 #[cr b656, ci 0, ci 2] [(.ref b656), (.int 2)])) rfl rfl (hb hby d24_6)) ?_
 rw [len_of S669 M669]
 refine wcn X0 hx hby d24_7 (feq (by decide : ¬ ((2 : Int32) = (4 : Int32)))).1 ?_
 refine walN X0 hx hby d24_10 rfl rfl ?_
 refine wilN X0 hx hby d24_11 rfl ?_
 refine wilN X0 hx hby d24_12 rfl ?_
 obtain ⟨_, _, ⟨T677, L677, k677, n677⟩, -, X677, ⟨Lc677, hQ677, l677, y677, z677⟩, st677⟩ := Jvm.LawKit.callS X0 hx (y := ym25) hown (ov hZ hw 109 rfl) (ov hZ hw 110 rfl) (ov hZ hw 107 rfl) (ov hZ hw 111 rfl) (by decide) (own_backOf (W := 0) (rx25_670 l Z a0 hw [] n0 h0 O0  b656 k658 c0_ c1_ c2_ c3_ PV_b656) hZ (ow hw 111 rfl) (ow hw 107 rfl) (by decide) (by decide)) (g := (mkF m 13 #[cr b656, ci 0, ci 2] [(.int 2), (.int 0), (.ref b656)])) rfl (by rw [hml]; rfl) (argsL := [(.ref b656), (.int 0), (.int 2)]) (rest := []) (lenOf pdx_19 rfl) rfl (own_w rfl) (hb hby d24_13) (fun _ _ => ⟨rfl, e0, (by decide : 0 + 1 ≤ _), (by decide : 0 + 2 ≤ _)⟩)
 dsimp only [Pt.U, Pt.locs, Pt.cells, Pt.slots] at X677 l677 y677 z677 st677 hQ677
 subst l677 y677 z677
 obtain ⟨b678, k679, rfl, N677q, K677c, hb677_b678, Y677_0⟩ := hQ677
 have N677 := Fr.app N0 N677q
 refine Ends.go st677 ?_
 have sz_b678 : h0.size ≤ b678 := Nat.le_trans K0.1 hb677_b678
 obtain ⟨h677, e677⟩ : ∃ z, T677.heap = z := ⟨_, rfl⟩
 rw [e677] at K677c Y677_0
 have K677 := K0.trans K677c all0
 refine Ends.ret X677 hx Bd.notSynchronized (t := (.array .byte)) Bd.returns rfl (Or.inr (Or.inr (Or.inr (Or.inr ⟨rfl, rfl, rfl⟩)))) (hb hby d24_16) (by decide) (by decide) ?_
 rw [e677]
 exact ⟨b678, k679, rfl, N677, K677, sz_b678, Y677_0⟩

theorem rx23_666 (l : Launch) (Z : State) (a0 : Array Value) (hw : HW a0 Z) (ws : List Jvm.Cond) (n0 : Nat) (h0 : Heap) (O0 : Old Z n0 h0)  (b656 : Addr) (k658 : ClassId) (c0_ : Int32) (c1_ : Int32) (c2_ : Int32) (c3_ : Int32) (PV_b656 : Arv Z h0 b656 k658 .byte (4 : Int32) [(yb c0_), (yb c1_), (yb c2_), (yb c3_)] (.int 0)) :
  Meets1 l ym22 jdk_43_method_47_code 3 (some (.object cST)) ws (mkR 3 2 6 72) #[(.ref b656), (.int 0), (.int 2)] Z h0 (fun v h L => ∃ (b667 : Addr) (b681 : Addr) (k682 : ClassId), v = some (.ref b667) ∧ Fr n0 L ∧ Keep h0 h [] ∧ h0.size ≤ b667 ∧ h0.size ≤ b681 ∧ b667 ≠ b681 ∧ Exa Z h b667 cST ∧ Arv Z h b681 k682 .byte (2 : Int32) [(yb c0_), (yb c1_)] (.int 0) ∧ Fld Z h b667 cST "value" "[B" (.ref b681) ∧ Fld Z h b667 cST "coder" "B" (.int 0)) := by
 refine MetFree.of_bodySF (plainFor_of_name pn23) hisR ?_
 intro p e s m args below meth c s₁ Bd hml0 hP hK
 obtain ⟨rfl, hZ, hh⟩ := hP
 have hx := Bd.exec
 have hby := Bd.bytes
 have hml : c.maxLocals = 3 := hml0
 have hown : s.vm.findClass "java/lang/StringLatin1" = some m.cls := findClass_of_methodNamed Bd.named
 have X0 : Stand p l e (mkR 3 2 6 72) s m #[(.ref b656), (.int 0), (.int 2)] below meth c s₁ [] 0 0 := Stand.of_body Bd
 have e0 : s₁.heap = h0 := by rw [← hh, Bd.state]; rfl
 have N0 := Fr.nil n0
 show Ends _ _ _ _ s₁ (entryFrame m #[(.ref b656), (.int 0), (.int 2)] 3) (mkR 3 2 6 72).cells (mkR 3 2 6 72).slots (fun v h L => ∃ (b667 : Addr) (b681 : Addr) (k682 : ClassId), v = some (.ref b667) ∧ Fr n0 L ∧ Keep h0 h [] ∧ h0.size ≤ b667 ∧ h0.size ≤ b681 ∧ b667 ≠ b681 ∧ Exa Z h b667 cST ∧ Arv Z h b681 k682 .byte (2 : Int32) [(yb c0_), (yb c1_)] (.int 0) ∧ Fld Z h b667 cST "value" "[B" (.ref b681) ∧ Fld Z h b667 cST "coder" "B" (.int 0))
 refine Ends.go (fun _ k => castTop (ef23_rii m b656 (0 : Int32) (2 : Int32)) k) ?_
 have K0 := Keep.refl h0 []
 show Ends _ _ _ _ s₁ (mkF m 0 #[cr b656, ci 0, ci 2] []) _ _ _
 refine wilN X0 hx hby d23_0 rfl ?_
 refine wiy (pc := 1) (pc' := 7) X0 hx hby d23_1 ((if0 _ _).trans (feq (by decide : ¬ ((2 : Int32) = (0 : Int32)))).2) ?_
 obtain ⟨T667, h667, X667, e667, E667, A667, D667, -, st667⟩ := newO X0 hx hZ hown (ow hw 104 rfl) (ow hw 9 rfl) (ow hw 10 rfl) e0 (g := (mkF m 7 #[cr b656, ci 0, ci 2] [])) rfl (hb hby d23_7) (by decide) (by decide)
 obtain ⟨b667, g667⟩ : ∃ z, z = h0.size := ⟨_, rfl⟩
 rw [← g667] at A667 D667 st667
 refine Ends.go st667 ?_
 have g_b667 : n0 ≤ b667 := Nat.le_trans (own_old_le O0) (Nat.le_of_eq g667.symm)
 have sz_b667 : h0.size ≤ b667 := Nat.le_trans K0.1 (Nat.le_of_eq g667.symm)
 have K667 := K0.ext E667
 have O667 := O0.ext E667
 have F_value_b667 : Fld Z h667 b667 cST "value" "[B" .null := D667 (Or.inr (ow hw 23 rfl)) (ty := (.array .byte)) (by decide)
 have F_coder_b667 : Fld Z h667 b667 cST "coder" "B" (.int 0) := D667 (Or.inr (ow hw 24 rfl)) (ty := .byte) (by decide)
 refine wdu X667 hx hby d23_10 rfl ?_
 refine walN X667 hx hby d23_11 rfl rfl ?_
 refine wilN X667 hx hby d23_12 rfl ?_
 refine wilN X667 hx hby d23_13 rfl ?_
 refine wilN X667 hx hby d23_14 rfl ?_
 refine wia X667 hx hby d23_15 ?_
 obtain ⟨_, _, ⟨T680, L680, k680, n680⟩, -, X680, ⟨Lc680, hQ680, l680, y680, z680⟩, st680⟩ := Jvm.LawKit.callS X667 hx (y := ym26) hown (ov hZ hw 105 rfl) (ov hZ hw 106 rfl) (ov hZ hw 107 rfl) (ov hZ hw 108 rfl) (by decide) (own_backOf (W := 2) (rx24_668 l Z a0 hw [] n0 h667 O667  b656 k658 c0_ c1_ c2_ c3_ (PV_b656.ext E667)) hZ (ow hw 108 rfl) (ow hw 107 rfl) (by decide) (by decide)) (g := (mkF m 16 #[cr b656, ci 0, ci 2] [(.int 2), (.int 0), (.ref b656), (.ref b667), (.ref b667)])) rfl (by rw [hml]; rfl) (argsL := [(.ref b656), (.int 0), (.int 2)]) (rest := [(.ref b667), (.ref b667)]) (lenOf pdx_19 rfl) rfl (own_w rfl) (hb hby d23_16) (fun _ _ => ⟨rfl, e667, (by decide : 1 + 1 ≤ _), (by decide : 4 + 2 ≤ _)⟩)
 dsimp only [Pt.U, Pt.locs, Pt.cells, Pt.slots] at X680 l680 y680 z680 st680 hQ680
 subst l680 y680 z680
 obtain ⟨b681, k682, rfl, N680q, K680c, hb680_b681, Y680_0⟩ := hQ680
 have N680 := Fr.app N0 N680q
 refine Ends.go st680 ?_
 have sz_b681 : h0.size ≤ b681 := Nat.le_trans K667.1 hb680_b681
 obtain ⟨h680, e680⟩ : ∃ z, T680.heap = z := ⟨_, rfl⟩
 rw [e680] at K680c Y680_0
 have K680 := K667.trans K680c all0
 have O680 := O667.keep K680c all0
 refine wic X680 hx hby d23_19 ?_
 obtain ⟨_, _, ⟨T683, L683, k683, n683⟩, -, X683, ⟨Lc683, hQ683, l683, y683, z683⟩, st683⟩ := X680.specialBack hx (y := ym27) rfl hown (ov hZ hw 120 rfl) (ov hZ hw 121 rfl) (ov hZ hw 122 rfl) (by decide) (own_backOf (W := 1) (rx27_302 l Z a0 hw [] n0 h680 O680  b667 b681 (A667.keep K680c) (F_value_b667.keep K680c nin0) (F_coder_b667.keep K680c nin0) g_b667) hZ (ow hw 122 rfl) (ow hw 10 rfl) (by decide) (by decide)) (g := (mkF m 20 #[cr b656, ci 0, ci 2] [(.int 0), (.ref b681), (.ref b667), (.ref b667)])) rfl (by rw [hml]; rfl) (Steps.refl _) (a := b667) (argsL := [(.ref b681), (.int 0)]) (rest := [(.ref b667)]) (lenOf pdx_20 rfl) rfl (own_w rfl) (hb hby d23_20) (fun _ _ => ⟨rfl, e680, (by decide : 2 + 0 ≤ _), (by decide : 6 + 0 ≤ _)⟩)
 dsimp only [Pt.U, Pt.locs, Pt.cells, Pt.slots] at X683 l683 y683 z683 st683 hQ683
 subst l683 y683 z683
 obtain ⟨rfl, N683q, K683c, Y683_0, Y683_1⟩ := hQ683
 have N683 := Fr.app N680 N683q
 refine Ends.go (fun _ k => st683.trans k) ?_
 obtain ⟨h683, e683⟩ : ∃ z, T683.heap = z := ⟨_, rfl⟩
 rw [e683] at K683c Y683_0 Y683_1
 have K683 := K680.trans K683c (allS (Or.inr sz_b667) all0)
 refine Ends.ret X683 hx Bd.notSynchronized (t := (.object cST)) Bd.returns rfl (Or.inr (Or.inr (Or.inr (Or.inr ⟨rfl, rfl, rfl⟩)))) (hb hby d23_23) (by decide) (by decide) ?_
 rw [e683]
 have ne_b667_b681 : b667 ≠ b681 := Nat.ne_of_lt (Nat.lt_of_lt_of_le A667.lt hb680_b681)
 exact ⟨b667, b681, k682, rfl, N683, K683, sz_b667, sz_b681, ne_b667_b681, ((A667.keep K680c).keep K683c), (Y680_0.keep K683c (ninS (Ne.symm ne_b667_b681) nin0)), Y683_0, Y683_1⟩

theorem rx20_661 (l : Launch) (Z : State) (a0 : Array Value) (hw : HW a0 Z) (ws : List Jvm.Cond) (n0 : Nat) (h0 : Heap) (O0 : Old Z n0 h0) (G1 : Int32) (G3 : Value) (GF : GlobF Z a0 G1 G3) (b654 : Addr) (b656 : Addr) (k658 : ClassId) (c0_ : Int32) (c1_ : Int32) (c2_ : Int32) (c3_ : Int32) (PF_b654_value : Fld Z h0 b654 cST "value" "[B" (.ref b656)) (PV_b656 : Arv Z h0 b656 k658 .byte (4 : Int32) [(yb c0_), (yb c1_), (yb c2_), (yb c3_)] (.int 0)) (PF_b654_coder : Fld Z h0 b654 cST "coder" "B" (.int 0)) (PE_b654 : Exa Z h0 b654 cST) :
  Meets1 l ym23 jdk_42_method_92_code 5 (some (.object cST)) ws (mkR 4 2 6 86) #[(.ref b654), (.int 0), (.int 2)] Z h0 (fun v h L => ∃ (b685 : Addr) (b686 : Addr) (k687 : ClassId), v = some (.ref b685) ∧ Fr n0 L ∧ Keep h0 h [] ∧ h0.size ≤ b685 ∧ h0.size ≤ b686 ∧ b685 ≠ b686 ∧ Exa Z h b685 cST ∧ Arv Z h b686 k687 .byte (2 : Int32) [(yb c0_), (yb c1_)] (.int 0) ∧ Fld Z h b685 cST "value" "[B" (.ref b686) ∧ Fld Z h b685 cST "coder" "B" (.int 0)) := by
 refine MetFree.of_bodySF (plainFor_of_name pn20) hisR ?_
 intro p e s m args below meth c s₁ Bd hml0 hP hK
 obtain ⟨rfl, hZ, hh⟩ := hP
 have hx := Bd.exec
 have hby := Bd.bytes
 have hml : c.maxLocals = 5 := hml0
 have hown : s.vm.findClass "java/lang/String" = some m.cls := findClass_of_methodNamed Bd.named
 have X0 : Stand p l e (mkR 4 2 6 86) s m #[(.ref b654), (.int 0), (.int 2)] below meth c s₁ [] 0 0 := Stand.of_body Bd
 have e0 : s₁.heap = h0 := by rw [← hh, Bd.state]; rfl
 have N0 := Fr.nil n0
 show Ends _ _ _ _ s₁ (entryFrame m #[(.ref b654), (.int 0), (.int 2)] 5) (mkR 4 2 6 86).cells (mkR 4 2 6 86).slots (fun v h L => ∃ (b685 : Addr) (b686 : Addr) (k687 : ClassId), v = some (.ref b685) ∧ Fr n0 L ∧ Keep h0 h [] ∧ h0.size ≤ b685 ∧ h0.size ≤ b686 ∧ b685 ≠ b686 ∧ Exa Z h b685 cST ∧ Arv Z h b686 k687 .byte (2 : Int32) [(yb c0_), (yb c1_)] (.int 0) ∧ Fld Z h b685 cST "value" "[B" (.ref b686) ∧ Fld Z h b685 cST "coder" "B" (.int 0))
 refine Ends.go (fun _ k => castTop (ef20_rii m b654 (0 : Int32) (2 : Int32)) k) ?_
 obtain ⟨SCS, P5, SSF, RG3, HC1, HC2, HCW⟩ := id GF
 have K0 := Keep.refl h0 []
 show Ends _ _ _ _ s₁ (mkF m 0 #[cr b654, ci 0, ci 2, cu, cu] []) _ _ _
 refine walN X0 hx hby d20_0 rfl rfl ?_
 obtain ⟨cq662, kq662, q662a, q662b, q662c⟩ := isOf hZ e0 PE_b654
 obtain ⟨_, _, ⟨T662, L662, k662, n662⟩, -, X662, ⟨Lc662, hQ662, l662, y662, z662⟩, st662⟩ := X0.virtualBack hx (y := ym11) (z := ym11) hown (ov hZ hw 49 rfl) (ov hZ hw 50 rfl) (notFace_of_selects (args := #[]) (ov hZ hw 52 rfl)) (ov hZ hw 52 rfl) (ov hZ hw 51 rfl) (by decide) (own_backOf (W := 0) (rx10_96 l Z a0 hw [] n0 h0 O0 G1 G3 GF b654 b656 k658 c0_ c1_ c2_ c3_ PF_b654_value PV_b656 PF_b654_coder PE_b654) hZ (ow hw 53 rfl) (ow hw 10 rfl) (by decide) (by decide)) q662a q662c (g := (mkF m 1 #[cr b654, ci 0, ci 2, cu, cu] [(.ref b654)])) rfl (by rw [hml]; rfl) (Steps.refl _) (argsL := []) (rest := []) (lenOf pdx_4 rfl) rfl (own_w rfl) (hb hby d20_1) (fun _ _ => ⟨rfl, e0, (by decide : 0 + 0 ≤ _), (by decide : 0 + 0 ≤ _)⟩)
 dsimp only [Pt.U, Pt.locs, Pt.cells, Pt.slots] at X662 l662 y662 z662 st662 hQ662
 subst l662 y662 z662
 obtain ⟨rfl, N662q, K662c⟩ := hQ662
 have N662 := Fr.app N0 N662q
 refine Ends.go (fun _ k => st662.trans k) ?_
 obtain ⟨h662, e662⟩ : ∃ z, T662.heap = z := ⟨_, rfl⟩
 rw [e662] at K662c
 have K662 := K0.trans K662c all0
 have O662 := O0.keep K662c all0
 refine wstN X662 hx hby d20_4 (l' := #[cr b654, ci 0, ci 2, ci 4, cu]) rfl ?_
 refine wilN X662 hx hby d20_5 rfl ?_
 refine wilN X662 hx hby d20_6 rfl ?_
 refine wilN X662 hx hby d20_7 rfl ?_
 obtain ⟨_, _, ⟨T663, L663, k663, n663⟩, -, X663, ⟨Lc663, hQ663, l663, y663, z663⟩, st663⟩ := Jvm.LawKit.callS X662 hx (y := ym4) hown (ov hZ hw 91 rfl) (ov hZ hw 92 rfl) (ov hZ hw 10 rfl) (ov hZ hw 93 rfl) (by decide) (own_backOf (W := 0) (rm_checkBoundsBeginEnd l Z a0 hw [] n0 h662 O662 (0 : Int32) (2 : Int32) (4 : Int32) G1 G3 GF (by decide) (by decide) (by decide)) hZ (ow hw 93 rfl) (ow hw 10 rfl) (by decide) (by decide)) (g := (mkF m 8 #[cr b654, ci 0, ci 2, ci 4, cu] [(.int 4), (.int 2), (.int 0)])) rfl (by rw [hml]; rfl) (argsL := [(.int 0), (.int 2), (.int 4)]) (rest := []) (lenOf pdx_15 rfl) rfl (own_w rfl) (hb hby d20_8) (fun _ _ => ⟨rfl, e662, (by decide : 0 + 0 ≤ _), (by decide : 0 + 0 ≤ _)⟩)
 dsimp only [Pt.U, Pt.locs, Pt.cells, Pt.slots] at X663 l663 y663 z663 st663 hQ663
 subst l663 y663 z663
 obtain ⟨rfl, N663q, e663q⟩ := hQ663
 have N663 := Fr.app N662 N663q
 refine Ends.go st663 ?_
 refine wilN X663 hx hby d20_11 rfl ?_
 refine win X663 hx hby d20_12 ((if0 _ _).trans (teq (by decide : (0 : Int32) = (0 : Int32))).2) ?_
 refine wilN X663 hx hby d20_15 rfl ?_
 refine wilN X663 hx hby d20_16 rfl ?_
 refine wcy (pc := 17) (pc' := 22) X663 hx hby d20_17 (feq (by decide : ¬ ((2 : Int32) = (4 : Int32)))).2 ?_
 refine wilN X663 hx hby d20_22 rfl ?_
 refine wilN X663 hx hby d20_23 rfl ?_
 refine wis X663 hx hby d20_24 ?_
 refine wst X663 hx hby d20_25 (l' := #[cr b654, ci 0, ci 2, ci 4, ci 2]) rfl ?_
 refine walN X663 hx hby d20_27 rfl rfl ?_
 obtain ⟨cq664, kq664, q664a, q664b, q664c⟩ := isOf hZ e663q (PE_b654.keep K662c)
 obtain ⟨_, _, ⟨T664, L664, k664, n664⟩, -, X664, ⟨Lc664, hQ664, l664, y664, z664⟩, st664⟩ := X663.virtualBack hx (y := ym9) (z := ym9) hown (ov hZ hw 43 rfl) (ov hZ hw 44 rfl) (notFace_of_selects (args := #[]) (ov hZ hw 46 rfl)) (ov hZ hw 46 rfl) (ov hZ hw 45 rfl) (by decide) (own_backOf (W := 0) (rx9_8 l Z a0 hw [] n0 h662 O662 G1 G3 GF b654 (PF_b654_coder.keep K662c nin0)) hZ (ow hw 47 rfl) (ow hw 10 rfl) (by decide) (by decide)) q664a q664c (g := (mkF m 28 #[cr b654, ci 0, ci 2, ci 4, ci 2] [(.ref b654)])) rfl (by rw [hml]; rfl) (Steps.refl _) (argsL := []) (rest := []) (lenOf pdx_2 rfl) rfl (own_w rfl) (hb hby d20_28) (fun _ _ => ⟨rfl, e663q, (by decide : 0 + 0 ≤ _), (by decide : 0 + 0 ≤ _)⟩)
 dsimp only [Pt.U, Pt.locs, Pt.cells, Pt.slots] at X664 l664 y664 z664 st664 hQ664
 subst l664 y664 z664
 obtain ⟨rfl, N664q, K664c⟩ := hQ664
 have N664 := Fr.app N663 N664q
 refine Ends.go (fun _ k => st664.trans k) ?_
 obtain ⟨h664, e664⟩ : ∃ z, T664.heap = z := ⟨_, rfl⟩
 rw [e664] at K664c
 have K664 := K662.trans K664c all0
 have O664 := O662.keep K664c all0
 refine win X664 hx hby d20_31 ((if0 _ _).trans (feq (by decide : ¬ ((1 : Int32) = (0 : Int32)))).1) ?_
 refine walN X664 hx hby d20_34 rfl rfl ?_
 obtain ⟨T665, X665, e665, st665⟩ := getF X664 hx hZ hown (host := "") (Or.inl (ow hw 27 rfl)) Via.refl e664 ((PF_b654_value.keep K662c nin0).keep K664c nin0) (g := (mkF m 35 #[cr b654, ci 0, ci 2, ci 4, ci 2] [(.ref b654)])) rfl rfl (hb hby d20_35)
 refine Ends.go st665 ?_
 refine wilN X665 hx hby d20_38 rfl ?_
 refine wil X665 hx hby d20_39 rfl ?_
 obtain ⟨_, _, ⟨T684, L684, k684, n684⟩, -, X684, ⟨Lc684, hQ684, l684, y684, z684⟩, st684⟩ := Jvm.LawKit.callS X665 hx (y := ym22) hown (ov hZ hw 99 rfl) (ov hZ hw 100 rfl) (ov hZ hw 61 rfl) (ov hZ hw 101 rfl) (by decide) (own_backOf (W := 0) (rx23_666 l Z a0 hw [] n0 h664 O664  b656 k658 c0_ c1_ c2_ c3_ ((PV_b656.keep K662c nin0).keep K664c nin0)) hZ (ow hw 101 rfl) (ow hw 61 rfl) (by decide) (by decide)) (g := (mkF m 41 #[cr b654, ci 0, ci 2, ci 4, ci 2] [(.int 2), (.int 0), (.ref b656)])) rfl (by rw [hml]; rfl) (argsL := [(.ref b656), (.int 0), (.int 2)]) (rest := []) (lenOf pdx_16 rfl) rfl (own_w rfl) (hb hby d20_41) (fun _ _ => ⟨rfl, e665, (by decide : 0 + 2 ≤ _), (by decide : 0 + 6 ≤ _)⟩)
 dsimp only [Pt.U, Pt.locs, Pt.cells, Pt.slots] at X684 l684 y684 z684 st684 hQ684
 subst l684 y684 z684
 obtain ⟨b685, b686, k687, rfl, N684q, K684c, hb684_b685, hb684_b686, hne684_b685_b686, Y684_0, Y684_1, Y684_2, Y684_3⟩ := hQ684
 have N684 := Fr.app N664 N684q
 refine Ends.go st684 ?_
 have sz_b685 : h0.size ≤ b685 := Nat.le_trans K664.1 hb684_b685
 have sz_b686 : h0.size ≤ b686 := Nat.le_trans K664.1 hb684_b686
 obtain ⟨h684, e684⟩ : ∃ z, T684.heap = z := ⟨_, rfl⟩
 rw [e684] at K684c Y684_0 Y684_1 Y684_2 Y684_3
 have K684 := K664.trans K684c all0
 refine wgo (pc := 44) (pc' := 57) X684 hx hby d20_44 ?_
 refine Ends.ret X684 hx Bd.notSynchronized (t := (.object cST)) Bd.returns rfl (Or.inr (Or.inr (Or.inr (Or.inr ⟨rfl, rfl, rfl⟩)))) (hb hby d20_57) (by decide) (by decide) ?_
 rw [e684]
 exact ⟨b685, b686, k687, rfl, N684, K684, sz_b685, sz_b686, hne684_b685_b686, Y684_0, Y684_1, Y684_2, Y684_3⟩

theorem rx6_659 (l : Launch) (Z : State) (a0 : Array Value) (hw : HW a0 Z) (ws : List Jvm.Cond) (n0 : Nat) (h0 : Heap) (O0 : Old Z n0 h0) (G1 : Int32) (G3 : Value) (GF : GlobF Z a0 G1 G3) (b654 : Addr) (b656 : Addr) (k658 : ClassId) (c0_ : Int32) (c1_ : Int32) (c2_ : Int32) (c3_ : Int32) (PF_b654_value : Fld Z h0 b654 cST "value" "[B" (.ref b656)) (PE_b654 : Exa Z h0 b654 cST) (PF_b654_coder : Fld Z h0 b654 cST "coder" "B" (.int 0)) (PV_b656 : Arv Z h0 b656 k658 .byte (4 : Int32) [(yb c0_), (yb c1_), (yb c2_), (yb c3_)] (.int 0)) (hq0_ : ¬ (c0_ = (46 : Int32))) (hq1_ : ¬ (c1_ = (46 : Int32))) (hq2_ : c2_ = (46 : Int32)) (hc0_ : 0 ≤ c0_.toInt ∧ c0_.toInt < 256) (hc1_ : 0 ≤ c1_.toInt ∧ c1_.toInt < 256) (hc2_ : 0 ≤ c2_.toInt ∧ c2_.toInt < 256) :
  Meets1 l ym18 prog_33_method_5_code 2 (some (.object cST)) ws (mkR 5 2 6 102) #[(.ref b654)] Z h0 (fun v h L => ∃ (b689 : Addr) (b690 : Addr) (k691 : ClassId), v = some (.ref b689) ∧ Fr n0 L ∧ Keep h0 h [] ∧ h0.size ≤ b689 ∧ h0.size ≤ b690 ∧ b689 ≠ b690 ∧ Exa Z h b689 cST ∧ Arv Z h b690 k691 .byte (2 : Int32) [(yb c0_), (yb c1_)] (.int 0) ∧ Fld Z h b689 cST "value" "[B" (.ref b690) ∧ Fld Z h b689 cST "coder" "B" (.int 0)) := by
 refine MetFree.of_bodySF (plainFor_of_name pn6) hisR ?_
 intro p e s m args below meth c s₁ Bd hml0 hP hK
 obtain ⟨rfl, hZ, hh⟩ := hP
 have hx := Bd.exec
 have hby := Bd.bytes
 have hml : c.maxLocals = 2 := hml0
 have hown : s.vm.findClass "com/example/wakeline/wakeline/format/shareplex/SharePlexMessage" = some m.cls := findClass_of_methodNamed Bd.named
 have X0 : Stand p l e (mkR 5 2 6 102) s m #[(.ref b654)] below meth c s₁ [] 0 0 := Stand.of_body Bd
 have e0 : s₁.heap = h0 := by rw [← hh, Bd.state]; rfl
 have N0 := Fr.nil n0
 show Ends _ _ _ _ s₁ (entryFrame m #[(.ref b654)] 2) (mkR 5 2 6 102).cells (mkR 5 2 6 102).slots (fun v h L => ∃ (b689 : Addr) (b690 : Addr) (k691 : ClassId), v = some (.ref b689) ∧ Fr n0 L ∧ Keep h0 h [] ∧ h0.size ≤ b689 ∧ h0.size ≤ b690 ∧ b689 ≠ b690 ∧ Exa Z h b689 cST ∧ Arv Z h b690 k691 .byte (2 : Int32) [(yb c0_), (yb c1_)] (.int 0) ∧ Fld Z h b689 cST "value" "[B" (.ref b690) ∧ Fld Z h b689 cST "coder" "B" (.int 0))
 refine Ends.go (fun _ k => castTop (ef6_r m b654) k) ?_
 obtain ⟨SCS, P5, SSF, RG3, HC1, HC2, HCW⟩ := id GF
 have K0 := Keep.refl h0 []
 show Ends _ _ _ _ s₁ (mkF m 0 #[cr b654, cu] []) _ _ _
 refine walN X0 hx hby d6_0 rfl rfl ?_
 refine .go (fun _ => XS.ifnonnullYes X0.here hx rfl (pc0 := 1) (pc' := 8) rfl (hb hby d6_1) rfl (by decide) (by decide)) ?_
 refine walN X0 hx hby d6_8 rfl rfl ?_
 refine wbp X0 hx hby d6_9 ?_
 obtain ⟨cq660, kq660, q660a, q660b, q660c⟩ := isOf hZ e0 PE_b654
 obtain ⟨_, _, ⟨T660, L660, k660, n660⟩, -, X660, ⟨Lc660, hQ660, l660, y660, z660⟩, st660⟩ := X0.virtualBack hx (y := ym13) (z := ym13) hown (ov hZ hw 33 rfl) (ov hZ hw 34 rfl) (notFace_of_selects (args := #[]) (ov hZ hw 36 rfl)) (ov hZ hw 36 rfl) (ov hZ hw 35 rfl) (by decide) (own_backOf (W := 0) (rmI7_4 l Z a0 hw [] n0 h0 O0 G1 G3 GF b654 b656 k658 c0_ c1_ c2_ c3_ PE_b654 PF_b654_value PF_b654_coder PV_b656) hZ (ow hw 37 rfl) (ow hw 10 rfl) (by decide) (by decide)) q660a q660c (g := (mkF m 11 #[cr b654, cu] [(.int 46), (.ref b654)])) rfl (by rw [hml]; rfl) (Steps.refl _) (argsL := [(.int 46)]) (rest := []) (lenOf pdx_10 rfl) rfl (own_w rfl) (hb hby d6_11) (fun _ _ => ⟨rfl, e0, (by decide : 0 + 0 ≤ _), (by decide : 0 + 0 ≤ _)⟩)
 dsimp only [Pt.U, Pt.locs, Pt.cells, Pt.slots] at X660 l660 y660 z660 st660 hQ660
 subst l660 y660 z660
 obtain ⟨r660, rfl, N660q, K660c, hr660⟩ := hQ660
 have N660 := Fr.app N0 N660q
 refine Ends.go (fun _ k => st660.trans k) ?_
 obtain ⟨h660, e660⟩ : ∃ z, T660.heap = z := ⟨_, rfl⟩
 rw [e660] at K660c
 have K660 := K0.trans K660c all0
 have O660 := O0.keep K660c all0
 obtain rfl : r660 = 2 := hr660.elim (fun z => absurd z.2 (fun q => hq0_ ((own_b46 hc0_).mp q))) (fun o1 => o1.elim (fun z => absurd z.2.2 (fun q => hq1_ ((own_b46 hc1_).mp q))) (fun o2 => o2.elim (fun z => z.1) (fun o3 => o3.elim (fun z => absurd ((own_b46 hc2_).mpr hq2_) z.2.2.2.1) (fun z => absurd ((own_b46 hc2_).mpr hq2_) z.2.2.2.1))))
 refine wstN X660 hx hby d6_14 (l' := #[cr b654, ci 2]) rfl ?_
 refine wilN X660 hx hby d6_15 rfl ?_
 refine wiy (pc := 16) (pc' := 23) X660 hx hby d6_16 ((if0 _ _).trans (flt (by decide : ¬ ((2 : Int32) < (0 : Int32)))).2.1) ?_
 refine walN X660 hx hby d6_23 rfl rfl ?_
 refine wic X660 hx hby d6_24 ?_
 refine wilN X660 hx hby d6_25 rfl ?_
 obtain ⟨cq688, kq688, q688a, q688b, q688c⟩ := isOf hZ e660 (PE_b654.keep K660c)
 obtain ⟨_, _, ⟨T688, L688, k688, n688⟩, -, X688, ⟨Lc688, hQ688, l688, y688, z688⟩, st688⟩ := X660.virtualBack hx (y := ym23) (z := ym23) hown (ov hZ hw 86 rfl) (ov hZ hw 87 rfl) (notFace_of_selects (args := #[]) (ov hZ hw 89 rfl)) (ov hZ hw 89 rfl) (ov hZ hw 88 rfl) (by decide) (own_backOf (W := 0) (rx20_661 l Z a0 hw [] n0 h660 O660 G1 G3 GF b654 b656 k658 c0_ c1_ c2_ c3_ (PF_b654_value.keep K660c nin0) (PV_b656.keep K660c nin0) (PF_b654_coder.keep K660c nin0) (PE_b654.keep K660c)) hZ (ow hw 90 rfl) (ow hw 10 rfl) (by decide) (by decide)) q688a q688c (g := (mkF m 26 #[cr b654, ci 2] [(.int 2), (.int 0), (.ref b654)])) rfl (by rw [hml]; rfl) (Steps.refl _) (argsL := [(.int 0), (.int 2)]) (rest := []) (lenOf pdx_17 rfl) rfl (own_w rfl) (hb hby d6_26) (fun _ _ => ⟨rfl, e660, (by decide : 0 + 2 ≤ _), (by decide : 0 + 6 ≤ _)⟩)
 dsimp only [Pt.U, Pt.locs, Pt.cells, Pt.slots] at X688 l688 y688 z688 st688 hQ688
 subst l688 y688 z688
 obtain ⟨b689, b690, k691, rfl, N688q, K688c, hb688_b689, hb688_b690, hne688_b689_b690, Y688_0, Y688_1, Y688_2, Y688_3⟩ := hQ688
 have N688 := Fr.app N660 N688q
 refine Ends.go (fun _ k => st688.trans k) ?_
 have sz_b689 : h0.size ≤ b689 := Nat.le_trans K660.1 hb688_b689
 have sz_b690 : h0.size ≤ b690 := Nat.le_trans K660.1 hb688_b690
 obtain ⟨h688, e688⟩ : ∃ z, T688.heap = z := ⟨_, rfl⟩
 rw [e688] at K688c Y688_0 Y688_1 Y688_2 Y688_3
 have K688 := K660.trans K688c all0
 refine Ends.ret X688 hx Bd.notSynchronized (t := (.object cST)) Bd.returns rfl (Or.inr (Or.inr (Or.inr (Or.inr ⟨rfl, rfl, rfl⟩)))) (hb hby d6_29) (by decide) (by decide) ?_
 rw [e688]
 exact ⟨b689, b690, k691, rfl, N688, K688, sz_b689, sz_b690, hne688_b689_b690, Y688_0, Y688_1, Y688_2, Y688_3⟩

theorem rx26_722 (l : Launch) (Z : State) (a0 : Array Value) (hw : HW a0 Z) (ws : List Jvm.Cond) (n0 : Nat) (h0 : Heap) (O0 : Old Z n0 h0)    :
  Meets1 l ym24 jdk_65_method_131_code 2 none ws (mkR 0 0 0 0) #[(.int 0), (.int 3)] Z h0 (fun v h L => v = none ∧ Fr n0 L ∧ Keep h0 h []) := by
 refine MetFree.of_bodySF (plainFor_of_name pn26) hisR ?_
 intro p e s m args below meth c s₁ Bd hml0 hP hK
 obtain ⟨rfl, hZ, hh⟩ := hP
 have hx := Bd.exec
 have hby := Bd.bytes
 have X0 : Stand p l e (mkR 0 0 0 0) s m #[(.int 0), (.int 3)] below meth c s₁ [] 0 0 := Stand.of_body Bd
 have e0 : s₁.heap = h0 := by rw [← hh, Bd.state]; rfl
 have N0 := Fr.nil n0
 show Ends _ _ _ _ s₁ (entryFrame m #[(.int 0), (.int 3)] 2) (mkR 0 0 0 0).cells (mkR 0 0 0 0).slots (fun v h L => v = none ∧ Fr n0 L ∧ Keep h0 h [])
 refine Ends.go (fun _ k => castTop (ef26_ii m (0 : Int32) (3 : Int32)) k) ?_
 have K0 := Keep.refl h0 []
 show Ends _ _ _ _ s₁ (mkF m 0 #[ci 0, ci 3] []) _ _ _
 refine wilN X0 hx hby d26_0 rfl ?_
 refine wilN X0 hx hby d26_1 rfl ?_
 refine wcy (pc := 2) (pc' := 37) X0 hx hby d26_2 (flt (by decide : ¬ ((3 : Int32) < (0 : Int32)))).2.1 ?_
 refine Ends.retV X0 hx Bd.notSynchronized Bd.returns (hb hby d26_37) (by decide) (by decide) ?_
 rw [e0]
 exact ⟨rfl, N0, K0⟩

theorem rx15_726 (l : Launch) (Z : State) (a0 : Array Value) (hw : HW a0 Z) (ws : List Jvm.Cond) (n0 : Nat) (h0 : Heap) (O0 : Old Z n0 h0)    :
  Meets1 l ym7 jdk_29_method_69_code 2 (some .int) ws (mkR 0 0 0 0) #[(.int 4), (.int 3)] Z h0 (fun v h L => v = some (.int 3) ∧ Fr n0 L ∧ Keep h0 h []) := by
 refine MetFree.of_bodySF (Jvm.Free.JP.mathPlain rfl (by decide +kernel)) hisR ?_
 intro p e s m args below meth c s₁ Bd hml0 hP hK
 obtain ⟨rfl, hZ, hh⟩ := hP
 have hx := Bd.exec
 have hby := Bd.bytes
 have X0 : Stand p l e (mkR 0 0 0 0) s m #[(.int 4), (.int 3)] below meth c s₁ [] 0 0 := Stand.of_body Bd
 have e0 : s₁.heap = h0 := by rw [← hh, Bd.state]; rfl
 have N0 := Fr.nil n0
 show Ends _ _ _ _ s₁ (entryFrame m #[(.int 4), (.int 3)] 2) (mkR 0 0 0 0).cells (mkR 0 0 0 0).slots (fun v h L => v = some (.int 3) ∧ Fr n0 L ∧ Keep h0 h [])
 refine Ends.go (fun _ k => castTop (ef15_ii m (4 : Int32) (3 : Int32)) k) ?_
 have K0 := Keep.refl h0 []
 show Ends _ _ _ _ s₁ (mkF m 0 #[ci 4, ci 3] []) _ _ _
 refine wilN X0 hx hby d15_0 rfl ?_
 refine wilN X0 hx hby d15_1 rfl ?_
 refine wcy (pc := 2) (pc' := 9) X0 hx hby d15_2 (tlt (by decide : (3 : Int32) < (4 : Int32))).2.2.1 ?_
 refine wilN X0 hx hby d15_9 rfl ?_
 refine Ends.ret X0 hx Bd.notSynchronized (t := .int) Bd.returns rfl (Or.inl ⟨rfl, by simp, _, rfl⟩) (hb hby d15_10) (by decide) (by decide) ?_
 rw [e0]
 exact ⟨rfl, N0, K0⟩

theorem rx25_721 (l : Launch) (Z : State) (a0 : Array Value) (hw : HW a0 Z) (ws : List Jvm.Cond) (n0 : Nat) (h0 : Heap) (O0 : Old Z n0 h0)  (b707 : Addr) (k709 : ClassId) (c0_ : Int32) (c1_ : Int32) (c2_ : Int32) (c3_ : Int32) (PV_b707 : Arv Z h0 b707 k709 .byte (4 : Int32) [(yb c0_), (yb c1_), (yb c2_), (yb c3_)] (.int 0)) :
  Meets1 l ym25 jdk_65_method_133_code 5 (some (.array .byte)) ws (mkR 1 1 3 40) #[(.ref b707), (.int 0), (.int 3)] Z h0 (fun v h L => ∃ (b724 : Addr) (k724 : ClassId), v = some (.ref b724) ∧ Fr n0 L ∧ Keep h0 h [] ∧ h0.size ≤ b724 ∧ Arv Z h b724 k724 .byte (3 : Int32) [(yb c0_), (yb c1_), (yb c2_)] (.int 0)) := by
 refine MetFree.of_bodySF (plainFor_of_name pn25) hisR ?_
 intro p e s m args below meth c s₁ Bd hml0 hP hK
 obtain ⟨rfl, hZ, hh⟩ := hP
 have hx := Bd.exec
 have hby := Bd.bytes
 have hml : c.maxLocals = 5 := hml0
 have hown : s.vm.findClass "java/util/Arrays" = some m.cls := findClass_of_methodNamed Bd.named
 have X0 : Stand p l e (mkR 1 1 3 40) s m #[(.ref b707), (.int 0), (.int 3)] below meth c s₁ [] 0 0 := Stand.of_body Bd
 have e0 : s₁.heap = h0 := by rw [← hh, Bd.state]; rfl
 have N0 := Fr.nil n0
 show Ends _ _ _ _ s₁ (entryFrame m #[(.ref b707), (.int 0), (.int 3)] 5) (mkR 1 1 3 40).cells (mkR 1 1 3 40).slots (fun v h L => ∃ (b724 : Addr) (k724 : ClassId), v = some (.ref b724) ∧ Fr n0 L ∧ Keep h0 h [] ∧ h0.size ≤ b724 ∧ Arv Z h b724 k724 .byte (3 : Int32) [(yb c0_), (yb c1_), (yb c2_)] (.int 0))
 refine Ends.go (fun _ k => castTop (ef25_rii m b707 (0 : Int32) (3 : Int32)) k) ?_
 have K0 := Keep.refl h0 []
 show Ends _ _ _ _ s₁ (mkF m 0 #[cr b707, ci 0, ci 3, cu, cu] []) _ _ _
 refine wilN X0 hx hby d25_0 rfl ?_
 refine wilN X0 hx hby d25_1 rfl ?_
 obtain ⟨_, _, ⟨T723, L723, k723, n723⟩, -, X723, ⟨Lc723, hQ723, l723, y723, z723⟩, st723⟩ := Jvm.LawKit.callS X0 hx (y := ym24) hown (ov hZ hw 112 rfl) (ov hZ hw 113 rfl) (ov hZ hw 107 rfl) (ov hZ hw 114 rfl) (by decide) (own_backOf (W := 0) (rx26_722 l Z a0 hw [] n0 h0 O0   ) hZ (ow hw 114 rfl) (ow hw 107 rfl) (by decide) (by decide)) (g := (mkF m 2 #[cr b707, ci 0, ci 3, cu, cu] [(.int 3), (.int 0)])) rfl (by rw [hml]; rfl) (argsL := [(.int 0), (.int 3)]) (rest := []) (lenOf pdx_18 rfl) rfl (own_w rfl) (hb hby d25_2) (fun _ _ => ⟨rfl, e0, (by decide : 0 + 0 ≤ _), (by decide : 0 + 0 ≤ _)⟩)
 dsimp only [Pt.U, Pt.locs, Pt.cells, Pt.slots] at X723 l723 y723 z723 st723 hQ723
 subst l723 y723 z723
 obtain ⟨rfl, N723q, K723c⟩ := hQ723
 have N723 := Fr.app N0 N723q
 refine Ends.go st723 ?_
 obtain ⟨h723, e723⟩ : ∃ z, T723.heap = z := ⟨_, rfl⟩
 rw [e723] at K723c
 have K723 := K0.trans K723c all0
 have O723 := O0.keep K723c all0
 refine wilN X723 hx hby d25_5 rfl ?_
 refine wilN X723 hx hby d25_6 rfl ?_
 refine wis X723 hx hby d25_7 ?_
 refine wstN X723 hx hby d25_8 (l' := #[cr b707, ci 0, ci 3, ci 3, cu]) rfl ?_
 refine wilN X723 hx hby d25_9 rfl ?_
 obtain ⟨T724, h724, k724, X724, e724, E724, A724, st724⟩ := newP X723 hx hZ (ow hw 22 rfl) e723 (g := (mkF m 10 #[cr b707, ci 0, ci 3, ci 3, cu] [(.int 3)])) rfl (hb hby d25_10) rfl (by decide) (cap := 3) (by decide) (by decide) (by decide) (by decide)
 obtain ⟨b724, g724⟩ : ∃ z, z = h723.size := ⟨_, rfl⟩
 rw [← g724] at A724 st724
 refine Ends.go st724 ?_
 have g_b724 : n0 ≤ b724 := Nat.le_trans (own_old_le O723) (Nat.le_of_eq g724.symm)
 have sz_b724 : h0.size ≤ b724 := Nat.le_trans K723.1 (Nat.le_of_eq g724.symm)
 have K724 := K723.ext E724
 have O724 := O723.ext E724
 have V_b724 : Arv Z h724 b724 k724 .byte (3 : Int32) [(.int 0), (.int 0), (.int 0)] (.int 0) := (Arv.new A724 (by decide)).pad (pad_rep [] (.int 0) 3)
 refine was X724 hx hby d25_12 (l' := #[cr b707, ci 0, ci 3, ci 3, cr b724]) rfl rfl ?_
 refine walN X724 hx hby d25_14 rfl rfl ?_
 refine wilN X724 hx hby d25_15 rfl ?_
 refine wal X724 hx hby d25_16 rfl rfl ?_
 refine wic X724 hx hby d25_18 ?_
 refine walN X724 hx hby d25_19 rfl rfl ?_
 obtain ⟨cl725, Ar725, q725, S725, M725, H725, G725⟩ := id ((PV_b707.keep K723c nin0).ext E724)
 refine Ends.go (X724.arraylength hx (by rw [e724]; exact Ar725.1) (State.isArrayOf_alike hZ.alike Ar725.2.1) (g := (mkF m 20 #[cr b707, ci 0, ci 3, ci 3, cr b724] [(.ref b707), (.int 0), (.ref b724), (.int 0), (.ref b707)])) rfl rfl (hb hby d25_20)) ?_
 rw [len_of S725 M725]
 refine wilN X724 hx hby d25_21 rfl ?_
 refine wis X724 hx hby d25_22 ?_
 refine wilN X724 hx hby d25_23 rfl ?_
 obtain ⟨_, _, ⟨T727, L727, k727, n727⟩, -, X727, ⟨Lc727, hQ727, l727, y727, z727⟩, st727⟩ := Jvm.LawKit.callS X724 hx (y := ym7) hown (ov hZ hw 115 rfl) (ov hZ hw 71 rfl) (ov hZ hw 68 rfl) (ov hZ hw 72 rfl) (by decide) (own_backOf (W := 4) (rx15_726 l Z a0 hw [] n0 h724 O724   ) hZ (ow hw 72 rfl) (ow hw 68 rfl) (by decide) (by decide)) (g := (mkF m 24 #[cr b707, ci 0, ci 3, ci 3, cr b724] [(.int 3), (.int 4), (.int 0), (.ref b724), (.int 0), (.ref b707)])) rfl (by rw [hml]; rfl) (argsL := [(.int 4), (.int 3)]) (rest := [(.int 0), (.ref b724), (.int 0), (.ref b707)]) (lenOf pdx_1 rfl) rfl (own_w rfl) (hb hby d25_24) (fun _ _ => ⟨rfl, e724, (by decide : 1 + 0 ≤ _), (by decide : 3 + 0 ≤ _)⟩)
 dsimp only [Pt.U, Pt.locs, Pt.cells, Pt.slots] at X727 l727 y727 z727 st727 hQ727
 subst l727 y727 z727
 obtain ⟨rfl, N727q, K727c⟩ := hQ727
 have N727 := Fr.app N723 N727q
 refine Ends.go st727 ?_
 obtain ⟨h727, e727⟩ : ∃ z, T727.heap = z := ⟨_, rfl⟩
 rw [e727] at K727c
 have K727 := K724.trans K727c all0
 obtain ⟨T728, h728, L728, X728, e728, N728, K728c, V728, st728⟩ := cpA X727 hx hZ hown (ow hw 116 rfl) (ow hw 119 rfl) (ow hw 117 rfl) (ow hw 118 rfl) e727 (((PV_b707.keep K723c nin0).ext E724).keep K727c nin0) (V_b724.keep K727c nin0) (sp := (0 : Int32)) (dp := (0 : Int32)) (nn := (3 : Int32)) (us := [(yb c0_), (yb c1_), (yb c2_)]) (Or.inl ⟨rfl, rfl⟩) (by decide) (by decide) (by decide) (by decide) (by decide) rfl (by decide) N727 g_b724 (g := (mkF m 27 #[cr b707, ci 0, ci 3, ci 3, cr b724] [(.int 3), (.int 0), (.ref b724), (.int 0), (.ref b707)])) rfl (by rw [hml]; rfl) rfl (hb hby d25_27) (by decide) (W := 0) (own_w rfl) (by decide)
 refine Ends.go st728 ?_
 have K728 := K727.trans K728c (allS (Or.inr sz_b724) all0)
 have V728' : Arv Z h728 b724 k724 .byte (3 : Int32) [(yb c0_), (yb c1_), (yb c2_)] (.int 0) := V728
 refine wal X728 hx hby d25_30 rfl rfl ?_
 refine Ends.ret X728 hx Bd.notSynchronized (t := (.array .byte)) Bd.returns rfl (Or.inr (Or.inr (Or.inr (Or.inr ⟨rfl, rfl, rfl⟩)))) (hb hby d25_32) (by decide) (by decide) ?_
 rw [e728]
 exact ⟨b724, k724, rfl, N728, K728, sz_b724, V728'⟩

theorem rx24_719 (l : Launch) (Z : State) (a0 : Array Value) (hw : HW a0 Z) (ws : List Jvm.Cond) (n0 : Nat) (h0 : Heap) (O0 : Old Z n0 h0)  (b707 : Addr) (k709 : ClassId) (c0_ : Int32) (c1_ : Int32) (c2_ : Int32) (c3_ : Int32) (PV_b707 : Arv Z h0 b707 k709 .byte (4 : Int32) [(yb c0_), (yb c1_), (yb c2_), (yb c3_)] (.int 0)) :
  Meets1 l ym26 jdk_65_method_132_code 3 (some (.array .byte)) ws (mkR 2 1 3 56) #[(.ref b707), (.int 0), (.int 3)] Z h0 (fun v h L => ∃ (b730 : Addr) (k731 : ClassId), v = some (.ref b730) ∧ Fr n0 L ∧ Keep h0 h [] ∧ h0.size ≤ b730 ∧ Arv Z h b730 k731 .byte (3 : Int32) [(yb c0_), (yb c1_), (yb c2_)] (.int 0)) := by
 refine MetFree.of_bodySF (plainFor_of_name pn24) hisR ?_
 intro p e s m args below meth c s₁ Bd hml0 hP hK
 obtain ⟨rfl, hZ, hh⟩ := hP
 have hx := Bd.exec
 have hby := Bd.bytes
 have hml : c.maxLocals = 3 := hml0
 have hown : s.vm.findClass "java/util/Arrays" = some m.cls := findClass_of_methodNamed Bd.named
 have X0 : Stand p l e (mkR 2 1 3 56) s m #[(.ref b707), (.int 0), (.int 3)] below meth c s₁ [] 0 0 := Stand.of_body Bd
 have e0 : s₁.heap = h0 := by rw [← hh, Bd.state]; rfl
 have N0 := Fr.nil n0
 show Ends _ _ _ _ s₁ (entryFrame m #[(.ref b707), (.int 0), (.int 3)] 3) (mkR 2 1 3 56).cells (mkR 2 1 3 56).slots (fun v h L => ∃ (b730 : Addr) (k731 : ClassId), v = some (.ref b730) ∧ Fr n0 L ∧ Keep h0 h [] ∧ h0.size ≤ b730 ∧ Arv Z h b730 k731 .byte (3 : Int32) [(yb c0_), (yb c1_), (yb c2_)] (.int 0))
 refine Ends.go (fun _ k => castTop (ef24_rii m b707 (0 : Int32) (3 : Int32)) k) ?_
 have K0 := Keep.refl h0 []
 show Ends _ _ _ _ s₁ (mkF m 0 #[cr b707, ci 0, ci 3] []) _ _ _
 refine wilN X0 hx hby d24_0 rfl ?_
 refine win X0 hx hby d24_1 ((if0 _ _).trans (teq (by decide : (0 : Int32) = (0 : Int32))).2) ?_
 refine wilN X0 hx hby d24_4 rfl ?_
 refine walN X0 hx hby d24_5 rfl rfl ?_
 obtain ⟨cl720, Ar720, q720, S720, M720, H720, G720⟩ := id PV_b707
 refine Ends.go (X0.arraylength hx (by rw [e0]; exact Ar720.1) (State.isArrayOf_alike hZ.alike Ar720.2.1) (g := (mkF m 6 #[cr b707, ci 0, ci 3] [(.ref b707), (.int 3)])) rfl rfl (hb hby d24_6)) ?_
 rw [len_of S720 M720]
 refine wcn X0 hx hby d24_7 (feq (by decide : ¬ ((3 : Int32) = (4 : Int32)))).1 ?_
 refine walN X0 hx hby d24_10 rfl rfl ?_
 refine wilN X0 hx hby d24_11 rfl ?_
 refine wilN X0 hx hby d24_12 rfl ?_
 obtain ⟨_, _, ⟨T729, L729, k729, n729⟩, -, X729, ⟨Lc729, hQ729, l729, y729, z729⟩, st729⟩ := Jvm.LawKit.callS X0 hx (y := ym25) hown (ov hZ hw 109 rfl) (ov hZ hw 110 rfl) (ov hZ hw 107 rfl) (ov hZ hw 111 rfl) (by decide) (own_backOf (W := 0) (rx25_721 l Z a0 hw [] n0 h0 O0  b707 k709 c0_ c1_ c2_ c3_ PV_b707) hZ (ow hw 111 rfl) (ow hw 107 rfl) (by decide) (by decide)) (g := (mkF m 13 #[cr b707, ci 0, ci 3] [(.int 3), (.int 0), (.ref b707)])) rfl (by rw [hml]; rfl) (argsL := [(.ref b707), (.int 0), (.int 3)]) (rest := []) (lenOf pdx_19 rfl) rfl (own_w rfl) (hb hby d24_13) (fun _ _ => ⟨rfl, e0, (by decide : 0 + 1 ≤ _), (by decide : 0 + 3 ≤ _)⟩)
 dsimp only [Pt.U, Pt.locs, Pt.cells, Pt.slots] at X729 l729 y729 z729 st729 hQ729
 subst l729 y729 z729
 obtain ⟨b730, k731, rfl, N729q, K729c, hb729_b730, Y729_0⟩ := hQ729
 have N729 := Fr.app N0 N729q
 refine Ends.go st729 ?_
 have sz_b730 : h0.size ≤ b730 := Nat.le_trans K0.1 hb729_b730
 obtain ⟨h729, e729⟩ : ∃ z, T729.heap = z := ⟨_, rfl⟩
 rw [e729] at K729c Y729_0
 have K729 := K0.trans K729c all0
 refine Ends.ret X729 hx Bd.notSynchronized (t := (.array .byte)) Bd.returns rfl (Or.inr (Or.inr (Or.inr (Or.inr ⟨rfl, rfl, rfl⟩)))) (hb hby d24_16) (by decide) (by decide) ?_
 rw [e729]
 exact ⟨b730, k731, rfl, N729, K729, sz_b730, Y729_0⟩

theorem rx23_717 (l : Launch) (Z : State) (a0 : Array Value) (hw : HW a0 Z) (ws : List Jvm.Cond) (n0 : Nat) (h0 : Heap) (O0 : Old Z n0 h0)  (b707 : Addr) (k709 : ClassId) (c0_ : Int32) (c1_ : Int32) (c2_ : Int32) (c3_ : Int32) (PV_b707 : Arv Z h0 b707 k709 .byte (4 : Int32) [(yb c0_), (yb c1_), (yb c2_), (yb c3_)] (.int 0)) :
  Meets1 l ym22 jdk_43_method_47_code 3 (some (.object cST)) ws (mkR 3 2 7 72) #[(.ref b707), (.int 0), (.int 3)] Z h0 (fun v h L => ∃ (b718 : Addr) (b733 : Addr) (k734 : ClassId), v = some (.ref b718) ∧ Fr n0 L ∧ Keep h0 h [] ∧ h0.size ≤ b718 ∧ h0.size ≤ b733 ∧ b718 ≠ b733 ∧ Exa Z h b718 cST ∧ Arv Z h b733 k734 .byte (3 : Int32) [(yb c0_), (yb c1_), (yb c2_)] (.int 0) ∧ Fld Z h b718 cST "value" "[B" (.ref b733) ∧ Fld Z h b718 cST "coder" "B" (.int 0)) := by
 refine MetFree.of_bodySF (plainFor_of_name pn23) hisR ?_
 intro p e s m args below meth c s₁ Bd hml0 hP hK
 obtain ⟨rfl, hZ, hh⟩ := hP
 have hx := Bd.exec
 have hby := Bd.bytes
 have hml : c.maxLocals = 3 := hml0
 have hown : s.vm.findClass "java/lang/StringLatin1" = some m.cls := findClass_of_methodNamed Bd.named
 have X0 : Stand p l e (mkR 3 2 7 72) s m #[(.ref b707), (.int 0), (.int 3)] below meth c s₁ [] 0 0 := Stand.of_body Bd
 have e0 : s₁.heap = h0 := by rw [← hh, Bd.state]; rfl
 have N0 := Fr.nil n0
 show Ends _ _ _ _ s₁ (entryFrame m #[(.ref b707), (.int 0), (.int 3)] 3) (mkR 3 2 7 72).cells (mkR 3 2 7 72).slots (fun v h L => ∃ (b718 : Addr) (b733 : Addr) (k734 : ClassId), v = some (.ref b718) ∧ Fr n0 L ∧ Keep h0 h [] ∧ h0.size ≤ b718 ∧ h0.size ≤ b733 ∧ b718 ≠ b733 ∧ Exa Z h b718 cST ∧ Arv Z h b733 k734 .byte (3 : Int32) [(yb c0_), (yb c1_), (yb c2_)] (.int 0) ∧ Fld Z h b718 cST "value" "[B" (.ref b733) ∧ Fld Z h b718 cST "coder" "B" (.int 0))
 refine Ends.go (fun _ k => castTop (ef23_rii m b707 (0 : Int32) (3 : Int32)) k) ?_
 have K0 := Keep.refl h0 []
 show Ends _ _ _ _ s₁ (mkF m 0 #[cr b707, ci 0, ci 3] []) _ _ _
 refine wilN X0 hx hby d23_0 rfl ?_
 refine wiy (pc := 1) (pc' := 7) X0 hx hby d23_1 ((if0 _ _).trans (feq (by decide : ¬ ((3 : Int32) = (0 : Int32)))).2) ?_
 obtain ⟨T718, h718, X718, e718, E718, A718, D718, -, st718⟩ := newO X0 hx hZ hown (ow hw 104 rfl) (ow hw 9 rfl) (ow hw 10 rfl) e0 (g := (mkF m 7 #[cr b707, ci 0, ci 3] [])) rfl (hb hby d23_7) (by decide) (by decide)
 obtain ⟨b718, g718⟩ : ∃ z, z = h0.size := ⟨_, rfl⟩
 rw [← g718] at A718 D718 st718
 refine Ends.go st718 ?_
 have g_b718 : n0 ≤ b718 := Nat.le_trans (own_old_le O0) (Nat.le_of_eq g718.symm)
 have sz_b718 : h0.size ≤ b718 := Nat.le_trans K0.1 (Nat.le_of_eq g718.symm)
 have K718 := K0.ext E718
 have O718 := O0.ext E718
 have F_value_b718 : Fld Z h718 b718 cST "value" "[B" .null := D718 (Or.inr (ow hw 23 rfl)) (ty := (.array .byte)) (by decide)
 have F_coder_b718 : Fld Z h718 b718 cST "coder" "B" (.int 0) := D718 (Or.inr (ow hw 24 rfl)) (ty := .byte) (by decide)
 refine wdu X718 hx hby d23_10 rfl ?_
 refine walN X718 hx hby d23_11 rfl rfl ?_
 refine wilN X718 hx hby d23_12 rfl ?_
 refine wilN X718 hx hby d23_13 rfl ?_
 refine wilN X718 hx hby d23_14 rfl ?_
 refine wia X718 hx hby d23_15 ?_
 obtain ⟨_, _, ⟨T732, L732, k732, n732⟩, -, X732, ⟨Lc732, hQ732, l732, y732, z732⟩, st732⟩ := Jvm.LawKit.callS X718 hx (y := ym26) hown (ov hZ hw 105 rfl) (ov hZ hw 106 rfl) (ov hZ hw 107 rfl) (ov hZ hw 108 rfl) (by decide) (own_backOf (W := 2) (rx24_719 l Z a0 hw [] n0 h718 O718  b707 k709 c0_ c1_ c2_ c3_ (PV_b707.ext E718)) hZ (ow hw 108 rfl) (ow hw 107 rfl) (by decide) (by decide)) (g := (mkF m 16 #[cr b707, ci 0, ci 3] [(.int 3), (.int 0), (.ref b707), (.ref b718), (.ref b718)])) rfl (by rw [hml]; rfl) (argsL := [(.ref b707), (.int 0), (.int 3)]) (rest := [(.ref b718), (.ref b718)]) (lenOf pdx_19 rfl) rfl (own_w rfl) (hb hby d23_16) (fun _ _ => ⟨rfl, e718, (by decide : 1 + 1 ≤ _), (by decide : 4 + 3 ≤ _)⟩)
 dsimp only [Pt.U, Pt.locs, Pt.cells, Pt.slots] at X732 l732 y732 z732 st732 hQ732
 subst l732 y732 z732
 obtain ⟨b733, k734, rfl, N732q, K732c, hb732_b733, Y732_0⟩ := hQ732
 have N732 := Fr.app N0 N732q
 refine Ends.go st732 ?_
 have sz_b733 : h0.size ≤ b733 := Nat.le_trans K718.1 hb732_b733
 obtain ⟨h732, e732⟩ : ∃ z, T732.heap = z := ⟨_, rfl⟩
 rw [e732] at K732c Y732_0
 have K732 := K718.trans K732c all0
 have O732 := O718.keep K732c all0
 refine wic X732 hx hby d23_19 ?_
 obtain ⟨_, _, ⟨T735, L735, k735, n735⟩, -, X735, ⟨Lc735, hQ735, l735, y735, z735⟩, st735⟩ := X732.specialBack hx (y := ym27) rfl hown (ov hZ hw 120 rfl) (ov hZ hw 121 rfl) (ov hZ hw 122 rfl) (by decide) (own_backOf (W := 1) (rx27_302 l Z a0 hw [] n0 h732 O732  b718 b733 (A718.keep K732c) (F_value_b718.keep K732c nin0) (F_coder_b718.keep K732c nin0) g_b718) hZ (ow hw 122 rfl) (ow hw 10 rfl) (by decide) (by decide)) (g := (mkF m 20 #[cr b707, ci 0, ci 3] [(.int 0), (.ref b733), (.ref b718), (.ref b718)])) rfl (by rw [hml]; rfl) (Steps.refl _) (a := b718) (argsL := [(.ref b733), (.int 0)]) (rest := [(.ref b718)]) (lenOf pdx_20 rfl) rfl (own_w rfl) (hb hby d23_20) (fun _ _ => ⟨rfl, e732, (by decide : 2 + 0 ≤ _), (by decide : 7 + 0 ≤ _)⟩)
 dsimp only [Pt.U, Pt.locs, Pt.cells, Pt.slots] at X735 l735 y735 z735 st735 hQ735
 subst l735 y735 z735
 obtain ⟨rfl, N735q, K735c, Y735_0, Y735_1⟩ := hQ735
 have N735 := Fr.app N732 N735q
 refine Ends.go (fun _ k => st735.trans k) ?_
 obtain ⟨h735, e735⟩ : ∃ z, T735.heap = z := ⟨_, rfl⟩
 rw [e735] at K735c Y735_0 Y735_1
 have K735 := K732.trans K735c (allS (Or.inr sz_b718) all0)
 refine Ends.ret X735 hx Bd.notSynchronized (t := (.object cST)) Bd.returns rfl (Or.inr (Or.inr (Or.inr (Or.inr ⟨rfl, rfl, rfl⟩)))) (hb hby d23_23) (by decide) (by decide) ?_
 rw [e735]
 have ne_b718_b733 : b718 ≠ b733 := Nat.ne_of_lt (Nat.lt_of_lt_of_le A718.lt hb732_b733)
 exact ⟨b718, b733, k734, rfl, N735, K735, sz_b718, sz_b733, ne_b718_b733, ((A718.keep K732c).keep K735c), (Y732_0.keep K735c (ninS (Ne.symm ne_b718_b733) nin0)), Y735_0, Y735_1⟩

theorem rx20_712 (l : Launch) (Z : State) (a0 : Array Value) (hw : HW a0 Z) (ws : List Jvm.Cond) (n0 : Nat) (h0 : Heap) (O0 : Old Z n0 h0) (G1 : Int32) (G3 : Value) (GF : GlobF Z a0 G1 G3) (b705 : Addr) (b707 : Addr) (k709 : ClassId) (c0_ : Int32) (c1_ : Int32) (c2_ : Int32) (c3_ : Int32) (PF_b705_value : Fld Z h0 b705 cST "value" "[B" (.ref b707)) (PV_b707 : Arv Z h0 b707 k709 .byte (4 : Int32) [(yb c0_), (yb c1_), (yb c2_), (yb c3_)] (.int 0)) (PF_b705_coder : Fld Z h0 b705 cST "coder" "B" (.int 0)) (PE_b705 : Exa Z h0 b705 cST) :
  Meets1 l ym23 jdk_42_method_92_code 5 (some (.object cST)) ws (mkR 4 2 7 86) #[(.ref b705), (.int 0), (.int 3)] Z h0 (fun v h L => ∃ (b737 : Addr) (b738 : Addr) (k739 : ClassId), v = some (.ref b737) ∧ Fr n0 L ∧ Keep h0 h [] ∧ h0.size ≤ b737 ∧ h0.size ≤ b738 ∧ b737 ≠ b738 ∧ Exa Z h b737 cST ∧ Arv Z h b738 k739 .byte (3 : Int32) [(yb c0_), (yb c1_), (yb c2_)] (.int 0) ∧ Fld Z h b737 cST "value" "[B" (.ref b738) ∧ Fld Z h b737 cST "coder" "B" (.int 0)) := by
 refine MetFree.of_bodySF (plainFor_of_name pn20) hisR ?_
 intro p e s m args below meth c s₁ Bd hml0 hP hK
 obtain ⟨rfl, hZ, hh⟩ := hP
 have hx := Bd.exec
 have hby := Bd.bytes
 have hml : c.maxLocals = 5 := hml0
 have hown : s.vm.findClass "java/lang/String" = some m.cls := findClass_of_methodNamed Bd.named
 have X0 : Stand p l e (mkR 4 2 7 86) s m #[(.ref b705), (.int 0), (.int 3)] below meth c s₁ [] 0 0 := Stand.of_body Bd
 have e0 : s₁.heap = h0 := by rw [← hh, Bd.state]; rfl
 have N0 := Fr.nil n0
 show Ends _ _ _ _ s₁ (entryFrame m #[(.ref b705), (.int 0), (.int 3)] 5) (mkR 4 2 7 86).cells (mkR 4 2 7 86).slots (fun v h L => ∃ (b737 : Addr) (b738 : Addr) (k739 : ClassId), v = some (.ref b737) ∧ Fr n0 L ∧ Keep h0 h [] ∧ h0.size ≤ b737 ∧ h0.size ≤ b738 ∧ b737 ≠ b738 ∧ Exa Z h b737 cST ∧ Arv Z h b738 k739 .byte (3 : Int32) [(yb c0_), (yb c1_), (yb c2_)] (.int 0) ∧ Fld Z h b737 cST "value" "[B" (.ref b738) ∧ Fld Z h b737 cST "coder" "B" (.int 0))
 refine Ends.go (fun _ k => castTop (ef20_rii m b705 (0 : Int32) (3 : Int32)) k) ?_
 obtain ⟨SCS, P5, SSF, RG3, HC1, HC2, HCW⟩ := id GF
 have K0 := Keep.refl h0 []
 show Ends _ _ _ _ s₁ (mkF m 0 #[cr b705, ci 0, ci 3, cu, cu] []) _ _ _
 refine walN X0 hx hby d20_0 rfl rfl ?_
 obtain ⟨cq713, kq713, q713a, q713b, q713c⟩ := isOf hZ e0 PE_b705
 obtain ⟨_, _, ⟨T713, L713, k713, n713⟩, -, X713, ⟨Lc713, hQ713, l713, y713, z713⟩, st713⟩ := X0.virtualBack hx (y := ym11) (z := ym11) hown (ov hZ hw 49 rfl) (ov hZ hw 50 rfl) (notFace_of_selects (args := #[]) (ov hZ hw 52 rfl)) (ov hZ hw 52 rfl) (ov hZ hw 51 rfl) (by decide) (own_backOf (W := 0) (rx10_96 l Z a0 hw [] n0 h0 O0 G1 G3 GF b705 b707 k709 c0_ c1_ c2_ c3_ PF_b705_value PV_b707 PF_b705_coder PE_b705) hZ (ow hw 53 rfl) (ow hw 10 rfl) (by decide) (by decide)) q713a q713c (g := (mkF m 1 #[cr b705, ci 0, ci 3, cu, cu] [(.ref b705)])) rfl (by rw [hml]; rfl) (Steps.refl _) (argsL := []) (rest := []) (lenOf pdx_4 rfl) rfl (own_w rfl) (hb hby d20_1) (fun _ _ => ⟨rfl, e0, (by decide : 0 + 0 ≤ _), (by decide : 0 + 0 ≤ _)⟩)
 dsimp only [Pt.U, Pt.locs, Pt.cells, Pt.slots] at X713 l713 y713 z713 st713 hQ713
 subst l713 y713 z713
 obtain ⟨rfl, N713q, K713c⟩ := hQ713
 have N713 := Fr.app N0 N713q
 refine Ends.go (fun _ k => st713.trans k) ?_
 obtain ⟨h713, e713⟩ : ∃ z, T713.heap = z := ⟨_, rfl⟩
 rw [e713] at K713c
 have K713 := K0.trans K713c all0
 have O713 := O0.keep K713c all0
 refine wstN X713 hx hby d20_4 (l' := #[cr b705, ci 0, ci 3, ci 4, cu]) rfl ?_
 refine wilN X713 hx hby d20_5 rfl ?_
 refine wilN X713 hx hby d20_6 rfl ?_
 refine wilN X713 hx hby d20_7 rfl ?_
 obtain ⟨_, _, ⟨T714, L714, k714, n714⟩, -, X714, ⟨Lc714, hQ714, l714, y714, z714⟩, st714⟩ := Jvm.LawKit.callS X713 hx (y := ym4) hown (ov hZ hw 91 rfl) (ov hZ hw 92 rfl) (ov hZ hw 10 rfl) (ov hZ hw 93 rfl) (by decide) (own_backOf (W := 0) (rm_checkBoundsBeginEnd l Z a0 hw [] n0 h713 O713 (0 : Int32) (3 : Int32) (4 : Int32) G1 G3 GF (by decide) (by decide) (by decide)) hZ (ow hw 93 rfl) (ow hw 10 rfl) (by decide) (by decide)) (g := (mkF m 8 #[cr b705, ci 0, ci 3, ci 4, cu] [(.int 4), (.int 3), (.int 0)])) rfl (by rw [hml]; rfl) (argsL := [(.int 0), (.int 3), (.int 4)]) (rest := []) (lenOf pdx_15 rfl) rfl (own_w rfl) (hb hby d20_8) (fun _ _ => ⟨rfl, e713, (by decide : 0 + 0 ≤ _), (by decide : 0 + 0 ≤ _)⟩)
 dsimp only [Pt.U, Pt.locs, Pt.cells, Pt.slots] at X714 l714 y714 z714 st714 hQ714
 subst l714 y714 z714
 obtain ⟨rfl, N714q, e714q⟩ := hQ714
 have N714 := Fr.app N713 N714q
 refine Ends.go st714 ?_
 refine wilN X714 hx hby d20_11 rfl ?_
 refine win X714 hx hby d20_12 ((if0 _ _).trans (teq (by decide : (0 : Int32) = (0 : Int32))).2) ?_
 refine wilN X714 hx hby d20_15 rfl ?_
 refine wilN X714 hx hby d20_16 rfl ?_
 refine wcy (pc := 17) (pc' := 22) X714 hx hby d20_17 (feq (by decide : ¬ ((3 : Int32) = (4 : Int32)))).2 ?_
 refine wilN X714 hx hby d20_22 rfl ?_
 refine wilN X714 hx hby d20_23 rfl ?_
 refine wis X714 hx hby d20_24 ?_
 refine wst X714 hx hby d20_25 (l' := #[cr b705, ci 0, ci 3, ci 4, ci 3]) rfl ?_
 refine walN X714 hx hby d20_27 rfl rfl ?_
 obtain ⟨cq715, kq715, q715a, q715b, q715c⟩ := isOf hZ e714q (PE_b705.keep K713c)
 obtain ⟨_, _, ⟨T715, L715, k715, n715⟩, -, X715, ⟨Lc715, hQ715, l715, y715, z715⟩, st715⟩ := X714.virtualBack hx (y := ym9) (z := ym9) hown (ov hZ hw 43 rfl) (ov hZ hw 44 rfl) (notFace_of_selects (args := #[]) (ov hZ hw 46 rfl)) (ov hZ hw 46 rfl) (ov hZ hw 45 rfl) (by decide) (own_backOf (W := 0) (rx9_8 l Z a0 hw [] n0 h713 O713 G1 G3 GF b705 (PF_b705_coder.keep K713c nin0)) hZ (ow hw 47 rfl) (ow hw 10 rfl) (by decide) (by decide)) q715a q715c (g := (mkF m 28 #[cr b705, ci 0, ci 3, ci 4, ci 3] [(.ref b705)])) rfl (by rw [hml]; rfl) (Steps.refl _) (argsL := []) (rest := []) (lenOf pdx_2 rfl) rfl (own_w rfl) (hb hby d20_28) (fun _ _ => ⟨rfl, e714q, (by decide : 0 + 0 ≤ _), (by decide : 0 + 0 ≤ _)⟩)
 dsimp only [Pt.U, Pt.locs, Pt.cells, Pt.slots] at X715 l715 y715 z715 st715 hQ715
 subst l715 y715 z715
 obtain ⟨rfl, N715q, K715c⟩ := hQ715
 have N715 := Fr.app N714 N715q
 refine Ends.go (fun _ k => st715.trans k) ?_
 obtain ⟨h715, e715⟩ : ∃ z, T715.heap = z := ⟨_, rfl⟩
 rw [e715] at K715c
 have K715 := K713.trans K715c all0
 have O715 := O713.keep K715c all0
 refine win X715 hx hby d20_31 ((if0 _ _).trans (feq (by decide : ¬ ((1 : Int32) = (0 : Int32)))).1) ?_
 refine walN X715 hx hby d20_34 rfl rfl ?_
 obtain ⟨T716, X716, e716, st716⟩ := getF X715 hx hZ hown (host := "") (Or.inl (ow hw 27 rfl)) Via.refl e715 ((PF_b705_value.keep K713c nin0).keep K715c nin0) (g := (mkF m 35 #[cr b705, ci 0, ci 3, ci 4, ci 3] [(.ref b705)])) rfl rfl (hb hby d20_35)
 refine Ends.go st716 ?_
 refine wilN X716 hx hby d20_38 rfl ?_
 refine wil X716 hx hby d20_39 rfl ?_
 obtain ⟨_, _, ⟨T736, L736, k736, n736⟩, -, X736, ⟨Lc736, hQ736, l736, y736, z736⟩, st736⟩ := Jvm.LawKit.callS X716 hx (y := ym22) hown (ov hZ hw 99 rfl) (ov hZ hw 100 rfl) (ov hZ hw 61 rfl) (ov hZ hw 101 rfl) (by decide) (own_backOf (W := 0) (rx23_717 l Z a0 hw [] n0 h715 O715  b707 k709 c0_ c1_ c2_ c3_ ((PV_b707.keep K713c nin0).keep K715c nin0)) hZ (ow hw 101 rfl) (ow hw 61 rfl) (by decide) (by decide)) (g := (mkF m 41 #[cr b705, ci 0, ci 3, ci 4, ci 3] [(.int 3), (.int 0), (.ref b707)])) rfl (by rw [hml]; rfl) (argsL := [(.ref b707), (.int 0), (.int 3)]) (rest := []) (lenOf pdx_16 rfl) rfl (own_w rfl) (hb hby d20_41) (fun _ _ => ⟨rfl, e716, (by decide : 0 + 2 ≤ _), (by decide : 0 + 7 ≤ _)⟩)
 dsimp only [Pt.U, Pt.locs, Pt.cells, Pt.slots] at X736 l736 y736 z736 st736 hQ736
 subst l736 y736 z736
 obtain ⟨b737, b738, k739, rfl, N736q, K736c, hb736_b737, hb736_b738, hne736_b737_b738, Y736_0, Y736_1, Y736_2, Y736_3⟩ := hQ736
 have N736 := Fr.app N715 N736q
 refine Ends.go st736 ?_
 have sz_b737 : h0.size ≤ b737 := Nat.le_trans K715.1 hb736_b737
 have sz_b738 : h0.size ≤ b738 := Nat.le_trans K715.1 hb736_b738
 obtain ⟨h736, e736⟩ : ∃ z, T736.heap = z := ⟨_, rfl⟩
 rw [e736] at K736c Y736_0 Y736_1 Y736_2 Y736_3
 have K736 := K715.trans K736c all0
 refine wgo (pc := 44) (pc' := 57) X736 hx hby d20_44 ?_
 refine Ends.ret X736 hx Bd.notSynchronized (t := (.object cST)) Bd.returns rfl (Or.inr (Or.inr (Or.inr (Or.inr ⟨rfl, rfl, rfl⟩)))) (hb hby d20_57) (by decide) (by decide) ?_
 rw [e736]
 exact ⟨b737, b738, k739, rfl, N736, K736, sz_b737, sz_b738, hne736_b737_b738, Y736_0, Y736_1, Y736_2, Y736_3⟩

theorem rx6_710 (l : Launch) (Z : State) (a0 : Array Value) (hw : HW a0 Z) (ws : List Jvm.Cond) (n0 : Nat) (h0 : Heap) (O0 : Old Z n0 h0) (G1 : Int32) (G3 : Value) (GF : GlobF Z a0 G1 G3) (b705 : Addr) (b707 : Addr) (k709 : ClassId) (c0_ : Int32) (c1_ : Int32) (c2_ : Int32) (c3_ : Int32) (PF_b705_value : Fld Z h0 b705 cST "value" "[B" (.ref b707)) (PE_b705 : Exa Z h0 b705 cST) (PF_b705_coder : Fld Z h0 b705 cST "coder" "B" (.int 0)) (PV_b707 : Arv Z h0 b707 k709 .byte (4 : Int32) [(yb c0_), (yb c1_), (yb c2_), (yb c3_)] (.int 0)) (hq0_ : ¬ (c0_ = (46 : Int32))) (hq1_ : ¬ (c1_ = (46 : Int32))) (hq2_ : ¬ (c2_ = (46 : Int32))) (hq3_ : c3_ = (46 : Int32)) (hc0_ : 0 ≤ c0_.toInt ∧ c0_.toInt < 256) (hc1_ : 0 ≤ c1_.toInt ∧ c1_.toInt < 256) (hc2_ : 0 ≤ c2_.toInt ∧ c2_.toInt < 256) (hc3_ : 0 ≤ c3_.toInt ∧ c3_.toInt < 256) :
  Meets1 l ym18 prog_33_method_5_code 2 (some (.object cST)) ws (mkR 5 2 7 102) #[(.ref b705)] Z h0 (fun v h L => ∃ (b741 : Addr) (b742 : Addr) (k743 : ClassId), v = some (.ref b741) ∧ Fr n0 L ∧ Keep h0 h [] ∧ h0.size ≤ b741 ∧ h0.size ≤ b742 ∧ b741 ≠ b742 ∧ Exa Z h b741 cST ∧ Arv Z h b742 k743 .byte (3 : Int32) [(yb c0_), (yb c1_), (yb c2_)] (.int 0) ∧ Fld Z h b741 cST "value" "[B" (.ref b742) ∧ Fld Z h b741 cST "coder" "B" (.int 0)) := by
 refine MetFree.of_bodySF (plainFor_of_name pn6) hisR ?_
 intro p e s m args below meth c s₁ Bd hml0 hP hK
 obtain ⟨rfl, hZ, hh⟩ := hP
 have hx := Bd.exec
 have hby := Bd.bytes
 have hml : c.maxLocals = 2 := hml0
 have hown : s.vm.findClass "com/example/wakeline/wakeline/format/shareplex/SharePlexMessage" = some m.cls := findClass_of_methodNamed Bd.named
 have X0 : Stand p l e (mkR 5 2 7 102) s m #[(.ref b705)] below meth c s₁ [] 0 0 := Stand.of_body Bd
 have e0 : s₁.heap = h0 := by rw [← hh, Bd.state]; rfl
 have N0 := Fr.nil n0
 show Ends _ _ _ _ s₁ (entryFrame m #[(.ref b705)] 2) (mkR 5 2 7 102).cells (mkR 5 2 7 102).slots (fun v h L => ∃ (b741 : Addr) (b742 : Addr) (k743 : ClassId), v = some (.ref b741) ∧ Fr n0 L ∧ Keep h0 h [] ∧ h0.size ≤ b741 ∧ h0.size ≤ b742 ∧ b741 ≠ b742 ∧ Exa Z h b741 cST ∧ Arv Z h b742 k743 .byte (3 : Int32) [(yb c0_), (yb c1_), (yb c2_)] (.int 0) ∧ Fld Z h b741 cST "value" "[B" (.ref b742) ∧ Fld Z h b741 cST "coder" "B" (.int 0))
 refine Ends.go (fun _ k => castTop (ef6_r m b705) k) ?_
 obtain ⟨SCS, P5, SSF, RG3, HC1, HC2, HCW⟩ := id GF
 have K0 := Keep.refl h0 []
 show Ends _ _ _ _ s₁ (mkF m 0 #[cr b705, cu] []) _ _ _
 refine walN X0 hx hby d6_0 rfl rfl ?_
 refine .go (fun _ => XS.ifnonnullYes X0.here hx rfl (pc0 := 1) (pc' := 8) rfl (hb hby d6_1) rfl (by decide) (by decide)) ?_
 refine walN X0 hx hby d6_8 rfl rfl ?_
 refine wbp X0 hx hby d6_9 ?_
 obtain ⟨cq711, kq711, q711a, q711b, q711c⟩ := isOf hZ e0 PE_b705
 obtain ⟨_, _, ⟨T711, L711, k711, n711⟩, -, X711, ⟨Lc711, hQ711, l711, y711, z711⟩, st711⟩ := X0.virtualBack hx (y := ym13) (z := ym13) hown (ov hZ hw 33 rfl) (ov hZ hw 34 rfl) (notFace_of_selects (args := #[]) (ov hZ hw 36 rfl)) (ov hZ hw 36 rfl) (ov hZ hw 35 rfl) (by decide) (own_backOf (W := 0) (rmI7_4 l Z a0 hw [] n0 h0 O0 G1 G3 GF b705 b707 k709 c0_ c1_ c2_ c3_ PE_b705 PF_b705_value PF_b705_coder PV_b707) hZ (ow hw 37 rfl) (ow hw 10 rfl) (by decide) (by decide)) q711a q711c (g := (mkF m 11 #[cr b705, cu] [(.int 46), (.ref b705)])) rfl (by rw [hml]; rfl) (Steps.refl _) (argsL := [(.int 46)]) (rest := []) (lenOf pdx_10 rfl) rfl (own_w rfl) (hb hby d6_11) (fun _ _ => ⟨rfl, e0, (by decide : 0 + 0 ≤ _), (by decide : 0 + 0 ≤ _)⟩)
 dsimp only [Pt.U, Pt.locs, Pt.cells, Pt.slots] at X711 l711 y711 z711 st711 hQ711
 subst l711 y711 z711
 obtain ⟨r711, rfl, N711q, K711c, hr711⟩ := hQ711
 have N711 := Fr.app N0 N711q
 refine Ends.go (fun _ k => st711.trans k) ?_
 obtain ⟨h711, e711⟩ : ∃ z, T711.heap = z := ⟨_, rfl⟩
 rw [e711] at K711c
 have K711 := K0.trans K711c all0
 have O711 := O0.keep K711c all0
 obtain rfl : r711 = 3 := hr711.elim (fun z => absurd z.2 (fun q => hq0_ ((own_b46 hc0_).mp q))) (fun o1 => o1.elim (fun z => absurd z.2.2 (fun q => hq1_ ((own_b46 hc1_).mp q))) (fun o2 => o2.elim (fun z => absurd z.2.2.2 (fun q => hq2_ ((own_b46 hc2_).mp q))) (fun o3 => o3.elim (fun z => z.1) (fun z => absurd ((own_b46 hc3_).mpr hq3_) z.2.2.2.2))))
 refine wstN X711 hx hby d6_14 (l' := #[cr b705, ci 3]) rfl ?_
 refine wilN X711 hx hby d6_15 rfl ?_
 refine wiy (pc := 16) (pc' := 23) X711 hx hby d6_16 ((if0 _ _).trans (flt (by decide : ¬ ((3 : Int32) < (0 : Int32)))).2.1) ?_
 refine walN X711 hx hby d6_23 rfl rfl ?_
 refine wic X711 hx hby d6_24 ?_
 refine wilN X711 hx hby d6_25 rfl ?_
 obtain ⟨cq740, kq740, q740a, q740b, q740c⟩ := isOf hZ e711 (PE_b705.keep K711c)
 obtain ⟨_, _, ⟨T740, L740, k740, n740⟩, -, X740, ⟨Lc740, hQ740, l740, y740, z740⟩, st740⟩ := X711.virtualBack hx (y := ym23) (z := ym23) hown (ov hZ hw 86 rfl) (ov hZ hw 87 rfl) (notFace_of_selects (args := #[]) (ov hZ hw 89 rfl)) (ov hZ hw 89 rfl) (ov hZ hw 88 rfl) (by decide) (own_backOf (W := 0) (rx20_712 l Z a0 hw [] n0 h711 O711 G1 G3 GF b705 b707 k709 c0_ c1_ c2_ c3_ (PF_b705_value.keep K711c nin0) (PV_b707.keep K711c nin0) (PF_b705_coder.keep K711c nin0) (PE_b705.keep K711c)) hZ (ow hw 90 rfl) (ow hw 10 rfl) (by decide) (by decide)) q740a q740c (g := (mkF m 26 #[cr b705, ci 3] [(.int 3), (.int 0), (.ref b705)])) rfl (by rw [hml]; rfl) (Steps.refl _) (argsL := [(.int 0), (.int 3)]) (rest := []) (lenOf pdx_17 rfl) rfl (own_w rfl) (hb hby d6_26) (fun _ _ => ⟨rfl, e711, (by decide : 0 + 2 ≤ _), (by decide : 0 + 7 ≤ _)⟩)
 dsimp only [Pt.U, Pt.locs, Pt.cells, Pt.slots] at X740 l740 y740 z740 st740 hQ740
 subst l740 y740 z740
 obtain ⟨b741, b742, k743, rfl, N740q, K740c, hb740_b741, hb740_b742, hne740_b741_b742, Y740_0, Y740_1, Y740_2, Y740_3⟩ := hQ740
 have N740 := Fr.app N711 N740q
 refine Ends.go (fun _ k => st740.trans k) ?_
 have sz_b741 : h0.size ≤ b741 := Nat.le_trans K711.1 hb740_b741
 have sz_b742 : h0.size ≤ b742 := Nat.le_trans K711.1 hb740_b742
 obtain ⟨h740, e740⟩ : ∃ z, T740.heap = z := ⟨_, rfl⟩
 rw [e740] at K740c Y740_0 Y740_1 Y740_2 Y740_3
 have K740 := K711.trans K740c all0
 refine Ends.ret X740 hx Bd.notSynchronized (t := (.object cST)) Bd.returns rfl (Or.inr (Or.inr (Or.inr (Or.inr ⟨rfl, rfl, rfl⟩)))) (hb hby d6_29) (by decide) (by decide) ?_
 rw [e740]
 exact ⟨b741, b742, k743, rfl, N740, K740, sz_b741, sz_b742, hne740_b741_b742, Y740_0, Y740_1, Y740_2, Y740_3⟩

theorem rx29_756 (l : Launch) (Z : State) (a0 : Array Value) (hw : HW a0 Z) (ws : List Jvm.Cond) (n0 : Nat) (h0 : Heap) (O0 : Old Z n0 h0) (G1 : Int32) (G3 : Value) (GF : GlobF Z a0 G1 G3) (b746 : Addr) (k747 : ClassId) (c0_ : Int32) (c1_ : Int32) (c2_ : Int32) (PV_b746 : Arv Z h0 b746 k747 .byte (3 : Int32) [(yb c0_), (yb c1_), (yb c2_)] (.int 0)) (hc0_ : 0 ≤ c0_.toInt ∧ c0_.toInt < 256) :
  Meets1 l ym28 jdk_43_method_2_code 2 (some .char) ws (mkR 2 0 0 28) #[(.ref b746), (.int 0)] Z h0 (fun v h L => v = some (.int c0_) ∧ Fr n0 L ∧ Keep h0 h []) := by
 refine MetFree.of_bodySF (plainFor_of_name pn29) hisR ?_
 intro p e s m args below meth c s₁ Bd hml0 hP hK
 obtain ⟨rfl, hZ, hh⟩ := hP
 have hx := Bd.exec
 have hby := Bd.bytes
 have hml : c.maxLocals = 2 := hml0
 have hown : s.vm.findClass "java/lang/StringLatin1" = some m.cls := findClass_of_methodNamed Bd.named
 have X0 : Stand p l e (mkR 2 0 0 28) s m #[(.ref b746), (.int 0)] below meth c s₁ [] 0 0 := Stand.of_body Bd
 have e0 : s₁.heap = h0 := by rw [← hh, Bd.state]; rfl
 have N0 := Fr.nil n0
 show Ends _ _ _ _ s₁ (entryFrame m #[(.ref b746), (.int 0)] 2) (mkR 2 0 0 28).cells (mkR 2 0 0 28).slots (fun v h L => v = some (.int c0_) ∧ Fr n0 L ∧ Keep h0 h [])
 refine Ends.go (fun _ k => castTop (ef29_ri m b746 (0 : Int32)) k) ?_
 obtain ⟨SCS, P5, SSF, RG3, HC1, HC2, HCW⟩ := id GF
 have K0 := Keep.refl h0 []
 show Ends _ _ _ _ s₁ (mkF m 0 #[cr b746, ci 0] []) _ _ _
 refine wilN X0 hx hby d29_0 rfl ?_
 refine walN X0 hx hby d29_1 rfl rfl ?_
 obtain ⟨cl757, Ar757, q757, S757, M757, H757, G757⟩ := id PV_b746
 refine Ends.go (X0.arraylength hx (by rw [e0]; exact Ar757.1) (State.isArrayOf_alike hZ.alike Ar757.2.1) (g := (mkF m 2 #[cr b746, ci 0] [(.ref b746), (.int 0)])) rfl rfl (hb hby d29_2)) ?_
 rw [len_of S757 M757]
 obtain ⟨_, _, ⟨T758, L758, k758, n758⟩, -, X758, ⟨Lc758, hQ758, l758, y758, z758⟩, st758⟩ := Jvm.LawKit.callS X0 hx (y := ym2) hown (ov hZ hw 131 rfl) (ov hZ hw 132 rfl) (ov hZ hw 10 rfl) (ov hZ hw 133 rfl) (by decide) (own_backOf (W := 0) (rm_checkIndex l Z a0 hw [] n0 h0 O0 (0 : Int32) (3 : Int32) G1 G3 GF (by decide) (by decide)) hZ (ow hw 133 rfl) (ow hw 10 rfl) (by decide) (by decide)) (g := (mkF m 3 #[cr b746, ci 0] [(.int 3), (.int 0)])) rfl (by rw [hml]; rfl) (argsL := [(.int 0), (.int 3)]) (rest := []) (lenOf pdx_18 rfl) rfl (own_w rfl) (hb hby d29_3) (fun _ _ => ⟨rfl, e0, (by decide : 0 + 0 ≤ _), (by decide : 0 + 0 ≤ _)⟩)
 dsimp only [Pt.U, Pt.locs, Pt.cells, Pt.slots] at X758 l758 y758 z758 st758 hQ758
 subst l758 y758 z758
 obtain ⟨rfl, N758q, e758q⟩ := hQ758
 have N758 := Fr.app N0 N758q
 refine Ends.go st758 ?_
 refine walN X758 hx hby d29_6 rfl rfl ?_
 refine wilN X758 hx hby d29_7 rfl ?_
 obtain ⟨cl759, Ar759, q759, S759, M759, H759, G759⟩ := id PV_b746
 have hin759 := inb_of (j := (0 : Int32)) S759 ⟨by decide, by decide⟩
 refine Ends.go (X758.baloadBytes hx (j := (0 : Int32)) (v := (yb c0_)) (by rw [e758q]; exact Ar759.1) (State.isArrayOf_alike hZ.alike Ar759.2.1) Ar759.2.2 hin759 (H759.at hin759 rfl) (g := (mkF m 8 #[cr b746, ci 0] [(.int 0), (.ref b746)])) rfl rfl (hb hby d29_8)) ?_
 refine wsp X758 hx hby d29_9 ?_
 refine wan X758 hx hby d29_12 ?_
 refine .go (fun _ => XS.i2c X758.here hx rfl (hb hby d29_13) rfl) ?_
 refine Ends.retZ X758 hx Bd.notSynchronized (t := .char) Bd.returns (by simp) (hb hby d29_14) (by decide) (by decide) ?_
 rw [e758q]
 exact ⟨(congrArg (fun z => some (Value.int z)) (own_l1 hc0_)), N758, K0⟩

theorem rx28_753 (l : Launch) (Z : State) (a0 : Array Value) (hw : HW a0 Z) (ws : List Jvm.Cond) (n0 : Nat) (h0 : Heap) (O0 : Old Z n0 h0) (G1 : Int32) (G3 : Value) (GF : GlobF Z a0 G1 G3) (b745 : Addr) (b746 : Addr) (k747 : ClassId) (c0_ : Int32) (c1_ : Int32) (c2_ : Int32) (PF_b745_coder : Fld Z h0 b745 cST "coder" "B" (.int 0)) (PE_b745 : Exa Z h0 b745 cST) (PF_b745_value : Fld Z h0 b745 cST "value" "[B" (.ref b746)) (PV_b746 : Arv Z h0 b746 k747 .byte (3 : Int32) [(yb c0_), (yb c1_), (yb c2_)] (.int 0)) (hc0_ : 0 ≤ c0_.toInt ∧ c0_.toInt < 256) :
  Meets1 l ym29 jdk_42_method_56_code 2 (some .char) ws (mkR 3 0 0 41) #[(.ref b745), (.int 0)] Z h0 (fun v h L => v = some (.int c0_) ∧ Fr n0 L ∧ Keep h0 h []) := by
 refine MetFree.of_bodySF (plainFor_of_name pn28) hisR ?_
 intro p e s m args below meth c s₁ Bd hml0 hP hK
 obtain ⟨rfl, hZ, hh⟩ := hP
 have hx := Bd.exec
 have hby := Bd.bytes
 have hml : c.maxLocals = 2 := hml0
 have hown : s.vm.findClass "java/lang/String" = some m.cls := findClass_of_methodNamed Bd.named
 have X0 : Stand p l e (mkR 3 0 0 41) s m #[(.ref b745), (.int 0)] below meth c s₁ [] 0 0 := Stand.of_body Bd
 have e0 : s₁.heap = h0 := by rw [← hh, Bd.state]; rfl
 have N0 := Fr.nil n0
 show Ends _ _ _ _ s₁ (entryFrame m #[(.ref b745), (.int 0)] 2) (mkR 3 0 0 41).cells (mkR 3 0 0 41).slots (fun v h L => v = some (.int c0_) ∧ Fr n0 L ∧ Keep h0 h [])
 refine Ends.go (fun _ k => castTop (ef28_ri m b745 (0 : Int32)) k) ?_
 obtain ⟨SCS, P5, SSF, RG3, HC1, HC2, HCW⟩ := id GF
 have K0 := Keep.refl h0 []
 show Ends _ _ _ _ s₁ (mkF m 0 #[cr b745, ci 0] []) _ _ _
 refine walN X0 hx hby d28_0 rfl rfl ?_
 obtain ⟨cq754, kq754, q754a, q754b, q754c⟩ := isOf hZ e0 PE_b745
 obtain ⟨_, _, ⟨T754, L754, k754, n754⟩, -, X754, ⟨Lc754, hQ754, l754, y754, z754⟩, st754⟩ := X0.virtualBack hx (y := ym9) (z := ym9) hown (ov hZ hw 43 rfl) (ov hZ hw 44 rfl) (notFace_of_selects (args := #[]) (ov hZ hw 46 rfl)) (ov hZ hw 46 rfl) (ov hZ hw 45 rfl) (by decide) (own_backOf (W := 0) (rx9_8 l Z a0 hw [] n0 h0 O0 G1 G3 GF b745 PF_b745_coder) hZ (ow hw 47 rfl) (ow hw 10 rfl) (by decide) (by decide)) q754a q754c (g := (mkF m 1 #[cr b745, ci 0] [(.ref b745)])) rfl (by rw [hml]; rfl) (Steps.refl _) (argsL := []) (rest := []) (lenOf pdx_2 rfl) rfl (own_w rfl) (hb hby d28_1) (fun _ _ => ⟨rfl, e0, (by decide : 0 + 0 ≤ _), (by decide : 0 + 0 ≤ _)⟩)
 dsimp only [Pt.U, Pt.locs, Pt.cells, Pt.slots] at X754 l754 y754 z754 st754 hQ754
 subst l754 y754 z754
 obtain ⟨rfl, N754q, K754c⟩ := hQ754
 have N754 := Fr.app N0 N754q
 refine Ends.go (fun _ k => st754.trans k) ?_
 obtain ⟨h754, e754⟩ : ∃ z, T754.heap = z := ⟨_, rfl⟩
 rw [e754] at K754c
 have K754 := K0.trans K754c all0
 have O754 := O0.keep K754c all0
 refine win X754 hx hby d28_4 ((if0 _ _).trans (feq (by decide : ¬ ((1 : Int32) = (0 : Int32)))).1) ?_
 refine walN X754 hx hby d28_7 rfl rfl ?_
 obtain ⟨T755, X755, e755, st755⟩ := getF X754 hx hZ hown (host := "") (Or.inl (ow hw 27 rfl)) Via.refl e754 (PF_b745_value.keep K754c nin0) (g := (mkF m 8 #[cr b745, ci 0] [(.ref b745)])) rfl rfl (hb hby d28_8)
 refine Ends.go st755 ?_
 refine wilN X755 hx hby d28_11 rfl ?_
 obtain ⟨_, _, ⟨T760, L760, k760, n760⟩, -, X760, ⟨Lc760, hQ760, l760, y760, z760⟩, st760⟩ := Jvm.LawKit.callS X755 hx (y := ym28) hown (ov hZ hw 128 rfl) (ov hZ hw 129 rfl) (ov hZ hw 61 rfl) (ov hZ hw 130 rfl) (by decide) (own_backOf (W := 0) (rx29_756 l Z a0 hw [] n0 h754 O754 G1 G3 GF b746 k747 c0_ c1_ c2_ (PV_b746.keep K754c nin0) hc0_) hZ (ow hw 130 rfl) (ow hw 61 rfl) (by decide) (by decide)) (g := (mkF m 12 #[cr b745, ci 0] [(.int 0), (.ref b746)])) rfl (by rw [hml]; rfl) (argsL := [(.ref b746), (.int 0)]) (rest := []) (lenOf pdx_21 rfl) rfl (own_w rfl) (hb hby d28_12) (fun _ _ => ⟨rfl, e755, (by decide : 0 + 0 ≤ _), (by decide : 0 + 0 ≤ _)⟩)
 dsimp only [Pt.U, Pt.locs, Pt.cells, Pt.slots] at X760 l760 y760 z760 st760 hQ760
 subst l760 y760 z760
 obtain ⟨rfl, N760q, K760c⟩ := hQ760
 have N760 := Fr.app N754 N760q
 refine Ends.go st760 ?_
 obtain ⟨h760, e760⟩ : ∃ z, T760.heap = z := ⟨_, rfl⟩
 rw [e760] at K760c
 have K760 := K754.trans K760c all0
 refine Ends.retZ X760 hx Bd.notSynchronized (t := .char) Bd.returns (by simp) (hb hby d28_15) (by decide) (by decide) ?_
 rw [e760]
 exact ⟨(congrArg (fun z => some (Value.int z)) (own_narc hc0_)), N760, K760⟩

theorem rx29_766 (l : Launch) (Z : State) (a0 : Array Value) (hw : HW a0 Z) (ws : List Jvm.Cond) (n0 : Nat) (h0 : Heap) (O0 : Old Z n0 h0) (G1 : Int32) (G3 : Value) (GF : GlobF Z a0 G1 G3) (b746 : Addr) (k747 : ClassId) (c0_ : Int32) (c1_ : Int32) (c2_ : Int32) (PV_b746 : Arv Z h0 b746 k747 .byte (3 : Int32) [(yb c0_), (yb c1_), (yb c2_)] (.int 0)) (hc1_ : 0 ≤ c1_.toInt ∧ c1_.toInt < 256) :
  Meets1 l ym28 jdk_43_method_2_code 2 (some .char) ws (mkR 2 0 0 28) #[(.ref b746), (.int 1)] Z h0 (fun v h L => v = some (.int c1_) ∧ Fr n0 L ∧ Keep h0 h []) := by
 refine MetFree.of_bodySF (plainFor_of_name pn29) hisR ?_
 intro p e s m args below meth c s₁ Bd hml0 hP hK
 obtain ⟨rfl, hZ, hh⟩ := hP
 have hx := Bd.exec
 have hby := Bd.bytes
 have hml : c.maxLocals = 2 := hml0
 have hown : s.vm.findClass "java/lang/StringLatin1" = some m.cls := findClass_of_methodNamed Bd.named
 have X0 : Stand p l e (mkR 2 0 0 28) s m #[(.ref b746), (.int 1)] below meth c s₁ [] 0 0 := Stand.of_body Bd
 have e0 : s₁.heap = h0 := by rw [← hh, Bd.state]; rfl
 have N0 := Fr.nil n0
 show Ends _ _ _ _ s₁ (entryFrame m #[(.ref b746), (.int 1)] 2) (mkR 2 0 0 28).cells (mkR 2 0 0 28).slots (fun v h L => v = some (.int c1_) ∧ Fr n0 L ∧ Keep h0 h [])
 refine Ends.go (fun _ k => castTop (ef29_ri m b746 (1 : Int32)) k) ?_
 obtain ⟨SCS, P5, SSF, RG3, HC1, HC2, HCW⟩ := id GF
 have K0 := Keep.refl h0 []
 show Ends _ _ _ _ s₁ (mkF m 0 #[cr b746, ci 1] []) _ _ _
 refine wilN X0 hx hby d29_0 rfl ?_
 refine walN X0 hx hby d29_1 rfl rfl ?_
 obtain ⟨cl767, Ar767, q767, S767, M767, H767, G767⟩ := id PV_b746
 refine Ends.go (X0.arraylength hx (by rw [e0]; exact Ar767.1) (State.isArrayOf_alike hZ.alike Ar767.2.1) (g := (mkF m 2 #[cr b746, ci 1] [(.ref b746), (.int 1)])) rfl rfl (hb hby d29_2)) ?_
 rw [len_of S767 M767]
 obtain ⟨_, _, ⟨T768, L768, k768, n768⟩, -, X768, ⟨Lc768, hQ768, l768, y768, z768⟩, st768⟩ := Jvm.LawKit.callS X0 hx (y := ym2) hown (ov hZ hw 131 rfl) (ov hZ hw 132 rfl) (ov hZ hw 10 rfl) (ov hZ hw 133 rfl) (by decide) (own_backOf (W := 0) (rm_checkIndex l Z a0 hw [] n0 h0 O0 (1 : Int32) (3 : Int32) G1 G3 GF (by decide) (by decide)) hZ (ow hw 133 rfl) (ow hw 10 rfl) (by decide) (by decide)) (g := (mkF m 3 #[cr b746, ci 1] [(.int 3), (.int 1)])) rfl (by rw [hml]; rfl) (argsL := [(.int 1), (.int 3)]) (rest := []) (lenOf pdx_18 rfl) rfl (own_w rfl) (hb hby d29_3) (fun _ _ => ⟨rfl, e0, (by decide : 0 + 0 ≤ _), (by decide : 0 + 0 ≤ _)⟩)
 dsimp only [Pt.U, Pt.locs, Pt.cells, Pt.slots] at X768 l768 y768 z768 st768 hQ768
 subst l768 y768 z768
 obtain ⟨rfl, N768q, e768q⟩ := hQ768
 have N768 := Fr.app N0 N768q
 refine Ends.go st768 ?_
 refine walN X768 hx hby d29_6 rfl rfl ?_
 refine wilN X768 hx hby d29_7 rfl ?_
 obtain ⟨cl769, Ar769, q769, S769, M769, H769, G769⟩ := id PV_b746
 have hin769 := inb_of (j := (1 : Int32)) S769 ⟨by decide, by decide⟩
 refine Ends.go (X768.baloadBytes hx (j := (1 : Int32)) (v := (yb c1_)) (by rw [e768q]; exact Ar769.1) (State.isArrayOf_alike hZ.alike Ar769.2.1) Ar769.2.2 hin769 (H769.at hin769 rfl) (g := (mkF m 8 #[cr b746, ci 1] [(.int 1), (.ref b746)])) rfl rfl (hb hby d29_8)) ?_
 refine wsp X768 hx hby d29_9 ?_
 refine wan X768 hx hby d29_12 ?_
 refine .go (fun _ => XS.i2c X768.here hx rfl (hb hby d29_13) rfl) ?_
 refine Ends.retZ X768 hx Bd.notSynchronized (t := .char) Bd.returns (by simp) (hb hby d29_14) (by decide) (by decide) ?_
 rw [e768q]
 exact ⟨(congrArg (fun z => some (Value.int z)) (own_l1 hc1_)), N768, K0⟩

theorem rx28_763 (l : Launch) (Z : State) (a0 : Array Value) (hw : HW a0 Z) (ws : List Jvm.Cond) (n0 : Nat) (h0 : Heap) (O0 : Old Z n0 h0) (G1 : Int32) (G3 : Value) (GF : GlobF Z a0 G1 G3) (b745 : Addr) (b746 : Addr) (k747 : ClassId) (c0_ : Int32) (c1_ : Int32) (c2_ : Int32) (PF_b745_coder : Fld Z h0 b745 cST "coder" "B" (.int 0)) (PE_b745 : Exa Z h0 b745 cST) (PF_b745_value : Fld Z h0 b745 cST "value" "[B" (.ref b746)) (PV_b746 : Arv Z h0 b746 k747 .byte (3 : Int32) [(yb c0_), (yb c1_), (yb c2_)] (.int 0)) (hc1_ : 0 ≤ c1_.toInt ∧ c1_.toInt < 256) :
  Meets1 l ym29 jdk_42_method_56_code 2 (some .char) ws (mkR 3 0 0 41) #[(.ref b745), (.int 1)] Z h0 (fun v h L => v = some (.int c1_) ∧ Fr n0 L ∧ Keep h0 h []) := by
 refine MetFree.of_bodySF (plainFor_of_name pn28) hisR ?_
 intro p e s m args below meth c s₁ Bd hml0 hP hK
 obtain ⟨rfl, hZ, hh⟩ := hP
 have hx := Bd.exec
 have hby := Bd.bytes
 have hml : c.maxLocals = 2 := hml0
 have hown : s.vm.findClass "java/lang/String" = some m.cls := findClass_of_methodNamed Bd.named
 have X0 : Stand p l e (mkR 3 0 0 41) s m #[(.ref b745), (.int 1)] below meth c s₁ [] 0 0 := Stand.of_body Bd
 have e0 : s₁.heap = h0 := by rw [← hh, Bd.state]; rfl
 have N0 := Fr.nil n0
 show Ends _ _ _ _ s₁ (entryFrame m #[(.ref b745), (.int 1)] 2) (mkR 3 0 0 41).cells (mkR 3 0 0 41).slots (fun v h L => v = some (.int c1_) ∧ Fr n0 L ∧ Keep h0 h [])
 refine Ends.go (fun _ k => castTop (ef28_ri m b745 (1 : Int32)) k) ?_
 obtain ⟨SCS, P5, SSF, RG3, HC1, HC2, HCW⟩ := id GF
 have K0 := Keep.refl h0 []
 show Ends _ _ _ _ s₁ (mkF m 0 #[cr b745, ci 1] []) _ _ _
 refine walN X0 hx hby d28_0 rfl rfl ?_
 obtain ⟨cq764, kq764, q764a, q764b, q764c⟩ := isOf hZ e0 PE_b745
 obtain ⟨_, _, ⟨T764, L764, k764, n764⟩, -, X764, ⟨Lc764, hQ764, l764, y764, z764⟩, st764⟩ := X0.virtualBack hx (y := ym9) (z := ym9) hown (ov hZ hw 43 rfl) (ov hZ hw 44 rfl) (notFace_of_selects (args := #[]) (ov hZ hw 46 rfl)) (ov hZ hw 46 rfl) (ov hZ hw 45 rfl) (by decide) (own_backOf (W := 0) (rx9_8 l Z a0 hw [] n0 h0 O0 G1 G3 GF b745 PF_b745_coder) hZ (ow hw 47 rfl) (ow hw 10 rfl) (by decide) (by decide)) q764a q764c (g := (mkF m 1 #[cr b745, ci 1] [(.ref b745)])) rfl (by rw [hml]; rfl) (Steps.refl _) (argsL := []) (rest := []) (lenOf pdx_2 rfl) rfl (own_w rfl) (hb hby d28_1) (fun _ _ => ⟨rfl, e0, (by decide : 0 + 0 ≤ _), (by decide : 0 + 0 ≤ _)⟩)
 dsimp only [Pt.U, Pt.locs, Pt.cells, Pt.slots] at X764 l764 y764 z764 st764 hQ764
 subst l764 y764 z764
 obtain ⟨rfl, N764q, K764c⟩ := hQ764
 have N764 := Fr.app N0 N764q
 refine Ends.go (fun _ k => st764.trans k) ?_
 obtain ⟨h764, e764⟩ : ∃ z, T764.heap = z := ⟨_, rfl⟩
 rw [e764] at K764c
 have K764 := K0.trans K764c all0
 have O764 := O0.keep K764c all0
 refine win X764 hx hby d28_4 ((if0 _ _).trans (feq (by decide : ¬ ((1 : Int32) = (0 : Int32)))).1) ?_
 refine walN X764 hx hby d28_7 rfl rfl ?_
 obtain ⟨T765, X765, e765, st765⟩ := getF X764 hx hZ hown (host := "") (Or.inl (ow hw 27 rfl)) Via.refl e764 (PF_b745_value.keep K764c nin0) (g := (mkF m 8 #[cr b745, ci 1] [(.ref b745)])) rfl rfl (hb hby d28_8)
 refine Ends.go st765 ?_
 refine wilN X765 hx hby d28_11 rfl ?_
 obtain ⟨_, _, ⟨T770, L770, k770, n770⟩, -, X770, ⟨Lc770, hQ770, l770, y770, z770⟩, st770⟩ := Jvm.LawKit.callS X765 hx (y := ym28) hown (ov hZ hw 128 rfl) (ov hZ hw 129 rfl) (ov hZ hw 61 rfl) (ov hZ hw 130 rfl) (by decide) (own_backOf (W := 0) (rx29_766 l Z a0 hw [] n0 h764 O764 G1 G3 GF b746 k747 c0_ c1_ c2_ (PV_b746.keep K764c nin0) hc1_) hZ (ow hw 130 rfl) (ow hw 61 rfl) (by decide) (by decide)) (g := (mkF m 12 #[cr b745, ci 1] [(.int 1), (.ref b746)])) rfl (by rw [hml]; rfl) (argsL := [(.ref b746), (.int 1)]) (rest := []) (lenOf pdx_21 rfl) rfl (own_w rfl) (hb hby d28_12) (fun _ _ => ⟨rfl, e765, (by decide : 0 + 0 ≤ _), (by decide : 0 + 0 ≤ _)⟩)
 dsimp only [Pt.U, Pt.locs, Pt.cells, Pt.slots] at X770 l770 y770 z770 st770 hQ770
 subst l770 y770 z770
 obtain ⟨rfl, N770q, K770c⟩ := hQ770
 have N770 := Fr.app N764 N770q
 refine Ends.go st770 ?_
 obtain ⟨h770, e770⟩ : ∃ z, T770.heap = z := ⟨_, rfl⟩
 rw [e770] at K770c
 have K770 := K764.trans K770c all0
 refine Ends.retZ X770 hx Bd.notSynchronized (t := .char) Bd.returns (by simp) (hb hby d28_15) (by decide) (by decide) ?_
 rw [e770]
 exact ⟨(congrArg (fun z => some (Value.int z)) (own_narc hc1_)), N770, K770⟩

theorem rx29_776 (l : Launch) (Z : State) (a0 : Array Value) (hw : HW a0 Z) (ws : List Jvm.Cond) (n0 : Nat) (h0 : Heap) (O0 : Old Z n0 h0) (G1 : Int32) (G3 : Value) (GF : GlobF Z a0 G1 G3) (b746 : Addr) (k747 : ClassId) (c0_ : Int32) (c1_ : Int32) (c2_ : Int32) (PV_b746 : Arv Z h0 b746 k747 .byte (3 : Int32) [(yb c0_), (yb c1_), (yb c2_)] (.int 0)) (hc2_ : 0 ≤ c2_.toInt ∧ c2_.toInt < 256) :
  Meets1 l ym28 jdk_43_method_2_code 2 (some .char) ws (mkR 2 0 0 28) #[(.ref b746), (.int 2)] Z h0 (fun v h L => v = some (.int c2_) ∧ Fr n0 L ∧ Keep h0 h []) := by
 refine MetFree.of_bodySF (plainFor_of_name pn29) hisR ?_
 intro p e s m args below meth c s₁ Bd hml0 hP hK
 obtain ⟨rfl, hZ, hh⟩ := hP
 have hx := Bd.exec
 have hby := Bd.bytes
 have hml : c.maxLocals = 2 := hml0
 have hown : s.vm.findClass "java/lang/StringLatin1" = some m.cls := findClass_of_methodNamed Bd.named
 have X0 : Stand p l e (mkR 2 0 0 28) s m #[(.ref b746), (.int 2)] below meth c s₁ [] 0 0 := Stand.of_body Bd
 have e0 : s₁.heap = h0 := by rw [← hh, Bd.state]; rfl
 have N0 := Fr.nil n0
 show Ends _ _ _ _ s₁ (entryFrame m #[(.ref b746), (.int 2)] 2) (mkR 2 0 0 28).cells (mkR 2 0 0 28).slots (fun v h L => v = some (.int c2_) ∧ Fr n0 L ∧ Keep h0 h [])
 refine Ends.go (fun _ k => castTop (ef29_ri m b746 (2 : Int32)) k) ?_
 obtain ⟨SCS, P5, SSF, RG3, HC1, HC2, HCW⟩ := id GF
 have K0 := Keep.refl h0 []
 show Ends _ _ _ _ s₁ (mkF m 0 #[cr b746, ci 2] []) _ _ _
 refine wilN X0 hx hby d29_0 rfl ?_
 refine walN X0 hx hby d29_1 rfl rfl ?_
 obtain ⟨cl777, Ar777, q777, S777, M777, H777, G777⟩ := id PV_b746
 refine Ends.go (X0.arraylength hx (by rw [e0]; exact Ar777.1) (State.isArrayOf_alike hZ.alike Ar777.2.1) (g := (mkF m 2 #[cr b746, ci 2] [(.ref b746), (.int 2)])) rfl rfl (hb hby d29_2)) ?_
 rw [len_of S777 M777]
 obtain ⟨_, _, ⟨T778, L778, k778, n778⟩, -, X778, ⟨Lc778, hQ778, l778, y778, z778⟩, st778⟩ := Jvm.LawKit.callS X0 hx (y := ym2) hown (ov hZ hw 131 rfl) (ov hZ hw 132 rfl) (ov hZ hw 10 rfl) (ov hZ hw 133 rfl) (by decide) (own_backOf (W := 0) (rm_checkIndex l Z a0 hw [] n0 h0 O0 (2 : Int32) (3 : Int32) G1 G3 GF (by decide) (by decide)) hZ (ow hw 133 rfl) (ow hw 10 rfl) (by decide) (by decide)) (g := (mkF m 3 #[cr b746, ci 2] [(.int 3), (.int 2)])) rfl (by rw [hml]; rfl) (argsL := [(.int 2), (.int 3)]) (rest := []) (lenOf pdx_18 rfl) rfl (own_w rfl) (hb hby d29_3) (fun _ _ => ⟨rfl, e0, (by decide : 0 + 0 ≤ _), (by decide : 0 + 0 ≤ _)⟩)
 dsimp only [Pt.U, Pt.locs, Pt.cells, Pt.slots] at X778 l778 y778 z778 st778 hQ778
 subst l778 y778 z778
 obtain ⟨rfl, N778q, e778q⟩ := hQ778
 have N778 := Fr.app N0 N778q
 refine Ends.go st778 ?_
 refine walN X778 hx hby d29_6 rfl rfl ?_
 refine wilN X778 hx hby d29_7 rfl ?_
 obtain ⟨cl779, Ar779, q779, S779, M779, H779, G779⟩ := id PV_b746
 have hin779 := inb_of (j := (2 : Int32)) S779 ⟨by decide, by decide⟩
 refine Ends.go (X778.baloadBytes hx (j := (2 : Int32)) (v := (yb c2_)) (by rw [e778q]; exact Ar779.1) (State.isArrayOf_alike hZ.alike Ar779.2.1) Ar779.2.2 hin779 (H779.at hin779 rfl) (g := (mkF m 8 #[cr b746, ci 2] [(.int 2), (.ref b746)])) rfl rfl (hb hby d29_8)) ?_
 refine wsp X778 hx hby d29_9 ?_
 refine wan X778 hx hby d29_12 ?_
 refine .go (fun _ => XS.i2c X778.here hx rfl (hb hby d29_13) rfl) ?_
 refine Ends.retZ X778 hx Bd.notSynchronized (t := .char) Bd.returns (by simp) (hb hby d29_14) (by decide) (by decide) ?_
 rw [e778q]
 exact ⟨(congrArg (fun z => some (Value.int z)) (own_l1 hc2_)), N778, K0⟩

theorem rx28_773 (l : Launch) (Z : State) (a0 : Array Value) (hw : HW a0 Z) (ws : List Jvm.Cond) (n0 : Nat) (h0 : Heap) (O0 : Old Z n0 h0) (G1 : Int32) (G3 : Value) (GF : GlobF Z a0 G1 G3) (b745 : Addr) (b746 : Addr) (k747 : ClassId) (c0_ : Int32) (c1_ : Int32) (c2_ : Int32) (PF_b745_coder : Fld Z h0 b745 cST "coder" "B" (.int 0)) (PE_b745 : Exa Z h0 b745 cST) (PF_b745_value : Fld Z h0 b745 cST "value" "[B" (.ref b746)) (PV_b746 : Arv Z h0 b746 k747 .byte (3 : Int32) [(yb c0_), (yb c1_), (yb c2_)] (.int 0)) (hc2_ : 0 ≤ c2_.toInt ∧ c2_.toInt < 256) :
  Meets1 l ym29 jdk_42_method_56_code 2 (some .char) ws (mkR 3 0 0 41) #[(.ref b745), (.int 2)] Z h0 (fun v h L => v = some (.int c2_) ∧ Fr n0 L ∧ Keep h0 h []) := by
 refine MetFree.of_bodySF (plainFor_of_name pn28) hisR ?_
 intro p e s m args below meth c s₁ Bd hml0 hP hK
 obtain ⟨rfl, hZ, hh⟩ := hP
 have hx := Bd.exec
 have hby := Bd.bytes
 have hml : c.maxLocals = 2 := hml0
 have hown : s.vm.findClass "java/lang/String" = some m.cls := findClass_of_methodNamed Bd.named
 have X0 : Stand p l e (mkR 3 0 0 41) s m #[(.ref b745), (.int 2)] below meth c s₁ [] 0 0 := Stand.of_body Bd
 have e0 : s₁.heap = h0 := by rw [← hh, Bd.state]; rfl
 have N0 := Fr.nil n0
 show Ends _ _ _ _ s₁ (entryFrame m #[(.ref b745), (.int 2)] 2) (mkR 3 0 0 41).cells (mkR 3 0 0 41).slots (fun v h L => v = some (.int c2_) ∧ Fr n0 L ∧ Keep h0 h [])
 refine Ends.go (fun _ k => castTop (ef28_ri m b745 (2 : Int32)) k) ?_
 obtain ⟨SCS, P5, SSF, RG3, HC1, HC2, HCW⟩ := id GF
 have K0 := Keep.refl h0 []
 show Ends _ _ _ _ s₁ (mkF m 0 #[cr b745, ci 2] []) _ _ _
 refine walN X0 hx hby d28_0 rfl rfl ?_
 obtain ⟨cq774, kq774, q774a, q774b, q774c⟩ := isOf hZ e0 PE_b745
 obtain ⟨_, _, ⟨T774, L774, k774, n774⟩, -, X774, ⟨Lc774, hQ774, l774, y774, z774⟩, st774⟩ := X0.virtualBack hx (y := ym9) (z := ym9) hown (ov hZ hw 43 rfl) (ov hZ hw 44 rfl) (notFace_of_selects (args := #[]) (ov hZ hw 46 rfl)) (ov hZ hw 46 rfl) (ov hZ hw 45 rfl) (by decide) (own_backOf (W := 0) (rx9_8 l Z a0 hw [] n0 h0 O0 G1 G3 GF b745 PF_b745_coder) hZ (ow hw 47 rfl) (ow hw 10 rfl) (by decide) (by decide)) q774a q774c (g := (mkF m 1 #[cr b745, ci 2] [(.ref b745)])) rfl (by rw [hml]; rfl) (Steps.refl _) (argsL := []) (rest := []) (lenOf pdx_2 rfl) rfl (own_w rfl) (hb hby d28_1) (fun _ _ => ⟨rfl, e0, (by decide : 0 + 0 ≤ _), (by decide : 0 + 0 ≤ _)⟩)
 dsimp only [Pt.U, Pt.locs, Pt.cells, Pt.slots] at X774 l774 y774 z774 st774 hQ774
 subst l774 y774 z774
 obtain ⟨rfl, N774q, K774c⟩ := hQ774
 have N774 := Fr.app N0 N774q
 refine Ends.go (fun _ k => st774.trans k) ?_
 obtain ⟨h774, e774⟩ : ∃ z, T774.heap = z := ⟨_, rfl⟩
 rw [e774] at K774c
 have K774 := K0.trans K774c all0
 have O774 := O0.keep K774c all0
 refine win X774 hx hby d28_4 ((if0 _ _).trans (feq (by decide : ¬ ((1 : Int32) = (0 : Int32)))).1) ?_
 refine walN X774 hx hby d28_7 rfl rfl ?_
 obtain ⟨T775, X775, e775, st775⟩ := getF X774 hx hZ hown (host := "") (Or.inl (ow hw 27 rfl)) Via.refl e774 (PF_b745_value.keep K774c nin0) (g := (mkF m 8 #[cr b745, ci 2] [(.ref b745)])) rfl rfl (hb hby d28_8)
 refine Ends.go st775 ?_
 refine wilN X775 hx hby d28_11 rfl ?_
 obtain ⟨_, _, ⟨T780, L780, k780, n780⟩, -, X780, ⟨Lc780, hQ780, l780, y780, z780⟩, st780⟩ := Jvm.LawKit.callS X775 hx (y := ym28) hown (ov hZ hw 128 rfl) (ov hZ hw 129 rfl) (ov hZ hw 61 rfl) (ov hZ hw 130 rfl) (by decide) (own_backOf (W := 0) (rx29_776 l Z a0 hw [] n0 h774 O774 G1 G3 GF b746 k747 c0_ c1_ c2_ (PV_b746.keep K774c nin0) hc2_) hZ (ow hw 130 rfl) (ow hw 61 rfl) (by decide) (by decide)) (g := (mkF m 12 #[cr b745, ci 2] [(.int 2), (.ref b746)])) rfl (by rw [hml]; rfl) (argsL := [(.ref b746), (.int 2)]) (rest := []) (lenOf pdx_21 rfl) rfl (own_w rfl) (hb hby d28_12) (fun _ _ => ⟨rfl, e775, (by decide : 0 + 0 ≤ _), (by decide : 0 + 0 ≤ _)⟩)
 dsimp only [Pt.U, Pt.locs, Pt.cells, Pt.slots] at X780 l780 y780 z780 st780 hQ780
 subst l780 y780 z780
 obtain ⟨rfl, N780q, K780c⟩ := hQ780
 have N780 := Fr.app N774 N780q
 refine Ends.go st780 ?_
 obtain ⟨h780, e780⟩ : ∃ z, T780.heap = z := ⟨_, rfl⟩
 rw [e780] at K780c
 have K780 := K774.trans K780c all0
 refine Ends.retZ X780 hx Bd.notSynchronized (t := .char) Bd.returns (by simp) (hb hby d28_15) (by decide) (by decide) ?_
 rw [e780]
 exact ⟨(congrArg (fun z => some (Value.int z)) (own_narc hc2_)), N780, K780⟩

theorem rx6_789 (l : Launch) (Z : State) (a0 : Array Value) (hw : HW a0 Z) (ws : List Jvm.Cond) (n0 : Nat) (h0 : Heap) (O0 : Old Z n0 h0) (G1 : Int32) (G3 : Value) (GF : GlobF Z a0 G1 G3) (b784 : Addr) (b786 : Addr) (k788 : ClassId) (c0_ : Int32) (c1_ : Int32) (c2_ : Int32) (c3_ : Int32) (PF_b784_value : Fld Z h0 b784 cST "value" "[B" (.ref b786)) (PE_b784 : Exa Z h0 b784 cST) (PF_b784_coder : Fld Z h0 b784 cST "coder" "B" (.int 0)) (PV_b786 : Arv Z h0 b786 k788 .byte (4 : Int32) [(yb c0_), (yb c1_), (yb c2_), (yb c3_)] (.int 0)) (hq0_ : ¬ (c0_ = (46 : Int32))) (hq1_ : ¬ (c1_ = (46 : Int32))) (hq2_ : ¬ (c2_ = (46 : Int32))) (hq3_ : ¬ (c3_ = (46 : Int32))) (hc0_ : 0 ≤ c0_.toInt ∧ c0_.toInt < 256) (hc1_ : 0 ≤ c1_.toInt ∧ c1_.toInt < 256) (hc2_ : 0 ≤ c2_.toInt ∧ c2_.toInt < 256) (hc3_ : 0 ≤ c3_.toInt ∧ c3_.toInt < 256) :
  Meets1 l ym18 prog_33_method_5_code 2 (some (.object cST)) ws (mkR 5 0 0 93) #[(.ref b784)] Z h0 (fun v h L => v = some .null ∧ Fr n0 L ∧ Keep h0 h []) := by
 refine MetFree.of_bodySF (plainFor_of_name pn6) hisR ?_
 intro p e s m args below meth c s₁ Bd hml0 hP hK
 obtain ⟨rfl, hZ, hh⟩ := hP
 have hx := Bd.exec
 have hby := Bd.bytes
 have hml : c.maxLocals = 2 := hml0
 have hown : s.vm.findClass "com/example/wakeline/wakeline/format/shareplex/SharePlexMessage" = some m.cls := findClass_of_methodNamed Bd.named
 have X0 : Stand p l e (mkR 5 0 0 93) s m #[(.ref b784)] below meth c s₁ [] 0 0 := Stand.of_body Bd
 have e0 : s₁.heap = h0 := by rw [← hh, Bd.state]; rfl
 have N0 := Fr.nil n0
 show Ends _ _ _ _ s₁ (entryFrame m #[(.ref b784)] 2) (mkR 5 0 0 93).cells (mkR 5 0 0 93).slots (fun v h L => v = some .null ∧ Fr n0 L ∧ Keep h0 h [])
 refine Ends.go (fun _ k => castTop (ef6_r m b784) k) ?_
 obtain ⟨SCS, P5, SSF, RG3, HC1, HC2, HCW⟩ := id GF
 have K0 := Keep.refl h0 []
 show Ends _ _ _ _ s₁ (mkF m 0 #[cr b784, cu] []) _ _ _
 refine walN X0 hx hby d6_0 rfl rfl ?_
 refine .go (fun _ => XS.ifnonnullYes X0.here hx rfl (pc0 := 1) (pc' := 8) rfl (hb hby d6_1) rfl (by decide) (by decide)) ?_
 refine walN X0 hx hby d6_8 rfl rfl ?_
 refine wbp X0 hx hby d6_9 ?_
 obtain ⟨cq790, kq790, q790a, q790b, q790c⟩ := isOf hZ e0 PE_b784
 obtain ⟨_, _, ⟨T790, L790, k790, n790⟩, -, X790, ⟨Lc790, hQ790, l790, y790, z790⟩, st790⟩ := X0.virtualBack hx (y := ym13) (z := ym13) hown (ov hZ hw 33 rfl) (ov hZ hw 34 rfl) (notFace_of_selects (args := #[]) (ov hZ hw 36 rfl)) (ov hZ hw 36 rfl) (ov hZ hw 35 rfl) (by decide) (own_backOf (W := 0) (rmI7_4 l Z a0 hw [] n0 h0 O0 G1 G3 GF b784 b786 k788 c0_ c1_ c2_ c3_ PE_b784 PF_b784_value PF_b784_coder PV_b786) hZ (ow hw 37 rfl) (ow hw 10 rfl) (by decide) (by decide)) q790a q790c (g := (mkF m 11 #[cr b784, cu] [(.int 46), (.ref b784)])) rfl (by rw [hml]; rfl) (Steps.refl _) (argsL := [(.int 46)]) (rest := []) (lenOf pdx_10 rfl) rfl (own_w rfl) (hb hby d6_11) (fun _ _ => ⟨rfl, e0, (by decide : 0 + 0 ≤ _), (by decide : 0 + 0 ≤ _)⟩)
 dsimp only [Pt.U, Pt.locs, Pt.cells, Pt.slots] at X790 l790 y790 z790 st790 hQ790
 subst l790 y790 z790
 obtain ⟨r790, rfl, N790q, K790c, hr790⟩ := hQ790
 have N790 := Fr.app N0 N790q
 refine Ends.go (fun _ k => st790.trans k) ?_
 obtain ⟨h790, e790⟩ : ∃ z, T790.heap = z := ⟨_, rfl⟩
 rw [e790] at K790c
 have K790 := K0.trans K790c all0
 obtain rfl : r790 = -1 := hr790.elim (fun z => absurd z.2 (fun q => hq0_ ((own_b46 hc0_).mp q))) (fun o1 => o1.elim (fun z => absurd z.2.2 (fun q => hq1_ ((own_b46 hc1_).mp q))) (fun o2 => o2.elim (fun z => absurd z.2.2.2 (fun q => hq2_ ((own_b46 hc2_).mp q))) (fun o3 => o3.elim (fun z => absurd z.2.2.2.2 (fun q => hq3_ ((own_b46 hc3_).mp q))) (fun z => z.1))))
 refine wstN X790 hx hby d6_14 (l' := #[cr b784, ci (-1)]) rfl ?_
 refine wilN X790 hx hby d6_15 rfl ?_
 refine win X790 hx hby d6_16 ((if0 _ _).trans (tlt (by decide : (-1 : Int32) < (0 : Int32))).2.1) ?_
 refine .go (fun _ => XS.aconstNull X790.here hx rfl (hb hby d6_19)) ?_
 refine wgo (pc := 20) (pc' := 29) X790 hx hby d6_20 ?_
 refine Ends.ret X790 hx Bd.notSynchronized (t := (.object cST)) Bd.returns rfl (Or.inr (Or.inr (Or.inr (Or.inr ⟨rfl, rfl, rfl⟩)))) (hb hby d6_29) (by decide) (by decide) ?_
 rw [e790]
 exact ⟨rfl, N790, K790⟩

theorem d6_4 : decode prog_33_method_5_code 4 = .ok (.iconst (-1), 1) := by decide +kernel
theorem d6_5 : decode prog_33_method_5_code 5 = .ok (.goto 9, 3) := by decide +kernel
theorem ef6_n (m : MethodId)  : entryFrame m #[.null] 2 = mkF m 0 #[.val .null, .unset] [] := by first | (simp [entryFrame, mkF, argsToLocals, Value.category]; done) | rfl
theorem rx6_805 (l : Launch) (Z : State) (a0 : Array Value) (hw : HW a0 Z) (ws : List Jvm.Cond) (n0 : Nat) (h0 : Heap) (O0 : Old Z n0 h0)    :
  Meets1 l ym18 prog_33_method_5_code 2 (some (.object cST)) ws (mkR 0 0 0 0) #[.null] Z h0 (fun v h L => v = some .null ∧ Fr n0 L ∧ Keep h0 h []) := by
 refine MetFree.of_bodySF (plainFor_of_name pn6) hisR ?_
 intro p e s m args below meth c s₁ Bd hml0 hP hK
 obtain ⟨rfl, hZ, hh⟩ := hP
 have hx := Bd.exec
 have hby := Bd.bytes
 have X0 : Stand p l e (mkR 0 0 0 0) s m #[.null] below meth c s₁ [] 0 0 := Stand.of_body Bd
 have e0 : s₁.heap = h0 := by rw [← hh, Bd.state]; rfl
 have N0 := Fr.nil n0
 show Ends _ _ _ _ s₁ (entryFrame m #[.null] 2) (mkR 0 0 0 0).cells (mkR 0 0 0 0).slots (fun v h L => v = some .null ∧ Fr n0 L ∧ Keep h0 h [])
 refine Ends.go (fun _ k => castTop (ef6_n m) k) ?_
 have K0 := Keep.refl h0 []
 show Ends _ _ _ _ s₁ (mkF m 0 #[.val .null, cu] []) _ _ _
 refine walN X0 hx hby d6_0 rfl rfl ?_
 refine .go (fun _ => XS.ifnonnullNo X0.here hx rfl (hb hby d6_1) rfl) ?_
 refine wic X0 hx hby d6_4 ?_
 refine wgo (pc := 5) (pc' := 14) X0 hx hby d6_5 ?_
 refine wstN X0 hx hby d6_14 (l' := #[.val .null, ci (-1)]) rfl ?_
 refine wilN X0 hx hby d6_15 rfl ?_
 refine win X0 hx hby d6_16 ((if0 _ _).trans (tlt (by decide : (-1 : Int32) < (0 : Int32))).2.1) ?_
 refine .go (fun _ => XS.aconstNull X0.here hx rfl (hb hby d6_19)) ?_
 refine wgo (pc := 20) (pc' := 29) X0 hx hby d6_20 ?_
 refine Ends.ret X0 hx Bd.notSynchronized (t := (.object cST)) Bd.returns rfl (Or.inr (Or.inr (Or.inr (Or.inr ⟨rfl, rfl, rfl⟩)))) (hb hby d6_29) (by decide) (by decide) ?_
 rw [e0]
 exact ⟨rfl, N0, K0⟩
theorem pn0 : plainName "com/example/wakeline/wakeline/format/shareplex/SharePlexMessageDatabasePinLaw" = true := by first | (simp [plainName, overriddenIn]; done) | decide +kernel
theorem ef0_iiiii (m : MethodId) (x0 : Int32) (x1 : Int32) (x2 : Int32) (x3 : Int32) (x4 : Int32) : entryFrame m #[(.int x0), (.int x1), (.int x2), (.int x3), (.int x4)] maxLocals = mkF m 0 #[.val (.int x0), .val (.int x1), .val (.int x2), .val (.int x3), .val (.int x4), .unset, .unset, .unset, .unset, .unset, .unset] [] := by first | (simp [entryFrame, mkF, argsToLocals, Value.category, maxLocals]; done) | rfl
theorem rm0 (l : Launch) (Z : State) (a0 : Array Value) (hw : HW a0 Z) (ws : List Jvm.Cond) (n0 : Nat) (h0 : Heap) (O0 : Old Z n0 h0) (p0 : Int32) (p1 : Int32) (p2 : Int32) (p3 : Int32) (p4 : Int32) (G1 : Int32) (G3 : Value) (GF : GlobF Z a0 G1 G3) :
  Meets1W l x code maxLocals ret ws room_1 #[(.int p0), (.int p1), (.int p2), (.int p3), (.int p4)] Z h0 true (fun v h L => v = some (.int 1) ∧ Fr n0 L) := by
 refine MetFree.of_bodySF (plainFor_of_name pn0) hisR ?_
 intro p e s m args below meth c s₁ Bd hml0 hP hK
 obtain ⟨rfl, hZ, hh, hI⟩ := hP
 have hx := Bd.exec
 have hby := Bd.bytes
 have hml : c.maxLocals = 11 := hml0
 have hown : s.vm.findClass "com/example/wakeline/wakeline/format/shareplex/SharePlexMessageDatabasePinLaw" = some m.cls := findClass_of_methodNamed Bd.named
 have X0 : Stand p l e room_1 s m #[(.int p0), (.int p1), (.int p2), (.int p3), (.int p4)] below meth c s₁ [] 0 0 := Stand.of_body Bd
 have e0 : s₁.heap = h0 := by rw [← hh, Bd.state]; rfl
 have N0 := Fr.nil n0
 have hS0 := own_since0 s
 have hk0 : s.heap.size ≤ h0.size := Nat.le_of_eq (congrArg Array.size hh)
 show EndsW _ _ _ _ s₁ (entryFrame m #[(.int p0), (.int p1), (.int p2), (.int p3), (.int p4)] maxLocals) room_1.cells room_1.slots (fun v h L => v = some (.int 1) ∧ Fr n0 L)
 refine EndsW.go (fun _ k => castTop (ef0_iiiii m p0 p1 p2 p3 p4) k) ?_
 obtain ⟨SCS, P5, SSF, RG3, HC1, HC2, HCW⟩ := id GF
 refine wilW X0 hx hby at_0 rfl ?_
 refine wbpW X0 hx hby at_2 ?_
 refine wanW X0 hx hby at_4 ?_
 refine wicW X0 hx hby at_5 ?_
 refine .go (fun _ => iremM X0 hx rfl (hb hby at_6) rfl (by decide)) ?_
 show EndsW _ _ _ _ s₁ (mkF m 7 #[ci p0, ci p1, ci p2, ci p3, ci p4, cu, cu, cu, cu, cu, cu] [(.int ((p4 &&& (7 : Int32)) % (5 : Int32)))]) _ _ _
 generalize hng : ((p4 &&& (7 : Int32)) % (5 : Int32)) = n_
 have hn := own_n5 p4 n_ hng
 show EndsW _ _ _ _ s₁ (mkF m 7 #[ci p0, ci p1, ci p2, ci p3, ci p4, cu, cu, cu, cu, cu, cu] [(.int n_)]) _ _ _
 refine wstW X0 hx hby at_7 (l' := #[ci p0, ci p1, ci p2, ci p3, ci p4, ci n_, cu, cu, cu, cu, cu]) rfl ?_
 refine wilW X0 hx hby at_9 rfl ?_
 refine wbpW X0 hx hby at_11 ?_
 refine wanW X0 hx hby at_13 ?_
 by_cases hc14_103 : (p4 &&& (8 : Int32)) = (0 : Int32)
 ·refine wiyW (pc := 14) (pc' := 21) X0 hx hby at_14 ((if0 _ _).trans (teq hc14_103).1) ?_
  refine wicW X0 hx hby at_21 ?_
  refine wstW X0 hx hby at_22 (l' := #[ci p0, ci p1, ci p2, ci p3, ci p4, ci n_, ci 0, cu, cu, cu, cu]) rfl ?_
  refine wicW X0 hx hby at_24 ?_
  obtain ⟨T104, h104, k104, X104, e104, E104, A104, st104⟩ := newP X0 hx hZ (ow hw 0 rfl) e0 (g := (mkF m 25 #[ci p0, ci p1, ci p2, ci p3, ci p4, ci n_, ci 0, cu, cu, cu, cu] [(.int 4)])) rfl (hb hby at_25) rfl (by decide) (cap := 4) (by decide) (by decide) (by decide) (by decide)
  obtain ⟨b104, g104⟩ : ∃ z, z = h0.size := ⟨_, rfl⟩
  rw [← g104] at A104 st104
  refine EndsW.go st104 ?_
  have g_b104 : n0 ≤ b104 := Nat.le_trans (own_old_le O0) (Nat.le_of_eq g104.symm)
  have O104 := O0.ext E104
  have V_b104 : Arv Z h104 b104 k104 .char (4 : Int32) [(.int 0), (.int 0), (.int 0), (.int 0)] (.int 0) := (Arv.new A104 (by decide)).pad (pad_rep [] (.int 0) 4)
  refine wasW X104 hx hby at_27 (l' := #[ci p0, ci p1, ci p2, ci p3, ci p4, ci n_, ci 0, cr b104, cu, cu, cu]) rfl rfl ?_
  refine walW X104 hx hby at_29 rfl rfl ?_
  refine wicW X104 hx hby at_31 ?_
  refine wilNW X104 hx hby at_32 rfl ?_
  obtain ⟨_, _, ⟨T105, L105, k105, n105⟩, -, X105, ⟨Lc105, hQ105, l105, y105, z105⟩, st105⟩ := Jvm.LawKit.callS X104 hx (y := ym0) hown (ov hZ hw 1 rfl) (ov hZ hw 2 rfl) (ov hZ hw 3 rfl) (ov hZ hw 4 rfl) (by decide) (own_backOf (W := 2) (rmP l Z a0 hw [] n0 h104 O104 p0) hZ (ow hw 4 rfl) (ow hw 3 rfl) (by decide) (by decide)) (g := (mkF m 33 #[ci p0, ci p1, ci p2, ci p3, ci p4, ci n_, ci 0, cr b104, cu, cu, cu] [(.int p0), (.int 0), (.ref b104)])) rfl (by rw [hml]; rfl) (argsL := [(.int p0)]) (rest := [(.int 0), (.ref b104)]) (lenOf pdx_6 rfl) rfl (own_w rfl) (hb hby at_33) (fun _ _ => ⟨rfl, e104, (by decide : 1 + 0 ≤ _), (by decide : 4 + 0 ≤ _)⟩)
  dsimp only [Pt.U, Pt.locs, Pt.cells, Pt.slots] at X105 l105 y105 z105 st105 hQ105
  subst l105 y105 z105
  obtain ⟨c0_, rfl, N105q, e105q, hr105⟩ := hQ105
  have N105 := Fr.app N0 N105q
  refine EndsW.go st105 ?_
  have hc0_ := hr105
  obtain ⟨cl106, Ar106, q106, S106, M106, H106, G106⟩ := id V_b104
  have hin106 := inb_of (j := (0 : Int32)) S106 ⟨by decide, by decide⟩
  obtain ⟨T106, h106, X106, e106, W106, st106⟩ := stC X105 hx hZ e105q Ar106 (j := (0 : Int32)) hin106 (g := (mkF m 36 #[ci p0, ci p1, ci p2, ci p3, ci p4, ci n_, ci 0, cr b104, cu, cu, cu] [(.int c0_), (.int 0), (.ref b104)])) rfl rfl (hb hby at_36)
  refine EndsW.go st106 ?_
  have V106 : Arv Z h106 b104 k104 .char (4 : Int32) [(.int (nar .char c0_)), (.int 0), (.int 0), (.int 0)] (.int 0) := Arv.set Ar106 q106 S106 M106 H106 G106 (fits_nar_char _) W106 0 rfl (Nat.le_of_ble_eq_true rfl)
  rw [own_narc hc0_] at V106
  have O106 := O104.wr W106 g_b104
  have N106 := Fr.snoc X106 N105 g_b104
  refine walW X106 hx hby at_37 rfl rfl ?_
  refine wicW X106 hx hby at_39 ?_
  refine wilNW X106 hx hby at_40 rfl ?_
  obtain ⟨_, _, ⟨T107, L107, k107, n107⟩, -, X107, ⟨Lc107, hQ107, l107, y107, z107⟩, st107⟩ := Jvm.LawKit.callS X106 hx (y := ym0) hown (ov hZ hw 1 rfl) (ov hZ hw 2 rfl) (ov hZ hw 3 rfl) (ov hZ hw 4 rfl) (by decide) (own_backOf (W := 2) (rmP l Z a0 hw [] n0 h106 O106 p1) hZ (ow hw 4 rfl) (ow hw 3 rfl) (by decide) (by decide)) (g := (mkF m 41 #[ci p0, ci p1, ci p2, ci p3, ci p4, ci n_, ci 0, cr b104, cu, cu, cu] [(.int p1), (.int 1), (.ref b104)])) rfl (by rw [hml]; rfl) (argsL := [(.int p1)]) (rest := [(.int 1), (.ref b104)]) (lenOf pdx_6 rfl) rfl (own_w rfl) (hb hby at_41) (fun _ _ => ⟨rfl, e106, (by decide : 1 + 0 ≤ _), (by decide : 4 + 0 ≤ _)⟩)
  dsimp only [Pt.U, Pt.locs, Pt.cells, Pt.slots] at X107 l107 y107 z107 st107 hQ107
  subst l107 y107 z107
  obtain ⟨c1_, rfl, N107q, e107q, hr107⟩ := hQ107
  have N107 := Fr.app N106 N107q
  refine EndsW.go st107 ?_
  have hc1_ := hr107
  obtain ⟨cl108, Ar108, q108, S108, M108, H108, G108⟩ := id V106
  have hin108 := inb_of (j := (1 : Int32)) S108 ⟨by decide, by decide⟩
  obtain ⟨T108, h108, X108, e108, W108, st108⟩ := stC X107 hx hZ e107q Ar108 (j := (1 : Int32)) hin108 (g := (mkF m 44 #[ci p0, ci p1, ci p2, ci p3, ci p4, ci n_, ci 0, cr b104, cu, cu, cu] [(.int c1_), (.int 1), (.ref b104)])) rfl rfl (hb hby at_44)
  refine EndsW.go st108 ?_
  have V108 : Arv Z h108 b104 k104 .char (4 : Int32) [(.int c0_), (.int (nar .char c1_)), (.int 0), (.int 0)] (.int 0) := Arv.set Ar108 q108 S108 M108 H108 G108 (fits_nar_char _) W108 1 rfl (Nat.le_of_ble_eq_true rfl)
  rw [own_narc hc1_] at V108
  have O108 := O106.wr W108 g_b104
  have N108 := Fr.snoc X108 N107 g_b104
  refine walW X108 hx hby at_45 rfl rfl ?_
  refine wicW X108 hx hby at_47 ?_
  show EndsW _ _ _ _ T108 (mkF m 48 #[ci p0, ci p1, ci p2, ci p3, ci p4, ci n_, ci 0, cr b104, cu, cu, cu] [(.int 2), (.ref b104)]) _ _ _
  refine wilNW X108 hx hby at_48 rfl ?_
  obtain ⟨_, _, ⟨T109, L109, k109, n109⟩, -, X109, ⟨Lc109, hQ109, l109, y109, z109⟩, st109⟩ := Jvm.LawKit.callS X108 hx (y := ym0) hown (ov hZ hw 1 rfl) (ov hZ hw 2 rfl) (ov hZ hw 3 rfl) (ov hZ hw 4 rfl) (by decide) (own_backOf (W := 2) (rmP l Z a0 hw [] n0 h108 O108 p2) hZ (ow hw 4 rfl) (ow hw 3 rfl) (by decide) (by decide)) (g := (mkF m 49 #[ci p0, ci p1, ci p2, ci p3, ci p4, ci n_, ci 0, cr b104, cu, cu, cu] [(.int p2), (.int 2), (.ref b104)])) rfl (by rw [hml]; rfl) (argsL := [(.int p2)]) (rest := [(.int 2), (.ref b104)]) (lenOf pdx_6 rfl) rfl (own_w rfl) (hb hby at_49) (fun _ _ => ⟨rfl, e108, (by decide : 1 + 0 ≤ _), (by decide : 4 + 0 ≤ _)⟩)
  dsimp only [Pt.U, Pt.locs, Pt.cells, Pt.slots] at X109 l109 y109 z109 st109 hQ109
  subst l109 y109 z109
  obtain ⟨c2_, rfl, N109q, e109q, hr109⟩ := hQ109
  have N109 := Fr.app N108 N109q
  refine EndsW.go st109 ?_
  have hc2_ := hr109
  obtain ⟨cl110, Ar110, q110, S110, M110, H110, G110⟩ := id V108
  have hin110 := inb_of (j := (2 : Int32)) S110 ⟨by decide, by decide⟩
  obtain ⟨T110, h110, X110, e110, W110, st110⟩ := stC X109 hx hZ e109q Ar110 (j := (2 : Int32)) hin110 (g := (mkF m 52 #[ci p0, ci p1, ci p2, ci p3, ci p4, ci n_, ci 0, cr b104, cu, cu, cu] [(.int c2_), (.int 2), (.ref b104)])) rfl rfl (hb hby at_52)
  refine EndsW.go st110 ?_
  have V110 : Arv Z h110 b104 k104 .char (4 : Int32) [(.int c0_), (.int c1_), (.int (nar .char c2_)), (.int 0)] (.int 0) := Arv.set Ar110 q110 S110 M110 H110 G110 (fits_nar_char _) W110 2 rfl (Nat.le_of_ble_eq_true rfl)
  rw [own_narc hc2_] at V110
  have O110 := O108.wr W110 g_b104
  have N110 := Fr.snoc X110 N109 g_b104
  refine walW X110 hx hby at_53 rfl rfl ?_
  refine wicW X110 hx hby at_55 ?_
  refine wilNW X110 hx hby at_56 rfl ?_
  obtain ⟨_, _, ⟨T111, L111, k111, n111⟩, -, X111, ⟨Lc111, hQ111, l111, y111, z111⟩, st111⟩ := Jvm.LawKit.callS X110 hx (y := ym0) hown (ov hZ hw 1 rfl) (ov hZ hw 2 rfl) (ov hZ hw 3 rfl) (ov hZ hw 4 rfl) (by decide) (own_backOf (W := 2) (rmP l Z a0 hw [] n0 h110 O110 p3) hZ (ow hw 4 rfl) (ow hw 3 rfl) (by decide) (by decide)) (g := (mkF m 57 #[ci p0, ci p1, ci p2, ci p3, ci p4, ci n_, ci 0, cr b104, cu, cu, cu] [(.int p3), (.int 3), (.ref b104)])) rfl (by rw [hml]; rfl) (argsL := [(.int p3)]) (rest := [(.int 3), (.ref b104)]) (lenOf pdx_6 rfl) rfl (own_w rfl) (hb hby at_57) (fun _ _ => ⟨rfl, e110, (by decide : 1 + 0 ≤ _), (by decide : 4 + 0 ≤ _)⟩)
  dsimp only [Pt.U, Pt.locs, Pt.cells, Pt.slots] at X111 l111 y111 z111 st111 hQ111
  subst l111 y111 z111
  obtain ⟨c3_, rfl, N111q, e111q, hr111⟩ := hQ111
  have N111 := Fr.app N110 N111q
  refine EndsW.go st111 ?_
  have hc3_ := hr111
  obtain ⟨cl112, Ar112, q112, S112, M112, H112, G112⟩ := id V110
  have hin112 := inb_of (j := (3 : Int32)) S112 ⟨by decide, by decide⟩
  obtain ⟨T112, h112, X112, e112, W112, st112⟩ := stC X111 hx hZ e111q Ar112 (j := (3 : Int32)) hin112 (g := (mkF m 60 #[ci p0, ci p1, ci p2, ci p3, ci p4, ci n_, ci 0, cr b104, cu, cu, cu] [(.int c3_), (.int 3), (.ref b104)])) rfl rfl (hb hby at_60)
  refine EndsW.go st112 ?_
  have V112 : Arv Z h112 b104 k104 .char (4 : Int32) [(.int c0_), (.int c1_), (.int c2_), (.int (nar .char c3_))] (.int 0) := Arv.set Ar112 q112 S112 M112 H112 G112 (fits_nar_char _) W112 3 rfl (Nat.le_of_ble_eq_true rfl)
  rw [own_narc hc3_] at V112
  have O112 := O110.wr W112 g_b104
  have N112 := Fr.snoc X112 N111 g_b104
  refine wilW X112 hx hby at_61 rfl ?_
  refine wiyW (pc := 63) (pc' := 70) X112 hx hby at_63 ((if0 _ _).trans (teq (by decide : (0 : Int32) = (0 : Int32))).1) ?_
  refine walW X112 hx hby at_70 rfl rfl ?_
  refine wilW X112 hx hby at_72 rfl ?_
  rcases hn with rfl | rfl | rfl | rfl | rfl
  ·show EndsW _ _ _ _ T112 (mkF m 74 #[ci p0, ci p1, ci p2, ci p3, ci p4, ci 0, ci 0, cr b104, cu, cu, cu] [(.int 0), (.ref b104)]) _ _ _
   obtain ⟨_, _, ⟨T132, L132, k132, n132⟩, -, X132, hSq132, hgq132, ⟨Lc132, hQ132, l132, y132, z132⟩, st132⟩ := callSS X112 hx (y := ym17) hown (ov hZ hw 5 rfl) (ov hZ hw 6 rfl) (ov hZ hw 3 rfl) (ov hZ hw 7 rfl) (by decide) (own_backOfS (W := 0) (rx2_113 l Z a0 hw [] n0 h112 O112 G1 G3 GF b104 ) hZ (ow hw 7 rfl) (ow hw 3 rfl) (by decide) (by decide) hI) (g := (mkF m 74 #[ci p0, ci p1, ci p2, ci p3, ci p4, ci 0, ci 0, cr b104, cu, cu, cu] [(.int 0), (.ref b104)])) rfl (by rw [hml]; rfl) (argsL := [(.ref b104), (.int 0)]) (rest := []) (lenOf pdx_9 rfl) rfl (own_w rfl) (hb hby at_74) (fun _ _ => ⟨rfl, e112, (by decide : 1 + 4 ≤ _), (by decide : 4 + 8 ≤ _)⟩)
   dsimp only [Pt.U, Pt.locs, Pt.cells, Pt.slots] at X132 l132 y132 z132 st132 hQ132 hSq132 hgq132
   subst l132 y132 z132
   have hS132 := foldS hS0 (Nat.le_trans (Nat.le_trans (Nat.le_trans (Nat.le_trans (Nat.le_trans (Nat.le_trans hk0 E104.1) (own_wrsz W106)) (own_wrsz W108)) (own_wrsz W110)) (own_wrsz W112)) (Nat.le_of_eq (congrArg Array.size e112.symm))) hSq132 hgq132
   have hZ : Z.Warmed39 (s.setVm T132.vm).vm := State.Warmed39.trans (t := s.setVm s.vm) hZ hSq132.1
   have hown : (s.setVm T132.vm).vm.findClass "com/example/wakeline/wakeline/format/shareplex/SharePlexMessageDatabasePinLaw" = some m.cls := by rw [show (s.setVm T132.vm).vm = T132.vm from rfl, hSq132.1.alike.findClass]; exact hown
   obtain ⟨b133, b134, k135, k136, a137, rfl, N132q, K132c, hb132_b133, hb132_b134, hne132_b133_b134, Y132_0, Y132_1, Y132_2, Y132_3, Y132_4⟩ := hQ132
   have N132 := Fr.app N112 N132q
   refine EndsW.go (fun _ k => st132.trans k) ?_
   obtain ⟨h132, e132⟩ : ∃ z, T132.heap = z := ⟨_, rfl⟩
   rw [e132] at K132c Y132_0 Y132_1 Y132_2 Y132_3 Y132_4
   have O132 := O112.keep K132c all0
   refine wasW X132 hx hby at_77 (l' := #[ci p0, ci p1, ci p2, ci p3, ci p4, ci 0, ci 0, cr b104, cr b133, cu, cu]) rfl rfl ?_
   refine walW X132 hx hby at_79 rfl rfl ?_
   obtain ⟨_, _, ⟨T140, L140, k140, n140⟩, -, X140, ⟨Lc140, hQ140, l140, y140, z140⟩, st140⟩ := Jvm.LawKit.callS X132 hx (y := ym18) hown (ov hZ hw 29 rfl) (ov hZ hw 30 rfl) (ov hZ hw 31 rfl) (ov hZ hw 32 rfl) (by decide) (own_backOf (W := 0) (rx6_138 l Z a0 hw [] n0 h132 O132 G1 G3 GF b133 a137 k136 Y132_2 Y132_0 Y132_3 Y132_4) hZ (ow hw 32 rfl) (ow hw 31 rfl) (by decide) (by decide)) (g := (mkF m 81 #[ci p0, ci p1, ci p2, ci p3, ci p4, ci 0, ci 0, cr b104, cr b133, cu, cu] [(.ref b133)])) rfl (by rw [hml]; rfl) (argsL := [(.ref b133)]) (rest := []) (lenOf pdx_11 rfl) rfl (own_w rfl) (hb hby at_81) (fun _ _ => ⟨rfl, e132, (by decide : 5 + 0 ≤ _), (by decide : 12 + 0 ≤ _)⟩)
   dsimp only [Pt.U, Pt.locs, Pt.cells, Pt.slots] at X140 l140 y140 z140 st140 hQ140
   subst l140 y140 z140
   obtain ⟨rfl, N140q, K140c⟩ := hQ140
   have N140 := Fr.app N132 N140q
   refine EndsW.go st140 ?_
   obtain ⟨h140, e140⟩ : ∃ z, T140.heap = z := ⟨_, rfl⟩
   rw [e140] at K140c
   refine wasW X140 hx hby at_84 (l' := #[ci p0, ci p1, ci p2, ci p3, ci p4, ci 0, ci 0, cr b104, cr b133, .val .null, cu]) rfl rfl ?_
   refine wilW X140 hx hby at_86 rfl ?_
   refine wiyW (pc := 88) (pc' := 102) X140 hx hby at_88 ((if0 _ _).trans (teq (by decide : (0 : Int32) = (0 : Int32))).1) ?_
   refine wilW X140 hx hby at_102 rfl ?_
   refine wiyW (pc := 104) (pc' := 122) X140 hx hby at_104 ((if0 _ _).trans (flt (by decide : ¬ ((0 : Int32) < (0 : Int32)))).2.2.2) ?_
   refine wilW X140 hx hby at_122 rfl ?_
   refine wicW X140 hx hby at_124 ?_
   refine wcyW (pc := 125) (pc' := 143) X140 hx hby at_125 (flt (by decide : ¬ ((1 : Int32) < (0 : Int32)))).2.2.2 ?_
   refine wilW X140 hx hby at_143 rfl ?_
   refine wicW X140 hx hby at_145 ?_
   refine wcyW (pc := 146) (pc' := 164) X140 hx hby at_146 (flt (by decide : ¬ ((2 : Int32) < (0 : Int32)))).2.2.2 ?_
   refine wilW X140 hx hby at_164 rfl ?_
   refine wicW X140 hx hby at_166 ?_
   show EndsW _ _ _ _ T140 (mkF m 167 #[ci p0, ci p1, ci p2, ci p3, ci p4, ci 0, ci 0, cr b104, cr b133, .val .null, cu] [(.int 3), (.int 0)]) _ _ _
   refine wcyW (pc := 167) (pc' := 185) X140 hx hby at_167 (flt (by decide : ¬ ((3 : Int32) < (0 : Int32)))).2.2.2 ?_
   refine wicW X140 hx hby at_185 ?_
   refine wstW X140 hx hby at_186 (l' := #[ci p0, ci p1, ci p2, ci p3, ci p4, ci 0, ci 0, cr b104, cr b133, .val .null, ci (-1)]) rfl ?_
   refine wilW X140 hx hby at_188 rfl ?_
   refine winW X140 hx hby at_190 ((if0 _ _).trans (tlt (by decide : (-1 : Int32) < (0 : Int32))).2.1) ?_
   refine walW X140 hx hby at_193 rfl rfl ?_
   refine .go (fun _ => XS.ifnonnullNo X140.here hx rfl (hb hby at_195) rfl) ?_
   refine wicW X140 hx hby at_198 ?_
   refine wgoW (pc := 199) (pc' := 203) X140 hx hby at_199 ?_
   refine EndsW.retZ (s := s) (vm := T132.vm) X140 hx hS132 (Nat.le_trans (Nat.le_trans (Nat.le_of_eq (congrArg Array.size e132)) K140c.1) (Nat.le_of_eq (congrArg Array.size e140.symm))) Bd.notSynchronized (t := .boolean) Bd.returns (by simp) (hb hby at_203) (by decide) (by decide) ?_
   exact ⟨rfl, N140⟩
  ·by_cases hq0_ : c0_ = (46 : Int32)
   ·show EndsW _ _ _ _ T112 (mkF m 74 #[ci p0, ci p1, ci p2, ci p3, ci p4, ci 1, ci 0, cr b104, cu, cu, cu] [(.int 1), (.ref b104)]) _ _ _
    obtain ⟨_, _, ⟨T171, L171, k171, n171⟩, -, X171, ⟨Lc171, hQ171, l171, y171, z171⟩, st171⟩ := Jvm.LawKit.callS X112 hx (y := ym17) hown (ov hZ hw 5 rfl) (ov hZ hw 6 rfl) (ov hZ hw 3 rfl) (ov hZ hw 7 rfl) (by decide) (own_backOf (W := 0) (rx2_141 l Z a0 hw [] n0 h112 O112 G1 G3 GF b104 k104 c0_ c1_ c2_ c3_ V112 hc0_) hZ (ow hw 7 rfl) (ow hw 3 rfl) (by decide) (by decide)) (g := (mkF m 74 #[ci p0, ci p1, ci p2, ci p3, ci p4, ci 1, ci 0, cr b104, cu, cu, cu] [(.int 1), (.ref b104)])) rfl (by rw [hml]; rfl) (argsL := [(.ref b104), (.int 1)]) (rest := []) (lenOf pdx_9 rfl) rfl (own_w rfl) (hb hby at_74) (fun _ _ => ⟨rfl, e112, (by decide : 1 + 3 ≤ _), (by decide : 4 + 6 ≤ _)⟩)
    dsimp only [Pt.U, Pt.locs, Pt.cells, Pt.slots] at X171 l171 y171 z171 st171 hQ171
    subst l171 y171 z171
    obtain ⟨b172, b173, b174, k175, k176, rfl, N171q, K171c, hb171_b172, hb171_b173, hb171_b174, hne171_b172_b173, hne171_b172_b174, hne171_b173_b174, Y171_0, Y171_1, Y171_2, Y171_3, Y171_4⟩ := hQ171
    have N171 := Fr.app N112 N171q
    refine EndsW.go st171 ?_
    obtain ⟨h171, e171⟩ : ∃ z, T171.heap = z := ⟨_, rfl⟩
    rw [e171] at K171c Y171_0 Y171_1 Y171_2 Y171_3 Y171_4
    have O171 := O112.keep K171c all0
    refine wasW X171 hx hby at_77 (l' := #[ci p0, ci p1, ci p2, ci p3, ci p4, ci 1, ci 0, cr b104, cr b172, cu, cu]) rfl rfl ?_
    refine walW X171 hx hby at_79 rfl rfl ?_
    obtain ⟨_, _, ⟨T194, L194, k194, n194⟩, -, X194, hSq194, hgq194, ⟨Lc194, hQ194, l194, y194, z194⟩, st194⟩ := callSS X171 hx (y := ym18) hown (ov hZ hw 29 rfl) (ov hZ hw 30 rfl) (ov hZ hw 31 rfl) (ov hZ hw 32 rfl) (by decide) (own_backOfS (W := 0) (rx6_177 l Z a0 hw [] n0 h171 O171 G1 G3 GF b172 b174 k176 c0_ Y171_4 Y171_0 Y171_3 Y171_2 hq0_ hc0_) hZ (ow hw 32 rfl) (ow hw 31 rfl) (by decide) (by decide) hI) (g := (mkF m 81 #[ci p0, ci p1, ci p2, ci p3, ci p4, ci 1, ci 0, cr b104, cr b172, cu, cu] [(.ref b172)])) rfl (by rw [hml]; rfl) (argsL := [(.ref b172)]) (rest := []) (lenOf pdx_11 rfl) rfl (own_w rfl) (hb hby at_81) (fun _ _ => ⟨rfl, e171, (by decide : 4 + 2 ≤ _), (by decide : 10 + 4 ≤ _)⟩)
    dsimp only [Pt.U, Pt.locs, Pt.cells, Pt.slots] at X194 l194 y194 z194 st194 hQ194 hSq194 hgq194
    subst l194 y194 z194
    have hS194 := foldS hS0 (Nat.le_trans (Nat.le_trans (Nat.le_trans (Nat.le_trans (Nat.le_trans (Nat.le_trans (Nat.le_trans hk0 E104.1) (own_wrsz W106)) (own_wrsz W108)) (own_wrsz W110)) (own_wrsz W112)) K171c.1) (Nat.le_of_eq (congrArg Array.size e171.symm))) hSq194 hgq194
    have hZ : Z.Warmed39 (s.setVm T194.vm).vm := State.Warmed39.trans (t := s.setVm s.vm) hZ hSq194.1
    have hown : (s.setVm T194.vm).vm.findClass "com/example/wakeline/wakeline/format/shareplex/SharePlexMessageDatabasePinLaw" = some m.cls := by rw [show (s.setVm T194.vm).vm = T194.vm from rfl, hSq194.1.alike.findClass]; exact hown
    obtain ⟨k195, a196, a197, rfl, N194q, K194c, Y194_0, Y194_1, Y194_2, Y194_3⟩ := hQ194
    have N194 := Fr.app N171 N194q
    refine EndsW.go (fun _ k => st194.trans k) ?_
    obtain ⟨h194, e194⟩ : ∃ z, T194.heap = z := ⟨_, rfl⟩
    rw [e194] at K194c Y194_0 Y194_1 Y194_2 Y194_3
    have O194 := O171.keep K194c all0
    refine wasW X194 hx hby at_84 (l' := #[ci p0, ci p1, ci p2, ci p3, ci p4, ci 1, ci 0, cr b104, cr b172, cr a196, cu]) rfl rfl ?_
    refine wilW X194 hx hby at_86 rfl ?_
    refine wiyW (pc := 88) (pc' := 102) X194 hx hby at_88 ((if0 _ _).trans (teq (by decide : (0 : Int32) = (0 : Int32))).1) ?_
    refine wilW X194 hx hby at_102 rfl ?_
    refine winW X194 hx hby at_104 ((if0 _ _).trans (tlt (by decide : (0 : Int32) < (1 : Int32))).2.2.2) ?_
    refine walW X194 hx hby at_107 rfl rfl ?_
    refine wicW X194 hx hby at_109 ?_
    obtain ⟨cl198, Ar198, q198, S198, M198, H198, G198⟩ := id ((V112.keep K171c nin0).keep K194c nin0)
    have hin198 := inb_of (j := (0 : Int32)) S198 ⟨by decide, by decide⟩
    refine EndsW.go (X194.caload hx (j := (0 : Int32)) (v := (.int c0_)) (by rw [e194]; exact Ar198.1) (State.isArrayOf_alike hZ.alike Ar198.2.1) Ar198.2.2 hin198 (H198.at hin198 rfl) (g := (mkF m 110 #[ci p0, ci p1, ci p2, ci p3, ci p4, ci 1, ci 0, cr b104, cr b172, cr a196, cu] [(.int 0), (.ref b104)])) rfl rfl (hb hby at_110)) ?_
    refine wbpW X194 hx hby at_111 ?_
    refine wcnW X194 hx hby at_113 (teq (hq0_ : c0_ = (46 : Int32))).2 ?_
    refine wicW X194 hx hby at_116 ?_
    refine wstW X194 hx hby at_117 (l' := #[ci p0, ci p1, ci p2, ci p3, ci p4, ci 1, ci 0, cr b104, cr b172, cr a196, ci 0]) rfl ?_
    refine wgoW (pc := 119) (pc' := 188) X194 hx hby at_119 ?_
    refine wilW X194 hx hby at_188 rfl ?_
    refine wiyW (pc := 190) (pc' := 204) X194 hx hby at_190 ((if0 _ _).trans (flt (by decide : ¬ ((0 : Int32) < (0 : Int32)))).2.1) ?_
    refine walW X194 hx hby at_204 rfl rfl ?_
    show EndsW _ _ _ _ T194 (mkF m 206 #[ci p0, ci p1, ci p2, ci p3, ci p4, ci 1, ci 0, cr b104, cr b172, cr a196, ci 0] [(.ref a196)]) _ _ _
    refine .go (fun _ => XS.ifnullNo X194.here hx rfl (hb hby at_206) rfl) ?_
    refine walW X194 hx hby at_209 rfl rfl ?_
    obtain ⟨cq199, kq199, q199a, q199b, q199c⟩ := isOf hZ e194 Y194_0
    obtain ⟨_, _, ⟨T199, L199, k199, n199⟩, -, X199, ⟨Lc199, hQ199, l199, y199, z199⟩, st199⟩ := X194.virtualBack hx (y := ym11) (z := ym11) hown (ov hZ hw 103 rfl) (ov hZ hw 50 rfl) (notFace_of_selects (args := #[]) (ov hZ hw 52 rfl)) (ov hZ hw 52 rfl) (ov hZ hw 51 rfl) (by decide) (own_backOf (W := 0) (rx10_13 l Z a0 hw [] n0 h194 O194 G1 G3 GF a196 a197 k195 Y194_2 Y194_3 Y194_1 Y194_0) hZ (ow hw 53 rfl) (ow hw 10 rfl) (by decide) (by decide)) q199a q199c (g := (mkF m 211 #[ci p0, ci p1, ci p2, ci p3, ci p4, ci 1, ci 0, cr b104, cr b172, cr a196, ci 0] [(.ref a196)])) rfl (by rw [hml]; rfl) (Steps.refl _) (argsL := []) (rest := []) (lenOf pdx_4 rfl) rfl (own_w rfl) (hb hby at_211) (fun _ _ => ⟨rfl, e194, (by decide : 6 + 0 ≤ _), (by decide : 14 + 0 ≤ _)⟩)
    dsimp only [Pt.U, Pt.locs, Pt.cells, Pt.slots] at X199 l199 y199 z199 st199 hQ199
    subst l199 y199 z199
    obtain ⟨rfl, N199q, K199c⟩ := hQ199
    have N199 := Fr.app N194 N199q
    refine EndsW.go (fun _ k => st199.trans k) ?_
    obtain ⟨h199, e199⟩ : ∃ z, T199.heap = z := ⟨_, rfl⟩
    rw [e199] at K199c
    refine wilW X199 hx hby at_214 rfl ?_
    refine wcyW (pc := 216) (pc' := 221) X199 hx hby at_216 (teq (by decide : (0 : Int32) = (0 : Int32))).1 ?_
    refine wilW X199 hx hby at_221 rfl ?_
    refine wicW X199 hx hby at_223 ?_
    refine wcyW (pc := 224) (pc' := 240) X199 hx hby at_224 (tlt (by decide : (0 : Int32) < (1 : Int32))).1 ?_
    refine wilW X199 hx hby at_240 rfl ?_
    refine wicW X199 hx hby at_242 ?_
    refine wcyW (pc := 243) (pc' := 259) X199 hx hby at_243 (tlt (by decide : (0 : Int32) < (2 : Int32))).1 ?_
    refine wilW X199 hx hby at_259 rfl ?_
    refine wicW X199 hx hby at_261 ?_
    refine wcyW (pc := 262) (pc' := 278) X199 hx hby at_262 (tlt (by decide : (0 : Int32) < (3 : Int32))).1 ?_
    refine wicW X199 hx hby at_278 ?_
    refine wgoW (pc := 279) (pc' := 283) X199 hx hby at_279 ?_
    refine EndsW.retZ (s := s) (vm := T194.vm) X199 hx hS194 (Nat.le_trans (Nat.le_trans (Nat.le_of_eq (congrArg Array.size e194)) K199c.1) (Nat.le_of_eq (congrArg Array.size e199.symm))) Bd.notSynchronized (t := .boolean) Bd.returns (by simp) (hb hby at_283) (by decide) (by decide) ?_
    exact ⟨rfl, N199⟩
   ·show EndsW _ _ _ _ T112 (mkF m 74 #[ci p0, ci p1, ci p2, ci p3, ci p4, ci 1, ci 0, cr b104, cu, cu, cu] [(.int 1), (.ref b104)]) _ _ _
    obtain ⟨_, _, ⟨T200, L200, k200, n200⟩, -, X200, ⟨Lc200, hQ200, l200, y200, z200⟩, st200⟩ := Jvm.LawKit.callS X112 hx (y := ym17) hown (ov hZ hw 5 rfl) (ov hZ hw 6 rfl) (ov hZ hw 3 rfl) (ov hZ hw 7 rfl) (by decide) (own_backOf (W := 0) (rx2_141 l Z a0 hw [] n0 h112 O112 G1 G3 GF b104 k104 c0_ c1_ c2_ c3_ V112 hc0_) hZ (ow hw 7 rfl) (ow hw 3 rfl) (by decide) (by decide)) (g := (mkF m 74 #[ci p0, ci p1, ci p2, ci p3, ci p4, ci 1, ci 0, cr b104, cu, cu, cu] [(.int 1), (.ref b104)])) rfl (by rw [hml]; rfl) (argsL := [(.ref b104), (.int 1)]) (rest := []) (lenOf pdx_9 rfl) rfl (own_w rfl) (hb hby at_74) (fun _ _ => ⟨rfl, e112, (by decide : 1 + 3 ≤ _), (by decide : 4 + 6 ≤ _)⟩)
    dsimp only [Pt.U, Pt.locs, Pt.cells, Pt.slots] at X200 l200 y200 z200 st200 hQ200
    subst l200 y200 z200
    obtain ⟨b201, b202, b203, k204, k205, rfl, N200q, K200c, hb200_b201, hb200_b202, hb200_b203, hne200_b201_b202, hne200_b201_b203, hne200_b202_b203, Y200_0, Y200_1, Y200_2, Y200_3, Y200_4⟩ := hQ200
    have N200 := Fr.app N112 N200q
    refine EndsW.go st200 ?_
    obtain ⟨h200, e200⟩ : ∃ z, T200.heap = z := ⟨_, rfl⟩
    rw [e200] at K200c Y200_0 Y200_1 Y200_2 Y200_3 Y200_4
    have O200 := O112.keep K200c all0
    refine wasW X200 hx hby at_77 (l' := #[ci p0, ci p1, ci p2, ci p3, ci p4, ci 1, ci 0, cr b104, cr b201, cu, cu]) rfl rfl ?_
    refine walW X200 hx hby at_79 rfl rfl ?_
    obtain ⟨_, _, ⟨T208, L208, k208, n208⟩, -, X208, ⟨Lc208, hQ208, l208, y208, z208⟩, st208⟩ := Jvm.LawKit.callS X200 hx (y := ym18) hown (ov hZ hw 29 rfl) (ov hZ hw 30 rfl) (ov hZ hw 31 rfl) (ov hZ hw 32 rfl) (by decide) (own_backOf (W := 0) (rx6_206 l Z a0 hw [] n0 h200 O200 G1 G3 GF b201 b203 k205 c0_ Y200_4 Y200_0 Y200_3 Y200_2 hq0_ hc0_) hZ (ow hw 32 rfl) (ow hw 31 rfl) (by decide) (by decide)) (g := (mkF m 81 #[ci p0, ci p1, ci p2, ci p3, ci p4, ci 1, ci 0, cr b104, cr b201, cu, cu] [(.ref b201)])) rfl (by rw [hml]; rfl) (argsL := [(.ref b201)]) (rest := []) (lenOf pdx_11 rfl) rfl (own_w rfl) (hb hby at_81) (fun _ _ => ⟨rfl, e200, (by decide : 4 + 0 ≤ _), (by decide : 10 + 0 ≤ _)⟩)
    dsimp only [Pt.U, Pt.locs, Pt.cells, Pt.slots] at X208 l208 y208 z208 st208 hQ208
    subst l208 y208 z208
    obtain ⟨rfl, N208q, K208c⟩ := hQ208
    have N208 := Fr.app N200 N208q
    refine EndsW.go st208 ?_
    obtain ⟨h208, e208⟩ : ∃ z, T208.heap = z := ⟨_, rfl⟩
    rw [e208] at K208c
    refine wasW X208 hx hby at_84 (l' := #[ci p0, ci p1, ci p2, ci p3, ci p4, ci 1, ci 0, cr b104, cr b201, .val .null, cu]) rfl rfl ?_
    refine wilW X208 hx hby at_86 rfl ?_
    refine wiyW (pc := 88) (pc' := 102) X208 hx hby at_88 ((if0 _ _).trans (teq (by decide : (0 : Int32) = (0 : Int32))).1) ?_
    refine wilW X208 hx hby at_102 rfl ?_
    refine winW X208 hx hby at_104 ((if0 _ _).trans (tlt (by decide : (0 : Int32) < (1 : Int32))).2.2.2) ?_
    refine walW X208 hx hby at_107 rfl rfl ?_
    refine wicW X208 hx hby at_109 ?_
    obtain ⟨cl209, Ar209, q209, S209, M209, H209, G209⟩ := id ((V112.keep K200c nin0).keep K208c nin0)
    have hin209 := inb_of (j := (0 : Int32)) S209 ⟨by decide, by decide⟩
    refine EndsW.go (X208.caload hx (j := (0 : Int32)) (v := (.int c0_)) (by rw [e208]; exact Ar209.1) (State.isArrayOf_alike hZ.alike Ar209.2.1) Ar209.2.2 hin209 (H209.at hin209 rfl) (g := (mkF m 110 #[ci p0, ci p1, ci p2, ci p3, ci p4, ci 1, ci 0, cr b104, cr b201, .val .null, cu] [(.int 0), (.ref b104)])) rfl rfl (hb hby at_110)) ?_
    refine wbpW X208 hx hby at_111 ?_
    show EndsW _ _ _ _ T208 (mkF m 113 #[ci p0, ci p1, ci p2, ci p3, ci p4, ci 1, ci 0, cr b104, cr b201, .val .null, cu] [(.int 46), (.int c0_)]) _ _ _
    refine wcyW (pc := 113) (pc' := 122) X208 hx hby at_113 (feq (hq0_ : ¬ (c0_ = (46 : Int32)))).2 ?_
    refine wilW X208 hx hby at_122 rfl ?_
    refine wicW X208 hx hby at_124 ?_
    refine wcyW (pc := 125) (pc' := 143) X208 hx hby at_125 (flt (by decide : ¬ ((1 : Int32) < (1 : Int32)))).2.2.2 ?_
    refine wilW X208 hx hby at_143 rfl ?_
    refine wicW X208 hx hby at_145 ?_
    refine wcyW (pc := 146) (pc' := 164) X208 hx hby at_146 (flt (by decide : ¬ ((2 : Int32) < (1 : Int32)))).2.2.2 ?_
    refine wilW X208 hx hby at_164 rfl ?_
    refine wicW X208 hx hby at_166 ?_
    refine wcyW (pc := 167) (pc' := 185) X208 hx hby at_167 (flt (by decide : ¬ ((3 : Int32) < (1 : Int32)))).2.2.2 ?_
    refine wicW X208 hx hby at_185 ?_
    refine wstW X208 hx hby at_186 (l' := #[ci p0, ci p1, ci p2, ci p3, ci p4, ci 1, ci 0, cr b104, cr b201, .val .null, ci (-1)]) rfl ?_
    refine wilW X208 hx hby at_188 rfl ?_
    refine winW X208 hx hby at_190 ((if0 _ _).trans (tlt (by decide : (-1 : Int32) < (0 : Int32))).2.1) ?_
    refine walW X208 hx hby at_193 rfl rfl ?_
    refine .go (fun _ => XS.ifnonnullNo X208.here hx rfl (hb hby at_195) rfl) ?_
    refine wicW X208 hx hby at_198 ?_
    refine wgoW (pc := 199) (pc' := 203) X208 hx hby at_199 ?_
    refine EndsW.retZ (s := s) (vm := s.vm) X208 hx hS0 (Nat.le_trans (Nat.le_trans (Nat.le_trans (Nat.le_trans (Nat.le_trans (Nat.le_trans (Nat.le_trans (Nat.le_trans hk0 E104.1) (own_wrsz W106)) (own_wrsz W108)) (own_wrsz W110)) (own_wrsz W112)) K200c.1) K208c.1) (Nat.le_of_eq (congrArg Array.size e208.symm))) Bd.notSynchronized (t := .boolean) Bd.returns (by simp) (hb hby at_203) (by decide) (by decide) ?_
    exact ⟨rfl, N208⟩
  ·by_cases hq0_ : c0_ = (46 : Int32)
   ·show EndsW _ _ _ _ T112 (mkF m 74 #[ci p0, ci p1, ci p2, ci p3, ci p4, ci 2, ci 0, cr b104, cu, cu, cu] [(.int 2), (.ref b104)]) _ _ _
    obtain ⟨_, _, ⟨T244, L244, k244, n244⟩, -, X244, ⟨Lc244, hQ244, l244, y244, z244⟩, st244⟩ := Jvm.LawKit.callS X112 hx (y := ym17) hown (ov hZ hw 5 rfl) (ov hZ hw 6 rfl) (ov hZ hw 3 rfl) (ov hZ hw 7 rfl) (by decide) (own_backOf (W := 0) (rx2_210 l Z a0 hw [] n0 h112 O112 G1 G3 GF b104 k104 c0_ c1_ c2_ c3_ V112 hc0_ hc1_) hZ (ow hw 7 rfl) (ow hw 3 rfl) (by decide) (by decide)) (g := (mkF m 74 #[ci p0, ci p1, ci p2, ci p3, ci p4, ci 2, ci 0, cr b104, cu, cu, cu] [(.int 2), (.ref b104)])) rfl (by rw [hml]; rfl) (argsL := [(.ref b104), (.int 2)]) (rest := []) (lenOf pdx_9 rfl) rfl (own_w rfl) (hb hby at_74) (fun _ _ => ⟨rfl, e112, (by decide : 1 + 3 ≤ _), (by decide : 4 + 8 ≤ _)⟩)
    dsimp only [Pt.U, Pt.locs, Pt.cells, Pt.slots] at X244 l244 y244 z244 st244 hQ244
    subst l244 y244 z244
    obtain ⟨b245, b246, b247, k248, k249, rfl, N244q, K244c, hb244_b245, hb244_b246, hb244_b247, hne244_b245_b246, hne244_b245_b247, hne244_b246_b247, Y244_0, Y244_1, Y244_2, Y244_3, Y244_4⟩ := hQ244
    have N244 := Fr.app N112 N244q
    refine EndsW.go st244 ?_
    obtain ⟨h244, e244⟩ : ∃ z, T244.heap = z := ⟨_, rfl⟩
    rw [e244] at K244c Y244_0 Y244_1 Y244_2 Y244_3 Y244_4
    have O244 := O112.keep K244c all0
    refine wasW X244 hx hby at_77 (l' := #[ci p0, ci p1, ci p2, ci p3, ci p4, ci 2, ci 0, cr b104, cr b245, cu, cu]) rfl rfl ?_
    refine walW X244 hx hby at_79 rfl rfl ?_
    obtain ⟨_, _, ⟨T265, L265, k265, n265⟩, -, X265, hSq265, hgq265, ⟨Lc265, hQ265, l265, y265, z265⟩, st265⟩ := callSS X244 hx (y := ym18) hown (ov hZ hw 29 rfl) (ov hZ hw 30 rfl) (ov hZ hw 31 rfl) (ov hZ hw 32 rfl) (by decide) (own_backOfS (W := 0) (rx6_250 l Z a0 hw [] n0 h244 O244 G1 G3 GF b245 b247 k249 c0_ c1_ Y244_4 Y244_0 Y244_3 Y244_2 hq0_ hc0_) hZ (ow hw 32 rfl) (ow hw 31 rfl) (by decide) (by decide) hI) (g := (mkF m 81 #[ci p0, ci p1, ci p2, ci p3, ci p4, ci 2, ci 0, cr b104, cr b245, cu, cu] [(.ref b245)])) rfl (by rw [hml]; rfl) (argsL := [(.ref b245)]) (rest := []) (lenOf pdx_11 rfl) rfl (own_w rfl) (hb hby at_81) (fun _ _ => ⟨rfl, e244, (by decide : 4 + 2 ≤ _), (by decide : 12 + 4 ≤ _)⟩)
    dsimp only [Pt.U, Pt.locs, Pt.cells, Pt.slots] at X265 l265 y265 z265 st265 hQ265 hSq265 hgq265
    subst l265 y265 z265
    have hS265 := foldS hS0 (Nat.le_trans (Nat.le_trans (Nat.le_trans (Nat.le_trans (Nat.le_trans (Nat.le_trans (Nat.le_trans hk0 E104.1) (own_wrsz W106)) (own_wrsz W108)) (own_wrsz W110)) (own_wrsz W112)) K244c.1) (Nat.le_of_eq (congrArg Array.size e244.symm))) hSq265 hgq265
    have hZ : Z.Warmed39 (s.setVm T265.vm).vm := State.Warmed39.trans (t := s.setVm s.vm) hZ hSq265.1
    have hown : (s.setVm T265.vm).vm.findClass "com/example/wakeline/wakeline/format/shareplex/SharePlexMessageDatabasePinLaw" = some m.cls := by rw [show (s.setVm T265.vm).vm = T265.vm from rfl, hSq265.1.alike.findClass]; exact hown
    obtain ⟨k266, a267, a268, rfl, N265q, K265c, Y265_0, Y265_1, Y265_2, Y265_3⟩ := hQ265
    have N265 := Fr.app N244 N265q
    refine EndsW.go (fun _ k => st265.trans k) ?_
    obtain ⟨h265, e265⟩ : ∃ z, T265.heap = z := ⟨_, rfl⟩
    rw [e265] at K265c Y265_0 Y265_1 Y265_2 Y265_3
    have O265 := O244.keep K265c all0
    refine wasW X265 hx hby at_84 (l' := #[ci p0, ci p1, ci p2, ci p3, ci p4, ci 2, ci 0, cr b104, cr b245, cr a267, cu]) rfl rfl ?_
    refine wilW X265 hx hby at_86 rfl ?_
    refine wiyW (pc := 88) (pc' := 102) X265 hx hby at_88 ((if0 _ _).trans (teq (by decide : (0 : Int32) = (0 : Int32))).1) ?_
    refine wilW X265 hx hby at_102 rfl ?_
    refine winW X265 hx hby at_104 ((if0 _ _).trans (tlt (by decide : (0 : Int32) < (2 : Int32))).2.2.2) ?_
    refine walW X265 hx hby at_107 rfl rfl ?_
    refine wicW X265 hx hby at_109 ?_
    show EndsW _ _ _ _ T265 (mkF m 110 #[ci p0, ci p1, ci p2, ci p3, ci p4, ci 2, ci 0, cr b104, cr b245, cr a267, cu] [(.int 0), (.ref b104)]) _ _ _
    obtain ⟨cl269, Ar269, q269, S269, M269, H269, G269⟩ := id ((V112.keep K244c nin0).keep K265c nin0)
    have hin269 := inb_of (j := (0 : Int32)) S269 ⟨by decide, by decide⟩
    refine EndsW.go (X265.caload hx (j := (0 : Int32)) (v := (.int c0_)) (by rw [e265]; exact Ar269.1) (State.isArrayOf_alike hZ.alike Ar269.2.1) Ar269.2.2 hin269 (H269.at hin269 rfl) (g := (mkF m 110 #[ci p0, ci p1, ci p2, ci p3, ci p4, ci 2, ci 0, cr b104, cr b245, cr a267, cu] [(.int 0), (.ref b104)])) rfl rfl (hb hby at_110)) ?_
    refine wbpW X265 hx hby at_111 ?_
    refine wcnW X265 hx hby at_113 (teq (hq0_ : c0_ = (46 : Int32))).2 ?_
    refine wicW X265 hx hby at_116 ?_
    refine wstW X265 hx hby at_117 (l' := #[ci p0, ci p1, ci p2, ci p3, ci p4, ci 2, ci 0, cr b104, cr b245, cr a267, ci 0]) rfl ?_
    refine wgoW (pc := 119) (pc' := 188) X265 hx hby at_119 ?_
    refine wilW X265 hx hby at_188 rfl ?_
    refine wiyW (pc := 190) (pc' := 204) X265 hx hby at_190 ((if0 _ _).trans (flt (by decide : ¬ ((0 : Int32) < (0 : Int32)))).2.1) ?_
    refine walW X265 hx hby at_204 rfl rfl ?_
    refine .go (fun _ => XS.ifnullNo X265.here hx rfl (hb hby at_206) rfl) ?_
    refine walW X265 hx hby at_209 rfl rfl ?_
    obtain ⟨cq270, kq270, q270a, q270b, q270c⟩ := isOf hZ e265 Y265_0
    obtain ⟨_, _, ⟨T270, L270, k270, n270⟩, -, X270, ⟨Lc270, hQ270, l270, y270, z270⟩, st270⟩ := X265.virtualBack hx (y := ym11) (z := ym11) hown (ov hZ hw 103 rfl) (ov hZ hw 50 rfl) (notFace_of_selects (args := #[]) (ov hZ hw 52 rfl)) (ov hZ hw 52 rfl) (ov hZ hw 51 rfl) (by decide) (own_backOf (W := 0) (rx10_13 l Z a0 hw [] n0 h265 O265 G1 G3 GF a267 a268 k266 Y265_2 Y265_3 Y265_1 Y265_0) hZ (ow hw 53 rfl) (ow hw 10 rfl) (by decide) (by decide)) q270a q270c (g := (mkF m 211 #[ci p0, ci p1, ci p2, ci p3, ci p4, ci 2, ci 0, cr b104, cr b245, cr a267, ci 0] [(.ref a267)])) rfl (by rw [hml]; rfl) (Steps.refl _) (argsL := []) (rest := []) (lenOf pdx_4 rfl) rfl (own_w rfl) (hb hby at_211) (fun _ _ => ⟨rfl, e265, (by decide : 6 + 0 ≤ _), (by decide : 16 + 0 ≤ _)⟩)
    dsimp only [Pt.U, Pt.locs, Pt.cells, Pt.slots] at X270 l270 y270 z270 st270 hQ270
    subst l270 y270 z270
    obtain ⟨rfl, N270q, K270c⟩ := hQ270
    have N270 := Fr.app N265 N270q
    refine EndsW.go (fun _ k => st270.trans k) ?_
    obtain ⟨h270, e270⟩ : ∃ z, T270.heap = z := ⟨_, rfl⟩
    rw [e270] at K270c
    refine wilW X270 hx hby at_214 rfl ?_
    refine wcyW (pc := 216) (pc' := 221) X270 hx hby at_216 (teq (by decide : (0 : Int32) = (0 : Int32))).1 ?_
    refine wilW X270 hx hby at_221 rfl ?_
    refine wicW X270 hx hby at_223 ?_
    refine wcyW (pc := 224) (pc' := 240) X270 hx hby at_224 (tlt (by decide : (0 : Int32) < (1 : Int32))).1 ?_
    refine wilW X270 hx hby at_240 rfl ?_
    refine wicW X270 hx hby at_242 ?_
    refine wcyW (pc := 243) (pc' := 259) X270 hx hby at_243 (tlt (by decide : (0 : Int32) < (2 : Int32))).1 ?_
    refine wilW X270 hx hby at_259 rfl ?_
    refine wicW X270 hx hby at_261 ?_
    refine wcyW (pc := 262) (pc' := 278) X270 hx hby at_262 (tlt (by decide : (0 : Int32) < (3 : Int32))).1 ?_
    refine wicW X270 hx hby at_278 ?_
    refine wgoW (pc := 279) (pc' := 283) X270 hx hby at_279 ?_
    refine EndsW.retZ (s := s) (vm := T265.vm) X270 hx hS265 (Nat.le_trans (Nat.le_trans (Nat.le_of_eq (congrArg Array.size e265)) K270c.1) (Nat.le_of_eq (congrArg Array.size e270.symm))) Bd.notSynchronized (t := .boolean) Bd.returns (by simp) (hb hby at_283) (by decide) (by decide) ?_
    exact ⟨rfl, N270⟩
   ·by_cases hq1_ : c1_ = (46 : Int32)
    ·show EndsW _ _ _ _ T112 (mkF m 74 #[ci p0, ci p1, ci p2, ci p3, ci p4, ci 2, ci 0, cr b104, cu, cu, cu] [(.int 2), (.ref b104)]) _ _ _
     obtain ⟨_, _, ⟨T271, L271, k271, n271⟩, -, X271, ⟨Lc271, hQ271, l271, y271, z271⟩, st271⟩ := Jvm.LawKit.callS X112 hx (y := ym17) hown (ov hZ hw 5 rfl) (ov hZ hw 6 rfl) (ov hZ hw 3 rfl) (ov hZ hw 7 rfl) (by decide) (own_backOf (W := 0) (rx2_210 l Z a0 hw [] n0 h112 O112 G1 G3 GF b104 k104 c0_ c1_ c2_ c3_ V112 hc0_ hc1_) hZ (ow hw 7 rfl) (ow hw 3 rfl) (by decide) (by decide)) (g := (mkF m 74 #[ci p0, ci p1, ci p2, ci p3, ci p4, ci 2, ci 0, cr b104, cu, cu, cu] [(.int 2), (.ref b104)])) rfl (by rw [hml]; rfl) (argsL := [(.ref b104), (.int 2)]) (rest := []) (lenOf pdx_9 rfl) rfl (own_w rfl) (hb hby at_74) (fun _ _ => ⟨rfl, e112, (by decide : 1 + 3 ≤ _), (by decide : 4 + 8 ≤ _)⟩)
     dsimp only [Pt.U, Pt.locs, Pt.cells, Pt.slots] at X271 l271 y271 z271 st271 hQ271
     subst l271 y271 z271
     obtain ⟨b272, b273, b274, k275, k276, rfl, N271q, K271c, hb271_b272, hb271_b273, hb271_b274, hne271_b272_b273, hne271_b272_b274, hne271_b273_b274, Y271_0, Y271_1, Y271_2, Y271_3, Y271_4⟩ := hQ271
     have N271 := Fr.app N112 N271q
     refine EndsW.go st271 ?_
     obtain ⟨h271, e271⟩ : ∃ z, T271.heap = z := ⟨_, rfl⟩
     rw [e271] at K271c Y271_0 Y271_1 Y271_2 Y271_3 Y271_4
     have O271 := O112.keep K271c all0
     refine wasW X271 hx hby at_77 (l' := #[ci p0, ci p1, ci p2, ci p3, ci p4, ci 2, ci 0, cr b104, cr b272, cu, cu]) rfl rfl ?_
     refine walW X271 hx hby at_79 rfl rfl ?_
     obtain ⟨_, _, ⟨T315, L315, k315, n315⟩, -, X315, ⟨Lc315, hQ315, l315, y315, z315⟩, st315⟩ := Jvm.LawKit.callS X271 hx (y := ym18) hown (ov hZ hw 29 rfl) (ov hZ hw 30 rfl) (ov hZ hw 31 rfl) (ov hZ hw 32 rfl) (by decide) (own_backOf (W := 0) (rx6_277 l Z a0 hw [] n0 h271 O271 G1 G3 GF b272 b274 k276 c0_ c1_ Y271_4 Y271_0 Y271_3 Y271_2 hq0_ hq1_ hc0_ hc1_) hZ (ow hw 32 rfl) (ow hw 31 rfl) (by decide) (by decide)) (g := (mkF m 81 #[ci p0, ci p1, ci p2, ci p3, ci p4, ci 2, ci 0, cr b104, cr b272, cu, cu] [(.ref b272)])) rfl (by rw [hml]; rfl) (argsL := [(.ref b272)]) (rest := []) (lenOf pdx_11 rfl) rfl (own_w rfl) (hb hby at_81) (fun _ _ => ⟨rfl, e271, (by decide : 4 + 2 ≤ _), (by decide : 12 + 5 ≤ _)⟩)
     dsimp only [Pt.U, Pt.locs, Pt.cells, Pt.slots] at X315 l315 y315 z315 st315 hQ315
     subst l315 y315 z315
     obtain ⟨b316, b317, k318, rfl, N315q, K315c, hb315_b316, hb315_b317, hne315_b316_b317, Y315_0, Y315_1, Y315_2, Y315_3⟩ := hQ315
     have N315 := Fr.app N271 N315q
     refine EndsW.go st315 ?_
     obtain ⟨h315, e315⟩ : ∃ z, T315.heap = z := ⟨_, rfl⟩
     rw [e315] at K315c Y315_0 Y315_1 Y315_2 Y315_3
     have O315 := O271.keep K315c all0
     show EndsW _ _ _ _ T315 (mkF m 84 #[ci p0, ci p1, ci p2, ci p3, ci p4, ci 2, ci 0, cr b104, cr b272, cu, cu] [(.ref b316)]) _ _ _
     refine wasW X315 hx hby at_84 (l' := #[ci p0, ci p1, ci p2, ci p3, ci p4, ci 2, ci 0, cr b104, cr b272, cr b316, cu]) rfl rfl ?_
     refine wilW X315 hx hby at_86 rfl ?_
     refine wiyW (pc := 88) (pc' := 102) X315 hx hby at_88 ((if0 _ _).trans (teq (by decide : (0 : Int32) = (0 : Int32))).1) ?_
     refine wilW X315 hx hby at_102 rfl ?_
     refine winW X315 hx hby at_104 ((if0 _ _).trans (tlt (by decide : (0 : Int32) < (2 : Int32))).2.2.2) ?_
     refine walW X315 hx hby at_107 rfl rfl ?_
     refine wicW X315 hx hby at_109 ?_
     obtain ⟨cl319, Ar319, q319, S319, M319, H319, G319⟩ := id ((V112.keep K271c nin0).keep K315c nin0)
     have hin319 := inb_of (j := (0 : Int32)) S319 ⟨by decide, by decide⟩
     refine EndsW.go (X315.caload hx (j := (0 : Int32)) (v := (.int c0_)) (by rw [e315]; exact Ar319.1) (State.isArrayOf_alike hZ.alike Ar319.2.1) Ar319.2.2 hin319 (H319.at hin319 rfl) (g := (mkF m 110 #[ci p0, ci p1, ci p2, ci p3, ci p4, ci 2, ci 0, cr b104, cr b272, cr b316, cu] [(.int 0), (.ref b104)])) rfl rfl (hb hby at_110)) ?_
     refine wbpW X315 hx hby at_111 ?_
     refine wcyW (pc := 113) (pc' := 122) X315 hx hby at_113 (feq (hq0_ : ¬ (c0_ = (46 : Int32)))).2 ?_
     refine wilW X315 hx hby at_122 rfl ?_
     refine wicW X315 hx hby at_124 ?_
     refine wcnW X315 hx hby at_125 (tlt (by decide : (1 : Int32) < (2 : Int32))).2.2.2 ?_
     refine walW X315 hx hby at_128 rfl rfl ?_
     refine wicW X315 hx hby at_130 ?_
     obtain ⟨cl320, Ar320, q320, S320, M320, H320, G320⟩ := id ((V112.keep K271c nin0).keep K315c nin0)
     have hin320 := inb_of (j := (1 : Int32)) S320 ⟨by decide, by decide⟩
     refine EndsW.go (X315.caload hx (j := (1 : Int32)) (v := (.int c1_)) (by rw [e315]; exact Ar320.1) (State.isArrayOf_alike hZ.alike Ar320.2.1) Ar320.2.2 hin320 (H320.at hin320 rfl) (g := (mkF m 131 #[ci p0, ci p1, ci p2, ci p3, ci p4, ci 2, ci 0, cr b104, cr b272, cr b316, cu] [(.int 1), (.ref b104)])) rfl rfl (hb hby at_131)) ?_
     refine wbpW X315 hx hby at_132 ?_
     refine wcnW X315 hx hby at_134 (teq (hq1_ : c1_ = (46 : Int32))).2 ?_
     refine wicW X315 hx hby at_137 ?_
     refine wstW X315 hx hby at_138 (l' := #[ci p0, ci p1, ci p2, ci p3, ci p4, ci 2, ci 0, cr b104, cr b272, cr b316, ci 1]) rfl ?_
     refine wgoW (pc := 140) (pc' := 188) X315 hx hby at_140 ?_
     refine wilW X315 hx hby at_188 rfl ?_
     refine wiyW (pc := 190) (pc' := 204) X315 hx hby at_190 ((if0 _ _).trans (flt (by decide : ¬ ((1 : Int32) < (0 : Int32)))).2.1) ?_
     refine walW X315 hx hby at_204 rfl rfl ?_
     refine .go (fun _ => XS.ifnullNo X315.here hx rfl (hb hby at_206) rfl) ?_
     refine walW X315 hx hby at_209 rfl rfl ?_
     obtain ⟨cq321, kq321, q321a, q321b, q321c⟩ := isOf hZ e315 Y315_0
     obtain ⟨_, _, ⟨T321, L321, k321, n321⟩, -, X321, ⟨Lc321, hQ321, l321, y321, z321⟩, st321⟩ := X315.virtualBack hx (y := ym11) (z := ym11) hown (ov hZ hw 103 rfl) (ov hZ hw 50 rfl) (notFace_of_selects (args := #[]) (ov hZ hw 52 rfl)) (ov hZ hw 52 rfl) (ov hZ hw 51 rfl) (by decide) (own_backOf (W := 0) (rx10_33 l Z a0 hw [] n0 h315 O315 G1 G3 GF b316 b317 k318 c0_ Y315_2 Y315_1 Y315_3 Y315_0) hZ (ow hw 53 rfl) (ow hw 10 rfl) (by decide) (by decide)) q321a q321c (g := (mkF m 211 #[ci p0, ci p1, ci p2, ci p3, ci p4, ci 2, ci 0, cr b104, cr b272, cr b316, ci 1] [(.ref b316)])) rfl (by rw [hml]; rfl) (Steps.refl _) (argsL := []) (rest := []) (lenOf pdx_4 rfl) rfl (own_w rfl) (hb hby at_211) (fun _ _ => ⟨rfl, e315, (by decide : 6 + 0 ≤ _), (by decide : 17 + 0 ≤ _)⟩)
     dsimp only [Pt.U, Pt.locs, Pt.cells, Pt.slots] at X321 l321 y321 z321 st321 hQ321
     subst l321 y321 z321
     obtain ⟨rfl, N321q, K321c⟩ := hQ321
     have N321 := Fr.app N315 N321q
     refine EndsW.go (fun _ k => st321.trans k) ?_
     obtain ⟨h321, e321⟩ : ∃ z, T321.heap = z := ⟨_, rfl⟩
     rw [e321] at K321c
     have O321 := O315.keep K321c all0
     refine wilW X321 hx hby at_214 rfl ?_
     refine wcyW (pc := 216) (pc' := 221) X321 hx hby at_216 (teq (by decide : (1 : Int32) = (1 : Int32))).1 ?_
     refine wilW X321 hx hby at_221 rfl ?_
     show EndsW _ _ _ _ T321 (mkF m 223 #[ci p0, ci p1, ci p2, ci p3, ci p4, ci 2, ci 0, cr b104, cr b272, cr b316, ci 1] [(.int 1)]) _ _ _
     refine wicW X321 hx hby at_223 ?_
     refine wcnW X321 hx hby at_224 (flt (by decide : ¬ ((1 : Int32) < (1 : Int32)))).1 ?_
     refine walW X321 hx hby at_227 rfl rfl ?_
     refine wicW X321 hx hby at_229 ?_
     obtain ⟨cq330, kq330, q330a, q330b, q330c⟩ := isOf hZ e321 (Y315_0.keep K321c)
     obtain ⟨_, _, ⟨T330, L330, k330, n330⟩, -, X330, ⟨Lc330, hQ330, l330, y330, z330⟩, st330⟩ := X321.virtualBack hx (y := ym29) (z := ym29) hown (ov hZ hw 123 rfl) (ov hZ hw 124 rfl) (notFace_of_selects (args := #[]) (ov hZ hw 126 rfl)) (ov hZ hw 126 rfl) (ov hZ hw 125 rfl) (by decide) (own_backOf (W := 0) (rx28_322 l Z a0 hw [] n0 h321 O321 G1 G3 GF b316 b317 k318 c0_ (Y315_3.keep K321c nin0) (Y315_0.keep K321c) (Y315_2.keep K321c nin0) (Y315_1.keep K321c nin0) hc0_) hZ (ow hw 127 rfl) (ow hw 10 rfl) (by decide) (by decide)) q330a q330c (g := (mkF m 230 #[ci p0, ci p1, ci p2, ci p3, ci p4, ci 2, ci 0, cr b104, cr b272, cr b316, ci 1] [(.int 0), (.ref b316)])) rfl (by rw [hml]; rfl) (Steps.refl _) (argsL := [(.int 0)]) (rest := []) (lenOf pdx_6 rfl) rfl (own_w rfl) (hb hby at_230) (fun _ _ => ⟨rfl, e321, (by decide : 6 + 0 ≤ _), (by decide : 17 + 0 ≤ _)⟩)
     dsimp only [Pt.U, Pt.locs, Pt.cells, Pt.slots] at X330 l330 y330 z330 st330 hQ330
     subst l330 y330 z330
     obtain ⟨rfl, N330q, K330c⟩ := hQ330
     have N330 := Fr.app N321 N330q
     refine EndsW.go (fun _ k => st330.trans k) ?_
     obtain ⟨h330, e330⟩ : ∃ z, T330.heap = z := ⟨_, rfl⟩
     rw [e330] at K330c
     refine walW X330 hx hby at_233 rfl rfl ?_
     refine wicW X330 hx hby at_235 ?_
     obtain ⟨cl331, Ar331, q331, S331, M331, H331, G331⟩ := id ((((V112.keep K271c nin0).keep K315c nin0).keep K321c nin0).keep K330c nin0)
     have hin331 := inb_of (j := (0 : Int32)) S331 ⟨by decide, by decide⟩
     refine EndsW.go (X330.caload hx (j := (0 : Int32)) (v := (.int c0_)) (by rw [e330]; exact Ar331.1) (State.isArrayOf_alike hZ.alike Ar331.2.1) Ar331.2.2 hin331 (H331.at hin331 rfl) (g := (mkF m 236 #[ci p0, ci p1, ci p2, ci p3, ci p4, ci 2, ci 0, cr b104, cr b272, cr b316, ci 1] [(.int 0), (.ref b104), (.int c0_)])) rfl rfl (hb hby at_236)) ?_
     refine wcnW X330 hx hby at_237 (teq (rfl : c0_ = c0_)).2 ?_
     refine wilW X330 hx hby at_240 rfl ?_
     refine wicW X330 hx hby at_242 ?_
     refine wcyW (pc := 243) (pc' := 259) X330 hx hby at_243 (tlt (by decide : (1 : Int32) < (2 : Int32))).1 ?_
     refine wilW X330 hx hby at_259 rfl ?_
     refine wicW X330 hx hby at_261 ?_
     refine wcyW (pc := 262) (pc' := 278) X330 hx hby at_262 (tlt (by decide : (1 : Int32) < (3 : Int32))).1 ?_
     refine wicW X330 hx hby at_278 ?_
     refine wgoW (pc := 279) (pc' := 283) X330 hx hby at_279 ?_
     refine EndsW.retZ (s := s) (vm := s.vm) X330 hx hS0 (Nat.le_trans (Nat.le_trans (Nat.le_trans (Nat.le_trans (Nat.le_trans (Nat.le_trans (Nat.le_trans (Nat.le_trans (Nat.le_trans (Nat.le_trans hk0 E104.1) (own_wrsz W106)) (own_wrsz W108)) (own_wrsz W110)) (own_wrsz W112)) K271c.1) K315c.1) K321c.1) K330c.1) (Nat.le_of_eq (congrArg Array.size e330.symm))) Bd.notSynchronized (t := .boolean) Bd.returns (by simp) (hb hby at_283) (by decide) (by decide) ?_
     exact ⟨rfl, N330⟩
    ·show EndsW _ _ _ _ T112 (mkF m 74 #[ci p0, ci p1, ci p2, ci p3, ci p4, ci 2, ci 0, cr b104, cu, cu, cu] [(.int 2), (.ref b104)]) _ _ _
     obtain ⟨_, _, ⟨T332, L332, k332, n332⟩, -, X332, ⟨Lc332, hQ332, l332, y332, z332⟩, st332⟩ := Jvm.LawKit.callS X112 hx (y := ym17) hown (ov hZ hw 5 rfl) (ov hZ hw 6 rfl) (ov hZ hw 3 rfl) (ov hZ hw 7 rfl) (by decide) (own_backOf (W := 0) (rx2_210 l Z a0 hw [] n0 h112 O112 G1 G3 GF b104 k104 c0_ c1_ c2_ c3_ V112 hc0_ hc1_) hZ (ow hw 7 rfl) (ow hw 3 rfl) (by decide) (by decide)) (g := (mkF m 74 #[ci p0, ci p1, ci p2, ci p3, ci p4, ci 2, ci 0, cr b104, cu, cu, cu] [(.int 2), (.ref b104)])) rfl (by rw [hml]; rfl) (argsL := [(.ref b104), (.int 2)]) (rest := []) (lenOf pdx_9 rfl) rfl (own_w rfl) (hb hby at_74) (fun _ _ => ⟨rfl, e112, (by decide : 1 + 3 ≤ _), (by decide : 4 + 8 ≤ _)⟩)
     dsimp only [Pt.U, Pt.locs, Pt.cells, Pt.slots] at X332 l332 y332 z332 st332 hQ332
     subst l332 y332 z332
     obtain ⟨b333, b334, b335, k336, k337, rfl, N332q, K332c, hb332_b333, hb332_b334, hb332_b335, hne332_b333_b334, hne332_b333_b335, hne332_b334_b335, Y332_0, Y332_1, Y332_2, Y332_3, Y332_4⟩ := hQ332
     have N332 := Fr.app N112 N332q
     refine EndsW.go st332 ?_
     obtain ⟨h332, e332⟩ : ∃ z, T332.heap = z := ⟨_, rfl⟩
     rw [e332] at K332c Y332_0 Y332_1 Y332_2 Y332_3 Y332_4
     have O332 := O112.keep K332c all0
     refine wasW X332 hx hby at_77 (l' := #[ci p0, ci p1, ci p2, ci p3, ci p4, ci 2, ci 0, cr b104, cr b333, cu, cu]) rfl rfl ?_
     refine walW X332 hx hby at_79 rfl rfl ?_
     obtain ⟨_, _, ⟨T340, L340, k340, n340⟩, -, X340, ⟨Lc340, hQ340, l340, y340, z340⟩, st340⟩ := Jvm.LawKit.callS X332 hx (y := ym18) hown (ov hZ hw 29 rfl) (ov hZ hw 30 rfl) (ov hZ hw 31 rfl) (ov hZ hw 32 rfl) (by decide) (own_backOf (W := 0) (rx6_338 l Z a0 hw [] n0 h332 O332 G1 G3 GF b333 b335 k337 c0_ c1_ Y332_4 Y332_0 Y332_3 Y332_2 hq0_ hq1_ hc0_ hc1_) hZ (ow hw 32 rfl) (ow hw 31 rfl) (by decide) (by decide)) (g := (mkF m 81 #[ci p0, ci p1, ci p2, ci p3, ci p4, ci 2, ci 0, cr b104, cr b333, cu, cu] [(.ref b333)])) rfl (by rw [hml]; rfl) (argsL := [(.ref b333)]) (rest := []) (lenOf pdx_11 rfl) rfl (own_w rfl) (hb hby at_81) (fun _ _ => ⟨rfl, e332, (by decide : 4 + 0 ≤ _), (by decide : 12 + 0 ≤ _)⟩)
     dsimp only [Pt.U, Pt.locs, Pt.cells, Pt.slots] at X340 l340 y340 z340 st340 hQ340
     subst l340 y340 z340
     obtain ⟨rfl, N340q, K340c⟩ := hQ340
     have N340 := Fr.app N332 N340q
     refine EndsW.go st340 ?_
     obtain ⟨h340, e340⟩ : ∃ z, T340.heap = z := ⟨_, rfl⟩
     rw [e340] at K340c
     refine wasW X340 hx hby at_84 (l' := #[ci p0, ci p1, ci p2, ci p3, ci p4, ci 2, ci 0, cr b104, cr b333, .val .null, cu]) rfl rfl ?_
     refine wilW X340 hx hby at_86 rfl ?_
     refine wiyW (pc := 88) (pc' := 102) X340 hx hby at_88 ((if0 _ _).trans (teq (by decide : (0 : Int32) = (0 : Int32))).1) ?_
     refine wilW X340 hx hby at_102 rfl ?_
     refine winW X340 hx hby at_104 ((if0 _ _).trans (tlt (by decide : (0 : Int32) < (2 : Int32))).2.2.2) ?_
     refine walW X340 hx hby at_107 rfl rfl ?_
     refine wicW X340 hx hby at_109 ?_
     obtain ⟨cl341, Ar341, q341, S341, M341, H341, G341⟩ := id ((V112.keep K332c nin0).keep K340c nin0)
     have hin341 := inb_of (j := (0 : Int32)) S341 ⟨by decide, by decide⟩
     refine EndsW.go (X340.caload hx (j := (0 : Int32)) (v := (.int c0_)) (by rw [e340]; exact Ar341.1) (State.isArrayOf_alike hZ.alike Ar341.2.1) Ar341.2.2 hin341 (H341.at hin341 rfl) (g := (mkF m 110 #[ci p0, ci p1, ci p2, ci p3, ci p4, ci 2, ci 0, cr b104, cr b333, .val .null, cu] [(.int 0), (.ref b104)])) rfl rfl (hb hby at_110)) ?_
     show EndsW _ _ _ _ T340 (mkF m 111 #[ci p0, ci p1, ci p2, ci p3, ci p4, ci 2, ci 0, cr b104, cr b333, .val .null, cu] [(.int c0_)]) _ _ _
     refine wbpW X340 hx hby at_111 ?_
     refine wcyW (pc := 113) (pc' := 122) X340 hx hby at_113 (feq (hq0_ : ¬ (c0_ = (46 : Int32)))).2 ?_
     refine wilW X340 hx hby at_122 rfl ?_
     refine wicW X340 hx hby at_124 ?_
     refine wcnW X340 hx hby at_125 (tlt (by decide : (1 : Int32) < (2 : Int32))).2.2.2 ?_
     refine walW X340 hx hby at_128 rfl rfl ?_
     refine wicW X340 hx hby at_130 ?_
     obtain ⟨cl342, Ar342, q342, S342, M342, H342, G342⟩ := id ((V112.keep K332c nin0).keep K340c nin0)
     have hin342 := inb_of (j := (1 : Int32)) S342 ⟨by decide, by decide⟩
     refine EndsW.go (X340.caload hx (j := (1 : Int32)) (v := (.int c1_)) (by rw [e340]; exact Ar342.1) (State.isArrayOf_alike hZ.alike Ar342.2.1) Ar342.2.2 hin342 (H342.at hin342 rfl) (g := (mkF m 131 #[ci p0, ci p1, ci p2, ci p3, ci p4, ci 2, ci 0, cr b104, cr b333, .val .null, cu] [(.int 1), (.ref b104)])) rfl rfl (hb hby at_131)) ?_
     refine wbpW X340 hx hby at_132 ?_
     refine wcyW (pc := 134) (pc' := 143) X340 hx hby at_134 (feq (hq1_ : ¬ (c1_ = (46 : Int32)))).2 ?_
     refine wilW X340 hx hby at_143 rfl ?_
     refine wicW X340 hx hby at_145 ?_
     refine wcyW (pc := 146) (pc' := 164) X340 hx hby at_146 (flt (by decide : ¬ ((2 : Int32) < (2 : Int32)))).2.2.2 ?_
     refine wilW X340 hx hby at_164 rfl ?_
     refine wicW X340 hx hby at_166 ?_
     refine wcyW (pc := 167) (pc' := 185) X340 hx hby at_167 (flt (by decide : ¬ ((3 : Int32) < (2 : Int32)))).2.2.2 ?_
     refine wicW X340 hx hby at_185 ?_
     refine wstW X340 hx hby at_186 (l' := #[ci p0, ci p1, ci p2, ci p3, ci p4, ci 2, ci 0, cr b104, cr b333, .val .null, ci (-1)]) rfl ?_
     refine wilW X340 hx hby at_188 rfl ?_
     refine winW X340 hx hby at_190 ((if0 _ _).trans (tlt (by decide : (-1 : Int32) < (0 : Int32))).2.1) ?_
     refine walW X340 hx hby at_193 rfl rfl ?_
     refine .go (fun _ => XS.ifnonnullNo X340.here hx rfl (hb hby at_195) rfl) ?_
     refine wicW X340 hx hby at_198 ?_
     refine wgoW (pc := 199) (pc' := 203) X340 hx hby at_199 ?_
     refine EndsW.retZ (s := s) (vm := s.vm) X340 hx hS0 (Nat.le_trans (Nat.le_trans (Nat.le_trans (Nat.le_trans (Nat.le_trans (Nat.le_trans (Nat.le_trans (Nat.le_trans hk0 E104.1) (own_wrsz W106)) (own_wrsz W108)) (own_wrsz W110)) (own_wrsz W112)) K332c.1) K340c.1) (Nat.le_of_eq (congrArg Array.size e340.symm))) Bd.notSynchronized (t := .boolean) Bd.returns (by simp) (hb hby at_203) (by decide) (by decide) ?_
     exact ⟨rfl, N340⟩
  ·by_cases hq0_ : c0_ = (46 : Int32)
   ·show EndsW _ _ _ _ T112 (mkF m 74 #[ci p0, ci p1, ci p2, ci p3, ci p4, ci 3, ci 0, cr b104, cu, cu, cu] [(.int 3), (.ref b104)]) _ _ _
    obtain ⟨_, _, ⟨T381, L381, k381, n381⟩, -, X381, ⟨Lc381, hQ381, l381, y381, z381⟩, st381⟩ := Jvm.LawKit.callS X112 hx (y := ym17) hown (ov hZ hw 5 rfl) (ov hZ hw 6 rfl) (ov hZ hw 3 rfl) (ov hZ hw 7 rfl) (by decide) (own_backOf (W := 0) (rx2_343 l Z a0 hw [] n0 h112 O112 G1 G3 GF b104 k104 c0_ c1_ c2_ c3_ V112 hc0_ hc1_ hc2_) hZ (ow hw 7 rfl) (ow hw 3 rfl) (by decide) (by decide)) (g := (mkF m 74 #[ci p0, ci p1, ci p2, ci p3, ci p4, ci 3, ci 0, cr b104, cu, cu, cu] [(.int 3), (.ref b104)])) rfl (by rw [hml]; rfl) (argsL := [(.ref b104), (.int 3)]) (rest := []) (lenOf pdx_9 rfl) rfl (own_w rfl) (hb hby at_74) (fun _ _ => ⟨rfl, e112, (by decide : 1 + 3 ≤ _), (by decide : 4 + 10 ≤ _)⟩)
    dsimp only [Pt.U, Pt.locs, Pt.cells, Pt.slots] at X381 l381 y381 z381 st381 hQ381
    subst l381 y381 z381
    obtain ⟨b382, b383, b384, k385, k386, rfl, N381q, K381c, hb381_b382, hb381_b383, hb381_b384, hne381_b382_b383, hne381_b382_b384, hne381_b383_b384, Y381_0, Y381_1, Y381_2, Y381_3, Y381_4⟩ := hQ381
    have N381 := Fr.app N112 N381q
    refine EndsW.go st381 ?_
    obtain ⟨h381, e381⟩ : ∃ z, T381.heap = z := ⟨_, rfl⟩
    rw [e381] at K381c Y381_0 Y381_1 Y381_2 Y381_3 Y381_4
    have O381 := O112.keep K381c all0
    refine wasW X381 hx hby at_77 (l' := #[ci p0, ci p1, ci p2, ci p3, ci p4, ci 3, ci 0, cr b104, cr b382, cu, cu]) rfl rfl ?_
    refine walW X381 hx hby at_79 rfl rfl ?_
    obtain ⟨_, _, ⟨T402, L402, k402, n402⟩, -, X402, hSq402, hgq402, ⟨Lc402, hQ402, l402, y402, z402⟩, st402⟩ := callSS X381 hx (y := ym18) hown (ov hZ hw 29 rfl) (ov hZ hw 30 rfl) (ov hZ hw 31 rfl) (ov hZ hw 32 rfl) (by decide) (own_backOfS (W := 0) (rx6_387 l Z a0 hw [] n0 h381 O381 G1 G3 GF b382 b384 k386 c0_ c1_ c2_ Y381_4 Y381_0 Y381_3 Y381_2 hq0_ hc0_) hZ (ow hw 32 rfl) (ow hw 31 rfl) (by decide) (by decide) hI) (g := (mkF m 81 #[ci p0, ci p1, ci p2, ci p3, ci p4, ci 3, ci 0, cr b104, cr b382, cu, cu] [(.ref b382)])) rfl (by rw [hml]; rfl) (argsL := [(.ref b382)]) (rest := []) (lenOf pdx_11 rfl) rfl (own_w rfl) (hb hby at_81) (fun _ _ => ⟨rfl, e381, (by decide : 4 + 2 ≤ _), (by decide : 14 + 4 ≤ _)⟩)
    dsimp only [Pt.U, Pt.locs, Pt.cells, Pt.slots] at X402 l402 y402 z402 st402 hQ402 hSq402 hgq402
    subst l402 y402 z402
    have hS402 := foldS hS0 (Nat.le_trans (Nat.le_trans (Nat.le_trans (Nat.le_trans (Nat.le_trans (Nat.le_trans (Nat.le_trans hk0 E104.1) (own_wrsz W106)) (own_wrsz W108)) (own_wrsz W110)) (own_wrsz W112)) K381c.1) (Nat.le_of_eq (congrArg Array.size e381.symm))) hSq402 hgq402
    have hZ : Z.Warmed39 (s.setVm T402.vm).vm := State.Warmed39.trans (t := s.setVm s.vm) hZ hSq402.1
    have hown : (s.setVm T402.vm).vm.findClass "com/example/wakeline/wakeline/format/shareplex/SharePlexMessageDatabasePinLaw" = some m.cls := by rw [show (s.setVm T402.vm).vm = T402.vm from rfl, hSq402.1.alike.findClass]; exact hown
    obtain ⟨k403, a404, a405, rfl, N402q, K402c, Y402_0, Y402_1, Y402_2, Y402_3⟩ := hQ402
    have N402 := Fr.app N381 N402q
    refine EndsW.go (fun _ k => st402.trans k) ?_
    obtain ⟨h402, e402⟩ : ∃ z, T402.heap = z := ⟨_, rfl⟩
    rw [e402] at K402c Y402_0 Y402_1 Y402_2 Y402_3
    have O402 := O381.keep K402c all0
    refine wasW X402 hx hby at_84 (l' := #[ci p0, ci p1, ci p2, ci p3, ci p4, ci 3, ci 0, cr b104, cr b382, cr a404, cu]) rfl rfl ?_
    show EndsW _ _ _ _ T402 (mkF m 86 #[ci p0, ci p1, ci p2, ci p3, ci p4, ci 3, ci 0, cr b104, cr b382, cr a404, cu] []) _ _ _
    refine wilW X402 hx hby at_86 rfl ?_
    refine wiyW (pc := 88) (pc' := 102) X402 hx hby at_88 ((if0 _ _).trans (teq (by decide : (0 : Int32) = (0 : Int32))).1) ?_
    refine wilW X402 hx hby at_102 rfl ?_
    refine winW X402 hx hby at_104 ((if0 _ _).trans (tlt (by decide : (0 : Int32) < (3 : Int32))).2.2.2) ?_
    refine walW X402 hx hby at_107 rfl rfl ?_
    refine wicW X402 hx hby at_109 ?_
    obtain ⟨cl406, Ar406, q406, S406, M406, H406, G406⟩ := id ((V112.keep K381c nin0).keep K402c nin0)
    have hin406 := inb_of (j := (0 : Int32)) S406 ⟨by decide, by decide⟩
    refine EndsW.go (X402.caload hx (j := (0 : Int32)) (v := (.int c0_)) (by rw [e402]; exact Ar406.1) (State.isArrayOf_alike hZ.alike Ar406.2.1) Ar406.2.2 hin406 (H406.at hin406 rfl) (g := (mkF m 110 #[ci p0, ci p1, ci p2, ci p3, ci p4, ci 3, ci 0, cr b104, cr b382, cr a404, cu] [(.int 0), (.ref b104)])) rfl rfl (hb hby at_110)) ?_
    refine wbpW X402 hx hby at_111 ?_
    refine wcnW X402 hx hby at_113 (teq (hq0_ : c0_ = (46 : Int32))).2 ?_
    refine wicW X402 hx hby at_116 ?_
    refine wstW X402 hx hby at_117 (l' := #[ci p0, ci p1, ci p2, ci p3, ci p4, ci 3, ci 0, cr b104, cr b382, cr a404, ci 0]) rfl ?_
    refine wgoW (pc := 119) (pc' := 188) X402 hx hby at_119 ?_
    refine wilW X402 hx hby at_188 rfl ?_
    refine wiyW (pc := 190) (pc' := 204) X402 hx hby at_190 ((if0 _ _).trans (flt (by decide : ¬ ((0 : Int32) < (0 : Int32)))).2.1) ?_
    refine walW X402 hx hby at_204 rfl rfl ?_
    refine .go (fun _ => XS.ifnullNo X402.here hx rfl (hb hby at_206) rfl) ?_
    refine walW X402 hx hby at_209 rfl rfl ?_
    obtain ⟨cq407, kq407, q407a, q407b, q407c⟩ := isOf hZ e402 Y402_0
    obtain ⟨_, _, ⟨T407, L407, k407, n407⟩, -, X407, ⟨Lc407, hQ407, l407, y407, z407⟩, st407⟩ := X402.virtualBack hx (y := ym11) (z := ym11) hown (ov hZ hw 103 rfl) (ov hZ hw 50 rfl) (notFace_of_selects (args := #[]) (ov hZ hw 52 rfl)) (ov hZ hw 52 rfl) (ov hZ hw 51 rfl) (by decide) (own_backOf (W := 0) (rx10_13 l Z a0 hw [] n0 h402 O402 G1 G3 GF a404 a405 k403 Y402_2 Y402_3 Y402_1 Y402_0) hZ (ow hw 53 rfl) (ow hw 10 rfl) (by decide) (by decide)) q407a q407c (g := (mkF m 211 #[ci p0, ci p1, ci p2, ci p3, ci p4, ci 3, ci 0, cr b104, cr b382, cr a404, ci 0] [(.ref a404)])) rfl (by rw [hml]; rfl) (Steps.refl _) (argsL := []) (rest := []) (lenOf pdx_4 rfl) rfl (own_w rfl) (hb hby at_211) (fun _ _ => ⟨rfl, e402, (by decide : 6 + 0 ≤ _), (by decide : 18 + 0 ≤ _)⟩)
    dsimp only [Pt.U, Pt.locs, Pt.cells, Pt.slots] at X407 l407 y407 z407 st407 hQ407
    subst l407 y407 z407
    obtain ⟨rfl, N407q, K407c⟩ := hQ407
    have N407 := Fr.app N402 N407q
    refine EndsW.go (fun _ k => st407.trans k) ?_
    obtain ⟨h407, e407⟩ : ∃ z, T407.heap = z := ⟨_, rfl⟩
    rw [e407] at K407c
    refine wilW X407 hx hby at_214 rfl ?_
    refine wcyW (pc := 216) (pc' := 221) X407 hx hby at_216 (teq (by decide : (0 : Int32) = (0 : Int32))).1 ?_
    refine wilW X407 hx hby at_221 rfl ?_
    refine wicW X407 hx hby at_223 ?_
    refine wcyW (pc := 224) (pc' := 240) X407 hx hby at_224 (tlt (by decide : (0 : Int32) < (1 : Int32))).1 ?_
    refine wilW X407 hx hby at_240 rfl ?_
    refine wicW X407 hx hby at_242 ?_
    refine wcyW (pc := 243) (pc' := 259) X407 hx hby at_243 (tlt (by decide : (0 : Int32) < (2 : Int32))).1 ?_
    refine wilW X407 hx hby at_259 rfl ?_
    refine wicW X407 hx hby at_261 ?_
    refine wcyW (pc := 262) (pc' := 278) X407 hx hby at_262 (tlt (by decide : (0 : Int32) < (3 : Int32))).1 ?_
    refine wicW X407 hx hby at_278 ?_
    show EndsW _ _ _ _ T407 (mkF m 279 #[ci p0, ci p1, ci p2, ci p3, ci p4, ci 3, ci 0, cr b104, cr b382, cr a404, ci 0] [(.int 1)]) _ _ _
    refine wgoW (pc := 279) (pc' := 283) X407 hx hby at_279 ?_
    refine EndsW.retZ (s := s) (vm := T402.vm) X407 hx hS402 (Nat.le_trans (Nat.le_trans (Nat.le_of_eq (congrArg Array.size e402)) K407c.1) (Nat.le_of_eq (congrArg Array.size e407.symm))) Bd.notSynchronized (t := .boolean) Bd.returns (by simp) (hb hby at_283) (by decide) (by decide) ?_
    exact ⟨rfl, N407⟩
   ·by_cases hq1_ : c1_ = (46 : Int32)
    ·show EndsW _ _ _ _ T112 (mkF m 74 #[ci p0, ci p1, ci p2, ci p3, ci p4, ci 3, ci 0, cr b104, cu, cu, cu] [(.int 3), (.ref b104)]) _ _ _
     obtain ⟨_, _, ⟨T408, L408, k408, n408⟩, -, X408, ⟨Lc408, hQ408, l408, y408, z408⟩, st408⟩ := Jvm.LawKit.callS X112 hx (y := ym17) hown (ov hZ hw 5 rfl) (ov hZ hw 6 rfl) (ov hZ hw 3 rfl) (ov hZ hw 7 rfl) (by decide) (own_backOf (W := 0) (rx2_343 l Z a0 hw [] n0 h112 O112 G1 G3 GF b104 k104 c0_ c1_ c2_ c3_ V112 hc0_ hc1_ hc2_) hZ (ow hw 7 rfl) (ow hw 3 rfl) (by decide) (by decide)) (g := (mkF m 74 #[ci p0, ci p1, ci p2, ci p3, ci p4, ci 3, ci 0, cr b104, cu, cu, cu] [(.int 3), (.ref b104)])) rfl (by rw [hml]; rfl) (argsL := [(.ref b104), (.int 3)]) (rest := []) (lenOf pdx_9 rfl) rfl (own_w rfl) (hb hby at_74) (fun _ _ => ⟨rfl, e112, (by decide : 1 + 3 ≤ _), (by decide : 4 + 10 ≤ _)⟩)
     dsimp only [Pt.U, Pt.locs, Pt.cells, Pt.slots] at X408 l408 y408 z408 st408 hQ408
     subst l408 y408 z408
     obtain ⟨b409, b410, b411, k412, k413, rfl, N408q, K408c, hb408_b409, hb408_b410, hb408_b411, hne408_b409_b410, hne408_b409_b411, hne408_b410_b411, Y408_0, Y408_1, Y408_2, Y408_3, Y408_4⟩ := hQ408
     have N408 := Fr.app N112 N408q
     refine EndsW.go st408 ?_
     obtain ⟨h408, e408⟩ : ∃ z, T408.heap = z := ⟨_, rfl⟩
     rw [e408] at K408c Y408_0 Y408_1 Y408_2 Y408_3 Y408_4
     have O408 := O112.keep K408c all0
     refine wasW X408 hx hby at_77 (l' := #[ci p0, ci p1, ci p2, ci p3, ci p4, ci 3, ci 0, cr b104, cr b409, cu, cu]) rfl rfl ?_
     refine walW X408 hx hby at_79 rfl rfl ?_
     obtain ⟨_, _, ⟨T447, L447, k447, n447⟩, -, X447, ⟨Lc447, hQ447, l447, y447, z447⟩, st447⟩ := Jvm.LawKit.callS X408 hx (y := ym18) hown (ov hZ hw 29 rfl) (ov hZ hw 30 rfl) (ov hZ hw 31 rfl) (ov hZ hw 32 rfl) (by decide) (own_backOf (W := 0) (rx6_414 l Z a0 hw [] n0 h408 O408 G1 G3 GF b409 b411 k413 c0_ c1_ c2_ Y408_4 Y408_0 Y408_3 Y408_2 hq0_ hq1_ hc0_ hc1_) hZ (ow hw 32 rfl) (ow hw 31 rfl) (by decide) (by decide)) (g := (mkF m 81 #[ci p0, ci p1, ci p2, ci p3, ci p4, ci 3, ci 0, cr b104, cr b409, cu, cu] [(.ref b409)])) rfl (by rw [hml]; rfl) (argsL := [(.ref b409)]) (rest := []) (lenOf pdx_11 rfl) rfl (own_w rfl) (hb hby at_81) (fun _ _ => ⟨rfl, e408, (by decide : 4 + 2 ≤ _), (by decide : 14 + 5 ≤ _)⟩)
     dsimp only [Pt.U, Pt.locs, Pt.cells, Pt.slots] at X447 l447 y447 z447 st447 hQ447
     subst l447 y447 z447
     obtain ⟨b448, b449, k450, rfl, N447q, K447c, hb447_b448, hb447_b449, hne447_b448_b449, Y447_0, Y447_1, Y447_2, Y447_3⟩ := hQ447
     have N447 := Fr.app N408 N447q
     refine EndsW.go st447 ?_
     obtain ⟨h447, e447⟩ : ∃ z, T447.heap = z := ⟨_, rfl⟩
     rw [e447] at K447c Y447_0 Y447_1 Y447_2 Y447_3
     have O447 := O408.keep K447c all0
     refine wasW X447 hx hby at_84 (l' := #[ci p0, ci p1, ci p2, ci p3, ci p4, ci 3, ci 0, cr b104, cr b409, cr b448, cu]) rfl rfl ?_
     refine wilW X447 hx hby at_86 rfl ?_
     refine wiyW (pc := 88) (pc' := 102) X447 hx hby at_88 ((if0 _ _).trans (teq (by decide : (0 : Int32) = (0 : Int32))).1) ?_
     refine wilW X447 hx hby at_102 rfl ?_
     refine winW X447 hx hby at_104 ((if0 _ _).trans (tlt (by decide : (0 : Int32) < (3 : Int32))).2.2.2) ?_
     refine walW X447 hx hby at_107 rfl rfl ?_
     refine wicW X447 hx hby at_109 ?_
     obtain ⟨cl451, Ar451, q451, S451, M451, H451, G451⟩ := id ((V112.keep K408c nin0).keep K447c nin0)
     have hin451 := inb_of (j := (0 : Int32)) S451 ⟨by decide, by decide⟩
     refine EndsW.go (X447.caload hx (j := (0 : Int32)) (v := (.int c0_)) (by rw [e447]; exact Ar451.1) (State.isArrayOf_alike hZ.alike Ar451.2.1) Ar451.2.2 hin451 (H451.at hin451 rfl) (g := (mkF m 110 #[ci p0, ci p1, ci p2, ci p3, ci p4, ci 3, ci 0, cr b104, cr b409, cr b448, cu] [(.int 0), (.ref b104)])) rfl rfl (hb hby at_110)) ?_
     refine wbpW X447 hx hby at_111 ?_
     refine wcyW (pc := 113) (pc' := 122) X447 hx hby at_113 (feq (hq0_ : ¬ (c0_ = (46 : Int32)))).2 ?_
     refine wilW X447 hx hby at_122 rfl ?_
     refine wicW X447 hx hby at_124 ?_
     refine wcnW X447 hx hby at_125 (tlt (by decide : (1 : Int32) < (3 : Int32))).2.2.2 ?_
     refine walW X447 hx hby at_128 rfl rfl ?_
     refine wicW X447 hx hby at_130 ?_
     obtain ⟨cl452, Ar452, q452, S452, M452, H452, G452⟩ := id ((V112.keep K408c nin0).keep K447c nin0)
     have hin452 := inb_of (j := (1 : Int32)) S452 ⟨by decide, by decide⟩
     refine EndsW.go (X447.caload hx (j := (1 : Int32)) (v := (.int c1_)) (by rw [e447]; exact Ar452.1) (State.isArrayOf_alike hZ.alike Ar452.2.1) Ar452.2.2 hin452 (H452.at hin452 rfl) (g := (mkF m 131 #[ci p0, ci p1, ci p2, ci p3, ci p4, ci 3, ci 0, cr b104, cr b409, cr b448, cu] [(.int 1), (.ref b104)])) rfl rfl (hb hby at_131)) ?_
     refine wbpW X447 hx hby at_132 ?_
     refine wcnW X447 hx hby at_134 (teq (hq1_ : c1_ = (46 : Int32))).2 ?_
     refine wicW X447 hx hby at_137 ?_
     refine wstW X447 hx hby at_138 (l' := #[ci p0, ci p1, ci p2, ci p3, ci p4, ci 3, ci 0, cr b104, cr b409, cr b448, ci 1]) rfl ?_
     refine wgoW (pc := 140) (pc' := 188) X447 hx hby at_140 ?_
     refine wilW X447 hx hby at_188 rfl ?_
     refine wiyW (pc := 190) (pc' := 204) X447 hx hby at_190 ((if0 _ _).trans (flt (by decide : ¬ ((1 : Int32) < (0 : Int32)))).2.1) ?_
     refine walW X447 hx hby at_204 rfl rfl ?_
     show EndsW _ _ _ _ T447 (mkF m 206 #[ci p0, ci p1, ci p2, ci p3, ci p4, ci 3, ci 0, cr b104, cr b409, cr b448, ci 1] [(.ref b448)]) _ _ _
     refine .go (fun _ => XS.ifnullNo X447.here hx rfl (hb hby at_206) rfl) ?_
     refine walW X447 hx hby at_209 rfl rfl ?_
     obtain ⟨cq453, kq453, q453a, q453b, q453c⟩ := isOf hZ e447 Y447_0
     obtain ⟨_, _, ⟨T453, L453, k453, n453⟩, -, X453, ⟨Lc453, hQ453, l453, y453, z453⟩, st453⟩ := X447.virtualBack hx (y := ym11) (z := ym11) hown (ov hZ hw 103 rfl) (ov hZ hw 50 rfl) (notFace_of_selects (args := #[]) (ov hZ hw 52 rfl)) (ov hZ hw 52 rfl) (ov hZ hw 51 rfl) (by decide) (own_backOf (W := 0) (rx10_33 l Z a0 hw [] n0 h447 O447 G1 G3 GF b448 b449 k450 c0_ Y447_2 Y447_1 Y447_3 Y447_0) hZ (ow hw 53 rfl) (ow hw 10 rfl) (by decide) (by decide)) q453a q453c (g := (mkF m 211 #[ci p0, ci p1, ci p2, ci p3, ci p4, ci 3, ci 0, cr b104, cr b409, cr b448, ci 1] [(.ref b448)])) rfl (by rw [hml]; rfl) (Steps.refl _) (argsL := []) (rest := []) (lenOf pdx_4 rfl) rfl (own_w rfl) (hb hby at_211) (fun _ _ => ⟨rfl, e447, (by decide : 6 + 0 ≤ _), (by decide : 19 + 0 ≤ _)⟩)
     dsimp only [Pt.U, Pt.locs, Pt.cells, Pt.slots] at X453 l453 y453 z453 st453 hQ453
     subst l453 y453 z453
     obtain ⟨rfl, N453q, K453c⟩ := hQ453
     have N453 := Fr.app N447 N453q
     refine EndsW.go (fun _ k => st453.trans k) ?_
     obtain ⟨h453, e453⟩ : ∃ z, T453.heap = z := ⟨_, rfl⟩
     rw [e453] at K453c
     have O453 := O447.keep K453c all0
     refine wilW X453 hx hby at_214 rfl ?_
     refine wcyW (pc := 216) (pc' := 221) X453 hx hby at_216 (teq (by decide : (1 : Int32) = (1 : Int32))).1 ?_
     refine wilW X453 hx hby at_221 rfl ?_
     refine wicW X453 hx hby at_223 ?_
     refine wcnW X453 hx hby at_224 (flt (by decide : ¬ ((1 : Int32) < (1 : Int32)))).1 ?_
     refine walW X453 hx hby at_227 rfl rfl ?_
     refine wicW X453 hx hby at_229 ?_
     obtain ⟨cq454, kq454, q454a, q454b, q454c⟩ := isOf hZ e453 (Y447_0.keep K453c)
     obtain ⟨_, _, ⟨T454, L454, k454, n454⟩, -, X454, ⟨Lc454, hQ454, l454, y454, z454⟩, st454⟩ := X453.virtualBack hx (y := ym29) (z := ym29) hown (ov hZ hw 123 rfl) (ov hZ hw 124 rfl) (notFace_of_selects (args := #[]) (ov hZ hw 126 rfl)) (ov hZ hw 126 rfl) (ov hZ hw 125 rfl) (by decide) (own_backOf (W := 0) (rx28_322 l Z a0 hw [] n0 h453 O453 G1 G3 GF b448 b449 k450 c0_ (Y447_3.keep K453c nin0) (Y447_0.keep K453c) (Y447_2.keep K453c nin0) (Y447_1.keep K453c nin0) hc0_) hZ (ow hw 127 rfl) (ow hw 10 rfl) (by decide) (by decide)) q454a q454c (g := (mkF m 230 #[ci p0, ci p1, ci p2, ci p3, ci p4, ci 3, ci 0, cr b104, cr b409, cr b448, ci 1] [(.int 0), (.ref b448)])) rfl (by rw [hml]; rfl) (Steps.refl _) (argsL := [(.int 0)]) (rest := []) (lenOf pdx_6 rfl) rfl (own_w rfl) (hb hby at_230) (fun _ _ => ⟨rfl, e453, (by decide : 6 + 0 ≤ _), (by decide : 19 + 0 ≤ _)⟩)
     dsimp only [Pt.U, Pt.locs, Pt.cells, Pt.slots] at X454 l454 y454 z454 st454 hQ454
     subst l454 y454 z454
     obtain ⟨rfl, N454q, K454c⟩ := hQ454
     have N454 := Fr.app N453 N454q
     refine EndsW.go (fun _ k => st454.trans k) ?_
     obtain ⟨h454, e454⟩ : ∃ z, T454.heap = z := ⟨_, rfl⟩
     rw [e454] at K454c
     refine walW X454 hx hby at_233 rfl rfl ?_
     refine wicW X454 hx hby at_235 ?_
     obtain ⟨cl455, Ar455, q455, S455, M455, H455, G455⟩ := id ((((V112.keep K408c nin0).keep K447c nin0).keep K453c nin0).keep K454c nin0)
     have hin455 := inb_of (j := (0 : Int32)) S455 ⟨by decide, by decide⟩
     refine EndsW.go (X454.caload hx (j := (0 : Int32)) (v := (.int c0_)) (by rw [e454]; exact Ar455.1) (State.isArrayOf_alike hZ.alike Ar455.2.1) Ar455.2.2 hin455 (H455.at hin455 rfl) (g := (mkF m 236 #[ci p0, ci p1, ci p2, ci p3, ci p4, ci 3, ci 0, cr b104, cr b409, cr b448, ci 1] [(.int 0), (.ref b104), (.int c0_)])) rfl rfl (hb hby at_236)) ?_
     refine wcnW X454 hx hby at_237 (teq (rfl : c0_ = c0_)).2 ?_
     refine wilW X454 hx hby at_240 rfl ?_
     refine wicW X454 hx hby at_242 ?_
     refine wcyW (pc := 243) (pc' := 259) X454 hx hby at_243 (tlt (by decide : (1 : Int32) < (2 : Int32))).1 ?_
     refine wilW X454 hx hby at_259 rfl ?_
     refine wicW X454 hx hby at_261 ?_
     refine wcyW (pc := 262) (pc' := 278) X454 hx hby at_262 (tlt (by decide : (1 : Int32) < (3 : Int32))).1 ?_
     refine wicW X454 hx hby at_278 ?_
     refine wgoW (pc := 279) (pc' := 283) X454 hx hby at_279 ?_
     refine EndsW.retZ (s := s) (vm := s.vm) X454 hx hS0 (Nat.le_trans (Nat.le_trans (Nat.le_trans (Nat.le_trans (Nat.le_trans (Nat.le_trans (Nat.le_trans (Nat.le_trans (Nat.le_trans (Nat.le_trans hk0 E104.1) (own_wrsz W106)) (own_wrsz W108)) (own_wrsz W110)) (own_wrsz W112)) K408c.1) K447c.1) K453c.1) K454c.1) (Nat.le_of_eq (congrArg Array.size e454.symm))) Bd.notSynchronized (t := .boolean) Bd.returns (by simp) (hb hby at_283) (by decide) (by decide) ?_
     exact ⟨rfl, N454⟩
    ·by_cases hq2_ : c2_ = (46 : Int32)
     ·show EndsW _ _ _ _ T112 (mkF m 74 #[ci p0, ci p1, ci p2, ci p3, ci p4, ci 3, ci 0, cr b104, cu, cu, cu] [(.int 3), (.ref b104)]) _ _ _
      obtain ⟨_, _, ⟨T456, L456, k456, n456⟩, -, X456, ⟨Lc456, hQ456, l456, y456, z456⟩, st456⟩ := Jvm.LawKit.callS X112 hx (y := ym17) hown (ov hZ hw 5 rfl) (ov hZ hw 6 rfl) (ov hZ hw 3 rfl) (ov hZ hw 7 rfl) (by decide) (own_backOf (W := 0) (rx2_343 l Z a0 hw [] n0 h112 O112 G1 G3 GF b104 k104 c0_ c1_ c2_ c3_ V112 hc0_ hc1_ hc2_) hZ (ow hw 7 rfl) (ow hw 3 rfl) (by decide) (by decide)) (g := (mkF m 74 #[ci p0, ci p1, ci p2, ci p3, ci p4, ci 3, ci 0, cr b104, cu, cu, cu] [(.int 3), (.ref b104)])) rfl (by rw [hml]; rfl) (argsL := [(.ref b104), (.int 3)]) (rest := []) (lenOf pdx_9 rfl) rfl (own_w rfl) (hb hby at_74) (fun _ _ => ⟨rfl, e112, (by decide : 1 + 3 ≤ _), (by decide : 4 + 10 ≤ _)⟩)
      dsimp only [Pt.U, Pt.locs, Pt.cells, Pt.slots] at X456 l456 y456 z456 st456 hQ456
      subst l456 y456 z456
      obtain ⟨b457, b458, b459, k460, k461, rfl, N456q, K456c, hb456_b457, hb456_b458, hb456_b459, hne456_b457_b458, hne456_b457_b459, hne456_b458_b459, Y456_0, Y456_1, Y456_2, Y456_3, Y456_4⟩ := hQ456
      have N456 := Fr.app N112 N456q
      refine EndsW.go st456 ?_
      obtain ⟨h456, e456⟩ : ∃ z, T456.heap = z := ⟨_, rfl⟩
      rw [e456] at K456c Y456_0 Y456_1 Y456_2 Y456_3 Y456_4
      have O456 := O112.keep K456c all0
      refine wasW X456 hx hby at_77 (l' := #[ci p0, ci p1, ci p2, ci p3, ci p4, ci 3, ci 0, cr b104, cr b457, cu, cu]) rfl rfl ?_
      refine walW X456 hx hby at_79 rfl rfl ?_
      obtain ⟨_, _, ⟨T496, L496, k496, n496⟩, -, X496, ⟨Lc496, hQ496, l496, y496, z496⟩, st496⟩ := Jvm.LawKit.callS X456 hx (y := ym18) hown (ov hZ hw 29 rfl) (ov hZ hw 30 rfl) (ov hZ hw 31 rfl) (ov hZ hw 32 rfl) (by decide) (own_backOf (W := 0) (rx6_462 l Z a0 hw [] n0 h456 O456 G1 G3 GF b457 b459 k461 c0_ c1_ c2_ Y456_4 Y456_0 Y456_3 Y456_2 hq0_ hq1_ hq2_ hc0_ hc1_ hc2_) hZ (ow hw 32 rfl) (ow hw 31 rfl) (by decide) (by decide)) (g := (mkF m 81 #[ci p0, ci p1, ci p2, ci p3, ci p4, ci 3, ci 0, cr b104, cr b457, cu, cu] [(.ref b457)])) rfl (by rw [hml]; rfl) (argsL := [(.ref b457)]) (rest := []) (lenOf pdx_11 rfl) rfl (own_w rfl) (hb hby at_81) (fun _ _ => ⟨rfl, e456, (by decide : 4 + 2 ≤ _), (by decide : 14 + 6 ≤ _)⟩)
      dsimp only [Pt.U, Pt.locs, Pt.cells, Pt.slots] at X496 l496 y496 z496 st496 hQ496
      subst l496 y496 z496
      obtain ⟨b497, b498, k499, rfl, N496q, K496c, hb496_b497, hb496_b498, hne496_b497_b498, Y496_0, Y496_1, Y496_2, Y496_3⟩ := hQ496
      have N496 := Fr.app N456 N496q
      refine EndsW.go st496 ?_
      obtain ⟨h496, e496⟩ : ∃ z, T496.heap = z := ⟨_, rfl⟩
      rw [e496] at K496c Y496_0 Y496_1 Y496_2 Y496_3
      have O496 := O456.keep K496c all0
      refine wasW X496 hx hby at_84 (l' := #[ci p0, ci p1, ci p2, ci p3, ci p4, ci 3, ci 0, cr b104, cr b457, cr b497, cu]) rfl rfl ?_
      refine wilW X496 hx hby at_86 rfl ?_
      show EndsW _ _ _ _ T496 (mkF m 88 #[ci p0, ci p1, ci p2, ci p3, ci p4, ci 3, ci 0, cr b104, cr b457, cr b497, cu] [(.int 0)]) _ _ _
      refine wiyW (pc := 88) (pc' := 102) X496 hx hby at_88 ((if0 _ _).trans (teq (by decide : (0 : Int32) = (0 : Int32))).1) ?_
      refine wilW X496 hx hby at_102 rfl ?_
      refine winW X496 hx hby at_104 ((if0 _ _).trans (tlt (by decide : (0 : Int32) < (3 : Int32))).2.2.2) ?_
      refine walW X496 hx hby at_107 rfl rfl ?_
      refine wicW X496 hx hby at_109 ?_
      obtain ⟨cl500, Ar500, q500, S500, M500, H500, G500⟩ := id ((V112.keep K456c nin0).keep K496c nin0)
      have hin500 := inb_of (j := (0 : Int32)) S500 ⟨by decide, by decide⟩
      refine EndsW.go (X496.caload hx (j := (0 : Int32)) (v := (.int c0_)) (by rw [e496]; exact Ar500.1) (State.isArrayOf_alike hZ.alike Ar500.2.1) Ar500.2.2 hin500 (H500.at hin500 rfl) (g := (mkF m 110 #[ci p0, ci p1, ci p2, ci p3, ci p4, ci 3, ci 0, cr b104, cr b457, cr b497, cu] [(.int 0), (.ref b104)])) rfl rfl (hb hby at_110)) ?_
      refine wbpW X496 hx hby at_111 ?_
      refine wcyW (pc := 113) (pc' := 122) X496 hx hby at_113 (feq (hq0_ : ¬ (c0_ = (46 : Int32)))).2 ?_
      refine wilW X496 hx hby at_122 rfl ?_
      refine wicW X496 hx hby at_124 ?_
      refine wcnW X496 hx hby at_125 (tlt (by decide : (1 : Int32) < (3 : Int32))).2.2.2 ?_
      refine walW X496 hx hby at_128 rfl rfl ?_
      refine wicW X496 hx hby at_130 ?_
      obtain ⟨cl501, Ar501, q501, S501, M501, H501, G501⟩ := id ((V112.keep K456c nin0).keep K496c nin0)
      have hin501 := inb_of (j := (1 : Int32)) S501 ⟨by decide, by decide⟩
      refine EndsW.go (X496.caload hx (j := (1 : Int32)) (v := (.int c1_)) (by rw [e496]; exact Ar501.1) (State.isArrayOf_alike hZ.alike Ar501.2.1) Ar501.2.2 hin501 (H501.at hin501 rfl) (g := (mkF m 131 #[ci p0, ci p1, ci p2, ci p3, ci p4, ci 3, ci 0, cr b104, cr b457, cr b497, cu] [(.int 1), (.ref b104)])) rfl rfl (hb hby at_131)) ?_
      refine wbpW X496 hx hby at_132 ?_
      refine wcyW (pc := 134) (pc' := 143) X496 hx hby at_134 (feq (hq1_ : ¬ (c1_ = (46 : Int32)))).2 ?_
      refine wilW X496 hx hby at_143 rfl ?_
      refine wicW X496 hx hby at_145 ?_
      refine wcnW X496 hx hby at_146 (tlt (by decide : (2 : Int32) < (3 : Int32))).2.2.2 ?_
      refine walW X496 hx hby at_149 rfl rfl ?_
      refine wicW X496 hx hby at_151 ?_
      obtain ⟨cl502, Ar502, q502, S502, M502, H502, G502⟩ := id ((V112.keep K456c nin0).keep K496c nin0)
      have hin502 := inb_of (j := (2 : Int32)) S502 ⟨by decide, by decide⟩
      refine EndsW.go (X496.caload hx (j := (2 : Int32)) (v := (.int c2_)) (by rw [e496]; exact Ar502.1) (State.isArrayOf_alike hZ.alike Ar502.2.1) Ar502.2.2 hin502 (H502.at hin502 rfl) (g := (mkF m 152 #[ci p0, ci p1, ci p2, ci p3, ci p4, ci 3, ci 0, cr b104, cr b457, cr b497, cu] [(.int 2), (.ref b104)])) rfl rfl (hb hby at_152)) ?_
      refine wbpW X496 hx hby at_153 ?_
      refine wcnW X496 hx hby at_155 (teq (hq2_ : c2_ = (46 : Int32))).2 ?_
      refine wicW X496 hx hby at_158 ?_
      refine wstW X496 hx hby at_159 (l' := #[ci p0, ci p1, ci p2, ci p3, ci p4, ci 3, ci 0, cr b104, cr b457, cr b497, ci 2]) rfl ?_
      refine wgoW (pc := 161) (pc' := 188) X496 hx hby at_161 ?_
      refine wilW X496 hx hby at_188 rfl ?_
      refine wiyW (pc := 190) (pc' := 204) X496 hx hby at_190 ((if0 _ _).trans (flt (by decide : ¬ ((2 : Int32) < (0 : Int32)))).2.1) ?_
      refine walW X496 hx hby at_204 rfl rfl ?_
      show EndsW _ _ _ _ T496 (mkF m 206 #[ci p0, ci p1, ci p2, ci p3, ci p4, ci 3, ci 0, cr b104, cr b457, cr b497, ci 2] [(.ref b497)]) _ _ _
      refine .go (fun _ => XS.ifnullNo X496.here hx rfl (hb hby at_206) rfl) ?_
      refine walW X496 hx hby at_209 rfl rfl ?_
      obtain ⟨cq503, kq503, q503a, q503b, q503c⟩ := isOf hZ e496 Y496_0
      obtain ⟨_, _, ⟨T503, L503, k503, n503⟩, -, X503, ⟨Lc503, hQ503, l503, y503, z503⟩, st503⟩ := X496.virtualBack hx (y := ym11) (z := ym11) hown (ov hZ hw 103 rfl) (ov hZ hw 50 rfl) (notFace_of_selects (args := #[]) (ov hZ hw 52 rfl)) (ov hZ hw 52 rfl) (ov hZ hw 51 rfl) (by decide) (own_backOf (W := 0) (rx10_52 l Z a0 hw [] n0 h496 O496 G1 G3 GF b497 b498 k499 c0_ c1_ Y496_2 Y496_1 Y496_3 Y496_0) hZ (ow hw 53 rfl) (ow hw 10 rfl) (by decide) (by decide)) q503a q503c (g := (mkF m 211 #[ci p0, ci p1, ci p2, ci p3, ci p4, ci 3, ci 0, cr b104, cr b457, cr b497, ci 2] [(.ref b497)])) rfl (by rw [hml]; rfl) (Steps.refl _) (argsL := []) (rest := []) (lenOf pdx_4 rfl) rfl (own_w rfl) (hb hby at_211) (fun _ _ => ⟨rfl, e496, (by decide : 6 + 0 ≤ _), (by decide : 20 + 0 ≤ _)⟩)
      dsimp only [Pt.U, Pt.locs, Pt.cells, Pt.slots] at X503 l503 y503 z503 st503 hQ503
      subst l503 y503 z503
      obtain ⟨rfl, N503q, K503c⟩ := hQ503
      have N503 := Fr.app N496 N503q
      refine EndsW.go (fun _ k => st503.trans k) ?_
      obtain ⟨h503, e503⟩ : ∃ z, T503.heap = z := ⟨_, rfl⟩
      rw [e503] at K503c
      have O503 := O496.keep K503c all0
      refine wilW X503 hx hby at_214 rfl ?_
      refine wcyW (pc := 216) (pc' := 221) X503 hx hby at_216 (teq (by decide : (2 : Int32) = (2 : Int32))).1 ?_
      refine wilW X503 hx hby at_221 rfl ?_
      refine wicW X503 hx hby at_223 ?_
      refine wcnW X503 hx hby at_224 (flt (by decide : ¬ ((2 : Int32) < (1 : Int32)))).1 ?_
      refine walW X503 hx hby at_227 rfl rfl ?_
      refine wicW X503 hx hby at_229 ?_
      obtain ⟨cq512, kq512, q512a, q512b, q512c⟩ := isOf hZ e503 (Y496_0.keep K503c)
      obtain ⟨_, _, ⟨T512, L512, k512, n512⟩, -, X512, ⟨Lc512, hQ512, l512, y512, z512⟩, st512⟩ := X503.virtualBack hx (y := ym29) (z := ym29) hown (ov hZ hw 123 rfl) (ov hZ hw 124 rfl) (notFace_of_selects (args := #[]) (ov hZ hw 126 rfl)) (ov hZ hw 126 rfl) (ov hZ hw 125 rfl) (by decide) (own_backOf (W := 0) (rx28_504 l Z a0 hw [] n0 h503 O503 G1 G3 GF b497 b498 k499 c0_ c1_ (Y496_3.keep K503c nin0) (Y496_0.keep K503c) (Y496_2.keep K503c nin0) (Y496_1.keep K503c nin0) hc0_) hZ (ow hw 127 rfl) (ow hw 10 rfl) (by decide) (by decide)) q512a q512c (g := (mkF m 230 #[ci p0, ci p1, ci p2, ci p3, ci p4, ci 3, ci 0, cr b104, cr b457, cr b497, ci 2] [(.int 0), (.ref b497)])) rfl (by rw [hml]; rfl) (Steps.refl _) (argsL := [(.int 0)]) (rest := []) (lenOf pdx_6 rfl) rfl (own_w rfl) (hb hby at_230) (fun _ _ => ⟨rfl, e503, (by decide : 6 + 0 ≤ _), (by decide : 20 + 0 ≤ _)⟩)
      dsimp only [Pt.U, Pt.locs, Pt.cells, Pt.slots] at X512 l512 y512 z512 st512 hQ512
      subst l512 y512 z512
      obtain ⟨rfl, N512q, K512c⟩ := hQ512
      have N512 := Fr.app N503 N512q
      refine EndsW.go (fun _ k => st512.trans k) ?_
      obtain ⟨h512, e512⟩ : ∃ z, T512.heap = z := ⟨_, rfl⟩
      rw [e512] at K512c
      have O512 := O503.keep K512c all0
      refine walW X512 hx hby at_233 rfl rfl ?_
      refine wicW X512 hx hby at_235 ?_
      obtain ⟨cl513, Ar513, q513, S513, M513, H513, G513⟩ := id ((((V112.keep K456c nin0).keep K496c nin0).keep K503c nin0).keep K512c nin0)
      have hin513 := inb_of (j := (0 : Int32)) S513 ⟨by decide, by decide⟩
      refine EndsW.go (X512.caload hx (j := (0 : Int32)) (v := (.int c0_)) (by rw [e512]; exact Ar513.1) (State.isArrayOf_alike hZ.alike Ar513.2.1) Ar513.2.2 hin513 (H513.at hin513 rfl) (g := (mkF m 236 #[ci p0, ci p1, ci p2, ci p3, ci p4, ci 3, ci 0, cr b104, cr b457, cr b497, ci 2] [(.int 0), (.ref b104), (.int c0_)])) rfl rfl (hb hby at_236)) ?_
      refine wcnW X512 hx hby at_237 (teq (rfl : c0_ = c0_)).2 ?_
      refine wilW X512 hx hby at_240 rfl ?_
      refine wicW X512 hx hby at_242 ?_
      refine wcnW X512 hx hby at_243 (flt (by decide : ¬ ((2 : Int32) < (2 : Int32)))).1 ?_
      refine walW X512 hx hby at_246 rfl rfl ?_
      refine wicW X512 hx hby at_248 ?_
      obtain ⟨cq522, kq522, q522a, q522b, q522c⟩ := isOf hZ e512 ((Y496_0.keep K503c).keep K512c)
      obtain ⟨_, _, ⟨T522, L522, k522, n522⟩, -, X522, ⟨Lc522, hQ522, l522, y522, z522⟩, st522⟩ := X512.virtualBack hx (y := ym29) (z := ym29) hown (ov hZ hw 123 rfl) (ov hZ hw 124 rfl) (notFace_of_selects (args := #[]) (ov hZ hw 126 rfl)) (ov hZ hw 126 rfl) (ov hZ hw 125 rfl) (by decide) (own_backOf (W := 0) (rx28_514 l Z a0 hw [] n0 h512 O512 G1 G3 GF b497 b498 k499 c0_ c1_ ((Y496_3.keep K503c nin0).keep K512c nin0) ((Y496_0.keep K503c).keep K512c) ((Y496_2.keep K503c nin0).keep K512c nin0) ((Y496_1.keep K503c nin0).keep K512c nin0) hc1_) hZ (ow hw 127 rfl) (ow hw 10 rfl) (by decide) (by decide)) q522a q522c (g := (mkF m 249 #[ci p0, ci p1, ci p2, ci p3, ci p4, ci 3, ci 0, cr b104, cr b457, cr b497, ci 2] [(.int 1), (.ref b497)])) rfl (by rw [hml]; rfl) (Steps.refl _) (argsL := [(.int 1)]) (rest := []) (lenOf pdx_6 rfl) rfl (own_w rfl) (hb hby at_249) (fun _ _ => ⟨rfl, e512, (by decide : 6 + 0 ≤ _), (by decide : 20 + 0 ≤ _)⟩)
      dsimp only [Pt.U, Pt.locs, Pt.cells, Pt.slots] at X522 l522 y522 z522 st522 hQ522
      subst l522 y522 z522
      obtain ⟨rfl, N522q, K522c⟩ := hQ522
      have N522 := Fr.app N512 N522q
      refine EndsW.go (fun _ k => st522.trans k) ?_
      obtain ⟨h522, e522⟩ : ∃ z, T522.heap = z := ⟨_, rfl⟩
      rw [e522] at K522c
      refine walW X522 hx hby at_252 rfl rfl ?_
      refine wicW X522 hx hby at_254 ?_
      obtain ⟨cl523, Ar523, q523, S523, M523, H523, G523⟩ := id (((((V112.keep K456c nin0).keep K496c nin0).keep K503c nin0).keep K512c nin0).keep K522c nin0)
      have hin523 := inb_of (j := (1 : Int32)) S523 ⟨by decide, by decide⟩
      refine EndsW.go (X522.caload hx (j := (1 : Int32)) (v := (.int c1_)) (by rw [e522]; exact Ar523.1) (State.isArrayOf_alike hZ.alike Ar523.2.1) Ar523.2.2 hin523 (H523.at hin523 rfl) (g := (mkF m 255 #[ci p0, ci p1, ci p2, ci p3, ci p4, ci 3, ci 0, cr b104, cr b457, cr b497, ci 2] [(.int 1), (.ref b104), (.int c1_)])) rfl rfl (hb hby at_255)) ?_
      refine wcnW X522 hx hby at_256 (teq (rfl : c1_ = c1_)).2 ?_
      refine wilW X522 hx hby at_259 rfl ?_
      refine wicW X522 hx hby at_261 ?_
      refine wcyW (pc := 262) (pc' := 278) X522 hx hby at_262 (tlt (by decide : (2 : Int32) < (3 : Int32))).1 ?_
      refine wicW X522 hx hby at_278 ?_
      refine wgoW (pc := 279) (pc' := 283) X522 hx hby at_279 ?_
      show EndsW _ _ _ _ T522 (mkF m 283 #[ci p0, ci p1, ci p2, ci p3, ci p4, ci 3, ci 0, cr b104, cr b457, cr b497, ci 2] [(.int 1)]) _ _ _
      refine EndsW.retZ (s := s) (vm := s.vm) X522 hx hS0 (Nat.le_trans (Nat.le_trans (Nat.le_trans (Nat.le_trans (Nat.le_trans (Nat.le_trans (Nat.le_trans (Nat.le_trans (Nat.le_trans (Nat.le_trans (Nat.le_trans hk0 E104.1) (own_wrsz W106)) (own_wrsz W108)) (own_wrsz W110)) (own_wrsz W112)) K456c.1) K496c.1) K503c.1) K512c.1) K522c.1) (Nat.le_of_eq (congrArg Array.size e522.symm))) Bd.notSynchronized (t := .boolean) Bd.returns (by simp) (hb hby at_283) (by decide) (by decide) ?_
      exact ⟨rfl, N522⟩
     ·show EndsW _ _ _ _ T112 (mkF m 74 #[ci p0, ci p1, ci p2, ci p3, ci p4, ci 3, ci 0, cr b104, cu, cu, cu] [(.int 3), (.ref b104)]) _ _ _
      obtain ⟨_, _, ⟨T524, L524, k524, n524⟩, -, X524, ⟨Lc524, hQ524, l524, y524, z524⟩, st524⟩ := Jvm.LawKit.callS X112 hx (y := ym17) hown (ov hZ hw 5 rfl) (ov hZ hw 6 rfl) (ov hZ hw 3 rfl) (ov hZ hw 7 rfl) (by decide) (own_backOf (W := 0) (rx2_343 l Z a0 hw [] n0 h112 O112 G1 G3 GF b104 k104 c0_ c1_ c2_ c3_ V112 hc0_ hc1_ hc2_) hZ (ow hw 7 rfl) (ow hw 3 rfl) (by decide) (by decide)) (g := (mkF m 74 #[ci p0, ci p1, ci p2, ci p3, ci p4, ci 3, ci 0, cr b104, cu, cu, cu] [(.int 3), (.ref b104)])) rfl (by rw [hml]; rfl) (argsL := [(.ref b104), (.int 3)]) (rest := []) (lenOf pdx_9 rfl) rfl (own_w rfl) (hb hby at_74) (fun _ _ => ⟨rfl, e112, (by decide : 1 + 3 ≤ _), (by decide : 4 + 10 ≤ _)⟩)
      dsimp only [Pt.U, Pt.locs, Pt.cells, Pt.slots] at X524 l524 y524 z524 st524 hQ524
      subst l524 y524 z524
      obtain ⟨b525, b526, b527, k528, k529, rfl, N524q, K524c, hb524_b525, hb524_b526, hb524_b527, hne524_b525_b526, hne524_b525_b527, hne524_b526_b527, Y524_0, Y524_1, Y524_2, Y524_3, Y524_4⟩ := hQ524
      have N524 := Fr.app N112 N524q
      refine EndsW.go st524 ?_
      obtain ⟨h524, e524⟩ : ∃ z, T524.heap = z := ⟨_, rfl⟩
      rw [e524] at K524c Y524_0 Y524_1 Y524_2 Y524_3 Y524_4
      have O524 := O112.keep K524c all0
      refine wasW X524 hx hby at_77 (l' := #[ci p0, ci p1, ci p2, ci p3, ci p4, ci 3, ci 0, cr b104, cr b525, cu, cu]) rfl rfl ?_
      refine walW X524 hx hby at_79 rfl rfl ?_
      obtain ⟨_, _, ⟨T532, L532, k532, n532⟩, -, X532, ⟨Lc532, hQ532, l532, y532, z532⟩, st532⟩ := Jvm.LawKit.callS X524 hx (y := ym18) hown (ov hZ hw 29 rfl) (ov hZ hw 30 rfl) (ov hZ hw 31 rfl) (ov hZ hw 32 rfl) (by decide) (own_backOf (W := 0) (rx6_530 l Z a0 hw [] n0 h524 O524 G1 G3 GF b525 b527 k529 c0_ c1_ c2_ Y524_4 Y524_0 Y524_3 Y524_2 hq0_ hq1_ hq2_ hc0_ hc1_ hc2_) hZ (ow hw 32 rfl) (ow hw 31 rfl) (by decide) (by decide)) (g := (mkF m 81 #[ci p0, ci p1, ci p2, ci p3, ci p4, ci 3, ci 0, cr b104, cr b525, cu, cu] [(.ref b525)])) rfl (by rw [hml]; rfl) (argsL := [(.ref b525)]) (rest := []) (lenOf pdx_11 rfl) rfl (own_w rfl) (hb hby at_81) (fun _ _ => ⟨rfl, e524, (by decide : 4 + 0 ≤ _), (by decide : 14 + 0 ≤ _)⟩)
      dsimp only [Pt.U, Pt.locs, Pt.cells, Pt.slots] at X532 l532 y532 z532 st532 hQ532
      subst l532 y532 z532
      obtain ⟨rfl, N532q, K532c⟩ := hQ532
      have N532 := Fr.app N524 N532q
      refine EndsW.go st532 ?_
      obtain ⟨h532, e532⟩ : ∃ z, T532.heap = z := ⟨_, rfl⟩
      rw [e532] at K532c
      refine wasW X532 hx hby at_84 (l' := #[ci p0, ci p1, ci p2, ci p3, ci p4, ci 3, ci 0, cr b104, cr b525, .val .null, cu]) rfl rfl ?_
      refine wilW X532 hx hby at_86 rfl ?_
      refine wiyW (pc := 88) (pc' := 102) X532 hx hby at_88 ((if0 _ _).trans (teq (by decide : (0 : Int32) = (0 : Int32))).1) ?_
      refine wilW X532 hx hby at_102 rfl ?_
      refine winW X532 hx hby at_104 ((if0 _ _).trans (tlt (by decide : (0 : Int32) < (3 : Int32))).2.2.2) ?_
      refine walW X532 hx hby at_107 rfl rfl ?_
      refine wicW X532 hx hby at_109 ?_
      obtain ⟨cl533, Ar533, q533, S533, M533, H533, G533⟩ := id ((V112.keep K524c nin0).keep K532c nin0)
      have hin533 := inb_of (j := (0 : Int32)) S533 ⟨by decide, by decide⟩
      refine EndsW.go (X532.caload hx (j := (0 : Int32)) (v := (.int c0_)) (by rw [e532]; exact Ar533.1) (State.isArrayOf_alike hZ.alike Ar533.2.1) Ar533.2.2 hin533 (H533.at hin533 rfl) (g := (mkF m 110 #[ci p0, ci p1, ci p2, ci p3, ci p4, ci 3, ci 0, cr b104, cr b525, .val .null, cu] [(.int 0), (.ref b104)])) rfl rfl (hb hby at_110)) ?_
      refine wbpW X532 hx hby at_111 ?_
      refine wcyW (pc := 113) (pc' := 122) X532 hx hby at_113 (feq (hq0_ : ¬ (c0_ = (46 : Int32)))).2 ?_
      refine wilW X532 hx hby at_122 rfl ?_
      refine wicW X532 hx hby at_124 ?_
      refine wcnW X532 hx hby at_125 (tlt (by decide : (1 : Int32) < (3 : Int32))).2.2.2 ?_
      refine walW X532 hx hby at_128 rfl rfl ?_
      refine wicW X532 hx hby at_130 ?_
      obtain ⟨cl534, Ar534, q534, S534, M534, H534, G534⟩ := id ((V112.keep K524c nin0).keep K532c nin0)
      have hin534 := inb_of (j := (1 : Int32)) S534 ⟨by decide, by decide⟩
      refine EndsW.go (X532.caload hx (j := (1 : Int32)) (v := (.int c1_)) (by rw [e532]; exact Ar534.1) (State.isArrayOf_alike hZ.alike Ar534.2.1) Ar534.2.2 hin534 (H534.at hin534 rfl) (g := (mkF m 131 #[ci p0, ci p1, ci p2, ci p3, ci p4, ci 3, ci 0, cr b104, cr b525, .val .null, cu] [(.int 1), (.ref b104)])) rfl rfl (hb hby at_131)) ?_
      refine wbpW X532 hx hby at_132 ?_
      refine wcyW (pc := 134) (pc' := 143) X532 hx hby at_134 (feq (hq1_ : ¬ (c1_ = (46 : Int32)))).2 ?_
      refine wilW X532 hx hby at_143 rfl ?_
      refine wicW X532 hx hby at_145 ?_
      refine wcnW X532 hx hby at_146 (tlt (by decide : (2 : Int32) < (3 : Int32))).2.2.2 ?_
      refine walW X532 hx hby at_149 rfl rfl ?_
      refine wicW X532 hx hby at_151 ?_
      obtain ⟨cl535, Ar535, q535, S535, M535, H535, G535⟩ := id ((V112.keep K524c nin0).keep K532c nin0)
      have hin535 := inb_of (j := (2 : Int32)) S535 ⟨by decide, by decide⟩
      refine EndsW.go (X532.caload hx (j := (2 : Int32)) (v := (.int c2_)) (by rw [e532]; exact Ar535.1) (State.isArrayOf_alike hZ.alike Ar535.2.1) Ar535.2.2 hin535 (H535.at hin535 rfl) (g := (mkF m 152 #[ci p0, ci p1, ci p2, ci p3, ci p4, ci 3, ci 0, cr b104, cr b525, .val .null, cu] [(.int 2), (.ref b104)])) rfl rfl (hb hby at_152)) ?_
      refine wbpW X532 hx hby at_153 ?_
      show EndsW _ _ _ _ T532 (mkF m 155 #[ci p0, ci p1, ci p2, ci p3, ci p4, ci 3, ci 0, cr b104, cr b525, .val .null, cu] [(.int 46), (.int c2_)]) _ _ _
      refine wcyW (pc := 155) (pc' := 164) X532 hx hby at_155 (feq (hq2_ : ¬ (c2_ = (46 : Int32)))).2 ?_
      refine wilW X532 hx hby at_164 rfl ?_
      refine wicW X532 hx hby at_166 ?_
      refine wcyW (pc := 167) (pc' := 185) X532 hx hby at_167 (flt (by decide : ¬ ((3 : Int32) < (3 : Int32)))).2.2.2 ?_
      refine wicW X532 hx hby at_185 ?_
      refine wstW X532 hx hby at_186 (l' := #[ci p0, ci p1, ci p2, ci p3, ci p4, ci 3, ci 0, cr b104, cr b525, .val .null, ci (-1)]) rfl ?_
      refine wilW X532 hx hby at_188 rfl ?_
      refine winW X532 hx hby at_190 ((if0 _ _).trans (tlt (by decide : (-1 : Int32) < (0 : Int32))).2.1) ?_
      refine walW X532 hx hby at_193 rfl rfl ?_
      refine .go (fun _ => XS.ifnonnullNo X532.here hx rfl (hb hby at_195) rfl) ?_
      refine wicW X532 hx hby at_198 ?_
      refine wgoW (pc := 199) (pc' := 203) X532 hx hby at_199 ?_
      refine EndsW.retZ (s := s) (vm := s.vm) X532 hx hS0 (Nat.le_trans (Nat.le_trans (Nat.le_trans (Nat.le_trans (Nat.le_trans (Nat.le_trans (Nat.le_trans (Nat.le_trans hk0 E104.1) (own_wrsz W106)) (own_wrsz W108)) (own_wrsz W110)) (own_wrsz W112)) K524c.1) K532c.1) (Nat.le_of_eq (congrArg Array.size e532.symm))) Bd.notSynchronized (t := .boolean) Bd.returns (by simp) (hb hby at_203) (by decide) (by decide) ?_
      exact ⟨rfl, N532⟩
  ·by_cases hq0_ : c0_ = (46 : Int32)
   ·show EndsW _ _ _ _ T112 (mkF m 74 #[ci p0, ci p1, ci p2, ci p3, ci p4, ci 4, ci 0, cr b104, cu, cu, cu] [(.int 4), (.ref b104)]) _ _ _
    obtain ⟨_, _, ⟨T578, L578, k578, n578⟩, -, X578, ⟨Lc578, hQ578, l578, y578, z578⟩, st578⟩ := Jvm.LawKit.callS X112 hx (y := ym17) hown (ov hZ hw 5 rfl) (ov hZ hw 6 rfl) (ov hZ hw 3 rfl) (ov hZ hw 7 rfl) (by decide) (own_backOf (W := 0) (rx2_536 l Z a0 hw [] n0 h112 O112 G1 G3 GF b104 k104 c0_ c1_ c2_ c3_ V112 hc0_ hc1_ hc2_ hc3_) hZ (ow hw 7 rfl) (ow hw 3 rfl) (by decide) (by decide)) (g := (mkF m 74 #[ci p0, ci p1, ci p2, ci p3, ci p4, ci 4, ci 0, cr b104, cu, cu, cu] [(.int 4), (.ref b104)])) rfl (by rw [hml]; rfl) (argsL := [(.ref b104), (.int 4)]) (rest := []) (lenOf pdx_9 rfl) rfl (own_w rfl) (hb hby at_74) (fun _ _ => ⟨rfl, e112, (by decide : 1 + 3 ≤ _), (by decide : 4 + 12 ≤ _)⟩)
    dsimp only [Pt.U, Pt.locs, Pt.cells, Pt.slots] at X578 l578 y578 z578 st578 hQ578
    subst l578 y578 z578
    obtain ⟨b579, b580, b581, k582, k583, rfl, N578q, K578c, hb578_b579, hb578_b580, hb578_b581, hne578_b579_b580, hne578_b579_b581, hne578_b580_b581, Y578_0, Y578_1, Y578_2, Y578_3, Y578_4⟩ := hQ578
    have N578 := Fr.app N112 N578q
    refine EndsW.go st578 ?_
    obtain ⟨h578, e578⟩ : ∃ z, T578.heap = z := ⟨_, rfl⟩
    rw [e578] at K578c Y578_0 Y578_1 Y578_2 Y578_3 Y578_4
    have O578 := O112.keep K578c all0
    refine wasW X578 hx hby at_77 (l' := #[ci p0, ci p1, ci p2, ci p3, ci p4, ci 4, ci 0, cr b104, cr b579, cu, cu]) rfl rfl ?_
    refine walW X578 hx hby at_79 rfl rfl ?_
    obtain ⟨_, _, ⟨T599, L599, k599, n599⟩, -, X599, hSq599, hgq599, ⟨Lc599, hQ599, l599, y599, z599⟩, st599⟩ := callSS X578 hx (y := ym18) hown (ov hZ hw 29 rfl) (ov hZ hw 30 rfl) (ov hZ hw 31 rfl) (ov hZ hw 32 rfl) (by decide) (own_backOfS (W := 0) (rx6_584 l Z a0 hw [] n0 h578 O578 G1 G3 GF b579 b581 k583 c0_ c1_ c2_ c3_ Y578_4 Y578_0 Y578_3 Y578_2 hq0_ hc0_) hZ (ow hw 32 rfl) (ow hw 31 rfl) (by decide) (by decide) hI) (g := (mkF m 81 #[ci p0, ci p1, ci p2, ci p3, ci p4, ci 4, ci 0, cr b104, cr b579, cu, cu] [(.ref b579)])) rfl (by rw [hml]; rfl) (argsL := [(.ref b579)]) (rest := []) (lenOf pdx_11 rfl) rfl (own_w rfl) (hb hby at_81) (fun _ _ => ⟨rfl, e578, (by decide : 4 + 2 ≤ _), (by decide : 16 + 4 ≤ _)⟩)
    dsimp only [Pt.U, Pt.locs, Pt.cells, Pt.slots] at X599 l599 y599 z599 st599 hQ599 hSq599 hgq599
    subst l599 y599 z599
    have hS599 := foldS hS0 (Nat.le_trans (Nat.le_trans (Nat.le_trans (Nat.le_trans (Nat.le_trans (Nat.le_trans (Nat.le_trans hk0 E104.1) (own_wrsz W106)) (own_wrsz W108)) (own_wrsz W110)) (own_wrsz W112)) K578c.1) (Nat.le_of_eq (congrArg Array.size e578.symm))) hSq599 hgq599
    have hZ : Z.Warmed39 (s.setVm T599.vm).vm := State.Warmed39.trans (t := s.setVm s.vm) hZ hSq599.1
    have hown : (s.setVm T599.vm).vm.findClass "com/example/wakeline/wakeline/format/shareplex/SharePlexMessageDatabasePinLaw" = some m.cls := by rw [show (s.setVm T599.vm).vm = T599.vm from rfl, hSq599.1.alike.findClass]; exact hown
    obtain ⟨k600, a601, a602, rfl, N599q, K599c, Y599_0, Y599_1, Y599_2, Y599_3⟩ := hQ599
    have N599 := Fr.app N578 N599q
    refine EndsW.go (fun _ k => st599.trans k) ?_
    obtain ⟨h599, e599⟩ : ∃ z, T599.heap = z := ⟨_, rfl⟩
    rw [e599] at K599c Y599_0 Y599_1 Y599_2 Y599_3
    have O599 := O578.keep K599c all0
    refine wasW X599 hx hby at_84 (l' := #[ci p0, ci p1, ci p2, ci p3, ci p4, ci 4, ci 0, cr b104, cr b579, cr a601, cu]) rfl rfl ?_
    refine wilW X599 hx hby at_86 rfl ?_
    refine wiyW (pc := 88) (pc' := 102) X599 hx hby at_88 ((if0 _ _).trans (teq (by decide : (0 : Int32) = (0 : Int32))).1) ?_
    refine wilW X599 hx hby at_102 rfl ?_
    refine winW X599 hx hby at_104 ((if0 _ _).trans (tlt (by decide : (0 : Int32) < (4 : Int32))).2.2.2) ?_
    refine walW X599 hx hby at_107 rfl rfl ?_
    refine wicW X599 hx hby at_109 ?_
    obtain ⟨cl603, Ar603, q603, S603, M603, H603, G603⟩ := id ((V112.keep K578c nin0).keep K599c nin0)
    have hin603 := inb_of (j := (0 : Int32)) S603 ⟨by decide, by decide⟩
    refine EndsW.go (X599.caload hx (j := (0 : Int32)) (v := (.int c0_)) (by rw [e599]; exact Ar603.1) (State.isArrayOf_alike hZ.alike Ar603.2.1) Ar603.2.2 hin603 (H603.at hin603 rfl) (g := (mkF m 110 #[ci p0, ci p1, ci p2, ci p3, ci p4, ci 4, ci 0, cr b104, cr b579, cr a601, cu] [(.int 0), (.ref b104)])) rfl rfl (hb hby at_110)) ?_
    refine wbpW X599 hx hby at_111 ?_
    refine wcnW X599 hx hby at_113 (teq (hq0_ : c0_ = (46 : Int32))).2 ?_
    refine wicW X599 hx hby at_116 ?_
    refine wstW X599 hx hby at_117 (l' := #[ci p0, ci p1, ci p2, ci p3, ci p4, ci 4, ci 0, cr b104, cr b579, cr a601, ci 0]) rfl ?_
    refine wgoW (pc := 119) (pc' := 188) X599 hx hby at_119 ?_
    show EndsW _ _ _ _ T599 (mkF m 188 #[ci p0, ci p1, ci p2, ci p3, ci p4, ci 4, ci 0, cr b104, cr b579, cr a601, ci 0] []) _ _ _
    refine wilW X599 hx hby at_188 rfl ?_
    refine wiyW (pc := 190) (pc' := 204) X599 hx hby at_190 ((if0 _ _).trans (flt (by decide : ¬ ((0 : Int32) < (0 : Int32)))).2.1) ?_
    refine walW X599 hx hby at_204 rfl rfl ?_
    refine .go (fun _ => XS.ifnullNo X599.here hx rfl (hb hby at_206) rfl) ?_
    refine walW X599 hx hby at_209 rfl rfl ?_
    obtain ⟨cq604, kq604, q604a, q604b, q604c⟩ := isOf hZ e599 Y599_0
    obtain ⟨_, _, ⟨T604, L604, k604, n604⟩, -, X604, ⟨Lc604, hQ604, l604, y604, z604⟩, st604⟩ := X599.virtualBack hx (y := ym11) (z := ym11) hown (ov hZ hw 103 rfl) (ov hZ hw 50 rfl) (notFace_of_selects (args := #[]) (ov hZ hw 52 rfl)) (ov hZ hw 52 rfl) (ov hZ hw 51 rfl) (by decide) (own_backOf (W := 0) (rx10_13 l Z a0 hw [] n0 h599 O599 G1 G3 GF a601 a602 k600 Y599_2 Y599_3 Y599_1 Y599_0) hZ (ow hw 53 rfl) (ow hw 10 rfl) (by decide) (by decide)) q604a q604c (g := (mkF m 211 #[ci p0, ci p1, ci p2, ci p3, ci p4, ci 4, ci 0, cr b104, cr b579, cr a601, ci 0] [(.ref a601)])) rfl (by rw [hml]; rfl) (Steps.refl _) (argsL := []) (rest := []) (lenOf pdx_4 rfl) rfl (own_w rfl) (hb hby at_211) (fun _ _ => ⟨rfl, e599, (by decide : 6 + 0 ≤ _), (by decide : 20 + 0 ≤ _)⟩)
    dsimp only [Pt.U, Pt.locs, Pt.cells, Pt.slots] at X604 l604 y604 z604 st604 hQ604
    subst l604 y604 z604
    obtain ⟨rfl, N604q, K604c⟩ := hQ604
    have N604 := Fr.app N599 N604q
    refine EndsW.go (fun _ k => st604.trans k) ?_
    obtain ⟨h604, e604⟩ : ∃ z, T604.heap = z := ⟨_, rfl⟩
    rw [e604] at K604c
    refine wilW X604 hx hby at_214 rfl ?_
    refine wcyW (pc := 216) (pc' := 221) X604 hx hby at_216 (teq (by decide : (0 : Int32) = (0 : Int32))).1 ?_
    refine wilW X604 hx hby at_221 rfl ?_
    refine wicW X604 hx hby at_223 ?_
    refine wcyW (pc := 224) (pc' := 240) X604 hx hby at_224 (tlt (by decide : (0 : Int32) < (1 : Int32))).1 ?_
    refine wilW X604 hx hby at_240 rfl ?_
    refine wicW X604 hx hby at_242 ?_
    refine wcyW (pc := 243) (pc' := 259) X604 hx hby at_243 (tlt (by decide : (0 : Int32) < (2 : Int32))).1 ?_
    refine wilW X604 hx hby at_259 rfl ?_
    refine wicW X604 hx hby at_261 ?_
    refine wcyW (pc := 262) (pc' := 278) X604 hx hby at_262 (tlt (by decide : (0 : Int32) < (3 : Int32))).1 ?_
    refine wicW X604 hx hby at_278 ?_
    refine wgoW (pc := 279) (pc' := 283) X604 hx hby at_279 ?_
    refine EndsW.retZ (s := s) (vm := T599.vm) X604 hx hS599 (Nat.le_trans (Nat.le_trans (Nat.le_of_eq (congrArg Array.size e599)) K604c.1) (Nat.le_of_eq (congrArg Array.size e604.symm))) Bd.notSynchronized (t := .boolean) Bd.returns (by simp) (hb hby at_283) (by decide) (by decide) ?_
    exact ⟨rfl, N604⟩
   ·by_cases hq1_ : c1_ = (46 : Int32)
    ·show EndsW _ _ _ _ T112 (mkF m 74 #[ci p0, ci p1, ci p2, ci p3, ci p4, ci 4, ci 0, cr b104, cu, cu, cu] [(.int 4), (.ref b104)]) _ _ _
     obtain ⟨_, _, ⟨T605, L605, k605, n605⟩, -, X605, ⟨Lc605, hQ605, l605, y605, z605⟩, st605⟩ := Jvm.LawKit.callS X112 hx (y := ym17) hown (ov hZ hw 5 rfl) (ov hZ hw 6 rfl) (ov hZ hw 3 rfl) (ov hZ hw 7 rfl) (by decide) (own_backOf (W := 0) (rx2_536 l Z a0 hw [] n0 h112 O112 G1 G3 GF b104 k104 c0_ c1_ c2_ c3_ V112 hc0_ hc1_ hc2_ hc3_) hZ (ow hw 7 rfl) (ow hw 3 rfl) (by decide) (by decide)) (g := (mkF m 74 #[ci p0, ci p1, ci p2, ci p3, ci p4, ci 4, ci 0, cr b104, cu, cu, cu] [(.int 4), (.ref b104)])) rfl (by rw [hml]; rfl) (argsL := [(.ref b104), (.int 4)]) (rest := []) (lenOf pdx_9 rfl) rfl (own_w rfl) (hb hby at_74) (fun _ _ => ⟨rfl, e112, (by decide : 1 + 3 ≤ _), (by decide : 4 + 12 ≤ _)⟩)
     dsimp only [Pt.U, Pt.locs, Pt.cells, Pt.slots] at X605 l605 y605 z605 st605 hQ605
     subst l605 y605 z605
     obtain ⟨b606, b607, b608, k609, k610, rfl, N605q, K605c, hb605_b606, hb605_b607, hb605_b608, hne605_b606_b607, hne605_b606_b608, hne605_b607_b608, Y605_0, Y605_1, Y605_2, Y605_3, Y605_4⟩ := hQ605
     have N605 := Fr.app N112 N605q
     refine EndsW.go st605 ?_
     obtain ⟨h605, e605⟩ : ∃ z, T605.heap = z := ⟨_, rfl⟩
     rw [e605] at K605c Y605_0 Y605_1 Y605_2 Y605_3 Y605_4
     have O605 := O112.keep K605c all0
     refine wasW X605 hx hby at_77 (l' := #[ci p0, ci p1, ci p2, ci p3, ci p4, ci 4, ci 0, cr b104, cr b606, cu, cu]) rfl rfl ?_
     refine walW X605 hx hby at_79 rfl rfl ?_
     obtain ⟨_, _, ⟨T644, L644, k644, n644⟩, -, X644, ⟨Lc644, hQ644, l644, y644, z644⟩, st644⟩ := Jvm.LawKit.callS X605 hx (y := ym18) hown (ov hZ hw 29 rfl) (ov hZ hw 30 rfl) (ov hZ hw 31 rfl) (ov hZ hw 32 rfl) (by decide) (own_backOf (W := 0) (rx6_611 l Z a0 hw [] n0 h605 O605 G1 G3 GF b606 b608 k610 c0_ c1_ c2_ c3_ Y605_4 Y605_0 Y605_3 Y605_2 hq0_ hq1_ hc0_ hc1_) hZ (ow hw 32 rfl) (ow hw 31 rfl) (by decide) (by decide)) (g := (mkF m 81 #[ci p0, ci p1, ci p2, ci p3, ci p4, ci 4, ci 0, cr b104, cr b606, cu, cu] [(.ref b606)])) rfl (by rw [hml]; rfl) (argsL := [(.ref b606)]) (rest := []) (lenOf pdx_11 rfl) rfl (own_w rfl) (hb hby at_81) (fun _ _ => ⟨rfl, e605, (by decide : 4 + 2 ≤ _), (by decide : 16 + 5 ≤ _)⟩)
     dsimp only [Pt.U, Pt.locs, Pt.cells, Pt.slots] at X644 l644 y644 z644 st644 hQ644
     subst l644 y644 z644
     obtain ⟨b645, b646, k647, rfl, N644q, K644c, hb644_b645, hb644_b646, hne644_b645_b646, Y644_0, Y644_1, Y644_2, Y644_3⟩ := hQ644
     have N644 := Fr.app N605 N644q
     refine EndsW.go st644 ?_
     obtain ⟨h644, e644⟩ : ∃ z, T644.heap = z := ⟨_, rfl⟩
     rw [e644] at K644c Y644_0 Y644_1 Y644_2 Y644_3
     have O644 := O605.keep K644c all0
     refine wasW X644 hx hby at_84 (l' := #[ci p0, ci p1, ci p2, ci p3, ci p4, ci 4, ci 0, cr b104, cr b606, cr b645, cu]) rfl rfl ?_
     refine wilW X644 hx hby at_86 rfl ?_
     refine wiyW (pc := 88) (pc' := 102) X644 hx hby at_88 ((if0 _ _).trans (teq (by decide : (0 : Int32) = (0 : Int32))).1) ?_
     refine wilW X644 hx hby at_102 rfl ?_
     refine winW X644 hx hby at_104 ((if0 _ _).trans (tlt (by decide : (0 : Int32) < (4 : Int32))).2.2.2) ?_
     refine walW X644 hx hby at_107 rfl rfl ?_
     show EndsW _ _ _ _ T644 (mkF m 109 #[ci p0, ci p1, ci p2, ci p3, ci p4, ci 4, ci 0, cr b104, cr b606, cr b645, cu] [(.ref b104)]) _ _ _
     refine wicW X644 hx hby at_109 ?_
     obtain ⟨cl648, Ar648, q648, S648, M648, H648, G648⟩ := id ((V112.keep K605c nin0).keep K644c nin0)
     have hin648 := inb_of (j := (0 : Int32)) S648 ⟨by decide, by decide⟩
     refine EndsW.go (X644.caload hx (j := (0 : Int32)) (v := (.int c0_)) (by rw [e644]; exact Ar648.1) (State.isArrayOf_alike hZ.alike Ar648.2.1) Ar648.2.2 hin648 (H648.at hin648 rfl) (g := (mkF m 110 #[ci p0, ci p1, ci p2, ci p3, ci p4, ci 4, ci 0, cr b104, cr b606, cr b645, cu] [(.int 0), (.ref b104)])) rfl rfl (hb hby at_110)) ?_
     refine wbpW X644 hx hby at_111 ?_
     refine wcyW (pc := 113) (pc' := 122) X644 hx hby at_113 (feq (hq0_ : ¬ (c0_ = (46 : Int32)))).2 ?_
     refine wilW X644 hx hby at_122 rfl ?_
     refine wicW X644 hx hby at_124 ?_
     refine wcnW X644 hx hby at_125 (tlt (by decide : (1 : Int32) < (4 : Int32))).2.2.2 ?_
     refine walW X644 hx hby at_128 rfl rfl ?_
     refine wicW X644 hx hby at_130 ?_
     obtain ⟨cl649, Ar649, q649, S649, M649, H649, G649⟩ := id ((V112.keep K605c nin0).keep K644c nin0)
     have hin649 := inb_of (j := (1 : Int32)) S649 ⟨by decide, by decide⟩
     refine EndsW.go (X644.caload hx (j := (1 : Int32)) (v := (.int c1_)) (by rw [e644]; exact Ar649.1) (State.isArrayOf_alike hZ.alike Ar649.2.1) Ar649.2.2 hin649 (H649.at hin649 rfl) (g := (mkF m 131 #[ci p0, ci p1, ci p2, ci p3, ci p4, ci 4, ci 0, cr b104, cr b606, cr b645, cu] [(.int 1), (.ref b104)])) rfl rfl (hb hby at_131)) ?_
     refine wbpW X644 hx hby at_132 ?_
     refine wcnW X644 hx hby at_134 (teq (hq1_ : c1_ = (46 : Int32))).2 ?_
     refine wicW X644 hx hby at_137 ?_
     refine wstW X644 hx hby at_138 (l' := #[ci p0, ci p1, ci p2, ci p3, ci p4, ci 4, ci 0, cr b104, cr b606, cr b645, ci 1]) rfl ?_
     refine wgoW (pc := 140) (pc' := 188) X644 hx hby at_140 ?_
     refine wilW X644 hx hby at_188 rfl ?_
     refine wiyW (pc := 190) (pc' := 204) X644 hx hby at_190 ((if0 _ _).trans (flt (by decide : ¬ ((1 : Int32) < (0 : Int32)))).2.1) ?_
     refine walW X644 hx hby at_204 rfl rfl ?_
     refine .go (fun _ => XS.ifnullNo X644.here hx rfl (hb hby at_206) rfl) ?_
     refine walW X644 hx hby at_209 rfl rfl ?_
     obtain ⟨cq650, kq650, q650a, q650b, q650c⟩ := isOf hZ e644 Y644_0
     obtain ⟨_, _, ⟨T650, L650, k650, n650⟩, -, X650, ⟨Lc650, hQ650, l650, y650, z650⟩, st650⟩ := X644.virtualBack hx (y := ym11) (z := ym11) hown (ov hZ hw 103 rfl) (ov hZ hw 50 rfl) (notFace_of_selects (args := #[]) (ov hZ hw 52 rfl)) (ov hZ hw 52 rfl) (ov hZ hw 51 rfl) (by decide) (own_backOf (W := 0) (rx10_33 l Z a0 hw [] n0 h644 O644 G1 G3 GF b645 b646 k647 c0_ Y644_2 Y644_1 Y644_3 Y644_0) hZ (ow hw 53 rfl) (ow hw 10 rfl) (by decide) (by decide)) q650a q650c (g := (mkF m 211 #[ci p0, ci p1, ci p2, ci p3, ci p4, ci 4, ci 0, cr b104, cr b606, cr b645, ci 1] [(.ref b645)])) rfl (by rw [hml]; rfl) (Steps.refl _) (argsL := []) (rest := []) (lenOf pdx_4 rfl) rfl (own_w rfl) (hb hby at_211) (fun _ _ => ⟨rfl, e644, (by decide : 6 + 0 ≤ _), (by decide : 21 + 0 ≤ _)⟩)
     dsimp only [Pt.U, Pt.locs, Pt.cells, Pt.slots] at X650 l650 y650 z650 st650 hQ650
     subst l650 y650 z650
     obtain ⟨rfl, N650q, K650c⟩ := hQ650
     have N650 := Fr.app N644 N650q
     refine EndsW.go (fun _ k => st650.trans k) ?_
     obtain ⟨h650, e650⟩ : ∃ z, T650.heap = z := ⟨_, rfl⟩
     rw [e650] at K650c
     have O650 := O644.keep K650c all0
     refine wilW X650 hx hby at_214 rfl ?_
     refine wcyW (pc := 216) (pc' := 221) X650 hx hby at_216 (teq (by decide : (1 : Int32) = (1 : Int32))).1 ?_
     refine wilW X650 hx hby at_221 rfl ?_
     refine wicW X650 hx hby at_223 ?_
     refine wcnW X650 hx hby at_224 (flt (by decide : ¬ ((1 : Int32) < (1 : Int32)))).1 ?_
     refine walW X650 hx hby at_227 rfl rfl ?_
     refine wicW X650 hx hby at_229 ?_
     obtain ⟨cq651, kq651, q651a, q651b, q651c⟩ := isOf hZ e650 (Y644_0.keep K650c)
     obtain ⟨_, _, ⟨T651, L651, k651, n651⟩, -, X651, ⟨Lc651, hQ651, l651, y651, z651⟩, st651⟩ := X650.virtualBack hx (y := ym29) (z := ym29) hown (ov hZ hw 123 rfl) (ov hZ hw 124 rfl) (notFace_of_selects (args := #[]) (ov hZ hw 126 rfl)) (ov hZ hw 126 rfl) (ov hZ hw 125 rfl) (by decide) (own_backOf (W := 0) (rx28_322 l Z a0 hw [] n0 h650 O650 G1 G3 GF b645 b646 k647 c0_ (Y644_3.keep K650c nin0) (Y644_0.keep K650c) (Y644_2.keep K650c nin0) (Y644_1.keep K650c nin0) hc0_) hZ (ow hw 127 rfl) (ow hw 10 rfl) (by decide) (by decide)) q651a q651c (g := (mkF m 230 #[ci p0, ci p1, ci p2, ci p3, ci p4, ci 4, ci 0, cr b104, cr b606, cr b645, ci 1] [(.int 0), (.ref b645)])) rfl (by rw [hml]; rfl) (Steps.refl _) (argsL := [(.int 0)]) (rest := []) (lenOf pdx_6 rfl) rfl (own_w rfl) (hb hby at_230) (fun _ _ => ⟨rfl, e650, (by decide : 6 + 0 ≤ _), (by decide : 21 + 0 ≤ _)⟩)
     dsimp only [Pt.U, Pt.locs, Pt.cells, Pt.slots] at X651 l651 y651 z651 st651 hQ651
     subst l651 y651 z651
     obtain ⟨rfl, N651q, K651c⟩ := hQ651
     have N651 := Fr.app N650 N651q
     refine EndsW.go (fun _ k => st651.trans k) ?_
     obtain ⟨h651, e651⟩ : ∃ z, T651.heap = z := ⟨_, rfl⟩
     rw [e651] at K651c
     refine walW X651 hx hby at_233 rfl rfl ?_
     show EndsW _ _ _ _ T651 (mkF m 235 #[ci p0, ci p1, ci p2, ci p3, ci p4, ci 4, ci 0, cr b104, cr b606, cr b645, ci 1] [(.ref b104), (.int c0_)]) _ _ _
     refine wicW X651 hx hby at_235 ?_
     obtain ⟨cl652, Ar652, q652, S652, M652, H652, G652⟩ := id ((((V112.keep K605c nin0).keep K644c nin0).keep K650c nin0).keep K651c nin0)
     have hin652 := inb_of (j := (0 : Int32)) S652 ⟨by decide, by decide⟩
     refine EndsW.go (X651.caload hx (j := (0 : Int32)) (v := (.int c0_)) (by rw [e651]; exact Ar652.1) (State.isArrayOf_alike hZ.alike Ar652.2.1) Ar652.2.2 hin652 (H652.at hin652 rfl) (g := (mkF m 236 #[ci p0, ci p1, ci p2, ci p3, ci p4, ci 4, ci 0, cr b104, cr b606, cr b645, ci 1] [(.int 0), (.ref b104), (.int c0_)])) rfl rfl (hb hby at_236)) ?_
     refine wcnW X651 hx hby at_237 (teq (rfl : c0_ = c0_)).2 ?_
     refine wilW X651 hx hby at_240 rfl ?_
     refine wicW X651 hx hby at_242 ?_
     refine wcyW (pc := 243) (pc' := 259) X651 hx hby at_243 (tlt (by decide : (1 : Int32) < (2 : Int32))).1 ?_
     refine wilW X651 hx hby at_259 rfl ?_
     refine wicW X651 hx hby at_261 ?_
     refine wcyW (pc := 262) (pc' := 278) X651 hx hby at_262 (tlt (by decide : (1 : Int32) < (3 : Int32))).1 ?_
     refine wicW X651 hx hby at_278 ?_
     refine wgoW (pc := 279) (pc' := 283) X651 hx hby at_279 ?_
     refine EndsW.retZ (s := s) (vm := s.vm) X651 hx hS0 (Nat.le_trans (Nat.le_trans (Nat.le_trans (Nat.le_trans (Nat.le_trans (Nat.le_trans (Nat.le_trans (Nat.le_trans (Nat.le_trans (Nat.le_trans hk0 E104.1) (own_wrsz W106)) (own_wrsz W108)) (own_wrsz W110)) (own_wrsz W112)) K605c.1) K644c.1) K650c.1) K651c.1) (Nat.le_of_eq (congrArg Array.size e651.symm))) Bd.notSynchronized (t := .boolean) Bd.returns (by simp) (hb hby at_283) (by decide) (by decide) ?_
     exact ⟨rfl, N651⟩
    ·by_cases hq2_ : c2_ = (46 : Int32)
     ·show EndsW _ _ _ _ T112 (mkF m 74 #[ci p0, ci p1, ci p2, ci p3, ci p4, ci 4, ci 0, cr b104, cu, cu, cu] [(.int 4), (.ref b104)]) _ _ _
      obtain ⟨_, _, ⟨T653, L653, k653, n653⟩, -, X653, ⟨Lc653, hQ653, l653, y653, z653⟩, st653⟩ := Jvm.LawKit.callS X112 hx (y := ym17) hown (ov hZ hw 5 rfl) (ov hZ hw 6 rfl) (ov hZ hw 3 rfl) (ov hZ hw 7 rfl) (by decide) (own_backOf (W := 0) (rx2_536 l Z a0 hw [] n0 h112 O112 G1 G3 GF b104 k104 c0_ c1_ c2_ c3_ V112 hc0_ hc1_ hc2_ hc3_) hZ (ow hw 7 rfl) (ow hw 3 rfl) (by decide) (by decide)) (g := (mkF m 74 #[ci p0, ci p1, ci p2, ci p3, ci p4, ci 4, ci 0, cr b104, cu, cu, cu] [(.int 4), (.ref b104)])) rfl (by rw [hml]; rfl) (argsL := [(.ref b104), (.int 4)]) (rest := []) (lenOf pdx_9 rfl) rfl (own_w rfl) (hb hby at_74) (fun _ _ => ⟨rfl, e112, (by decide : 1 + 3 ≤ _), (by decide : 4 + 12 ≤ _)⟩)
      dsimp only [Pt.U, Pt.locs, Pt.cells, Pt.slots] at X653 l653 y653 z653 st653 hQ653
      subst l653 y653 z653
      obtain ⟨b654, b655, b656, k657, k658, rfl, N653q, K653c, hb653_b654, hb653_b655, hb653_b656, hne653_b654_b655, hne653_b654_b656, hne653_b655_b656, Y653_0, Y653_1, Y653_2, Y653_3, Y653_4⟩ := hQ653
      have N653 := Fr.app N112 N653q
      refine EndsW.go st653 ?_
      obtain ⟨h653, e653⟩ : ∃ z, T653.heap = z := ⟨_, rfl⟩
      rw [e653] at K653c Y653_0 Y653_1 Y653_2 Y653_3 Y653_4
      have O653 := O112.keep K653c all0
      refine wasW X653 hx hby at_77 (l' := #[ci p0, ci p1, ci p2, ci p3, ci p4, ci 4, ci 0, cr b104, cr b654, cu, cu]) rfl rfl ?_
      refine walW X653 hx hby at_79 rfl rfl ?_
      obtain ⟨_, _, ⟨T692, L692, k692, n692⟩, -, X692, ⟨Lc692, hQ692, l692, y692, z692⟩, st692⟩ := Jvm.LawKit.callS X653 hx (y := ym18) hown (ov hZ hw 29 rfl) (ov hZ hw 30 rfl) (ov hZ hw 31 rfl) (ov hZ hw 32 rfl) (by decide) (own_backOf (W := 0) (rx6_659 l Z a0 hw [] n0 h653 O653 G1 G3 GF b654 b656 k658 c0_ c1_ c2_ c3_ Y653_4 Y653_0 Y653_3 Y653_2 hq0_ hq1_ hq2_ hc0_ hc1_ hc2_) hZ (ow hw 32 rfl) (ow hw 31 rfl) (by decide) (by decide)) (g := (mkF m 81 #[ci p0, ci p1, ci p2, ci p3, ci p4, ci 4, ci 0, cr b104, cr b654, cu, cu] [(.ref b654)])) rfl (by rw [hml]; rfl) (argsL := [(.ref b654)]) (rest := []) (lenOf pdx_11 rfl) rfl (own_w rfl) (hb hby at_81) (fun _ _ => ⟨rfl, e653, (by decide : 4 + 2 ≤ _), (by decide : 16 + 6 ≤ _)⟩)
      dsimp only [Pt.U, Pt.locs, Pt.cells, Pt.slots] at X692 l692 y692 z692 st692 hQ692
      subst l692 y692 z692
      obtain ⟨b693, b694, k695, rfl, N692q, K692c, hb692_b693, hb692_b694, hne692_b693_b694, Y692_0, Y692_1, Y692_2, Y692_3⟩ := hQ692
      have N692 := Fr.app N653 N692q
      refine EndsW.go st692 ?_
      obtain ⟨h692, e692⟩ : ∃ z, T692.heap = z := ⟨_, rfl⟩
      rw [e692] at K692c Y692_0 Y692_1 Y692_2 Y692_3
      have O692 := O653.keep K692c all0
      refine wasW X692 hx hby at_84 (l' := #[ci p0, ci p1, ci p2, ci p3, ci p4, ci 4, ci 0, cr b104, cr b654, cr b693, cu]) rfl rfl ?_
      refine wilW X692 hx hby at_86 rfl ?_
      refine wiyW (pc := 88) (pc' := 102) X692 hx hby at_88 ((if0 _ _).trans (teq (by decide : (0 : Int32) = (0 : Int32))).1) ?_
      refine wilW X692 hx hby at_102 rfl ?_
      refine winW X692 hx hby at_104 ((if0 _ _).trans (tlt (by decide : (0 : Int32) < (4 : Int32))).2.2.2) ?_
      refine walW X692 hx hby at_107 rfl rfl ?_
      refine wicW X692 hx hby at_109 ?_
      obtain ⟨cl696, Ar696, q696, S696, M696, H696, G696⟩ := id ((V112.keep K653c nin0).keep K692c nin0)
      have hin696 := inb_of (j := (0 : Int32)) S696 ⟨by decide, by decide⟩
      refine EndsW.go (X692.caload hx (j := (0 : Int32)) (v := (.int c0_)) (by rw [e692]; exact Ar696.1) (State.isArrayOf_alike hZ.alike Ar696.2.1) Ar696.2.2 hin696 (H696.at hin696 rfl) (g := (mkF m 110 #[ci p0, ci p1, ci p2, ci p3, ci p4, ci 4, ci 0, cr b104, cr b654, cr b693, cu] [(.int 0), (.ref b104)])) rfl rfl (hb hby at_110)) ?_
      refine wbpW X692 hx hby at_111 ?_
      refine wcyW (pc := 113) (pc' := 122) X692 hx hby at_113 (feq (hq0_ : ¬ (c0_ = (46 : Int32)))).2 ?_
      refine wilW X692 hx hby at_122 rfl ?_
      refine wicW X692 hx hby at_124 ?_
      refine wcnW X692 hx hby at_125 (tlt (by decide : (1 : Int32) < (4 : Int32))).2.2.2 ?_
      refine walW X692 hx hby at_128 rfl rfl ?_
      show EndsW _ _ _ _ T692 (mkF m 130 #[ci p0, ci p1, ci p2, ci p3, ci p4, ci 4, ci 0, cr b104, cr b654, cr b693, cu] [(.ref b104)]) _ _ _
      refine wicW X692 hx hby at_130 ?_
      obtain ⟨cl697, Ar697, q697, S697, M697, H697, G697⟩ := id ((V112.keep K653c nin0).keep K692c nin0)
      have hin697 := inb_of (j := (1 : Int32)) S697 ⟨by decide, by decide⟩
      refine EndsW.go (X692.caload hx (j := (1 : Int32)) (v := (.int c1_)) (by rw [e692]; exact Ar697.1) (State.isArrayOf_alike hZ.alike Ar697.2.1) Ar697.2.2 hin697 (H697.at hin697 rfl) (g := (mkF m 131 #[ci p0, ci p1, ci p2, ci p3, ci p4, ci 4, ci 0, cr b104, cr b654, cr b693, cu] [(.int 1), (.ref b104)])) rfl rfl (hb hby at_131)) ?_
      refine wbpW X692 hx hby at_132 ?_
      refine wcyW (pc := 134) (pc' := 143) X692 hx hby at_134 (feq (hq1_ : ¬ (c1_ = (46 : Int32)))).2 ?_
      refine wilW X692 hx hby at_143 rfl ?_
      refine wicW X692 hx hby at_145 ?_
      refine wcnW X692 hx hby at_146 (tlt (by decide : (2 : Int32) < (4 : Int32))).2.2.2 ?_
      refine walW X692 hx hby at_149 rfl rfl ?_
      refine wicW X692 hx hby at_151 ?_
      obtain ⟨cl698, Ar698, q698, S698, M698, H698, G698⟩ := id ((V112.keep K653c nin0).keep K692c nin0)
      have hin698 := inb_of (j := (2 : Int32)) S698 ⟨by decide, by decide⟩
      refine EndsW.go (X692.caload hx (j := (2 : Int32)) (v := (.int c2_)) (by rw [e692]; exact Ar698.1) (State.isArrayOf_alike hZ.alike Ar698.2.1) Ar698.2.2 hin698 (H698.at hin698 rfl) (g := (mkF m 152 #[ci p0, ci p1, ci p2, ci p3, ci p4, ci 4, ci 0, cr b104, cr b654, cr b693, cu] [(.int 2), (.ref b104)])) rfl rfl (hb hby at_152)) ?_
      refine wbpW X692 hx hby at_153 ?_
      refine wcnW X692 hx hby at_155 (teq (hq2_ : c2_ = (46 : Int32))).2 ?_
      refine wicW X692 hx hby at_158 ?_
      refine wstW X692 hx hby at_159 (l' := #[ci p0, ci p1, ci p2, ci p3, ci p4, ci 4, ci 0, cr b104, cr b654, cr b693, ci 2]) rfl ?_
      refine wgoW (pc := 161) (pc' := 188) X692 hx hby at_161 ?_
      refine wilW X692 hx hby at_188 rfl ?_
      refine wiyW (pc := 190) (pc' := 204) X692 hx hby at_190 ((if0 _ _).trans (flt (by decide : ¬ ((2 : Int32) < (0 : Int32)))).2.1) ?_
      refine walW X692 hx hby at_204 rfl rfl ?_
      refine .go (fun _ => XS.ifnullNo X692.here hx rfl (hb hby at_206) rfl) ?_
      refine walW X692 hx hby at_209 rfl rfl ?_
      obtain ⟨cq699, kq699, q699a, q699b, q699c⟩ := isOf hZ e692 Y692_0
      obtain ⟨_, _, ⟨T699, L699, k699, n699⟩, -, X699, ⟨Lc699, hQ699, l699, y699, z699⟩, st699⟩ := X692.virtualBack hx (y := ym11) (z := ym11) hown (ov hZ hw 103 rfl) (ov hZ hw 50 rfl) (notFace_of_selects (args := #[]) (ov hZ hw 52 rfl)) (ov hZ hw 52 rfl) (ov hZ hw 51 rfl) (by decide) (own_backOf (W := 0) (rx10_52 l Z a0 hw [] n0 h692 O692 G1 G3 GF b693 b694 k695 c0_ c1_ Y692_2 Y692_1 Y692_3 Y692_0) hZ (ow hw 53 rfl) (ow hw 10 rfl) (by decide) (by decide)) q699a q699c (g := (mkF m 211 #[ci p0, ci p1, ci p2, ci p3, ci p4, ci 4, ci 0, cr b104, cr b654, cr b693, ci 2] [(.ref b693)])) rfl (by rw [hml]; rfl) (Steps.refl _) (argsL := []) (rest := []) (lenOf pdx_4 rfl) rfl (own_w rfl) (hb hby at_211) (fun _ _ => ⟨rfl, e692, (by decide : 6 + 0 ≤ _), (by decide : 22 + 0 ≤ _)⟩)
      dsimp only [Pt.U, Pt.locs, Pt.cells, Pt.slots] at X699 l699 y699 z699 st699 hQ699
      subst l699 y699 z699
      obtain ⟨rfl, N699q, K699c⟩ := hQ699
      have N699 := Fr.app N692 N699q
      refine EndsW.go (fun _ k => st699.trans k) ?_
      obtain ⟨h699, e699⟩ : ∃ z, T699.heap = z := ⟨_, rfl⟩
      rw [e699] at K699c
      have O699 := O692.keep K699c all0
      refine wilW X699 hx hby at_214 rfl ?_
      refine wcyW (pc := 216) (pc' := 221) X699 hx hby at_216 (teq (by decide : (2 : Int32) = (2 : Int32))).1 ?_
      refine wilW X699 hx hby at_221 rfl ?_
      refine wicW X699 hx hby at_223 ?_
      refine wcnW X699 hx hby at_224 (flt (by decide : ¬ ((2 : Int32) < (1 : Int32)))).1 ?_
      refine walW X699 hx hby at_227 rfl rfl ?_
      refine wicW X699 hx hby at_229 ?_
      obtain ⟨cq700, kq700, q700a, q700b, q700c⟩ := isOf hZ e699 (Y692_0.keep K699c)
      obtain ⟨_, _, ⟨T700, L700, k700, n700⟩, -, X700, ⟨Lc700, hQ700, l700, y700, z700⟩, st700⟩ := X699.virtualBack hx (y := ym29) (z := ym29) hown (ov hZ hw 123 rfl) (ov hZ hw 124 rfl) (notFace_of_selects (args := #[]) (ov hZ hw 126 rfl)) (ov hZ hw 126 rfl) (ov hZ hw 125 rfl) (by decide) (own_backOf (W := 0) (rx28_504 l Z a0 hw [] n0 h699 O699 G1 G3 GF b693 b694 k695 c0_ c1_ (Y692_3.keep K699c nin0) (Y692_0.keep K699c) (Y692_2.keep K699c nin0) (Y692_1.keep K699c nin0) hc0_) hZ (ow hw 127 rfl) (ow hw 10 rfl) (by decide) (by decide)) q700a q700c (g := (mkF m 230 #[ci p0, ci p1, ci p2, ci p3, ci p4, ci 4, ci 0, cr b104, cr b654, cr b693, ci 2] [(.int 0), (.ref b693)])) rfl (by rw [hml]; rfl) (Steps.refl _) (argsL := [(.int 0)]) (rest := []) (lenOf pdx_6 rfl) rfl (own_w rfl) (hb hby at_230) (fun _ _ => ⟨rfl, e699, (by decide : 6 + 0 ≤ _), (by decide : 22 + 0 ≤ _)⟩)
      dsimp only [Pt.U, Pt.locs, Pt.cells, Pt.slots] at X700 l700 y700 z700 st700 hQ700
      subst l700 y700 z700
      obtain ⟨rfl, N700q, K700c⟩ := hQ700
      have N700 := Fr.app N699 N700q
      refine EndsW.go (fun _ k => st700.trans k) ?_
      obtain ⟨h700, e700⟩ : ∃ z, T700.heap = z := ⟨_, rfl⟩
      rw [e700] at K700c
      have O700 := O699.keep K700c all0
      refine walW X700 hx hby at_233 rfl rfl ?_
      show EndsW _ _ _ _ T700 (mkF m 235 #[ci p0, ci p1, ci p2, ci p3, ci p4, ci 4, ci 0, cr b104, cr b654, cr b693, ci 2] [(.ref b104), (.int c0_)]) _ _ _
      refine wicW X700 hx hby at_235 ?_
      obtain ⟨cl701, Ar701, q701, S701, M701, H701, G701⟩ := id ((((V112.keep K653c nin0).keep K692c nin0).keep K699c nin0).keep K700c nin0)
      have hin701 := inb_of (j := (0 : Int32)) S701 ⟨by decide, by decide⟩
      refine EndsW.go (X700.caload hx (j := (0 : Int32)) (v := (.int c0_)) (by rw [e700]; exact Ar701.1) (State.isArrayOf_alike hZ.alike Ar701.2.1) Ar701.2.2 hin701 (H701.at hin701 rfl) (g := (mkF m 236 #[ci p0, ci p1, ci p2, ci p3, ci p4, ci 4, ci 0, cr b104, cr b654, cr b693, ci 2] [(.int 0), (.ref b104), (.int c0_)])) rfl rfl (hb hby at_236)) ?_
      refine wcnW X700 hx hby at_237 (teq (rfl : c0_ = c0_)).2 ?_
      refine wilW X700 hx hby at_240 rfl ?_
      refine wicW X700 hx hby at_242 ?_
      refine wcnW X700 hx hby at_243 (flt (by decide : ¬ ((2 : Int32) < (2 : Int32)))).1 ?_
      refine walW X700 hx hby at_246 rfl rfl ?_
      refine wicW X700 hx hby at_248 ?_
      obtain ⟨cq702, kq702, q702a, q702b, q702c⟩ := isOf hZ e700 ((Y692_0.keep K699c).keep K700c)
      obtain ⟨_, _, ⟨T702, L702, k702, n702⟩, -, X702, ⟨Lc702, hQ702, l702, y702, z702⟩, st702⟩ := X700.virtualBack hx (y := ym29) (z := ym29) hown (ov hZ hw 123 rfl) (ov hZ hw 124 rfl) (notFace_of_selects (args := #[]) (ov hZ hw 126 rfl)) (ov hZ hw 126 rfl) (ov hZ hw 125 rfl) (by decide) (own_backOf (W := 0) (rx28_514 l Z a0 hw [] n0 h700 O700 G1 G3 GF b693 b694 k695 c0_ c1_ ((Y692_3.keep K699c nin0).keep K700c nin0) ((Y692_0.keep K699c).keep K700c) ((Y692_2.keep K699c nin0).keep K700c nin0) ((Y692_1.keep K699c nin0).keep K700c nin0) hc1_) hZ (ow hw 127 rfl) (ow hw 10 rfl) (by decide) (by decide)) q702a q702c (g := (mkF m 249 #[ci p0, ci p1, ci p2, ci p3, ci p4, ci 4, ci 0, cr b104, cr b654, cr b693, ci 2] [(.int 1), (.ref b693)])) rfl (by rw [hml]; rfl) (Steps.refl _) (argsL := [(.int 1)]) (rest := []) (lenOf pdx_6 rfl) rfl (own_w rfl) (hb hby at_249) (fun _ _ => ⟨rfl, e700, (by decide : 6 + 0 ≤ _), (by decide : 22 + 0 ≤ _)⟩)
      dsimp only [Pt.U, Pt.locs, Pt.cells, Pt.slots] at X702 l702 y702 z702 st702 hQ702
      subst l702 y702 z702
      obtain ⟨rfl, N702q, K702c⟩ := hQ702
      have N702 := Fr.app N700 N702q
      refine EndsW.go (fun _ k => st702.trans k) ?_
      obtain ⟨h702, e702⟩ : ∃ z, T702.heap = z := ⟨_, rfl⟩
      rw [e702] at K702c
      refine walW X702 hx hby at_252 rfl rfl ?_
      refine wicW X702 hx hby at_254 ?_
      obtain ⟨cl703, Ar703, q703, S703, M703, H703, G703⟩ := id (((((V112.keep K653c nin0).keep K692c nin0).keep K699c nin0).keep K700c nin0).keep K702c nin0)
      have hin703 := inb_of (j := (1 : Int32)) S703 ⟨by decide, by decide⟩
      refine EndsW.go (X702.caload hx (j := (1 : Int32)) (v := (.int c1_)) (by rw [e702]; exact Ar703.1) (State.isArrayOf_alike hZ.alike Ar703.2.1) Ar703.2.2 hin703 (H703.at hin703 rfl) (g := (mkF m 255 #[ci p0, ci p1, ci p2, ci p3, ci p4, ci 4, ci 0, cr b104, cr b654, cr b693, ci 2] [(.int 1), (.ref b104), (.int c1_)])) rfl rfl (hb hby at_255)) ?_
      refine wcnW X702 hx hby at_256 (teq (rfl : c1_ = c1_)).2 ?_
      refine wilW X702 hx hby at_259 rfl ?_
      refine wicW X702 hx hby at_261 ?_
      refine wcyW (pc := 262) (pc' := 278) X702 hx hby at_262 (tlt (by decide : (2 : Int32) < (3 : Int32))).1 ?_
      refine wicW X702 hx hby at_278 ?_
      refine wgoW (pc := 279) (pc' := 283) X702 hx hby at_279 ?_
      refine EndsW.retZ (s := s) (vm := s.vm) X702 hx hS0 (Nat.le_trans (Nat.le_trans (Nat.le_trans (Nat.le_trans (Nat.le_trans (Nat.le_trans (Nat.le_trans (Nat.le_trans (Nat.le_trans (Nat.le_trans (Nat.le_trans hk0 E104.1) (own_wrsz W106)) (own_wrsz W108)) (own_wrsz W110)) (own_wrsz W112)) K653c.1) K692c.1) K699c.1) K700c.1) K702c.1) (Nat.le_of_eq (congrArg Array.size e702.symm))) Bd.notSynchronized (t := .boolean) Bd.returns (by simp) (hb hby at_283) (by decide) (by decide) ?_
      exact ⟨rfl, N702⟩
     ·by_cases hq3_ : c3_ = (46 : Int32)
      ·show EndsW _ _ _ _ T112 (mkF m 74 #[ci p0, ci p1, ci p2, ci p3, ci p4, ci 4, ci 0, cr b104, cu, cu, cu] [(.int 4), (.ref b104)]) _ _ _
       obtain ⟨_, _, ⟨T704, L704, k704, n704⟩, -, X704, ⟨Lc704, hQ704, l704, y704, z704⟩, st704⟩ := Jvm.LawKit.callS X112 hx (y := ym17) hown (ov hZ hw 5 rfl) (ov hZ hw 6 rfl) (ov hZ hw 3 rfl) (ov hZ hw 7 rfl) (by decide) (own_backOf (W := 0) (rx2_536 l Z a0 hw [] n0 h112 O112 G1 G3 GF b104 k104 c0_ c1_ c2_ c3_ V112 hc0_ hc1_ hc2_ hc3_) hZ (ow hw 7 rfl) (ow hw 3 rfl) (by decide) (by decide)) (g := (mkF m 74 #[ci p0, ci p1, ci p2, ci p3, ci p4, ci 4, ci 0, cr b104, cu, cu, cu] [(.int 4), (.ref b104)])) rfl (by rw [hml]; rfl) (argsL := [(.ref b104), (.int 4)]) (rest := []) (lenOf pdx_9 rfl) rfl (own_w rfl) (hb hby at_74) (fun _ _ => ⟨rfl, e112, (by decide : 1 + 3 ≤ _), (by decide : 4 + 12 ≤ _)⟩)
       dsimp only [Pt.U, Pt.locs, Pt.cells, Pt.slots] at X704 l704 y704 z704 st704 hQ704
       subst l704 y704 z704
       obtain ⟨b705, b706, b707, k708, k709, rfl, N704q, K704c, hb704_b705, hb704_b706, hb704_b707, hne704_b705_b706, hne704_b705_b707, hne704_b706_b707, Y704_0, Y704_1, Y704_2, Y704_3, Y704_4⟩ := hQ704
       have N704 := Fr.app N112 N704q
       refine EndsW.go st704 ?_
       obtain ⟨h704, e704⟩ : ∃ z, T704.heap = z := ⟨_, rfl⟩
       rw [e704] at K704c Y704_0 Y704_1 Y704_2 Y704_3 Y704_4
       have O704 := O112.keep K704c all0
       refine wasW X704 hx hby at_77 (l' := #[ci p0, ci p1, ci p2, ci p3, ci p4, ci 4, ci 0, cr b104, cr b705, cu, cu]) rfl rfl ?_
       refine walW X704 hx hby at_79 rfl rfl ?_
       obtain ⟨_, _, ⟨T744, L744, k744, n744⟩, -, X744, ⟨Lc744, hQ744, l744, y744, z744⟩, st744⟩ := Jvm.LawKit.callS X704 hx (y := ym18) hown (ov hZ hw 29 rfl) (ov hZ hw 30 rfl) (ov hZ hw 31 rfl) (ov hZ hw 32 rfl) (by decide) (own_backOf (W := 0) (rx6_710 l Z a0 hw [] n0 h704 O704 G1 G3 GF b705 b707 k709 c0_ c1_ c2_ c3_ Y704_4 Y704_0 Y704_3 Y704_2 hq0_ hq1_ hq2_ hq3_ hc0_ hc1_ hc2_ hc3_) hZ (ow hw 32 rfl) (ow hw 31 rfl) (by decide) (by decide)) (g := (mkF m 81 #[ci p0, ci p1, ci p2, ci p3, ci p4, ci 4, ci 0, cr b104, cr b705, cu, cu] [(.ref b705)])) rfl (by rw [hml]; rfl) (argsL := [(.ref b705)]) (rest := []) (lenOf pdx_11 rfl) rfl (own_w rfl) (hb hby at_81) (fun _ _ => ⟨rfl, e704, (by decide : 4 + 2 ≤ _), (by decide : 16 + 7 ≤ _)⟩)
       dsimp only [Pt.U, Pt.locs, Pt.cells, Pt.slots] at X744 l744 y744 z744 st744 hQ744
       subst l744 y744 z744
       obtain ⟨b745, b746, k747, rfl, N744q, K744c, hb744_b745, hb744_b746, hne744_b745_b746, Y744_0, Y744_1, Y744_2, Y744_3⟩ := hQ744
       have N744 := Fr.app N704 N744q
       refine EndsW.go st744 ?_
       obtain ⟨h744, e744⟩ : ∃ z, T744.heap = z := ⟨_, rfl⟩
       rw [e744] at K744c Y744_0 Y744_1 Y744_2 Y744_3
       have O744 := O704.keep K744c all0
       refine wasW X744 hx hby at_84 (l' := #[ci p0, ci p1, ci p2, ci p3, ci p4, ci 4, ci 0, cr b104, cr b705, cr b745, cu]) rfl rfl ?_
       refine wilW X744 hx hby at_86 rfl ?_
       refine wiyW (pc := 88) (pc' := 102) X744 hx hby at_88 ((if0 _ _).trans (teq (by decide : (0 : Int32) = (0 : Int32))).1) ?_
       refine wilW X744 hx hby at_102 rfl ?_
       refine winW X744 hx hby at_104 ((if0 _ _).trans (tlt (by decide : (0 : Int32) < (4 : Int32))).2.2.2) ?_
       refine walW X744 hx hby at_107 rfl rfl ?_
       refine wicW X744 hx hby at_109 ?_
       show EndsW _ _ _ _ T744 (mkF m 110 #[ci p0, ci p1, ci p2, ci p3, ci p4, ci 4, ci 0, cr b104, cr b705, cr b745, cu] [(.int 0), (.ref b104)]) _ _ _
       obtain ⟨cl748, Ar748, q748, S748, M748, H748, G748⟩ := id ((V112.keep K704c nin0).keep K744c nin0)
       have hin748 := inb_of (j := (0 : Int32)) S748 ⟨by decide, by decide⟩
       refine EndsW.go (X744.caload hx (j := (0 : Int32)) (v := (.int c0_)) (by rw [e744]; exact Ar748.1) (State.isArrayOf_alike hZ.alike Ar748.2.1) Ar748.2.2 hin748 (H748.at hin748 rfl) (g := (mkF m 110 #[ci p0, ci p1, ci p2, ci p3, ci p4, ci 4, ci 0, cr b104, cr b705, cr b745, cu] [(.int 0), (.ref b104)])) rfl rfl (hb hby at_110)) ?_
       refine wbpW X744 hx hby at_111 ?_
       refine wcyW (pc := 113) (pc' := 122) X744 hx hby at_113 (feq (hq0_ : ¬ (c0_ = (46 : Int32)))).2 ?_
       refine wilW X744 hx hby at_122 rfl ?_
       refine wicW X744 hx hby at_124 ?_
       refine wcnW X744 hx hby at_125 (tlt (by decide : (1 : Int32) < (4 : Int32))).2.2.2 ?_
       refine walW X744 hx hby at_128 rfl rfl ?_
       refine wicW X744 hx hby at_130 ?_
       obtain ⟨cl749, Ar749, q749, S749, M749, H749, G749⟩ := id ((V112.keep K704c nin0).keep K744c nin0)
       have hin749 := inb_of (j := (1 : Int32)) S749 ⟨by decide, by decide⟩
       refine EndsW.go (X744.caload hx (j := (1 : Int32)) (v := (.int c1_)) (by rw [e744]; exact Ar749.1) (State.isArrayOf_alike hZ.alike Ar749.2.1) Ar749.2.2 hin749 (H749.at hin749 rfl) (g := (mkF m 131 #[ci p0, ci p1, ci p2, ci p3, ci p4, ci 4, ci 0, cr b104, cr b705, cr b745, cu] [(.int 1), (.ref b104)])) rfl rfl (hb hby at_131)) ?_
       refine wbpW X744 hx hby at_132 ?_
       refine wcyW (pc := 134) (pc' := 143) X744 hx hby at_134 (feq (hq1_ : ¬ (c1_ = (46 : Int32)))).2 ?_
       refine wilW X744 hx hby at_143 rfl ?_
       refine wicW X744 hx hby at_145 ?_
       refine wcnW X744 hx hby at_146 (tlt (by decide : (2 : Int32) < (4 : Int32))).2.2.2 ?_
       refine walW X744 hx hby at_149 rfl rfl ?_
       refine wicW X744 hx hby at_151 ?_
       obtain ⟨cl750, Ar750, q750, S750, M750, H750, G750⟩ := id ((V112.keep K704c nin0).keep K744c nin0)
       have hin750 := inb_of (j := (2 : Int32)) S750 ⟨by decide, by decide⟩
       refine EndsW.go (X744.caload hx (j := (2 : Int32)) (v := (.int c2_)) (by rw [e744]; exact Ar750.1) (State.isArrayOf_alike hZ.alike Ar750.2.1) Ar750.2.2 hin750 (H750.at hin750 rfl) (g := (mkF m 152 #[ci p0, ci p1, ci p2, ci p3, ci p4, ci 4, ci 0, cr b104, cr b705, cr b745, cu] [(.int 2), (.ref b104)])) rfl rfl (hb hby at_152)) ?_
       refine wbpW X744 hx hby at_153 ?_
       refine wcyW (pc := 155) (pc' := 164) X744 hx hby at_155 (feq (hq2_ : ¬ (c2_ = (46 : Int32)))).2 ?_
       refine wilW X744 hx hby at_164 rfl ?_
       refine wicW X744 hx hby at_166 ?_
       refine wcnW X744 hx hby at_167 (tlt (by decide : (3 : Int32) < (4 : Int32))).2.2.2 ?_
       refine walW X744 hx hby at_170 rfl rfl ?_
       refine wicW X744 hx hby at_172 ?_
       obtain ⟨cl751, Ar751, q751, S751, M751, H751, G751⟩ := id ((V112.keep K704c nin0).keep K744c nin0)
       have hin751 := inb_of (j := (3 : Int32)) S751 ⟨by decide, by decide⟩
       refine EndsW.go (X744.caload hx (j := (3 : Int32)) (v := (.int c3_)) (by rw [e744]; exact Ar751.1) (State.isArrayOf_alike hZ.alike Ar751.2.1) Ar751.2.2 hin751 (H751.at hin751 rfl) (g := (mkF m 173 #[ci p0, ci p1, ci p2, ci p3, ci p4, ci 4, ci 0, cr b104, cr b705, cr b745, cu] [(.int 3), (.ref b104)])) rfl rfl (hb hby at_173)) ?_
       refine wbpW X744 hx hby at_174 ?_
       refine wcnW X744 hx hby at_176 (teq (hq3_ : c3_ = (46 : Int32))).2 ?_
       refine wicW X744 hx hby at_179 ?_
       refine wstW X744 hx hby at_180 (l' := #[ci p0, ci p1, ci p2, ci p3, ci p4, ci 4, ci 0, cr b104, cr b705, cr b745, ci 3]) rfl ?_
       refine wgoW (pc := 182) (pc' := 188) X744 hx hby at_182 ?_
       show EndsW _ _ _ _ T744 (mkF m 188 #[ci p0, ci p1, ci p2, ci p3, ci p4, ci 4, ci 0, cr b104, cr b705, cr b745, ci 3] []) _ _ _
       refine wilW X744 hx hby at_188 rfl ?_
       refine wiyW (pc := 190) (pc' := 204) X744 hx hby at_190 ((if0 _ _).trans (flt (by decide : ¬ ((3 : Int32) < (0 : Int32)))).2.1) ?_
       refine walW X744 hx hby at_204 rfl rfl ?_
       refine .go (fun _ => XS.ifnullNo X744.here hx rfl (hb hby at_206) rfl) ?_
       refine walW X744 hx hby at_209 rfl rfl ?_
       obtain ⟨cq752, kq752, q752a, q752b, q752c⟩ := isOf hZ e744 Y744_0
       obtain ⟨_, _, ⟨T752, L752, k752, n752⟩, -, X752, ⟨Lc752, hQ752, l752, y752, z752⟩, st752⟩ := X744.virtualBack hx (y := ym11) (z := ym11) hown (ov hZ hw 103 rfl) (ov hZ hw 50 rfl) (notFace_of_selects (args := #[]) (ov hZ hw 52 rfl)) (ov hZ hw 52 rfl) (ov hZ hw 51 rfl) (by decide) (own_backOf (W := 0) (rx10_73 l Z a0 hw [] n0 h744 O744 G1 G3 GF b745 b746 k747 c0_ c1_ c2_ Y744_2 Y744_1 Y744_3 Y744_0) hZ (ow hw 53 rfl) (ow hw 10 rfl) (by decide) (by decide)) q752a q752c (g := (mkF m 211 #[ci p0, ci p1, ci p2, ci p3, ci p4, ci 4, ci 0, cr b104, cr b705, cr b745, ci 3] [(.ref b745)])) rfl (by rw [hml]; rfl) (Steps.refl _) (argsL := []) (rest := []) (lenOf pdx_4 rfl) rfl (own_w rfl) (hb hby at_211) (fun _ _ => ⟨rfl, e744, (by decide : 6 + 0 ≤ _), (by decide : 23 + 0 ≤ _)⟩)
       dsimp only [Pt.U, Pt.locs, Pt.cells, Pt.slots] at X752 l752 y752 z752 st752 hQ752
       subst l752 y752 z752
       obtain ⟨rfl, N752q, K752c⟩ := hQ752
       have N752 := Fr.app N744 N752q
       refine EndsW.go (fun _ k => st752.trans k) ?_
       obtain ⟨h752, e752⟩ : ∃ z, T752.heap = z := ⟨_, rfl⟩
       rw [e752] at K752c
       have O752 := O744.keep K752c all0
       refine wilW X752 hx hby at_214 rfl ?_
       refine wcyW (pc := 216) (pc' := 221) X752 hx hby at_216 (teq (by decide : (3 : Int32) = (3 : Int32))).1 ?_
       refine wilW X752 hx hby at_221 rfl ?_
       refine wicW X752 hx hby at_223 ?_
       refine wcnW X752 hx hby at_224 (flt (by decide : ¬ ((3 : Int32) < (1 : Int32)))).1 ?_
       refine walW X752 hx hby at_227 rfl rfl ?_
       refine wicW X752 hx hby at_229 ?_
       obtain ⟨cq761, kq761, q761a, q761b, q761c⟩ := isOf hZ e752 (Y744_0.keep K752c)
       obtain ⟨_, _, ⟨T761, L761, k761, n761⟩, -, X761, ⟨Lc761, hQ761, l761, y761, z761⟩, st761⟩ := X752.virtualBack hx (y := ym29) (z := ym29) hown (ov hZ hw 123 rfl) (ov hZ hw 124 rfl) (notFace_of_selects (args := #[]) (ov hZ hw 126 rfl)) (ov hZ hw 126 rfl) (ov hZ hw 125 rfl) (by decide) (own_backOf (W := 0) (rx28_753 l Z a0 hw [] n0 h752 O752 G1 G3 GF b745 b746 k747 c0_ c1_ c2_ (Y744_3.keep K752c nin0) (Y744_0.keep K752c) (Y744_2.keep K752c nin0) (Y744_1.keep K752c nin0) hc0_) hZ (ow hw 127 rfl) (ow hw 10 rfl) (by decide) (by decide)) q761a q761c (g := (mkF m 230 #[ci p0, ci p1, ci p2, ci p3, ci p4, ci 4, ci 0, cr b104, cr b705, cr b745, ci 3] [(.int 0), (.ref b745)])) rfl (by rw [hml]; rfl) (Steps.refl _) (argsL := [(.int 0)]) (rest := []) (lenOf pdx_6 rfl) rfl (own_w rfl) (hb hby at_230) (fun _ _ => ⟨rfl, e752, (by decide : 6 + 0 ≤ _), (by decide : 23 + 0 ≤ _)⟩)
       dsimp only [Pt.U, Pt.locs, Pt.cells, Pt.slots] at X761 l761 y761 z761 st761 hQ761
       subst l761 y761 z761
       obtain ⟨rfl, N761q, K761c⟩ := hQ761
       have N761 := Fr.app N752 N761q
       refine EndsW.go (fun _ k => st761.trans k) ?_
       obtain ⟨h761, e761⟩ : ∃ z, T761.heap = z := ⟨_, rfl⟩
       rw [e761] at K761c
       have O761 := O752.keep K761c all0
       refine walW X761 hx hby at_233 rfl rfl ?_
       refine wicW X761 hx hby at_235 ?_
       obtain ⟨cl762, Ar762, q762, S762, M762, H762, G762⟩ := id ((((V112.keep K704c nin0).keep K744c nin0).keep K752c nin0).keep K761c nin0)
       have hin762 := inb_of (j := (0 : Int32)) S762 ⟨by decide, by decide⟩
       refine EndsW.go (X761.caload hx (j := (0 : Int32)) (v := (.int c0_)) (by rw [e761]; exact Ar762.1) (State.isArrayOf_alike hZ.alike Ar762.2.1) Ar762.2.2 hin762 (H762.at hin762 rfl) (g := (mkF m 236 #[ci p0, ci p1, ci p2, ci p3, ci p4, ci 4, ci 0, cr b104, cr b705, cr b745, ci 3] [(.int 0), (.ref b104), (.int c0_)])) rfl rfl (hb hby at_236)) ?_
       refine wcnW X761 hx hby at_237 (teq (rfl : c0_ = c0_)).2 ?_
       refine wilW X761 hx hby at_240 rfl ?_
       refine wicW X761 hx hby at_242 ?_
       refine wcnW X761 hx hby at_243 (flt (by decide : ¬ ((3 : Int32) < (2 : Int32)))).1 ?_
       refine walW X761 hx hby at_246 rfl rfl ?_
       refine wicW X761 hx hby at_248 ?_
       obtain ⟨cq771, kq771, q771a, q771b, q771c⟩ := isOf hZ e761 ((Y744_0.keep K752c).keep K761c)
       obtain ⟨_, _, ⟨T771, L771, k771, n771⟩, -, X771, ⟨Lc771, hQ771, l771, y771, z771⟩, st771⟩ := X761.virtualBack hx (y := ym29) (z := ym29) hown (ov hZ hw 123 rfl) (ov hZ hw 124 rfl) (notFace_of_selects (args := #[]) (ov hZ hw 126 rfl)) (ov hZ hw 126 rfl) (ov hZ hw 125 rfl) (by decide) (own_backOf (W := 0) (rx28_763 l Z a0 hw [] n0 h761 O761 G1 G3 GF b745 b746 k747 c0_ c1_ c2_ ((Y744_3.keep K752c nin0).keep K761c nin0) ((Y744_0.keep K752c).keep K761c) ((Y744_2.keep K752c nin0).keep K761c nin0) ((Y744_1.keep K752c nin0).keep K761c nin0) hc1_) hZ (ow hw 127 rfl) (ow hw 10 rfl) (by decide) (by decide)) q771a q771c (g := (mkF m 249 #[ci p0, ci p1, ci p2, ci p3, ci p4, ci 4, ci 0, cr b104, cr b705, cr b745, ci 3] [(.int 1), (.ref b745)])) rfl (by rw [hml]; rfl) (Steps.refl _) (argsL := [(.int 1)]) (rest := []) (lenOf pdx_6 rfl) rfl (own_w rfl) (hb hby at_249) (fun _ _ => ⟨rfl, e761, (by decide : 6 + 0 ≤ _), (by decide : 23 + 0 ≤ _)⟩)
       dsimp only [Pt.U, Pt.locs, Pt.cells, Pt.slots] at X771 l771 y771 z771 st771 hQ771
       subst l771 y771 z771
       obtain ⟨rfl, N771q, K771c⟩ := hQ771
       have N771 := Fr.app N761 N771q
       refine EndsW.go (fun _ k => st771.trans k) ?_
       obtain ⟨h771, e771⟩ : ∃ z, T771.heap = z := ⟨_, rfl⟩
       rw [e771] at K771c
       have O771 := O761.keep K771c all0
       refine walW X771 hx hby at_252 rfl rfl ?_
       refine wicW X771 hx hby at_254 ?_
       obtain ⟨cl772, Ar772, q772, S772, M772, H772, G772⟩ := id (((((V112.keep K704c nin0).keep K744c nin0).keep K752c nin0).keep K761c nin0).keep K771c nin0)
       have hin772 := inb_of (j := (1 : Int32)) S772 ⟨by decide, by decide⟩
       refine EndsW.go (X771.caload hx (j := (1 : Int32)) (v := (.int c1_)) (by rw [e771]; exact Ar772.1) (State.isArrayOf_alike hZ.alike Ar772.2.1) Ar772.2.2 hin772 (H772.at hin772 rfl) (g := (mkF m 255 #[ci p0, ci p1, ci p2, ci p3, ci p4, ci 4, ci 0, cr b104, cr b705, cr b745, ci 3] [(.int 1), (.ref b104), (.int c1_)])) rfl rfl (hb hby at_255)) ?_
       refine wcnW X771 hx hby at_256 (teq (rfl : c1_ = c1_)).2 ?_
       refine wilW X771 hx hby at_259 rfl ?_
       refine wicW X771 hx hby at_261 ?_
       show EndsW _ _ _ _ T771 (mkF m 262 #[ci p0, ci p1, ci p2, ci p3, ci p4, ci 4, ci 0, cr b104, cr b705, cr b745, ci 3] [(.int 3), (.int 3)]) _ _ _
       refine wcnW X771 hx hby at_262 (flt (by decide : ¬ ((3 : Int32) < (3 : Int32)))).1 ?_
       refine walW X771 hx hby at_265 rfl rfl ?_
       refine wicW X771 hx hby at_267 ?_
       obtain ⟨cq781, kq781, q781a, q781b, q781c⟩ := isOf hZ e771 (((Y744_0.keep K752c).keep K761c).keep K771c)
       obtain ⟨_, _, ⟨T781, L781, k781, n781⟩, -, X781, ⟨Lc781, hQ781, l781, y781, z781⟩, st781⟩ := X771.virtualBack hx (y := ym29) (z := ym29) hown (ov hZ hw 123 rfl) (ov hZ hw 124 rfl) (notFace_of_selects (args := #[]) (ov hZ hw 126 rfl)) (ov hZ hw 126 rfl) (ov hZ hw 125 rfl) (by decide) (own_backOf (W := 0) (rx28_773 l Z a0 hw [] n0 h771 O771 G1 G3 GF b745 b746 k747 c0_ c1_ c2_ (((Y744_3.keep K752c nin0).keep K761c nin0).keep K771c nin0) (((Y744_0.keep K752c).keep K761c).keep K771c) (((Y744_2.keep K752c nin0).keep K761c nin0).keep K771c nin0) (((Y744_1.keep K752c nin0).keep K761c nin0).keep K771c nin0) hc2_) hZ (ow hw 127 rfl) (ow hw 10 rfl) (by decide) (by decide)) q781a q781c (g := (mkF m 268 #[ci p0, ci p1, ci p2, ci p3, ci p4, ci 4, ci 0, cr b104, cr b705, cr b745, ci 3] [(.int 2), (.ref b745)])) rfl (by rw [hml]; rfl) (Steps.refl _) (argsL := [(.int 2)]) (rest := []) (lenOf pdx_6 rfl) rfl (own_w rfl) (hb hby at_268) (fun _ _ => ⟨rfl, e771, (by decide : 6 + 0 ≤ _), (by decide : 23 + 0 ≤ _)⟩)
       dsimp only [Pt.U, Pt.locs, Pt.cells, Pt.slots] at X781 l781 y781 z781 st781 hQ781
       subst l781 y781 z781
       obtain ⟨rfl, N781q, K781c⟩ := hQ781
       have N781 := Fr.app N771 N781q
       refine EndsW.go (fun _ k => st781.trans k) ?_
       obtain ⟨h781, e781⟩ : ∃ z, T781.heap = z := ⟨_, rfl⟩
       rw [e781] at K781c
       refine walW X781 hx hby at_271 rfl rfl ?_
       refine wicW X781 hx hby at_273 ?_
       obtain ⟨cl782, Ar782, q782, S782, M782, H782, G782⟩ := id ((((((V112.keep K704c nin0).keep K744c nin0).keep K752c nin0).keep K761c nin0).keep K771c nin0).keep K781c nin0)
       have hin782 := inb_of (j := (2 : Int32)) S782 ⟨by decide, by decide⟩
       refine EndsW.go (X781.caload hx (j := (2 : Int32)) (v := (.int c2_)) (by rw [e781]; exact Ar782.1) (State.isArrayOf_alike hZ.alike Ar782.2.1) Ar782.2.2 hin782 (H782.at hin782 rfl) (g := (mkF m 274 #[ci p0, ci p1, ci p2, ci p3, ci p4, ci 4, ci 0, cr b104, cr b705, cr b745, ci 3] [(.int 2), (.ref b104), (.int c2_)])) rfl rfl (hb hby at_274)) ?_
       refine wcnW X781 hx hby at_275 (teq (rfl : c2_ = c2_)).2 ?_
       refine wicW X781 hx hby at_278 ?_
       refine wgoW (pc := 279) (pc' := 283) X781 hx hby at_279 ?_
       refine EndsW.retZ (s := s) (vm := s.vm) X781 hx hS0 (Nat.le_trans (Nat.le_trans (Nat.le_trans (Nat.le_trans (Nat.le_trans (Nat.le_trans (Nat.le_trans (Nat.le_trans (Nat.le_trans (Nat.le_trans (Nat.le_trans (Nat.le_trans hk0 E104.1) (own_wrsz W106)) (own_wrsz W108)) (own_wrsz W110)) (own_wrsz W112)) K704c.1) K744c.1) K752c.1) K761c.1) K771c.1) K781c.1) (Nat.le_of_eq (congrArg Array.size e781.symm))) Bd.notSynchronized (t := .boolean) Bd.returns (by simp) (hb hby at_283) (by decide) (by decide) ?_
       exact ⟨rfl, N781⟩
      ·show EndsW _ _ _ _ T112 (mkF m 74 #[ci p0, ci p1, ci p2, ci p3, ci p4, ci 4, ci 0, cr b104, cu, cu, cu] [(.int 4), (.ref b104)]) _ _ _
       obtain ⟨_, _, ⟨T783, L783, k783, n783⟩, -, X783, ⟨Lc783, hQ783, l783, y783, z783⟩, st783⟩ := Jvm.LawKit.callS X112 hx (y := ym17) hown (ov hZ hw 5 rfl) (ov hZ hw 6 rfl) (ov hZ hw 3 rfl) (ov hZ hw 7 rfl) (by decide) (own_backOf (W := 0) (rx2_536 l Z a0 hw [] n0 h112 O112 G1 G3 GF b104 k104 c0_ c1_ c2_ c3_ V112 hc0_ hc1_ hc2_ hc3_) hZ (ow hw 7 rfl) (ow hw 3 rfl) (by decide) (by decide)) (g := (mkF m 74 #[ci p0, ci p1, ci p2, ci p3, ci p4, ci 4, ci 0, cr b104, cu, cu, cu] [(.int 4), (.ref b104)])) rfl (by rw [hml]; rfl) (argsL := [(.ref b104), (.int 4)]) (rest := []) (lenOf pdx_9 rfl) rfl (own_w rfl) (hb hby at_74) (fun _ _ => ⟨rfl, e112, (by decide : 1 + 3 ≤ _), (by decide : 4 + 12 ≤ _)⟩)
       dsimp only [Pt.U, Pt.locs, Pt.cells, Pt.slots] at X783 l783 y783 z783 st783 hQ783
       subst l783 y783 z783
       obtain ⟨b784, b785, b786, k787, k788, rfl, N783q, K783c, hb783_b784, hb783_b785, hb783_b786, hne783_b784_b785, hne783_b784_b786, hne783_b785_b786, Y783_0, Y783_1, Y783_2, Y783_3, Y783_4⟩ := hQ783
       have N783 := Fr.app N112 N783q
       refine EndsW.go st783 ?_
       obtain ⟨h783, e783⟩ : ∃ z, T783.heap = z := ⟨_, rfl⟩
       rw [e783] at K783c Y783_0 Y783_1 Y783_2 Y783_3 Y783_4
       have O783 := O112.keep K783c all0
       refine wasW X783 hx hby at_77 (l' := #[ci p0, ci p1, ci p2, ci p3, ci p4, ci 4, ci 0, cr b104, cr b784, cu, cu]) rfl rfl ?_
       refine walW X783 hx hby at_79 rfl rfl ?_
       obtain ⟨_, _, ⟨T791, L791, k791, n791⟩, -, X791, ⟨Lc791, hQ791, l791, y791, z791⟩, st791⟩ := Jvm.LawKit.callS X783 hx (y := ym18) hown (ov hZ hw 29 rfl) (ov hZ hw 30 rfl) (ov hZ hw 31 rfl) (ov hZ hw 32 rfl) (by decide) (own_backOf (W := 0) (rx6_789 l Z a0 hw [] n0 h783 O783 G1 G3 GF b784 b786 k788 c0_ c1_ c2_ c3_ Y783_4 Y783_0 Y783_3 Y783_2 hq0_ hq1_ hq2_ hq3_ hc0_ hc1_ hc2_ hc3_) hZ (ow hw 32 rfl) (ow hw 31 rfl) (by decide) (by decide)) (g := (mkF m 81 #[ci p0, ci p1, ci p2, ci p3, ci p4, ci 4, ci 0, cr b104, cr b784, cu, cu] [(.ref b784)])) rfl (by rw [hml]; rfl) (argsL := [(.ref b784)]) (rest := []) (lenOf pdx_11 rfl) rfl (own_w rfl) (hb hby at_81) (fun _ _ => ⟨rfl, e783, (by decide : 4 + 0 ≤ _), (by decide : 16 + 0 ≤ _)⟩)
       dsimp only [Pt.U, Pt.locs, Pt.cells, Pt.slots] at X791 l791 y791 z791 st791 hQ791
       subst l791 y791 z791
       obtain ⟨rfl, N791q, K791c⟩ := hQ791
       have N791 := Fr.app N783 N791q
       refine EndsW.go st791 ?_
       obtain ⟨h791, e791⟩ : ∃ z, T791.heap = z := ⟨_, rfl⟩
       rw [e791] at K791c
       refine wasW X791 hx hby at_84 (l' := #[ci p0, ci p1, ci p2, ci p3, ci p4, ci 4, ci 0, cr b104, cr b784, .val .null, cu]) rfl rfl ?_
       refine wilW X791 hx hby at_86 rfl ?_
       refine wiyW (pc := 88) (pc' := 102) X791 hx hby at_88 ((if0 _ _).trans (teq (by decide : (0 : Int32) = (0 : Int32))).1) ?_
       refine wilW X791 hx hby at_102 rfl ?_
       refine winW X791 hx hby at_104 ((if0 _ _).trans (tlt (by decide : (0 : Int32) < (4 : Int32))).2.2.2) ?_
       refine walW X791 hx hby at_107 rfl rfl ?_
       refine wicW X791 hx hby at_109 ?_
       obtain ⟨cl792, Ar792, q792, S792, M792, H792, G792⟩ := id ((V112.keep K783c nin0).keep K791c nin0)
       have hin792 := inb_of (j := (0 : Int32)) S792 ⟨by decide, by decide⟩
       refine EndsW.go (X791.caload hx (j := (0 : Int32)) (v := (.int c0_)) (by rw [e791]; exact Ar792.1) (State.isArrayOf_alike hZ.alike Ar792.2.1) Ar792.2.2 hin792 (H792.at hin792 rfl) (g := (mkF m 110 #[ci p0, ci p1, ci p2, ci p3, ci p4, ci 4, ci 0, cr b104, cr b784, .val .null, cu] [(.int 0), (.ref b104)])) rfl rfl (hb hby at_110)) ?_
       refine wbpW X791 hx hby at_111 ?_
       refine wcyW (pc := 113) (pc' := 122) X791 hx hby at_113 (feq (hq0_ : ¬ (c0_ = (46 : Int32)))).2 ?_
       refine wilW X791 hx hby at_122 rfl ?_
       refine wicW X791 hx hby at_124 ?_
       refine wcnW X791 hx hby at_125 (tlt (by decide : (1 : Int32) < (4 : Int32))).2.2.2 ?_
       refine walW X791 hx hby at_128 rfl rfl ?_
       refine wicW X791 hx hby at_130 ?_
       show EndsW _ _ _ _ T791 (mkF m 131 #[ci p0, ci p1, ci p2, ci p3, ci p4, ci 4, ci 0, cr b104, cr b784, .val .null, cu] [(.int 1), (.ref b104)]) _ _ _
       obtain ⟨cl793, Ar793, q793, S793, M793, H793, G793⟩ := id ((V112.keep K783c nin0).keep K791c nin0)
       have hin793 := inb_of (j := (1 : Int32)) S793 ⟨by decide, by decide⟩
       refine EndsW.go (X791.caload hx (j := (1 : Int32)) (v := (.int c1_)) (by rw [e791]; exact Ar793.1) (State.isArrayOf_alike hZ.alike Ar793.2.1) Ar793.2.2 hin793 (H793.at hin793 rfl) (g := (mkF m 131 #[ci p0, ci p1, ci p2, ci p3, ci p4, ci 4, ci 0, cr b104, cr b784, .val .null, cu] [(.int 1), (.ref b104)])) rfl rfl (hb hby at_131)) ?_
       refine wbpW X791 hx hby at_132 ?_
       refine wcyW (pc := 134) (pc' := 143) X791 hx hby at_134 (feq (hq1_ : ¬ (c1_ = (46 : Int32)))).2 ?_
       refine wilW X791 hx hby at_143 rfl ?_
       refine wicW X791 hx hby at_145 ?_
       refine wcnW X791 hx hby at_146 (tlt (by decide : (2 : Int32) < (4 : Int32))).2.2.2 ?_
       refine walW X791 hx hby at_149 rfl rfl ?_
       refine wicW X791 hx hby at_151 ?_
       obtain ⟨cl794, Ar794, q794, S794, M794, H794, G794⟩ := id ((V112.keep K783c nin0).keep K791c nin0)
       have hin794 := inb_of (j := (2 : Int32)) S794 ⟨by decide, by decide⟩
       refine EndsW.go (X791.caload hx (j := (2 : Int32)) (v := (.int c2_)) (by rw [e791]; exact Ar794.1) (State.isArrayOf_alike hZ.alike Ar794.2.1) Ar794.2.2 hin794 (H794.at hin794 rfl) (g := (mkF m 152 #[ci p0, ci p1, ci p2, ci p3, ci p4, ci 4, ci 0, cr b104, cr b784, .val .null, cu] [(.int 2), (.ref b104)])) rfl rfl (hb hby at_152)) ?_
       refine wbpW X791 hx hby at_153 ?_
       refine wcyW (pc := 155) (pc' := 164) X791 hx hby at_155 (feq (hq2_ : ¬ (c2_ = (46 : Int32)))).2 ?_
       refine wilW X791 hx hby at_164 rfl ?_
       refine wicW X791 hx hby at_166 ?_
       refine wcnW X791 hx hby at_167 (tlt (by decide : (3 : Int32) < (4 : Int32))).2.2.2 ?_
       refine walW X791 hx hby at_170 rfl rfl ?_
       refine wicW X791 hx hby at_172 ?_
       obtain ⟨cl795, Ar795, q795, S795, M795, H795, G795⟩ := id ((V112.keep K783c nin0).keep K791c nin0)
       have hin795 := inb_of (j := (3 : Int32)) S795 ⟨by decide, by decide⟩
       refine EndsW.go (X791.caload hx (j := (3 : Int32)) (v := (.int c3_)) (by rw [e791]; exact Ar795.1) (State.isArrayOf_alike hZ.alike Ar795.2.1) Ar795.2.2 hin795 (H795.at hin795 rfl) (g := (mkF m 173 #[ci p0, ci p1, ci p2, ci p3, ci p4, ci 4, ci 0, cr b104, cr b784, .val .null, cu] [(.int 3), (.ref b104)])) rfl rfl (hb hby at_173)) ?_
       refine wbpW X791 hx hby at_174 ?_
       refine wcyW (pc := 176) (pc' := 185) X791 hx hby at_176 (feq (hq3_ : ¬ (c3_ = (46 : Int32)))).2 ?_
       refine wicW X791 hx hby at_185 ?_
       refine wstW X791 hx hby at_186 (l' := #[ci p0, ci p1, ci p2, ci p3, ci p4, ci 4, ci 0, cr b104, cr b784, .val .null, ci (-1)]) rfl ?_
       refine wilW X791 hx hby at_188 rfl ?_
       refine winW X791 hx hby at_190 ((if0 _ _).trans (tlt (by decide : (-1 : Int32) < (0 : Int32))).2.1) ?_
       refine walW X791 hx hby at_193 rfl rfl ?_
       refine .go (fun _ => XS.ifnonnullNo X791.here hx rfl (hb hby at_195) rfl) ?_
       refine wicW X791 hx hby at_198 ?_
       refine wgoW (pc := 199) (pc' := 203) X791 hx hby at_199 ?_
       refine EndsW.retZ (s := s) (vm := s.vm) X791 hx hS0 (Nat.le_trans (Nat.le_trans (Nat.le_trans (Nat.le_trans (Nat.le_trans (Nat.le_trans (Nat.le_trans (Nat.le_trans hk0 E104.1) (own_wrsz W106)) (own_wrsz W108)) (own_wrsz W110)) (own_wrsz W112)) K783c.1) K791c.1) (Nat.le_of_eq (congrArg Array.size e791.symm))) Bd.notSynchronized (t := .boolean) Bd.returns (by simp) (hb hby at_203) (by decide) (by decide) ?_
       exact ⟨rfl, N791⟩
 ·refine winW X0 hx hby at_14 ((if0 _ _).trans (feq hc14_103).1) ?_
  refine wicW X0 hx hby at_17 ?_
  refine wgoW (pc := 18) (pc' := 22) X0 hx hby at_18 ?_
  show EndsW _ _ _ _ s₁ (mkF m 22 #[ci p0, ci p1, ci p2, ci p3, ci p4, ci n_, cu, cu, cu, cu, cu] [(.int 1)]) _ _ _
  refine wstW X0 hx hby at_22 (l' := #[ci p0, ci p1, ci p2, ci p3, ci p4, ci n_, ci 1, cu, cu, cu, cu]) rfl ?_
  refine wicW X0 hx hby at_24 ?_
  obtain ⟨T796, h796, k796, X796, e796, E796, A796, st796⟩ := newP X0 hx hZ (ow hw 0 rfl) e0 (g := (mkF m 25 #[ci p0, ci p1, ci p2, ci p3, ci p4, ci n_, ci 1, cu, cu, cu, cu] [(.int 4)])) rfl (hb hby at_25) rfl (by decide) (cap := 4) (by decide) (by decide) (by decide) (by decide)
  obtain ⟨b796, g796⟩ : ∃ z, z = h0.size := ⟨_, rfl⟩
  rw [← g796] at A796 st796
  refine EndsW.go st796 ?_
  have g_b796 : n0 ≤ b796 := Nat.le_trans (own_old_le O0) (Nat.le_of_eq g796.symm)
  have O796 := O0.ext E796
  have V_b796 : Arv Z h796 b796 k796 .char (4 : Int32) [(.int 0), (.int 0), (.int 0), (.int 0)] (.int 0) := (Arv.new A796 (by decide)).pad (pad_rep [] (.int 0) 4)
  refine wasW X796 hx hby at_27 (l' := #[ci p0, ci p1, ci p2, ci p3, ci p4, ci n_, ci 1, cr b796, cu, cu, cu]) rfl rfl ?_
  refine walW X796 hx hby at_29 rfl rfl ?_
  refine wicW X796 hx hby at_31 ?_
  refine wilNW X796 hx hby at_32 rfl ?_
  obtain ⟨_, _, ⟨T797, L797, k797, n797⟩, -, X797, ⟨Lc797, hQ797, l797, y797, z797⟩, st797⟩ := Jvm.LawKit.callS X796 hx (y := ym0) hown (ov hZ hw 1 rfl) (ov hZ hw 2 rfl) (ov hZ hw 3 rfl) (ov hZ hw 4 rfl) (by decide) (own_backOf (W := 2) (rmP l Z a0 hw [] n0 h796 O796 p0) hZ (ow hw 4 rfl) (ow hw 3 rfl) (by decide) (by decide)) (g := (mkF m 33 #[ci p0, ci p1, ci p2, ci p3, ci p4, ci n_, ci 1, cr b796, cu, cu, cu] [(.int p0), (.int 0), (.ref b796)])) rfl (by rw [hml]; rfl) (argsL := [(.int p0)]) (rest := [(.int 0), (.ref b796)]) (lenOf pdx_6 rfl) rfl (own_w rfl) (hb hby at_33) (fun _ _ => ⟨rfl, e796, (by decide : 1 + 0 ≤ _), (by decide : 4 + 0 ≤ _)⟩)
  dsimp only [Pt.U, Pt.locs, Pt.cells, Pt.slots] at X797 l797 y797 z797 st797 hQ797
  subst l797 y797 z797
  obtain ⟨c0_, rfl, N797q, e797q, hr797⟩ := hQ797
  have N797 := Fr.app N0 N797q
  refine EndsW.go st797 ?_
  have hc0_ := hr797
  obtain ⟨cl798, Ar798, q798, S798, M798, H798, G798⟩ := id V_b796
  have hin798 := inb_of (j := (0 : Int32)) S798 ⟨by decide, by decide⟩
  obtain ⟨T798, h798, X798, e798, W798, st798⟩ := stC X797 hx hZ e797q Ar798 (j := (0 : Int32)) hin798 (g := (mkF m 36 #[ci p0, ci p1, ci p2, ci p3, ci p4, ci n_, ci 1, cr b796, cu, cu, cu] [(.int c0_), (.int 0), (.ref b796)])) rfl rfl (hb hby at_36)
  refine EndsW.go st798 ?_
  have V798 : Arv Z h798 b796 k796 .char (4 : Int32) [(.int (nar .char c0_)), (.int 0), (.int 0), (.int 0)] (.int 0) := Arv.set Ar798 q798 S798 M798 H798 G798 (fits_nar_char _) W798 0 rfl (Nat.le_of_ble_eq_true rfl)
  rw [own_narc hc0_] at V798
  have O798 := O796.wr W798 g_b796
  have N798 := Fr.snoc X798 N797 g_b796
  refine walW X798 hx hby at_37 rfl rfl ?_
  refine wicW X798 hx hby at_39 ?_
  refine wilNW X798 hx hby at_40 rfl ?_
  obtain ⟨_, _, ⟨T799, L799, k799, n799⟩, -, X799, ⟨Lc799, hQ799, l799, y799, z799⟩, st799⟩ := Jvm.LawKit.callS X798 hx (y := ym0) hown (ov hZ hw 1 rfl) (ov hZ hw 2 rfl) (ov hZ hw 3 rfl) (ov hZ hw 4 rfl) (by decide) (own_backOf (W := 2) (rmP l Z a0 hw [] n0 h798 O798 p1) hZ (ow hw 4 rfl) (ow hw 3 rfl) (by decide) (by decide)) (g := (mkF m 41 #[ci p0, ci p1, ci p2, ci p3, ci p4, ci n_, ci 1, cr b796, cu, cu, cu] [(.int p1), (.int 1), (.ref b796)])) rfl (by rw [hml]; rfl) (argsL := [(.int p1)]) (rest := [(.int 1), (.ref b796)]) (lenOf pdx_6 rfl) rfl (own_w rfl) (hb hby at_41) (fun _ _ => ⟨rfl, e798, (by decide : 1 + 0 ≤ _), (by decide : 4 + 0 ≤ _)⟩)
  dsimp only [Pt.U, Pt.locs, Pt.cells, Pt.slots] at X799 l799 y799 z799 st799 hQ799
  subst l799 y799 z799
  obtain ⟨c1_, rfl, N799q, e799q, hr799⟩ := hQ799
  have N799 := Fr.app N798 N799q
  refine EndsW.go st799 ?_
  have hc1_ := hr799
  obtain ⟨cl800, Ar800, q800, S800, M800, H800, G800⟩ := id V798
  have hin800 := inb_of (j := (1 : Int32)) S800 ⟨by decide, by decide⟩
  obtain ⟨T800, h800, X800, e800, W800, st800⟩ := stC X799 hx hZ e799q Ar800 (j := (1 : Int32)) hin800 (g := (mkF m 44 #[ci p0, ci p1, ci p2, ci p3, ci p4, ci n_, ci 1, cr b796, cu, cu, cu] [(.int c1_), (.int 1), (.ref b796)])) rfl rfl (hb hby at_44)
  refine EndsW.go st800 ?_
  have V800 : Arv Z h800 b796 k796 .char (4 : Int32) [(.int c0_), (.int (nar .char c1_)), (.int 0), (.int 0)] (.int 0) := Arv.set Ar800 q800 S800 M800 H800 G800 (fits_nar_char _) W800 1 rfl (Nat.le_of_ble_eq_true rfl)
  rw [own_narc hc1_] at V800
  have O800 := O798.wr W800 g_b796
  have N800 := Fr.snoc X800 N799 g_b796
  refine walW X800 hx hby at_45 rfl rfl ?_
  refine wicW X800 hx hby at_47 ?_
  refine wilNW X800 hx hby at_48 rfl ?_
  obtain ⟨_, _, ⟨T801, L801, k801, n801⟩, -, X801, ⟨Lc801, hQ801, l801, y801, z801⟩, st801⟩ := Jvm.LawKit.callS X800 hx (y := ym0) hown (ov hZ hw 1 rfl) (ov hZ hw 2 rfl) (ov hZ hw 3 rfl) (ov hZ hw 4 rfl) (by decide) (own_backOf (W := 2) (rmP l Z a0 hw [] n0 h800 O800 p2) hZ (ow hw 4 rfl) (ow hw 3 rfl) (by decide) (by decide)) (g := (mkF m 49 #[ci p0, ci p1, ci p2, ci p3, ci p4, ci n_, ci 1, cr b796, cu, cu, cu] [(.int p2), (.int 2), (.ref b796)])) rfl (by rw [hml]; rfl) (argsL := [(.int p2)]) (rest := [(.int 2), (.ref b796)]) (lenOf pdx_6 rfl) rfl (own_w rfl) (hb hby at_49) (fun _ _ => ⟨rfl, e800, (by decide : 1 + 0 ≤ _), (by decide : 4 + 0 ≤ _)⟩)
  dsimp only [Pt.U, Pt.locs, Pt.cells, Pt.slots] at X801 l801 y801 z801 st801 hQ801
  subst l801 y801 z801
  obtain ⟨c2_, rfl, N801q, e801q, hr801⟩ := hQ801
  have N801 := Fr.app N800 N801q
  refine EndsW.go st801 ?_
  have hc2_ := hr801
  obtain ⟨cl802, Ar802, q802, S802, M802, H802, G802⟩ := id V800
  have hin802 := inb_of (j := (2 : Int32)) S802 ⟨by decide, by decide⟩
  obtain ⟨T802, h802, X802, e802, W802, st802⟩ := stC X801 hx hZ e801q Ar802 (j := (2 : Int32)) hin802 (g := (mkF m 52 #[ci p0, ci p1, ci p2, ci p3, ci p4, ci n_, ci 1, cr b796, cu, cu, cu] [(.int c2_), (.int 2), (.ref b796)])) rfl rfl (hb hby at_52)
  refine EndsW.go st802 ?_
  have V802 : Arv Z h802 b796 k796 .char (4 : Int32) [(.int c0_), (.int c1_), (.int (nar .char c2_)), (.int 0)] (.int 0) := Arv.set Ar802 q802 S802 M802 H802 G802 (fits_nar_char _) W802 2 rfl (Nat.le_of_ble_eq_true rfl)
  rw [own_narc hc2_] at V802
  have O802 := O800.wr W802 g_b796
  have N802 := Fr.snoc X802 N801 g_b796
  refine walW X802 hx hby at_53 rfl rfl ?_
  refine wicW X802 hx hby at_55 ?_
  refine wilNW X802 hx hby at_56 rfl ?_
  obtain ⟨_, _, ⟨T803, L803, k803, n803⟩, -, X803, ⟨Lc803, hQ803, l803, y803, z803⟩, st803⟩ := Jvm.LawKit.callS X802 hx (y := ym0) hown (ov hZ hw 1 rfl) (ov hZ hw 2 rfl) (ov hZ hw 3 rfl) (ov hZ hw 4 rfl) (by decide) (own_backOf (W := 2) (rmP l Z a0 hw [] n0 h802 O802 p3) hZ (ow hw 4 rfl) (ow hw 3 rfl) (by decide) (by decide)) (g := (mkF m 57 #[ci p0, ci p1, ci p2, ci p3, ci p4, ci n_, ci 1, cr b796, cu, cu, cu] [(.int p3), (.int 3), (.ref b796)])) rfl (by rw [hml]; rfl) (argsL := [(.int p3)]) (rest := [(.int 3), (.ref b796)]) (lenOf pdx_6 rfl) rfl (own_w rfl) (hb hby at_57) (fun _ _ => ⟨rfl, e802, (by decide : 1 + 0 ≤ _), (by decide : 4 + 0 ≤ _)⟩)
  dsimp only [Pt.U, Pt.locs, Pt.cells, Pt.slots] at X803 l803 y803 z803 st803 hQ803
  subst l803 y803 z803
  obtain ⟨c3_, rfl, N803q, e803q, hr803⟩ := hQ803
  have N803 := Fr.app N802 N803q
  refine EndsW.go st803 ?_
  have hc3_ := hr803
  obtain ⟨cl804, Ar804, q804, S804, M804, H804, G804⟩ := id V802
  have hin804 := inb_of (j := (3 : Int32)) S804 ⟨by decide, by decide⟩
  obtain ⟨T804, h804, X804, e804, W804, st804⟩ := stC X803 hx hZ e803q Ar804 (j := (3 : Int32)) hin804 (g := (mkF m 60 #[ci p0, ci p1, ci p2, ci p3, ci p4, ci n_, ci 1, cr b796, cu, cu, cu] [(.int c3_), (.int 3), (.ref b796)])) rfl rfl (hb hby at_60)
  refine EndsW.go st804 ?_
  have V804 : Arv Z h804 b796 k796 .char (4 : Int32) [(.int c0_), (.int c1_), (.int c2_), (.int (nar .char c3_))] (.int 0) := Arv.set Ar804 q804 S804 M804 H804 G804 (fits_nar_char _) W804 3 rfl (Nat.le_of_ble_eq_true rfl)
  rw [own_narc hc3_] at V804
  have O804 := O802.wr W804 g_b796
  have N804 := Fr.snoc X804 N803 g_b796
  refine wilW X804 hx hby at_61 rfl ?_
  refine winW X804 hx hby at_63 ((if0 _ _).trans (feq (by decide : ¬ ((1 : Int32) = (0 : Int32)))).1) ?_
  refine .go (fun _ => XS.aconstNull X804.here hx rfl (hb hby at_66)) ?_
  refine wgoW (pc := 67) (pc' := 77) X804 hx hby at_67 ?_
  refine wasW X804 hx hby at_77 (l' := #[ci p0, ci p1, ci p2, ci p3, ci p4, ci n_, ci 1, cr b796, .val .null, cu, cu]) rfl rfl ?_
  refine walW X804 hx hby at_79 rfl rfl ?_
  show EndsW _ _ _ _ T804 (mkF m 81 #[ci p0, ci p1, ci p2, ci p3, ci p4, ci n_, ci 1, cr b796, .val .null, cu, cu] [.null]) _ _ _
  obtain ⟨_, _, ⟨T806, L806, k806, n806⟩, -, X806, ⟨Lc806, hQ806, l806, y806, z806⟩, st806⟩ := Jvm.LawKit.callS X804 hx (y := ym18) hown (ov hZ hw 29 rfl) (ov hZ hw 30 rfl) (ov hZ hw 31 rfl) (ov hZ hw 32 rfl) (by decide) (own_backOf (W := 0) (rx6_805 l Z a0 hw [] n0 h804 O804   ) hZ (ow hw 32 rfl) (ow hw 31 rfl) (by decide) (by decide)) (g := (mkF m 81 #[ci p0, ci p1, ci p2, ci p3, ci p4, ci n_, ci 1, cr b796, .val .null, cu, cu] [.null])) rfl (by rw [hml]; rfl) (argsL := [.null]) (rest := []) (lenOf pdx_11 rfl) rfl (own_w rfl) (hb hby at_81) (fun _ _ => ⟨rfl, e804, (by decide : 1 + 0 ≤ _), (by decide : 4 + 0 ≤ _)⟩)
  dsimp only [Pt.U, Pt.locs, Pt.cells, Pt.slots] at X806 l806 y806 z806 st806 hQ806
  subst l806 y806 z806
  obtain ⟨rfl, N806q, K806c⟩ := hQ806
  have N806 := Fr.app N804 N806q
  refine EndsW.go st806 ?_
  obtain ⟨h806, e806⟩ : ∃ z, T806.heap = z := ⟨_, rfl⟩
  rw [e806] at K806c
  refine wasW X806 hx hby at_84 (l' := #[ci p0, ci p1, ci p2, ci p3, ci p4, ci n_, ci 1, cr b796, .val .null, .val .null, cu]) rfl rfl ?_
  refine wilW X806 hx hby at_86 rfl ?_
  refine winW X806 hx hby at_88 ((if0 _ _).trans (feq (by decide : ¬ ((1 : Int32) = (0 : Int32)))).1) ?_
  refine walW X806 hx hby at_91 rfl rfl ?_
  refine .go (fun _ => XS.ifnonnullNo X806.here hx rfl (hb hby at_93) rfl) ?_
  refine wicW X806 hx hby at_96 ?_
  refine wgoW (pc := 97) (pc' := 101) X806 hx hby at_97 ?_
  refine EndsW.retZ (s := s) (vm := s.vm) X806 hx hS0 (Nat.le_trans (Nat.le_trans (Nat.le_trans (Nat.le_trans (Nat.le_trans (Nat.le_trans (Nat.le_trans hk0 E796.1) (own_wrsz W798)) (own_wrsz W800)) (own_wrsz W802)) (own_wrsz W804)) K806c.1) (Nat.le_of_eq (congrArg Array.size e806.symm))) Bd.notSynchronized (t := .boolean) Bd.returns (by simp) (hb hby at_101) (by decide) (by decide) ?_
  exact ⟨rfl, N806⟩
theorem comes_1 {Post : Tables → Env → Array Value → State → Outcome → State → Prop} (hpost : ∀ tb e args s v u, (limb_1_1.after args s (.returned v) u = true ∧ limb_1_2.after args s (.returned v) u = true ∧ True) → ReturnedEndW s (.returned v) u (Jvm.fieldLocs frame_1_writes args s ++ Jvm.arrayLocs frame_1_arrays args s ++ Jvm.staticLocs frame_1_statics s) 24 2176 → Post tb e args s (.returned v) u) :
  ArmFor flags0 classFile x code maxLocals ret World_1 tables_1 room_1 Calls_1 rest_1 Pre_1 Post := by
 intro l hfl _ _ p e ha hc hk s m args below hf hA hF happ hP
 obtain ⟨hcalls, hrest, hpre⟩ := hP
 obtain ⟨-, -, -, hnamed, -, -, -, hat⟩ := (Spec.applies_iff hf).mp happ
 obtain ⟨hg, hn⟩ := and_e (Cond.before_iff.mp (show (Jvm.Cond.and given_1 narrow_1).before args s = true from hpre))
 obtain ⟨g0a, g0b⟩ := and_e hg
 obtain ⟨g1a, g1b⟩ := and_e g0b
 obtain ⟨g2a, g2b⟩ := and_e g1b
 obtain ⟨g3a, g3b⟩ := and_e g2b
 obtain ⟨g4a, g4b⟩ := and_e g3b
 obtain ⟨w0, w1, w2, w3, w4, rfl⟩ : ∃ w0 w1 w2 w3 w4 : Value, args = #[w0, w1, w2, w3, w4] := by
  have hs : args.size = 5 := by simpa [Cond.value, given_1] using g0a
  obtain ⟨L⟩ := args
  match L, hs with
  | [w0, w1, w2, w3, w4], _ => exact ⟨w0, w1, w2, w3, w4, rfl⟩
 have hw := fun d (hd : d ∈ tables_1) => atoms_spec (ws := Jvm.Cond.code x code maxLocals ret :: tables_1) hat d (List.mem_cons_of_mem _ hd)
 have hfit : Fit s := fun {y c} hc i hi => by
  obtain ⟨ha, rfl⟩ := Array.getElem?_eq_some_iff.mp hc
  have q := List.all_eq_true.mp ((Array.all_eq_true_iff_forall_mem.mp hF) _ (Array.getElem_mem ha)) i (List.mem_range.mpr hi)
  simpa [Array.getElem?_eq_getElem hi] using q
 obtain ⟨hsets, hown0⟩ := atoms_of _ (rest_1_c_eq ▸ (show rest_1_c.before _ s = true from hrest))
 obtain ⟨i0, ei0⟩ := is_v g1a
 obtain rfl : w0 = (.int i0) := Option.some.inj ei0
 obtain ⟨i1, ei1⟩ := is_v g2a
 obtain rfl : w1 = (.int i1) := Option.some.inj ei1
 obtain ⟨i2, ei2⟩ := is_v g3a
 obtain rfl : w2 = (.int i2) := Option.some.inj ei2
 obtain ⟨i3, ei3⟩ := is_v g4a
 obtain rfl : w3 = (.int i3) := Option.some.inj ei3
 obtain ⟨i4, ei4⟩ := is_v g4b
 obtain rfl : w4 = (.int i4) := Option.some.inj ei4
 obtain ⟨G1, ev1⟩ := is_v (Cond.before_iff.mp (hsets _ (List.mem_of_getElem? (i := 1) rfl)))
 have SCS := Sta.start ev1 (Or.inl (hsets _ (List.mem_of_getElem? (i := 0) rfl)))
 have P5 : ¬ G1 = (0 : Int32) := gotF (Cond.eq_ints ev1 rfl) (not_v (Cond.before_iff.mp (hsets _ (List.mem_of_getElem? (i := 2) rfl))))
 obtain ⟨G3, ev3, RG3⟩ := isR_v (Cond.before_iff.mp (hsets _ (List.mem_of_getElem? (i := 8) rfl)))
 have SSF := Sta.start ev3 (Or.inl (hsets _ (List.mem_of_getElem? (i := 7) rfl)))
 have HC1 : Jvm.Lit.constHeld s cST 7 := hcalls.1 _ (List.mem_of_getElem? (i := 0) rfl)
 have HC2 : Jvm.Lit.constHeld s "java/lang/StringLatin1" 151 := hcalls.1 _ (List.mem_of_getElem? (i := 1) rfl)
 obtain ⟨n, o, h1, h2, h3, _, L, rfl, ⟨rfl, N⟩, hq⟩ := rm0 l s _ hw tables_1 s.heap.size s.heap (Old.start s) i0 i1 i2 i3 i4 G1 G3 ⟨SCS, P5, SSF, RG3, HC1, HC2, (hsets _ (List.mem_of_getElem? (i := 2) rfl))⟩ p e ha hc hk s m _ below hf ((Spec.applies_iff_loose hf).mp happ).1 ⟨rfl, State.Warmed39.refl s, rfl, fun _ => rfl⟩ trivial
 refine ⟨n, _, h1, h2, h3, hpost _ _ _ _ _ _ ⟨Cond.after_iff.mpr rfl, Cond.after_iff.mpr (eq_i res_at (Term.int_eval (1)) rfl), trivial⟩ ⟨hq.1, hq.2.1, hq.2.2.1, (hq.2.2.2.sift fun y hy => Or.inr (N y hy)).mono (by decide) (by decide)⟩⟩
theorem main_1_1 : Claimed_1_1 := comes_1 fun _ _ _ _ _ _ h hF => ⟨h.1, hF⟩
theorem main_1_2 : Claimed_1_2 := comes_1 fun _ _ _ _ _ _ h hF => ⟨h.2.1, hF⟩
end Jvm.Pilot.@@N@@
namespace Jvm.Pilot.@@N@@
open Jvm Jvm.ClassFile Sem Op Lib Jvm.Free Jvm.Stand Jvm.Pilot.@@N@@.Jvm.D
/-! MADE BY PROGRAM (witnessworld.py) out of the Statement's table words and the real class files: 23 classes; the members and pool entries that the words name. The judged class is class 1, her method 3. -/
namespace start1
open Jvm.ClassFile
def u (s : String) : CpInfo := .utf8 (stringToUtf16 s)
/-- a pool by its gaps: so many unusable entries, then the entry; so many at the end -/
def gap : Nat → List CpInfo → List CpInfo
  | 0, r => r
  | n + 1, r => .unusable :: gap n r
def poolList (es : List (Nat × CpInfo)) (last : Nat) : List CpInfo := es.foldr (fun e r => gap e.1 (e.2 :: r)) (gap last [])
def pool (es : List (Nat × CpInfo)) (last : Nat) : Array CpInfo := ⟨poolList es last⟩
def fileOf (pool : Array CpInfo) (this : Nat) (attrs : Array Attribute := #[]) (ms : Array MethodInfo := #[]) (fl : Nat := 33) (sup : Nat := 0) (ifs : Array Nat := #[]) (fds : Array FieldInfo := #[]) : ClassFile where
  minorVersion := 0
  majorVersion := 65
  constantPool := pool
  accessFlags := fl
  thisClass := this
  superClass := sup
  interfaces := ifs
  fields := fds
  methods := ms
  attributes := attrs
def plain (name : String) (sup : Option ClassId) : Class where
  name := name
  kind := .ordinary
  loader := none
  accessFlags := 33
  super := sup
  interfaces := #[]
  cf := none
  fields := #[]
  methods := #[]
  instanceTypes := #[]
  staticTypes := #[]
  resolved := #[]
  callSites := []
  init := .initialized
  statics := none
  mirror := none

def pool0 : Array CpInfo := pool [(5, u "<init>"), (0, u "()V"), (1, .class_ 10), (1, u "java/lang/Object")] 113

def k0c0 : Code := { maxStack := 0, maxLocals := 1, code := object_method_1_code, exceptionTable := #[], attributes := #[] }
def k0m0 : Method := { name := "<init>", desc := "()V", sig := { parameters := [], returnType := none }, accessFlags := 1, code := some k0c0 }
/-- java/lang/Object -/
def k0 : Class := { plain "java/lang/Object" none with
  accessFlags := 33
  interfaces := #[]
  cf := some (fileOf pool0 8 #[] #[{ accessFlags := 1, nameIndex := 5, descriptorIndex := 6, attributes := #[] }] 33 0 #[] #[])
  fields := #[]
  methods := #[k0m0]
  instanceTypes := #[]
  staticTypes := #[]
  resolved := Array.replicate 124 none
  statics := none }

def pool1 : Array CpInfo := pool [(2, .class_ 4), (1, u "java/lang/Object"), (0, u "<init>"), (0, u "()V"), (0, .class_ 8), (0, u "java/lang/String"), (0, .methodref 7 10), (0, .nameAndType 5 11), (0, u "([C)V"), (0, .methodref 13 14), (0, .class_ 15), (0, .nameAndType 16 17), (0, u "com/example/wakeline/wakeline/format/shareplex/SharePlexMessageDatabasePinLaw"), (0, u "ch"), (0, u "(I)C"), (0, .methodref 13 19), (0, .nameAndType 20 21), (0, u "make"), (0, u "([CI)Ljava/lang/String;"), (0, .methodref 23 24), (0, .class_ 25), (0, .nameAndType 26 27), (0, u "com/example/wakeline/wakeline/format/shareplex/SharePlexMessage"), (0, u "database"), (0, u "(Ljava/lang/String;)Ljava/lang/String;"), (0, .methodref 7 29), (0, .nameAndType 30 31), (0, u "length"), (0, u "()I"), (0, .methodref 7 33), (0, .nameAndType 34 17), (0, u "charAt"), (3, u "law"), (0, u "(IIIII)Z")] 4

def k1m0 : Method := { name := "<init>", desc := "()V", sig := { parameters := [], returnType := none }, accessFlags := 2, code := none }
def k1c1 : Code := { maxStack := 2, maxLocals := 1, code := method_2_code, exceptionTable := #[], attributes := #[] }
def k1m1 : Method := { name := "ch", desc := "(I)C", sig := { parameters := [.int], returnType := some .char }, accessFlags := 10, code := some k1c1 }
def k1c2 : Code := { maxStack := 7, maxLocals := 2, code := method_3_code, exceptionTable := #[], attributes := #[] }
def k1m2 : Method := { name := "make", desc := "([CI)Ljava/lang/String;", sig := { parameters := [(.array .char), .int], returnType := some (.object "java/lang/String") }, accessFlags := 10, code := some k1c2 }
def k1c3 : Code := { maxStack := 3, maxLocals := 11, code := code, exceptionTable := #[], attributes := #[] }
def k1m3 : Method := { name := "law", desc := "(IIIII)Z", sig := { parameters := [.int, .int, .int, .int, .int], returnType := some .boolean }, accessFlags := 9, code := some k1c3 }
/-- com/example/wakeline/wakeline/format/shareplex/SharePlexMessageDatabasePinLaw -/
def k1 : Class := { plain "com/example/wakeline/wakeline/format/shareplex/SharePlexMessageDatabasePinLaw" (some 0) with
  accessFlags := 49
  interfaces := #[]
  cf := some (fileOf pool1 13 #[] #[{ accessFlags := 2, nameIndex := 5, descriptorIndex := 6, attributes := #[] }, { accessFlags := 10, nameIndex := 16, descriptorIndex := 17, attributes := #[] }, { accessFlags := 10, nameIndex := 20, descriptorIndex := 21, attributes := #[] }, { accessFlags := 9, nameIndex := 38, descriptorIndex := 39, attributes := #[] }] 49 2 #[] #[])
  fields := #[]
  methods := #[k1m0, k1m1, k1m2, k1m3]
  instanceTypes := #[]
  staticTypes := #[]
  resolved := Array.replicate 44 none
  statics := none }

def pool2 : Array CpInfo := pool [(1, .class_ 2), (0, u "java/io/Serializable"), (0, .class_ 4), (0, u "java/lang/Object")] 2

/-- java/io/Serializable -/
def k2 : Class := { plain "java/io/Serializable" (some 0) with
  accessFlags := 1537
  interfaces := #[]
  cf := some (fileOf pool2 1 #[] #[] 1537 3 #[] #[])
  fields := #[]
  methods := #[]
  instanceTypes := #[]
  staticTypes := #[]
  resolved := Array.replicate 7 none
  statics := none }

def pool3 : Array CpInfo := pool [(1, .class_ 2), (0, u "java/lang/Comparable"), (0, .class_ 4), (0, u "java/lang/Object")] 7

/-- java/lang/Comparable -/
def k3 : Class := { plain "java/lang/Comparable" (some 0) with
  accessFlags := 1537
  interfaces := #[]
  cf := some (fileOf pool3 1 #[] #[] 1537 3 #[] #[])
  fields := #[]
  methods := #[]
  instanceTypes := #[]
  staticTypes := #[]
  resolved := Array.replicate 12 none
  statics := none }

def pool4 : Array CpInfo := pool [(2, .class_ 4), (1, u "java/lang/CharSequence"), (42, .class_ 48), (0, u "java/lang/CharSequence$1CodePointIterator"), (10, .class_ 60), (0, u "java/lang/CharSequence$1CharIterator"), (5, .class_ 67), (0, u "java/lang/Object")] 63

/-- java/lang/CharSequence -/
def k4 : Class := { plain "java/lang/CharSequence" (some 0) with
  accessFlags := 1537
  interfaces := #[]
  cf := some (fileOf pool4 2 #[.nestMembers #[47, 59]] #[] 1537 66 #[] #[])
  fields := #[]
  methods := #[]
  instanceTypes := #[]
  staticTypes := #[]
  resolved := Array.replicate 131 none
  statics := none }

def pool5 : Array CpInfo := pool [(1, .class_ 2), (0, u "java/lang/constant/Constable"), (0, .class_ 4), (0, u "java/lang/Object")] 6

/-- java/lang/constant/Constable -/
def k5 : Class := { plain "java/lang/constant/Constable" (some 0) with
  accessFlags := 1537
  interfaces := #[]
  cf := some (fileOf pool5 1 #[] #[] 1537 3 #[] #[])
  fields := #[]
  methods := #[]
  instanceTypes := #[]
  staticTypes := #[]
  resolved := Array.replicate 11 none
  statics := none }

def pool6 : Array CpInfo := pool [(1, .class_ 2), (0, u "java/lang/constant/ConstantDesc"), (0, .class_ 4), (0, u "java/lang/Object")] 32

/-- java/lang/constant/ConstantDesc -/
def k6 : Class := { plain "java/lang/constant/ConstantDesc" (some 0) with
  accessFlags := 1537
  interfaces := #[]
  cf := some (fileOf pool6 1 #[] #[] 1537 3 #[] #[])
  fields := #[]
  methods := #[]
  instanceTypes := #[]
  staticTypes := #[]
  resolved := Array.replicate 37 none
  statics := none }

def pool7 : Array CpInfo := pool [(1, .methodref 2 3), (0, .class_ 4), (0, .nameAndType 5 6), (0, u "java/lang/Object"), (0, u "<init>"), (0, u "()V"), (0, .string 8), (0, u ""), (0, .fieldref 10 11), (0, .class_ 12), (0, .nameAndType 13 14), (0, u "java/lang/String"), (0, u "value"), (0, u "[B"), (0, .fieldref 10 16), (0, .nameAndType 17 18), (0, u "coder"), (0, u "B"), (2, u "hash"), (0, u "I"), (2, u "hashIsZero"), (0, u "Z"), (0, .methodref 10 28), (0, .nameAndType 5 29), (0, u "([CIILjava/lang/Void;)V"), (8, .fieldref 10 39), (0, .nameAndType 40 26), (0, u "COMPACT_STRINGS"), (1, .class_ 44), (1, u "java/lang/StringUTF16"), (0, u "compress"), (1, .methodref 42 48), (0, .nameAndType 49 50), (0, u "coderFromArrayLen"), (0, u "([BI)B"), (56, .class_ 109), (1, u "java/lang/StringLatin1"), (32, u "()Z"), (34, .methodref 42 178), (0, .nameAndType 45 179), (0, u "([CII)[B"), (31, u "([BB)V"), (122, u "()I"), (0, .methodref 10 336), (0, .nameAndType 17 337), (0, u "()B"), (25, u "([BI)C"), (27, u "(II)V"), (35, u "(I)C"), (64, .methodref 10 493), (0, .nameAndType 494 142), (0, u "isLatin1"), (0, .methodref 107 496), (0, .nameAndType 497 363), (0, u "charAt"), (3, u "checkIndex"), (3, .methodref 10 506), (0, .nameAndType 507 334), (0, u "length"), (5, u "checkFromToIndex"), (7, .methodref 10 522), (0, .nameAndType 523 524), (0, u "checkBoundsBeginEnd"), (0, u "(III)V"), (50, .class_ 576), (0, u "java/lang/CharSequence"), (22, u "CASE_INSENSITIVE_ORDER"), (0, u "Ljava/util/Comparator;"), (32, .methodref 10 634), (0, .nameAndType 635 636), (0, u "indexOf"), (0, u "(II)I"), (0, .methodref 107 638), (0, .nameAndType 635 639), (0, u "([BIII)I"), (43, u "substring"), (0, u "(II)Ljava/lang/String;"), (0, .methodref 107 686), (0, .nameAndType 687 688), (0, u "newString"), (0, u "([BII)Ljava/lang/String;"), (76, u "(I)I"), (244, u "([C)V"), (42, .fieldref 1054 1055), (0, .class_ 1056), (0, .nameAndType 1057 1058), (0, u "jdk/internal/util/Preconditions"), (0, u "SIOOBE_FORMATTER"), (0, u "Ljava/util/function/BiFunction;"), (0, .methodref 1054 1060), (0, .nameAndType 501 1061), (0, u "(IILjava/util/function/BiFunction;)I"), (0, .methodref 1054 1063), (0, .nameAndType 513 1064), (0, u "(IIILjava/util/function/BiFunction;)I"), (36, u "serialPersistentFields"), (0, u "[Ljava/io/ObjectStreamField;"), (0, .class_ 1104), (0, u "java/lang/String$CaseInsensitiveComparator"), (1, .class_ 1107), (0, u "java/io/Serializable"), (0, .class_ 1109), (0, u "java/lang/Comparable"), (0, .class_ 1111), (0, u "java/lang/constant/Constable"), (0, .class_ 1113), (0, u "java/lang/constant/ConstantDesc"), (2, u "serialVersionUID"), (0, u "J"), (3, u "REPL"), (0, u "C"), (2, u "LATIN1"), (1, u "UTF16")] 323

def k7m0 : Method := { name := "<init>", desc := "()V", sig := { parameters := [], returnType := none }, accessFlags := 1, code := none }
def k7c1 : Code := { maxStack := 5, maxLocals := 2, code := jdk_42_method_3_code, exceptionTable := #[], attributes := #[] }
def k7m1 : Method := { name := "<init>", desc := "([C)V", sig := { parameters := [(.array .char)], returnType := none }, accessFlags := 1, code := some k7c1 }
def k7c2 : Code := { maxStack := 2, maxLocals := 1, code := jdk_42_method_54_code, exceptionTable := #[], attributes := #[] }
def k7m2 : Method := { name := "length", desc := "()I", sig := { parameters := [], returnType := some .int }, accessFlags := 1, code := some k7c2 }
def k7c3 : Code := { maxStack := 2, maxLocals := 2, code := jdk_42_method_56_code, exceptionTable := #[], attributes := #[] }
def k7m3 : Method := { name := "charAt", desc := "(I)C", sig := { parameters := [.int], returnType := some .char }, accessFlags := 1, code := some k7c3 }
def k7c4 : Code := { maxStack := 3, maxLocals := 2, code := jdk_42_method_79_code, exceptionTable := #[], attributes := #[] }
def k7m4 : Method := { name := "indexOf", desc := "(I)I", sig := { parameters := [.int], returnType := some .int }, accessFlags := 1, code := some k7c4 }
def k7c5 : Code := { maxStack := 4, maxLocals := 3, code := jdk_42_method_80_code, exceptionTable := #[], attributes := #[] }
def k7m5 : Method := { name := "indexOf", desc := "(II)I", sig := { parameters := [.int, .int], returnType := some .int }, accessFlags := 1, code := some k7c5 }
def k7c6 : Code := { maxStack := 3, maxLocals := 5, code := jdk_42_method_92_code, exceptionTable := #[], attributes := #[] }
def k7m6 : Method := { name := "substring", desc := "(II)Ljava/lang/String;", sig := { parameters := [.int, .int], returnType := some (.object "java/lang/String") }, accessFlags := 1, code := some k7c6 }
def k7c7 : Code := { maxStack := 4, maxLocals := 6, code := jdk_42_method_149_code, exceptionTable := #[], attributes := #[] }
def k7m7 : Method := { name := "<init>", desc := "([CIILjava/lang/Void;)V", sig := { parameters := [(.array .char), .int, .int, (.object "java/lang/Void")], returnType := none }, accessFlags := 2, code := some k7c7 }
def k7c8 : Code := { maxStack := 2, maxLocals := 3, code := jdk_42_method_151_code, exceptionTable := #[], attributes := #[] }
def k7m8 : Method := { name := "<init>", desc := "([BB)V", sig := { parameters := [(.array .byte), .byte], returnType := none }, accessFlags := 0, code := some k7c8 }
def k7c9 : Code := { maxStack := 1, maxLocals := 1, code := jdk_42_method_152_code, exceptionTable := #[], attributes := #[] }
def k7m9 : Method := { name := "coder", desc := "()B", sig := { parameters := [], returnType := some .byte }, accessFlags := 0, code := some k7c9 }
def k7c10 : Code := { maxStack := 1, maxLocals := 1, code := jdk_42_method_154_code, exceptionTable := #[], attributes := #[] }
def k7m10 : Method := { name := "isLatin1", desc := "()Z", sig := { parameters := [], returnType := some .boolean }, accessFlags := 0, code := some k7c10 }
def k7c11 : Code := { maxStack := 3, maxLocals := 2, code := jdk_42_method_155_code, exceptionTable := #[], attributes := #[] }
def k7m11 : Method := { name := "checkIndex", desc := "(II)V", sig := { parameters := [.int, .int], returnType := none }, accessFlags := 8, code := some k7c11 }
def k7c12 : Code := { maxStack := 4, maxLocals := 3, code := jdk_42_method_158_code, exceptionTable := #[], attributes := #[] }
def k7m12 : Method := { name := "checkBoundsBeginEnd", desc := "(III)V", sig := { parameters := [.int, .int, .int], returnType := none }, accessFlags := 8, code := some k7c12 }
/-- java/lang/String -/
def k7 : Class := { plain "java/lang/String" (some 0) with
  accessFlags := 49
  interfaces := #[2, 3, 4, 5, 6]
  cf := some (fileOf pool7 10 #[.nestMembers #[1103]] #[{ accessFlags := 1, nameIndex := 5, descriptorIndex := 6, attributes := #[] }, { accessFlags := 1, nameIndex := 5, descriptorIndex := 1010, attributes := #[] }, { accessFlags := 1, nameIndex := 507, descriptorIndex := 334, attributes := #[] }, { accessFlags := 1, nameIndex := 497, descriptorIndex := 427, attributes := #[] }, { accessFlags := 1, nameIndex := 635, descriptorIndex := 765, attributes := #[] }, { accessFlags := 1, nameIndex := 635, descriptorIndex := 636, attributes := #[] }, { accessFlags := 1, nameIndex := 683, descriptorIndex := 684, attributes := #[] }, { accessFlags := 2, nameIndex := 5, descriptorIndex := 29, attributes := #[] }, { accessFlags := 0, nameIndex := 5, descriptorIndex := 211, attributes := #[] }, { accessFlags := 0, nameIndex := 17, descriptorIndex := 337, attributes := #[] }, { accessFlags := 0, nameIndex := 494, descriptorIndex := 142, attributes := #[] }, { accessFlags := 8, nameIndex := 501, descriptorIndex := 391, attributes := #[] }, { accessFlags := 8, nameIndex := 523, descriptorIndex := 524, attributes := #[] }] 49 2 #[1106, 1108, 575, 1110, 1112] #[{ accessFlags := 18, nameIndex := 13, descriptorIndex := 14, attributes := #[] }, { accessFlags := 18, nameIndex := 17, descriptorIndex := 18, attributes := #[] }, { accessFlags := 2, nameIndex := 21, descriptorIndex := 22, attributes := #[] }, { accessFlags := 2, nameIndex := 25, descriptorIndex := 26, attributes := #[] }, { accessFlags := 26, nameIndex := 1116, descriptorIndex := 1117, attributes := #[] }, { accessFlags := 24, nameIndex := 40, descriptorIndex := 26, attributes := #[] }, { accessFlags := 26, nameIndex := 1101, descriptorIndex := 1102, attributes := #[] }, { accessFlags := 26, nameIndex := 1121, descriptorIndex := 1122, attributes := #[] }, { accessFlags := 25, nameIndex := 599, descriptorIndex := 600, attributes := #[] }, { accessFlags := 24, nameIndex := 1125, descriptorIndex := 18, attributes := #[] }, { accessFlags := 24, nameIndex := 1127, descriptorIndex := 18, attributes := #[] }])
  fields := #[{ name := "value", type := (.array .byte), accessFlags := 18, slot := 0, constantValue := 0 }, { name := "coder", type := .byte, accessFlags := 18, slot := 1, constantValue := 0 }, { name := "hash", type := .int, accessFlags := 2, slot := 2, constantValue := 0 }, { name := "hashIsZero", type := .boolean, accessFlags := 2, slot := 3, constantValue := 0 }, { name := "serialVersionUID", type := .long, accessFlags := 26, slot := 0, constantValue := 0 }, { name := "COMPACT_STRINGS", type := .boolean, accessFlags := 24, slot := 1, constantValue := 0 }, { name := "serialPersistentFields", type := (.array (.object "java/io/ObjectStreamField")), accessFlags := 26, slot := 2, constantValue := 0 }, { name := "REPL", type := .char, accessFlags := 26, slot := 3, constantValue := 0 }, { name := "CASE_INSENSITIVE_ORDER", type := (.object "java/util/Comparator"), accessFlags := 25, slot := 4, constantValue := 0 }, { name := "LATIN1", type := .byte, accessFlags := 24, slot := 5, constantValue := 0 }, { name := "UTF16", type := .byte, accessFlags := 24, slot := 6, constantValue := 0 }]
  methods := #[k7m0, k7m1, k7m2, k7m3, k7m4, k7m5, k7m6, k7m7, k7m8, k7m9, k7m10, k7m11, k7m12]
  instanceTypes := #[(.array .byte), .byte, .int, .boolean]
  staticTypes := #[.long, .boolean, (.array (.object "java/io/ObjectStreamField")), .char, (.object "java/util/Comparator"), .byte, .byte]
  resolved := Array.replicate 1451 none
  statics := some 0 }

def pool8 : Array CpInfo := pool [(2, .class_ 4), (1, u "java/lang/Object"), (0, u "<init>"), (0, u "()V"), (1, .class_ 10), (1, u "com/example/wakeline/wakeline/format/shareplex/SharePlexMessage"), (0, u "OPERATIONS"), (0, u "Ljava/util/Map;"), (10, u "WRITTEN_OPS"), (0, .class_ 25), (0, u "java/lang/String"), (12, .methodref 24 39), (0, .nameAndType 40 41), (0, u "indexOf"), (0, u "(I)I"), (0, .methodref 24 43), (0, .nameAndType 44 45), (0, u "substring"), (0, u "(II)Ljava/lang/String;"), (5, u "(Ljava/lang/String;)Ljava/lang/String;"), (2, u "TIME"), (0, u "Ljava/util/regex/Pattern;"), (49, u "WRITTEN_TIME"), (0, u "Ljava/time/format/DateTimeFormatter;"), (41, u "OP_NAMES"), (0, u "Ljava/util/List;"), (45, u "DATA"), (0, u "Ljava/lang/String;"), (3, u "KEY"), (14, u "database")] 56

def k8m0 : Method := { name := "<init>", desc := "()V", sig := { parameters := [], returnType := none }, accessFlags := 2, code := none }
def k8c1 : Code := { maxStack := 3, maxLocals := 2, code := prog_33_method_5_code, exceptionTable := #[], attributes := #[] }
def k8m1 : Method := { name := "database", desc := "(Ljava/lang/String;)Ljava/lang/String;", sig := { parameters := [(.object "java/lang/String")], returnType := some (.object "java/lang/String") }, accessFlags := 8, code := some k8c1 }
/-- com/example/wakeline/wakeline/format/shareplex/SharePlexMessage -/
def k8 : Class := { plain "com/example/wakeline/wakeline/format/shareplex/SharePlexMessage" (some 0) with
  accessFlags := 48
  interfaces := #[]
  cf := some (fileOf pool8 8 #[] #[{ accessFlags := 2, nameIndex := 5, descriptorIndex := 6, attributes := #[] }, { accessFlags := 8, nameIndex := 215, descriptorIndex := 51, attributes := #[] }] 48 2 #[] #[{ accessFlags := 24, nameIndex := 195, descriptorIndex := 196, attributes := #[] }, { accessFlags := 24, nameIndex := 200, descriptorIndex := 196, attributes := #[] }, { accessFlags := 26, nameIndex := 148, descriptorIndex := 149, attributes := #[] }, { accessFlags := 26, nameIndex := 11, descriptorIndex := 12, attributes := #[] }, { accessFlags := 26, nameIndex := 23, descriptorIndex := 12, attributes := #[] }, { accessFlags := 26, nameIndex := 54, descriptorIndex := 55, attributes := #[] }, { accessFlags := 26, nameIndex := 105, descriptorIndex := 106, attributes := #[] }])
  fields := #[{ name := "DATA", type := (.object "java/lang/String"), accessFlags := 24, slot := 0, constantValue := 0 }, { name := "KEY", type := (.object "java/lang/String"), accessFlags := 24, slot := 1, constantValue := 0 }, { name := "OP_NAMES", type := (.object "java/util/List"), accessFlags := 26, slot := 2, constantValue := 0 }, { name := "OPERATIONS", type := (.object "java/util/Map"), accessFlags := 26, slot := 3, constantValue := 0 }, { name := "WRITTEN_OPS", type := (.object "java/util/Map"), accessFlags := 26, slot := 4, constantValue := 0 }, { name := "TIME", type := (.object "java/util/regex/Pattern"), accessFlags := 26, slot := 5, constantValue := 0 }, { name := "WRITTEN_TIME", type := (.object "java/time/format/DateTimeFormatter"), accessFlags := 26, slot := 6, constantValue := 0 }]
  methods := #[k8m0, k8m1]
  instanceTypes := #[]
  staticTypes := #[(.object "java/lang/String"), (.object "java/lang/String"), (.object "java/util/List"), (.object "java/util/Map"), (.object "java/util/Map"), (.object "java/util/regex/Pattern"), (.object "java/time/format/DateTimeFormatter")]
  resolved := Array.replicate 272 none
  statics := none }

def pool9 : Array CpInfo := pool [(1, .class_ 2), (0, u "java/lang/String"), (1, .class_ 6), (1, u "java/lang/Object"), (0, u "<init>"), (0, u "()V"), (0, .methodref 1 10), (0, .nameAndType 11 12), (0, u "checkIndex"), (0, u "(II)V"), (1, .class_ 16), (1, u "java/lang/StringLatin1"), (21, .methodref 39 40), (0, .class_ 41), (0, .nameAndType 42 43), (0, u "java/lang/Math"), (0, u "min"), (0, u "(II)I"), (9, u "([BI)C"), (34, .methodref 14 89), (0, .nameAndType 90 91), (0, u "canEncode"), (0, u "(I)Z"), (0, .methodref 39 93), (0, .nameAndType 94 43), (0, u "max"), (0, .methodref 14 96), (0, .nameAndType 97 98), (0, u "indexOfChar"), (0, u "([BIII)I"), (2, u "indexOf"), (10, .methodref 1 113), (0, .nameAndType 7 114), (0, u "([BB)V"), (6, u "$assertionsDisabled"), (0, u "Z"), (8, .class_ 133), (1, u "java/util/Arrays"), (17, .string 152), (0, u ""), (43, u "newString"), (0, u "([BII)Ljava/lang/String;"), (23, .class_ 223), (1, u "java/lang/StringLatin1$LinesSpliterator"), (8, .methodref 131 233), (0, .nameAndType 234 235), (0, u "copyOfRange"), (0, u "([BII)[B"), (16, u "charAt"), (137, .class_ 391), (0, u "java/lang/StringLatin1$CharsSpliterator")] 3

def k9m0 : Method := { name := "<init>", desc := "()V", sig := { parameters := [], returnType := none }, accessFlags := 0, code := none }
def k9c1 : Code := { maxStack := 2, maxLocals := 2, code := jdk_43_method_2_code, exceptionTable := #[], attributes := #[] }
def k9m1 : Method := { name := "charAt", desc := "([BI)C", sig := { parameters := [(.array .byte), .int], returnType := some .char }, accessFlags := 9, code := some k9c1 }
def k9c2 : Code := { maxStack := 2, maxLocals := 1, code := jdk_43_method_4_code, exceptionTable := #[], attributes := #[] }
def k9m2 : Method := { name := "canEncode", desc := "(I)Z", sig := { parameters := [.int], returnType := some .boolean }, accessFlags := 9, code := some k9c2 }
def k9c3 : Code := { maxStack := 4, maxLocals := 4, code := jdk_43_method_22_code, exceptionTable := #[], attributes := #[] }
def k9m3 : Method := { name := "indexOf", desc := "([BIII)I", sig := { parameters := [(.array .byte), .int, .int, .int], returnType := some .int }, accessFlags := 9, code := some k9c3 }
def k9c4 : Code := { maxStack := 2, maxLocals := 6, code := jdk_43_method_23_code, exceptionTable := #[], attributes := #[] }
def k9m4 : Method := { name := "indexOfChar", desc := "([BIII)I", sig := { parameters := [(.array .byte), .int, .int, .int], returnType := some .int }, accessFlags := 10, code := some k9c4 }
def k9c5 : Code := { maxStack := 6, maxLocals := 3, code := jdk_43_method_47_code, exceptionTable := #[], attributes := #[] }
def k9m5 : Method := { name := "newString", desc := "([BII)Ljava/lang/String;", sig := { parameters := [(.array .byte), .int, .int], returnType := some (.object "java/lang/String") }, accessFlags := 9, code := some k9c5 }
/-- java/lang/StringLatin1 -/
def k9 : Class := { plain "java/lang/StringLatin1" (some 0) with
  accessFlags := 48
  interfaces := #[]
  cf := some (fileOf pool9 14 #[.nestMembers #[390, 221]] #[{ accessFlags := 0, nameIndex := 7, descriptorIndex := 8, attributes := #[] }, { accessFlags := 9, nameIndex := 252, descriptorIndex := 53, attributes := #[] }, { accessFlags := 9, nameIndex := 90, descriptorIndex := 91, attributes := #[] }, { accessFlags := 9, nameIndex := 101, descriptorIndex := 98, attributes := #[] }, { accessFlags := 10, nameIndex := 97, descriptorIndex := 98, attributes := #[] }, { accessFlags := 9, nameIndex := 196, descriptorIndex := 197, attributes := #[] }] 48 4 #[] #[{ accessFlags := 4120, nameIndex := 121, descriptorIndex := 122, attributes := #[] }])
  fields := #[{ name := "$assertionsDisabled", type := .boolean, accessFlags := 4120, slot := 0, constantValue := 0 }]
  methods := #[k9m0, k9m1, k9m2, k9m3, k9m4, k9m5]
  instanceTypes := #[]
  staticTypes := #[.boolean]
  resolved := Array.replicate 395 none
  statics := none }

def pool10 : Array CpInfo := pool [(1, .class_ 2), (0, u "java/lang/Math"), (1, .class_ 6), (1, u "java/lang/Object"), (0, u "<init>"), (0, u "()V"), (89, .class_ 100), (1, u "java/lang/Math$RandomNumberGeneratorHolder"), (71, u "negativeZeroFloatBits"), (0, u "J"), (2, u "negativeZeroDoubleBits"), (21, u "max"), (2, u "min"), (43, u "$assertionsDisabled"), (0, u "Z"), (88, u "(II)I"), (2, u "twoToTheDoubleScaleDown"), (0, u "D"), (4, u "twoToTheDoubleScaleUp"), (9, u "E"), (3, u "PI"), (2, u "TAU"), (2, u "DEGREES_TO_RADIANS"), (0, u "RADIANS_TO_DEGREES")] 94

def k10m0 : Method := { name := "<init>", desc := "()V", sig := { parameters := [], returnType := none }, accessFlags := 2, code := none }
def k10c1 : Code := { maxStack := 2, maxLocals := 2, code := jdk_29_method_65_code, exceptionTable := #[], attributes := #[] }
def k10m1 : Method := { name := "max", desc := "(II)I", sig := { parameters := [.int, .int], returnType := some .int }, accessFlags := 9, code := some k10c1 }
def k10c2 : Code := { maxStack := 2, maxLocals := 2, code := jdk_29_method_69_code, exceptionTable := #[], attributes := #[] }
def k10m2 : Method := { name := "min", desc := "(II)I", sig := { parameters := [.int, .int], returnType := some .int }, accessFlags := 9, code := some k10c2 }
/-- java/lang/Math -/
def k10 : Class := { plain "java/lang/Math" (some 0) with
  accessFlags := 49
  interfaces := #[]
  cf := some (fileOf pool10 1 #[.nestMembers #[98]] #[{ accessFlags := 2, nameIndex := 7, descriptorIndex := 8, attributes := #[] }, { accessFlags := 9, nameIndex := 198, descriptorIndex := 335, attributes := #[] }, { accessFlags := 9, nameIndex := 201, descriptorIndex := 335, attributes := #[] }] 49 4 #[] #[{ accessFlags := 25, nameIndex := 354, descriptorIndex := 339, attributes := #[] }, { accessFlags := 25, nameIndex := 358, descriptorIndex := 339, attributes := #[] }, { accessFlags := 25, nameIndex := 361, descriptorIndex := 339, attributes := #[] }, { accessFlags := 26, nameIndex := 364, descriptorIndex := 339, attributes := #[] }, { accessFlags := 26, nameIndex := 365, descriptorIndex := 339, attributes := #[] }, { accessFlags := 26, nameIndex := 172, descriptorIndex := 173, attributes := #[] }, { accessFlags := 26, nameIndex := 176, descriptorIndex := 173, attributes := #[] }, { accessFlags := 8, nameIndex := 344, descriptorIndex := 339, attributes := #[] }, { accessFlags := 8, nameIndex := 338, descriptorIndex := 339, attributes := #[] }, { accessFlags := 4120, nameIndex := 245, descriptorIndex := 246, attributes := #[] }])
  fields := #[{ name := "E", type := .double, accessFlags := 25, slot := 0, constantValue := 0 }, { name := "PI", type := .double, accessFlags := 25, slot := 1, constantValue := 0 }, { name := "TAU", type := .double, accessFlags := 25, slot := 2, constantValue := 0 }, { name := "DEGREES_TO_RADIANS", type := .double, accessFlags := 26, slot := 3, constantValue := 0 }, { name := "RADIANS_TO_DEGREES", type := .double, accessFlags := 26, slot := 4, constantValue := 0 }, { name := "negativeZeroFloatBits", type := .long, accessFlags := 26, slot := 5, constantValue := 0 }, { name := "negativeZeroDoubleBits", type := .long, accessFlags := 26, slot := 6, constantValue := 0 }, { name := "twoToTheDoubleScaleUp", type := .double, accessFlags := 8, slot := 7, constantValue := 0 }, { name := "twoToTheDoubleScaleDown", type := .double, accessFlags := 8, slot := 8, constantValue := 0 }, { name := "$assertionsDisabled", type := .boolean, accessFlags := 4120, slot := 9, constantValue := 0 }]
  methods := #[k10m0, k10m1, k10m2]
  instanceTypes := #[]
  staticTypes := #[.double, .double, .double, .double, .double, .long, .long, .double, .double, .boolean]
  resolved := Array.replicate 460 none
  statics := none }

def pool11 : Array CpInfo := pool [(6, .class_ 8), (1, u "java/lang/Object"), (0, u "<init>"), (0, u "()V"), (1, .class_ 14), (1, u "java/lang/StringUTF16"), (31, u "$assertionsDisabled"), (0, u "Z"), (13, u "HI_BYTE_SHIFT"), (0, u "I"), (2, u "LO_BYTE_SHIFT"), (49, .methodref 12 116), (0, .nameAndType 117 118), (0, u "compress"), (0, u "([CI[BII)I"), (3, u "([CII)[B"), (138, u "coderFromArrayLen"), (0, u "([BI)B"), (106, .class_ 371), (1, u "java/lang/StringUTF16$LinesSpliterator"), (58, u "MAX_LENGTH"), (196, .class_ 628), (0, u "java/lang/StringUTF16$CodePointsSpliterator"), (0, .class_ 630), (0, u "java/lang/StringUTF16$CharsSpliterator")] 4

def k11m0 : Method := { name := "<init>", desc := "()V", sig := { parameters := [], returnType := none }, accessFlags := 0, code := none }
def k11c1 : Code := { maxStack := 2, maxLocals := 2, code := jdk_52_method_15_code, exceptionTable := #[], attributes := #[] }
def k11m1 : Method := { name := "coderFromArrayLen", desc := "([BI)B", sig := { parameters := [(.array .byte), .int], returnType := some .byte }, accessFlags := 8, code := some k11c1 }
def k11c2 : Code := { maxStack := 5, maxLocals := 6, code := jdk_52_method_16_code, exceptionTable := #[], attributes := #[] }
def k11m2 : Method := { name := "compress", desc := "([CII)[B", sig := { parameters := [(.array .char), .int, .int], returnType := some (.array .byte) }, accessFlags := 9, code := some k11c2 }
def k11c3 : Code := { maxStack := 3, maxLocals := 7, code := jdk_52_method_21_code, exceptionTable := #[], attributes := #[] }
def k11m3 : Method := { name := "compress", desc := "([CI[BII)I", sig := { parameters := [(.array .char), .int, (.array .byte), .int, .int], returnType := some .int }, accessFlags := 9, code := some k11c3 }
/-- java/lang/StringUTF16 -/
def k11 : Class := { plain "java/lang/StringUTF16" (some 0) with
  accessFlags := 48
  interfaces := #[]
  cf := some (fileOf pool11 12 #[.nestMembers #[627, 629, 369]] #[{ accessFlags := 0, nameIndex := 9, descriptorIndex := 10, attributes := #[] }, { accessFlags := 8, nameIndex := 261, descriptorIndex := 262, attributes := #[] }, { accessFlags := 9, nameIndex := 117, descriptorIndex := 122, attributes := #[] }, { accessFlags := 9, nameIndex := 117, descriptorIndex := 118, attributes := #[] }] 48 6 #[] #[{ accessFlags := 26, nameIndex := 61, descriptorIndex := 62, attributes := #[] }, { accessFlags := 26, nameIndex := 65, descriptorIndex := 62, attributes := #[] }, { accessFlags := 24, nameIndex := 430, descriptorIndex := 62, attributes := #[] }, { accessFlags := 4120, nameIndex := 46, descriptorIndex := 47, attributes := #[] }])
  fields := #[{ name := "HI_BYTE_SHIFT", type := .int, accessFlags := 26, slot := 0, constantValue := 0 }, { name := "LO_BYTE_SHIFT", type := .int, accessFlags := 26, slot := 1, constantValue := 0 }, { name := "MAX_LENGTH", type := .int, accessFlags := 24, slot := 2, constantValue := 0 }, { name := "$assertionsDisabled", type := .boolean, accessFlags := 4120, slot := 3, constantValue := 0 }]
  methods := #[k11m0, k11m1, k11m2, k11m3]
  instanceTypes := #[]
  staticTypes := #[.int, .int, .int, .boolean]
  resolved := Array.replicate 635 none
  statics := none }

def pool12 : Array CpInfo := pool [(2, .class_ 4), (1, u "java/lang/Object"), (0, u "<init>"), (0, u "()V"), (17, .class_ 26), (1, u "jdk/internal/util/Preconditions"), (6, u "checkIndex"), (13, u "checkFromToIndex"), (7, .class_ 56), (0, u "jdk/internal/util/Preconditions$4"), (57, .class_ 115), (0, u "jdk/internal/util/Preconditions$1"), (7, u "SIOOBE_FORMATTER"), (0, u "Ljava/util/function/BiFunction;"), (0, .class_ 126), (0, u "jdk/internal/util/Preconditions$2"), (3, u "AIOOBE_FORMATTER"), (0, .class_ 132), (0, u "jdk/internal/util/Preconditions$3"), (3, u "IOOBE_FORMATTER"), (41, u "(IILjava/util/function/BiFunction;)I"), (4, u "(IIILjava/util/function/BiFunction;)I")] 10

def k12m0 : Method := { name := "<init>", desc := "()V", sig := { parameters := [], returnType := none }, accessFlags := 1, code := none }
def k12c1 : Code := { maxStack := 3, maxLocals := 3, code := jdk_41_method_11_code, exceptionTable := #[], attributes := #[] }
def k12m1 : Method := { name := "checkIndex", desc := "(IILjava/util/function/BiFunction;)I", sig := { parameters := [.int, .int, (.object "java/util/function/BiFunction")], returnType := some .int }, accessFlags := 9, code := some k12c1 }
def k12c2 : Code := { maxStack := 4, maxLocals := 4, code := jdk_41_method_12_code, exceptionTable := #[], attributes := #[] }
def k12m2 : Method := { name := "checkFromToIndex", desc := "(IIILjava/util/function/BiFunction;)I", sig := { parameters := [.int, .int, .int, (.object "java/util/function/BiFunction")], returnType := some .int }, accessFlags := 9, code := some k12c2 }
/-- jdk/internal/util/Preconditions -/
def k12 : Class := { plain "jdk/internal/util/Preconditions" (some 0) with
  accessFlags := 33
  interfaces := #[]
  cf := some (fileOf pool12 24 #[.nestMembers #[55, 131, 125, 114]] #[{ accessFlags := 1, nameIndex := 5, descriptorIndex := 6, attributes := #[] }, { accessFlags := 9, nameIndex := 33, descriptorIndex := 178, attributes := #[] }, { accessFlags := 9, nameIndex := 47, descriptorIndex := 183, attributes := #[] }] 33 2 #[] #[{ accessFlags := 25, nameIndex := 123, descriptorIndex := 124, attributes := #[] }, { accessFlags := 25, nameIndex := 130, descriptorIndex := 124, attributes := #[] }, { accessFlags := 25, nameIndex := 136, descriptorIndex := 124, attributes := #[] }])
  fields := #[{ name := "SIOOBE_FORMATTER", type := (.object "java/util/function/BiFunction"), accessFlags := 25, slot := 0, constantValue := 0 }, { name := "AIOOBE_FORMATTER", type := (.object "java/util/function/BiFunction"), accessFlags := 25, slot := 1, constantValue := 0 }, { name := "IOOBE_FORMATTER", type := (.object "java/util/function/BiFunction"), accessFlags := 25, slot := 2, constantValue := 0 }]
  methods := #[k12m0, k12m1, k12m2]
  instanceTypes := #[]
  staticTypes := #[(.object "java/util/function/BiFunction"), (.object "java/util/function/BiFunction"), (.object "java/util/function/BiFunction")]
  resolved := Array.replicate 194 none
  statics := some 1 }

def pool13 : Array CpInfo := pool [(2, .class_ 4), (1, u "java/lang/Object"), (0, u "<init>"), (0, u "()V"), (7, .class_ 16), (1, u "java/util/Arrays"), (57, .class_ 76), (1, u "java/util/Arrays$NaturalOrder"), (36, .class_ 115), (1, u "java/util/Arrays$LegacyMergeSort"), (1, u "Z"), (21, u "copyOfRange"), (10, .methodref 151 152), (0, .class_ 153), (0, .nameAndType 154 155), (0, u "java/lang/System"), (0, u "arraycopy"), (0, u "(Ljava/lang/Object;ILjava/lang/Object;II)V"), (148, .methodref 305 306), (0, .class_ 307), (0, .nameAndType 308 309), (0, u "java/lang/Math"), (0, u "min"), (0, u "(II)I"), (29, .methodref 14 340), (0, .nameAndType 341 342), (0, u "copyOfRangeByte"), (0, u "([BII)[B"), (0, .methodref 14 344), (0, .nameAndType 345 346), (0, u "checkLength"), (0, u "(II)V"), (28, .class_ 376), (0, u "java/util/Arrays$ArrayList"), (68, u "$assertionsDisabled"), (269, u "MIN_ARRAY_SORT_GRAN"), (0, u "I"), (2, u "INSERTIONSORT_THRESHOLD"), (255, .class_ 976), (0, u "java/util/Arrays$ArrayItr")] 52

def k13m0 : Method := { name := "<init>", desc := "()V", sig := { parameters := [], returnType := none }, accessFlags := 2, code := none }
def k13c1 : Code := { maxStack := 4, maxLocals := 2, code := jdk_65_method_131_code, exceptionTable := #[], attributes := #[] }
def k13m1 : Method := { name := "checkLength", desc := "(II)V", sig := { parameters := [.int, .int], returnType := none }, accessFlags := 10, code := some k13c1 }
def k13c2 : Code := { maxStack := 3, maxLocals := 3, code := jdk_65_method_132_code, exceptionTable := #[], attributes := #[] }
def k13m2 : Method := { name := "copyOfRange", desc := "([BII)[B", sig := { parameters := [(.array .byte), .int, .int], returnType := some (.array .byte) }, accessFlags := 9, code := some k13c2 }
def k13c3 : Code := { maxStack := 6, maxLocals := 5, code := jdk_65_method_133_code, exceptionTable := #[], attributes := #[] }
def k13m3 : Method := { name := "copyOfRangeByte", desc := "([BII)[B", sig := { parameters := [(.array .byte), .int, .int], returnType := some (.array .byte) }, accessFlags := 10, code := some k13c3 }
/-- java/util/Arrays -/
def k13 : Class := { plain "java/util/Arrays" (some 0) with
  accessFlags := 49
  interfaces := #[]
  cf := some (fileOf pool13 14 #[.nestMembers #[975, 375, 113, 74]] #[{ accessFlags := 2, nameIndex := 5, descriptorIndex := 6, attributes := #[] }, { accessFlags := 10, nameIndex := 345, descriptorIndex := 346, attributes := #[] }, { accessFlags := 9, nameIndex := 139, descriptorIndex := 342, attributes := #[] }, { accessFlags := 10, nameIndex := 341, descriptorIndex := 342, attributes := #[] }] 49 2 #[] #[{ accessFlags := 26, nameIndex := 715, descriptorIndex := 716, attributes := #[] }, { accessFlags := 26, nameIndex := 719, descriptorIndex := 716, attributes := #[] }, { accessFlags := 4120, nameIndex := 445, descriptorIndex := 117, attributes := #[] }])
  fields := #[{ name := "MIN_ARRAY_SORT_GRAN", type := .int, accessFlags := 26, slot := 0, constantValue := 0 }, { name := "INSERTIONSORT_THRESHOLD", type := .int, accessFlags := 26, slot := 1, constantValue := 0 }, { name := "$assertionsDisabled", type := .boolean, accessFlags := 4120, slot := 2, constantValue := 0 }]
  methods := #[k13m0, k13m1, k13m2, k13m3]
  instanceTypes := #[]
  staticTypes := #[.int, .int, .boolean]
  resolved := Array.replicate 1029 none
  statics := none }

def pool14 : Array CpInfo := pool [(2, .class_ 4), (1, u "java/lang/Object"), (0, u "<init>"), (0, u "()V"), (1, .class_ 10), (1, u "java/lang/System"), (0, u "allowSecurityManager"), (0, u "I"), (16, u "cons"), (0, u "Ljava/io/Console;"), (77, .class_ 110), (1, u "java/lang/System$CallersHolder"), (43, u "initialErrStream"), (0, u "Ljava/io/PrintStream;"), (19, u "security"), (0, u "Ljava/lang/SecurityManager;"), (31, .class_ 209), (0, u "java/lang/System$1"), (7, u "props"), (0, u "Ljava/util/Properties;"), (2, u "lineSeparator"), (0, u "Ljava/lang/String;"), (96, .class_ 321), (1, u "java/lang/System$LoggerFinder"), (5, .class_ 328), (0, u "java/lang/System$Logger"), (67, u "err"), (2, u "out"), (91, u "notSupportedJnuEncoding"), (15, u "in"), (17, u "initialIn"), (0, u "Ljava/io/InputStream;"), (35, u "bootLayer"), (0, u "Ljava/lang/ModuleLayer;"), (99, .class_ 664), (0, u "java/lang/System$2"), (9, u "NEVER"), (2, u "MAYBE"), (49, u "arraycopy"), (0, u "(Ljava/lang/Object;ILjava/lang/Object;II)V"), (72, .class_ 802), (0, u "java/lang/System$Logger$Level")] 31

def k14m0 : Method := { name := "<init>", desc := "()V", sig := { parameters := [], returnType := none }, accessFlags := 2, code := none }
def k14m1 : Method := { name := "arraycopy", desc := "(Ljava/lang/Object;ILjava/lang/Object;II)V", sig := { parameters := [(.object "java/lang/Object"), .int, (.object "java/lang/Object"), .int, .int], returnType := none }, accessFlags := 265, code := none }
/-- java/lang/System -/
def k14 : Class := { plain "java/lang/System" (some 0) with
  accessFlags := 49
  interfaces := #[]
  cf := some (fileOf pool14 8 #[.nestMembers #[319, 327, 801, 108, 663, 208]] #[{ accessFlags := 2, nameIndex := 5, descriptorIndex := 6, attributes := #[] }, { accessFlags := 265, nameIndex := 727, descriptorIndex := 728, attributes := #[] }] 49 2 #[] #[{ accessFlags := 25, nameIndex := 507, descriptorIndex := 526, attributes := #[] }, { accessFlags := 25, nameIndex := 399, descriptorIndex := 155, attributes := #[] }, { accessFlags := 25, nameIndex := 396, descriptorIndex := 155, attributes := #[] }, { accessFlags := 10, nameIndex := 525, descriptorIndex := 526, attributes := #[] }, { accessFlags := 26, nameIndex := 674, descriptorIndex := 12, attributes := #[] }, { accessFlags := 26, nameIndex := 677, descriptorIndex := 12, attributes := #[] }, { accessFlags := 10, nameIndex := 11, descriptorIndex := 12, attributes := #[] }, { accessFlags := 74, nameIndex := 175, descriptorIndex := 176, attributes := #[] }, { accessFlags := 10, nameIndex := 491, descriptorIndex := 222, attributes := #[] }, { accessFlags := 74, nameIndex := 29, descriptorIndex := 30, attributes := #[] }, { accessFlags := 74, nameIndex := 154, descriptorIndex := 155, attributes := #[] }, { accessFlags := 10, nameIndex := 217, descriptorIndex := 218, attributes := #[] }, { accessFlags := 10, nameIndex := 221, descriptorIndex := 222, attributes := #[] }, { accessFlags := 8, nameIndex := 562, descriptorIndex := 563, attributes := #[] }])
  fields := #[{ name := "in", type := (.object "java/io/InputStream"), accessFlags := 25, slot := 0, constantValue := 0 }, { name := "out", type := (.object "java/io/PrintStream"), accessFlags := 25, slot := 1, constantValue := 0 }, { name := "err", type := (.object "java/io/PrintStream"), accessFlags := 25, slot := 2, constantValue := 0 }, { name := "initialIn", type := (.object "java/io/InputStream"), accessFlags := 10, slot := 3, constantValue := 0 }, { name := "NEVER", type := .int, accessFlags := 26, slot := 4, constantValue := 0 }, { name := "MAYBE", type := .int, accessFlags := 26, slot := 5, constantValue := 0 }, { name := "allowSecurityManager", type := .int, accessFlags := 10, slot := 6, constantValue := 0 }, { name := "security", type := (.object "java/lang/SecurityManager"), accessFlags := 74, slot := 7, constantValue := 0 }, { name := "notSupportedJnuEncoding", type := (.object "java/lang/String"), accessFlags := 10, slot := 8, constantValue := 0 }, { name := "cons", type := (.object "java/io/Console"), accessFlags := 74, slot := 9, constantValue := 0 }, { name := "initialErrStream", type := (.object "java/io/PrintStream"), accessFlags := 74, slot := 10, constantValue := 0 }, { name := "props", type := (.object "java/util/Properties"), accessFlags := 10, slot := 11, constantValue := 0 }, { name := "lineSeparator", type := (.object "java/lang/String"), accessFlags := 10, slot := 12, constantValue := 0 }, { name := "bootLayer", type := (.object "java/lang/ModuleLayer"), accessFlags := 8, slot := 13, constantValue := 0 }]
  methods := #[k14m0, k14m1]
  instanceTypes := #[]
  staticTypes := #[(.object "java/io/InputStream"), (.object "java/io/PrintStream"), (.object "java/io/PrintStream"), (.object "java/io/InputStream"), .int, .int, .int, (.object "java/lang/SecurityManager"), (.object "java/lang/String"), (.object "java/io/Console"), (.object "java/io/PrintStream"), (.object "java/util/Properties"), (.object "java/lang/String"), (.object "java/lang/ModuleLayer")]
  resolved := Array.replicate 834 none
  statics := none }

def pool15 : Array CpInfo := pool [(9, u "<init>"), (6, .class_ 18), (1, u "java/lang/Object"), (0, u "()V"), (1, .class_ 23), (1, u "jdk/internal/util/ArraysSupport"), (0, u "LOG2_ARRAY_LONG_INDEX_SCALE"), (0, u "I"), (2, u "U"), (0, u "Ljdk/internal/misc/Unsafe;"), (8, u "BIG_ENDIAN"), (0, u "Z"), (8, u "LOG2_BYTE_BIT_SIZE"), (4, u "LOG2_ARRAY_INT_INDEX_SCALE"), (54, u "JLA"), (0, u "Ljdk/internal/access/JavaLangAccess;"), (11, u "LOG2_ARRAY_BOOLEAN_INDEX_SCALE"), (9, u "LOG2_ARRAY_BYTE_INDEX_SCALE"), (5, u "LOG2_ARRAY_CHAR_INDEX_SCALE"), (5, u "LOG2_ARRAY_SHORT_INDEX_SCALE"), (18, u "LOG2_ARRAY_FLOAT_INDEX_SCALE"), (24, u "LOG2_ARRAY_DOUBLE_INDEX_SCALE"), (89, u "T_BOOLEAN"), (2, u "T_CHAR"), (1, u "T_FLOAT"), (1, u "T_DOUBLE"), (1, u "T_BYTE"), (1, u "T_SHORT"), (1, u "T_INT"), (1, u "T_LONG"), (1, u "SOFT_MAX_ARRAY_LENGTH")] 83

def k15m0 : Method := { name := "<init>", desc := "()V", sig := { parameters := [], returnType := none }, accessFlags := 2, code := none }
/-- jdk/internal/util/ArraysSupport -/
def k15 : Class := { plain "jdk/internal/util/ArraysSupport" (some 0) with
  accessFlags := 33
  interfaces := #[]
  cf := some (fileOf pool15 21 #[] #[{ accessFlags := 2, nameIndex := 9, descriptorIndex := 19, attributes := #[] }] 33 16 #[] #[{ accessFlags := 24, nameIndex := 28, descriptorIndex := 29, attributes := #[] }, { accessFlags := 26, nameIndex := 38, descriptorIndex := 39, attributes := #[] }, { accessFlags := 25, nameIndex := 121, descriptorIndex := 25, attributes := #[] }, { accessFlags := 25, nameIndex := 131, descriptorIndex := 25, attributes := #[] }, { accessFlags := 25, nameIndex := 137, descriptorIndex := 25, attributes := #[] }, { accessFlags := 25, nameIndex := 143, descriptorIndex := 25, attributes := #[] }, { accessFlags := 25, nameIndex := 53, descriptorIndex := 25, attributes := #[] }, { accessFlags := 25, nameIndex := 24, descriptorIndex := 25, attributes := #[] }, { accessFlags := 25, nameIndex := 162, descriptorIndex := 25, attributes := #[] }, { accessFlags := 25, nameIndex := 187, descriptorIndex := 25, attributes := #[] }, { accessFlags := 26, nameIndex := 48, descriptorIndex := 25, attributes := #[] }, { accessFlags := 25, nameIndex := 277, descriptorIndex := 25, attributes := #[] }, { accessFlags := 25, nameIndex := 280, descriptorIndex := 25, attributes := #[] }, { accessFlags := 25, nameIndex := 282, descriptorIndex := 25, attributes := #[] }, { accessFlags := 25, nameIndex := 284, descriptorIndex := 25, attributes := #[] }, { accessFlags := 25, nameIndex := 286, descriptorIndex := 25, attributes := #[] }, { accessFlags := 25, nameIndex := 288, descriptorIndex := 25, attributes := #[] }, { accessFlags := 25, nameIndex := 290, descriptorIndex := 25, attributes := #[] }, { accessFlags := 25, nameIndex := 292, descriptorIndex := 25, attributes := #[] }, { accessFlags := 26, nameIndex := 108, descriptorIndex := 109, attributes := #[] }, { accessFlags := 25, nameIndex := 294, descriptorIndex := 25, attributes := #[] }])
  fields := #[{ name := "U", type := (.object "jdk/internal/misc/Unsafe"), accessFlags := 24, slot := 0, constantValue := 0 }, { name := "BIG_ENDIAN", type := .boolean, accessFlags := 26, slot := 1, constantValue := 0 }, { name := "LOG2_ARRAY_BOOLEAN_INDEX_SCALE", type := .int, accessFlags := 25, slot := 2, constantValue := 0 }, { name := "LOG2_ARRAY_BYTE_INDEX_SCALE", type := .int, accessFlags := 25, slot := 3, constantValue := 0 }, { name := "LOG2_ARRAY_CHAR_INDEX_SCALE", type := .int, accessFlags := 25, slot := 4, constantValue := 0 }, { name := "LOG2_ARRAY_SHORT_INDEX_SCALE", type := .int, accessFlags := 25, slot := 5, constantValue := 0 }, { name := "LOG2_ARRAY_INT_INDEX_SCALE", type := .int, accessFlags := 25, slot := 6, constantValue := 0 }, { name := "LOG2_ARRAY_LONG_INDEX_SCALE", type := .int, accessFlags := 25, slot := 7, constantValue := 0 }, { name := "LOG2_ARRAY_FLOAT_INDEX_SCALE", type := .int, accessFlags := 25, slot := 8, constantValue := 0 }, { name := "LOG2_ARRAY_DOUBLE_INDEX_SCALE", type := .int, accessFlags := 25, slot := 9, constantValue := 0 }, { name := "LOG2_BYTE_BIT_SIZE", type := .int, accessFlags := 26, slot := 10, constantValue := 0 }, { name := "T_BOOLEAN", type := .int, accessFlags := 25, slot := 11, constantValue := 0 }, { name := "T_CHAR", type := .int, accessFlags := 25, slot := 12, constantValue := 0 }, { name := "T_FLOAT", type := .int, accessFlags := 25, slot := 13, constantValue := 0 }, { name := "T_DOUBLE", type := .int, accessFlags := 25, slot := 14, constantValue := 0 }, { name := "T_BYTE", type := .int, accessFlags := 25, slot := 15, constantValue := 0 }, { name := "T_SHORT", type := .int, accessFlags := 25, slot := 16, constantValue := 0 }, { name := "T_INT", type := .int, accessFlags := 25, slot := 17, constantValue := 0 }, { name := "T_LONG", type := .int, accessFlags := 25, slot := 18, constantValue := 0 }, { name := "JLA", type := (.object "jdk/internal/access/JavaLangAccess"), accessFlags := 26, slot := 19, constantValue := 0 }, { name := "SOFT_MAX_ARRAY_LENGTH", type := .int, accessFlags := 25, slot := 20, constantValue := 0 }]
  methods := #[k15m0]
  instanceTypes := #[]
  staticTypes := #[(.object "jdk/internal/misc/Unsafe"), .boolean, .int, .int, .int, .int, .int, .int, .int, .int, .int, .int, .int, .int, .int, .int, .int, .int, .int, (.object "jdk/internal/access/JavaLangAccess"), .int]
  resolved := Array.replicate 378 none
  statics := none }

def pool16 : Array CpInfo := pool [(1, u "java/lang/Cloneable"), (0, .class_ 1), (0, u "java/lang/Object"), (0, .class_ 3)] 3

/-- java/lang/Cloneable -/
def k16 : Class := { plain "java/lang/Cloneable" (some 0) with
  accessFlags := 1537
  interfaces := #[]
  cf := some (fileOf pool16 2 #[] #[] 1537 4 #[] #[])
  fields := #[]
  methods := #[]
  instanceTypes := #[]
  staticTypes := #[]
  resolved := Array.replicate 8 none
  statics := none }

/-- the primitive byte -/
def k17 : Class := { plain "byte" none with kind := .primitive 'B', accessFlags := 0x411 }
/-- [B -/
def k18 : Class := { plain "[B" (some 0) with kind := .array 17 .byte, interfaces := #[16, 2], accessFlags := 1041 }

/-- the primitive char -/
def k19 : Class := { plain "char" none with kind := .primitive 'C', accessFlags := 0x411 }
/-- [C -/
def k20 : Class := { plain "[C" (some 0) with kind := .array 19 .char, interfaces := #[16, 2], accessFlags := 1041 }

/-- the primitive int -/
def k21 : Class := { plain "int" none with kind := .primitive 'I', accessFlags := 0x411 }
/-- [I -/
def k22 : Class := { plain "[I" (some 0) with kind := .array 21 .int, interfaces := #[16, 2], accessFlags := 1041 }

def heap : Heap := #[{ cls := 7, slots := #[.long 0, .int 1, .null, .int 0, .null, .int 0, .int 0], vm := .statics 7 },
  { cls := 12, slots := #[.null, .null, .null], vm := .statics 12 }]
def classes : Array Class := #[k0, k1, k2, k3, k4, k5, k6, k7, k8, k9, k10, k11, k12, k13, k14, k15, k16, k17, k18, k19, k20, k21, k22]
def interned : List (Array UInt16 × Addr) := []
def slotsUsed : Nat := 10
def theMethod : MethodId := ⟨1, 3⟩
def args0 : Array Value := #[.int 5, .int 3, .int 7, .int 2, .int 3]
def aboutOver (below : List Frame) : State where
  vm := { classes := classes, interned := interned.toArray }
  heap := heap
  slotsUsed := slotsUsed
  threads := #[{ frames := .invoking theMethod args0 :: below }]
def below0 : List Frame := [.native { method := ⟨0, 0⟩, args := #[] }]
def about1 : State := aboutOver below0
def p0 : Program := .bare "" "" ""
def e0 : Env := launch0.env 0 0 0
theorem w_frames : about1.frames = Frame.invoking theMethod args0 :: below0 := rfl
set_option maxRecDepth 65536 in
theorem w_args : argsFit about1.vm theMethod args0 = true := by decide +kernel
set_option maxRecDepth 65536 in
theorem w_heap : heapFits about1 = true := by decide +kernel
set_option maxRecDepth 65536 in
theorem w_runnable : about1.curStatus? = some .runnable := by decide +kernel
set_option maxRecDepth 65536 in
theorem w_alone : about1.alone = true := by decide +kernel
set_option maxRecDepth 65536 in
theorem w_named : about1.methodNamed? x = some theMethod := by decide +kernel
set_option maxRecDepth 65536 in
theorem w_hears : about1.hears theMethod below0 = true := by decide +kernel
set_option maxRecDepth 65536 in
theorem w_ripe : about1.ripe theMethod args0 below0 = true := by decide +kernel
theorem w_running : about1.status = .running := rfl
set_option maxRecDepth 65536 in
theorem w_room : about1.hasRoom e0.platform room_1 = true :=
  launch0.hasRoom_least _ room_1 (by decide +kernel) (by decide +kernel) (by decide +kernel) (by decide +kernel) (by decide +kernel) (by decide +kernel)
theorem allAtoms_all (ts : List Jvm.Cond) (a : Array Jvm.Value) (st : Jvm.State) : (allAtoms ts).before a st = ts.all (fun c => c.before a st) := by
  induction ts with
  | nil => rfl
  | cons c t ih =>
    show (Jvm.Cond.and c (allAtoms t)).before a st = _
    rw [Jvm.Cond.before_and, ih, List.all_cons]
def words1 : List Jvm.Cond := Jvm.Cond.code x code maxLocals ret :: tables_1
/-- a 'code' word, met by the world's own term for the bytes: nothing is compared byte by byte -/
theorem code_word {y : MethodName} {bytes : ByteArray} {mx : Nat} {rt : Option FieldType} {a : Array Value} {s : State} {m : MethodId} {meth : Method} {c : Code} (h1 : s.methodNamed? y = some m) (h2 : s.vm.method? m = some meth) (h3 : meth.code = some c) (h4 : c.code = bytes)
    (h5 : (c.maxLocals == mx && c.exceptionTable.isEmpty && decide (c.maxStack ≤ mostOperands) && decide (meth.sig.returnType = rt) && !meth.locks && decide (parseMethodDescriptor y.desc = some meth.sig)) = true) : (Jvm.Cond.code y bytes mx rt).before a s = true := by
  simp only [Bool.and_eq_true, beq_iff_eq, Bool.not_eq_true', decide_eq_true_eq] at h5
  obtain ⟨⟨⟨⟨⟨g1, g2⟩, g3⟩, g4⟩, g5⟩, g6⟩ := h5
  simp [Cond.before, Cond.holds, Cond.value, h1, h2, h3, h4, g1, g2, g3, g4, g5, g6]
def isCode : Jvm.Cond → Bool
  | .code _ _ _ _ => true
  | _ => false
theorem all_split {L : List Jvm.Cond} {P : Jvm.Cond → Bool} (h1 : L.all (fun c => isCode c || P c) = true) (h2 : ∀ c ∈ L.filter isCode, P c = true) : L.all P = true := by
  refine List.all_eq_true.mpr fun c hc => ?_
  have h := List.all_eq_true.mp h1 c hc
  rcases Bool.eq_false_or_eq_true (isCode c) with hi | hi
  · exact h2 c (List.mem_filter.mpr ⟨hc, hi⟩)
  · simpa [hi] using h
set_option maxRecDepth 65536 in
theorem w_c0 : (Jvm.Cond.code x code maxLocals ret).before args0 about1 = true := code_word (m := ⟨1, 3⟩) (meth := k1m3) (c := k1c3) (by decide +kernel) rfl rfl rfl (by decide +kernel)
set_option maxRecDepth 65536 in
theorem w_c1 : (Jvm.Cond.code ({ cls := "com/example/wakeline/wakeline/format/shareplex/SharePlexMessageDatabasePinLaw", name := "ch", desc := "(I)C" } : Jvm.MethodName) method_2_code (1 : Nat) (Option.some Jvm.ClassFile.FieldType.char)).before args0 about1 = true := code_word (m := ⟨1, 1⟩) (meth := k1m1) (c := k1c1) (by decide +kernel) rfl rfl rfl (by decide +kernel)
set_option maxRecDepth 65536 in
theorem w_c2 : (Jvm.Cond.code ({ cls := "com/example/wakeline/wakeline/format/shareplex/SharePlexMessageDatabasePinLaw", name := "make", desc := "([CI)Ljava/lang/String;" } : Jvm.MethodName) method_3_code (2 : Nat) (Option.some (Jvm.ClassFile.FieldType.object "java/lang/String"))).before args0 about1 = true := code_word (m := ⟨1, 2⟩) (meth := k1m2) (c := k1c2) (by decide +kernel) rfl rfl rfl (by decide +kernel)
set_option maxRecDepth 65536 in
theorem w_c3 : (Jvm.Cond.code ({ cls := "java/lang/String", name := "<init>", desc := "([C)V" } : Jvm.MethodName) jdk_42_method_3_code (2 : Nat) (Option.none : Option Jvm.ClassFile.FieldType)).before args0 about1 = true := code_word (m := ⟨7, 1⟩) (meth := k7m1) (c := k7c1) (by decide +kernel) rfl rfl rfl (by decide +kernel)
set_option maxRecDepth 65536 in
theorem w_c4 : (Jvm.Cond.code ({ cls := "java/lang/String", name := "<init>", desc := "([CIILjava/lang/Void;)V" } : Jvm.MethodName) jdk_42_method_149_code (6 : Nat) (Option.none : Option Jvm.ClassFile.FieldType)).before args0 about1 = true := code_word (m := ⟨7, 7⟩) (meth := k7m7) (c := k7c7) (by decide +kernel) rfl rfl rfl (by decide +kernel)
set_option maxRecDepth 65536 in
theorem w_c5 : (Jvm.Cond.code ({ cls := "java/lang/Object", name := "<init>", desc := "()V" } : Jvm.MethodName) object_method_1_code (1 : Nat) (Option.none : Option Jvm.ClassFile.FieldType)).before args0 about1 = true := code_word (m := ⟨0, 0⟩) (meth := k0m0) (c := k0c0) (by decide +kernel) rfl rfl rfl (by decide +kernel)
set_option maxRecDepth 65536 in
theorem w_c6 : (Jvm.Cond.code ({ cls := "com/example/wakeline/wakeline/format/shareplex/SharePlexMessage", name := "database", desc := "(Ljava/lang/String;)Ljava/lang/String;" } : Jvm.MethodName) prog_33_method_5_code (2 : Nat) (Option.some (Jvm.ClassFile.FieldType.object "java/lang/String"))).before args0 about1 = true := code_word (m := ⟨8, 1⟩) (meth := k8m1) (c := k8c1) (by decide +kernel) rfl rfl rfl (by decide +kernel)
set_option maxRecDepth 65536 in
theorem w_c7 : (Jvm.Cond.code ({ cls := "java/lang/String", name := "indexOf", desc := "(I)I" } : Jvm.MethodName) jdk_42_method_79_code (2 : Nat) (Option.some Jvm.ClassFile.FieldType.int)).before args0 about1 = true := code_word (m := ⟨7, 4⟩) (meth := k7m4) (c := k7c4) (by decide +kernel) rfl rfl rfl (by decide +kernel)
set_option maxRecDepth 65536 in
theorem w_c8 : (Jvm.Cond.code ({ cls := "java/lang/String", name := "indexOf", desc := "(II)I" } : Jvm.MethodName) jdk_42_method_80_code (3 : Nat) (Option.some Jvm.ClassFile.FieldType.int)).before args0 about1 = true := code_word (m := ⟨7, 5⟩) (meth := k7m5) (c := k7c5) (by decide +kernel) rfl rfl rfl (by decide +kernel)
set_option maxRecDepth 65536 in
theorem w_c9 : (Jvm.Cond.code ({ cls := "java/lang/String", name := "isLatin1", desc := "()Z" } : Jvm.MethodName) jdk_42_method_154_code (1 : Nat) (Option.some Jvm.ClassFile.FieldType.boolean)).before args0 about1 = true := code_word (m := ⟨7, 10⟩) (meth := k7m10) (c := k7c10) (by decide +kernel) rfl rfl rfl (by decide +kernel)
set_option maxRecDepth 65536 in
theorem w_c10 : (Jvm.Cond.code ({ cls := "java/lang/String", name := "length", desc := "()I" } : Jvm.MethodName) jdk_42_method_54_code (1 : Nat) (Option.some Jvm.ClassFile.FieldType.int)).before args0 about1 = true := code_word (m := ⟨7, 2⟩) (meth := k7m2) (c := k7c2) (by decide +kernel) rfl rfl rfl (by decide +kernel)
set_option maxRecDepth 65536 in
theorem w_c11 : (Jvm.Cond.code ({ cls := "java/lang/String", name := "coder", desc := "()B" } : Jvm.MethodName) jdk_42_method_152_code (1 : Nat) (Option.some Jvm.ClassFile.FieldType.byte)).before args0 about1 = true := code_word (m := ⟨7, 9⟩) (meth := k7m9) (c := k7c9) (by decide +kernel) rfl rfl rfl (by decide +kernel)
set_option maxRecDepth 65536 in
theorem w_c12 : (Jvm.Cond.code ({ cls := "java/lang/StringLatin1", name := "indexOf", desc := "([BIII)I" } : Jvm.MethodName) jdk_43_method_22_code (4 : Nat) (Option.some Jvm.ClassFile.FieldType.int)).before args0 about1 = true := code_word (m := ⟨9, 3⟩) (meth := k9m3) (c := k9c3) (by decide +kernel) rfl rfl rfl (by decide +kernel)
set_option maxRecDepth 65536 in
theorem w_c13 : (Jvm.Cond.code ({ cls := "java/lang/StringLatin1", name := "canEncode", desc := "(I)Z" } : Jvm.MethodName) jdk_43_method_4_code (1 : Nat) (Option.some Jvm.ClassFile.FieldType.boolean)).before args0 about1 = true := code_word (m := ⟨9, 2⟩) (meth := k9m2) (c := k9c2) (by decide +kernel) rfl rfl rfl (by decide +kernel)
set_option maxRecDepth 65536 in
theorem w_c14 : (Jvm.Cond.code ({ cls := "java/lang/Math", name := "max", desc := "(II)I" } : Jvm.MethodName) jdk_29_method_65_code (2 : Nat) (Option.some Jvm.ClassFile.FieldType.int)).before args0 about1 = true := code_word (m := ⟨10, 1⟩) (meth := k10m1) (c := k10c1) (by decide +kernel) rfl rfl rfl (by decide +kernel)
set_option maxRecDepth 65536 in
theorem w_c15 : (Jvm.Cond.code ({ cls := "java/lang/Math", name := "min", desc := "(II)I" } : Jvm.MethodName) jdk_29_method_69_code (2 : Nat) (Option.some Jvm.ClassFile.FieldType.int)).before args0 about1 = true := code_word (m := ⟨10, 2⟩) (meth := k10m2) (c := k10c2) (by decide +kernel) rfl rfl rfl (by decide +kernel)
set_option maxRecDepth 65536 in
theorem w_c16 : (Jvm.Cond.code ({ cls := "java/lang/StringUTF16", name := "compress", desc := "([CII)[B" } : Jvm.MethodName) jdk_52_method_16_code (6 : Nat) (Option.some (Jvm.ClassFile.FieldType.array Jvm.ClassFile.FieldType.byte))).before args0 about1 = true := code_word (m := ⟨11, 2⟩) (meth := k11m2) (c := k11c2) (by decide +kernel) rfl rfl rfl (by decide +kernel)
set_option maxRecDepth 65536 in
theorem w_c17 : (Jvm.Cond.code ({ cls := "java/lang/StringUTF16", name := "compress", desc := "([CI[BII)I" } : Jvm.MethodName) jdk_52_method_21_code (7 : Nat) (Option.some Jvm.ClassFile.FieldType.int)).before args0 about1 = true := code_word (m := ⟨11, 3⟩) (meth := k11m3) (c := k11c3) (by decide +kernel) rfl rfl rfl (by decide +kernel)
set_option maxRecDepth 65536 in
theorem w_c18 : (Jvm.Cond.code ({ cls := "java/lang/StringUTF16", name := "coderFromArrayLen", desc := "([BI)B" } : Jvm.MethodName) jdk_52_method_15_code (2 : Nat) (Option.some Jvm.ClassFile.FieldType.byte)).before args0 about1 = true := code_word (m := ⟨11, 1⟩) (meth := k11m1) (c := k11c1) (by decide +kernel) rfl rfl rfl (by decide +kernel)
set_option maxRecDepth 65536 in
theorem w_c19 : (Jvm.Cond.code ({ cls := "java/lang/StringLatin1", name := "indexOfChar", desc := "([BIII)I" } : Jvm.MethodName) jdk_43_method_23_code (6 : Nat) (Option.some Jvm.ClassFile.FieldType.int)).before args0 about1 = true := code_word (m := ⟨9, 4⟩) (meth := k9m4) (c := k9c4) (by decide +kernel) rfl rfl rfl (by decide +kernel)
set_option maxRecDepth 65536 in
theorem w_c20 : (Jvm.Cond.code ({ cls := "java/lang/String", name := "substring", desc := "(II)Ljava/lang/String;" } : Jvm.MethodName) jdk_42_method_92_code (5 : Nat) (Option.some (Jvm.ClassFile.FieldType.object "java/lang/String"))).before args0 about1 = true := code_word (m := ⟨7, 6⟩) (meth := k7m6) (c := k7c6) (by decide +kernel) rfl rfl rfl (by decide +kernel)
set_option maxRecDepth 65536 in
theorem w_c21 : (Jvm.Cond.code ({ cls := "java/lang/String", name := "checkBoundsBeginEnd", desc := "(III)V" } : Jvm.MethodName) jdk_42_method_158_code (3 : Nat) (Option.none : Option Jvm.ClassFile.FieldType)).before args0 about1 = true := code_word (m := ⟨7, 12⟩) (meth := k7m12) (c := k7c12) (by decide +kernel) rfl rfl rfl (by decide +kernel)
set_option maxRecDepth 65536 in
theorem w_c22 : (Jvm.Cond.code ({ cls := "jdk/internal/util/Preconditions", name := "checkFromToIndex", desc := "(IIILjava/util/function/BiFunction;)I" } : Jvm.MethodName) jdk_41_method_12_code (4 : Nat) (Option.some Jvm.ClassFile.FieldType.int)).before args0 about1 = true := code_word (m := ⟨12, 2⟩) (meth := k12m2) (c := k12c2) (by decide +kernel) rfl rfl rfl (by decide +kernel)
set_option maxRecDepth 65536 in
theorem w_c23 : (Jvm.Cond.code ({ cls := "java/lang/StringLatin1", name := "newString", desc := "([BII)Ljava/lang/String;" } : Jvm.MethodName) jdk_43_method_47_code (3 : Nat) (Option.some (Jvm.ClassFile.FieldType.object "java/lang/String"))).before args0 about1 = true := code_word (m := ⟨9, 5⟩) (meth := k9m5) (c := k9c5) (by decide +kernel) rfl rfl rfl (by decide +kernel)
set_option maxRecDepth 65536 in
theorem w_c24 : (Jvm.Cond.code ({ cls := "java/util/Arrays", name := "copyOfRange", desc := "([BII)[B" } : Jvm.MethodName) jdk_65_method_132_code (3 : Nat) (Option.some (Jvm.ClassFile.FieldType.array Jvm.ClassFile.FieldType.byte))).before args0 about1 = true := code_word (m := ⟨13, 2⟩) (meth := k13m2) (c := k13c2) (by decide +kernel) rfl rfl rfl (by decide +kernel)
set_option maxRecDepth 65536 in
theorem w_c25 : (Jvm.Cond.code ({ cls := "java/util/Arrays", name := "copyOfRangeByte", desc := "([BII)[B" } : Jvm.MethodName) jdk_65_method_133_code (5 : Nat) (Option.some (Jvm.ClassFile.FieldType.array Jvm.ClassFile.FieldType.byte))).before args0 about1 = true := code_word (m := ⟨13, 3⟩) (meth := k13m3) (c := k13c3) (by decide +kernel) rfl rfl rfl (by decide +kernel)
set_option maxRecDepth 65536 in
theorem w_c26 : (Jvm.Cond.code ({ cls := "java/util/Arrays", name := "checkLength", desc := "(II)V" } : Jvm.MethodName) jdk_65_method_131_code (2 : Nat) (Option.none : Option Jvm.ClassFile.FieldType)).before args0 about1 = true := code_word (m := ⟨13, 1⟩) (meth := k13m1) (c := k13c1) (by decide +kernel) rfl rfl rfl (by decide +kernel)
set_option maxRecDepth 65536 in
theorem w_c27 : (Jvm.Cond.code ({ cls := "java/lang/String", name := "<init>", desc := "([BB)V" } : Jvm.MethodName) jdk_42_method_151_code (3 : Nat) (Option.none : Option Jvm.ClassFile.FieldType)).before args0 about1 = true := code_word (m := ⟨7, 8⟩) (meth := k7m8) (c := k7c8) (by decide +kernel) rfl rfl rfl (by decide +kernel)
set_option maxRecDepth 65536 in
theorem w_c28 : (Jvm.Cond.code ({ cls := "java/lang/String", name := "charAt", desc := "(I)C" } : Jvm.MethodName) jdk_42_method_56_code (2 : Nat) (Option.some Jvm.ClassFile.FieldType.char)).before args0 about1 = true := code_word (m := ⟨7, 3⟩) (meth := k7m3) (c := k7c3) (by decide +kernel) rfl rfl rfl (by decide +kernel)
set_option maxRecDepth 65536 in
theorem w_c29 : (Jvm.Cond.code ({ cls := "java/lang/StringLatin1", name := "charAt", desc := "([BI)C" } : Jvm.MethodName) jdk_43_method_2_code (2 : Nat) (Option.some Jvm.ClassFile.FieldType.char)).before args0 about1 = true := code_word (m := ⟨9, 1⟩) (meth := k9m1) (c := k9c1) (by decide +kernel) rfl rfl rfl (by decide +kernel)
set_option maxRecDepth 65536 in
theorem w_c30 : (Jvm.Cond.code ({ cls := "java/lang/String", name := "checkIndex", desc := "(II)V" } : Jvm.MethodName) jdk_42_method_155_code (2 : Nat) (Option.none : Option Jvm.ClassFile.FieldType)).before args0 about1 = true := code_word (m := ⟨7, 11⟩) (meth := k7m11) (c := k7c11) (by decide +kernel) rfl rfl rfl (by decide +kernel)
set_option maxRecDepth 65536 in
theorem w_c31 : (Jvm.Cond.code ({ cls := "jdk/internal/util/Preconditions", name := "checkIndex", desc := "(IILjava/util/function/BiFunction;)I" } : Jvm.MethodName) jdk_41_method_11_code (3 : Nat) (Option.some Jvm.ClassFile.FieldType.int)).before args0 about1 = true := code_word (m := ⟨12, 1⟩) (meth := k12m1) (c := k12c1) (by decide +kernel) rfl rfl rfl (by decide +kernel)
def codes1 : List Jvm.Cond := [Jvm.Cond.code x code maxLocals ret, Jvm.Cond.code ({ cls := "com/example/wakeline/wakeline/format/shareplex/SharePlexMessageDatabasePinLaw", name := "ch", desc := "(I)C" } : Jvm.MethodName) method_2_code (1 : Nat) (Option.some Jvm.ClassFile.FieldType.char), Jvm.Cond.code ({ cls := "com/example/wakeline/wakeline/format/shareplex/SharePlexMessageDatabasePinLaw", name := "make", desc := "([CI)Ljava/lang/String;" } : Jvm.MethodName) method_3_code (2 : Nat) (Option.some (Jvm.ClassFile.FieldType.object "java/lang/String")), Jvm.Cond.code ({ cls := "java/lang/String", name := "<init>", desc := "([C)V" } : Jvm.MethodName) jdk_42_method_3_code (2 : Nat) (Option.none : Option Jvm.ClassFile.FieldType), Jvm.Cond.code ({ cls := "java/lang/String", name := "<init>", desc := "([CIILjava/lang/Void;)V" } : Jvm.MethodName) jdk_42_method_149_code (6 : Nat) (Option.none : Option Jvm.ClassFile.FieldType), Jvm.Cond.code ({ cls := "java/lang/Object", name := "<init>", desc := "()V" } : Jvm.MethodName) object_method_1_code (1 : Nat) (Option.none : Option Jvm.ClassFile.FieldType), Jvm.Cond.code ({ cls := "com/example/wakeline/wakeline/format/shareplex/SharePlexMessage", name := "database", desc := "(Ljava/lang/String;)Ljava/lang/String;" } : Jvm.MethodName) prog_33_method_5_code (2 : Nat) (Option.some (Jvm.ClassFile.FieldType.object "java/lang/String")), Jvm.Cond.code ({ cls := "java/lang/String", name := "indexOf", desc := "(I)I" } : Jvm.MethodName) jdk_42_method_79_code (2 : Nat) (Option.some Jvm.ClassFile.FieldType.int), Jvm.Cond.code ({ cls := "java/lang/String", name := "indexOf", desc := "(II)I" } : Jvm.MethodName) jdk_42_method_80_code (3 : Nat) (Option.some Jvm.ClassFile.FieldType.int), Jvm.Cond.code ({ cls := "java/lang/String", name := "isLatin1", desc := "()Z" } : Jvm.MethodName) jdk_42_method_154_code (1 : Nat) (Option.some Jvm.ClassFile.FieldType.boolean), Jvm.Cond.code ({ cls := "java/lang/String", name := "length", desc := "()I" } : Jvm.MethodName) jdk_42_method_54_code (1 : Nat) (Option.some Jvm.ClassFile.FieldType.int), Jvm.Cond.code ({ cls := "java/lang/String", name := "coder", desc := "()B" } : Jvm.MethodName) jdk_42_method_152_code (1 : Nat) (Option.some Jvm.ClassFile.FieldType.byte), Jvm.Cond.code ({ cls := "java/lang/StringLatin1", name := "indexOf", desc := "([BIII)I" } : Jvm.MethodName) jdk_43_method_22_code (4 : Nat) (Option.some Jvm.ClassFile.FieldType.int), Jvm.Cond.code ({ cls := "java/lang/StringLatin1", name := "canEncode", desc := "(I)Z" } : Jvm.MethodName) jdk_43_method_4_code (1 : Nat) (Option.some Jvm.ClassFile.FieldType.boolean), Jvm.Cond.code ({ cls := "java/lang/Math", name := "max", desc := "(II)I" } : Jvm.MethodName) jdk_29_method_65_code (2 : Nat) (Option.some Jvm.ClassFile.FieldType.int), Jvm.Cond.code ({ cls := "java/lang/Math", name := "min", desc := "(II)I" } : Jvm.MethodName) jdk_29_method_69_code (2 : Nat) (Option.some Jvm.ClassFile.FieldType.int), Jvm.Cond.code ({ cls := "java/lang/StringUTF16", name := "compress", desc := "([CII)[B" } : Jvm.MethodName) jdk_52_method_16_code (6 : Nat) (Option.some (Jvm.ClassFile.FieldType.array Jvm.ClassFile.FieldType.byte)), Jvm.Cond.code ({ cls := "java/lang/StringUTF16", name := "compress", desc := "([CI[BII)I" } : Jvm.MethodName) jdk_52_method_21_code (7 : Nat) (Option.some Jvm.ClassFile.FieldType.int), Jvm.Cond.code ({ cls := "java/lang/StringUTF16", name := "coderFromArrayLen", desc := "([BI)B" } : Jvm.MethodName) jdk_52_method_15_code (2 : Nat) (Option.some Jvm.ClassFile.FieldType.byte), Jvm.Cond.code ({ cls := "java/lang/StringLatin1", name := "indexOfChar", desc := "([BIII)I" } : Jvm.MethodName) jdk_43_method_23_code (6 : Nat) (Option.some Jvm.ClassFile.FieldType.int), Jvm.Cond.code ({ cls := "java/lang/String", name := "substring", desc := "(II)Ljava/lang/String;" } : Jvm.MethodName) jdk_42_method_92_code (5 : Nat) (Option.some (Jvm.ClassFile.FieldType.object "java/lang/String")), Jvm.Cond.code ({ cls := "java/lang/String", name := "checkBoundsBeginEnd", desc := "(III)V" } : Jvm.MethodName) jdk_42_method_158_code (3 : Nat) (Option.none : Option Jvm.ClassFile.FieldType), Jvm.Cond.code ({ cls := "jdk/internal/util/Preconditions", name := "checkFromToIndex", desc := "(IIILjava/util/function/BiFunction;)I" } : Jvm.MethodName) jdk_41_method_12_code (4 : Nat) (Option.some Jvm.ClassFile.FieldType.int), Jvm.Cond.code ({ cls := "java/lang/StringLatin1", name := "newString", desc := "([BII)Ljava/lang/String;" } : Jvm.MethodName) jdk_43_method_47_code (3 : Nat) (Option.some (Jvm.ClassFile.FieldType.object "java/lang/String")), Jvm.Cond.code ({ cls := "java/util/Arrays", name := "copyOfRange", desc := "([BII)[B" } : Jvm.MethodName) jdk_65_method_132_code (3 : Nat) (Option.some (Jvm.ClassFile.FieldType.array Jvm.ClassFile.FieldType.byte)), Jvm.Cond.code ({ cls := "java/util/Arrays", name := "copyOfRangeByte", desc := "([BII)[B" } : Jvm.MethodName) jdk_65_method_133_code (5 : Nat) (Option.some (Jvm.ClassFile.FieldType.array Jvm.ClassFile.FieldType.byte)), Jvm.Cond.code ({ cls := "java/util/Arrays", name := "checkLength", desc := "(II)V" } : Jvm.MethodName) jdk_65_method_131_code (2 : Nat) (Option.none : Option Jvm.ClassFile.FieldType), Jvm.Cond.code ({ cls := "java/lang/String", name := "<init>", desc := "([BB)V" } : Jvm.MethodName) jdk_42_method_151_code (3 : Nat) (Option.none : Option Jvm.ClassFile.FieldType), Jvm.Cond.code ({ cls := "java/lang/String", name := "charAt", desc := "(I)C" } : Jvm.MethodName) jdk_42_method_56_code (2 : Nat) (Option.some Jvm.ClassFile.FieldType.char), Jvm.Cond.code ({ cls := "java/lang/StringLatin1", name := "charAt", desc := "([BI)C" } : Jvm.MethodName) jdk_43_method_2_code (2 : Nat) (Option.some Jvm.ClassFile.FieldType.char), Jvm.Cond.code ({ cls := "java/lang/String", name := "checkIndex", desc := "(II)V" } : Jvm.MethodName) jdk_42_method_155_code (2 : Nat) (Option.none : Option Jvm.ClassFile.FieldType), Jvm.Cond.code ({ cls := "jdk/internal/util/Preconditions", name := "checkIndex", desc := "(IILjava/util/function/BiFunction;)I" } : Jvm.MethodName) jdk_41_method_11_code (3 : Nat) (Option.some Jvm.ClassFile.FieldType.int)]
set_option maxRecDepth 65536 in
theorem codes_eq : words1.filter isCode = codes1 := rfl
theorem w_codes : ∀ c ∈ words1.filter isCode, c.before args0 about1 = true := by
  rw [codes_eq]
  intro c hc
  simp only [codes1, List.mem_cons, List.not_mem_nil, or_false] at hc
  rcases hc with rfl | rfl | rfl | rfl | rfl | rfl | rfl | rfl | rfl | rfl | rfl | rfl | rfl | rfl | rfl | rfl | rfl | rfl | rfl | rfl | rfl | rfl | rfl | rfl | rfl | rfl | rfl | rfl | rfl | rfl | rfl | rfl
  · exact w_c0
  · exact w_c1
  · exact w_c2
  · exact w_c3
  · exact w_c4
  · exact w_c5
  · exact w_c6
  · exact w_c7
  · exact w_c8
  · exact w_c9
  · exact w_c10
  · exact w_c11
  · exact w_c12
  · exact w_c13
  · exact w_c14
  · exact w_c15
  · exact w_c16
  · exact w_c17
  · exact w_c18
  · exact w_c19
  · exact w_c20
  · exact w_c21
  · exact w_c22
  · exact w_c23
  · exact w_c24
  · exact w_c25
  · exact w_c26
  · exact w_c27
  · exact w_c28
  · exact w_c29
  · exact w_c30
  · exact w_c31
set_option maxRecDepth 65536 in
theorem w_t1 : (words1.take 24).all (fun c => isCode c || c.before args0 about1) = true := by decide +kernel
set_option maxRecDepth 65536 in
theorem w_t2 : ((words1.drop 24).take 24).all (fun c => isCode c || c.before args0 about1) = true := by decide +kernel
set_option maxRecDepth 65536 in
theorem w_t3 : (((words1.drop 24).drop 24).take 24).all (fun c => isCode c || c.before args0 about1) = true := by decide +kernel
set_option maxRecDepth 65536 in
theorem w_t4 : ((((words1.drop 24).drop 24).drop 24).take 24).all (fun c => isCode c || c.before args0 about1) = true := by decide +kernel
set_option maxRecDepth 65536 in
theorem w_t5 : (((((words1.drop 24).drop 24).drop 24).drop 24).take 24).all (fun c => isCode c || c.before args0 about1) = true := by decide +kernel
set_option maxRecDepth 65536 in
theorem w_t6 : (((((words1.drop 24).drop 24).drop 24).drop 24).drop 24).all (fun c => isCode c || c.before args0 about1) = true := by decide +kernel
theorem w_tables : (allAtoms (Jvm.Cond.code x code maxLocals ret :: tables_1)).before args0 about1 = true := by
  rw [allAtoms_all]
  show words1.all (fun c => c.before args0 about1) = true
  refine all_split ?_ w_codes
  rw [← List.take_append_drop 24 words1, List.all_append, w_t1, ← List.take_append_drop 24 (words1.drop 24), List.all_append, w_t2, ← List.take_append_drop 24 ((words1.drop 24).drop 24), List.all_append, w_t3, ← List.take_append_drop 24 (((words1.drop 24).drop 24).drop 24), List.all_append, w_t4, ← List.take_append_drop 24 ((((words1.drop 24).drop 24).drop 24).drop 24), List.all_append, w_t5, w_t6]
  rfl
set_option maxRecDepth 65536 in
theorem w_rest : rest_1_c.before args0 about1 = true := by decide +kernel
set_option maxRecDepth 65536 in
theorem w_case : (Jvm.Cond.and given_1 narrow_1).before args0 about1 = true := by decide +kernel
set_option maxRecDepth 65536 in
theorem w_consts : constsHeld consts_1 about1 := Jvm.Lit.constsHeldB_iff.mp (by decide +kernel)
theorem w_applies : (headSpec (Jvm.Cond.code x code maxLocals ret :: tables_1) room_1).applies x e0.platform about1 = true :=
  (Spec.applies_iff w_frames).mpr ⟨w_running, w_runnable, w_alone, w_named, w_hears, w_ripe, w_room, w_tables⟩
theorem atStart : AtStart classFile x code maxLocals ret World_1 tables_1 room_1 Calls_1 rest_1 Pre_1 launch0 p0 e0 about1 theMethod args0 below0 :=
  ⟨lists_1, trivial, launch0.admits_env _ _ _, launch0.least_env, fairChoices_fair.cas, fairChoices_fair.clock, w_frames, w_args, w_heap, w_applies, ⟨w_consts, trivial⟩, w_rest, w_case⟩
end start1
theorem witness_1 : WitnessClaimed_1 := ⟨start1.p0, start1.e0, start1.about1, start1.theMethod, start1.args0, start1.below0, start1.atStart⟩
end Jvm.Pilot.@@N@@
