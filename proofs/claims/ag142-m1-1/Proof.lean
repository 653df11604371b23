import JvmDerived
import JvmDerived.Pilot.@@N@@Statement
import JvmDerived.Pilot.@@N@@Code
set_option linter.unusedVariables false
set_option linter.unusedSimpArgs false
namespace Jvm.Pilot.@@N@@
open Jvm Jvm.ClassFile Sem Op Lib Jvm.Free Jvm.Stand Jvm.LawKit Jvm.RoadKit Bundle Jvm.Pilot.@@N@@.Jvm.D

abbrev ci (x : Int32) : Slot := .val (.int x)
abbrev cj (x : Int64) : Slot := .val (.long x)
abbrev cr (x : Addr) : Slot := .val (.ref x)
abbrev cs : Slot := .second
abbrev cu : Slot := .unset
abbrev cSI : String := "com/example/ratatoskr/ratatoskr/core/internal/StringInput"
abbrev cU16 : String := "java/lang/StringUTF16"
abbrev ym0 : MethodName := ⟨"java/lang/StringUTF16", "compress", "([CI[BII)I"⟩
abbrev ym1 : MethodName := ⟨"jdk/internal/util/Preconditions", "checkFromToIndex", "(IIILjava/util/function/BiFunction;)I"⟩
abbrev ym2 : MethodName := ⟨"java/lang/String", "checkBoundsBeginEnd", "(III)V"⟩
abbrev ym3 : MethodName := ⟨"jdk/internal/util/Preconditions", "checkFromIndexSize", "(IIILjava/util/function/BiFunction;)I"⟩
abbrev ym4 : MethodName := ⟨"java/lang/String", "checkBoundsOffCount", "(III)I"⟩
abbrev ym5 : MethodName := ⟨"com/example/ratatoskr/ratatoskr/core/internal/StringInputSkipPlainRunPinLaw", "plain", "(C)Z"⟩
abbrev ym6 : MethodName := ⟨"com/example/ratatoskr/ratatoskr/core/internal/StringInputSkipPlainRunPinLaw", "plainAt", "([CI)Z"⟩
abbrev ym7 : MethodName := ⟨"com/example/ratatoskr/ratatoskr/core/internal/StringInputSkipPlainRunPinLaw", "asciiAt", "([CI)Z"⟩
abbrev ym8 : MethodName := ⟨"com/example/ratatoskr/ratatoskr/core/internal/StringInput", "skipPlainRun", "(JZ)J"⟩
abbrev ym9 : MethodName := ⟨"java/lang/StringUTF16", "getChar", "([BI)C"⟩
abbrev ym10 : MethodName := ⟨"com/example/ratatoskr/ratatoskr/core/internal/StringInput", "offset", "()J"⟩
abbrev ym11 : MethodName := ⟨"com/example/ratatoskr/ratatoskr/core/internal/Input", "hasDecoded", "()Z"⟩
abbrev ym12 : MethodName := ⟨"com/example/ratatoskr/ratatoskr/core/internal/StringInput", "markedIsPlain", "()Z"⟩
abbrev ym13 : MethodName := ⟨"com/example/ratatoskr/ratatoskr/core/internal/StringInput", "hasDecoded", "()Z"⟩
abbrev ym14 : MethodName := ⟨"com/example/ratatoskr/ratatoskr/core/internal/StringInput", "mark", "()V"⟩
abbrev ym15 : MethodName := ⟨"com/example/ratatoskr/ratatoskr/core/internal/StringInput", "skip", "()V"⟩
abbrev ym16 : MethodName := ⟨"java/lang/StringUTF16", "compress", "([CII)[B"⟩
abbrev ym17 : MethodName := ⟨"java/lang/StringUTF16", "coderFromArrayLen", "([BI)B"⟩
abbrev ym18 : MethodName := ⟨"java/lang/String", "<init>", "([CIILjava/lang/Void;)V"⟩
abbrev ym19 : MethodName := ⟨"java/lang/String", "<init>", "([C)V"⟩
abbrev ym20 : MethodName := ⟨"com/example/ratatoskr/ratatoskr/core/internal/Input", "<init>", "()V"⟩
abbrev ym21 : MethodName := ⟨"java/lang/String", "coder", "()B"⟩
abbrev ym22 : MethodName := ⟨"java/lang/String", "length", "()I"⟩
abbrev ym23 : MethodName := ⟨"java/lang/Math", "min", "(II)I"⟩
abbrev ym24 : MethodName := ⟨"java/lang/String", "isLatin1", "()Z"⟩
abbrev ym25 : MethodName := ⟨"java/lang/StringLatin1", "inflate", "([BI[CII)V"⟩
abbrev ym26 : MethodName := ⟨"java/lang/StringLatin1", "getChars", "([BII[CI)V"⟩
abbrev ym27 : MethodName := ⟨"java/lang/String", "getChars", "(II[CI)V"⟩
abbrev ym28 : MethodName := ⟨"com/example/ratatoskr/ratatoskr/core/internal/StringInput", "<init>", "(Ljava/lang/String;)V"⟩
abbrev ym29 : MethodName := ⟨"java/lang/StringUTF16", "newBytesLength", "(I)I"⟩
abbrev ym30 : MethodName := ⟨"java/lang/StringUTF16", "newBytesFor", "(I)[B"⟩
abbrev ym31 : MethodName := ⟨"java/lang/StringUTF16", "putChar", "([BII)V"⟩
abbrev ym32 : MethodName := ⟨"java/lang/StringUTF16", "toBytes", "([CII)[B"⟩
abbrev ym33 : MethodName := ⟨"java/lang/StringUTF16", "length", "([B)I"⟩
abbrev ym34 : MethodName := ⟨"java/lang/StringUTF16", "checkBoundsOffCount", "(II[B)V"⟩
abbrev ym35 : MethodName := ⟨"java/lang/StringUTF16", "getChars", "([BII[CI)V"⟩
section OwnEnds
variable {p : Program} {l : Launch} {e : Env} {R : Room} {s : State} {m : MethodId} {args : Array Value} {below : List Frame} {meth : Method} {c : Code} {T : State} {locs : List Loc} {cells slots : Nat}
/-- from here the body comes to its end, returns, and leaves what Q says -/
def Ends (p : Program) (e : Env) (below : List Frame) (s T : State) (g : JFrame) (kc ks : Nat) (Q : Option Value → Heap → List Loc → Prop) : Prop :=
 ∃ s₂ o, Steps p.tables e below (T.setTop g) s₂ ∧ s₂.status = .running ∧ Ended s₂ below o ∧ ∃ v L, o = .returned v ∧ Q v s₂.heap L ∧ FrameEnd s o s₂ L kc ks
theorem Ends.go {T' : State} {g g' : JFrame} {kc ks : Nat} {Q : Option Value → Heap → List Loc → Prop} (h : ∀ target, Steps p.tables e below (T'.setTop g') target → Steps p.tables e below (T.setTop g) target) (k : Ends p e below s T' g' kc ks Q) : Ends p e below s T g kc ks Q := by
 obtain ⟨s₂, o, h1, h2⟩ := k
 exact ⟨s₂, o, h _ h1, h2⟩
theorem Ends.ret (X : Stand p l e R s m args below meth c T locs cells slots) (hx : p.tables.exec = Jvm.exec) (hlocks : meth.locks = false) {pc : Nat} {Ls : Array Slot} {w : Value} {t : FieldType} {i : Instr} {rest : List Value} (hret : meth.sig.returnType = some t) (hn : narrow t w = w)
  (hi : (i = .ireturn ∧ (t = .int ∨ t = .boolean ∨ t = .byte ∨ t = .char ∨ t = .short) ∧ ∃ z, w = .int z) ∨ (i = .lreturn ∧ t = .long ∧ ∃ z, w = .long z) ∨ (i = .dreturn ∧ t = .double ∧ ∃ z, w = .double z) ∨ (i = .freturn ∧ t = .float ∧ ∃ z, w = .float z) ∨ (i = .areturn ∧ t.isReference = true ∧ w.isRef = true))
  (hd : decode c.code pc = .ok (i, 1)) {kc ks : Nat} {Q : Option Value → Heap → List Loc → Prop} (hc : cells ≤ kc) (hs : slots ≤ ks) (hq : Q (some w) T.heap locs) : Ends p e below s T (mkF m pc Ls (w :: rest)) kc ks Q := by
 obtain ⟨fs, hr, hrun, hended, hW, hsame⟩ := X.leave (v := some w) (fun h => by rw [hret] at h; cases h) hlocks
 exact ⟨_, _, retOut X hx hret hn hi hd hr, hrun, hended, _, _, rfl, hq, ⟨_, rfl⟩, hW, hsame.mono hc hs⟩
theorem Ends.retZ (X : Stand p l e R s m args below meth c T locs cells slots) (hx : p.tables.exec = Jvm.exec) (hlocks : meth.locks = false) {pc : Nat} {Ls : Array Slot} {z : Int32} {t : FieldType} {rest : List Value} (hret : meth.sig.returnType = some t) (ht : t = .boolean ∨ t = .byte ∨ t = .char ∨ t = .short)
  (hd : decode c.code pc = .ok (.ireturn, 1)) {kc ks : Nat} {Q : Option Value → Heap → List Loc → Prop} (hc : cells ≤ kc) (hs : slots ≤ ks) (hq : Q (some (.int (nar t z))) T.heap locs) : Ends p e below s T (mkF m pc Ls (.int z :: rest)) kc ks Q := by
 obtain ⟨fs, hr, hrun, hended, hW, hsame⟩ := X.leave (v := some (.int (nar t z))) (fun h => by rw [hret] at h; cases h) hlocks
 exact ⟨_, _, retN X hx hret ht hd hr, hrun, hended, _, _, rfl, hq, ⟨_, rfl⟩, hW, hsame.mono hc hs⟩
theorem Ends.retV (X : Stand p l e R s m args below meth c T locs cells slots) (hx : p.tables.exec = Jvm.exec) (hlocks : meth.locks = false) {pc : Nat} {Ls : Array Slot} (hret : meth.sig.returnType = none)
  (hd : decode c.code pc = .ok (.return_, 1)) {kc ks : Nat} {Q : Option Value → Heap → List Loc → Prop} (hc : cells ≤ kc) (hs : slots ≤ ks) (hq : Q none T.heap locs) : Ends p e below s T (mkF m pc Ls []) kc ks Q := by
 obtain ⟨fs, hr, hrun, hended, hW, hsame⟩ := X.leave (v := none) (fun _ => rfl) hlocks
 exact ⟨_, _, X.returnOut hx hret hd hr, hrun, hended, _, _, rfl, hq, ⟨_, rfl⟩, hW, hsame.mono hc hs⟩
theorem own_mono (X : Stand p l e R s m args below meth c T locs cells slots) {kc ks : Nat} (hc : cells ≤ kc) (hs : slots ≤ ks) : Stand p l e R s m args below meth c T locs kc ks := { X with same := X.same.mono hc hs }
theorem wil {kc ks : Nat} {Q : Option Value → Heap → List Loc → Prop} {pc : Nat} {L : Array Slot} {S : List Value} {B : ByteArray} {k : Nat} {v : Int32} (X : Stand p l e R s m args below meth c T locs cells slots) (hx : p.tables.exec = Jvm.exec) (hby : c.code = B) (hd : decode B pc = .ok (.iload k, 2)) (hl : L[k]? = some (.val (.int v))) (q : Ends p e below s T (mkF m (pc + 2) L (.int v :: S)) kc ks Q) : Ends p e below s T (mkF m pc L S) kc ks Q := Ends.go (fun _ k => XS.iload X.here hx rfl (hb hby hd) hl k) q
theorem wilN {kc ks : Nat} {Q : Option Value → Heap → List Loc → Prop} {pc : Nat} {L : Array Slot} {S : List Value} {B : ByteArray} {k : Fin 4} {v : Int32} (X : Stand p l e R s m args below meth c T locs cells slots) (hx : p.tables.exec = Jvm.exec) (hby : c.code = B) (hd : decode B pc = .ok (.iload_n k, 1)) (hl : L[k.val]? = some (.val (.int v))) (q : Ends p e below s T (mkF m (pc + 1) L (.int v :: S)) kc ks Q) : Ends p e below s T (mkF m pc L S) kc ks Q := Ends.go (fun _ k => XS.iloadN X.here hx rfl (hb hby hd) hl k) q
theorem wal {kc ks : Nat} {Q : Option Value → Heap → List Loc → Prop} {pc : Nat} {L : Array Slot} {S : List Value} {B : ByteArray} {k : Nat} {v : Value} (X : Stand p l e R s m args below meth c T locs cells slots) (hx : p.tables.exec = Jvm.exec) (hby : c.code = B) (hd : decode B pc = .ok (.aload k, 2)) (hl : L[k]? = some (.val v)) (hv : v.isRef = true) (q : Ends p e below s T (mkF m (pc + 2) L (v :: S)) kc ks Q) : Ends p e below s T (mkF m pc L S) kc ks Q := Ends.go (fun _ k => XS.aload X.here hx rfl (hb hby hd) hl hv k) q
theorem walN {kc ks : Nat} {Q : Option Value → Heap → List Loc → Prop} {pc : Nat} {L : Array Slot} {S : List Value} {B : ByteArray} {k : Fin 4} {v : Value} (X : Stand p l e R s m args below meth c T locs cells slots) (hx : p.tables.exec = Jvm.exec) (hby : c.code = B) (hd : decode B pc = .ok (.aload_n k, 1)) (hl : L[k.val]? = some (.val v)) (hv : v.isRef = true) (q : Ends p e below s T (mkF m (pc + 1) L (v :: S)) kc ks Q) : Ends p e below s T (mkF m pc L S) kc ks Q := Ends.go (fun _ k => XS.aloadN X.here hx rfl (hb hby hd) hl hv k) q
theorem wic {kc ks : Nat} {Q : Option Value → Heap → List Loc → Prop} {pc : Nat} {L : Array Slot} {S : List Value} {B : ByteArray} {i : Int} (X : Stand p l e R s m args below meth c T locs cells slots) (hx : p.tables.exec = Jvm.exec) (hby : c.code = B) (hd : decode B pc = .ok (.iconst i, 1)) (q : Ends p e below s T (mkF m (pc + 1) L (.int (Int32.ofInt i) :: S)) kc ks Q) : Ends p e below s T (mkF m pc L S) kc ks Q := Ends.go (fun _ k => XS.iconst X.here hx rfl (hb hby hd)  k) q
theorem wbp {kc ks : Nat} {Q : Option Value → Heap → List Loc → Prop} {pc : Nat} {L : Array Slot} {S : List Value} {B : ByteArray} {i : Int} (X : Stand p l e R s m args below meth c T locs cells slots) (hx : p.tables.exec = Jvm.exec) (hby : c.code = B) (hd : decode B pc = .ok (.bipush i, 2)) (q : Ends p e below s T (mkF m (pc + 2) L (.int (Int8.ofInt i).toInt32 :: S)) kc ks Q) : Ends p e below s T (mkF m pc L S) kc ks Q := Ends.go (fun _ k => XS.bipush X.here hx rfl (hb hby hd)  k) q
theorem wsp {kc ks : Nat} {Q : Option Value → Heap → List Loc → Prop} {pc : Nat} {L : Array Slot} {S : List Value} {B : ByteArray} {i : Int} (X : Stand p l e R s m args below meth c T locs cells slots) (hx : p.tables.exec = Jvm.exec) (hby : c.code = B) (hd : decode B pc = .ok (.sipush i, 3)) (q : Ends p e below s T (mkF m (pc + 3) L (.int (Int16.ofInt i).toInt32 :: S)) kc ks Q) : Ends p e below s T (mkF m pc L S) kc ks Q := Ends.go (fun _ k => XS.sipush X.here hx rfl (hb hby hd)  k) q
theorem wia {kc ks : Nat} {Q : Option Value → Heap → List Loc → Prop} {pc : Nat} {L : Array Slot} {S : List Value} {B : ByteArray} {x y : Int32} (X : Stand p l e R s m args below meth c T locs cells slots) (hx : p.tables.exec = Jvm.exec) (hby : c.code = B) (hd : decode B pc = .ok (.iadd, 1)) (q : Ends p e below s T (mkF m (pc + 1) L (.int (x + y) :: S)) kc ks Q) : Ends p e below s T (mkF m pc L (.int y :: .int x :: S)) kc ks Q := Ends.go (fun _ k => XS.iadd X.here hx rfl (hb hby hd) rfl k) q
theorem wis {kc ks : Nat} {Q : Option Value → Heap → List Loc → Prop} {pc : Nat} {L : Array Slot} {S : List Value} {B : ByteArray} {x y : Int32} (X : Stand p l e R s m args below meth c T locs cells slots) (hx : p.tables.exec = Jvm.exec) (hby : c.code = B) (hd : decode B pc = .ok (.isub, 1)) (q : Ends p e below s T (mkF m (pc + 1) L (.int (x - y) :: S)) kc ks Q) : Ends p e below s T (mkF m pc L (.int y :: .int x :: S)) kc ks Q := Ends.go (fun _ k => XS.isub X.here hx rfl (hb hby hd) rfl k) q
theorem wst {kc ks : Nat} {Q : Option Value → Heap → List Loc → Prop} {pc : Nat} {L : Array Slot} {S : List Value} {B : ByteArray} {k : Nat} {x : Int32} {l' : Array Slot} (X : Stand p l e R s m args below meth c T locs cells slots) (hx : p.tables.exec = Jvm.exec) (hby : c.code = B) (hd : decode B pc = .ok (.istore k, 2)) (hl : storeLocals L k (.int x) = some l') (q : Ends p e below s T (mkF m (pc + 2) l' S) kc ks Q) : Ends p e below s T (mkF m pc L (.int x :: S)) kc ks Q := Ends.go (fun _ k => XS.istore X.here hx rfl (hb hby hd) rfl hl k) q
theorem wstN {kc ks : Nat} {Q : Option Value → Heap → List Loc → Prop} {pc : Nat} {L : Array Slot} {S : List Value} {B : ByteArray} {k : Fin 4} {x : Int32} {l' : Array Slot} (X : Stand p l e R s m args below meth c T locs cells slots) (hx : p.tables.exec = Jvm.exec) (hby : c.code = B) (hd : decode B pc = .ok (.istore_n k, 1)) (hl : storeLocals L k.val (.int x) = some l') (q : Ends p e below s T (mkF m (pc + 1) l' S) kc ks Q) : Ends p e below s T (mkF m pc L (.int x :: S)) kc ks Q := Ends.go (fun _ k => XS.istoreN X.here hx rfl (hb hby hd) rfl hl k) q
theorem was {kc ks : Nat} {Q : Option Value → Heap → List Loc → Prop} {pc : Nat} {L : Array Slot} {S : List Value} {B : ByteArray} {k : Nat} {x : Value} {l' : Array Slot} (X : Stand p l e R s m args below meth c T locs cells slots) (hx : p.tables.exec = Jvm.exec) (hby : c.code = B) (hd : decode B pc = .ok (.astore k, 2)) (hv : x.isRef = true) (hl : storeLocals L k x = some l') (q : Ends p e below s T (mkF m (pc + 2) l' S) kc ks Q) : Ends p e below s T (mkF m pc L (x :: S)) kc ks Q := Ends.go (fun _ k => XS.astore X.here hx rfl (hb hby hd) rfl hv hl k) q
theorem wasN {kc ks : Nat} {Q : Option Value → Heap → List Loc → Prop} {pc : Nat} {L : Array Slot} {S : List Value} {B : ByteArray} {k : Fin 4} {x : Value} {l' : Array Slot} (X : Stand p l e R s m args below meth c T locs cells slots) (hx : p.tables.exec = Jvm.exec) (hby : c.code = B) (hd : decode B pc = .ok (.astore_n k, 1)) (hv : x.isRef = true) (hl : storeLocals L k.val x = some l') (q : Ends p e below s T (mkF m (pc + 1) l' S) kc ks Q) : Ends p e below s T (mkF m pc L (x :: S)) kc ks Q := Ends.go (fun _ k => XS.astoreN X.here hx rfl (hb hby hd) rfl hv hl k) q
theorem wii {kc ks : Nat} {Q : Option Value → Heap → List Loc → Prop} {pc : Nat} {L : Array Slot} {S : List Value} {B : ByteArray} {k : Nat} {cst : Int} {x : Int32} {l' : Array Slot} (X : Stand p l e R s m args below meth c T locs cells slots) (hx : p.tables.exec = Jvm.exec) (hby : c.code = B) (hd : decode B pc = .ok (.iinc k cst, 3)) (hl : L[k]? = some (.val (.int x))) (hl' : storeLocals L k (.int (x + Int32.ofInt cst)) = some l') (q : Ends p e below s T (mkF m (pc + 3) l' S) kc ks Q) : Ends p e below s T (mkF m pc L S) kc ks Q := Ends.go (fun _ k => XS.iinc X.here hx rfl (hb hby hd) hl hl' k) q
theorem wgo {kc ks : Nat} {Q : Option Value → Heap → List Loc → Prop} {pc : Nat} {L : Array Slot} {S : List Value} {B : ByteArray} {o : Int} {pc' : Nat} (X : Stand p l e R s m args below meth c T locs cells slots) (hx : p.tables.exec = Jvm.exec) (hby : c.code = B) (hd : decode B pc = .ok (.goto o, 3)) (ho : 0 ≤ (pc : Int) + o) (hp : ((pc : Int) + o).toNat = pc') (q : Ends p e below s T (mkF m pc' L S) kc ks Q) : Ends p e below s T (mkF m pc L S) kc ks Q := Ends.go (fun _ k => XS.goto X.here hx rfl rfl (hb hby hd) ho hp k) q
theorem wcy {kc ks : Nat} {Q : Option Value → Heap → List Loc → Prop} {pc : Nat} {L : Array Slot} {S : List Value} {B : ByteArray} {cd : ClassFile.Cond} {x y : Int32} {o : Int} {pc' : Nat} (X : Stand p l e R s m args below meth c T locs cells slots) (hx : p.tables.exec = Jvm.exec) (hby : c.code = B) (hd : decode B pc = .ok (.if_icmp cd o, 3)) (hc : if_icmp.holds cd x y = true) (ho : 0 ≤ (pc : Int) + o) (hp : ((pc : Int) + o).toNat = pc') (q : Ends p e below s T (mkF m pc' L S) kc ks Q) : Ends p e below s T (mkF m pc L (.int y :: .int x :: S)) kc ks Q := Ends.go (fun _ k => XS.icmpYes X.here hx rfl rfl (hb hby hd) rfl hc ho hp k) q
theorem wcn {kc ks : Nat} {Q : Option Value → Heap → List Loc → Prop} {pc : Nat} {L : Array Slot} {S : List Value} {B : ByteArray} {cd : ClassFile.Cond} {x y : Int32} {o : Int} (X : Stand p l e R s m args below meth c T locs cells slots) (hx : p.tables.exec = Jvm.exec) (hby : c.code = B) (hd : decode B pc = .ok (.if_icmp cd o, 3)) (hc : if_icmp.holds cd x y = false) (q : Ends p e below s T (mkF m (pc + 3) L S) kc ks Q) : Ends p e below s T (mkF m pc L (.int y :: .int x :: S)) kc ks Q := Ends.go (fun _ k => XS.icmpNo X.here hx rfl (hb hby hd) rfl hc k) q
theorem wiy {kc ks : Nat} {Q : Option Value → Heap → List Loc → Prop} {pc : Nat} {L : Array Slot} {S : List Value} {B : ByteArray} {cd : ClassFile.Cond} {x : Int32} {o : Int} {pc' : Nat} (X : Stand p l e R s m args below meth c T locs cells slots) (hx : p.tables.exec = Jvm.exec) (hby : c.code = B) (hd : decode B pc = .ok (.ifCond cd o, 3)) (hc : ifCond.holds cd x = true) (ho : 0 ≤ (pc : Int) + o) (hp : ((pc : Int) + o).toNat = pc') (q : Ends p e below s T (mkF m pc' L S) kc ks Q) : Ends p e below s T (mkF m pc L (.int x :: S)) kc ks Q := Ends.go (fun _ k => XS.ifYes X.here hx rfl rfl (hb hby hd) rfl hc ho hp k) q
theorem win {kc ks : Nat} {Q : Option Value → Heap → List Loc → Prop} {pc : Nat} {L : Array Slot} {S : List Value} {B : ByteArray} {cd : ClassFile.Cond} {x : Int32} {o : Int} (X : Stand p l e R s m args below meth c T locs cells slots) (hx : p.tables.exec = Jvm.exec) (hby : c.code = B) (hd : decode B pc = .ok (.ifCond cd o, 3)) (hc : ifCond.holds cd x = false) (q : Ends p e below s T (mkF m (pc + 3) L S) kc ks Q) : Ends p e below s T (mkF m pc L (.int x :: S)) kc ks Q := Ends.go (fun _ k => XS.ifNo X.here hx rfl (hb hby hd) rfl hc k) q
theorem wan {kc ks : Nat} {Q : Option Value → Heap → List Loc → Prop} {pc : Nat} {L : Array Slot} {S : List Value} {B : ByteArray} {x y : Int32} (X : Stand p l e R s m args below meth c T locs cells slots) (hx : p.tables.exec = Jvm.exec) (hby : c.code = B) (hd : decode B pc = .ok (.iand, 1)) (q : Ends p e below s T (mkF m (pc + 1) L (.int (x &&& y) :: S)) kc ks Q) : Ends p e below s T (mkF m pc L (.int y :: .int x :: S)) kc ks Q := Ends.go (fun _ k => XS.iand X.here hx rfl (hb hby hd) rfl k) q
theorem wdu {kc ks : Nat} {Q : Option Value → Heap → List Loc → Prop} {pc : Nat} {L : Array Slot} {S : List Value} {B : ByteArray} {x : Value} (X : Stand p l e R s m args below meth c T locs cells slots) (hx : p.tables.exec = Jvm.exec) (hby : c.code = B) (hd : decode B pc = .ok (.dup, 1)) (hv : x.category = 1) (q : Ends p e below s T (mkF m (pc + 1) L (x :: x :: S)) kc ks Q) : Ends p e below s T (mkF m pc L (x :: S)) kc ks Q := Ends.go (fun _ k => XS.dup X.here hx rfl (hb hby hd) rfl hv k) q
end OwnEnds
abbrev Meets1 (l : Launch) (y : MethodName) (bytes : ByteArray) (ml : Nat) (rt : Option FieldType) (ws : List Jvm.Cond) (rm : Room) (av : Array Value) (Z : State) (h0 : Heap) (Q : Option Value → Heap → List Loc → Prop) : Prop :=
 MetFree l y (head1 (Jvm.Cond.code y bytes ml rt :: ws) rm) (fun a U => a = av ∧ Z.Warmed39 U.vm ∧ U.heap = h0) (fun _ _ _ _ _ => True) (fun _ U o U' => ∃ v L, o = .returned v ∧ Q v U'.heap L ∧ FrameEnd U o U' L rm.cells rm.slots)
theorem own_backOf {p : Program} {l : Launch} {e : Env} {R : Room} {s : State} {args : Array Value} {below : List Frame} {Z : State} {a0 : Array Value} {h : Heap} {y : MethodName} {bytes : ByteArray} {maxL : Nat} {ret : Option FieldType} {rm : Room} {len W : Nat} {as' : Array Value} {Q : Option Value → Heap → List Loc → Prop}
  (hM : Meets1 l y bytes maxL ret [] rm as' Z h Q) (hZ : Z.Warmed39 s.vm) (wc : (Jvm.Cond.code y bytes maxL ret).before a0 Z = true) (wz : (Jvm.Cond.initialized y.cls).before a0 Z = true) (hf : rm.frames + 1 ≤ R.frames) (hl : W + (maxL + 11) + rm.locals ≤ R.locals) :
  Back l R p e below s args y len W (fun A a => a = as' ∧ A.U.heap = h ∧ A.cells + rm.cells ≤ R.cells ∧ A.slots + rm.slots ≤ R.slots)
   (fun A _ v B => ∃ L, Q v B.U.heap L ∧ B.locs = A.locs ++ L ∧ B.cells = A.cells + rm.cells ∧ B.slots = A.slots + rm.slots) := backOf (Q := Q) hM hZ wc wz hf hl
theorem ow {Z : State} {a0 : Array Value} (hw : ∀ d ∈ tables_1, d.before a0 Z = true) {d : Jvm.Cond} (i : Nat) (h : tables_1[i]? = some d) : d.before a0 Z = true := hw d (List.mem_of_getElem? h)
theorem own_old_le {Z : State} {n0 : Nat} {h : Heap} (O : Old Z n0 h) : n0 ≤ h.size := O.1 ▸ O.2.1
theorem own_eqI {args : Array Value} {s : State} {t : Term} {k : Int32} (h : (Jvm.Cond.eq t (.int k)).value args s none s [] = some true) : t.eval args s none [] s = some (.int k) := by
 cases ht : t.eval args s none [] s with
 | none => simp [Cond.value, ht] at h
 | some x => cases x <;> simp_all [Cond.value, Term.eval]
def own_pl (c : Int32) : Prop := ¬ c < 32 ∧ ¬ c = 34 ∧ ¬ c = 92
theorem own_narb {r : Int32} : nar .byte (r.toInt8.toInt32) = r.toInt8.toInt32 := by
 have a1 := c_i2b r
 have a2 := c_i2b r.toInt8.toInt32
 exact Int32.toInt_inj.mp (by show r.toInt8.toInt32.toInt8.toInt32.toInt = r.toInt8.toInt32.toInt; omega)
theorem own_narc {c : Int32} (h : 0 ≤ c.toInt ∧ c.toInt < 65536) : nar .char c = c := by
 have a1 := c_i2c c
 exact Int32.toInt_inj.mp (by show c.toUInt32.toUInt16.toUInt32.toInt32.toInt = c.toInt; omega)
theorem own_narrng (x : Int32) : 0 ≤ (nar .char x).toInt ∧ (nar .char x).toInt < 65536 := (c_i2c x).2
theorem own_u16 {c : Int32} (h : 0 ≤ c.toInt ∧ c.toInt < 65536) : nar .char ((((((c >>> ((0 : Int32) &&& 31)).toInt8.toInt32) &&& (255 : Int32)) <<< ((0 : Int32) &&& 31)) ||| ((((c >>> ((8 : Int32) &&& 31)).toInt8.toInt32) &&& (255 : Int32)) <<< ((8 : Int32) &&& 31))).toUInt32.toUInt16.toUInt32.toInt32) = c := by
 have a1 := c_ishr c 0 0 (by decide)
 have a2 := c_ishr c 8 8 (by decide)
 generalize hu : c >>> ((0 : Int32) &&& 31) = u at *
 generalize hv : c >>> ((8 : Int32) &&& 31) = v at *
 have b1 := c_i2b u
 have b2 := c_i2b v
 generalize u.toInt8.toInt32 = u1 at *
 generalize v.toInt8.toInt32 = v1 at *
 have d1 : (u1 &&& (255 : Int32)).toInt = u1.toInt % ((2 ^ 8 : Nat) : Int) := c_mask u1 255 8 (by decide) (by decide)
 have d2 : (v1 &&& (255 : Int32)).toInt = v1.toInt % ((2 ^ 8 : Nat) : Int) := c_mask v1 255 8 (by decide) (by decide)
 generalize u1 &&& (255 : Int32) = u2 at *
 generalize v1 &&& (255 : Int32) = v2 at *
 have e1 := c_ishl u2 0 0 (by decide)
 have e2 := c_ishl v2 8 8 (by decide)
 generalize u2 <<< ((0 : Int32) &&& 31) = u3 at *
 generalize v2 <<< ((8 : Int32) &&& 31) = v3 at *
 have r1 := rng32 u3; have r2 := rng32 v3
 have f1 := c_or' u3 v3 8 (by decide) 256 (by decide) (by omega) (by omega) (by omega)
 generalize u3 ||| v3 = w at *
 have r3 := rng32 w
 have g1 := c_i2c w
 generalize w.toUInt32.toUInt16.toUInt32.toInt32 = w1 at *
 have g2 := c_i2c w1
 exact Int32.toInt_inj.mp (by show w1.toUInt32.toUInt16.toUInt32.toInt32.toInt = c.toInt; omega)
theorem own_l1 {c : Int32} (h : 0 ≤ c.toInt ∧ c.toInt < 65536) (hk : ¬ (255 : Int32) < c) : nar .char (((c.toInt8.toInt32) &&& (255 : Int32)).toUInt32.toUInt16.toUInt32.toInt32) = c := by
 have hk' : ¬ (255 : Int) < c.toInt := fun q => hk (Int32.lt_iff_toInt_lt.mpr q)
 have b1 := c_i2b c
 generalize c.toInt8.toInt32 = u1 at *
 have d1 : (u1 &&& (255 : Int32)).toInt = u1.toInt % ((2 ^ 8 : Nat) : Int) := c_mask u1 255 8 (by decide) (by decide)
 generalize u1 &&& (255 : Int32) = u2 at *
 have g1 := c_i2c u2
 generalize u2.toUInt32.toUInt16.toUInt32.toInt32 = w1 at *
 have g2 := c_i2c w1
 exact Int32.toInt_inj.mp (by show w1.toUInt32.toUInt16.toUInt32.toInt32.toInt = c.toInt; omega)
theorem own_ex1 {x : Int32} {P : Prop} (h : (x = 1 ∧ P) ∨ (x = 0 ∧ ¬ P)) (hP : P) : x = 1 := h.elim (fun q => q.1) (fun q => absurd hP q.2)
theorem own_ex0 {x : Int32} {P : Prop} (h : (x = 1 ∧ P) ∨ (x = 0 ∧ ¬ P)) (hP : ¬ P) : x = 0 := h.elim (fun q => absurd q.2 hP) (fun q => q.1)
theorem own_k5 (p0 i : Int32) (h : ((p0 &&& (2147483647 : Int32)) % (5 : Int32)) = i) : i = 0 ∨ i = 1 ∨ i = 2 ∨ i = 3 ∨ i = 4 := by
 have h1 := c_and p0 2147483647 (by decide)
 have h2 := (c_irem (p0 &&& 2147483647) 5 5 (by decide)).1 h1.1
 rw [h] at h2
 have h3 : i.toInt = 0 ∨ i.toInt = 1 ∨ i.toInt = 2 ∨ i.toInt = 3 ∨ i.toInt = 4 := by omega
 rcases h3 with q | q | q | q | q
 ·exact Or.inl (Int32.toInt_inj.mp q)
 ·exact Or.inr (Or.inl (Int32.toInt_inj.mp q))
 ·exact Or.inr (Or.inr (Or.inl (Int32.toInt_inj.mp q)))
 ·exact Or.inr (Or.inr (Or.inr (Or.inl (Int32.toInt_inj.mp q))))
 ·exact Or.inr (Or.inr (Or.inr (Or.inr (Int32.toInt_inj.mp q))))
def own_cap (k : Int32) (q : Int64) : Int32 := if q < ((4 : Int32) - k).toInt64 then q.toInt32 else (4 - k)
theorem own_rngc {x c : Int32} (h : x.toUInt32.toUInt16.toUInt32.toInt32 = c) : 0 ≤ c.toInt ∧ c.toInt < 65536 := h ▸ (c_i2c x).2
theorem own_q8 {x q : Int64} (h : (x &&& (9223372036854775807 : Int64)) = q) : 0 ≤ q.toInt := by
 have h1 : (x &&& (9223372036854775807 : Int64)).toInt = x.toInt % ((2 ^ 63 : Nat) : Int) := c_maskL x 9223372036854775807 63 (by decide) (by decide)
 rw [← h, h1]
 exact Int.emod_nonneg _ (by decide)
theorem own_off {p k n : Int32} (h : p = k + n) : ((0 : Int32) + p).toInt64 = (k + n).toInt64 := by rw [Int32.zero_add, h]
theorem own_k4 {k : Int32} (hk : k = 0 ∨ k = 1 ∨ k = 2 ∨ k = 3 ∨ k = 4) : 0 ≤ k.toInt ∧ k.toInt ≤ 4 := by
 rcases hk with rfl | rfl | rfl | rfl | rfl <;> decide
theorem own_sub4 {k : Int32} (hk : k = 0 ∨ k = 1 ∨ k = 2 ∨ k = 3 ∨ k = 4) : ((4 : Int32) - k).toInt = 4 - k.toInt := by
 rcases hk with rfl | rfl | rfl | rfl | rfl <;> decide
theorem own_capb {k : Int32} {q : Int64} (hk : k = 0 ∨ k = 1 ∨ k = 2 ∨ k = 3 ∨ k = 4) (hq : 0 ≤ q.toInt) : 0 ≤ (own_cap k q).toInt ∧ (own_cap k q).toInt ≤ 4 - k.toInt := by
 have h1 := own_k4 hk
 have h2 := own_sub4 hk
 unfold own_cap
 by_cases h : q < ((4 : Int32) - k).toInt64
 ·rw [if_pos h]
  have h3 : q.toInt < ((4 : Int32) - k).toInt64.toInt := Int64.lt_iff_toInt_lt.mp h
  rw [c_i2l, h2] at h3
  have h4 := c_l2i q
  have h5 := rng32 q.toInt32
  omega
 ·rw [if_neg h, h2]
  omega
theorem own_capm {k : Int32} {q : Int64} {m : Int} (hk : k = 0 ∨ k = 1 ∨ k = 2 ∨ k = 3 ∨ k = 4) (hm : 4 - k.toInt = m) (hq : 0 ≤ q.toInt) : (own_cap k q).toInt ≤ m := hm ▸ (own_capb hk hq).2
theorem own_caplt {cap b : Int32} {m : Int} (h : cap.toInt ≤ m) (hm : m < b.toInt) : cap < b := Int32.lt_iff_toInt_lt.mpr (Int.lt_of_le_of_lt h hm)
theorem own_sum {k cap : Int32} (hb : 0 ≤ cap.toInt ∧ cap.toInt ≤ 4 - k.toInt) : (k + cap).toInt = k.toInt + cap.toInt := by
 have h1 := c_iadd k cap
 have h2 := rng32 (k + cap)
 have h3 := rng32 k
 omega
theorem own_ce {k cap e a b : Int32} (hk : 0 ≤ k.toInt ∧ k.toInt ≤ 4) (hb : 0 ≤ cap.toInt ∧ cap.toInt ≤ 4 - k.toInt) (he : e = k + cap) (hab : a.toInt + 1 = k.toInt + b.toInt) : a < e ↔ ¬ cap < b := by
 rw [he, Int32.lt_iff_toInt_lt, Int32.lt_iff_toInt_lt, own_sum hb]
 omega
theorem own_e4 {k cap e : Int32} (hb : 0 ≤ cap.toInt ∧ cap.toInt ≤ 4 - k.toInt) (he : e = k + cap) : ¬ (4 : Int32) < e := by
 rw [he, Int32.lt_iff_toInt_lt, own_sum hb]
 have : (4 : Int32).toInt = 4 := by decide
 omega
theorem own_eT {k : Int32} {q : Int64} (h : (0 : Int32) < lcmpW (((4 : Int32) - k).toInt64) q) : k + q.toInt32 = k + own_cap k q := by
 unfold own_cap
 rw [if_pos ((lw_gt _ _).mp h)]
theorem own_eF {k : Int32} {q : Int64} (h : ¬ (0 : Int32) < lcmpW (((4 : Int32) - k).toInt64) q) : (4 : Int32) = k + own_cap k q := by
 unfold own_cap
 rw [if_neg (fun z => h ((lw_gt _ _).mpr z)), Int32.add_comm, Int32.sub_add_cancel]
theorem own_addsub {i k : Int32} : i = k + (i - k) := by rw [Int32.add_comm, Int32.sub_add_cancel]
theorem own_iffasc {A B : Prop} {pl : Int32} (h : A ↔ B) (hp : (pl = 1 ∧ A) ∨ (pl = 0 ∧ ¬ A)) : (pl = 1 ∧ B) ∨ (pl = 0 ∧ ¬ B) := by rw [← h]; exact hp
theorem own_capt {k : Int32} {q r : Int64} (hr : ((4 : Int32) - k).toInt64 = r) (h : lcmpW q r < 0) : own_cap k q = q.toInt32 := by
 subst hr
 unfold own_cap
 rw [if_pos ((lw_lt _ _).mp h)]
theorem own_capf {k m : Int32} {q r : Int64} (hr : ((4 : Int32) - k).toInt64 = r) (hm : (4 : Int32) - k = m) (h : ¬ lcmpW q r < 0) : own_cap k q = m := by
 subst hr
 unfold own_cap
 rw [if_neg (fun z => h ((lw_lt _ _).mpr z)), hm]
theorem own_or7 {a b : Int32} (ha : 0 ≤ a.toInt ∧ a.toInt < 65536) (hb : 0 ≤ b.toInt ∧ b.toInt < 65536) : (0 ≤ (a ||| b).toInt ∧ (a ||| b).toInt < 65536) ∧ ((a ||| b) < 128 ↔ (a < 128 ∧ b < 128)) := by
 have la := a.toBitVec.isLt
 have lb := b.toBitVec.isLt
 have q : (a ||| b).toBitVec.toNat = a.toBitVec.toNat ||| b.toBitVec.toNat := by show (a.toBitVec ||| b.toBitVec).toNat = _; rw [BitVec.toNat_or]
 have ea : a.toInt = (a.toBitVec.toNat : Int) := by
  have : a.toInt = a.toBitVec.toInt := rfl
  rw [this, BitVec.toInt_eq_toNat_cond] at ha ⊢
  split at ha <;> rename_i hh <;> simp only [hh, if_true, if_false] <;> omega
 have eb : b.toInt = (b.toBitVec.toNat : Int) := by
  have : b.toInt = b.toBitVec.toInt := rfl
  rw [this, BitVec.toInt_eq_toNat_cond] at hb ⊢
  split at hb <;> rename_i hh <;> simp only [hh, if_true, if_false] <;> omega
 have h16 : a.toBitVec.toNat ||| b.toBitVec.toNat < 2 ^ 16 := Nat.or_lt_two_pow (by omega) (by omega)
 have ew : (a ||| b).toInt = ((a.toBitVec.toNat ||| b.toBitVec.toNat : Nat) : Int) := by
  have : (a ||| b).toInt = (a ||| b).toBitVec.toInt := rfl
  rw [this, BitVec.toInt_eq_toNat_cond, q, if_pos (by omega)]
 have k0 := c_or0 a b ha.1 hb.1
 have e128 : (128 : Int32).toInt = 128 := by decide
 refine ⟨by omega, ?_⟩
 rw [Int32.lt_iff_toInt_lt, Int32.lt_iff_toInt_lt, Int32.lt_iff_toInt_lt, e128]
 constructor
 ·intro h; omega
 ·intro h
  have h7 : a.toBitVec.toNat ||| b.toBitVec.toNat < 2 ^ 7 := Nat.or_lt_two_pow (by omega) (by omega)
  omega
theorem own_seen0 : (0 : Int32) < (128 : Int32) ↔ True := ⟨fun _ => trivial, fun _ => by decide⟩
theorem own_seen1 {a : Int32} (ha : 0 ≤ a.toInt ∧ a.toInt < 65536) : ((0 : Int32) ||| a) < (128 : Int32) ↔ a < (128 : Int32) := by rw [Int32.zero_or]
theorem own_seen2 {a b : Int32} (ha : 0 ≤ a.toInt ∧ a.toInt < 65536) (hb : 0 ≤ b.toInt ∧ b.toInt < 65536) : (((0 : Int32) ||| a) ||| b) < (128 : Int32) ↔ (a < (128 : Int32) ∧ b < (128 : Int32)) := by
 rw [Int32.zero_or]; exact (own_or7 ha hb).2
theorem own_seen3 {a b c : Int32} (ha : 0 ≤ a.toInt ∧ a.toInt < 65536) (hb : 0 ≤ b.toInt ∧ b.toInt < 65536) (hc : 0 ≤ c.toInt ∧ c.toInt < 65536) : ((((0 : Int32) ||| a) ||| b) ||| c) < (128 : Int32) ↔ (a < (128 : Int32) ∧ b < (128 : Int32) ∧ c < (128 : Int32)) := by
 rw [Int32.zero_or, (own_or7 (own_or7 ha hb).1 hc).2, (own_or7 ha hb).2, and_assoc]
theorem own_seen4 {a b c d : Int32} (ha : 0 ≤ a.toInt ∧ a.toInt < 65536) (hb : 0 ≤ b.toInt ∧ b.toInt < 65536) (hc : 0 ≤ c.toInt ∧ c.toInt < 65536) (hd : 0 ≤ d.toInt ∧ d.toInt < 65536) : (((((0 : Int32) ||| a) ||| b) ||| c) ||| d) < (128 : Int32) ↔ (a < (128 : Int32) ∧ b < (128 : Int32) ∧ c < (128 : Int32) ∧ d < (128 : Int32)) := by
 rw [Int32.zero_or, (own_or7 (own_or7 (own_or7 ha hb).1 hc).1 hd).2, (own_or7 (own_or7 ha hb).1 hc).2, (own_or7 ha hb).2, and_assoc, and_assoc]
def own_run (c0_ c1_ c2_ c3_ k_ cap_ n_ pl_ : Int32) : Prop :=
 if k_ = 0 then ((n_ = 0 ∧ (cap_ < 1 ∨ ¬ own_pl c0_) ∧ ((pl_ = 1 ∧ (True)) ∨ (pl_ = 0 ∧ ¬ (True)))) ∨ (n_ = 1 ∧ (¬ cap_ < 1 ∧ own_pl c0_) ∧ (cap_ < 2 ∨ ¬ own_pl c1_) ∧ ((pl_ = 1 ∧ (c0_ < (128 : Int32))) ∨ (pl_ = 0 ∧ ¬ (c0_ < (128 : Int32))))) ∨ (n_ = 2 ∧ (¬ cap_ < 1 ∧ own_pl c0_) ∧ (¬ cap_ < 2 ∧ own_pl c1_) ∧ (cap_ < 3 ∨ ¬ own_pl c2_) ∧ ((pl_ = 1 ∧ (c0_ < (128 : Int32) ∧ c1_ < (128 : Int32))) ∨ (pl_ = 0 ∧ ¬ (c0_ < (128 : Int32) ∧ c1_ < (128 : Int32))))) ∨ (n_ = 3 ∧ (¬ cap_ < 1 ∧ own_pl c0_) ∧ (¬ cap_ < 2 ∧ own_pl c1_) ∧ (¬ cap_ < 3 ∧ own_pl c2_) ∧ (cap_ < 4 ∨ ¬ own_pl c3_) ∧ ((pl_ = 1 ∧ (c0_ < (128 : Int32) ∧ c1_ < (128 : Int32) ∧ c2_ < (128 : Int32))) ∨ (pl_ = 0 ∧ ¬ (c0_ < (128 : Int32) ∧ c1_ < (128 : Int32) ∧ c2_ < (128 : Int32))))) ∨ (n_ = 4 ∧ (¬ cap_ < 1 ∧ own_pl c0_) ∧ (¬ cap_ < 2 ∧ own_pl c1_) ∧ (¬ cap_ < 3 ∧ own_pl c2_) ∧ (¬ cap_ < 4 ∧ own_pl c3_) ∧ ((pl_ = 1 ∧ (c0_ < (128 : Int32) ∧ c1_ < (128 : Int32) ∧ c2_ < (128 : Int32) ∧ c3_ < (128 : Int32))) ∨ (pl_ = 0 ∧ ¬ (c0_ < (128 : Int32) ∧ c1_ < (128 : Int32) ∧ c2_ < (128 : Int32) ∧ c3_ < (128 : Int32)))))) else if k_ = 1 then ((n_ = 0 ∧ (cap_ < 1 ∨ ¬ own_pl c1_) ∧ ((pl_ = 1 ∧ (True)) ∨ (pl_ = 0 ∧ ¬ (True)))) ∨ (n_ = 1 ∧ (¬ cap_ < 1 ∧ own_pl c1_) ∧ (cap_ < 2 ∨ ¬ own_pl c2_) ∧ ((pl_ = 1 ∧ (c1_ < (128 : Int32))) ∨ (pl_ = 0 ∧ ¬ (c1_ < (128 : Int32))))) ∨ (n_ = 2 ∧ (¬ cap_ < 1 ∧ own_pl c1_) ∧ (¬ cap_ < 2 ∧ own_pl c2_) ∧ (cap_ < 3 ∨ ¬ own_pl c3_) ∧ ((pl_ = 1 ∧ (c1_ < (128 : Int32) ∧ c2_ < (128 : Int32))) ∨ (pl_ = 0 ∧ ¬ (c1_ < (128 : Int32) ∧ c2_ < (128 : Int32))))) ∨ (n_ = 3 ∧ (¬ cap_ < 1 ∧ own_pl c1_) ∧ (¬ cap_ < 2 ∧ own_pl c2_) ∧ (¬ cap_ < 3 ∧ own_pl c3_) ∧ ((pl_ = 1 ∧ (c1_ < (128 : Int32) ∧ c2_ < (128 : Int32) ∧ c3_ < (128 : Int32))) ∨ (pl_ = 0 ∧ ¬ (c1_ < (128 : Int32) ∧ c2_ < (128 : Int32) ∧ c3_ < (128 : Int32)))))) else if k_ = 2 then ((n_ = 0 ∧ (cap_ < 1 ∨ ¬ own_pl c2_) ∧ ((pl_ = 1 ∧ (True)) ∨ (pl_ = 0 ∧ ¬ (True)))) ∨ (n_ = 1 ∧ (¬ cap_ < 1 ∧ own_pl c2_) ∧ (cap_ < 2 ∨ ¬ own_pl c3_) ∧ ((pl_ = 1 ∧ (c2_ < (128 : Int32))) ∨ (pl_ = 0 ∧ ¬ (c2_ < (128 : Int32))))) ∨ (n_ = 2 ∧ (¬ cap_ < 1 ∧ own_pl c2_) ∧ (¬ cap_ < 2 ∧ own_pl c3_) ∧ ((pl_ = 1 ∧ (c2_ < (128 : Int32) ∧ c3_ < (128 : Int32))) ∨ (pl_ = 0 ∧ ¬ (c2_ < (128 : Int32) ∧ c3_ < (128 : Int32)))))) else if k_ = 3 then ((n_ = 0 ∧ (cap_ < 1 ∨ ¬ own_pl c3_) ∧ ((pl_ = 1 ∧ (True)) ∨ (pl_ = 0 ∧ ¬ (True)))) ∨ (n_ = 1 ∧ (¬ cap_ < 1 ∧ own_pl c3_) ∧ ((pl_ = 1 ∧ (c3_ < (128 : Int32))) ∨ (pl_ = 0 ∧ ¬ (c3_ < (128 : Int32)))))) else ((n_ = 0 ∧ ((pl_ = 1 ∧ (True)) ∨ (pl_ = 0 ∧ ¬ (True)))))
theorem own_run_0 (c0_ c1_ c2_ c3_ cap_ n_ pl_ : Int32) : own_run c0_ c1_ c2_ c3_ 0 cap_ n_ pl_ ↔ ((n_ = 0 ∧ (cap_ < 1 ∨ ¬ own_pl c0_) ∧ ((pl_ = 1 ∧ (True)) ∨ (pl_ = 0 ∧ ¬ (True)))) ∨ (n_ = 1 ∧ (¬ cap_ < 1 ∧ own_pl c0_) ∧ (cap_ < 2 ∨ ¬ own_pl c1_) ∧ ((pl_ = 1 ∧ (c0_ < (128 : Int32))) ∨ (pl_ = 0 ∧ ¬ (c0_ < (128 : Int32))))) ∨ (n_ = 2 ∧ (¬ cap_ < 1 ∧ own_pl c0_) ∧ (¬ cap_ < 2 ∧ own_pl c1_) ∧ (cap_ < 3 ∨ ¬ own_pl c2_) ∧ ((pl_ = 1 ∧ (c0_ < (128 : Int32) ∧ c1_ < (128 : Int32))) ∨ (pl_ = 0 ∧ ¬ (c0_ < (128 : Int32) ∧ c1_ < (128 : Int32))))) ∨ (n_ = 3 ∧ (¬ cap_ < 1 ∧ own_pl c0_) ∧ (¬ cap_ < 2 ∧ own_pl c1_) ∧ (¬ cap_ < 3 ∧ own_pl c2_) ∧ (cap_ < 4 ∨ ¬ own_pl c3_) ∧ ((pl_ = 1 ∧ (c0_ < (128 : Int32) ∧ c1_ < (128 : Int32) ∧ c2_ < (128 : Int32))) ∨ (pl_ = 0 ∧ ¬ (c0_ < (128 : Int32) ∧ c1_ < (128 : Int32) ∧ c2_ < (128 : Int32))))) ∨ (n_ = 4 ∧ (¬ cap_ < 1 ∧ own_pl c0_) ∧ (¬ cap_ < 2 ∧ own_pl c1_) ∧ (¬ cap_ < 3 ∧ own_pl c2_) ∧ (¬ cap_ < 4 ∧ own_pl c3_) ∧ ((pl_ = 1 ∧ (c0_ < (128 : Int32) ∧ c1_ < (128 : Int32) ∧ c2_ < (128 : Int32) ∧ c3_ < (128 : Int32))) ∨ (pl_ = 0 ∧ ¬ (c0_ < (128 : Int32) ∧ c1_ < (128 : Int32) ∧ c2_ < (128 : Int32) ∧ c3_ < (128 : Int32)))))) := Iff.of_eq (by
 unfold own_run
 rw [if_pos rfl])
theorem own_run_1 (c0_ c1_ c2_ c3_ cap_ n_ pl_ : Int32) : own_run c0_ c1_ c2_ c3_ 1 cap_ n_ pl_ ↔ ((n_ = 0 ∧ (cap_ < 1 ∨ ¬ own_pl c1_) ∧ ((pl_ = 1 ∧ (True)) ∨ (pl_ = 0 ∧ ¬ (True)))) ∨ (n_ = 1 ∧ (¬ cap_ < 1 ∧ own_pl c1_) ∧ (cap_ < 2 ∨ ¬ own_pl c2_) ∧ ((pl_ = 1 ∧ (c1_ < (128 : Int32))) ∨ (pl_ = 0 ∧ ¬ (c1_ < (128 : Int32))))) ∨ (n_ = 2 ∧ (¬ cap_ < 1 ∧ own_pl c1_) ∧ (¬ cap_ < 2 ∧ own_pl c2_) ∧ (cap_ < 3 ∨ ¬ own_pl c3_) ∧ ((pl_ = 1 ∧ (c1_ < (128 : Int32) ∧ c2_ < (128 : Int32))) ∨ (pl_ = 0 ∧ ¬ (c1_ < (128 : Int32) ∧ c2_ < (128 : Int32))))) ∨ (n_ = 3 ∧ (¬ cap_ < 1 ∧ own_pl c1_) ∧ (¬ cap_ < 2 ∧ own_pl c2_) ∧ (¬ cap_ < 3 ∧ own_pl c3_) ∧ ((pl_ = 1 ∧ (c1_ < (128 : Int32) ∧ c2_ < (128 : Int32) ∧ c3_ < (128 : Int32))) ∨ (pl_ = 0 ∧ ¬ (c1_ < (128 : Int32) ∧ c2_ < (128 : Int32) ∧ c3_ < (128 : Int32)))))) := Iff.of_eq (by
 unfold own_run
 rw [if_neg (by decide), if_pos rfl])
theorem own_run_2 (c0_ c1_ c2_ c3_ cap_ n_ pl_ : Int32) : own_run c0_ c1_ c2_ c3_ 2 cap_ n_ pl_ ↔ ((n_ = 0 ∧ (cap_ < 1 ∨ ¬ own_pl c2_) ∧ ((pl_ = 1 ∧ (True)) ∨ (pl_ = 0 ∧ ¬ (True)))) ∨ (n_ = 1 ∧ (¬ cap_ < 1 ∧ own_pl c2_) ∧ (cap_ < 2 ∨ ¬ own_pl c3_) ∧ ((pl_ = 1 ∧ (c2_ < (128 : Int32))) ∨ (pl_ = 0 ∧ ¬ (c2_ < (128 : Int32))))) ∨ (n_ = 2 ∧ (¬ cap_ < 1 ∧ own_pl c2_) ∧ (¬ cap_ < 2 ∧ own_pl c3_) ∧ ((pl_ = 1 ∧ (c2_ < (128 : Int32) ∧ c3_ < (128 : Int32))) ∨ (pl_ = 0 ∧ ¬ (c2_ < (128 : Int32) ∧ c3_ < (128 : Int32)))))) := Iff.of_eq (by
 unfold own_run
 rw [if_neg (by decide), if_neg (by decide), if_pos rfl])
theorem own_run_3 (c0_ c1_ c2_ c3_ cap_ n_ pl_ : Int32) : own_run c0_ c1_ c2_ c3_ 3 cap_ n_ pl_ ↔ ((n_ = 0 ∧ (cap_ < 1 ∨ ¬ own_pl c3_) ∧ ((pl_ = 1 ∧ (True)) ∨ (pl_ = 0 ∧ ¬ (True)))) ∨ (n_ = 1 ∧ (¬ cap_ < 1 ∧ own_pl c3_) ∧ ((pl_ = 1 ∧ (c3_ < (128 : Int32))) ∨ (pl_ = 0 ∧ ¬ (c3_ < (128 : Int32)))))) := Iff.of_eq (by
 unfold own_run
 rw [if_neg (by decide), if_neg (by decide), if_neg (by decide), if_pos rfl])
theorem own_run_4 (c0_ c1_ c2_ c3_ cap_ n_ pl_ : Int32) : own_run c0_ c1_ c2_ c3_ 4 cap_ n_ pl_ ↔ ((n_ = 0 ∧ ((pl_ = 1 ∧ (True)) ∨ (pl_ = 0 ∧ ¬ (True))))) := Iff.of_eq (by
 unfold own_run
 rw [if_neg (by decide), if_neg (by decide), if_neg (by decide), if_neg (by decide)])
def own_in7 (x : Int32) : Prop := x = 0 ∨ x = 1 ∨ x = 2 ∨ x = 3
def own_sel (c0_ c1_ c2_ c3_ x : Int32) : Int32 := if x = 0 then c0_ else if x = 1 then c1_ else if x = 2 then c2_ else c3_
theorem own_ix7 {x : Int32} (h : own_in7 x) : ¬ x = 4 := by
 rcases h with rfl | rfl | rfl | rfl <;> decide
def own_lat (c0_ c1_ c2_ c3_ : Int32) : Prop := ¬ (255 : Int32) < c0_ ∧ ¬ (255 : Int32) < c1_ ∧ ¬ (255 : Int32) < c2_ ∧ ¬ (255 : Int32) < c3_
def GlobF (Z : State) (G1 : Int32) (G3 : Value) : Prop := Sta Z Z.heap "java/lang/String" "COMPACT_STRINGS" "Z" (.int G1) ∧ ¬ G1 = (0 : Int32) ∧ Sta Z Z.heap "java/lang/StringUTF16" "$assertionsDisabled" "Z" (.int 1) ∧
 Sta Z Z.heap "java/lang/StringUTF16" "HI_BYTE_SHIFT" "I" (.int 0) ∧ Sta Z Z.heap "java/lang/StringUTF16" "LO_BYTE_SHIFT" "I" (.int 8) ∧ Sta Z Z.heap "jdk/internal/util/Preconditions" "SIOOBE_FORMATTER" "Ljava/util/function/BiFunction;" G3 ∧ G3.isRef = true
theorem d5_0 : decode jdk_52_method_21_code 0 = .ok (.iconst 0, 1) := by decide +kernel
theorem d5_1 : decode jdk_52_method_21_code 1 = .ok (.istore 5, 2) := by decide +kernel
theorem d5_3 : decode jdk_52_method_21_code 3 = .ok (.iload 5, 2) := by decide +kernel
theorem d5_5 : decode jdk_52_method_21_code 5 = .ok (.iload 4, 2) := by decide +kernel
theorem d5_7 : decode jdk_52_method_21_code 7 = .ok (.if_icmp .ge 37, 3) := by decide +kernel
theorem d5_10 : decode jdk_52_method_21_code 10 = .ok (.aload_n 0, 1) := by decide +kernel
theorem d5_11 : decode jdk_52_method_21_code 11 = .ok (.iload_n 1, 1) := by decide +kernel
theorem d5_12 : decode jdk_52_method_21_code 12 = .ok (.caload, 1) := by decide +kernel
theorem d5_13 : decode jdk_52_method_21_code 13 = .ok (.istore 6, 2) := by decide +kernel
theorem d5_15 : decode jdk_52_method_21_code 15 = .ok (.iload 6, 2) := by decide +kernel
theorem d5_17 : decode jdk_52_method_21_code 17 = .ok (.sipush 255, 3) := by decide +kernel
theorem d5_20 : decode jdk_52_method_21_code 20 = .ok (.if_icmp .le 6, 3) := by decide +kernel
theorem d5_23 : decode jdk_52_method_21_code 23 = .ok (.iload 5, 2) := by decide +kernel
theorem d5_25 : decode jdk_52_method_21_code 25 = .ok (.ireturn, 1) := by decide +kernel
theorem d5_26 : decode jdk_52_method_21_code 26 = .ok (.aload_n 2, 1) := by decide +kernel
theorem d5_27 : decode jdk_52_method_21_code 27 = .ok (.iload_n 3, 1) := by decide +kernel
theorem d5_28 : decode jdk_52_method_21_code 28 = .ok (.iload 6, 2) := by decide +kernel
theorem d5_30 : decode jdk_52_method_21_code 30 = .ok (.i2b, 1) := by decide +kernel
theorem d5_31 : decode jdk_52_method_21_code 31 = .ok (.bastore, 1) := by decide +kernel
theorem d5_32 : decode jdk_52_method_21_code 32 = .ok (.iinc 1 1, 3) := by decide +kernel
theorem d5_35 : decode jdk_52_method_21_code 35 = .ok (.iinc 3 1, 3) := by decide +kernel
theorem d5_38 : decode jdk_52_method_21_code 38 = .ok (.iinc 5 1, 3) := by decide +kernel
theorem d5_41 : decode jdk_52_method_21_code 41 = .ok (.goto (-38), 3) := by decide +kernel
theorem d5_44 : decode jdk_52_method_21_code 44 = .ok (.iload 4, 2) := by decide +kernel
theorem d5_46 : decode jdk_52_method_21_code 46 = .ok (.ireturn, 1) := by decide +kernel
theorem pn5 : plainName "java/lang/StringUTF16" = true := by first | (simp [plainName, overriddenIn]; done) | decide +kernel
theorem ef5_ririi (m : MethodId) (x0 : Addr) (x1 : Int32) (x2 : Addr) (x3 : Int32) (x4 : Int32) : entryFrame m #[(.ref x0), (.int x1), (.ref x2), (.int x3), (.int x4)] 7 = mkF m 0 #[.val (.ref x0), .val (.int x1), .val (.ref x2), .val (.int x3), .val (.int x4), .unset, .unset] [] := by first | (simp [entryFrame, mkF, argsToLocals, Value.category]; done) | rfl
set_option maxRecDepth 65536 in
set_option maxHeartbeats 40000000 in
theorem rmC (l : Launch) (Z : State) (a0 : Array Value) (hw : ∀ d ∈ tables_1, d.before a0 Z = true) (ws : List Jvm.Cond) (n0 : Nat) (h0 : Heap) (O0 : Old Z n0 h0)  (x0_ b0_ : Addr) (kx_ kb_ : ClassId) (c0_ c1_ c2_ c3_ : Int32) (g_b0_ : n0 ≤ b0_) (hox : x0_ ≠ b0_) (Vx : Arv Z h0 x0_ kx_ .char (4 : Int32) [(.int c0_), (.int c1_), (.int c2_), (.int c3_)] (.int 0)) (Vb : Arv Z h0 b0_ kb_ .byte (4 : Int32) [(.int 0), (.int 0), (.int 0), (.int 0)] (.int 0)) (hbig_ : ¬ (own_lat c0_ c1_ c2_ c3_)) :
  Meets1 l ym0 jdk_52_method_21_code 7 (some .int) ws ({ frames := 0, cells := 0, slots := 0, locals := 0 } : Room) #[(.ref x0_), (.int 0), (.ref b0_), (.int 0), (.int 4)] Z h0 (fun v h L => ∃ ix_ : Int32, v = some (.int ix_) ∧ Fr n0 L ∧ Keep h0 h [b0_] ∧ own_in7 ix_ ∧ (255 : Int32) < own_sel c0_ c1_ c2_ c3_ ix_) := by
 refine MetFree.of_bodySF (plainFor_of_name pn5) hisR ?_
 intro p e s m args below meth c s₁ Bd hml0 hP hK
 obtain ⟨rfl, hZ, hh⟩ := hP
 have hx := Bd.exec
 have hby := Bd.bytes
 have hml : c.maxLocals = 7 := hml0
 have hown : s.vm.findClass "java/lang/StringUTF16" = some m.cls := findClass_of_methodNamed Bd.named
 have hnm := (name_of_methodNamed Bd.named Bd.method).1
 have X0 : Stand p l e ({ frames := 0, cells := 0, slots := 0, locals := 0 } : Room) s m #[(.ref x0_), (.int 0), (.ref b0_), (.int 0), (.int 4)] below meth c s₁ [] 0 0 := Stand.of_body Bd
 have e0 : s₁.heap = h0 := by rw [← hh, Bd.state]; rfl
 have N0 := Fr.nil n0
 have Z0 := own_old_le O0
 show Ends _ _ _ _ s₁ (entryFrame m #[(.ref x0_), (.int 0), (.ref b0_), (.int 0), (.int 4)] 7) ({ frames := 0, cells := 0, slots := 0, locals := 0 } : Room).cells ({ frames := 0, cells := 0, slots := 0, locals := 0 } : Room).slots (fun v h L => ∃ ix_ : Int32, v = some (.int ix_) ∧ Fr n0 L ∧ Keep h0 h [b0_] ∧ own_in7 ix_ ∧ (255 : Int32) < own_sel c0_ c1_ c2_ c3_ ix_)
 refine Ends.go (fun _ k => castTop (ef5_ririi m x0_ (0 : Int32) b0_ (0 : Int32) (4 : Int32)) k) ?_
 have K0 := Keep.refl h0 [b0_]
 refine wic X0 hx hby d5_0 ?_
 refine wst X0 hx hby d5_1 (l' := #[cr x0_, ci 0, cr b0_, ci 0, ci 4, ci 0, cu]) rfl ?_
 refine wil X0 hx hby d5_3 rfl ?_
 refine wil X0 hx hby d5_5 rfl ?_
 show Ends _ _ _ _ s₁ (mkF m 7 #[cr x0_, ci 0, cr b0_, ci 0, ci 4, ci 0, cu] [(.int 4), (.int 0)]) _ _ _
 refine wcn X0 hx hby d5_7 (tlt (by decide : (0 : Int32) < (4 : Int32))).2.1 ?_
 refine walN X0 hx hby d5_10 rfl rfl ?_
 refine wilN X0 hx hby d5_11 rfl ?_
 obtain ⟨cl1, Ar1, q1, S1, M1, H1, G1⟩ := id Vx
 have hin1 := inb_of (j := (0 : Int32)) S1 ⟨by decide, by decide⟩
 refine Ends.go (X0.caload hx (j := (0 : Int32)) (v := (.int c0_)) (by rw [e0]; exact Ar1.1) (State.isArrayOf_alike hZ.alike Ar1.2.1) Ar1.2.2 hin1 (H1.at hin1 rfl) (g := (mkF m 12 #[cr x0_, ci 0, cr b0_, ci 0, ci 4, ci 0, cu] [(.int 0), (.ref x0_)])) rfl rfl (hb hby d5_12)) ?_
 refine wst X0 hx hby d5_13 (l' := #[cr x0_, ci 0, cr b0_, ci 0, ci 4, ci 0, ci c0_]) rfl ?_
 show Ends _ _ _ _ s₁ (mkF m 15 #[cr x0_, ci 0, cr b0_, ci 0, ci 4, ci 0, ci c0_] []) _ _ _
 refine wil X0 hx hby d5_15 rfl ?_
 refine wsp X0 hx hby d5_17 ?_
 by_cases hc20_2 : (255 : Int32) < c0_
 ·refine wcn X0 hx hby d5_20 (tlt hc20_2).2.2.2 ?_
  refine wil X0 hx hby d5_23 rfl ?_
  refine Ends.ret X0 hx Bd.notSynchronized (t := .int) Bd.returns rfl (Or.inl ⟨rfl, by simp, _, rfl⟩) (hb hby d5_25) (by decide) (by decide) ?_
  rw [e0]
  exact ⟨(0 : Int32), rfl, N0, K0, by unfold own_in7; decide, hc20_2⟩
 ·refine wcy (pc := 20) (pc' := 26) X0 hx hby d5_20 (flt hc20_2).2.2.2 (by decide) (by decide) ?_
  show Ends _ _ _ _ s₁ (mkF m 26 #[cr x0_, ci 0, cr b0_, ci 0, ci 4, ci 0, ci c0_] []) _ _ _
  refine walN X0 hx hby d5_26 rfl rfl ?_
  refine wilN X0 hx hby d5_27 rfl ?_
  refine wil X0 hx hby d5_28 rfl ?_
  refine .go (fun _ => XS.i2b X0.here hx rfl (hb hby d5_30) rfl) ?_
  obtain ⟨cl3, Ar3, q3, S3, M3, H3, G3⟩ := id Vb
  have hin3 := inb_of (j := (0 : Int32)) S3 ⟨by decide, by decide⟩
  obtain ⟨T3, h3, X3, e3, W3, st3⟩ := stB X0 hx hZ e0 Ar3 (j := (0 : Int32)) hin3 (g := (mkF m 31 #[cr x0_, ci 0, cr b0_, ci 0, ci 4, ci 0, ci c0_] [(.int (c0_.toInt8.toInt32)), (.int 0), (.ref b0_)])) rfl rfl (hb hby d5_31)
  refine Ends.go st3 ?_
  have V3 : Arv Z h3 b0_ kb_ .byte (4 : Int32) [(.int (nar .byte (c0_.toInt8.toInt32))), (.int 0), (.int 0), (.int 0)] (.int 0) := Arv.set Ar3 q3 S3 M3 H3 G3 (fits_nar_byte _) W3 0 rfl (Nat.le_of_ble_eq_true rfl)
  rw [own_narb] at V3
  have K3 := K0.wr W3 (Or.inl (List.mem_of_getElem? (i := 0) rfl))
  have O3 := O0.wr W3 g_b0_
  have N3 := Fr.snoc X3 N0 g_b0_
  show Ends _ _ _ _ T3 (mkF m 32 #[cr x0_, ci 0, cr b0_, ci 0, ci 4, ci 0, ci c0_] []) _ _ _
  refine wii X3 hx hby d5_32 (l' := #[cr x0_, ci 1, cr b0_, ci 0, ci 4, ci 0, ci c0_]) rfl rfl ?_
  refine wii X3 hx hby d5_35 (l' := #[cr x0_, ci 1, cr b0_, ci 1, ci 4, ci 0, ci c0_]) rfl rfl ?_
  refine wii X3 hx hby d5_38 (l' := #[cr x0_, ci 1, cr b0_, ci 1, ci 4, ci 1, ci c0_]) rfl rfl ?_
  refine wgo (pc := 41) (pc' := 3) X3 hx hby d5_41 (by decide) (by decide) ?_
  refine wil X3 hx hby d5_3 rfl ?_
  show Ends _ _ _ _ T3 (mkF m 5 #[cr x0_, ci 1, cr b0_, ci 1, ci 4, ci 1, ci c0_] [(.int 1)]) _ _ _
  refine wil X3 hx hby d5_5 rfl ?_
  refine wcn X3 hx hby d5_7 (tlt (by decide : (1 : Int32) < (4 : Int32))).2.1 ?_
  refine walN X3 hx hby d5_10 rfl rfl ?_
  refine wilN X3 hx hby d5_11 rfl ?_
  obtain ⟨cl4, Ar4, q4, S4, M4, H4, G4⟩ := id (Vx.other W3 hox)
  have hin4 := inb_of (j := (1 : Int32)) S4 ⟨by decide, by decide⟩
  refine Ends.go (X3.caload hx (j := (1 : Int32)) (v := (.int c1_)) (by rw [e3]; exact Ar4.1) (State.isArrayOf_alike hZ.alike Ar4.2.1) Ar4.2.2 hin4 (H4.at hin4 rfl) (g := (mkF m 12 #[cr x0_, ci 1, cr b0_, ci 1, ci 4, ci 1, ci c0_] [(.int 1), (.ref x0_)])) rfl rfl (hb hby d5_12)) ?_
  show Ends _ _ _ _ T3 (mkF m 13 #[cr x0_, ci 1, cr b0_, ci 1, ci 4, ci 1, ci c0_] [(.int c1_)]) _ _ _
  refine wst X3 hx hby d5_13 (l' := #[cr x0_, ci 1, cr b0_, ci 1, ci 4, ci 1, ci c1_]) rfl ?_
  refine wil X3 hx hby d5_15 rfl ?_
  refine wsp X3 hx hby d5_17 ?_
  by_cases hc20_5 : (255 : Int32) < c1_
  ·refine wcn X3 hx hby d5_20 (tlt hc20_5).2.2.2 ?_
   refine wil X3 hx hby d5_23 rfl ?_
   show Ends _ _ _ _ T3 (mkF m 25 #[cr x0_, ci 1, cr b0_, ci 1, ci 4, ci 1, ci c1_] [(.int 1)]) _ _ _
   refine Ends.ret X3 hx Bd.notSynchronized (t := .int) Bd.returns rfl (Or.inl ⟨rfl, by simp, _, rfl⟩) (hb hby d5_25) (by decide) (by decide) ?_
   rw [e3]
   exact ⟨(1 : Int32), rfl, N3, K3, by unfold own_in7; decide, hc20_5⟩
  ·refine wcy (pc := 20) (pc' := 26) X3 hx hby d5_20 (flt hc20_5).2.2.2 (by decide) (by decide) ?_
   refine walN X3 hx hby d5_26 rfl rfl ?_
   refine wilN X3 hx hby d5_27 rfl ?_
   refine wil X3 hx hby d5_28 rfl ?_
   refine .go (fun _ => XS.i2b X3.here hx rfl (hb hby d5_30) rfl) ?_
   show Ends _ _ _ _ T3 (mkF m 31 #[cr x0_, ci 1, cr b0_, ci 1, ci 4, ci 1, ci c1_] [(.int (c1_.toInt8.toInt32)), (.int 1), (.ref b0_)]) _ _ _
   obtain ⟨cl6, Ar6, q6, S6, M6, H6, G6⟩ := id V3
   have hin6 := inb_of (j := (1 : Int32)) S6 ⟨by decide, by decide⟩
   obtain ⟨T6, h6, X6, e6, W6, st6⟩ := stB X3 hx hZ e3 Ar6 (j := (1 : Int32)) hin6 (g := (mkF m 31 #[cr x0_, ci 1, cr b0_, ci 1, ci 4, ci 1, ci c1_] [(.int (c1_.toInt8.toInt32)), (.int 1), (.ref b0_)])) rfl rfl (hb hby d5_31)
   refine Ends.go st6 ?_
   have V6 : Arv Z h6 b0_ kb_ .byte (4 : Int32) [(.int (c0_.toInt8.toInt32)), (.int (nar .byte (c1_.toInt8.toInt32))), (.int 0), (.int 0)] (.int 0) := Arv.set Ar6 q6 S6 M6 H6 G6 (fits_nar_byte _) W6 1 rfl (Nat.le_of_ble_eq_true rfl)
   rw [own_narb] at V6
   have K6 := K3.wr W6 (Or.inl (List.mem_of_getElem? (i := 0) rfl))
   have O6 := O3.wr W6 g_b0_
   have N6 := Fr.snoc X6 N3 g_b0_
   refine wii X6 hx hby d5_32 (l' := #[cr x0_, ci 2, cr b0_, ci 1, ci 4, ci 1, ci c1_]) rfl rfl ?_
   refine wii X6 hx hby d5_35 (l' := #[cr x0_, ci 2, cr b0_, ci 2, ci 4, ci 1, ci c1_]) rfl rfl ?_
   refine wii X6 hx hby d5_38 (l' := #[cr x0_, ci 2, cr b0_, ci 2, ci 4, ci 2, ci c1_]) rfl rfl ?_
   refine wgo (pc := 41) (pc' := 3) X6 hx hby d5_41 (by decide) (by decide) ?_
   show Ends _ _ _ _ T6 (mkF m 3 #[cr x0_, ci 2, cr b0_, ci 2, ci 4, ci 2, ci c1_] []) _ _ _
   refine wil X6 hx hby d5_3 rfl ?_
   refine wil X6 hx hby d5_5 rfl ?_
   refine wcn X6 hx hby d5_7 (tlt (by decide : (2 : Int32) < (4 : Int32))).2.1 ?_
   refine walN X6 hx hby d5_10 rfl rfl ?_
   refine wilN X6 hx hby d5_11 rfl ?_
   show Ends _ _ _ _ T6 (mkF m 12 #[cr x0_, ci 2, cr b0_, ci 2, ci 4, ci 2, ci c1_] [(.int 2), (.ref x0_)]) _ _ _
   obtain ⟨cl7, Ar7, q7, S7, M7, H7, G7⟩ := id ((Vx.other W3 hox).other W6 hox)
   have hin7 := inb_of (j := (2 : Int32)) S7 ⟨by decide, by decide⟩
   refine Ends.go (X6.caload hx (j := (2 : Int32)) (v := (.int c2_)) (by rw [e6]; exact Ar7.1) (State.isArrayOf_alike hZ.alike Ar7.2.1) Ar7.2.2 hin7 (H7.at hin7 rfl) (g := (mkF m 12 #[cr x0_, ci 2, cr b0_, ci 2, ci 4, ci 2, ci c1_] [(.int 2), (.ref x0_)])) rfl rfl (hb hby d5_12)) ?_
   refine wst X6 hx hby d5_13 (l' := #[cr x0_, ci 2, cr b0_, ci 2, ci 4, ci 2, ci c2_]) rfl ?_
   refine wil X6 hx hby d5_15 rfl ?_
   refine wsp X6 hx hby d5_17 ?_
   by_cases hc20_8 : (255 : Int32) < c2_
   ·refine wcn X6 hx hby d5_20 (tlt hc20_8).2.2.2 ?_
    show Ends _ _ _ _ T6 (mkF m 23 #[cr x0_, ci 2, cr b0_, ci 2, ci 4, ci 2, ci c2_] []) _ _ _
    refine wil X6 hx hby d5_23 rfl ?_
    refine Ends.ret X6 hx Bd.notSynchronized (t := .int) Bd.returns rfl (Or.inl ⟨rfl, by simp, _, rfl⟩) (hb hby d5_25) (by decide) (by decide) ?_
    rw [e6]
    exact ⟨(2 : Int32), rfl, N6, K6, by unfold own_in7; decide, hc20_8⟩
   ·refine wcy (pc := 20) (pc' := 26) X6 hx hby d5_20 (flt hc20_8).2.2.2 (by decide) (by decide) ?_
    refine walN X6 hx hby d5_26 rfl rfl ?_
    refine wilN X6 hx hby d5_27 rfl ?_
    refine wil X6 hx hby d5_28 rfl ?_
    show Ends _ _ _ _ T6 (mkF m 30 #[cr x0_, ci 2, cr b0_, ci 2, ci 4, ci 2, ci c2_] [(.int c2_), (.int 2), (.ref b0_)]) _ _ _
    refine .go (fun _ => XS.i2b X6.here hx rfl (hb hby d5_30) rfl) ?_
    obtain ⟨cl9, Ar9, q9, S9, M9, H9, G9⟩ := id V6
    have hin9 := inb_of (j := (2 : Int32)) S9 ⟨by decide, by decide⟩
    obtain ⟨T9, h9, X9, e9, W9, st9⟩ := stB X6 hx hZ e6 Ar9 (j := (2 : Int32)) hin9 (g := (mkF m 31 #[cr x0_, ci 2, cr b0_, ci 2, ci 4, ci 2, ci c2_] [(.int (c2_.toInt8.toInt32)), (.int 2), (.ref b0_)])) rfl rfl (hb hby d5_31)
    refine Ends.go st9 ?_
    have V9 : Arv Z h9 b0_ kb_ .byte (4 : Int32) [(.int (c0_.toInt8.toInt32)), (.int (c1_.toInt8.toInt32)), (.int (nar .byte (c2_.toInt8.toInt32))), (.int 0)] (.int 0) := Arv.set Ar9 q9 S9 M9 H9 G9 (fits_nar_byte _) W9 2 rfl (Nat.le_of_ble_eq_true rfl)
    rw [own_narb] at V9
    have K9 := K6.wr W9 (Or.inl (List.mem_of_getElem? (i := 0) rfl))
    have O9 := O6.wr W9 g_b0_
    have N9 := Fr.snoc X9 N6 g_b0_
    refine wii X9 hx hby d5_32 (l' := #[cr x0_, ci 3, cr b0_, ci 2, ci 4, ci 2, ci c2_]) rfl rfl ?_
    refine wii X9 hx hby d5_35 (l' := #[cr x0_, ci 3, cr b0_, ci 3, ci 4, ci 2, ci c2_]) rfl rfl ?_
    refine wii X9 hx hby d5_38 (l' := #[cr x0_, ci 3, cr b0_, ci 3, ci 4, ci 3, ci c2_]) rfl rfl ?_
    show Ends _ _ _ _ T9 (mkF m 41 #[cr x0_, ci 3, cr b0_, ci 3, ci 4, ci 3, ci c2_] []) _ _ _
    refine wgo (pc := 41) (pc' := 3) X9 hx hby d5_41 (by decide) (by decide) ?_
    refine wil X9 hx hby d5_3 rfl ?_
    refine wil X9 hx hby d5_5 rfl ?_
    refine wcn X9 hx hby d5_7 (tlt (by decide : (3 : Int32) < (4 : Int32))).2.1 ?_
    refine walN X9 hx hby d5_10 rfl rfl ?_
    show Ends _ _ _ _ T9 (mkF m 11 #[cr x0_, ci 3, cr b0_, ci 3, ci 4, ci 3, ci c2_] [(.ref x0_)]) _ _ _
    refine wilN X9 hx hby d5_11 rfl ?_
    obtain ⟨cl10, Ar10, q10, S10, M10, H10, G10⟩ := id (((Vx.other W3 hox).other W6 hox).other W9 hox)
    have hin10 := inb_of (j := (3 : Int32)) S10 ⟨by decide, by decide⟩
    refine Ends.go (X9.caload hx (j := (3 : Int32)) (v := (.int c3_)) (by rw [e9]; exact Ar10.1) (State.isArrayOf_alike hZ.alike Ar10.2.1) Ar10.2.2 hin10 (H10.at hin10 rfl) (g := (mkF m 12 #[cr x0_, ci 3, cr b0_, ci 3, ci 4, ci 3, ci c2_] [(.int 3), (.ref x0_)])) rfl rfl (hb hby d5_12)) ?_
    refine wst X9 hx hby d5_13 (l' := #[cr x0_, ci 3, cr b0_, ci 3, ci 4, ci 3, ci c3_]) rfl ?_
    refine wil X9 hx hby d5_15 rfl ?_
    refine wsp X9 hx hby d5_17 ?_
    show Ends _ _ _ _ T9 (mkF m 20 #[cr x0_, ci 3, cr b0_, ci 3, ci 4, ci 3, ci c3_] [(.int 255), (.int c3_)]) _ _ _
    by_cases hc20_11 : (255 : Int32) < c3_
    ·refine wcn X9 hx hby d5_20 (tlt hc20_11).2.2.2 ?_
     refine wil X9 hx hby d5_23 rfl ?_
     refine Ends.ret X9 hx Bd.notSynchronized (t := .int) Bd.returns rfl (Or.inl ⟨rfl, by simp, _, rfl⟩) (hb hby d5_25) (by decide) (by decide) ?_
     rw [e9]
     exact ⟨(3 : Int32), rfl, N9, K9, by unfold own_in7; decide, hc20_11⟩
    ·refine wcy (pc := 20) (pc' := 26) X9 hx hby d5_20 (flt hc20_11).2.2.2 (by decide) (by decide) ?_
     refine walN X9 hx hby d5_26 rfl rfl ?_
     refine wilN X9 hx hby d5_27 rfl ?_
     show Ends _ _ _ _ T9 (mkF m 28 #[cr x0_, ci 3, cr b0_, ci 3, ci 4, ci 3, ci c3_] [(.int 3), (.ref b0_)]) _ _ _
     refine wil X9 hx hby d5_28 rfl ?_
     refine .go (fun _ => XS.i2b X9.here hx rfl (hb hby d5_30) rfl) ?_
     obtain ⟨cl12, Ar12, q12, S12, M12, H12, G12⟩ := id V9
     have hin12 := inb_of (j := (3 : Int32)) S12 ⟨by decide, by decide⟩
     obtain ⟨T12, h12, X12, e12, W12, st12⟩ := stB X9 hx hZ e9 Ar12 (j := (3 : Int32)) hin12 (g := (mkF m 31 #[cr x0_, ci 3, cr b0_, ci 3, ci 4, ci 3, ci c3_] [(.int (c3_.toInt8.toInt32)), (.int 3), (.ref b0_)])) rfl rfl (hb hby d5_31)
     refine Ends.go st12 ?_
     have V12 : Arv Z h12 b0_ kb_ .byte (4 : Int32) [(.int (c0_.toInt8.toInt32)), (.int (c1_.toInt8.toInt32)), (.int (c2_.toInt8.toInt32)), (.int (nar .byte (c3_.toInt8.toInt32)))] (.int 0) := Arv.set Ar12 q12 S12 M12 H12 G12 (fits_nar_byte _) W12 3 rfl (Nat.le_of_ble_eq_true rfl)
     rw [own_narb] at V12
     have K12 := K9.wr W12 (Or.inl (List.mem_of_getElem? (i := 0) rfl))
     have O12 := O9.wr W12 g_b0_
     have N12 := Fr.snoc X12 N9 g_b0_
     refine wii X12 hx hby d5_32 (l' := #[cr x0_, ci 4, cr b0_, ci 3, ci 4, ci 3, ci c3_]) rfl rfl ?_
     refine wii X12 hx hby d5_35 (l' := #[cr x0_, ci 4, cr b0_, ci 4, ci 4, ci 3, ci c3_]) rfl rfl ?_
     show Ends _ _ _ _ T12 (mkF m 38 #[cr x0_, ci 4, cr b0_, ci 4, ci 4, ci 3, ci c3_] []) _ _ _
     refine wii X12 hx hby d5_38 (l' := #[cr x0_, ci 4, cr b0_, ci 4, ci 4, ci 4, ci c3_]) rfl rfl ?_
     refine wgo (pc := 41) (pc' := 3) X12 hx hby d5_41 (by decide) (by decide) ?_
     refine wil X12 hx hby d5_3 rfl ?_
     refine wil X12 hx hby d5_5 rfl ?_
     refine wcy (pc := 7) (pc' := 44) X12 hx hby d5_7 (flt (by decide : ¬ ((4 : Int32) < (4 : Int32)))).2.1 (by decide) (by decide) ?_
     show Ends _ _ _ _ T12 (mkF m 44 #[cr x0_, ci 4, cr b0_, ci 4, ci 4, ci 4, ci c3_] []) _ _ _
     refine wil X12 hx hby d5_44 rfl ?_
     exact absurd (⟨hc20_2, hc20_5, hc20_8, hc20_11⟩ : own_lat c0_ c1_ c2_ c3_) hbig_
theorem dqn14_0 : decode jdk_41_method_12_code 0 = .ok (.iload_n 0, 1) := by decide +kernel
theorem dqn14_1 : decode jdk_41_method_12_code 1 = .ok (.ifCond .lt 13, 3) := by decide +kernel
theorem dqn14_4 : decode jdk_41_method_12_code 4 = .ok (.iload_n 0, 1) := by decide +kernel
theorem dqn14_5 : decode jdk_41_method_12_code 5 = .ok (.iload_n 1, 1) := by decide +kernel
theorem dqn14_6 : decode jdk_41_method_12_code 6 = .ok (.if_icmp .gt 8, 3) := by decide +kernel
theorem dqn14_9 : decode jdk_41_method_12_code 9 = .ok (.iload_n 1, 1) := by decide +kernel
theorem dqn14_10 : decode jdk_41_method_12_code 10 = .ok (.iload_n 2, 1) := by decide +kernel
theorem dqn14_11 : decode jdk_41_method_12_code 11 = .ok (.if_icmp .le 11, 3) := by decide +kernel
theorem dqn14_22 : decode jdk_41_method_12_code 22 = .ok (.iload_n 0, 1) := by decide +kernel
theorem dqn14_23 : decode jdk_41_method_12_code 23 = .ok (.ireturn, 1) := by decide +kernel
theorem pnqn14 : plainName "jdk/internal/util/Preconditions" = true := by first | (simp [plainName, overriddenIn]; done) | decide +kernel
theorem efqn14 (m : MethodId) (p0 : Int32) (p1 : Int32) (p2 : Int32) : entryFrame m #[(.int p0), (.int p1), (.int p2), .null] 4 = mkF m 0 #[.val (.int p0), .val (.int p1), .val (.int p2), .val .null] [] := by first | (simp [entryFrame, mkF, argsToLocals, Value.category]; done) | rfl
set_option maxRecDepth 65536 in
set_option maxHeartbeats 40000000 in
theorem rm_checkFromToIndex_n (l : Launch) (Z : State) (a0 : Array Value) (hw : ∀ d ∈ tables_1, d.before a0 Z = true) (ws : List Jvm.Cond) (n0 : Nat) (h0 : Heap) (O0 : Old Z n0 h0) (p0 : Int32) (p1 : Int32) (p2 : Int32) (ha : ¬ p0 < 0) (hb' : ¬ p1 < p0) (hc' : ¬ p2 < p1) :
  Meets1 l ym1 jdk_41_method_12_code 4 (some .int) ws ({ frames := 0, cells := 0, slots := 0, locals := 0 } : Room) #[(.int p0), (.int p1), (.int p2), .null] Z h0 (fun v h L => v = some (.int p0) ∧ Fr n0 L ∧ h = h0) := by
 refine MetFree.of_bodySF (plainFor_of_name pnqn14) hisR ?_
 intro p e s m args below meth c s₁ Bd hml0 hP hK
 obtain ⟨rfl, hZ, hh⟩ := hP
 have hx := Bd.exec
 have hby := Bd.bytes
 have hml : c.maxLocals = 4 := hml0
 have hown : s.vm.findClass "jdk/internal/util/Preconditions" = some m.cls := findClass_of_methodNamed Bd.named
 have hnm := (name_of_methodNamed Bd.named Bd.method).1
 have X0 : Stand p l e ({ frames := 0, cells := 0, slots := 0, locals := 0 } : Room) s m #[(.int p0), (.int p1), (.int p2), .null] below meth c s₁ [] 0 0 := Stand.of_body Bd
 have e0 : s₁.heap = h0 := by rw [← hh, Bd.state]; rfl
 have N0 := Fr.nil n0
 have Z0 := own_old_le O0
 show Ends _ _ _ _ s₁ (entryFrame m #[(.int p0), (.int p1), (.int p2), .null] 4) ({ frames := 0, cells := 0, slots := 0, locals := 0 } : Room).cells ({ frames := 0, cells := 0, slots := 0, locals := 0 } : Room).slots (fun v h L => v = some (.int p0) ∧ Fr n0 L ∧ h = h0)
 refine Ends.go (fun _ k => castTop (efqn14 m p0 p1 p2) k) ?_
 have K0 := Keep.refl h0 []
 refine wilN X0 hx hby dqn14_0 rfl ?_
 refine win X0 hx hby dqn14_1 ((if0 _ _).trans (flt (ha : ¬ (p0 < (0 : Int32)))).1) ?_
 refine wilN X0 hx hby dqn14_4 rfl ?_
 refine wilN X0 hx hby dqn14_5 rfl ?_
 show Ends _ _ _ _ s₁ (mkF m 6 #[ci p0, ci p1, ci p2, .val .null] [(.int p1), (.int p0)]) _ _ _
 refine wcn X0 hx hby dqn14_6 (flt (hb' : ¬ (p1 < p0))).2.2.1 ?_
 refine wilN X0 hx hby dqn14_9 rfl ?_
 refine wilN X0 hx hby dqn14_10 rfl ?_
 refine wcy (pc := 11) (pc' := 22) X0 hx hby dqn14_11 (flt (hc' : ¬ (p2 < p1))).2.2.2 (by decide) (by decide) ?_
 refine wilN X0 hx hby dqn14_22 rfl ?_
 show Ends _ _ _ _ s₁ (mkF m 23 #[ci p0, ci p1, ci p2, .val .null] [(.int p0)]) _ _ _
 refine Ends.ret X0 hx Bd.notSynchronized (t := .int) Bd.returns rfl (Or.inl ⟨rfl, by simp, _, rfl⟩) (hb hby dqn14_23) (by decide) (by decide) ?_
 exact ⟨rfl, N0, e0⟩
theorem dqr14_0 : decode jdk_41_method_12_code 0 = .ok (.iload_n 0, 1) := by decide +kernel
theorem dqr14_1 : decode jdk_41_method_12_code 1 = .ok (.ifCond .lt 13, 3) := by decide +kernel
theorem dqr14_4 : decode jdk_41_method_12_code 4 = .ok (.iload_n 0, 1) := by decide +kernel
theorem dqr14_5 : decode jdk_41_method_12_code 5 = .ok (.iload_n 1, 1) := by decide +kernel
theorem dqr14_6 : decode jdk_41_method_12_code 6 = .ok (.if_icmp .gt 8, 3) := by decide +kernel
theorem dqr14_9 : decode jdk_41_method_12_code 9 = .ok (.iload_n 1, 1) := by decide +kernel
theorem dqr14_10 : decode jdk_41_method_12_code 10 = .ok (.iload_n 2, 1) := by decide +kernel
theorem dqr14_11 : decode jdk_41_method_12_code 11 = .ok (.if_icmp .le 11, 3) := by decide +kernel
theorem dqr14_22 : decode jdk_41_method_12_code 22 = .ok (.iload_n 0, 1) := by decide +kernel
theorem dqr14_23 : decode jdk_41_method_12_code 23 = .ok (.ireturn, 1) := by decide +kernel
theorem pnqr14 : plainName "jdk/internal/util/Preconditions" = true := by first | (simp [plainName, overriddenIn]; done) | decide +kernel
theorem efqr14 (m : MethodId) (p0 : Int32) (p1 : Int32) (p2 : Int32) (o3 : Addr) : entryFrame m #[(.int p0), (.int p1), (.int p2), (.ref o3)] 4 = mkF m 0 #[.val (.int p0), .val (.int p1), .val (.int p2), .val (.ref o3)] [] := by first | (simp [entryFrame, mkF, argsToLocals, Value.category]; done) | rfl
set_option maxRecDepth 65536 in
set_option maxHeartbeats 40000000 in
theorem rm_checkFromToIndex_r (l : Launch) (Z : State) (a0 : Array Value) (hw : ∀ d ∈ tables_1, d.before a0 Z = true) (ws : List Jvm.Cond) (n0 : Nat) (h0 : Heap) (O0 : Old Z n0 h0) (p0 : Int32) (p1 : Int32) (p2 : Int32) (o3 : Addr) (ha : ¬ p0 < 0) (hb' : ¬ p1 < p0) (hc' : ¬ p2 < p1) :
  Meets1 l ym1 jdk_41_method_12_code 4 (some .int) ws ({ frames := 0, cells := 0, slots := 0, locals := 0 } : Room) #[(.int p0), (.int p1), (.int p2), (.ref o3)] Z h0 (fun v h L => v = some (.int p0) ∧ Fr n0 L ∧ h = h0) := by
 refine MetFree.of_bodySF (plainFor_of_name pnqr14) hisR ?_
 intro p e s m args below meth c s₁ Bd hml0 hP hK
 obtain ⟨rfl, hZ, hh⟩ := hP
 have hx := Bd.exec
 have hby := Bd.bytes
 have hml : c.maxLocals = 4 := hml0
 have hown : s.vm.findClass "jdk/internal/util/Preconditions" = some m.cls := findClass_of_methodNamed Bd.named
 have hnm := (name_of_methodNamed Bd.named Bd.method).1
 have X0 : Stand p l e ({ frames := 0, cells := 0, slots := 0, locals := 0 } : Room) s m #[(.int p0), (.int p1), (.int p2), (.ref o3)] below meth c s₁ [] 0 0 := Stand.of_body Bd
 have e0 : s₁.heap = h0 := by rw [← hh, Bd.state]; rfl
 have N0 := Fr.nil n0
 have Z0 := own_old_le O0
 show Ends _ _ _ _ s₁ (entryFrame m #[(.int p0), (.int p1), (.int p2), (.ref o3)] 4) ({ frames := 0, cells := 0, slots := 0, locals := 0 } : Room).cells ({ frames := 0, cells := 0, slots := 0, locals := 0 } : Room).slots (fun v h L => v = some (.int p0) ∧ Fr n0 L ∧ h = h0)
 refine Ends.go (fun _ k => castTop (efqr14 m p0 p1 p2 o3) k) ?_
 have K0 := Keep.refl h0 []
 refine wilN X0 hx hby dqr14_0 rfl ?_
 refine win X0 hx hby dqr14_1 ((if0 _ _).trans (flt (ha : ¬ (p0 < (0 : Int32)))).1) ?_
 refine wilN X0 hx hby dqr14_4 rfl ?_
 refine wilN X0 hx hby dqr14_5 rfl ?_
 show Ends _ _ _ _ s₁ (mkF m 6 #[ci p0, ci p1, ci p2, cr o3] [(.int p1), (.int p0)]) _ _ _
 refine wcn X0 hx hby dqr14_6 (flt (hb' : ¬ (p1 < p0))).2.2.1 ?_
 refine wilN X0 hx hby dqr14_9 rfl ?_
 refine wilN X0 hx hby dqr14_10 rfl ?_
 refine wcy (pc := 11) (pc' := 22) X0 hx hby dqr14_11 (flt (hc' : ¬ (p2 < p1))).2.2.2 (by decide) (by decide) ?_
 refine wilN X0 hx hby dqr14_22 rfl ?_
 show Ends _ _ _ _ s₁ (mkF m 23 #[ci p0, ci p1, ci p2, cr o3] [(.int p0)]) _ _ _
 refine Ends.ret X0 hx Bd.notSynchronized (t := .int) Bd.returns rfl (Or.inl ⟨rfl, by simp, _, rfl⟩) (hb hby dqr14_23) (by decide) (by decide) ?_
 exact ⟨rfl, N0, e0⟩
theorem dq13_0 : decode jdk_42_method_158_code 0 = .ok (.iload_n 0, 1) := by decide +kernel
theorem dq13_1 : decode jdk_42_method_158_code 1 = .ok (.iload_n 1, 1) := by decide +kernel
theorem dq13_2 : decode jdk_42_method_158_code 2 = .ok (.iload_n 2, 1) := by decide +kernel
theorem dq13_3 : decode jdk_42_method_158_code 3 = .ok (.getstatic 1053, 3) := by decide +kernel
theorem dq13_6 : decode jdk_42_method_158_code 6 = .ok (.invokestatic 1062, 3) := by decide +kernel
theorem dq13_9 : decode jdk_42_method_158_code 9 = .ok (.pop, 1) := by decide +kernel
theorem dq13_10 : decode jdk_42_method_158_code 10 = .ok (.return_, 1) := by decide +kernel
theorem pnq13 : plainName "java/lang/String" = true := by first | (simp [plainName, overriddenIn]; done) | decide +kernel
theorem pdq13_0 : parseMethodDescriptor "(IIILjava/util/function/BiFunction;)I" = some ⟨[.int, .int, .int, (.object "java/util/function/BiFunction")], some .int⟩ := by decide +kernel
theorem efq13 (m : MethodId) (p0 : Int32) (p1 : Int32) (p2 : Int32) : entryFrame m #[(.int p0), (.int p1), (.int p2)] 3 = mkF m 0 #[.val (.int p0), .val (.int p1), .val (.int p2)] [] := by first | (simp [entryFrame, mkF, argsToLocals, Value.category]; done) | rfl
set_option maxRecDepth 65536 in
set_option maxHeartbeats 40000000 in
theorem rm_checkBoundsBeginEnd (l : Launch) (Z : State) (a0 : Array Value) (hw : ∀ d ∈ tables_1, d.before a0 Z = true) (ws : List Jvm.Cond) (n0 : Nat) (h0 : Heap) (O0 : Old Z n0 h0) (p0 : Int32) (p1 : Int32) (p2 : Int32) (G1 : Int32) (G3 : Value) (GF : GlobF Z G1 G3) (ha : ¬ p0 < 0) (hb' : ¬ p1 < p0) (hc' : ¬ p2 < p1) :
  Meets1 l ym2 jdk_42_method_158_code 3 none ws ({ frames := 1, cells := 0, slots := 0, locals := 15 } : Room) #[(.int p0), (.int p1), (.int p2)] Z h0 (fun v h L => v = none ∧ Fr n0 L ∧ h = h0) := by
 refine MetFree.of_bodySF (plainFor_of_name pnq13) hisR ?_
 intro p e s m args below meth c s₁ Bd hml0 hP hK
 obtain ⟨rfl, hZ, hh⟩ := hP
 have hx := Bd.exec
 have hby := Bd.bytes
 have hml : c.maxLocals = 3 := hml0
 have hown : s.vm.findClass "java/lang/String" = some m.cls := findClass_of_methodNamed Bd.named
 have hnm := (name_of_methodNamed Bd.named Bd.method).1
 have X0 : Stand p l e ({ frames := 1, cells := 0, slots := 0, locals := 15 } : Room) s m #[(.int p0), (.int p1), (.int p2)] below meth c s₁ [] 0 0 := Stand.of_body Bd
 have e0 : s₁.heap = h0 := by rw [← hh, Bd.state]; rfl
 have N0 := Fr.nil n0
 have Z0 := own_old_le O0
 show Ends _ _ _ _ s₁ (entryFrame m #[(.int p0), (.int p1), (.int p2)] 3) ({ frames := 1, cells := 0, slots := 0, locals := 15 } : Room).cells ({ frames := 1, cells := 0, slots := 0, locals := 15 } : Room).slots (fun v h L => v = none ∧ Fr n0 L ∧ h = h0)
 refine Ends.go (fun _ k => castTop (efq13 m p0 p1 p2) k) ?_
 have K0 := Keep.refl h0 []
 obtain ⟨SCS, P5, SAD, SHI, SLO, SSF, RG3⟩ := id GF
 rcases ref_cases RG3 with rfl | ⟨fm, rfl⟩
 ·show Ends _ _ _ _ s₁ (mkF m 0 #[ci p0, ci p1, ci p2] []) _ _ _
  refine wilN X0 hx hby dq13_0 rfl ?_
  refine wilN X0 hx hby dq13_1 rfl ?_
  refine wilN X0 hx hby dq13_2 rfl ?_
  obtain ⟨T1, X1, e1, st1⟩ := getS2 X0 hx hZ hown (host := "") (Or.inl (ow hw 74 rfl)) Via.refl e0 (SSF.ext O0.2) (g := (mkF m 3 #[ci p0, ci p1, ci p2] [(.int p2), (.int p1), (.int p0)])) rfl (hb hby dq13_3)
  refine Ends.go st1 ?_
  show Ends _ _ _ _ T1 (mkF m 6 #[ci p0, ci p1, ci p2] [.null, (.int p2), (.int p1), (.int p0)]) _ _ _
  obtain ⟨_, _, ⟨T2, L2, k2, n2⟩, -, X2, ⟨Lc2, hQ2, l2, y2, z2⟩, st2⟩ := Jvm.LawKit.callS X1 hx (y := ym1) hown (mvT hZ (ow hw 76 rfl)) (mvT hZ (ow hw 77 rfl)) (mvT hZ (ow hw 75 rfl)) (mvT hZ (ow hw 78 rfl)) (by decide) (own_backOf (W := 0) (rm_checkFromToIndex_n l Z a0 hw [] n0 h0 O0 p0 p1 p2 ha hb' hc') hZ (ow hw 78 rfl) (ow hw 75 rfl) (by decide) (by decide)) (g := (mkF m 6 #[ci p0, ci p1, ci p2] [.null, (.int p2), (.int p1), (.int p0)])) rfl (by rw [hml]; rfl) (argsL := [(.int p0), (.int p1), (.int p2), .null]) (rest := []) (lenOf pdq13_0 rfl) rfl (by show 2 * 0 + _ ≤ _; exact Nat.le_of_eq rfl) (hb hby dq13_6) (fun _ _ => ⟨rfl, e1, (by decide : 0 + 0 ≤ _), (by decide : 0 + 0 ≤ _)⟩)
  dsimp only [Pt.U, Pt.locs, Pt.cells, Pt.slots] at X2 l2 y2 z2 st2 hQ2
  subst l2 y2 z2
  obtain ⟨rfl, N2q, e2q⟩ := hQ2
  have N2 := Fr.app N0 N2q
  refine Ends.go st2 ?_
  refine .go (fun _ => XS.pop X2.here hx rfl (hb hby dq13_9) rfl rfl) ?_
  refine Ends.retV X2 hx Bd.notSynchronized Bd.returns (hb hby dq13_10) (by decide) (by decide) ?_
  exact ⟨rfl, N2, e2q⟩
 ·show Ends _ _ _ _ s₁ (mkF m 0 #[ci p0, ci p1, ci p2] []) _ _ _
  refine wilN X0 hx hby dq13_0 rfl ?_
  refine wilN X0 hx hby dq13_1 rfl ?_
  show Ends _ _ _ _ s₁ (mkF m 2 #[ci p0, ci p1, ci p2] [(.int p1), (.int p0)]) _ _ _
  refine wilN X0 hx hby dq13_2 rfl ?_
  obtain ⟨T3, X3, e3, st3⟩ := getS2 X0 hx hZ hown (host := "") (Or.inl (ow hw 74 rfl)) Via.refl e0 (SSF.ext O0.2) (g := (mkF m 3 #[ci p0, ci p1, ci p2] [(.int p2), (.int p1), (.int p0)])) rfl (hb hby dq13_3)
  refine Ends.go st3 ?_
  obtain ⟨_, _, ⟨T4, L4, k4, n4⟩, -, X4, ⟨Lc4, hQ4, l4, y4, z4⟩, st4⟩ := Jvm.LawKit.callS X3 hx (y := ym1) hown (mvT hZ (ow hw 76 rfl)) (mvT hZ (ow hw 77 rfl)) (mvT hZ (ow hw 75 rfl)) (mvT hZ (ow hw 78 rfl)) (by decide) (own_backOf (W := 0) (rm_checkFromToIndex_r l Z a0 hw [] n0 h0 O0 p0 p1 p2 fm ha hb' hc') hZ (ow hw 78 rfl) (ow hw 75 rfl) (by decide) (by decide)) (g := (mkF m 6 #[ci p0, ci p1, ci p2] [(.ref fm), (.int p2), (.int p1), (.int p0)])) rfl (by rw [hml]; rfl) (argsL := [(.int p0), (.int p1), (.int p2), (.ref fm)]) (rest := []) (lenOf pdq13_0 rfl) rfl (by show 2 * 0 + _ ≤ _; exact Nat.le_of_eq rfl) (hb hby dq13_6) (fun _ _ => ⟨rfl, e3, (by decide : 0 + 0 ≤ _), (by decide : 0 + 0 ≤ _)⟩)
  dsimp only [Pt.U, Pt.locs, Pt.cells, Pt.slots] at X4 l4 y4 z4 st4 hQ4
  subst l4 y4 z4
  obtain ⟨rfl, N4q, e4q⟩ := hQ4
  have N4 := Fr.app N0 N4q
  refine Ends.go st4 ?_
  refine .go (fun _ => XS.pop X4.here hx rfl (hb hby dq13_9) rfl rfl) ?_
  refine Ends.retV X4 hx Bd.notSynchronized Bd.returns (hb hby dq13_10) (by decide) (by decide) ?_
  exact ⟨rfl, N4, e4q⟩
theorem dqn16_0 : decode jdk_41_method_13_code 0 = .ok (.iload_n 2, 1) := by decide +kernel
theorem dqn16_1 : decode jdk_41_method_13_code 1 = .ok (.iload_n 0, 1) := by decide +kernel
theorem dqn16_2 : decode jdk_41_method_13_code 2 = .ok (.ior, 1) := by decide +kernel
theorem dqn16_3 : decode jdk_41_method_13_code 3 = .ok (.iload_n 1, 1) := by decide +kernel
theorem dqn16_4 : decode jdk_41_method_13_code 4 = .ok (.ior, 1) := by decide +kernel
theorem dqn16_5 : decode jdk_41_method_13_code 5 = .ok (.ifCond .lt 10, 3) := by decide +kernel
theorem dqn16_8 : decode jdk_41_method_13_code 8 = .ok (.iload_n 1, 1) := by decide +kernel
theorem dqn16_9 : decode jdk_41_method_13_code 9 = .ok (.iload_n 2, 1) := by decide +kernel
theorem dqn16_10 : decode jdk_41_method_13_code 10 = .ok (.iload_n 0, 1) := by decide +kernel
theorem dqn16_11 : decode jdk_41_method_13_code 11 = .ok (.isub, 1) := by decide +kernel
theorem dqn16_12 : decode jdk_41_method_13_code 12 = .ok (.if_icmp .le 11, 3) := by decide +kernel
theorem dqn16_23 : decode jdk_41_method_13_code 23 = .ok (.iload_n 0, 1) := by decide +kernel
theorem dqn16_24 : decode jdk_41_method_13_code 24 = .ok (.ireturn, 1) := by decide +kernel
theorem pnqn16 : plainName "jdk/internal/util/Preconditions" = true := by first | (simp [plainName, overriddenIn]; done) | decide +kernel
theorem efqn16 (m : MethodId) (p0 : Int32) (p1 : Int32) (p2 : Int32) : entryFrame m #[(.int p0), (.int p1), (.int p2), .null] 4 = mkF m 0 #[.val (.int p0), .val (.int p1), .val (.int p2), .val .null] [] := by first | (simp [entryFrame, mkF, argsToLocals, Value.category]; done) | rfl
set_option maxRecDepth 65536 in
set_option maxHeartbeats 40000000 in
theorem rm_checkFromIndexSize_n (l : Launch) (Z : State) (a0 : Array Value) (hw : ∀ d ∈ tables_1, d.before a0 Z = true) (ws : List Jvm.Cond) (n0 : Nat) (h0 : Heap) (O0 : Old Z n0 h0) (p0 : Int32) (p1 : Int32) (p2 : Int32) (ha : ¬ ((p2 ||| p0) ||| p1) < 0) (hb' : ¬ (p2 - p0) < p1) :
  Meets1 l ym3 jdk_41_method_13_code 4 (some .int) ws ({ frames := 0, cells := 0, slots := 0, locals := 0 } : Room) #[(.int p0), (.int p1), (.int p2), .null] Z h0 (fun v h L => v = some (.int p0) ∧ Fr n0 L ∧ h = h0) := by
 refine MetFree.of_bodySF (plainFor_of_name pnqn16) hisR ?_
 intro p e s m args below meth c s₁ Bd hml0 hP hK
 obtain ⟨rfl, hZ, hh⟩ := hP
 have hx := Bd.exec
 have hby := Bd.bytes
 have hml : c.maxLocals = 4 := hml0
 have hown : s.vm.findClass "jdk/internal/util/Preconditions" = some m.cls := findClass_of_methodNamed Bd.named
 have hnm := (name_of_methodNamed Bd.named Bd.method).1
 have X0 : Stand p l e ({ frames := 0, cells := 0, slots := 0, locals := 0 } : Room) s m #[(.int p0), (.int p1), (.int p2), .null] below meth c s₁ [] 0 0 := Stand.of_body Bd
 have e0 : s₁.heap = h0 := by rw [← hh, Bd.state]; rfl
 have N0 := Fr.nil n0
 have Z0 := own_old_le O0
 show Ends _ _ _ _ s₁ (entryFrame m #[(.int p0), (.int p1), (.int p2), .null] 4) ({ frames := 0, cells := 0, slots := 0, locals := 0 } : Room).cells ({ frames := 0, cells := 0, slots := 0, locals := 0 } : Room).slots (fun v h L => v = some (.int p0) ∧ Fr n0 L ∧ h = h0)
 refine Ends.go (fun _ k => castTop (efqn16 m p0 p1 p2) k) ?_
 have K0 := Keep.refl h0 []
 refine wilN X0 hx hby dqn16_0 rfl ?_
 refine wilN X0 hx hby dqn16_1 rfl ?_
 refine .go (fun _ => XS.ior X0.here hx rfl (hb hby dqn16_2) rfl) ?_
 refine wilN X0 hx hby dqn16_3 rfl ?_
 show Ends _ _ _ _ s₁ (mkF m 4 #[ci p0, ci p1, ci p2, .val .null] [(.int p1), (.int (p2 ||| p0))]) _ _ _
 refine .go (fun _ => XS.ior X0.here hx rfl (hb hby dqn16_4) rfl) ?_
 refine win X0 hx hby dqn16_5 ((if0 _ _).trans (flt (ha : ¬ (((p2 ||| p0) ||| p1) < (0 : Int32)))).1) ?_
 refine wilN X0 hx hby dqn16_8 rfl ?_
 refine wilN X0 hx hby dqn16_9 rfl ?_
 refine wilN X0 hx hby dqn16_10 rfl ?_
 show Ends _ _ _ _ s₁ (mkF m 11 #[ci p0, ci p1, ci p2, .val .null] [(.int p0), (.int p2), (.int p1)]) _ _ _
 refine wis X0 hx hby dqn16_11 ?_
 refine wcy (pc := 12) (pc' := 23) X0 hx hby dqn16_12 (flt (hb' : ¬ ((p2 - p0) < p1))).2.2.2 (by decide) (by decide) ?_
 refine wilN X0 hx hby dqn16_23 rfl ?_
 refine Ends.ret X0 hx Bd.notSynchronized (t := .int) Bd.returns rfl (Or.inl ⟨rfl, by simp, _, rfl⟩) (hb hby dqn16_24) (by decide) (by decide) ?_
 exact ⟨rfl, N0, e0⟩
theorem dqr16_0 : decode jdk_41_method_13_code 0 = .ok (.iload_n 2, 1) := by decide +kernel
theorem dqr16_1 : decode jdk_41_method_13_code 1 = .ok (.iload_n 0, 1) := by decide +kernel
theorem dqr16_2 : decode jdk_41_method_13_code 2 = .ok (.ior, 1) := by decide +kernel
theorem dqr16_3 : decode jdk_41_method_13_code 3 = .ok (.iload_n 1, 1) := by decide +kernel
theorem dqr16_4 : decode jdk_41_method_13_code 4 = .ok (.ior, 1) := by decide +kernel
theorem dqr16_5 : decode jdk_41_method_13_code 5 = .ok (.ifCond .lt 10, 3) := by decide +kernel
theorem dqr16_8 : decode jdk_41_method_13_code 8 = .ok (.iload_n 1, 1) := by decide +kernel
theorem dqr16_9 : decode jdk_41_method_13_code 9 = .ok (.iload_n 2, 1) := by decide +kernel
theorem dqr16_10 : decode jdk_41_method_13_code 10 = .ok (.iload_n 0, 1) := by decide +kernel
theorem dqr16_11 : decode jdk_41_method_13_code 11 = .ok (.isub, 1) := by decide +kernel
theorem dqr16_12 : decode jdk_41_method_13_code 12 = .ok (.if_icmp .le 11, 3) := by decide +kernel
theorem dqr16_23 : decode jdk_41_method_13_code 23 = .ok (.iload_n 0, 1) := by decide +kernel
theorem dqr16_24 : decode jdk_41_method_13_code 24 = .ok (.ireturn, 1) := by decide +kernel
theorem pnqr16 : plainName "jdk/internal/util/Preconditions" = true := by first | (simp [plainName, overriddenIn]; done) | decide +kernel
theorem efqr16 (m : MethodId) (p0 : Int32) (p1 : Int32) (p2 : Int32) (o3 : Addr) : entryFrame m #[(.int p0), (.int p1), (.int p2), (.ref o3)] 4 = mkF m 0 #[.val (.int p0), .val (.int p1), .val (.int p2), .val (.ref o3)] [] := by first | (simp [entryFrame, mkF, argsToLocals, Value.category]; done) | rfl
set_option maxRecDepth 65536 in
set_option maxHeartbeats 40000000 in
theorem rm_checkFromIndexSize_r (l : Launch) (Z : State) (a0 : Array Value) (hw : ∀ d ∈ tables_1, d.before a0 Z = true) (ws : List Jvm.Cond) (n0 : Nat) (h0 : Heap) (O0 : Old Z n0 h0) (p0 : Int32) (p1 : Int32) (p2 : Int32) (o3 : Addr) (ha : ¬ ((p2 ||| p0) ||| p1) < 0) (hb' : ¬ (p2 - p0) < p1) :
  Meets1 l ym3 jdk_41_method_13_code 4 (some .int) ws ({ frames := 0, cells := 0, slots := 0, locals := 0 } : Room) #[(.int p0), (.int p1), (.int p2), (.ref o3)] Z h0 (fun v h L => v = some (.int p0) ∧ Fr n0 L ∧ h = h0) := by
 refine MetFree.of_bodySF (plainFor_of_name pnqr16) hisR ?_
 intro p e s m args below meth c s₁ Bd hml0 hP hK
 obtain ⟨rfl, hZ, hh⟩ := hP
 have hx := Bd.exec
 have hby := Bd.bytes
 have hml : c.maxLocals = 4 := hml0
 have hown : s.vm.findClass "jdk/internal/util/Preconditions" = some m.cls := findClass_of_methodNamed Bd.named
 have hnm := (name_of_methodNamed Bd.named Bd.method).1
 have X0 : Stand p l e ({ frames := 0, cells := 0, slots := 0, locals := 0 } : Room) s m #[(.int p0), (.int p1), (.int p2), (.ref o3)] below meth c s₁ [] 0 0 := Stand.of_body Bd
 have e0 : s₁.heap = h0 := by rw [← hh, Bd.state]; rfl
 have N0 := Fr.nil n0
 have Z0 := own_old_le O0
 show Ends _ _ _ _ s₁ (entryFrame m #[(.int p0), (.int p1), (.int p2), (.ref o3)] 4) ({ frames := 0, cells := 0, slots := 0, locals := 0 } : Room).cells ({ frames := 0, cells := 0, slots := 0, locals := 0 } : Room).slots (fun v h L => v = some (.int p0) ∧ Fr n0 L ∧ h = h0)
 refine Ends.go (fun _ k => castTop (efqr16 m p0 p1 p2 o3) k) ?_
 have K0 := Keep.refl h0 []
 refine wilN X0 hx hby dqr16_0 rfl ?_
 refine wilN X0 hx hby dqr16_1 rfl ?_
 refine .go (fun _ => XS.ior X0.here hx rfl (hb hby dqr16_2) rfl) ?_
 refine wilN X0 hx hby dqr16_3 rfl ?_
 show Ends _ _ _ _ s₁ (mkF m 4 #[ci p0, ci p1, ci p2, cr o3] [(.int p1), (.int (p2 ||| p0))]) _ _ _
 refine .go (fun _ => XS.ior X0.here hx rfl (hb hby dqr16_4) rfl) ?_
 refine win X0 hx hby dqr16_5 ((if0 _ _).trans (flt (ha : ¬ (((p2 ||| p0) ||| p1) < (0 : Int32)))).1) ?_
 refine wilN X0 hx hby dqr16_8 rfl ?_
 refine wilN X0 hx hby dqr16_9 rfl ?_
 refine wilN X0 hx hby dqr16_10 rfl ?_
 show Ends _ _ _ _ s₁ (mkF m 11 #[ci p0, ci p1, ci p2, cr o3] [(.int p0), (.int p2), (.int p1)]) _ _ _
 refine wis X0 hx hby dqr16_11 ?_
 refine wcy (pc := 12) (pc' := 23) X0 hx hby dqr16_12 (flt (hb' : ¬ ((p2 - p0) < p1))).2.2.2 (by decide) (by decide) ?_
 refine wilN X0 hx hby dqr16_23 rfl ?_
 refine Ends.ret X0 hx Bd.notSynchronized (t := .int) Bd.returns rfl (Or.inl ⟨rfl, by simp, _, rfl⟩) (hb hby dqr16_24) (by decide) (by decide) ?_
 exact ⟨rfl, N0, e0⟩
theorem dq15_0 : decode jdk_42_method_157_code 0 = .ok (.iload_n 0, 1) := by decide +kernel
theorem dq15_1 : decode jdk_42_method_157_code 1 = .ok (.iload_n 1, 1) := by decide +kernel
theorem dq15_2 : decode jdk_42_method_157_code 2 = .ok (.iload_n 2, 1) := by decide +kernel
theorem dq15_3 : decode jdk_42_method_157_code 3 = .ok (.getstatic 1053, 3) := by decide +kernel
theorem dq15_6 : decode jdk_42_method_157_code 6 = .ok (.invokestatic 1065, 3) := by decide +kernel
theorem dq15_9 : decode jdk_42_method_157_code 9 = .ok (.ireturn, 1) := by decide +kernel
theorem pnq15 : plainName "java/lang/String" = true := by first | (simp [plainName, overriddenIn]; done) | decide +kernel
theorem pdq15_0 : parseMethodDescriptor "(IIILjava/util/function/BiFunction;)I" = some ⟨[.int, .int, .int, (.object "java/util/function/BiFunction")], some .int⟩ := by decide +kernel
theorem efq15 (m : MethodId) (p0 : Int32) (p1 : Int32) (p2 : Int32) : entryFrame m #[(.int p0), (.int p1), (.int p2)] 3 = mkF m 0 #[.val (.int p0), .val (.int p1), .val (.int p2)] [] := by first | (simp [entryFrame, mkF, argsToLocals, Value.category]; done) | rfl
set_option maxRecDepth 65536 in
set_option maxHeartbeats 40000000 in
theorem rm_checkBoundsOffCount (l : Launch) (Z : State) (a0 : Array Value) (hw : ∀ d ∈ tables_1, d.before a0 Z = true) (ws : List Jvm.Cond) (n0 : Nat) (h0 : Heap) (O0 : Old Z n0 h0) (p0 : Int32) (p1 : Int32) (p2 : Int32) (G1 : Int32) (G3 : Value) (GF : GlobF Z G1 G3) (ha : ¬ ((p2 ||| p0) ||| p1) < 0) (hb' : ¬ (p2 - p0) < p1) :
  Meets1 l ym4 jdk_42_method_157_code 3 (some .int) ws ({ frames := 1, cells := 0, slots := 0, locals := 15 } : Room) #[(.int p0), (.int p1), (.int p2)] Z h0 (fun v h L => v = some (.int p0) ∧ Fr n0 L ∧ h = h0) := by
 refine MetFree.of_bodySF (plainFor_of_name pnq15) hisR ?_
 intro p e s m args below meth c s₁ Bd hml0 hP hK
 obtain ⟨rfl, hZ, hh⟩ := hP
 have hx := Bd.exec
 have hby := Bd.bytes
 have hml : c.maxLocals = 3 := hml0
 have hown : s.vm.findClass "java/lang/String" = some m.cls := findClass_of_methodNamed Bd.named
 have hnm := (name_of_methodNamed Bd.named Bd.method).1
 have X0 : Stand p l e ({ frames := 1, cells := 0, slots := 0, locals := 15 } : Room) s m #[(.int p0), (.int p1), (.int p2)] below meth c s₁ [] 0 0 := Stand.of_body Bd
 have e0 : s₁.heap = h0 := by rw [← hh, Bd.state]; rfl
 have N0 := Fr.nil n0
 have Z0 := own_old_le O0
 show Ends _ _ _ _ s₁ (entryFrame m #[(.int p0), (.int p1), (.int p2)] 3) ({ frames := 1, cells := 0, slots := 0, locals := 15 } : Room).cells ({ frames := 1, cells := 0, slots := 0, locals := 15 } : Room).slots (fun v h L => v = some (.int p0) ∧ Fr n0 L ∧ h = h0)
 refine Ends.go (fun _ k => castTop (efq15 m p0 p1 p2) k) ?_
 have K0 := Keep.refl h0 []
 obtain ⟨SCS, P5, SAD, SHI, SLO, SSF, RG3⟩ := id GF
 rcases ref_cases RG3 with rfl | ⟨fm, rfl⟩
 ·show Ends _ _ _ _ s₁ (mkF m 0 #[ci p0, ci p1, ci p2] []) _ _ _
  refine wilN X0 hx hby dq15_0 rfl ?_
  refine wilN X0 hx hby dq15_1 rfl ?_
  refine wilN X0 hx hby dq15_2 rfl ?_
  obtain ⟨T1, X1, e1, st1⟩ := getS2 X0 hx hZ hown (host := "") (Or.inl (ow hw 74 rfl)) Via.refl e0 (SSF.ext O0.2) (g := (mkF m 3 #[ci p0, ci p1, ci p2] [(.int p2), (.int p1), (.int p0)])) rfl (hb hby dq15_3)
  refine Ends.go st1 ?_
  show Ends _ _ _ _ T1 (mkF m 6 #[ci p0, ci p1, ci p2] [.null, (.int p2), (.int p1), (.int p0)]) _ _ _
  obtain ⟨_, _, ⟨T2, L2, k2, n2⟩, -, X2, ⟨Lc2, hQ2, l2, y2, z2⟩, st2⟩ := Jvm.LawKit.callS X1 hx (y := ym3) hown (mvT hZ (ow hw 82 rfl)) (mvT hZ (ow hw 83 rfl)) (mvT hZ (ow hw 75 rfl)) (mvT hZ (ow hw 84 rfl)) (by decide) (own_backOf (W := 0) (rm_checkFromIndexSize_n l Z a0 hw [] n0 h0 O0 p0 p1 p2 ha hb') hZ (ow hw 84 rfl) (ow hw 75 rfl) (by decide) (by decide)) (g := (mkF m 6 #[ci p0, ci p1, ci p2] [.null, (.int p2), (.int p1), (.int p0)])) rfl (by rw [hml]; rfl) (argsL := [(.int p0), (.int p1), (.int p2), .null]) (rest := []) (lenOf pdq15_0 rfl) rfl (by show 2 * 0 + _ ≤ _; exact Nat.le_of_eq rfl) (hb hby dq15_6) (fun _ _ => ⟨rfl, e1, (by decide : 0 + 0 ≤ _), (by decide : 0 + 0 ≤ _)⟩)
  dsimp only [Pt.U, Pt.locs, Pt.cells, Pt.slots] at X2 l2 y2 z2 st2 hQ2
  subst l2 y2 z2
  obtain ⟨rfl, N2q, e2q⟩ := hQ2
  have N2 := Fr.app N0 N2q
  refine Ends.go st2 ?_
  refine Ends.ret X2 hx Bd.notSynchronized (t := .int) Bd.returns rfl (Or.inl ⟨rfl, by simp, _, rfl⟩) (hb hby dq15_9) (by decide) (by decide) ?_
  exact ⟨rfl, N2, e2q⟩
 ·show Ends _ _ _ _ s₁ (mkF m 0 #[ci p0, ci p1, ci p2] []) _ _ _
  refine wilN X0 hx hby dq15_0 rfl ?_
  refine wilN X0 hx hby dq15_1 rfl ?_
  refine wilN X0 hx hby dq15_2 rfl ?_
  show Ends _ _ _ _ s₁ (mkF m 3 #[ci p0, ci p1, ci p2] [(.int p2), (.int p1), (.int p0)]) _ _ _
  obtain ⟨T3, X3, e3, st3⟩ := getS2 X0 hx hZ hown (host := "") (Or.inl (ow hw 74 rfl)) Via.refl e0 (SSF.ext O0.2) (g := (mkF m 3 #[ci p0, ci p1, ci p2] [(.int p2), (.int p1), (.int p0)])) rfl (hb hby dq15_3)
  refine Ends.go st3 ?_
  obtain ⟨_, _, ⟨T4, L4, k4, n4⟩, -, X4, ⟨Lc4, hQ4, l4, y4, z4⟩, st4⟩ := Jvm.LawKit.callS X3 hx (y := ym3) hown (mvT hZ (ow hw 82 rfl)) (mvT hZ (ow hw 83 rfl)) (mvT hZ (ow hw 75 rfl)) (mvT hZ (ow hw 84 rfl)) (by decide) (own_backOf (W := 0) (rm_checkFromIndexSize_r l Z a0 hw [] n0 h0 O0 p0 p1 p2 fm ha hb') hZ (ow hw 84 rfl) (ow hw 75 rfl) (by decide) (by decide)) (g := (mkF m 6 #[ci p0, ci p1, ci p2] [(.ref fm), (.int p2), (.int p1), (.int p0)])) rfl (by rw [hml]; rfl) (argsL := [(.int p0), (.int p1), (.int p2), (.ref fm)]) (rest := []) (lenOf pdq15_0 rfl) rfl (by show 2 * 0 + _ ≤ _; exact Nat.le_of_eq rfl) (hb hby dq15_6) (fun _ _ => ⟨rfl, e3, (by decide : 0 + 0 ≤ _), (by decide : 0 + 0 ≤ _)⟩)
  dsimp only [Pt.U, Pt.locs, Pt.cells, Pt.slots] at X4 l4 y4 z4 st4 hQ4
  subst l4 y4 z4
  obtain ⟨rfl, N4q, e4q⟩ := hQ4
  have N4 := Fr.app N0 N4q
  refine Ends.go st4 ?_
  refine Ends.ret X4 hx Bd.notSynchronized (t := .int) Bd.returns rfl (Or.inl ⟨rfl, by simp, _, rfl⟩) (hb hby dq15_9) (by decide) (by decide) ?_
  exact ⟨rfl, N4, e4q⟩
theorem d23_0 : decode method_2_code 0 = .ok (.iload_n 0, 1) := by decide +kernel
theorem d23_1 : decode method_2_code 1 = .ok (.bipush 32, 2) := by decide +kernel
theorem d23_3 : decode method_2_code 3 = .ok (.if_icmp .lt 19, 3) := by decide +kernel
theorem d23_6 : decode method_2_code 6 = .ok (.iload_n 0, 1) := by decide +kernel
theorem d23_7 : decode method_2_code 7 = .ok (.bipush 34, 2) := by decide +kernel
theorem d23_9 : decode method_2_code 9 = .ok (.if_icmp .eq 13, 3) := by decide +kernel
theorem d23_12 : decode method_2_code 12 = .ok (.iload_n 0, 1) := by decide +kernel
theorem d23_13 : decode method_2_code 13 = .ok (.bipush 92, 2) := by decide +kernel
theorem d23_15 : decode method_2_code 15 = .ok (.if_icmp .eq 7, 3) := by decide +kernel
theorem d23_18 : decode method_2_code 18 = .ok (.iconst 1, 1) := by decide +kernel
theorem d23_19 : decode method_2_code 19 = .ok (.goto 4, 3) := by decide +kernel
theorem d23_22 : decode method_2_code 22 = .ok (.iconst 0, 1) := by decide +kernel
theorem d23_23 : decode method_2_code 23 = .ok (.ireturn, 1) := by decide +kernel
theorem pn23 : plainName "com/example/ratatoskr/ratatoskr/core/internal/StringInputSkipPlainRunPinLaw" = true := by first | (simp [plainName, overriddenIn]; done) | decide +kernel
theorem ef23 (m : MethodId) (p0 : Int32) : entryFrame m #[(.int p0)] 1 = mkF m 0 #[.val (.int p0)] [] := by first | (simp [entryFrame, mkF, argsToLocals, Value.category]; done) | rfl
set_option maxRecDepth 65536 in
set_option maxHeartbeats 40000000 in
theorem rmPl (l : Launch) (Z : State) (a0 : Array Value) (hw : ∀ d ∈ tables_1, d.before a0 Z = true) (ws : List Jvm.Cond) (n0 : Nat) (h0 : Heap) (O0 : Old Z n0 h0) (p0 : Int32)  :
  Meets1 l ym5 method_2_code 1 (some .boolean) ws ({ frames := 0, cells := 0, slots := 0, locals := 0 } : Room) #[(.int p0)] Z h0 (fun v h L => ∃ r : Int32, v = some (.int r) ∧ Fr n0 L ∧ h = h0 ∧ ((r = 1 ∧ own_pl p0) ∨ (r = 0 ∧ ¬ own_pl p0))) := by
 refine MetFree.of_bodySF (plainFor_of_name pn23) hisR ?_
 intro p e s m args below meth c s₁ Bd hml0 hP hK
 obtain ⟨rfl, hZ, hh⟩ := hP
 have hx := Bd.exec
 have hby := Bd.bytes
 have hml : c.maxLocals = 1 := hml0
 have hown : s.vm.findClass "com/example/ratatoskr/ratatoskr/core/internal/StringInputSkipPlainRunPinLaw" = some m.cls := findClass_of_methodNamed Bd.named
 have hnm := (name_of_methodNamed Bd.named Bd.method).1
 have X0 : Stand p l e ({ frames := 0, cells := 0, slots := 0, locals := 0 } : Room) s m #[(.int p0)] below meth c s₁ [] 0 0 := Stand.of_body Bd
 have e0 : s₁.heap = h0 := by rw [← hh, Bd.state]; rfl
 have N0 := Fr.nil n0
 have Z0 := own_old_le O0
 show Ends _ _ _ _ s₁ (entryFrame m #[(.int p0)] 1) ({ frames := 0, cells := 0, slots := 0, locals := 0 } : Room).cells ({ frames := 0, cells := 0, slots := 0, locals := 0 } : Room).slots (fun v h L => ∃ r : Int32, v = some (.int r) ∧ Fr n0 L ∧ h = h0 ∧ ((r = 1 ∧ own_pl p0) ∨ (r = 0 ∧ ¬ own_pl p0)))
 refine Ends.go (fun _ k => castTop (ef23 m p0) k) ?_
 have K0 := Keep.refl h0 []
 refine wilN X0 hx hby d23_0 rfl ?_
 refine wbp X0 hx hby d23_1 ?_
 by_cases hc3_1 : p0 < (32 : Int32)
 ·refine wcy (pc := 3) (pc' := 22) X0 hx hby d23_3 (tlt hc3_1).1 (by decide) (by decide) ?_
  refine wic X0 hx hby d23_22 ?_
  show Ends _ _ _ _ s₁ (mkF m 23 #[ci p0] [(.int 0)]) _ _ _
  refine Ends.retZ X0 hx Bd.notSynchronized (t := .boolean) Bd.returns (by simp) (hb hby d23_23) (by decide) (by decide) ?_
  exact ⟨0, rfl, N0, e0, Or.inr ⟨rfl, fun q => q.1 hc3_1⟩⟩
 ·refine wcn X0 hx hby d23_3 (flt hc3_1).1 ?_
  refine wilN X0 hx hby d23_6 rfl ?_
  refine wbp X0 hx hby d23_7 ?_
  by_cases hc9_2 : p0 = (34 : Int32)
  ·refine wcy (pc := 9) (pc' := 22) X0 hx hby d23_9 (teq hc9_2).1 (by decide) (by decide) ?_
   refine wic X0 hx hby d23_22 ?_
   show Ends _ _ _ _ s₁ (mkF m 23 #[ci p0] [(.int 0)]) _ _ _
   refine Ends.retZ X0 hx Bd.notSynchronized (t := .boolean) Bd.returns (by simp) (hb hby d23_23) (by decide) (by decide) ?_
   exact ⟨0, rfl, N0, e0, Or.inr ⟨rfl, fun q => q.2.1 hc9_2⟩⟩
  ·refine wcn X0 hx hby d23_9 (feq hc9_2).1 ?_
   refine wilN X0 hx hby d23_12 rfl ?_
   refine wbp X0 hx hby d23_13 ?_
   by_cases hc15_3 : p0 = (92 : Int32)
   ·refine wcy (pc := 15) (pc' := 22) X0 hx hby d23_15 (teq hc15_3).1 (by decide) (by decide) ?_
    refine wic X0 hx hby d23_22 ?_
    show Ends _ _ _ _ s₁ (mkF m 23 #[ci p0] [(.int 0)]) _ _ _
    refine Ends.retZ X0 hx Bd.notSynchronized (t := .boolean) Bd.returns (by simp) (hb hby d23_23) (by decide) (by decide) ?_
    exact ⟨0, rfl, N0, e0, Or.inr ⟨rfl, fun q => q.2.2 hc15_3⟩⟩
   ·refine wcn X0 hx hby d23_15 (feq hc15_3).1 ?_
    refine wic X0 hx hby d23_18 ?_
    refine wgo (pc := 19) (pc' := 23) X0 hx hby d23_19 (by decide) (by decide) ?_
    refine Ends.retZ X0 hx Bd.notSynchronized (t := .boolean) Bd.returns (by simp) (hb hby d23_23) (by decide) (by decide) ?_
    exact ⟨1, rfl, N0, e0, Or.inl ⟨rfl, hc3_1, hc9_2, hc15_3⟩⟩
theorem d22_0 : decode method_3_code 0 = .ok (.iload_n 1, 1) := by decide +kernel
theorem d22_1 : decode method_3_code 1 = .ok (.iconst 4, 1) := by decide +kernel
theorem d22_2 : decode method_3_code 2 = .ok (.if_icmp .ge 16, 3) := by decide +kernel
theorem d22_5 : decode method_3_code 5 = .ok (.aload_n 0, 1) := by decide +kernel
theorem d22_6 : decode method_3_code 6 = .ok (.iload_n 1, 1) := by decide +kernel
theorem d22_7 : decode method_3_code 7 = .ok (.caload, 1) := by decide +kernel
theorem d22_8 : decode method_3_code 8 = .ok (.invokestatic 7, 3) := by decide +kernel
theorem d22_11 : decode method_3_code 11 = .ok (.ifCond .eq 7, 3) := by decide +kernel
theorem d22_14 : decode method_3_code 14 = .ok (.iconst 1, 1) := by decide +kernel
theorem d22_15 : decode method_3_code 15 = .ok (.goto 4, 3) := by decide +kernel
theorem d22_18 : decode method_3_code 18 = .ok (.iconst 0, 1) := by decide +kernel
theorem d22_19 : decode method_3_code 19 = .ok (.ireturn, 1) := by decide +kernel
theorem pn22 : plainName "com/example/ratatoskr/ratatoskr/core/internal/StringInputSkipPlainRunPinLaw" = true := by first | (simp [plainName, overriddenIn]; done) | decide +kernel
theorem pdx_0 : parseMethodDescriptor "(C)Z" = some ⟨[.char], some .boolean⟩ := by decide +kernel
theorem ef22_ri (m : MethodId) (x0 : Addr) (x1 : Int32) : entryFrame m #[(.ref x0), (.int x1)] 2 = mkF m 0 #[.val (.ref x0), .val (.int x1)] [] := by first | (simp [entryFrame, mkF, argsToLocals, Value.category]; done) | rfl
set_option maxRecDepth 65536 in
set_option maxHeartbeats 40000000 in
theorem rm_plainAt_0 (l : Launch) (Z : State) (a0 : Array Value) (hw : ∀ d ∈ tables_1, d.before a0 Z = true) (ws : List Jvm.Cond) (n0 : Nat) (h0 : Heap) (O0 : Old Z n0 h0)  (x0_ : Addr) (kx_ : ClassId) (c0_ c1_ c2_ c3_ : Int32) (Vx : Arv Z h0 x0_ kx_ .char (4 : Int32) [(.int c0_), (.int c1_), (.int c2_), (.int c3_)] (.int 0)) :
  Meets1 l ym6 method_3_code 2 (some .boolean) ws ({ frames := 1, cells := 0, slots := 0, locals := 13 } : Room) #[(.ref x0_), (.int 0)] Z h0 (fun v h L => ∃ r : Int32, v = some (.int r) ∧ Fr n0 L ∧ h = h0 ∧ ((r = 1 ∧ own_pl c0_) ∨ (r = 0 ∧ ¬ own_pl c0_))) := by
 refine MetFree.of_bodySF (plainFor_of_name pn22) hisR ?_
 intro p e s m args below meth c s₁ Bd hml0 hP hK
 obtain ⟨rfl, hZ, hh⟩ := hP
 have hx := Bd.exec
 have hby := Bd.bytes
 have hml : c.maxLocals = 2 := hml0
 have hown : s.vm.findClass "com/example/ratatoskr/ratatoskr/core/internal/StringInputSkipPlainRunPinLaw" = some m.cls := findClass_of_methodNamed Bd.named
 have hnm := (name_of_methodNamed Bd.named Bd.method).1
 have X0 : Stand p l e ({ frames := 1, cells := 0, slots := 0, locals := 13 } : Room) s m #[(.ref x0_), (.int 0)] below meth c s₁ [] 0 0 := Stand.of_body Bd
 have e0 : s₁.heap = h0 := by rw [← hh, Bd.state]; rfl
 have N0 := Fr.nil n0
 have Z0 := own_old_le O0
 show Ends _ _ _ _ s₁ (entryFrame m #[(.ref x0_), (.int 0)] 2) ({ frames := 1, cells := 0, slots := 0, locals := 13 } : Room).cells ({ frames := 1, cells := 0, slots := 0, locals := 13 } : Room).slots (fun v h L => ∃ r : Int32, v = some (.int r) ∧ Fr n0 L ∧ h = h0 ∧ ((r = 1 ∧ own_pl c0_) ∨ (r = 0 ∧ ¬ own_pl c0_)))
 refine Ends.go (fun _ k => castTop (ef22_ri m x0_ (0 : Int32)) k) ?_
 have K0 := Keep.refl h0 []
 refine wilN X0 hx hby d22_0 rfl ?_
 refine wic X0 hx hby d22_1 ?_
 refine wcn X0 hx hby d22_2 (tlt (by decide : (0 : Int32) < (4 : Int32))).2.1 ?_
 refine walN X0 hx hby d22_5 rfl rfl ?_
 show Ends _ _ _ _ s₁ (mkF m 6 #[cr x0_, ci 0] [(.ref x0_)]) _ _ _
 refine wilN X0 hx hby d22_6 rfl ?_
 obtain ⟨cl37, Ar37, q37, S37, M37, H37, G37⟩ := id Vx
 have hin37 := inb_of (j := (0 : Int32)) S37 ⟨by decide, by decide⟩
 refine Ends.go (X0.caload hx (j := (0 : Int32)) (v := (.int c0_)) (by rw [e0]; exact Ar37.1) (State.isArrayOf_alike hZ.alike Ar37.2.1) Ar37.2.2 hin37 (H37.at hin37 rfl) (g := (mkF m 7 #[cr x0_, ci 0] [(.int 0), (.ref x0_)])) rfl rfl (hb hby d22_7)) ?_
 obtain ⟨_, _, ⟨T38, L38, k38, n38⟩, -, X38, ⟨Lc38, hQ38, l38, y38, z38⟩, st38⟩ := Jvm.LawKit.callS X0 hx (y := ym5) hown (mvT hZ (ow hw 119 rfl)) (mvT hZ (ow hw 120 rfl)) (mvT hZ (ow hw 117 rfl)) (mvT hZ (ow hw 121 rfl)) (by decide) (own_backOf (W := 0) (rmPl l Z a0 hw [] n0 h0 O0 c0_) hZ (ow hw 121 rfl) (ow hw 117 rfl) (by decide) (by decide)) (g := (mkF m 8 #[cr x0_, ci 0] [(.int c0_)])) rfl (by rw [hml]; rfl) (argsL := [(.int c0_)]) (rest := []) (lenOf pdx_0 rfl) rfl (by show 2 * 0 + _ ≤ _; exact Nat.le_of_eq rfl) (hb hby d22_8) (fun _ _ => ⟨rfl, e0, (by decide : 0 + 0 ≤ _), (by decide : 0 + 0 ≤ _)⟩)
 dsimp only [Pt.U, Pt.locs, Pt.cells, Pt.slots] at X38 l38 y38 z38 st38 hQ38
 subst l38 y38 z38
 obtain ⟨r38, rfl, N38q, e38q, hr38⟩ := hQ38
 have N38 := Fr.app N0 N38q
 refine Ends.go st38 ?_
 rcases hr38 with ⟨rfl, hP38⟩ | ⟨rfl, hP38⟩
 ·show Ends _ _ _ _ T38 (mkF m 11 #[cr x0_, ci 0] [(.int 1)]) _ _ _
  refine win X38 hx hby d22_11 ((if0 _ _).trans (feq (by decide : ¬ ((1 : Int32) = (0 : Int32)))).1) ?_
  show Ends _ _ _ _ T38 (mkF m 14 #[cr x0_, ci 0] []) _ _ _
  refine wic X38 hx hby d22_14 ?_
  refine wgo (pc := 15) (pc' := 19) X38 hx hby d22_15 (by decide) (by decide) ?_
  refine Ends.retZ X38 hx Bd.notSynchronized (t := .boolean) Bd.returns (by simp) (hb hby d22_19) (by decide) (by decide) ?_
  exact ⟨(1 : Int32), rfl, N38, e38q, Or.inl ⟨rfl, hP38⟩⟩
 ·show Ends _ _ _ _ T38 (mkF m 11 #[cr x0_, ci 0] [(.int 0)]) _ _ _
  refine wiy (pc := 11) (pc' := 18) X38 hx hby d22_11 ((if0 _ _).trans (teq (by decide : (0 : Int32) = (0 : Int32))).1) (by decide) (by decide) ?_
  refine wic X38 hx hby d22_18 ?_
  show Ends _ _ _ _ T38 (mkF m 19 #[cr x0_, ci 0] [(.int 0)]) _ _ _
  refine Ends.retZ X38 hx Bd.notSynchronized (t := .boolean) Bd.returns (by simp) (hb hby d22_19) (by decide) (by decide) ?_
  exact ⟨(0 : Int32), rfl, N38, e38q, Or.inr ⟨rfl, hP38⟩⟩
set_option maxRecDepth 65536 in
set_option maxHeartbeats 40000000 in
theorem rm_plainAt_1 (l : Launch) (Z : State) (a0 : Array Value) (hw : ∀ d ∈ tables_1, d.before a0 Z = true) (ws : List Jvm.Cond) (n0 : Nat) (h0 : Heap) (O0 : Old Z n0 h0)  (x0_ : Addr) (kx_ : ClassId) (c0_ c1_ c2_ c3_ : Int32) (Vx : Arv Z h0 x0_ kx_ .char (4 : Int32) [(.int c0_), (.int c1_), (.int c2_), (.int c3_)] (.int 0)) :
  Meets1 l ym6 method_3_code 2 (some .boolean) ws ({ frames := 1, cells := 0, slots := 0, locals := 13 } : Room) #[(.ref x0_), (.int 1)] Z h0 (fun v h L => ∃ r : Int32, v = some (.int r) ∧ Fr n0 L ∧ h = h0 ∧ ((r = 1 ∧ own_pl c1_) ∨ (r = 0 ∧ ¬ own_pl c1_))) := by
 refine MetFree.of_bodySF (plainFor_of_name pn22) hisR ?_
 intro p e s m args below meth c s₁ Bd hml0 hP hK
 obtain ⟨rfl, hZ, hh⟩ := hP
 have hx := Bd.exec
 have hby := Bd.bytes
 have hml : c.maxLocals = 2 := hml0
 have hown : s.vm.findClass "com/example/ratatoskr/ratatoskr/core/internal/StringInputSkipPlainRunPinLaw" = some m.cls := findClass_of_methodNamed Bd.named
 have hnm := (name_of_methodNamed Bd.named Bd.method).1
 have X0 : Stand p l e ({ frames := 1, cells := 0, slots := 0, locals := 13 } : Room) s m #[(.ref x0_), (.int 1)] below meth c s₁ [] 0 0 := Stand.of_body Bd
 have e0 : s₁.heap = h0 := by rw [← hh, Bd.state]; rfl
 have N0 := Fr.nil n0
 have Z0 := own_old_le O0
 show Ends _ _ _ _ s₁ (entryFrame m #[(.ref x0_), (.int 1)] 2) ({ frames := 1, cells := 0, slots := 0, locals := 13 } : Room).cells ({ frames := 1, cells := 0, slots := 0, locals := 13 } : Room).slots (fun v h L => ∃ r : Int32, v = some (.int r) ∧ Fr n0 L ∧ h = h0 ∧ ((r = 1 ∧ own_pl c1_) ∨ (r = 0 ∧ ¬ own_pl c1_)))
 refine Ends.go (fun _ k => castTop (ef22_ri m x0_ (1 : Int32)) k) ?_
 have K0 := Keep.refl h0 []
 refine wilN X0 hx hby d22_0 rfl ?_
 refine wic X0 hx hby d22_1 ?_
 refine wcn X0 hx hby d22_2 (tlt (by decide : (1 : Int32) < (4 : Int32))).2.1 ?_
 refine walN X0 hx hby d22_5 rfl rfl ?_
 show Ends _ _ _ _ s₁ (mkF m 6 #[cr x0_, ci 1] [(.ref x0_)]) _ _ _
 refine wilN X0 hx hby d22_6 rfl ?_
 obtain ⟨cl39, Ar39, q39, S39, M39, H39, G39⟩ := id Vx
 have hin39 := inb_of (j := (1 : Int32)) S39 ⟨by decide, by decide⟩
 refine Ends.go (X0.caload hx (j := (1 : Int32)) (v := (.int c1_)) (by rw [e0]; exact Ar39.1) (State.isArrayOf_alike hZ.alike Ar39.2.1) Ar39.2.2 hin39 (H39.at hin39 rfl) (g := (mkF m 7 #[cr x0_, ci 1] [(.int 1), (.ref x0_)])) rfl rfl (hb hby d22_7)) ?_
 obtain ⟨_, _, ⟨T40, L40, k40, n40⟩, -, X40, ⟨Lc40, hQ40, l40, y40, z40⟩, st40⟩ := Jvm.LawKit.callS X0 hx (y := ym5) hown (mvT hZ (ow hw 119 rfl)) (mvT hZ (ow hw 120 rfl)) (mvT hZ (ow hw 117 rfl)) (mvT hZ (ow hw 121 rfl)) (by decide) (own_backOf (W := 0) (rmPl l Z a0 hw [] n0 h0 O0 c1_) hZ (ow hw 121 rfl) (ow hw 117 rfl) (by decide) (by decide)) (g := (mkF m 8 #[cr x0_, ci 1] [(.int c1_)])) rfl (by rw [hml]; rfl) (argsL := [(.int c1_)]) (rest := []) (lenOf pdx_0 rfl) rfl (by show 2 * 0 + _ ≤ _; exact Nat.le_of_eq rfl) (hb hby d22_8) (fun _ _ => ⟨rfl, e0, (by decide : 0 + 0 ≤ _), (by decide : 0 + 0 ≤ _)⟩)
 dsimp only [Pt.U, Pt.locs, Pt.cells, Pt.slots] at X40 l40 y40 z40 st40 hQ40
 subst l40 y40 z40
 obtain ⟨r40, rfl, N40q, e40q, hr40⟩ := hQ40
 have N40 := Fr.app N0 N40q
 refine Ends.go st40 ?_
 rcases hr40 with ⟨rfl, hP40⟩ | ⟨rfl, hP40⟩
 ·show Ends _ _ _ _ T40 (mkF m 11 #[cr x0_, ci 1] [(.int 1)]) _ _ _
  refine win X40 hx hby d22_11 ((if0 _ _).trans (feq (by decide : ¬ ((1 : Int32) = (0 : Int32)))).1) ?_
  show Ends _ _ _ _ T40 (mkF m 14 #[cr x0_, ci 1] []) _ _ _
  refine wic X40 hx hby d22_14 ?_
  refine wgo (pc := 15) (pc' := 19) X40 hx hby d22_15 (by decide) (by decide) ?_
  refine Ends.retZ X40 hx Bd.notSynchronized (t := .boolean) Bd.returns (by simp) (hb hby d22_19) (by decide) (by decide) ?_
  exact ⟨(1 : Int32), rfl, N40, e40q, Or.inl ⟨rfl, hP40⟩⟩
 ·show Ends _ _ _ _ T40 (mkF m 11 #[cr x0_, ci 1] [(.int 0)]) _ _ _
  refine wiy (pc := 11) (pc' := 18) X40 hx hby d22_11 ((if0 _ _).trans (teq (by decide : (0 : Int32) = (0 : Int32))).1) (by decide) (by decide) ?_
  refine wic X40 hx hby d22_18 ?_
  show Ends _ _ _ _ T40 (mkF m 19 #[cr x0_, ci 1] [(.int 0)]) _ _ _
  refine Ends.retZ X40 hx Bd.notSynchronized (t := .boolean) Bd.returns (by simp) (hb hby d22_19) (by decide) (by decide) ?_
  exact ⟨(0 : Int32), rfl, N40, e40q, Or.inr ⟨rfl, hP40⟩⟩
set_option maxRecDepth 65536 in
set_option maxHeartbeats 40000000 in
theorem rm_plainAt_2 (l : Launch) (Z : State) (a0 : Array Value) (hw : ∀ d ∈ tables_1, d.before a0 Z = true) (ws : List Jvm.Cond) (n0 : Nat) (h0 : Heap) (O0 : Old Z n0 h0)  (x0_ : Addr) (kx_ : ClassId) (c0_ c1_ c2_ c3_ : Int32) (Vx : Arv Z h0 x0_ kx_ .char (4 : Int32) [(.int c0_), (.int c1_), (.int c2_), (.int c3_)] (.int 0)) :
  Meets1 l ym6 method_3_code 2 (some .boolean) ws ({ frames := 1, cells := 0, slots := 0, locals := 13 } : Room) #[(.ref x0_), (.int 2)] Z h0 (fun v h L => ∃ r : Int32, v = some (.int r) ∧ Fr n0 L ∧ h = h0 ∧ ((r = 1 ∧ own_pl c2_) ∨ (r = 0 ∧ ¬ own_pl c2_))) := by
 refine MetFree.of_bodySF (plainFor_of_name pn22) hisR ?_
 intro p e s m args below meth c s₁ Bd hml0 hP hK
 obtain ⟨rfl, hZ, hh⟩ := hP
 have hx := Bd.exec
 have hby := Bd.bytes
 have hml : c.maxLocals = 2 := hml0
 have hown : s.vm.findClass "com/example/ratatoskr/ratatoskr/core/internal/StringInputSkipPlainRunPinLaw" = some m.cls := findClass_of_methodNamed Bd.named
 have hnm := (name_of_methodNamed Bd.named Bd.method).1
 have X0 : Stand p l e ({ frames := 1, cells := 0, slots := 0, locals := 13 } : Room) s m #[(.ref x0_), (.int 2)] below meth c s₁ [] 0 0 := Stand.of_body Bd
 have e0 : s₁.heap = h0 := by rw [← hh, Bd.state]; rfl
 have N0 := Fr.nil n0
 have Z0 := own_old_le O0
 show Ends _ _ _ _ s₁ (entryFrame m #[(.ref x0_), (.int 2)] 2) ({ frames := 1, cells := 0, slots := 0, locals := 13 } : Room).cells ({ frames := 1, cells := 0, slots := 0, locals := 13 } : Room).slots (fun v h L => ∃ r : Int32, v = some (.int r) ∧ Fr n0 L ∧ h = h0 ∧ ((r = 1 ∧ own_pl c2_) ∨ (r = 0 ∧ ¬ own_pl c2_)))
 refine Ends.go (fun _ k => castTop (ef22_ri m x0_ (2 : Int32)) k) ?_
 have K0 := Keep.refl h0 []
 refine wilN X0 hx hby d22_0 rfl ?_
 refine wic X0 hx hby d22_1 ?_
 refine wcn X0 hx hby d22_2 (tlt (by decide : (2 : Int32) < (4 : Int32))).2.1 ?_
 refine walN X0 hx hby d22_5 rfl rfl ?_
 show Ends _ _ _ _ s₁ (mkF m 6 #[cr x0_, ci 2] [(.ref x0_)]) _ _ _
 refine wilN X0 hx hby d22_6 rfl ?_
 obtain ⟨cl41, Ar41, q41, S41, M41, H41, G41⟩ := id Vx
 have hin41 := inb_of (j := (2 : Int32)) S41 ⟨by decide, by decide⟩
 refine Ends.go (X0.caload hx (j := (2 : Int32)) (v := (.int c2_)) (by rw [e0]; exact Ar41.1) (State.isArrayOf_alike hZ.alike Ar41.2.1) Ar41.2.2 hin41 (H41.at hin41 rfl) (g := (mkF m 7 #[cr x0_, ci 2] [(.int 2), (.ref x0_)])) rfl rfl (hb hby d22_7)) ?_
 obtain ⟨_, _, ⟨T42, L42, k42, n42⟩, -, X42, ⟨Lc42, hQ42, l42, y42, z42⟩, st42⟩ := Jvm.LawKit.callS X0 hx (y := ym5) hown (mvT hZ (ow hw 119 rfl)) (mvT hZ (ow hw 120 rfl)) (mvT hZ (ow hw 117 rfl)) (mvT hZ (ow hw 121 rfl)) (by decide) (own_backOf (W := 0) (rmPl l Z a0 hw [] n0 h0 O0 c2_) hZ (ow hw 121 rfl) (ow hw 117 rfl) (by decide) (by decide)) (g := (mkF m 8 #[cr x0_, ci 2] [(.int c2_)])) rfl (by rw [hml]; rfl) (argsL := [(.int c2_)]) (rest := []) (lenOf pdx_0 rfl) rfl (by show 2 * 0 + _ ≤ _; exact Nat.le_of_eq rfl) (hb hby d22_8) (fun _ _ => ⟨rfl, e0, (by decide : 0 + 0 ≤ _), (by decide : 0 + 0 ≤ _)⟩)
 dsimp only [Pt.U, Pt.locs, Pt.cells, Pt.slots] at X42 l42 y42 z42 st42 hQ42
 subst l42 y42 z42
 obtain ⟨r42, rfl, N42q, e42q, hr42⟩ := hQ42
 have N42 := Fr.app N0 N42q
 refine Ends.go st42 ?_
 rcases hr42 with ⟨rfl, hP42⟩ | ⟨rfl, hP42⟩
 ·show Ends _ _ _ _ T42 (mkF m 11 #[cr x0_, ci 2] [(.int 1)]) _ _ _
  refine win X42 hx hby d22_11 ((if0 _ _).trans (feq (by decide : ¬ ((1 : Int32) = (0 : Int32)))).1) ?_
  show Ends _ _ _ _ T42 (mkF m 14 #[cr x0_, ci 2] []) _ _ _
  refine wic X42 hx hby d22_14 ?_
  refine wgo (pc := 15) (pc' := 19) X42 hx hby d22_15 (by decide) (by decide) ?_
  refine Ends.retZ X42 hx Bd.notSynchronized (t := .boolean) Bd.returns (by simp) (hb hby d22_19) (by decide) (by decide) ?_
  exact ⟨(1 : Int32), rfl, N42, e42q, Or.inl ⟨rfl, hP42⟩⟩
 ·show Ends _ _ _ _ T42 (mkF m 11 #[cr x0_, ci 2] [(.int 0)]) _ _ _
  refine wiy (pc := 11) (pc' := 18) X42 hx hby d22_11 ((if0 _ _).trans (teq (by decide : (0 : Int32) = (0 : Int32))).1) (by decide) (by decide) ?_
  refine wic X42 hx hby d22_18 ?_
  show Ends _ _ _ _ T42 (mkF m 19 #[cr x0_, ci 2] [(.int 0)]) _ _ _
  refine Ends.retZ X42 hx Bd.notSynchronized (t := .boolean) Bd.returns (by simp) (hb hby d22_19) (by decide) (by decide) ?_
  exact ⟨(0 : Int32), rfl, N42, e42q, Or.inr ⟨rfl, hP42⟩⟩
set_option maxRecDepth 65536 in
set_option maxHeartbeats 40000000 in
theorem rm_plainAt_3 (l : Launch) (Z : State) (a0 : Array Value) (hw : ∀ d ∈ tables_1, d.before a0 Z = true) (ws : List Jvm.Cond) (n0 : Nat) (h0 : Heap) (O0 : Old Z n0 h0)  (x0_ : Addr) (kx_ : ClassId) (c0_ c1_ c2_ c3_ : Int32) (Vx : Arv Z h0 x0_ kx_ .char (4 : Int32) [(.int c0_), (.int c1_), (.int c2_), (.int c3_)] (.int 0)) :
  Meets1 l ym6 method_3_code 2 (some .boolean) ws ({ frames := 1, cells := 0, slots := 0, locals := 13 } : Room) #[(.ref x0_), (.int 3)] Z h0 (fun v h L => ∃ r : Int32, v = some (.int r) ∧ Fr n0 L ∧ h = h0 ∧ ((r = 1 ∧ own_pl c3_) ∨ (r = 0 ∧ ¬ own_pl c3_))) := by
 refine MetFree.of_bodySF (plainFor_of_name pn22) hisR ?_
 intro p e s m args below meth c s₁ Bd hml0 hP hK
 obtain ⟨rfl, hZ, hh⟩ := hP
 have hx := Bd.exec
 have hby := Bd.bytes
 have hml : c.maxLocals = 2 := hml0
 have hown : s.vm.findClass "com/example/ratatoskr/ratatoskr/core/internal/StringInputSkipPlainRunPinLaw" = some m.cls := findClass_of_methodNamed Bd.named
 have hnm := (name_of_methodNamed Bd.named Bd.method).1
 have X0 : Stand p l e ({ frames := 1, cells := 0, slots := 0, locals := 13 } : Room) s m #[(.ref x0_), (.int 3)] below meth c s₁ [] 0 0 := Stand.of_body Bd
 have e0 : s₁.heap = h0 := by rw [← hh, Bd.state]; rfl
 have N0 := Fr.nil n0
 have Z0 := own_old_le O0
 show Ends _ _ _ _ s₁ (entryFrame m #[(.ref x0_), (.int 3)] 2) ({ frames := 1, cells := 0, slots := 0, locals := 13 } : Room).cells ({ frames := 1, cells := 0, slots := 0, locals := 13 } : Room).slots (fun v h L => ∃ r : Int32, v = some (.int r) ∧ Fr n0 L ∧ h = h0 ∧ ((r = 1 ∧ own_pl c3_) ∨ (r = 0 ∧ ¬ own_pl c3_)))
 refine Ends.go (fun _ k => castTop (ef22_ri m x0_ (3 : Int32)) k) ?_
 have K0 := Keep.refl h0 []
 refine wilN X0 hx hby d22_0 rfl ?_
 refine wic X0 hx hby d22_1 ?_
 refine wcn X0 hx hby d22_2 (tlt (by decide : (3 : Int32) < (4 : Int32))).2.1 ?_
 refine walN X0 hx hby d22_5 rfl rfl ?_
 show Ends _ _ _ _ s₁ (mkF m 6 #[cr x0_, ci 3] [(.ref x0_)]) _ _ _
 refine wilN X0 hx hby d22_6 rfl ?_
 obtain ⟨cl43, Ar43, q43, S43, M43, H43, G43⟩ := id Vx
 have hin43 := inb_of (j := (3 : Int32)) S43 ⟨by decide, by decide⟩
 refine Ends.go (X0.caload hx (j := (3 : Int32)) (v := (.int c3_)) (by rw [e0]; exact Ar43.1) (State.isArrayOf_alike hZ.alike Ar43.2.1) Ar43.2.2 hin43 (H43.at hin43 rfl) (g := (mkF m 7 #[cr x0_, ci 3] [(.int 3), (.ref x0_)])) rfl rfl (hb hby d22_7)) ?_
 obtain ⟨_, _, ⟨T44, L44, k44, n44⟩, -, X44, ⟨Lc44, hQ44, l44, y44, z44⟩, st44⟩ := Jvm.LawKit.callS X0 hx (y := ym5) hown (mvT hZ (ow hw 119 rfl)) (mvT hZ (ow hw 120 rfl)) (mvT hZ (ow hw 117 rfl)) (mvT hZ (ow hw 121 rfl)) (by decide) (own_backOf (W := 0) (rmPl l Z a0 hw [] n0 h0 O0 c3_) hZ (ow hw 121 rfl) (ow hw 117 rfl) (by decide) (by decide)) (g := (mkF m 8 #[cr x0_, ci 3] [(.int c3_)])) rfl (by rw [hml]; rfl) (argsL := [(.int c3_)]) (rest := []) (lenOf pdx_0 rfl) rfl (by show 2 * 0 + _ ≤ _; exact Nat.le_of_eq rfl) (hb hby d22_8) (fun _ _ => ⟨rfl, e0, (by decide : 0 + 0 ≤ _), (by decide : 0 + 0 ≤ _)⟩)
 dsimp only [Pt.U, Pt.locs, Pt.cells, Pt.slots] at X44 l44 y44 z44 st44 hQ44
 subst l44 y44 z44
 obtain ⟨r44, rfl, N44q, e44q, hr44⟩ := hQ44
 have N44 := Fr.app N0 N44q
 refine Ends.go st44 ?_
 rcases hr44 with ⟨rfl, hP44⟩ | ⟨rfl, hP44⟩
 ·show Ends _ _ _ _ T44 (mkF m 11 #[cr x0_, ci 3] [(.int 1)]) _ _ _
  refine win X44 hx hby d22_11 ((if0 _ _).trans (feq (by decide : ¬ ((1 : Int32) = (0 : Int32)))).1) ?_
  show Ends _ _ _ _ T44 (mkF m 14 #[cr x0_, ci 3] []) _ _ _
  refine wic X44 hx hby d22_14 ?_
  refine wgo (pc := 15) (pc' := 19) X44 hx hby d22_15 (by decide) (by decide) ?_
  refine Ends.retZ X44 hx Bd.notSynchronized (t := .boolean) Bd.returns (by simp) (hb hby d22_19) (by decide) (by decide) ?_
  exact ⟨(1 : Int32), rfl, N44, e44q, Or.inl ⟨rfl, hP44⟩⟩
 ·show Ends _ _ _ _ T44 (mkF m 11 #[cr x0_, ci 3] [(.int 0)]) _ _ _
  refine wiy (pc := 11) (pc' := 18) X44 hx hby d22_11 ((if0 _ _).trans (teq (by decide : (0 : Int32) = (0 : Int32))).1) (by decide) (by decide) ?_
  refine wic X44 hx hby d22_18 ?_
  show Ends _ _ _ _ T44 (mkF m 19 #[cr x0_, ci 3] [(.int 0)]) _ _ _
  refine Ends.retZ X44 hx Bd.notSynchronized (t := .boolean) Bd.returns (by simp) (hb hby d22_19) (by decide) (by decide) ?_
  exact ⟨(0 : Int32), rfl, N44, e44q, Or.inr ⟨rfl, hP44⟩⟩
theorem d36_0 : decode method_4_code 0 = .ok (.iload_n 1, 1) := by decide +kernel
theorem d36_1 : decode method_4_code 1 = .ok (.iconst 4, 1) := by decide +kernel
theorem d36_2 : decode method_4_code 2 = .ok (.if_icmp .ge 16, 3) := by decide +kernel
theorem d36_5 : decode method_4_code 5 = .ok (.aload_n 0, 1) := by decide +kernel
theorem d36_6 : decode method_4_code 6 = .ok (.iload_n 1, 1) := by decide +kernel
theorem d36_7 : decode method_4_code 7 = .ok (.caload, 1) := by decide +kernel
theorem d36_8 : decode method_4_code 8 = .ok (.sipush 128, 3) := by decide +kernel
theorem d36_11 : decode method_4_code 11 = .ok (.if_icmp .ge 7, 3) := by decide +kernel
theorem d36_14 : decode method_4_code 14 = .ok (.iconst 1, 1) := by decide +kernel
theorem d36_15 : decode method_4_code 15 = .ok (.goto 4, 3) := by decide +kernel
theorem d36_18 : decode method_4_code 18 = .ok (.iconst 0, 1) := by decide +kernel
theorem d36_19 : decode method_4_code 19 = .ok (.ireturn, 1) := by decide +kernel
theorem pn36 : plainName "com/example/ratatoskr/ratatoskr/core/internal/StringInputSkipPlainRunPinLaw" = true := by first | (simp [plainName, overriddenIn]; done) | decide +kernel
theorem ef36_ri (m : MethodId) (x0 : Addr) (x1 : Int32) : entryFrame m #[(.ref x0), (.int x1)] 2 = mkF m 0 #[.val (.ref x0), .val (.int x1)] [] := by first | (simp [entryFrame, mkF, argsToLocals, Value.category]; done) | rfl
set_option maxRecDepth 65536 in
set_option maxHeartbeats 40000000 in
theorem rm_asciiAt_0 (l : Launch) (Z : State) (a0 : Array Value) (hw : ∀ d ∈ tables_1, d.before a0 Z = true) (ws : List Jvm.Cond) (n0 : Nat) (h0 : Heap) (O0 : Old Z n0 h0)  (x0_ : Addr) (kx_ : ClassId) (c0_ c1_ c2_ c3_ : Int32) (Vx : Arv Z h0 x0_ kx_ .char (4 : Int32) [(.int c0_), (.int c1_), (.int c2_), (.int c3_)] (.int 0)) :
  Meets1 l ym7 method_4_code 2 (some .boolean) ws ({ frames := 0, cells := 0, slots := 0, locals := 0 } : Room) #[(.ref x0_), (.int 0)] Z h0 (fun v h L => ∃ r : Int32, v = some (.int r) ∧ Fr n0 L ∧ h = h0 ∧ ((r = 1 ∧ c0_ < (128 : Int32)) ∨ (r = 0 ∧ ¬ c0_ < (128 : Int32)))) := by
 refine MetFree.of_bodySF (plainFor_of_name pn36) hisR ?_
 intro p e s m args below meth c s₁ Bd hml0 hP hK
 obtain ⟨rfl, hZ, hh⟩ := hP
 have hx := Bd.exec
 have hby := Bd.bytes
 have hml : c.maxLocals = 2 := hml0
 have hown : s.vm.findClass "com/example/ratatoskr/ratatoskr/core/internal/StringInputSkipPlainRunPinLaw" = some m.cls := findClass_of_methodNamed Bd.named
 have hnm := (name_of_methodNamed Bd.named Bd.method).1
 have X0 : Stand p l e ({ frames := 0, cells := 0, slots := 0, locals := 0 } : Room) s m #[(.ref x0_), (.int 0)] below meth c s₁ [] 0 0 := Stand.of_body Bd
 have e0 : s₁.heap = h0 := by rw [← hh, Bd.state]; rfl
 have N0 := Fr.nil n0
 have Z0 := own_old_le O0
 show Ends _ _ _ _ s₁ (entryFrame m #[(.ref x0_), (.int 0)] 2) ({ frames := 0, cells := 0, slots := 0, locals := 0 } : Room).cells ({ frames := 0, cells := 0, slots := 0, locals := 0 } : Room).slots (fun v h L => ∃ r : Int32, v = some (.int r) ∧ Fr n0 L ∧ h = h0 ∧ ((r = 1 ∧ c0_ < (128 : Int32)) ∨ (r = 0 ∧ ¬ c0_ < (128 : Int32))))
 refine Ends.go (fun _ k => castTop (ef36_ri m x0_ (0 : Int32)) k) ?_
 have K0 := Keep.refl h0 []
 refine wilN X0 hx hby d36_0 rfl ?_
 refine wic X0 hx hby d36_1 ?_
 refine wcn X0 hx hby d36_2 (tlt (by decide : (0 : Int32) < (4 : Int32))).2.1 ?_
 refine walN X0 hx hby d36_5 rfl rfl ?_
 show Ends _ _ _ _ s₁ (mkF m 6 #[cr x0_, ci 0] [(.ref x0_)]) _ _ _
 refine wilN X0 hx hby d36_6 rfl ?_
 obtain ⟨cl45, Ar45, q45, S45, M45, H45, G45⟩ := id Vx
 have hin45 := inb_of (j := (0 : Int32)) S45 ⟨by decide, by decide⟩
 refine Ends.go (X0.caload hx (j := (0 : Int32)) (v := (.int c0_)) (by rw [e0]; exact Ar45.1) (State.isArrayOf_alike hZ.alike Ar45.2.1) Ar45.2.2 hin45 (H45.at hin45 rfl) (g := (mkF m 7 #[cr x0_, ci 0] [(.int 0), (.ref x0_)])) rfl rfl (hb hby d36_7)) ?_
 refine wsp X0 hx hby d36_8 ?_
 by_cases hc11_46 : c0_ < (128 : Int32)
 ·refine wcn X0 hx hby d36_11 (tlt hc11_46).2.1 ?_
  refine wic X0 hx hby d36_14 ?_
  show Ends _ _ _ _ s₁ (mkF m 15 #[cr x0_, ci 0] [(.int 1)]) _ _ _
  refine wgo (pc := 15) (pc' := 19) X0 hx hby d36_15 (by decide) (by decide) ?_
  refine Ends.retZ X0 hx Bd.notSynchronized (t := .boolean) Bd.returns (by simp) (hb hby d36_19) (by decide) (by decide) ?_
  exact ⟨(1 : Int32), rfl, N0, e0, Or.inl ⟨rfl, hc11_46⟩⟩
 ·refine wcy (pc := 11) (pc' := 18) X0 hx hby d36_11 (flt hc11_46).2.1 (by decide) (by decide) ?_
  refine wic X0 hx hby d36_18 ?_
  refine Ends.retZ X0 hx Bd.notSynchronized (t := .boolean) Bd.returns (by simp) (hb hby d36_19) (by decide) (by decide) ?_
  exact ⟨(0 : Int32), rfl, N0, e0, Or.inr ⟨rfl, hc11_46⟩⟩
set_option maxRecDepth 65536 in
set_option maxHeartbeats 40000000 in
theorem rm_asciiAt_1 (l : Launch) (Z : State) (a0 : Array Value) (hw : ∀ d ∈ tables_1, d.before a0 Z = true) (ws : List Jvm.Cond) (n0 : Nat) (h0 : Heap) (O0 : Old Z n0 h0)  (x0_ : Addr) (kx_ : ClassId) (c0_ c1_ c2_ c3_ : Int32) (Vx : Arv Z h0 x0_ kx_ .char (4 : Int32) [(.int c0_), (.int c1_), (.int c2_), (.int c3_)] (.int 0)) :
  Meets1 l ym7 method_4_code 2 (some .boolean) ws ({ frames := 0, cells := 0, slots := 0, locals := 0 } : Room) #[(.ref x0_), (.int 1)] Z h0 (fun v h L => ∃ r : Int32, v = some (.int r) ∧ Fr n0 L ∧ h = h0 ∧ ((r = 1 ∧ c1_ < (128 : Int32)) ∨ (r = 0 ∧ ¬ c1_ < (128 : Int32)))) := by
 refine MetFree.of_bodySF (plainFor_of_name pn36) hisR ?_
 intro p e s m args below meth c s₁ Bd hml0 hP hK
 obtain ⟨rfl, hZ, hh⟩ := hP
 have hx := Bd.exec
 have hby := Bd.bytes
 have hml : c.maxLocals = 2 := hml0
 have hown : s.vm.findClass "com/example/ratatoskr/ratatoskr/core/internal/StringInputSkipPlainRunPinLaw" = some m.cls := findClass_of_methodNamed Bd.named
 have hnm := (name_of_methodNamed Bd.named Bd.method).1
 have X0 : Stand p l e ({ frames := 0, cells := 0, slots := 0, locals := 0 } : Room) s m #[(.ref x0_), (.int 1)] below meth c s₁ [] 0 0 := Stand.of_body Bd
 have e0 : s₁.heap = h0 := by rw [← hh, Bd.state]; rfl
 have N0 := Fr.nil n0
 have Z0 := own_old_le O0
 show Ends _ _ _ _ s₁ (entryFrame m #[(.ref x0_), (.int 1)] 2) ({ frames := 0, cells := 0, slots := 0, locals := 0 } : Room).cells ({ frames := 0, cells := 0, slots := 0, locals := 0 } : Room).slots (fun v h L => ∃ r : Int32, v = some (.int r) ∧ Fr n0 L ∧ h = h0 ∧ ((r = 1 ∧ c1_ < (128 : Int32)) ∨ (r = 0 ∧ ¬ c1_ < (128 : Int32))))
 refine Ends.go (fun _ k => castTop (ef36_ri m x0_ (1 : Int32)) k) ?_
 have K0 := Keep.refl h0 []
 refine wilN X0 hx hby d36_0 rfl ?_
 refine wic X0 hx hby d36_1 ?_
 refine wcn X0 hx hby d36_2 (tlt (by decide : (1 : Int32) < (4 : Int32))).2.1 ?_
 refine walN X0 hx hby d36_5 rfl rfl ?_
 show Ends _ _ _ _ s₁ (mkF m 6 #[cr x0_, ci 1] [(.ref x0_)]) _ _ _
 refine wilN X0 hx hby d36_6 rfl ?_
 obtain ⟨cl47, Ar47, q47, S47, M47, H47, G47⟩ := id Vx
 have hin47 := inb_of (j := (1 : Int32)) S47 ⟨by decide, by decide⟩
 refine Ends.go (X0.caload hx (j := (1 : Int32)) (v := (.int c1_)) (by rw [e0]; exact Ar47.1) (State.isArrayOf_alike hZ.alike Ar47.2.1) Ar47.2.2 hin47 (H47.at hin47 rfl) (g := (mkF m 7 #[cr x0_, ci 1] [(.int 1), (.ref x0_)])) rfl rfl (hb hby d36_7)) ?_
 refine wsp X0 hx hby d36_8 ?_
 by_cases hc11_48 : c1_ < (128 : Int32)
 ·refine wcn X0 hx hby d36_11 (tlt hc11_48).2.1 ?_
  refine wic X0 hx hby d36_14 ?_
  show Ends _ _ _ _ s₁ (mkF m 15 #[cr x0_, ci 1] [(.int 1)]) _ _ _
  refine wgo (pc := 15) (pc' := 19) X0 hx hby d36_15 (by decide) (by decide) ?_
  refine Ends.retZ X0 hx Bd.notSynchronized (t := .boolean) Bd.returns (by simp) (hb hby d36_19) (by decide) (by decide) ?_
  exact ⟨(1 : Int32), rfl, N0, e0, Or.inl ⟨rfl, hc11_48⟩⟩
 ·refine wcy (pc := 11) (pc' := 18) X0 hx hby d36_11 (flt hc11_48).2.1 (by decide) (by decide) ?_
  refine wic X0 hx hby d36_18 ?_
  refine Ends.retZ X0 hx Bd.notSynchronized (t := .boolean) Bd.returns (by simp) (hb hby d36_19) (by decide) (by decide) ?_
  exact ⟨(0 : Int32), rfl, N0, e0, Or.inr ⟨rfl, hc11_48⟩⟩
set_option maxRecDepth 65536 in
set_option maxHeartbeats 40000000 in
theorem rm_asciiAt_2 (l : Launch) (Z : State) (a0 : Array Value) (hw : ∀ d ∈ tables_1, d.before a0 Z = true) (ws : List Jvm.Cond) (n0 : Nat) (h0 : Heap) (O0 : Old Z n0 h0)  (x0_ : Addr) (kx_ : ClassId) (c0_ c1_ c2_ c3_ : Int32) (Vx : Arv Z h0 x0_ kx_ .char (4 : Int32) [(.int c0_), (.int c1_), (.int c2_), (.int c3_)] (.int 0)) :
  Meets1 l ym7 method_4_code 2 (some .boolean) ws ({ frames := 0, cells := 0, slots := 0, locals := 0 } : Room) #[(.ref x0_), (.int 2)] Z h0 (fun v h L => ∃ r : Int32, v = some (.int r) ∧ Fr n0 L ∧ h = h0 ∧ ((r = 1 ∧ c2_ < (128 : Int32)) ∨ (r = 0 ∧ ¬ c2_ < (128 : Int32)))) := by
 refine MetFree.of_bodySF (plainFor_of_name pn36) hisR ?_
 intro p e s m args below meth c s₁ Bd hml0 hP hK
 obtain ⟨rfl, hZ, hh⟩ := hP
 have hx := Bd.exec
 have hby := Bd.bytes
 have hml : c.maxLocals = 2 := hml0
 have hown : s.vm.findClass "com/example/ratatoskr/ratatoskr/core/internal/StringInputSkipPlainRunPinLaw" = some m.cls := findClass_of_methodNamed Bd.named
 have hnm := (name_of_methodNamed Bd.named Bd.method).1
 have X0 : Stand p l e ({ frames := 0, cells := 0, slots := 0, locals := 0 } : Room) s m #[(.ref x0_), (.int 2)] below meth c s₁ [] 0 0 := Stand.of_body Bd
 have e0 : s₁.heap = h0 := by rw [← hh, Bd.state]; rfl
 have N0 := Fr.nil n0
 have Z0 := own_old_le O0
 show Ends _ _ _ _ s₁ (entryFrame m #[(.ref x0_), (.int 2)] 2) ({ frames := 0, cells := 0, slots := 0, locals := 0 } : Room).cells ({ frames := 0, cells := 0, slots := 0, locals := 0 } : Room).slots (fun v h L => ∃ r : Int32, v = some (.int r) ∧ Fr n0 L ∧ h = h0 ∧ ((r = 1 ∧ c2_ < (128 : Int32)) ∨ (r = 0 ∧ ¬ c2_ < (128 : Int32))))
 refine Ends.go (fun _ k => castTop (ef36_ri m x0_ (2 : Int32)) k) ?_
 have K0 := Keep.refl h0 []
 refine wilN X0 hx hby d36_0 rfl ?_
 refine wic X0 hx hby d36_1 ?_
 refine wcn X0 hx hby d36_2 (tlt (by decide : (2 : Int32) < (4 : Int32))).2.1 ?_
 refine walN X0 hx hby d36_5 rfl rfl ?_
 show Ends _ _ _ _ s₁ (mkF m 6 #[cr x0_, ci 2] [(.ref x0_)]) _ _ _
 refine wilN X0 hx hby d36_6 rfl ?_
 obtain ⟨cl49, Ar49, q49, S49, M49, H49, G49⟩ := id Vx
 have hin49 := inb_of (j := (2 : Int32)) S49 ⟨by decide, by decide⟩
 refine Ends.go (X0.caload hx (j := (2 : Int32)) (v := (.int c2_)) (by rw [e0]; exact Ar49.1) (State.isArrayOf_alike hZ.alike Ar49.2.1) Ar49.2.2 hin49 (H49.at hin49 rfl) (g := (mkF m 7 #[cr x0_, ci 2] [(.int 2), (.ref x0_)])) rfl rfl (hb hby d36_7)) ?_
 refine wsp X0 hx hby d36_8 ?_
 by_cases hc11_50 : c2_ < (128 : Int32)
 ·refine wcn X0 hx hby d36_11 (tlt hc11_50).2.1 ?_
  refine wic X0 hx hby d36_14 ?_
  show Ends _ _ _ _ s₁ (mkF m 15 #[cr x0_, ci 2] [(.int 1)]) _ _ _
  refine wgo (pc := 15) (pc' := 19) X0 hx hby d36_15 (by decide) (by decide) ?_
  refine Ends.retZ X0 hx Bd.notSynchronized (t := .boolean) Bd.returns (by simp) (hb hby d36_19) (by decide) (by decide) ?_
  exact ⟨(1 : Int32), rfl, N0, e0, Or.inl ⟨rfl, hc11_50⟩⟩
 ·refine wcy (pc := 11) (pc' := 18) X0 hx hby d36_11 (flt hc11_50).2.1 (by decide) (by decide) ?_
  refine wic X0 hx hby d36_18 ?_
  refine Ends.retZ X0 hx Bd.notSynchronized (t := .boolean) Bd.returns (by simp) (hb hby d36_19) (by decide) (by decide) ?_
  exact ⟨(0 : Int32), rfl, N0, e0, Or.inr ⟨rfl, hc11_50⟩⟩
set_option maxRecDepth 65536 in
set_option maxHeartbeats 40000000 in
theorem rm_asciiAt_3 (l : Launch) (Z : State) (a0 : Array Value) (hw : ∀ d ∈ tables_1, d.before a0 Z = true) (ws : List Jvm.Cond) (n0 : Nat) (h0 : Heap) (O0 : Old Z n0 h0)  (x0_ : Addr) (kx_ : ClassId) (c0_ c1_ c2_ c3_ : Int32) (Vx : Arv Z h0 x0_ kx_ .char (4 : Int32) [(.int c0_), (.int c1_), (.int c2_), (.int c3_)] (.int 0)) :
  Meets1 l ym7 method_4_code 2 (some .boolean) ws ({ frames := 0, cells := 0, slots := 0, locals := 0 } : Room) #[(.ref x0_), (.int 3)] Z h0 (fun v h L => ∃ r : Int32, v = some (.int r) ∧ Fr n0 L ∧ h = h0 ∧ ((r = 1 ∧ c3_ < (128 : Int32)) ∨ (r = 0 ∧ ¬ c3_ < (128 : Int32)))) := by
 refine MetFree.of_bodySF (plainFor_of_name pn36) hisR ?_
 intro p e s m args below meth c s₁ Bd hml0 hP hK
 obtain ⟨rfl, hZ, hh⟩ := hP
 have hx := Bd.exec
 have hby := Bd.bytes
 have hml : c.maxLocals = 2 := hml0
 have hown : s.vm.findClass "com/example/ratatoskr/ratatoskr/core/internal/StringInputSkipPlainRunPinLaw" = some m.cls := findClass_of_methodNamed Bd.named
 have hnm := (name_of_methodNamed Bd.named Bd.method).1
 have X0 : Stand p l e ({ frames := 0, cells := 0, slots := 0, locals := 0 } : Room) s m #[(.ref x0_), (.int 3)] below meth c s₁ [] 0 0 := Stand.of_body Bd
 have e0 : s₁.heap = h0 := by rw [← hh, Bd.state]; rfl
 have N0 := Fr.nil n0
 have Z0 := own_old_le O0
 show Ends _ _ _ _ s₁ (entryFrame m #[(.ref x0_), (.int 3)] 2) ({ frames := 0, cells := 0, slots := 0, locals := 0 } : Room).cells ({ frames := 0, cells := 0, slots := 0, locals := 0 } : Room).slots (fun v h L => ∃ r : Int32, v = some (.int r) ∧ Fr n0 L ∧ h = h0 ∧ ((r = 1 ∧ c3_ < (128 : Int32)) ∨ (r = 0 ∧ ¬ c3_ < (128 : Int32))))
 refine Ends.go (fun _ k => castTop (ef36_ri m x0_ (3 : Int32)) k) ?_
 have K0 := Keep.refl h0 []
 refine wilN X0 hx hby d36_0 rfl ?_
 refine wic X0 hx hby d36_1 ?_
 refine wcn X0 hx hby d36_2 (tlt (by decide : (3 : Int32) < (4 : Int32))).2.1 ?_
 refine walN X0 hx hby d36_5 rfl rfl ?_
 show Ends _ _ _ _ s₁ (mkF m 6 #[cr x0_, ci 3] [(.ref x0_)]) _ _ _
 refine wilN X0 hx hby d36_6 rfl ?_
 obtain ⟨cl51, Ar51, q51, S51, M51, H51, G51⟩ := id Vx
 have hin51 := inb_of (j := (3 : Int32)) S51 ⟨by decide, by decide⟩
 refine Ends.go (X0.caload hx (j := (3 : Int32)) (v := (.int c3_)) (by rw [e0]; exact Ar51.1) (State.isArrayOf_alike hZ.alike Ar51.2.1) Ar51.2.2 hin51 (H51.at hin51 rfl) (g := (mkF m 7 #[cr x0_, ci 3] [(.int 3), (.ref x0_)])) rfl rfl (hb hby d36_7)) ?_
 refine wsp X0 hx hby d36_8 ?_
 by_cases hc11_52 : c3_ < (128 : Int32)
 ·refine wcn X0 hx hby d36_11 (tlt hc11_52).2.1 ?_
  refine wic X0 hx hby d36_14 ?_
  show Ends _ _ _ _ s₁ (mkF m 15 #[cr x0_, ci 3] [(.int 1)]) _ _ _
  refine wgo (pc := 15) (pc' := 19) X0 hx hby d36_15 (by decide) (by decide) ?_
  refine Ends.retZ X0 hx Bd.notSynchronized (t := .boolean) Bd.returns (by simp) (hb hby d36_19) (by decide) (by decide) ?_
  exact ⟨(1 : Int32), rfl, N0, e0, Or.inl ⟨rfl, hc11_52⟩⟩
 ·refine wcy (pc := 11) (pc' := 18) X0 hx hby d36_11 (flt hc11_52).2.1 (by decide) (by decide) ?_
  refine wic X0 hx hby d36_18 ?_
  refine Ends.retZ X0 hx Bd.notSynchronized (t := .boolean) Bd.returns (by simp) (hb hby d36_19) (by decide) (by decide) ?_
  exact ⟨(0 : Int32), rfl, N0, e0, Or.inr ⟨rfl, hc11_52⟩⟩
theorem d21_0 : decode prog_85_method_6_code 0 = .ok (.aload_n 0, 1) := by decide +kernel
theorem d21_1 : decode prog_85_method_6_code 1 = .ok (.getfield 25, 3) := by decide +kernel
theorem d21_4 : decode prog_85_method_6_code 4 = .ok (.astore 4, 2) := by decide +kernel
theorem d21_6 : decode prog_85_method_6_code 6 = .ok (.aload_n 0, 1) := by decide +kernel
theorem d21_7 : decode prog_85_method_6_code 7 = .ok (.getfield 29, 3) := by decide +kernel
theorem d21_10 : decode prog_85_method_6_code 10 = .ok (.aload_n 0, 1) := by decide +kernel
theorem d21_11 : decode prog_85_method_6_code 11 = .ok (.getfield 37, 3) := by decide +kernel
theorem d21_14 : decode prog_85_method_6_code 14 = .ok (.isub, 1) := by decide +kernel
theorem d21_15 : decode prog_85_method_6_code 15 = .ok (.i2l, 1) := by decide +kernel
theorem d21_16 : decode prog_85_method_6_code 16 = .ok (.lload_n 1, 1) := by decide +kernel
theorem d21_17 : decode prog_85_method_6_code 17 = .ok (.lcmp, 1) := by decide +kernel
theorem d21_18 : decode prog_85_method_6_code 18 = .ok (.ifCond .le 13, 3) := by decide +kernel
theorem d21_21 : decode prog_85_method_6_code 21 = .ok (.aload_n 0, 1) := by decide +kernel
theorem d21_22 : decode prog_85_method_6_code 22 = .ok (.getfield 37, 3) := by decide +kernel
theorem d21_25 : decode prog_85_method_6_code 25 = .ok (.lload_n 1, 1) := by decide +kernel
theorem d21_26 : decode prog_85_method_6_code 26 = .ok (.l2i, 1) := by decide +kernel
theorem d21_27 : decode prog_85_method_6_code 27 = .ok (.iadd, 1) := by decide +kernel
theorem d21_28 : decode prog_85_method_6_code 28 = .ok (.goto 7, 3) := by decide +kernel
theorem d21_31 : decode prog_85_method_6_code 31 = .ok (.aload_n 0, 1) := by decide +kernel
theorem d21_32 : decode prog_85_method_6_code 32 = .ok (.getfield 29, 3) := by decide +kernel
theorem d21_35 : decode prog_85_method_6_code 35 = .ok (.istore 5, 2) := by decide +kernel
theorem d21_37 : decode prog_85_method_6_code 37 = .ok (.aload_n 0, 1) := by decide +kernel
theorem d21_38 : decode prog_85_method_6_code 38 = .ok (.getfield 37, 3) := by decide +kernel
theorem d21_41 : decode prog_85_method_6_code 41 = .ok (.istore 6, 2) := by decide +kernel
theorem d21_43 : decode prog_85_method_6_code 43 = .ok (.iconst 0, 1) := by decide +kernel
theorem d21_44 : decode prog_85_method_6_code 44 = .ok (.istore 7, 2) := by decide +kernel
theorem d21_46 : decode prog_85_method_6_code 46 = .ok (.iload 6, 2) := by decide +kernel
theorem d21_48 : decode prog_85_method_6_code 48 = .ok (.iload 5, 2) := by decide +kernel
theorem d21_50 : decode prog_85_method_6_code 50 = .ok (.if_icmp .ge 43, 3) := by decide +kernel
theorem d21_53 : decode prog_85_method_6_code 53 = .ok (.aload 4, 2) := by decide +kernel
theorem d21_55 : decode prog_85_method_6_code 55 = .ok (.iload 6, 2) := by decide +kernel
theorem d21_57 : decode prog_85_method_6_code 57 = .ok (.caload, 1) := by decide +kernel
theorem d21_58 : decode prog_85_method_6_code 58 = .ok (.dup, 1) := by decide +kernel
theorem d21_59 : decode prog_85_method_6_code 59 = .ok (.istore 8, 2) := by decide +kernel
theorem d21_61 : decode prog_85_method_6_code 61 = .ok (.bipush 32, 2) := by decide +kernel
theorem d21_63 : decode prog_85_method_6_code 63 = .ok (.if_icmp .lt 30, 3) := by decide +kernel
theorem d21_66 : decode prog_85_method_6_code 66 = .ok (.iload 8, 2) := by decide +kernel
theorem d21_68 : decode prog_85_method_6_code 68 = .ok (.bipush 34, 2) := by decide +kernel
theorem d21_70 : decode prog_85_method_6_code 70 = .ok (.if_icmp .eq 23, 3) := by decide +kernel
theorem d21_73 : decode prog_85_method_6_code 73 = .ok (.iload 8, 2) := by decide +kernel
theorem d21_75 : decode prog_85_method_6_code 75 = .ok (.bipush 92, 2) := by decide +kernel
theorem d21_77 : decode prog_85_method_6_code 77 = .ok (.if_icmp .eq 16, 3) := by decide +kernel
theorem d21_80 : decode prog_85_method_6_code 80 = .ok (.iload 7, 2) := by decide +kernel
theorem d21_82 : decode prog_85_method_6_code 82 = .ok (.iload 8, 2) := by decide +kernel
theorem d21_84 : decode prog_85_method_6_code 84 = .ok (.ior, 1) := by decide +kernel
theorem d21_85 : decode prog_85_method_6_code 85 = .ok (.istore 7, 2) := by decide +kernel
theorem d21_87 : decode prog_85_method_6_code 87 = .ok (.iinc 6 1, 3) := by decide +kernel
theorem d21_90 : decode prog_85_method_6_code 90 = .ok (.goto (-44), 3) := by decide +kernel
theorem d21_93 : decode prog_85_method_6_code 93 = .ok (.aload_n 0, 1) := by decide +kernel
theorem d21_94 : decode prog_85_method_6_code 94 = .ok (.dup, 1) := by decide +kernel
theorem d21_95 : decode prog_85_method_6_code 95 = .ok (.getfield 44, 3) := by decide +kernel
theorem d21_98 : decode prog_85_method_6_code 98 = .ok (.iload 7, 2) := by decide +kernel
theorem d21_100 : decode prog_85_method_6_code 100 = .ok (.sipush 128, 3) := by decide +kernel
theorem d21_103 : decode prog_85_method_6_code 103 = .ok (.if_icmp .ge 7, 3) := by decide +kernel
theorem d21_106 : decode prog_85_method_6_code 106 = .ok (.iconst 1, 1) := by decide +kernel
theorem d21_107 : decode prog_85_method_6_code 107 = .ok (.goto 4, 3) := by decide +kernel
theorem d21_110 : decode prog_85_method_6_code 110 = .ok (.iconst 0, 1) := by decide +kernel
theorem d21_111 : decode prog_85_method_6_code 111 = .ok (.iand, 1) := by decide +kernel
theorem d21_112 : decode prog_85_method_6_code 112 = .ok (.putfield 44, 3) := by decide +kernel
theorem d21_115 : decode prog_85_method_6_code 115 = .ok (.iload 6, 2) := by decide +kernel
theorem d21_117 : decode prog_85_method_6_code 117 = .ok (.aload_n 0, 1) := by decide +kernel
theorem d21_118 : decode prog_85_method_6_code 118 = .ok (.getfield 37, 3) := by decide +kernel
theorem d21_121 : decode prog_85_method_6_code 121 = .ok (.isub, 1) := by decide +kernel
theorem d21_122 : decode prog_85_method_6_code 122 = .ok (.istore 9, 2) := by decide +kernel
theorem d21_124 : decode prog_85_method_6_code 124 = .ok (.aload_n 0, 1) := by decide +kernel
theorem d21_125 : decode prog_85_method_6_code 125 = .ok (.iload 6, 2) := by decide +kernel
theorem d21_127 : decode prog_85_method_6_code 127 = .ok (.putfield 37, 3) := by decide +kernel
theorem d21_130 : decode prog_85_method_6_code 130 = .ok (.iload 9, 2) := by decide +kernel
theorem d21_132 : decode prog_85_method_6_code 132 = .ok (.i2l, 1) := by decide +kernel
theorem d21_133 : decode prog_85_method_6_code 133 = .ok (.lreturn, 1) := by decide +kernel
theorem pn21 : plainName "com/example/ratatoskr/ratatoskr/core/internal/StringInput" = true := by first | (simp [plainName, overriddenIn]; done) | decide +kernel
theorem ef21_rji (m : MethodId) (x0 : Addr) (x1 : Int64) (x2 : Int32) : entryFrame m #[(.ref x0), (.long x1), (.int x2)] 10 = mkF m 0 #[.val (.ref x0), .val (.long x1), .second, .val (.int x2), .unset, .unset, .unset, .unset, .unset, .unset] [] := by first | (simp [entryFrame, mkF, argsToLocals, Value.category]; done) | rfl
set_option maxRecDepth 65536 in
set_option maxHeartbeats 40000000 in
theorem rmS (l : Launch) (Z : State) (a0 : Array Value) (hw : ∀ d ∈ tables_1, d.before a0 Z = true) (ws : List Jvm.Cond) (n0 : Nat) (h0 : Heap) (O0 : Old Z n0 h0)  (o0 xa_ : Addr) (kxa_ : ClassId) (lv_ k_ : Int32) (q8_ : Int64) (c0_ c1_ c2_ c3_ : Int32) (g_o0 : n0 ≤ o0) (hox : o0 ≠ xa_) (E0 : Exa Z h0 o0 cSI) (Fl : Fld Z h0 o0 cSI "limit" "I" (.int 4)) (Fp : Fld Z h0 o0 cSI "position" "I" (.int k_)) (Fb : Fld Z h0 o0 cSI "base" "I" (.int 0)) (Fc : Fld Z h0 o0 cSI "chars" "[C" (.ref xa_)) (Fa : Fld Z h0 o0 cSI "ascii" "Z" (.int 1)) (Fd : Fld Z h0 o0 "com/example/ratatoskr/ratatoskr/core/internal/Input" "decoded" "Lcom/example/ratatoskr/ratatoskr/core/internal/DecodedChars;" .null) (Vx : Arv Z h0 xa_ kxa_ .char (4 : Int32) [(.int c0_), (.int c1_), (.int c2_), (.int c3_)] (.int 0)) (hk : k_ = 0 ∨ k_ = 1 ∨ k_ = 2 ∨ k_ = 3 ∨ k_ = 4) (hq8 : 0 ≤ q8_.toInt) (hc0_ : 0 ≤ c0_.toInt ∧ c0_.toInt < 65536) (hc1_ : 0 ≤ c1_.toInt ∧ c1_.toInt < 65536) (hc2_ : 0 ≤ c2_.toInt ∧ c2_.toInt < 65536) (hc3_ : 0 ≤ c3_.toInt ∧ c3_.toInt < 65536) :
  Meets1 l ym8 prog_85_method_6_code 10 (some .long) ws ({ frames := 0, cells := 0, slots := 0, locals := 0 } : Room) #[(.ref o0), (.long q8_), (.int lv_)] Z h0 (fun v h L => ∃ (n_ : Int32) (g_ : Int64) (p_ pl_ : Int32), v = some (.long g_) ∧ Fr n0 L ∧ Keep h0 h [o0] ∧ g_ = n_.toInt64 ∧ p_ = k_ + n_ ∧ Exa Z h o0 cSI ∧ Fld Z h o0 cSI "base" "I" (.int 0) ∧ Fld Z h o0 cSI "position" "I" (.int p_) ∧ Fld Z h o0 cSI "ascii" "Z" (.int pl_) ∧ Fld Z h o0 "com/example/ratatoskr/ratatoskr/core/internal/Input" "decoded" "Lcom/example/ratatoskr/ratatoskr/core/internal/DecodedChars;" .null ∧ own_run c0_ c1_ c2_ c3_ k_ (own_cap k_ q8_) n_ pl_) := by
 refine MetFree.of_bodySF (plainFor_of_name pn21) hisR ?_
 intro p e s m args below meth c s₁ Bd hml0 hP hK
 obtain ⟨rfl, hZ, hh⟩ := hP
 have hx := Bd.exec
 have hby := Bd.bytes
 have hml : c.maxLocals = 10 := hml0
 have hown : s.vm.findClass "com/example/ratatoskr/ratatoskr/core/internal/StringInput" = some m.cls := findClass_of_methodNamed Bd.named
 have hnm := (name_of_methodNamed Bd.named Bd.method).1
 have X0 : Stand p l e ({ frames := 0, cells := 0, slots := 0, locals := 0 } : Room) s m #[(.ref o0), (.long q8_), (.int lv_)] below meth c s₁ [] 0 0 := Stand.of_body Bd
 have e0 : s₁.heap = h0 := by rw [← hh, Bd.state]; rfl
 have N0 := Fr.nil n0
 have Z0 := own_old_le O0
 show Ends _ _ _ _ s₁ (entryFrame m #[(.ref o0), (.long q8_), (.int lv_)] 10) ({ frames := 0, cells := 0, slots := 0, locals := 0 } : Room).cells ({ frames := 0, cells := 0, slots := 0, locals := 0 } : Room).slots (fun v h L => ∃ (n_ : Int32) (g_ : Int64) (p_ pl_ : Int32), v = some (.long g_) ∧ Fr n0 L ∧ Keep h0 h [o0] ∧ g_ = n_.toInt64 ∧ p_ = k_ + n_ ∧ Exa Z h o0 cSI ∧ Fld Z h o0 cSI "base" "I" (.int 0) ∧ Fld Z h o0 cSI "position" "I" (.int p_) ∧ Fld Z h o0 cSI "ascii" "Z" (.int pl_) ∧ Fld Z h o0 "com/example/ratatoskr/ratatoskr/core/internal/Input" "decoded" "Lcom/example/ratatoskr/ratatoskr/core/internal/DecodedChars;" .null ∧ own_run c0_ c1_ c2_ c3_ k_ (own_cap k_ q8_) n_ pl_)
 refine Ends.go (fun _ k => castTop (ef21_rji m o0 q8_ lv_) k) ?_
 have K0 := Keep.refl h0 [o0]
 have J93u : ∀ (T9 : State) (lcs : List Loc) (e5_ : Int32) (i_ : Int32) (se_ : Int32) (X9 : Stand p l e ({ frames := 0, cells := 0, slots := 0, locals := 0 } : Room) s m #[(.ref o0), (.long q8_), (.int lv_)] below meth c T9 lcs 0 0) (eT9 : T9.heap = h0) (N9 : Fr n0 lcs) (hR : ∀ pl_ : Int32, ((pl_ = 1 ∧ se_ < (128 : Int32)) ∨ (pl_ = 0 ∧ ¬ se_ < (128 : Int32))) → own_run c0_ c1_ c2_ c3_ k_ (own_cap k_ q8_) (i_ - k_) pl_), Ends p e below s T9 (mkF m 93 #[cr o0, cj q8_, cs, ci lv_, cr xa_, ci e5_, ci i_, ci se_, cu, cu] []) ({ frames := 0, cells := 0, slots := 0, locals := 0 } : Room).cells ({ frames := 0, cells := 0, slots := 0, locals := 0 } : Room).slots (fun v h L => ∃ (n_ : Int32) (g_ : Int64) (p_ pl_ : Int32), v = some (.long g_) ∧ Fr n0 L ∧ Keep h0 h [o0] ∧ g_ = n_.toInt64 ∧ p_ = k_ + n_ ∧ Exa Z h o0 cSI ∧ Fld Z h o0 cSI "base" "I" (.int 0) ∧ Fld Z h o0 cSI "position" "I" (.int p_) ∧ Fld Z h o0 cSI "ascii" "Z" (.int pl_) ∧ Fld Z h o0 "com/example/ratatoskr/ratatoskr/core/internal/Input" "decoded" "Lcom/example/ratatoskr/ratatoskr/core/internal/DecodedChars;" .null ∧ own_run c0_ c1_ c2_ c3_ k_ (own_cap k_ q8_) n_ pl_) := by
  intro T9 lcs e5_ i_ se_ X9 eT9 N9 hR
  show Ends _ _ _ _ T9 (mkF m 93 #[cr o0, cj q8_, cs, ci lv_, cr xa_, ci e5_, ci i_, ci se_, cu, cu] []) _ _ _
  refine walN X9 hx hby d21_93 rfl rfl ?_
  refine wdu X9 hx hby d21_94 rfl ?_
  obtain ⟨T53, X53, e53, st53⟩ := getF X9 hx hZ hown (host := "") (Or.inl (ow hw 108 rfl)) Via.refl eT9 Fa (g := (mkF m 95 #[cr o0, cj q8_, cs, ci lv_, cr xa_, ci e5_, ci i_, ci se_, cu, cu] [(.ref o0), (.ref o0)])) rfl rfl (hb hby d21_95)
  refine Ends.go st53 ?_
  show Ends _ _ _ _ T53 (mkF m 98 #[cr o0, cj q8_, cs, ci lv_, cr xa_, ci e5_, ci i_, ci se_, cu, cu] [(.int 1), (.ref o0)]) _ _ _
  refine wil X53 hx hby d21_98 rfl ?_
  refine wsp X53 hx hby d21_100 ?_
  by_cases hc103_54 : se_ < (128 : Int32)
  ·refine wcn X53 hx hby d21_103 (tlt hc103_54).2.1 ?_
   refine wic X53 hx hby d21_106 ?_
   refine wgo (pc := 107) (pc' := 111) X53 hx hby d21_107 (by decide) (by decide) ?_
   show Ends _ _ _ _ T53 (mkF m 111 #[cr o0, cj q8_, cs, ci lv_, cr xa_, ci e5_, ci i_, ci se_, cu, cu] [(.int 1), (.int 1), (.ref o0)]) _ _ _
   refine wan X53 hx hby d21_111 ?_
   obtain ⟨T55, h55, X55, e55, W55, st55⟩ := putFN X53 hx hZ hown (ow hw 108 rfl) Via.refl e53 Fa E0 (Or.inl (ow hw 109 rfl)) (ow hw 5 rfl) (ty := .boolean) (v' := (.int 1)) (by decide) rfl (by decide) (g := (mkF m 112 #[cr o0, cj q8_, cs, ci lv_, cr xa_, ci e5_, ci i_, ci se_, cu, cu] [(.int 1), (.ref o0)])) rfl rfl (hb hby d21_112)
   refine Ends.go st55 ?_
   have Fw55 := Fa.same W55
   have K55 := K0.wr W55 (Or.inl (List.mem_of_getElem? (i := 0) rfl))
   have O55 := O0.wr W55 g_o0
   have N55 := Fr.snoc X55 N9 g_o0
   refine wil X55 hx hby d21_115 rfl ?_
   refine walN X55 hx hby d21_117 rfl rfl ?_
   obtain ⟨T56, X56, e56, st56⟩ := getF X55 hx hZ hown (host := "") (Or.inl (ow hw 104 rfl)) Via.refl e55 (Fp.other W55 (Or.inr (slot_ne (Or.inl (ow hw 105 rfl)) (Or.inl (ow hw 109 rfl)) (by decide) (t := .int) (t' := .boolean) (by decide) (by decide)))) (g := (mkF m 118 #[cr o0, cj q8_, cs, ci lv_, cr xa_, ci e5_, ci i_, ci se_, cu, cu] [(.ref o0), (.int i_)])) rfl rfl (hb hby d21_118)
   refine Ends.go st56 ?_
   show Ends _ _ _ _ T56 (mkF m 121 #[cr o0, cj q8_, cs, ci lv_, cr xa_, ci e5_, ci i_, ci se_, cu, cu] [(.int k_), (.int i_)]) _ _ _
   refine wis X56 hx hby d21_121 ?_
   refine wst X56 hx hby d21_122 (l' := #[cr o0, cj q8_, cs, ci lv_, cr xa_, ci e5_, ci i_, ci se_, cu, ci (i_ - k_)]) rfl ?_
   refine walN X56 hx hby d21_124 rfl rfl ?_
   refine wil X56 hx hby d21_125 rfl ?_
   obtain ⟨T57, h57, X57, e57, W57, st57⟩ := putF X56 hx hZ hown (host := "") (Or.inl (ow hw 104 rfl)) Via.refl e56 (Fp.other W55 (Or.inr (slot_ne (Or.inl (ow hw 105 rfl)) (Or.inl (ow hw 109 rfl)) (by decide) (t := .int) (t' := .boolean) (by decide) (by decide)))) (E0.wr W55) (Or.inl (ow hw 105 rfl)) (ow hw 5 rfl) (ty := .int) (by decide) rfl rfl (g := (mkF m 127 #[cr o0, cj q8_, cs, ci lv_, cr xa_, ci e5_, ci i_, ci se_, cu, ci (i_ - k_)] [(.int i_), (.ref o0)])) rfl rfl (hb hby d21_127)
   refine Ends.go st57 ?_
   have Fw57 := (Fp.other W55 (Or.inr (slot_ne (Or.inl (ow hw 105 rfl)) (Or.inl (ow hw 109 rfl)) (by decide) (t := .int) (t' := .boolean) (by decide) (by decide)))).same W57
   have K57 := K55.wr W57 (Or.inl (List.mem_of_getElem? (i := 0) rfl))
   have O57 := O55.wr W57 g_o0
   have N57 := Fr.snoc X57 N55 g_o0
   show Ends _ _ _ _ T57 (mkF m 130 #[cr o0, cj q8_, cs, ci lv_, cr xa_, ci e5_, ci i_, ci se_, cu, ci (i_ - k_)] []) _ _ _
   refine wil X57 hx hby d21_130 rfl ?_
   refine .go (fun _ => XS.i2l X57.here hx rfl (hb hby d21_132) rfl) ?_
   refine Ends.ret X57 hx Bd.notSynchronized (t := .long) Bd.returns rfl (Or.inr (Or.inl ⟨rfl, rfl, _, rfl⟩)) (hb hby d21_133) (by decide) (by decide) ?_
   rw [e57]
   exact ⟨(i_ - k_), ((i_ - k_).toInt64), i_, (1 : Int32), rfl, N57, K57, rfl, own_addsub, ((E0.wr W55).wr W57), ((Fb.other W55 (Or.inr (slot_ne (Or.inl (ow hw 103 rfl)) (Or.inl (ow hw 109 rfl)) (by decide) (t := .int) (t' := .boolean) (by decide) (by decide)))).other W57 (Or.inr (slot_ne (Or.inl (ow hw 103 rfl)) (Or.inl (ow hw 105 rfl)) (by decide) (t := .int) (t' := .int) (by decide) (by decide)))), Fw57, (Fw55.other W57 (Or.inr (slot_ne (Or.inl (ow hw 109 rfl)) (Or.inl (ow hw 105 rfl)) (by decide) (t := .boolean) (t' := .int) (by decide) (by decide)))), ((Fd.other W55 (Or.inr (slot_ne (Or.inl (ow hw 139 rfl)) (Or.inl (ow hw 109 rfl)) (by decide) (t := (.object "com/example/ratatoskr/ratatoskr/core/internal/DecodedChars")) (t' := .boolean) (by decide) (by decide)))).other W57 (Or.inr (slot_ne (Or.inl (ow hw 139 rfl)) (Or.inl (ow hw 105 rfl)) (by decide) (t := (.object "com/example/ratatoskr/ratatoskr/core/internal/DecodedChars")) (t' := .int) (by decide) (by decide)))), hR _ (Or.inl ⟨rfl, hc103_54⟩)⟩
  ·refine wcy (pc := 103) (pc' := 110) X53 hx hby d21_103 (flt hc103_54).2.1 (by decide) (by decide) ?_
   refine wic X53 hx hby d21_110 ?_
   refine wan X53 hx hby d21_111 ?_
   show Ends _ _ _ _ T53 (mkF m 112 #[cr o0, cj q8_, cs, ci lv_, cr xa_, ci e5_, ci i_, ci se_, cu, cu] [(.int 0), (.ref o0)]) _ _ _
   obtain ⟨T58, h58, X58, e58, W58, st58⟩ := putFN X53 hx hZ hown (ow hw 108 rfl) Via.refl e53 Fa E0 (Or.inl (ow hw 109 rfl)) (ow hw 5 rfl) (ty := .boolean) (v' := (.int 0)) (by decide) rfl (by decide) (g := (mkF m 112 #[cr o0, cj q8_, cs, ci lv_, cr xa_, ci e5_, ci i_, ci se_, cu, cu] [(.int 0), (.ref o0)])) rfl rfl (hb hby d21_112)
   refine Ends.go st58 ?_
   have Fw58 := Fa.same W58
   have K58 := K0.wr W58 (Or.inl (List.mem_of_getElem? (i := 0) rfl))
   have O58 := O0.wr W58 g_o0
   have N58 := Fr.snoc X58 N9 g_o0
   refine wil X58 hx hby d21_115 rfl ?_
   refine walN X58 hx hby d21_117 rfl rfl ?_
   obtain ⟨T59, X59, e59, st59⟩ := getF X58 hx hZ hown (host := "") (Or.inl (ow hw 104 rfl)) Via.refl e58 (Fp.other W58 (Or.inr (slot_ne (Or.inl (ow hw 105 rfl)) (Or.inl (ow hw 109 rfl)) (by decide) (t := .int) (t' := .boolean) (by decide) (by decide)))) (g := (mkF m 118 #[cr o0, cj q8_, cs, ci lv_, cr xa_, ci e5_, ci i_, ci se_, cu, cu] [(.ref o0), (.int i_)])) rfl rfl (hb hby d21_118)
   refine Ends.go st59 ?_
   refine wis X59 hx hby d21_121 ?_
   show Ends _ _ _ _ T59 (mkF m 122 #[cr o0, cj q8_, cs, ci lv_, cr xa_, ci e5_, ci i_, ci se_, cu, cu] [(.int (i_ - k_))]) _ _ _
   refine wst X59 hx hby d21_122 (l' := #[cr o0, cj q8_, cs, ci lv_, cr xa_, ci e5_, ci i_, ci se_, cu, ci (i_ - k_)]) rfl ?_
   refine walN X59 hx hby d21_124 rfl rfl ?_
   refine wil X59 hx hby d21_125 rfl ?_
   obtain ⟨T60, h60, X60, e60, W60, st60⟩ := putF X59 hx hZ hown (host := "") (Or.inl (ow hw 104 rfl)) Via.refl e59 (Fp.other W58 (Or.inr (slot_ne (Or.inl (ow hw 105 rfl)) (Or.inl (ow hw 109 rfl)) (by decide) (t := .int) (t' := .boolean) (by decide) (by decide)))) (E0.wr W58) (Or.inl (ow hw 105 rfl)) (ow hw 5 rfl) (ty := .int) (by decide) rfl rfl (g := (mkF m 127 #[cr o0, cj q8_, cs, ci lv_, cr xa_, ci e5_, ci i_, ci se_, cu, ci (i_ - k_)] [(.int i_), (.ref o0)])) rfl rfl (hb hby d21_127)
   refine Ends.go st60 ?_
   have Fw60 := (Fp.other W58 (Or.inr (slot_ne (Or.inl (ow hw 105 rfl)) (Or.inl (ow hw 109 rfl)) (by decide) (t := .int) (t' := .boolean) (by decide) (by decide)))).same W60
   have K60 := K58.wr W60 (Or.inl (List.mem_of_getElem? (i := 0) rfl))
   have O60 := O58.wr W60 g_o0
   have N60 := Fr.snoc X60 N58 g_o0
   refine wil X60 hx hby d21_130 rfl ?_
   show Ends _ _ _ _ T60 (mkF m 132 #[cr o0, cj q8_, cs, ci lv_, cr xa_, ci e5_, ci i_, ci se_, cu, ci (i_ - k_)] [(.int (i_ - k_))]) _ _ _
   refine .go (fun _ => XS.i2l X60.here hx rfl (hb hby d21_132) rfl) ?_
   refine Ends.ret X60 hx Bd.notSynchronized (t := .long) Bd.returns rfl (Or.inr (Or.inl ⟨rfl, rfl, _, rfl⟩)) (hb hby d21_133) (by decide) (by decide) ?_
   rw [e60]
   exact ⟨(i_ - k_), ((i_ - k_).toInt64), i_, (0 : Int32), rfl, N60, K60, rfl, own_addsub, ((E0.wr W58).wr W60), ((Fb.other W58 (Or.inr (slot_ne (Or.inl (ow hw 103 rfl)) (Or.inl (ow hw 109 rfl)) (by decide) (t := .int) (t' := .boolean) (by decide) (by decide)))).other W60 (Or.inr (slot_ne (Or.inl (ow hw 103 rfl)) (Or.inl (ow hw 105 rfl)) (by decide) (t := .int) (t' := .int) (by decide) (by decide)))), Fw60, (Fw58.other W60 (Or.inr (slot_ne (Or.inl (ow hw 109 rfl)) (Or.inl (ow hw 105 rfl)) (by decide) (t := .boolean) (t' := .int) (by decide) (by decide)))), ((Fd.other W58 (Or.inr (slot_ne (Or.inl (ow hw 139 rfl)) (Or.inl (ow hw 109 rfl)) (by decide) (t := (.object "com/example/ratatoskr/ratatoskr/core/internal/DecodedChars")) (t' := .boolean) (by decide) (by decide)))).other W60 (Or.inr (slot_ne (Or.inl (ow hw 139 rfl)) (Or.inl (ow hw 105 rfl)) (by decide) (t := (.object "com/example/ratatoskr/ratatoskr/core/internal/DecodedChars")) (t' := .int) (by decide) (by decide)))), hR _ (Or.inr ⟨rfl, hc103_54⟩)⟩
 have J93i : ∀ (T9 : State) (lcs : List Loc) (e5_ : Int32) (i_ : Int32) (se_ : Int32) (w8_ : Int32) (X9 : Stand p l e ({ frames := 0, cells := 0, slots := 0, locals := 0 } : Room) s m #[(.ref o0), (.long q8_), (.int lv_)] below meth c T9 lcs 0 0) (eT9 : T9.heap = h0) (N9 : Fr n0 lcs) (hR : ∀ pl_ : Int32, ((pl_ = 1 ∧ se_ < (128 : Int32)) ∨ (pl_ = 0 ∧ ¬ se_ < (128 : Int32))) → own_run c0_ c1_ c2_ c3_ k_ (own_cap k_ q8_) (i_ - k_) pl_), Ends p e below s T9 (mkF m 93 #[cr o0, cj q8_, cs, ci lv_, cr xa_, ci e5_, ci i_, ci se_, ci w8_, cu] []) ({ frames := 0, cells := 0, slots := 0, locals := 0 } : Room).cells ({ frames := 0, cells := 0, slots := 0, locals := 0 } : Room).slots (fun v h L => ∃ (n_ : Int32) (g_ : Int64) (p_ pl_ : Int32), v = some (.long g_) ∧ Fr n0 L ∧ Keep h0 h [o0] ∧ g_ = n_.toInt64 ∧ p_ = k_ + n_ ∧ Exa Z h o0 cSI ∧ Fld Z h o0 cSI "base" "I" (.int 0) ∧ Fld Z h o0 cSI "position" "I" (.int p_) ∧ Fld Z h o0 cSI "ascii" "Z" (.int pl_) ∧ Fld Z h o0 "com/example/ratatoskr/ratatoskr/core/internal/Input" "decoded" "Lcom/example/ratatoskr/ratatoskr/core/internal/DecodedChars;" .null ∧ own_run c0_ c1_ c2_ c3_ k_ (own_cap k_ q8_) n_ pl_) := by
  intro T9 lcs e5_ i_ se_ w8_ X9 eT9 N9 hR
  show Ends _ _ _ _ T9 (mkF m 93 #[cr o0, cj q8_, cs, ci lv_, cr xa_, ci e5_, ci i_, ci se_, ci w8_, cu] []) _ _ _
  refine walN X9 hx hby d21_93 rfl rfl ?_
  refine wdu X9 hx hby d21_94 rfl ?_
  obtain ⟨T61, X61, e61, st61⟩ := getF X9 hx hZ hown (host := "") (Or.inl (ow hw 108 rfl)) Via.refl eT9 Fa (g := (mkF m 95 #[cr o0, cj q8_, cs, ci lv_, cr xa_, ci e5_, ci i_, ci se_, ci w8_, cu] [(.ref o0), (.ref o0)])) rfl rfl (hb hby d21_95)
  refine Ends.go st61 ?_
  show Ends _ _ _ _ T61 (mkF m 98 #[cr o0, cj q8_, cs, ci lv_, cr xa_, ci e5_, ci i_, ci se_, ci w8_, cu] [(.int 1), (.ref o0)]) _ _ _
  refine wil X61 hx hby d21_98 rfl ?_
  refine wsp X61 hx hby d21_100 ?_
  by_cases hc103_62 : se_ < (128 : Int32)
  ·refine wcn X61 hx hby d21_103 (tlt hc103_62).2.1 ?_
   refine wic X61 hx hby d21_106 ?_
   refine wgo (pc := 107) (pc' := 111) X61 hx hby d21_107 (by decide) (by decide) ?_
   show Ends _ _ _ _ T61 (mkF m 111 #[cr o0, cj q8_, cs, ci lv_, cr xa_, ci e5_, ci i_, ci se_, ci w8_, cu] [(.int 1), (.int 1), (.ref o0)]) _ _ _
   refine wan X61 hx hby d21_111 ?_
   obtain ⟨T63, h63, X63, e63, W63, st63⟩ := putFN X61 hx hZ hown (ow hw 108 rfl) Via.refl e61 Fa E0 (Or.inl (ow hw 109 rfl)) (ow hw 5 rfl) (ty := .boolean) (v' := (.int 1)) (by decide) rfl (by decide) (g := (mkF m 112 #[cr o0, cj q8_, cs, ci lv_, cr xa_, ci e5_, ci i_, ci se_, ci w8_, cu] [(.int 1), (.ref o0)])) rfl rfl (hb hby d21_112)
   refine Ends.go st63 ?_
   have Fw63 := Fa.same W63
   have K63 := K0.wr W63 (Or.inl (List.mem_of_getElem? (i := 0) rfl))
   have O63 := O0.wr W63 g_o0
   have N63 := Fr.snoc X63 N9 g_o0
   refine wil X63 hx hby d21_115 rfl ?_
   refine walN X63 hx hby d21_117 rfl rfl ?_
   obtain ⟨T64, X64, e64, st64⟩ := getF X63 hx hZ hown (host := "") (Or.inl (ow hw 104 rfl)) Via.refl e63 (Fp.other W63 (Or.inr (slot_ne (Or.inl (ow hw 105 rfl)) (Or.inl (ow hw 109 rfl)) (by decide) (t := .int) (t' := .boolean) (by decide) (by decide)))) (g := (mkF m 118 #[cr o0, cj q8_, cs, ci lv_, cr xa_, ci e5_, ci i_, ci se_, ci w8_, cu] [(.ref o0), (.int i_)])) rfl rfl (hb hby d21_118)
   refine Ends.go st64 ?_
   show Ends _ _ _ _ T64 (mkF m 121 #[cr o0, cj q8_, cs, ci lv_, cr xa_, ci e5_, ci i_, ci se_, ci w8_, cu] [(.int k_), (.int i_)]) _ _ _
   refine wis X64 hx hby d21_121 ?_
   refine wst X64 hx hby d21_122 (l' := #[cr o0, cj q8_, cs, ci lv_, cr xa_, ci e5_, ci i_, ci se_, ci w8_, ci (i_ - k_)]) rfl ?_
   refine walN X64 hx hby d21_124 rfl rfl ?_
   refine wil X64 hx hby d21_125 rfl ?_
   obtain ⟨T65, h65, X65, e65, W65, st65⟩ := putF X64 hx hZ hown (host := "") (Or.inl (ow hw 104 rfl)) Via.refl e64 (Fp.other W63 (Or.inr (slot_ne (Or.inl (ow hw 105 rfl)) (Or.inl (ow hw 109 rfl)) (by decide) (t := .int) (t' := .boolean) (by decide) (by decide)))) (E0.wr W63) (Or.inl (ow hw 105 rfl)) (ow hw 5 rfl) (ty := .int) (by decide) rfl rfl (g := (mkF m 127 #[cr o0, cj q8_, cs, ci lv_, cr xa_, ci e5_, ci i_, ci se_, ci w8_, ci (i_ - k_)] [(.int i_), (.ref o0)])) rfl rfl (hb hby d21_127)
   refine Ends.go st65 ?_
   have Fw65 := (Fp.other W63 (Or.inr (slot_ne (Or.inl (ow hw 105 rfl)) (Or.inl (ow hw 109 rfl)) (by decide) (t := .int) (t' := .boolean) (by decide) (by decide)))).same W65
   have K65 := K63.wr W65 (Or.inl (List.mem_of_getElem? (i := 0) rfl))
   have O65 := O63.wr W65 g_o0
   have N65 := Fr.snoc X65 N63 g_o0
   show Ends _ _ _ _ T65 (mkF m 130 #[cr o0, cj q8_, cs, ci lv_, cr xa_, ci e5_, ci i_, ci se_, ci w8_, ci (i_ - k_)] []) _ _ _
   refine wil X65 hx hby d21_130 rfl ?_
   refine .go (fun _ => XS.i2l X65.here hx rfl (hb hby d21_132) rfl) ?_
   refine Ends.ret X65 hx Bd.notSynchronized (t := .long) Bd.returns rfl (Or.inr (Or.inl ⟨rfl, rfl, _, rfl⟩)) (hb hby d21_133) (by decide) (by decide) ?_
   rw [e65]
   exact ⟨(i_ - k_), ((i_ - k_).toInt64), i_, (1 : Int32), rfl, N65, K65, rfl, own_addsub, ((E0.wr W63).wr W65), ((Fb.other W63 (Or.inr (slot_ne (Or.inl (ow hw 103 rfl)) (Or.inl (ow hw 109 rfl)) (by decide) (t := .int) (t' := .boolean) (by decide) (by decide)))).other W65 (Or.inr (slot_ne (Or.inl (ow hw 103 rfl)) (Or.inl (ow hw 105 rfl)) (by decide) (t := .int) (t' := .int) (by decide) (by decide)))), Fw65, (Fw63.other W65 (Or.inr (slot_ne (Or.inl (ow hw 109 rfl)) (Or.inl (ow hw 105 rfl)) (by decide) (t := .boolean) (t' := .int) (by decide) (by decide)))), ((Fd.other W63 (Or.inr (slot_ne (Or.inl (ow hw 139 rfl)) (Or.inl (ow hw 109 rfl)) (by decide) (t := (.object "com/example/ratatoskr/ratatoskr/core/internal/DecodedChars")) (t' := .boolean) (by decide) (by decide)))).other W65 (Or.inr (slot_ne (Or.inl (ow hw 139 rfl)) (Or.inl (ow hw 105 rfl)) (by decide) (t := (.object "com/example/ratatoskr/ratatoskr/core/internal/DecodedChars")) (t' := .int) (by decide) (by decide)))), hR _ (Or.inl ⟨rfl, hc103_62⟩)⟩
  ·refine wcy (pc := 103) (pc' := 110) X61 hx hby d21_103 (flt hc103_62).2.1 (by decide) (by decide) ?_
   refine wic X61 hx hby d21_110 ?_
   refine wan X61 hx hby d21_111 ?_
   show Ends _ _ _ _ T61 (mkF m 112 #[cr o0, cj q8_, cs, ci lv_, cr xa_, ci e5_, ci i_, ci se_, ci w8_, cu] [(.int 0), (.ref o0)]) _ _ _
   obtain ⟨T66, h66, X66, e66, W66, st66⟩ := putFN X61 hx hZ hown (ow hw 108 rfl) Via.refl e61 Fa E0 (Or.inl (ow hw 109 rfl)) (ow hw 5 rfl) (ty := .boolean) (v' := (.int 0)) (by decide) rfl (by decide) (g := (mkF m 112 #[cr o0, cj q8_, cs, ci lv_, cr xa_, ci e5_, ci i_, ci se_, ci w8_, cu] [(.int 0), (.ref o0)])) rfl rfl (hb hby d21_112)
   refine Ends.go st66 ?_
   have Fw66 := Fa.same W66
   have K66 := K0.wr W66 (Or.inl (List.mem_of_getElem? (i := 0) rfl))
   have O66 := O0.wr W66 g_o0
   have N66 := Fr.snoc X66 N9 g_o0
   refine wil X66 hx hby d21_115 rfl ?_
   refine walN X66 hx hby d21_117 rfl rfl ?_
   obtain ⟨T67, X67, e67, st67⟩ := getF X66 hx hZ hown (host := "") (Or.inl (ow hw 104 rfl)) Via.refl e66 (Fp.other W66 (Or.inr (slot_ne (Or.inl (ow hw 105 rfl)) (Or.inl (ow hw 109 rfl)) (by decide) (t := .int) (t' := .boolean) (by decide) (by decide)))) (g := (mkF m 118 #[cr o0, cj q8_, cs, ci lv_, cr xa_, ci e5_, ci i_, ci se_, ci w8_, cu] [(.ref o0), (.int i_)])) rfl rfl (hb hby d21_118)
   refine Ends.go st67 ?_
   refine wis X67 hx hby d21_121 ?_
   show Ends _ _ _ _ T67 (mkF m 122 #[cr o0, cj q8_, cs, ci lv_, cr xa_, ci e5_, ci i_, ci se_, ci w8_, cu] [(.int (i_ - k_))]) _ _ _
   refine wst X67 hx hby d21_122 (l' := #[cr o0, cj q8_, cs, ci lv_, cr xa_, ci e5_, ci i_, ci se_, ci w8_, ci (i_ - k_)]) rfl ?_
   refine walN X67 hx hby d21_124 rfl rfl ?_
   refine wil X67 hx hby d21_125 rfl ?_
   obtain ⟨T68, h68, X68, e68, W68, st68⟩ := putF X67 hx hZ hown (host := "") (Or.inl (ow hw 104 rfl)) Via.refl e67 (Fp.other W66 (Or.inr (slot_ne (Or.inl (ow hw 105 rfl)) (Or.inl (ow hw 109 rfl)) (by decide) (t := .int) (t' := .boolean) (by decide) (by decide)))) (E0.wr W66) (Or.inl (ow hw 105 rfl)) (ow hw 5 rfl) (ty := .int) (by decide) rfl rfl (g := (mkF m 127 #[cr o0, cj q8_, cs, ci lv_, cr xa_, ci e5_, ci i_, ci se_, ci w8_, ci (i_ - k_)] [(.int i_), (.ref o0)])) rfl rfl (hb hby d21_127)
   refine Ends.go st68 ?_
   have Fw68 := (Fp.other W66 (Or.inr (slot_ne (Or.inl (ow hw 105 rfl)) (Or.inl (ow hw 109 rfl)) (by decide) (t := .int) (t' := .boolean) (by decide) (by decide)))).same W68
   have K68 := K66.wr W68 (Or.inl (List.mem_of_getElem? (i := 0) rfl))
   have O68 := O66.wr W68 g_o0
   have N68 := Fr.snoc X68 N66 g_o0
   refine wil X68 hx hby d21_130 rfl ?_
   show Ends _ _ _ _ T68 (mkF m 132 #[cr o0, cj q8_, cs, ci lv_, cr xa_, ci e5_, ci i_, ci se_, ci w8_, ci (i_ - k_)] [(.int (i_ - k_))]) _ _ _
   refine .go (fun _ => XS.i2l X68.here hx rfl (hb hby d21_132) rfl) ?_
   refine Ends.ret X68 hx Bd.notSynchronized (t := .long) Bd.returns rfl (Or.inr (Or.inl ⟨rfl, rfl, _, rfl⟩)) (hb hby d21_133) (by decide) (by decide) ?_
   rw [e68]
   exact ⟨(i_ - k_), ((i_ - k_).toInt64), i_, (0 : Int32), rfl, N68, K68, rfl, own_addsub, ((E0.wr W66).wr W68), ((Fb.other W66 (Or.inr (slot_ne (Or.inl (ow hw 103 rfl)) (Or.inl (ow hw 109 rfl)) (by decide) (t := .int) (t' := .boolean) (by decide) (by decide)))).other W68 (Or.inr (slot_ne (Or.inl (ow hw 103 rfl)) (Or.inl (ow hw 105 rfl)) (by decide) (t := .int) (t' := .int) (by decide) (by decide)))), Fw68, (Fw66.other W68 (Or.inr (slot_ne (Or.inl (ow hw 109 rfl)) (Or.inl (ow hw 105 rfl)) (by decide) (t := .boolean) (t' := .int) (by decide) (by decide)))), ((Fd.other W66 (Or.inr (slot_ne (Or.inl (ow hw 139 rfl)) (Or.inl (ow hw 109 rfl)) (by decide) (t := (.object "com/example/ratatoskr/ratatoskr/core/internal/DecodedChars")) (t' := .boolean) (by decide) (by decide)))).other W68 (Or.inr (slot_ne (Or.inl (ow hw 139 rfl)) (Or.inl (ow hw 105 rfl)) (by decide) (t := (.object "com/example/ratatoskr/ratatoskr/core/internal/DecodedChars")) (t' := .int) (by decide) (by decide)))), hR _ (Or.inr ⟨rfl, hc103_62⟩)⟩
 have J35 : ∀ (T8 : State) (lcs : List Loc) (e5_ : Int32) (X8 : Stand p l e ({ frames := 0, cells := 0, slots := 0, locals := 0 } : Room) s m #[(.ref o0), (.long q8_), (.int lv_)] below meth c T8 lcs 0 0) (eT8 : T8.heap = h0) (N8 : Fr n0 lcs) (he : e5_ = k_ + own_cap k_ q8_), Ends p e below s T8 (mkF m 35 #[cr o0, cj q8_, cs, ci lv_, cr xa_, cu, cu, cu, cu, cu] [(.int e5_)]) ({ frames := 0, cells := 0, slots := 0, locals := 0 } : Room).cells ({ frames := 0, cells := 0, slots := 0, locals := 0 } : Room).slots (fun v h L => ∃ (n_ : Int32) (g_ : Int64) (p_ pl_ : Int32), v = some (.long g_) ∧ Fr n0 L ∧ Keep h0 h [o0] ∧ g_ = n_.toInt64 ∧ p_ = k_ + n_ ∧ Exa Z h o0 cSI ∧ Fld Z h o0 cSI "base" "I" (.int 0) ∧ Fld Z h o0 cSI "position" "I" (.int p_) ∧ Fld Z h o0 cSI "ascii" "Z" (.int pl_) ∧ Fld Z h o0 "com/example/ratatoskr/ratatoskr/core/internal/Input" "decoded" "Lcom/example/ratatoskr/ratatoskr/core/internal/DecodedChars;" .null ∧ own_run c0_ c1_ c2_ c3_ k_ (own_cap k_ q8_) n_ pl_) := by
  intro T8 lcs e5_ X8 eT8 N8 he
  have hcb := own_capb hk hq8
  show Ends _ _ _ _ T8 (mkF m 35 #[cr o0, cj q8_, cs, ci lv_, cr xa_, cu, cu, cu, cu, cu] [(.int e5_)]) _ _ _
  refine wst X8 hx hby d21_35 (l' := #[cr o0, cj q8_, cs, ci lv_, cr xa_, ci e5_, cu, cu, cu, cu]) rfl ?_
  refine walN X8 hx hby d21_37 rfl rfl ?_
  obtain ⟨T69, X69, e69, st69⟩ := getF X8 hx hZ hown (host := "") (Or.inl (ow hw 104 rfl)) Via.refl eT8 Fp (g := (mkF m 38 #[cr o0, cj q8_, cs, ci lv_, cr xa_, ci e5_, cu, cu, cu, cu] [(.ref o0)])) rfl rfl (hb hby d21_38)
  refine Ends.go st69 ?_
  show Ends _ _ _ _ T69 (mkF m 41 #[cr o0, cj q8_, cs, ci lv_, cr xa_, ci e5_, cu, cu, cu, cu] [(.int k_)]) _ _ _
  refine wst X69 hx hby d21_41 (l' := #[cr o0, cj q8_, cs, ci lv_, cr xa_, ci e5_, ci k_, cu, cu, cu]) rfl ?_
  refine wic X69 hx hby d21_43 ?_
  refine wst X69 hx hby d21_44 (l' := #[cr o0, cj q8_, cs, ci lv_, cr xa_, ci e5_, ci k_, ci 0, cu, cu]) rfl ?_
  rcases hk with rfl | rfl | rfl | rfl | rfl
  ·show Ends _ _ _ _ T69 (mkF m 46 #[cr o0, cj q8_, cs, ci lv_, cr xa_, ci e5_, ci 0, ci 0, cu, cu] []) _ _ _
   refine wil X69 hx hby d21_46 rfl ?_
   show Ends _ _ _ _ T69 (mkF m 48 #[cr o0, cj q8_, cs, ci lv_, cr xa_, ci e5_, ci 0, ci 0, cu, cu] [(.int 0)]) _ _ _
   refine wil X69 hx hby d21_48 rfl ?_
   by_cases hc50_70 : (0 : Int32) < e5_
   ·refine wcn X69 hx hby d21_50 (tlt hc50_70).2.1 ?_
    refine wal X69 hx hby d21_53 rfl rfl ?_
    refine wil X69 hx hby d21_55 rfl ?_
    obtain ⟨cl71, Ar71, q71, S71, M71, H71, G71⟩ := id Vx
    have hin71 := inb_of (j := (0 : Int32)) S71 ⟨by decide, by decide⟩
    refine Ends.go (X69.caload hx (j := (0 : Int32)) (v := (.int c0_)) (by rw [e69]; exact Ar71.1) (State.isArrayOf_alike hZ.alike Ar71.2.1) Ar71.2.2 hin71 (H71.at hin71 rfl) (g := (mkF m 57 #[cr o0, cj q8_, cs, ci lv_, cr xa_, ci e5_, ci 0, ci 0, cu, cu] [(.int 0), (.ref xa_)])) rfl rfl (hb hby d21_57)) ?_
    show Ends _ _ _ _ T69 (mkF m 58 #[cr o0, cj q8_, cs, ci lv_, cr xa_, ci e5_, ci 0, ci 0, cu, cu] [(.int c0_)]) _ _ _
    refine wdu X69 hx hby d21_58 rfl ?_
    refine wst X69 hx hby d21_59 (l' := #[cr o0, cj q8_, cs, ci lv_, cr xa_, ci e5_, ci 0, ci 0, ci c0_, cu]) rfl ?_
    refine wbp X69 hx hby d21_61 ?_
    by_cases hc63_72 : c0_ < (32 : Int32)
    ·refine wcy (pc := 63) (pc' := 93) X69 hx hby d21_63 (tlt hc63_72).1 (by decide) (by decide) ?_
     exact J93i _ _ e5_ (0 : Int32) (0 : Int32) c0_ X69 e69 N8 (fun pl_ hp => (own_run_0 c0_ c1_ c2_ c3_ _ _ _).mpr (Or.inl ⟨by decide, Or.inr (fun q => q.1 hc63_72), own_iffasc own_seen0 hp⟩))
    ·refine wcn X69 hx hby d21_63 (flt hc63_72).1 ?_
     show Ends _ _ _ _ T69 (mkF m 66 #[cr o0, cj q8_, cs, ci lv_, cr xa_, ci e5_, ci 0, ci 0, ci c0_, cu] []) _ _ _
     refine wil X69 hx hby d21_66 rfl ?_
     refine wbp X69 hx hby d21_68 ?_
     by_cases hc70_73 : c0_ = (34 : Int32)
     ·refine wcy (pc := 70) (pc' := 93) X69 hx hby d21_70 (teq hc70_73).1 (by decide) (by decide) ?_
      exact J93i _ _ e5_ (0 : Int32) (0 : Int32) c0_ X69 e69 N8 (fun pl_ hp => (own_run_0 c0_ c1_ c2_ c3_ _ _ _).mpr (Or.inl ⟨by decide, Or.inr (fun q => q.2.1 hc70_73), own_iffasc own_seen0 hp⟩))
     ·refine wcn X69 hx hby d21_70 (feq hc70_73).1 ?_
      refine wil X69 hx hby d21_73 rfl ?_
      show Ends _ _ _ _ T69 (mkF m 75 #[cr o0, cj q8_, cs, ci lv_, cr xa_, ci e5_, ci 0, ci 0, ci c0_, cu] [(.int c0_)]) _ _ _
      refine wbp X69 hx hby d21_75 ?_
      by_cases hc77_74 : c0_ = (92 : Int32)
      ·refine wcy (pc := 77) (pc' := 93) X69 hx hby d21_77 (teq hc77_74).1 (by decide) (by decide) ?_
       exact J93i _ _ e5_ (0 : Int32) (0 : Int32) c0_ X69 e69 N8 (fun pl_ hp => (own_run_0 c0_ c1_ c2_ c3_ _ _ _).mpr (Or.inl ⟨by decide, Or.inr (fun q => q.2.2 hc77_74), own_iffasc own_seen0 hp⟩))
      ·refine wcn X69 hx hby d21_77 (feq hc77_74).1 ?_
       refine wil X69 hx hby d21_80 rfl ?_
       refine wil X69 hx hby d21_82 rfl ?_
       show Ends _ _ _ _ T69 (mkF m 84 #[cr o0, cj q8_, cs, ci lv_, cr xa_, ci e5_, ci 0, ci 0, ci c0_, cu] [(.int c0_), (.int 0)]) _ _ _
       refine .go (fun _ => XS.ior X69.here hx rfl (hb hby d21_84) rfl) ?_
       refine wst X69 hx hby d21_85 (l' := #[cr o0, cj q8_, cs, ci lv_, cr xa_, ci e5_, ci 0, ci ((0 : Int32) ||| c0_), ci c0_, cu]) rfl ?_
       refine wii X69 hx hby d21_87 (l' := #[cr o0, cj q8_, cs, ci lv_, cr xa_, ci e5_, ci 1, ci ((0 : Int32) ||| c0_), ci c0_, cu]) rfl rfl ?_
       refine wgo (pc := 90) (pc' := 46) X69 hx hby d21_90 (by decide) (by decide) ?_
       refine wil X69 hx hby d21_46 rfl ?_
       show Ends _ _ _ _ T69 (mkF m 48 #[cr o0, cj q8_, cs, ci lv_, cr xa_, ci e5_, ci 1, ci ((0 : Int32) ||| c0_), ci c0_, cu] [(.int 1)]) _ _ _
       refine wil X69 hx hby d21_48 rfl ?_
       by_cases hc50_75 : (1 : Int32) < e5_
       ·refine wcn X69 hx hby d21_50 (tlt hc50_75).2.1 ?_
        refine wal X69 hx hby d21_53 rfl rfl ?_
        refine wil X69 hx hby d21_55 rfl ?_
        obtain ⟨cl76, Ar76, q76, S76, M76, H76, G76⟩ := id Vx
        have hin76 := inb_of (j := (1 : Int32)) S76 ⟨by decide, by decide⟩
        refine Ends.go (X69.caload hx (j := (1 : Int32)) (v := (.int c1_)) (by rw [e69]; exact Ar76.1) (State.isArrayOf_alike hZ.alike Ar76.2.1) Ar76.2.2 hin76 (H76.at hin76 rfl) (g := (mkF m 57 #[cr o0, cj q8_, cs, ci lv_, cr xa_, ci e5_, ci 1, ci ((0 : Int32) ||| c0_), ci c0_, cu] [(.int 1), (.ref xa_)])) rfl rfl (hb hby d21_57)) ?_
        show Ends _ _ _ _ T69 (mkF m 58 #[cr o0, cj q8_, cs, ci lv_, cr xa_, ci e5_, ci 1, ci ((0 : Int32) ||| c0_), ci c0_, cu] [(.int c1_)]) _ _ _
        refine wdu X69 hx hby d21_58 rfl ?_
        refine wst X69 hx hby d21_59 (l' := #[cr o0, cj q8_, cs, ci lv_, cr xa_, ci e5_, ci 1, ci ((0 : Int32) ||| c0_), ci c1_, cu]) rfl ?_
        refine wbp X69 hx hby d21_61 ?_
        by_cases hc63_77 : c1_ < (32 : Int32)
        ·refine wcy (pc := 63) (pc' := 93) X69 hx hby d21_63 (tlt hc63_77).1 (by decide) (by decide) ?_
         exact J93i _ _ e5_ (1 : Int32) ((0 : Int32) ||| c0_) c1_ X69 e69 N8 (fun pl_ hp => (own_run_0 c0_ c1_ c2_ c3_ _ _ _).mpr (Or.inr (Or.inl ⟨by decide, ⟨(own_ce (by decide) hcb he (a := (0 : Int32)) (b := (1 : Int32)) (by decide)).mp hc50_70, hc63_72, hc70_73, hc77_74⟩, Or.inr (fun q => q.1 hc63_77), own_iffasc (own_seen1 hc0_) hp⟩)))
        ·refine wcn X69 hx hby d21_63 (flt hc63_77).1 ?_
         show Ends _ _ _ _ T69 (mkF m 66 #[cr o0, cj q8_, cs, ci lv_, cr xa_, ci e5_, ci 1, ci ((0 : Int32) ||| c0_), ci c1_, cu] []) _ _ _
         refine wil X69 hx hby d21_66 rfl ?_
         refine wbp X69 hx hby d21_68 ?_
         by_cases hc70_78 : c1_ = (34 : Int32)
         ·refine wcy (pc := 70) (pc' := 93) X69 hx hby d21_70 (teq hc70_78).1 (by decide) (by decide) ?_
          exact J93i _ _ e5_ (1 : Int32) ((0 : Int32) ||| c0_) c1_ X69 e69 N8 (fun pl_ hp => (own_run_0 c0_ c1_ c2_ c3_ _ _ _).mpr (Or.inr (Or.inl ⟨by decide, ⟨(own_ce (by decide) hcb he (a := (0 : Int32)) (b := (1 : Int32)) (by decide)).mp hc50_70, hc63_72, hc70_73, hc77_74⟩, Or.inr (fun q => q.2.1 hc70_78), own_iffasc (own_seen1 hc0_) hp⟩)))
         ·refine wcn X69 hx hby d21_70 (feq hc70_78).1 ?_
          refine wil X69 hx hby d21_73 rfl ?_
          show Ends _ _ _ _ T69 (mkF m 75 #[cr o0, cj q8_, cs, ci lv_, cr xa_, ci e5_, ci 1, ci ((0 : Int32) ||| c0_), ci c1_, cu] [(.int c1_)]) _ _ _
          refine wbp X69 hx hby d21_75 ?_
          by_cases hc77_79 : c1_ = (92 : Int32)
          ·refine wcy (pc := 77) (pc' := 93) X69 hx hby d21_77 (teq hc77_79).1 (by decide) (by decide) ?_
           exact J93i _ _ e5_ (1 : Int32) ((0 : Int32) ||| c0_) c1_ X69 e69 N8 (fun pl_ hp => (own_run_0 c0_ c1_ c2_ c3_ _ _ _).mpr (Or.inr (Or.inl ⟨by decide, ⟨(own_ce (by decide) hcb he (a := (0 : Int32)) (b := (1 : Int32)) (by decide)).mp hc50_70, hc63_72, hc70_73, hc77_74⟩, Or.inr (fun q => q.2.2 hc77_79), own_iffasc (own_seen1 hc0_) hp⟩)))
          ·refine wcn X69 hx hby d21_77 (feq hc77_79).1 ?_
           refine wil X69 hx hby d21_80 rfl ?_
           refine wil X69 hx hby d21_82 rfl ?_
           show Ends _ _ _ _ T69 (mkF m 84 #[cr o0, cj q8_, cs, ci lv_, cr xa_, ci e5_, ci 1, ci ((0 : Int32) ||| c0_), ci c1_, cu] [(.int c1_), (.int ((0 : Int32) ||| c0_))]) _ _ _
           refine .go (fun _ => XS.ior X69.here hx rfl (hb hby d21_84) rfl) ?_
           refine wst X69 hx hby d21_85 (l' := #[cr o0, cj q8_, cs, ci lv_, cr xa_, ci e5_, ci 1, ci (((0 : Int32) ||| c0_) ||| c1_), ci c1_, cu]) rfl ?_
           refine wii X69 hx hby d21_87 (l' := #[cr o0, cj q8_, cs, ci lv_, cr xa_, ci e5_, ci 2, ci (((0 : Int32) ||| c0_) ||| c1_), ci c1_, cu]) rfl rfl ?_
           refine wgo (pc := 90) (pc' := 46) X69 hx hby d21_90 (by decide) (by decide) ?_
           refine wil X69 hx hby d21_46 rfl ?_
           show Ends _ _ _ _ T69 (mkF m 48 #[cr o0, cj q8_, cs, ci lv_, cr xa_, ci e5_, ci 2, ci (((0 : Int32) ||| c0_) ||| c1_), ci c1_, cu] [(.int 2)]) _ _ _
           refine wil X69 hx hby d21_48 rfl ?_
           by_cases hc50_80 : (2 : Int32) < e5_
           ·refine wcn X69 hx hby d21_50 (tlt hc50_80).2.1 ?_
            refine wal X69 hx hby d21_53 rfl rfl ?_
            refine wil X69 hx hby d21_55 rfl ?_
            obtain ⟨cl81, Ar81, q81, S81, M81, H81, G81⟩ := id Vx
            have hin81 := inb_of (j := (2 : Int32)) S81 ⟨by decide, by decide⟩
            refine Ends.go (X69.caload hx (j := (2 : Int32)) (v := (.int c2_)) (by rw [e69]; exact Ar81.1) (State.isArrayOf_alike hZ.alike Ar81.2.1) Ar81.2.2 hin81 (H81.at hin81 rfl) (g := (mkF m 57 #[cr o0, cj q8_, cs, ci lv_, cr xa_, ci e5_, ci 2, ci (((0 : Int32) ||| c0_) ||| c1_), ci c1_, cu] [(.int 2), (.ref xa_)])) rfl rfl (hb hby d21_57)) ?_
            show Ends _ _ _ _ T69 (mkF m 58 #[cr o0, cj q8_, cs, ci lv_, cr xa_, ci e5_, ci 2, ci (((0 : Int32) ||| c0_) ||| c1_), ci c1_, cu] [(.int c2_)]) _ _ _
            refine wdu X69 hx hby d21_58 rfl ?_
            refine wst X69 hx hby d21_59 (l' := #[cr o0, cj q8_, cs, ci lv_, cr xa_, ci e5_, ci 2, ci (((0 : Int32) ||| c0_) ||| c1_), ci c2_, cu]) rfl ?_
            refine wbp X69 hx hby d21_61 ?_
            by_cases hc63_82 : c2_ < (32 : Int32)
            ·refine wcy (pc := 63) (pc' := 93) X69 hx hby d21_63 (tlt hc63_82).1 (by decide) (by decide) ?_
             exact J93i _ _ e5_ (2 : Int32) (((0 : Int32) ||| c0_) ||| c1_) c2_ X69 e69 N8 (fun pl_ hp => (own_run_0 c0_ c1_ c2_ c3_ _ _ _).mpr (Or.inr (Or.inr (Or.inl ⟨by decide, ⟨(own_ce (by decide) hcb he (a := (0 : Int32)) (b := (1 : Int32)) (by decide)).mp hc50_70, hc63_72, hc70_73, hc77_74⟩, ⟨(own_ce (by decide) hcb he (a := (1 : Int32)) (b := (2 : Int32)) (by decide)).mp hc50_75, hc63_77, hc70_78, hc77_79⟩, Or.inr (fun q => q.1 hc63_82), own_iffasc (own_seen2 hc0_ hc1_) hp⟩))))
            ·refine wcn X69 hx hby d21_63 (flt hc63_82).1 ?_
             show Ends _ _ _ _ T69 (mkF m 66 #[cr o0, cj q8_, cs, ci lv_, cr xa_, ci e5_, ci 2, ci (((0 : Int32) ||| c0_) ||| c1_), ci c2_, cu] []) _ _ _
             refine wil X69 hx hby d21_66 rfl ?_
             refine wbp X69 hx hby d21_68 ?_
             by_cases hc70_83 : c2_ = (34 : Int32)
             ·refine wcy (pc := 70) (pc' := 93) X69 hx hby d21_70 (teq hc70_83).1 (by decide) (by decide) ?_
              exact J93i _ _ e5_ (2 : Int32) (((0 : Int32) ||| c0_) ||| c1_) c2_ X69 e69 N8 (fun pl_ hp => (own_run_0 c0_ c1_ c2_ c3_ _ _ _).mpr (Or.inr (Or.inr (Or.inl ⟨by decide, ⟨(own_ce (by decide) hcb he (a := (0 : Int32)) (b := (1 : Int32)) (by decide)).mp hc50_70, hc63_72, hc70_73, hc77_74⟩, ⟨(own_ce (by decide) hcb he (a := (1 : Int32)) (b := (2 : Int32)) (by decide)).mp hc50_75, hc63_77, hc70_78, hc77_79⟩, Or.inr (fun q => q.2.1 hc70_83), own_iffasc (own_seen2 hc0_ hc1_) hp⟩))))
             ·refine wcn X69 hx hby d21_70 (feq hc70_83).1 ?_
              refine wil X69 hx hby d21_73 rfl ?_
              show Ends _ _ _ _ T69 (mkF m 75 #[cr o0, cj q8_, cs, ci lv_, cr xa_, ci e5_, ci 2, ci (((0 : Int32) ||| c0_) ||| c1_), ci c2_, cu] [(.int c2_)]) _ _ _
              refine wbp X69 hx hby d21_75 ?_
              by_cases hc77_84 : c2_ = (92 : Int32)
              ·refine wcy (pc := 77) (pc' := 93) X69 hx hby d21_77 (teq hc77_84).1 (by decide) (by decide) ?_
               exact J93i _ _ e5_ (2 : Int32) (((0 : Int32) ||| c0_) ||| c1_) c2_ X69 e69 N8 (fun pl_ hp => (own_run_0 c0_ c1_ c2_ c3_ _ _ _).mpr (Or.inr (Or.inr (Or.inl ⟨by decide, ⟨(own_ce (by decide) hcb he (a := (0 : Int32)) (b := (1 : Int32)) (by decide)).mp hc50_70, hc63_72, hc70_73, hc77_74⟩, ⟨(own_ce (by decide) hcb he (a := (1 : Int32)) (b := (2 : Int32)) (by decide)).mp hc50_75, hc63_77, hc70_78, hc77_79⟩, Or.inr (fun q => q.2.2 hc77_84), own_iffasc (own_seen2 hc0_ hc1_) hp⟩))))
              ·refine wcn X69 hx hby d21_77 (feq hc77_84).1 ?_
               refine wil X69 hx hby d21_80 rfl ?_
               refine wil X69 hx hby d21_82 rfl ?_
               show Ends _ _ _ _ T69 (mkF m 84 #[cr o0, cj q8_, cs, ci lv_, cr xa_, ci e5_, ci 2, ci (((0 : Int32) ||| c0_) ||| c1_), ci c2_, cu] [(.int c2_), (.int (((0 : Int32) ||| c0_) ||| c1_))]) _ _ _
               refine .go (fun _ => XS.ior X69.here hx rfl (hb hby d21_84) rfl) ?_
               refine wst X69 hx hby d21_85 (l' := #[cr o0, cj q8_, cs, ci lv_, cr xa_, ci e5_, ci 2, ci ((((0 : Int32) ||| c0_) ||| c1_) ||| c2_), ci c2_, cu]) rfl ?_
               refine wii X69 hx hby d21_87 (l' := #[cr o0, cj q8_, cs, ci lv_, cr xa_, ci e5_, ci 3, ci ((((0 : Int32) ||| c0_) ||| c1_) ||| c2_), ci c2_, cu]) rfl rfl ?_
               refine wgo (pc := 90) (pc' := 46) X69 hx hby d21_90 (by decide) (by decide) ?_
               refine wil X69 hx hby d21_46 rfl ?_
               show Ends _ _ _ _ T69 (mkF m 48 #[cr o0, cj q8_, cs, ci lv_, cr xa_, ci e5_, ci 3, ci ((((0 : Int32) ||| c0_) ||| c1_) ||| c2_), ci c2_, cu] [(.int 3)]) _ _ _
               refine wil X69 hx hby d21_48 rfl ?_
               by_cases hc50_85 : (3 : Int32) < e5_
               ·refine wcn X69 hx hby d21_50 (tlt hc50_85).2.1 ?_
                refine wal X69 hx hby d21_53 rfl rfl ?_
                refine wil X69 hx hby d21_55 rfl ?_
                obtain ⟨cl86, Ar86, q86, S86, M86, H86, G86⟩ := id Vx
                have hin86 := inb_of (j := (3 : Int32)) S86 ⟨by decide, by decide⟩
                refine Ends.go (X69.caload hx (j := (3 : Int32)) (v := (.int c3_)) (by rw [e69]; exact Ar86.1) (State.isArrayOf_alike hZ.alike Ar86.2.1) Ar86.2.2 hin86 (H86.at hin86 rfl) (g := (mkF m 57 #[cr o0, cj q8_, cs, ci lv_, cr xa_, ci e5_, ci 3, ci ((((0 : Int32) ||| c0_) ||| c1_) ||| c2_), ci c2_, cu] [(.int 3), (.ref xa_)])) rfl rfl (hb hby d21_57)) ?_
                show Ends _ _ _ _ T69 (mkF m 58 #[cr o0, cj q8_, cs, ci lv_, cr xa_, ci e5_, ci 3, ci ((((0 : Int32) ||| c0_) ||| c1_) ||| c2_), ci c2_, cu] [(.int c3_)]) _ _ _
                refine wdu X69 hx hby d21_58 rfl ?_
                refine wst X69 hx hby d21_59 (l' := #[cr o0, cj q8_, cs, ci lv_, cr xa_, ci e5_, ci 3, ci ((((0 : Int32) ||| c0_) ||| c1_) ||| c2_), ci c3_, cu]) rfl ?_
                refine wbp X69 hx hby d21_61 ?_
                by_cases hc63_87 : c3_ < (32 : Int32)
                ·refine wcy (pc := 63) (pc' := 93) X69 hx hby d21_63 (tlt hc63_87).1 (by decide) (by decide) ?_
                 exact J93i _ _ e5_ (3 : Int32) ((((0 : Int32) ||| c0_) ||| c1_) ||| c2_) c3_ X69 e69 N8 (fun pl_ hp => (own_run_0 c0_ c1_ c2_ c3_ _ _ _).mpr (Or.inr (Or.inr (Or.inr (Or.inl ⟨by decide, ⟨(own_ce (by decide) hcb he (a := (0 : Int32)) (b := (1 : Int32)) (by decide)).mp hc50_70, hc63_72, hc70_73, hc77_74⟩, ⟨(own_ce (by decide) hcb he (a := (1 : Int32)) (b := (2 : Int32)) (by decide)).mp hc50_75, hc63_77, hc70_78, hc77_79⟩, ⟨(own_ce (by decide) hcb he (a := (2 : Int32)) (b := (3 : Int32)) (by decide)).mp hc50_80, hc63_82, hc70_83, hc77_84⟩, Or.inr (fun q => q.1 hc63_87), own_iffasc (own_seen3 hc0_ hc1_ hc2_) hp⟩)))))
                ·refine wcn X69 hx hby d21_63 (flt hc63_87).1 ?_
                 show Ends _ _ _ _ T69 (mkF m 66 #[cr o0, cj q8_, cs, ci lv_, cr xa_, ci e5_, ci 3, ci ((((0 : Int32) ||| c0_) ||| c1_) ||| c2_), ci c3_, cu] []) _ _ _
                 refine wil X69 hx hby d21_66 rfl ?_
                 refine wbp X69 hx hby d21_68 ?_
                 by_cases hc70_88 : c3_ = (34 : Int32)
                 ·refine wcy (pc := 70) (pc' := 93) X69 hx hby d21_70 (teq hc70_88).1 (by decide) (by decide) ?_
                  exact J93i _ _ e5_ (3 : Int32) ((((0 : Int32) ||| c0_) ||| c1_) ||| c2_) c3_ X69 e69 N8 (fun pl_ hp => (own_run_0 c0_ c1_ c2_ c3_ _ _ _).mpr (Or.inr (Or.inr (Or.inr (Or.inl ⟨by decide, ⟨(own_ce (by decide) hcb he (a := (0 : Int32)) (b := (1 : Int32)) (by decide)).mp hc50_70, hc63_72, hc70_73, hc77_74⟩, ⟨(own_ce (by decide) hcb he (a := (1 : Int32)) (b := (2 : Int32)) (by decide)).mp hc50_75, hc63_77, hc70_78, hc77_79⟩, ⟨(own_ce (by decide) hcb he (a := (2 : Int32)) (b := (3 : Int32)) (by decide)).mp hc50_80, hc63_82, hc70_83, hc77_84⟩, Or.inr (fun q => q.2.1 hc70_88), own_iffasc (own_seen3 hc0_ hc1_ hc2_) hp⟩)))))
                 ·refine wcn X69 hx hby d21_70 (feq hc70_88).1 ?_
                  refine wil X69 hx hby d21_73 rfl ?_
                  show Ends _ _ _ _ T69 (mkF m 75 #[cr o0, cj q8_, cs, ci lv_, cr xa_, ci e5_, ci 3, ci ((((0 : Int32) ||| c0_) ||| c1_) ||| c2_), ci c3_, cu] [(.int c3_)]) _ _ _
                  refine wbp X69 hx hby d21_75 ?_
                  by_cases hc77_89 : c3_ = (92 : Int32)
                  ·refine wcy (pc := 77) (pc' := 93) X69 hx hby d21_77 (teq hc77_89).1 (by decide) (by decide) ?_
                   exact J93i _ _ e5_ (3 : Int32) ((((0 : Int32) ||| c0_) ||| c1_) ||| c2_) c3_ X69 e69 N8 (fun pl_ hp => (own_run_0 c0_ c1_ c2_ c3_ _ _ _).mpr (Or.inr (Or.inr (Or.inr (Or.inl ⟨by decide, ⟨(own_ce (by decide) hcb he (a := (0 : Int32)) (b := (1 : Int32)) (by decide)).mp hc50_70, hc63_72, hc70_73, hc77_74⟩, ⟨(own_ce (by decide) hcb he (a := (1 : Int32)) (b := (2 : Int32)) (by decide)).mp hc50_75, hc63_77, hc70_78, hc77_79⟩, ⟨(own_ce (by decide) hcb he (a := (2 : Int32)) (b := (3 : Int32)) (by decide)).mp hc50_80, hc63_82, hc70_83, hc77_84⟩, Or.inr (fun q => q.2.2 hc77_89), own_iffasc (own_seen3 hc0_ hc1_ hc2_) hp⟩)))))
                  ·refine wcn X69 hx hby d21_77 (feq hc77_89).1 ?_
                   refine wil X69 hx hby d21_80 rfl ?_
                   refine wil X69 hx hby d21_82 rfl ?_
                   show Ends _ _ _ _ T69 (mkF m 84 #[cr o0, cj q8_, cs, ci lv_, cr xa_, ci e5_, ci 3, ci ((((0 : Int32) ||| c0_) ||| c1_) ||| c2_), ci c3_, cu] [(.int c3_), (.int ((((0 : Int32) ||| c0_) ||| c1_) ||| c2_))]) _ _ _
                   refine .go (fun _ => XS.ior X69.here hx rfl (hb hby d21_84) rfl) ?_
                   refine wst X69 hx hby d21_85 (l' := #[cr o0, cj q8_, cs, ci lv_, cr xa_, ci e5_, ci 3, ci (((((0 : Int32) ||| c0_) ||| c1_) ||| c2_) ||| c3_), ci c3_, cu]) rfl ?_
                   refine wii X69 hx hby d21_87 (l' := #[cr o0, cj q8_, cs, ci lv_, cr xa_, ci e5_, ci 4, ci (((((0 : Int32) ||| c0_) ||| c1_) ||| c2_) ||| c3_), ci c3_, cu]) rfl rfl ?_
                   refine wgo (pc := 90) (pc' := 46) X69 hx hby d21_90 (by decide) (by decide) ?_
                   refine wil X69 hx hby d21_46 rfl ?_
                   show Ends _ _ _ _ T69 (mkF m 48 #[cr o0, cj q8_, cs, ci lv_, cr xa_, ci e5_, ci 4, ci (((((0 : Int32) ||| c0_) ||| c1_) ||| c2_) ||| c3_), ci c3_, cu] [(.int 4)]) _ _ _
                   refine wil X69 hx hby d21_48 rfl ?_
                   refine wcy (pc := 50) (pc' := 93) X69 hx hby d21_50 (flt ((own_e4 hcb he) : ¬ ((4 : Int32) < e5_))).2.1 (by decide) (by decide) ?_
                   exact J93i _ _ e5_ (4 : Int32) (((((0 : Int32) ||| c0_) ||| c1_) ||| c2_) ||| c3_) c3_ X69 e69 N8 (fun pl_ hp => (own_run_0 c0_ c1_ c2_ c3_ _ _ _).mpr (Or.inr (Or.inr (Or.inr (Or.inr (⟨by decide, ⟨(own_ce (by decide) hcb he (a := (0 : Int32)) (b := (1 : Int32)) (by decide)).mp hc50_70, hc63_72, hc70_73, hc77_74⟩, ⟨(own_ce (by decide) hcb he (a := (1 : Int32)) (b := (2 : Int32)) (by decide)).mp hc50_75, hc63_77, hc70_78, hc77_79⟩, ⟨(own_ce (by decide) hcb he (a := (2 : Int32)) (b := (3 : Int32)) (by decide)).mp hc50_80, hc63_82, hc70_83, hc77_84⟩, ⟨(own_ce (by decide) hcb he (a := (3 : Int32)) (b := (4 : Int32)) (by decide)).mp hc50_85, hc63_87, hc70_88, hc77_89⟩, own_iffasc (own_seen4 hc0_ hc1_ hc2_ hc3_) hp⟩))))))
               ·refine wcy (pc := 50) (pc' := 93) X69 hx hby d21_50 (flt hc50_85).2.1 (by decide) (by decide) ?_
                exact J93i _ _ e5_ (3 : Int32) ((((0 : Int32) ||| c0_) ||| c1_) ||| c2_) c2_ X69 e69 N8 (fun pl_ hp => (own_run_0 c0_ c1_ c2_ c3_ _ _ _).mpr (Or.inr (Or.inr (Or.inr (Or.inl ⟨by decide, ⟨(own_ce (by decide) hcb he (a := (0 : Int32)) (b := (1 : Int32)) (by decide)).mp hc50_70, hc63_72, hc70_73, hc77_74⟩, ⟨(own_ce (by decide) hcb he (a := (1 : Int32)) (b := (2 : Int32)) (by decide)).mp hc50_75, hc63_77, hc70_78, hc77_79⟩, ⟨(own_ce (by decide) hcb he (a := (2 : Int32)) (b := (3 : Int32)) (by decide)).mp hc50_80, hc63_82, hc70_83, hc77_84⟩, Or.inl (Classical.not_not.mp (fun q => hc50_85 ((own_ce (by decide) hcb he (a := (3 : Int32)) (b := (4 : Int32)) (by decide)).mpr q))), own_iffasc (own_seen3 hc0_ hc1_ hc2_) hp⟩)))))
           ·refine wcy (pc := 50) (pc' := 93) X69 hx hby d21_50 (flt hc50_80).2.1 (by decide) (by decide) ?_
            exact J93i _ _ e5_ (2 : Int32) (((0 : Int32) ||| c0_) ||| c1_) c1_ X69 e69 N8 (fun pl_ hp => (own_run_0 c0_ c1_ c2_ c3_ _ _ _).mpr (Or.inr (Or.inr (Or.inl ⟨by decide, ⟨(own_ce (by decide) hcb he (a := (0 : Int32)) (b := (1 : Int32)) (by decide)).mp hc50_70, hc63_72, hc70_73, hc77_74⟩, ⟨(own_ce (by decide) hcb he (a := (1 : Int32)) (b := (2 : Int32)) (by decide)).mp hc50_75, hc63_77, hc70_78, hc77_79⟩, Or.inl (Classical.not_not.mp (fun q => hc50_80 ((own_ce (by decide) hcb he (a := (2 : Int32)) (b := (3 : Int32)) (by decide)).mpr q))), own_iffasc (own_seen2 hc0_ hc1_) hp⟩))))
       ·refine wcy (pc := 50) (pc' := 93) X69 hx hby d21_50 (flt hc50_75).2.1 (by decide) (by decide) ?_
        show Ends _ _ _ _ T69 (mkF m 93 #[cr o0, cj q8_, cs, ci lv_, cr xa_, ci e5_, ci 1, ci ((0 : Int32) ||| c0_), ci c0_, cu] []) _ _ _
        exact J93i _ _ e5_ (1 : Int32) ((0 : Int32) ||| c0_) c0_ X69 e69 N8 (fun pl_ hp => (own_run_0 c0_ c1_ c2_ c3_ _ _ _).mpr (Or.inr (Or.inl ⟨by decide, ⟨(own_ce (by decide) hcb he (a := (0 : Int32)) (b := (1 : Int32)) (by decide)).mp hc50_70, hc63_72, hc70_73, hc77_74⟩, Or.inl (Classical.not_not.mp (fun q => hc50_75 ((own_ce (by decide) hcb he (a := (1 : Int32)) (b := (2 : Int32)) (by decide)).mpr q))), own_iffasc (own_seen1 hc0_) hp⟩)))
   ·refine wcy (pc := 50) (pc' := 93) X69 hx hby d21_50 (flt hc50_70).2.1 (by decide) (by decide) ?_
    exact J93u _ _ e5_ (0 : Int32) (0 : Int32) X69 e69 N8 (fun pl_ hp => (own_run_0 c0_ c1_ c2_ c3_ _ _ _).mpr (Or.inl ⟨by decide, Or.inl (Classical.not_not.mp (fun q => hc50_70 ((own_ce (by decide) hcb he (a := (0 : Int32)) (b := (1 : Int32)) (by decide)).mpr q))), own_iffasc own_seen0 hp⟩))
  ·show Ends _ _ _ _ T69 (mkF m 46 #[cr o0, cj q8_, cs, ci lv_, cr xa_, ci e5_, ci 1, ci 0, cu, cu] []) _ _ _
   refine wil X69 hx hby d21_46 rfl ?_
   refine wil X69 hx hby d21_48 rfl ?_
   by_cases hc50_90 : (1 : Int32) < e5_
   ·refine wcn X69 hx hby d21_50 (tlt hc50_90).2.1 ?_
    show Ends _ _ _ _ T69 (mkF m 53 #[cr o0, cj q8_, cs, ci lv_, cr xa_, ci e5_, ci 1, ci 0, cu, cu] []) _ _ _
    refine wal X69 hx hby d21_53 rfl rfl ?_
    refine wil X69 hx hby d21_55 rfl ?_
    obtain ⟨cl91, Ar91, q91, S91, M91, H91, G91⟩ := id Vx
    have hin91 := inb_of (j := (1 : Int32)) S91 ⟨by decide, by decide⟩
    refine Ends.go (X69.caload hx (j := (1 : Int32)) (v := (.int c1_)) (by rw [e69]; exact Ar91.1) (State.isArrayOf_alike hZ.alike Ar91.2.1) Ar91.2.2 hin91 (H91.at hin91 rfl) (g := (mkF m 57 #[cr o0, cj q8_, cs, ci lv_, cr xa_, ci e5_, ci 1, ci 0, cu, cu] [(.int 1), (.ref xa_)])) rfl rfl (hb hby d21_57)) ?_
    refine wdu X69 hx hby d21_58 rfl ?_
    refine wst X69 hx hby d21_59 (l' := #[cr o0, cj q8_, cs, ci lv_, cr xa_, ci e5_, ci 1, ci 0, ci c1_, cu]) rfl ?_
    show Ends _ _ _ _ T69 (mkF m 61 #[cr o0, cj q8_, cs, ci lv_, cr xa_, ci e5_, ci 1, ci 0, ci c1_, cu] [(.int c1_)]) _ _ _
    refine wbp X69 hx hby d21_61 ?_
    by_cases hc63_92 : c1_ < (32 : Int32)
    ·refine wcy (pc := 63) (pc' := 93) X69 hx hby d21_63 (tlt hc63_92).1 (by decide) (by decide) ?_
     exact J93i _ _ e5_ (1 : Int32) (0 : Int32) c1_ X69 e69 N8 (fun pl_ hp => (own_run_1 c0_ c1_ c2_ c3_ _ _ _).mpr (Or.inl ⟨by decide, Or.inr (fun q => q.1 hc63_92), own_iffasc own_seen0 hp⟩))
    ·refine wcn X69 hx hby d21_63 (flt hc63_92).1 ?_
     refine wil X69 hx hby d21_66 rfl ?_
     refine wbp X69 hx hby d21_68 ?_
     show Ends _ _ _ _ T69 (mkF m 70 #[cr o0, cj q8_, cs, ci lv_, cr xa_, ci e5_, ci 1, ci 0, ci c1_, cu] [(.int 34), (.int c1_)]) _ _ _
     by_cases hc70_93 : c1_ = (34 : Int32)
     ·refine wcy (pc := 70) (pc' := 93) X69 hx hby d21_70 (teq hc70_93).1 (by decide) (by decide) ?_
      exact J93i _ _ e5_ (1 : Int32) (0 : Int32) c1_ X69 e69 N8 (fun pl_ hp => (own_run_1 c0_ c1_ c2_ c3_ _ _ _).mpr (Or.inl ⟨by decide, Or.inr (fun q => q.2.1 hc70_93), own_iffasc own_seen0 hp⟩))
     ·refine wcn X69 hx hby d21_70 (feq hc70_93).1 ?_
      refine wil X69 hx hby d21_73 rfl ?_
      refine wbp X69 hx hby d21_75 ?_
      by_cases hc77_94 : c1_ = (92 : Int32)
      ·refine wcy (pc := 77) (pc' := 93) X69 hx hby d21_77 (teq hc77_94).1 (by decide) (by decide) ?_
       show Ends _ _ _ _ T69 (mkF m 93 #[cr o0, cj q8_, cs, ci lv_, cr xa_, ci e5_, ci 1, ci 0, ci c1_, cu] []) _ _ _
       exact J93i _ _ e5_ (1 : Int32) (0 : Int32) c1_ X69 e69 N8 (fun pl_ hp => (own_run_1 c0_ c1_ c2_ c3_ _ _ _).mpr (Or.inl ⟨by decide, Or.inr (fun q => q.2.2 hc77_94), own_iffasc own_seen0 hp⟩))
      ·refine wcn X69 hx hby d21_77 (feq hc77_94).1 ?_
       refine wil X69 hx hby d21_80 rfl ?_
       refine wil X69 hx hby d21_82 rfl ?_
       refine .go (fun _ => XS.ior X69.here hx rfl (hb hby d21_84) rfl) ?_
       refine wst X69 hx hby d21_85 (l' := #[cr o0, cj q8_, cs, ci lv_, cr xa_, ci e5_, ci 1, ci ((0 : Int32) ||| c1_), ci c1_, cu]) rfl ?_
       show Ends _ _ _ _ T69 (mkF m 87 #[cr o0, cj q8_, cs, ci lv_, cr xa_, ci e5_, ci 1, ci ((0 : Int32) ||| c1_), ci c1_, cu] []) _ _ _
       refine wii X69 hx hby d21_87 (l' := #[cr o0, cj q8_, cs, ci lv_, cr xa_, ci e5_, ci 2, ci ((0 : Int32) ||| c1_), ci c1_, cu]) rfl rfl ?_
       refine wgo (pc := 90) (pc' := 46) X69 hx hby d21_90 (by decide) (by decide) ?_
       refine wil X69 hx hby d21_46 rfl ?_
       refine wil X69 hx hby d21_48 rfl ?_
       by_cases hc50_95 : (2 : Int32) < e5_
       ·refine wcn X69 hx hby d21_50 (tlt hc50_95).2.1 ?_
        show Ends _ _ _ _ T69 (mkF m 53 #[cr o0, cj q8_, cs, ci lv_, cr xa_, ci e5_, ci 2, ci ((0 : Int32) ||| c1_), ci c1_, cu] []) _ _ _
        refine wal X69 hx hby d21_53 rfl rfl ?_
        refine wil X69 hx hby d21_55 rfl ?_
        obtain ⟨cl96, Ar96, q96, S96, M96, H96, G96⟩ := id Vx
        have hin96 := inb_of (j := (2 : Int32)) S96 ⟨by decide, by decide⟩
        refine Ends.go (X69.caload hx (j := (2 : Int32)) (v := (.int c2_)) (by rw [e69]; exact Ar96.1) (State.isArrayOf_alike hZ.alike Ar96.2.1) Ar96.2.2 hin96 (H96.at hin96 rfl) (g := (mkF m 57 #[cr o0, cj q8_, cs, ci lv_, cr xa_, ci e5_, ci 2, ci ((0 : Int32) ||| c1_), ci c1_, cu] [(.int 2), (.ref xa_)])) rfl rfl (hb hby d21_57)) ?_
        refine wdu X69 hx hby d21_58 rfl ?_
        refine wst X69 hx hby d21_59 (l' := #[cr o0, cj q8_, cs, ci lv_, cr xa_, ci e5_, ci 2, ci ((0 : Int32) ||| c1_), ci c2_, cu]) rfl ?_
        show Ends _ _ _ _ T69 (mkF m 61 #[cr o0, cj q8_, cs, ci lv_, cr xa_, ci e5_, ci 2, ci ((0 : Int32) ||| c1_), ci c2_, cu] [(.int c2_)]) _ _ _
        refine wbp X69 hx hby d21_61 ?_
        by_cases hc63_97 : c2_ < (32 : Int32)
        ·refine wcy (pc := 63) (pc' := 93) X69 hx hby d21_63 (tlt hc63_97).1 (by decide) (by decide) ?_
         exact J93i _ _ e5_ (2 : Int32) ((0 : Int32) ||| c1_) c2_ X69 e69 N8 (fun pl_ hp => (own_run_1 c0_ c1_ c2_ c3_ _ _ _).mpr (Or.inr (Or.inl ⟨by decide, ⟨(own_ce (by decide) hcb he (a := (1 : Int32)) (b := (1 : Int32)) (by decide)).mp hc50_90, hc63_92, hc70_93, hc77_94⟩, Or.inr (fun q => q.1 hc63_97), own_iffasc (own_seen1 hc1_) hp⟩)))
        ·refine wcn X69 hx hby d21_63 (flt hc63_97).1 ?_
         refine wil X69 hx hby d21_66 rfl ?_
         refine wbp X69 hx hby d21_68 ?_
         show Ends _ _ _ _ T69 (mkF m 70 #[cr o0, cj q8_, cs, ci lv_, cr xa_, ci e5_, ci 2, ci ((0 : Int32) ||| c1_), ci c2_, cu] [(.int 34), (.int c2_)]) _ _ _
         by_cases hc70_98 : c2_ = (34 : Int32)
         ·refine wcy (pc := 70) (pc' := 93) X69 hx hby d21_70 (teq hc70_98).1 (by decide) (by decide) ?_
          exact J93i _ _ e5_ (2 : Int32) ((0 : Int32) ||| c1_) c2_ X69 e69 N8 (fun pl_ hp => (own_run_1 c0_ c1_ c2_ c3_ _ _ _).mpr (Or.inr (Or.inl ⟨by decide, ⟨(own_ce (by decide) hcb he (a := (1 : Int32)) (b := (1 : Int32)) (by decide)).mp hc50_90, hc63_92, hc70_93, hc77_94⟩, Or.inr (fun q => q.2.1 hc70_98), own_iffasc (own_seen1 hc1_) hp⟩)))
         ·refine wcn X69 hx hby d21_70 (feq hc70_98).1 ?_
          refine wil X69 hx hby d21_73 rfl ?_
          refine wbp X69 hx hby d21_75 ?_
          by_cases hc77_99 : c2_ = (92 : Int32)
          ·refine wcy (pc := 77) (pc' := 93) X69 hx hby d21_77 (teq hc77_99).1 (by decide) (by decide) ?_
           show Ends _ _ _ _ T69 (mkF m 93 #[cr o0, cj q8_, cs, ci lv_, cr xa_, ci e5_, ci 2, ci ((0 : Int32) ||| c1_), ci c2_, cu] []) _ _ _
           exact J93i _ _ e5_ (2 : Int32) ((0 : Int32) ||| c1_) c2_ X69 e69 N8 (fun pl_ hp => (own_run_1 c0_ c1_ c2_ c3_ _ _ _).mpr (Or.inr (Or.inl ⟨by decide, ⟨(own_ce (by decide) hcb he (a := (1 : Int32)) (b := (1 : Int32)) (by decide)).mp hc50_90, hc63_92, hc70_93, hc77_94⟩, Or.inr (fun q => q.2.2 hc77_99), own_iffasc (own_seen1 hc1_) hp⟩)))
          ·refine wcn X69 hx hby d21_77 (feq hc77_99).1 ?_
           refine wil X69 hx hby d21_80 rfl ?_
           refine wil X69 hx hby d21_82 rfl ?_
           refine .go (fun _ => XS.ior X69.here hx rfl (hb hby d21_84) rfl) ?_
           refine wst X69 hx hby d21_85 (l' := #[cr o0, cj q8_, cs, ci lv_, cr xa_, ci e5_, ci 2, ci (((0 : Int32) ||| c1_) ||| c2_), ci c2_, cu]) rfl ?_
           show Ends _ _ _ _ T69 (mkF m 87 #[cr o0, cj q8_, cs, ci lv_, cr xa_, ci e5_, ci 2, ci (((0 : Int32) ||| c1_) ||| c2_), ci c2_, cu] []) _ _ _
           refine wii X69 hx hby d21_87 (l' := #[cr o0, cj q8_, cs, ci lv_, cr xa_, ci e5_, ci 3, ci (((0 : Int32) ||| c1_) ||| c2_), ci c2_, cu]) rfl rfl ?_
           refine wgo (pc := 90) (pc' := 46) X69 hx hby d21_90 (by decide) (by decide) ?_
           refine wil X69 hx hby d21_46 rfl ?_
           refine wil X69 hx hby d21_48 rfl ?_
           by_cases hc50_100 : (3 : Int32) < e5_
           ·refine wcn X69 hx hby d21_50 (tlt hc50_100).2.1 ?_
            show Ends _ _ _ _ T69 (mkF m 53 #[cr o0, cj q8_, cs, ci lv_, cr xa_, ci e5_, ci 3, ci (((0 : Int32) ||| c1_) ||| c2_), ci c2_, cu] []) _ _ _
            refine wal X69 hx hby d21_53 rfl rfl ?_
            refine wil X69 hx hby d21_55 rfl ?_
            obtain ⟨cl101, Ar101, q101, S101, M101, H101, G101⟩ := id Vx
            have hin101 := inb_of (j := (3 : Int32)) S101 ⟨by decide, by decide⟩
            refine Ends.go (X69.caload hx (j := (3 : Int32)) (v := (.int c3_)) (by rw [e69]; exact Ar101.1) (State.isArrayOf_alike hZ.alike Ar101.2.1) Ar101.2.2 hin101 (H101.at hin101 rfl) (g := (mkF m 57 #[cr o0, cj q8_, cs, ci lv_, cr xa_, ci e5_, ci 3, ci (((0 : Int32) ||| c1_) ||| c2_), ci c2_, cu] [(.int 3), (.ref xa_)])) rfl rfl (hb hby d21_57)) ?_
            refine wdu X69 hx hby d21_58 rfl ?_
            refine wst X69 hx hby d21_59 (l' := #[cr o0, cj q8_, cs, ci lv_, cr xa_, ci e5_, ci 3, ci (((0 : Int32) ||| c1_) ||| c2_), ci c3_, cu]) rfl ?_
            show Ends _ _ _ _ T69 (mkF m 61 #[cr o0, cj q8_, cs, ci lv_, cr xa_, ci e5_, ci 3, ci (((0 : Int32) ||| c1_) ||| c2_), ci c3_, cu] [(.int c3_)]) _ _ _
            refine wbp X69 hx hby d21_61 ?_
            by_cases hc63_102 : c3_ < (32 : Int32)
            ·refine wcy (pc := 63) (pc' := 93) X69 hx hby d21_63 (tlt hc63_102).1 (by decide) (by decide) ?_
             exact J93i _ _ e5_ (3 : Int32) (((0 : Int32) ||| c1_) ||| c2_) c3_ X69 e69 N8 (fun pl_ hp => (own_run_1 c0_ c1_ c2_ c3_ _ _ _).mpr (Or.inr (Or.inr (Or.inl ⟨by decide, ⟨(own_ce (by decide) hcb he (a := (1 : Int32)) (b := (1 : Int32)) (by decide)).mp hc50_90, hc63_92, hc70_93, hc77_94⟩, ⟨(own_ce (by decide) hcb he (a := (2 : Int32)) (b := (2 : Int32)) (by decide)).mp hc50_95, hc63_97, hc70_98, hc77_99⟩, Or.inr (fun q => q.1 hc63_102), own_iffasc (own_seen2 hc1_ hc2_) hp⟩))))
            ·refine wcn X69 hx hby d21_63 (flt hc63_102).1 ?_
             refine wil X69 hx hby d21_66 rfl ?_
             refine wbp X69 hx hby d21_68 ?_
             show Ends _ _ _ _ T69 (mkF m 70 #[cr o0, cj q8_, cs, ci lv_, cr xa_, ci e5_, ci 3, ci (((0 : Int32) ||| c1_) ||| c2_), ci c3_, cu] [(.int 34), (.int c3_)]) _ _ _
             by_cases hc70_103 : c3_ = (34 : Int32)
             ·refine wcy (pc := 70) (pc' := 93) X69 hx hby d21_70 (teq hc70_103).1 (by decide) (by decide) ?_
              exact J93i _ _ e5_ (3 : Int32) (((0 : Int32) ||| c1_) ||| c2_) c3_ X69 e69 N8 (fun pl_ hp => (own_run_1 c0_ c1_ c2_ c3_ _ _ _).mpr (Or.inr (Or.inr (Or.inl ⟨by decide, ⟨(own_ce (by decide) hcb he (a := (1 : Int32)) (b := (1 : Int32)) (by decide)).mp hc50_90, hc63_92, hc70_93, hc77_94⟩, ⟨(own_ce (by decide) hcb he (a := (2 : Int32)) (b := (2 : Int32)) (by decide)).mp hc50_95, hc63_97, hc70_98, hc77_99⟩, Or.inr (fun q => q.2.1 hc70_103), own_iffasc (own_seen2 hc1_ hc2_) hp⟩))))
             ·refine wcn X69 hx hby d21_70 (feq hc70_103).1 ?_
              refine wil X69 hx hby d21_73 rfl ?_
              refine wbp X69 hx hby d21_75 ?_
              by_cases hc77_104 : c3_ = (92 : Int32)
              ·refine wcy (pc := 77) (pc' := 93) X69 hx hby d21_77 (teq hc77_104).1 (by decide) (by decide) ?_
               show Ends _ _ _ _ T69 (mkF m 93 #[cr o0, cj q8_, cs, ci lv_, cr xa_, ci e5_, ci 3, ci (((0 : Int32) ||| c1_) ||| c2_), ci c3_, cu] []) _ _ _
               exact J93i _ _ e5_ (3 : Int32) (((0 : Int32) ||| c1_) ||| c2_) c3_ X69 e69 N8 (fun pl_ hp => (own_run_1 c0_ c1_ c2_ c3_ _ _ _).mpr (Or.inr (Or.inr (Or.inl ⟨by decide, ⟨(own_ce (by decide) hcb he (a := (1 : Int32)) (b := (1 : Int32)) (by decide)).mp hc50_90, hc63_92, hc70_93, hc77_94⟩, ⟨(own_ce (by decide) hcb he (a := (2 : Int32)) (b := (2 : Int32)) (by decide)).mp hc50_95, hc63_97, hc70_98, hc77_99⟩, Or.inr (fun q => q.2.2 hc77_104), own_iffasc (own_seen2 hc1_ hc2_) hp⟩))))
              ·refine wcn X69 hx hby d21_77 (feq hc77_104).1 ?_
               refine wil X69 hx hby d21_80 rfl ?_
               refine wil X69 hx hby d21_82 rfl ?_
               refine .go (fun _ => XS.ior X69.here hx rfl (hb hby d21_84) rfl) ?_
               refine wst X69 hx hby d21_85 (l' := #[cr o0, cj q8_, cs, ci lv_, cr xa_, ci e5_, ci 3, ci ((((0 : Int32) ||| c1_) ||| c2_) ||| c3_), ci c3_, cu]) rfl ?_
               show Ends _ _ _ _ T69 (mkF m 87 #[cr o0, cj q8_, cs, ci lv_, cr xa_, ci e5_, ci 3, ci ((((0 : Int32) ||| c1_) ||| c2_) ||| c3_), ci c3_, cu] []) _ _ _
               refine wii X69 hx hby d21_87 (l' := #[cr o0, cj q8_, cs, ci lv_, cr xa_, ci e5_, ci 4, ci ((((0 : Int32) ||| c1_) ||| c2_) ||| c3_), ci c3_, cu]) rfl rfl ?_
               refine wgo (pc := 90) (pc' := 46) X69 hx hby d21_90 (by decide) (by decide) ?_
               refine wil X69 hx hby d21_46 rfl ?_
               refine wil X69 hx hby d21_48 rfl ?_
               refine wcy (pc := 50) (pc' := 93) X69 hx hby d21_50 (flt ((own_e4 hcb he) : ¬ ((4 : Int32) < e5_))).2.1 (by decide) (by decide) ?_
               show Ends _ _ _ _ T69 (mkF m 93 #[cr o0, cj q8_, cs, ci lv_, cr xa_, ci e5_, ci 4, ci ((((0 : Int32) ||| c1_) ||| c2_) ||| c3_), ci c3_, cu] []) _ _ _
               exact J93i _ _ e5_ (4 : Int32) ((((0 : Int32) ||| c1_) ||| c2_) ||| c3_) c3_ X69 e69 N8 (fun pl_ hp => (own_run_1 c0_ c1_ c2_ c3_ _ _ _).mpr (Or.inr (Or.inr (Or.inr (⟨by decide, ⟨(own_ce (by decide) hcb he (a := (1 : Int32)) (b := (1 : Int32)) (by decide)).mp hc50_90, hc63_92, hc70_93, hc77_94⟩, ⟨(own_ce (by decide) hcb he (a := (2 : Int32)) (b := (2 : Int32)) (by decide)).mp hc50_95, hc63_97, hc70_98, hc77_99⟩, ⟨(own_ce (by decide) hcb he (a := (3 : Int32)) (b := (3 : Int32)) (by decide)).mp hc50_100, hc63_102, hc70_103, hc77_104⟩, own_iffasc (own_seen3 hc1_ hc2_ hc3_) hp⟩)))))
           ·refine wcy (pc := 50) (pc' := 93) X69 hx hby d21_50 (flt hc50_100).2.1 (by decide) (by decide) ?_
            exact J93i _ _ e5_ (3 : Int32) (((0 : Int32) ||| c1_) ||| c2_) c2_ X69 e69 N8 (fun pl_ hp => (own_run_1 c0_ c1_ c2_ c3_ _ _ _).mpr (Or.inr (Or.inr (Or.inl ⟨by decide, ⟨(own_ce (by decide) hcb he (a := (1 : Int32)) (b := (1 : Int32)) (by decide)).mp hc50_90, hc63_92, hc70_93, hc77_94⟩, ⟨(own_ce (by decide) hcb he (a := (2 : Int32)) (b := (2 : Int32)) (by decide)).mp hc50_95, hc63_97, hc70_98, hc77_99⟩, Or.inl (Classical.not_not.mp (fun q => hc50_100 ((own_ce (by decide) hcb he (a := (3 : Int32)) (b := (3 : Int32)) (by decide)).mpr q))), own_iffasc (own_seen2 hc1_ hc2_) hp⟩))))
       ·refine wcy (pc := 50) (pc' := 93) X69 hx hby d21_50 (flt hc50_95).2.1 (by decide) (by decide) ?_
        exact J93i _ _ e5_ (2 : Int32) ((0 : Int32) ||| c1_) c1_ X69 e69 N8 (fun pl_ hp => (own_run_1 c0_ c1_ c2_ c3_ _ _ _).mpr (Or.inr (Or.inl ⟨by decide, ⟨(own_ce (by decide) hcb he (a := (1 : Int32)) (b := (1 : Int32)) (by decide)).mp hc50_90, hc63_92, hc70_93, hc77_94⟩, Or.inl (Classical.not_not.mp (fun q => hc50_95 ((own_ce (by decide) hcb he (a := (2 : Int32)) (b := (2 : Int32)) (by decide)).mpr q))), own_iffasc (own_seen1 hc1_) hp⟩)))
   ·refine wcy (pc := 50) (pc' := 93) X69 hx hby d21_50 (flt hc50_90).2.1 (by decide) (by decide) ?_
    exact J93u _ _ e5_ (1 : Int32) (0 : Int32) X69 e69 N8 (fun pl_ hp => (own_run_1 c0_ c1_ c2_ c3_ _ _ _).mpr (Or.inl ⟨by decide, Or.inl (Classical.not_not.mp (fun q => hc50_90 ((own_ce (by decide) hcb he (a := (1 : Int32)) (b := (1 : Int32)) (by decide)).mpr q))), own_iffasc own_seen0 hp⟩))
  ·show Ends _ _ _ _ T69 (mkF m 46 #[cr o0, cj q8_, cs, ci lv_, cr xa_, ci e5_, ci 2, ci 0, cu, cu] []) _ _ _
   refine wil X69 hx hby d21_46 rfl ?_
   show Ends _ _ _ _ T69 (mkF m 48 #[cr o0, cj q8_, cs, ci lv_, cr xa_, ci e5_, ci 2, ci 0, cu, cu] [(.int 2)]) _ _ _
   refine wil X69 hx hby d21_48 rfl ?_
   by_cases hc50_105 : (2 : Int32) < e5_
   ·refine wcn X69 hx hby d21_50 (tlt hc50_105).2.1 ?_
    refine wal X69 hx hby d21_53 rfl rfl ?_
    refine wil X69 hx hby d21_55 rfl ?_
    obtain ⟨cl106, Ar106, q106, S106, M106, H106, G106⟩ := id Vx
    have hin106 := inb_of (j := (2 : Int32)) S106 ⟨by decide, by decide⟩
    refine Ends.go (X69.caload hx (j := (2 : Int32)) (v := (.int c2_)) (by rw [e69]; exact Ar106.1) (State.isArrayOf_alike hZ.alike Ar106.2.1) Ar106.2.2 hin106 (H106.at hin106 rfl) (g := (mkF m 57 #[cr o0, cj q8_, cs, ci lv_, cr xa_, ci e5_, ci 2, ci 0, cu, cu] [(.int 2), (.ref xa_)])) rfl rfl (hb hby d21_57)) ?_
    show Ends _ _ _ _ T69 (mkF m 58 #[cr o0, cj q8_, cs, ci lv_, cr xa_, ci e5_, ci 2, ci 0, cu, cu] [(.int c2_)]) _ _ _
    refine wdu X69 hx hby d21_58 rfl ?_
    refine wst X69 hx hby d21_59 (l' := #[cr o0, cj q8_, cs, ci lv_, cr xa_, ci e5_, ci 2, ci 0, ci c2_, cu]) rfl ?_
    refine wbp X69 hx hby d21_61 ?_
    by_cases hc63_107 : c2_ < (32 : Int32)
    ·refine wcy (pc := 63) (pc' := 93) X69 hx hby d21_63 (tlt hc63_107).1 (by decide) (by decide) ?_
     exact J93i _ _ e5_ (2 : Int32) (0 : Int32) c2_ X69 e69 N8 (fun pl_ hp => (own_run_2 c0_ c1_ c2_ c3_ _ _ _).mpr (Or.inl ⟨by decide, Or.inr (fun q => q.1 hc63_107), own_iffasc own_seen0 hp⟩))
    ·refine wcn X69 hx hby d21_63 (flt hc63_107).1 ?_
     show Ends _ _ _ _ T69 (mkF m 66 #[cr o0, cj q8_, cs, ci lv_, cr xa_, ci e5_, ci 2, ci 0, ci c2_, cu] []) _ _ _
     refine wil X69 hx hby d21_66 rfl ?_
     refine wbp X69 hx hby d21_68 ?_
     by_cases hc70_108 : c2_ = (34 : Int32)
     ·refine wcy (pc := 70) (pc' := 93) X69 hx hby d21_70 (teq hc70_108).1 (by decide) (by decide) ?_
      exact J93i _ _ e5_ (2 : Int32) (0 : Int32) c2_ X69 e69 N8 (fun pl_ hp => (own_run_2 c0_ c1_ c2_ c3_ _ _ _).mpr (Or.inl ⟨by decide, Or.inr (fun q => q.2.1 hc70_108), own_iffasc own_seen0 hp⟩))
     ·refine wcn X69 hx hby d21_70 (feq hc70_108).1 ?_
      refine wil X69 hx hby d21_73 rfl ?_
      show Ends _ _ _ _ T69 (mkF m 75 #[cr o0, cj q8_, cs, ci lv_, cr xa_, ci e5_, ci 2, ci 0, ci c2_, cu] [(.int c2_)]) _ _ _
      refine wbp X69 hx hby d21_75 ?_
      by_cases hc77_109 : c2_ = (92 : Int32)
      ·refine wcy (pc := 77) (pc' := 93) X69 hx hby d21_77 (teq hc77_109).1 (by decide) (by decide) ?_
       exact J93i _ _ e5_ (2 : Int32) (0 : Int32) c2_ X69 e69 N8 (fun pl_ hp => (own_run_2 c0_ c1_ c2_ c3_ _ _ _).mpr (Or.inl ⟨by decide, Or.inr (fun q => q.2.2 hc77_109), own_iffasc own_seen0 hp⟩))
      ·refine wcn X69 hx hby d21_77 (feq hc77_109).1 ?_
       refine wil X69 hx hby d21_80 rfl ?_
       refine wil X69 hx hby d21_82 rfl ?_
       show Ends _ _ _ _ T69 (mkF m 84 #[cr o0, cj q8_, cs, ci lv_, cr xa_, ci e5_, ci 2, ci 0, ci c2_, cu] [(.int c2_), (.int 0)]) _ _ _
       refine .go (fun _ => XS.ior X69.here hx rfl (hb hby d21_84) rfl) ?_
       refine wst X69 hx hby d21_85 (l' := #[cr o0, cj q8_, cs, ci lv_, cr xa_, ci e5_, ci 2, ci ((0 : Int32) ||| c2_), ci c2_, cu]) rfl ?_
       refine wii X69 hx hby d21_87 (l' := #[cr o0, cj q8_, cs, ci lv_, cr xa_, ci e5_, ci 3, ci ((0 : Int32) ||| c2_), ci c2_, cu]) rfl rfl ?_
       refine wgo (pc := 90) (pc' := 46) X69 hx hby d21_90 (by decide) (by decide) ?_
       refine wil X69 hx hby d21_46 rfl ?_
       show Ends _ _ _ _ T69 (mkF m 48 #[cr o0, cj q8_, cs, ci lv_, cr xa_, ci e5_, ci 3, ci ((0 : Int32) ||| c2_), ci c2_, cu] [(.int 3)]) _ _ _
       refine wil X69 hx hby d21_48 rfl ?_
       by_cases hc50_110 : (3 : Int32) < e5_
       ·refine wcn X69 hx hby d21_50 (tlt hc50_110).2.1 ?_
        refine wal X69 hx hby d21_53 rfl rfl ?_
        refine wil X69 hx hby d21_55 rfl ?_
        obtain ⟨cl111, Ar111, q111, S111, M111, H111, G111⟩ := id Vx
        have hin111 := inb_of (j := (3 : Int32)) S111 ⟨by decide, by decide⟩
        refine Ends.go (X69.caload hx (j := (3 : Int32)) (v := (.int c3_)) (by rw [e69]; exact Ar111.1) (State.isArrayOf_alike hZ.alike Ar111.2.1) Ar111.2.2 hin111 (H111.at hin111 rfl) (g := (mkF m 57 #[cr o0, cj q8_, cs, ci lv_, cr xa_, ci e5_, ci 3, ci ((0 : Int32) ||| c2_), ci c2_, cu] [(.int 3), (.ref xa_)])) rfl rfl (hb hby d21_57)) ?_
        show Ends _ _ _ _ T69 (mkF m 58 #[cr o0, cj q8_, cs, ci lv_, cr xa_, ci e5_, ci 3, ci ((0 : Int32) ||| c2_), ci c2_, cu] [(.int c3_)]) _ _ _
        refine wdu X69 hx hby d21_58 rfl ?_
        refine wst X69 hx hby d21_59 (l' := #[cr o0, cj q8_, cs, ci lv_, cr xa_, ci e5_, ci 3, ci ((0 : Int32) ||| c2_), ci c3_, cu]) rfl ?_
        refine wbp X69 hx hby d21_61 ?_
        by_cases hc63_112 : c3_ < (32 : Int32)
        ·refine wcy (pc := 63) (pc' := 93) X69 hx hby d21_63 (tlt hc63_112).1 (by decide) (by decide) ?_
         exact J93i _ _ e5_ (3 : Int32) ((0 : Int32) ||| c2_) c3_ X69 e69 N8 (fun pl_ hp => (own_run_2 c0_ c1_ c2_ c3_ _ _ _).mpr (Or.inr (Or.inl ⟨by decide, ⟨(own_ce (by decide) hcb he (a := (2 : Int32)) (b := (1 : Int32)) (by decide)).mp hc50_105, hc63_107, hc70_108, hc77_109⟩, Or.inr (fun q => q.1 hc63_112), own_iffasc (own_seen1 hc2_) hp⟩)))
        ·refine wcn X69 hx hby d21_63 (flt hc63_112).1 ?_
         show Ends _ _ _ _ T69 (mkF m 66 #[cr o0, cj q8_, cs, ci lv_, cr xa_, ci e5_, ci 3, ci ((0 : Int32) ||| c2_), ci c3_, cu] []) _ _ _
         refine wil X69 hx hby d21_66 rfl ?_
         refine wbp X69 hx hby d21_68 ?_
         by_cases hc70_113 : c3_ = (34 : Int32)
         ·refine wcy (pc := 70) (pc' := 93) X69 hx hby d21_70 (teq hc70_113).1 (by decide) (by decide) ?_
          exact J93i _ _ e5_ (3 : Int32) ((0 : Int32) ||| c2_) c3_ X69 e69 N8 (fun pl_ hp => (own_run_2 c0_ c1_ c2_ c3_ _ _ _).mpr (Or.inr (Or.inl ⟨by decide, ⟨(own_ce (by decide) hcb he (a := (2 : Int32)) (b := (1 : Int32)) (by decide)).mp hc50_105, hc63_107, hc70_108, hc77_109⟩, Or.inr (fun q => q.2.1 hc70_113), own_iffasc (own_seen1 hc2_) hp⟩)))
         ·refine wcn X69 hx hby d21_70 (feq hc70_113).1 ?_
          refine wil X69 hx hby d21_73 rfl ?_
          show Ends _ _ _ _ T69 (mkF m 75 #[cr o0, cj q8_, cs, ci lv_, cr xa_, ci e5_, ci 3, ci ((0 : Int32) ||| c2_), ci c3_, cu] [(.int c3_)]) _ _ _
          refine wbp X69 hx hby d21_75 ?_
          by_cases hc77_114 : c3_ = (92 : Int32)
          ·refine wcy (pc := 77) (pc' := 93) X69 hx hby d21_77 (teq hc77_114).1 (by decide) (by decide) ?_
           exact J93i _ _ e5_ (3 : Int32) ((0 : Int32) ||| c2_) c3_ X69 e69 N8 (fun pl_ hp => (own_run_2 c0_ c1_ c2_ c3_ _ _ _).mpr (Or.inr (Or.inl ⟨by decide, ⟨(own_ce (by decide) hcb he (a := (2 : Int32)) (b := (1 : Int32)) (by decide)).mp hc50_105, hc63_107, hc70_108, hc77_109⟩, Or.inr (fun q => q.2.2 hc77_114), own_iffasc (own_seen1 hc2_) hp⟩)))
          ·refine wcn X69 hx hby d21_77 (feq hc77_114).1 ?_
           refine wil X69 hx hby d21_80 rfl ?_
           refine wil X69 hx hby d21_82 rfl ?_
           show Ends _ _ _ _ T69 (mkF m 84 #[cr o0, cj q8_, cs, ci lv_, cr xa_, ci e5_, ci 3, ci ((0 : Int32) ||| c2_), ci c3_, cu] [(.int c3_), (.int ((0 : Int32) ||| c2_))]) _ _ _
           refine .go (fun _ => XS.ior X69.here hx rfl (hb hby d21_84) rfl) ?_
           refine wst X69 hx hby d21_85 (l' := #[cr o0, cj q8_, cs, ci lv_, cr xa_, ci e5_, ci 3, ci (((0 : Int32) ||| c2_) ||| c3_), ci c3_, cu]) rfl ?_
           refine wii X69 hx hby d21_87 (l' := #[cr o0, cj q8_, cs, ci lv_, cr xa_, ci e5_, ci 4, ci (((0 : Int32) ||| c2_) ||| c3_), ci c3_, cu]) rfl rfl ?_
           refine wgo (pc := 90) (pc' := 46) X69 hx hby d21_90 (by decide) (by decide) ?_
           refine wil X69 hx hby d21_46 rfl ?_
           show Ends _ _ _ _ T69 (mkF m 48 #[cr o0, cj q8_, cs, ci lv_, cr xa_, ci e5_, ci 4, ci (((0 : Int32) ||| c2_) ||| c3_), ci c3_, cu] [(.int 4)]) _ _ _
           refine wil X69 hx hby d21_48 rfl ?_
           refine wcy (pc := 50) (pc' := 93) X69 hx hby d21_50 (flt ((own_e4 hcb he) : ¬ ((4 : Int32) < e5_))).2.1 (by decide) (by decide) ?_
           exact J93i _ _ e5_ (4 : Int32) (((0 : Int32) ||| c2_) ||| c3_) c3_ X69 e69 N8 (fun pl_ hp => (own_run_2 c0_ c1_ c2_ c3_ _ _ _).mpr (Or.inr (Or.inr (⟨by decide, ⟨(own_ce (by decide) hcb he (a := (2 : Int32)) (b := (1 : Int32)) (by decide)).mp hc50_105, hc63_107, hc70_108, hc77_109⟩, ⟨(own_ce (by decide) hcb he (a := (3 : Int32)) (b := (2 : Int32)) (by decide)).mp hc50_110, hc63_112, hc70_113, hc77_114⟩, own_iffasc (own_seen2 hc2_ hc3_) hp⟩))))
       ·refine wcy (pc := 50) (pc' := 93) X69 hx hby d21_50 (flt hc50_110).2.1 (by decide) (by decide) ?_
        exact J93i _ _ e5_ (3 : Int32) ((0 : Int32) ||| c2_) c2_ X69 e69 N8 (fun pl_ hp => (own_run_2 c0_ c1_ c2_ c3_ _ _ _).mpr (Or.inr (Or.inl ⟨by decide, ⟨(own_ce (by decide) hcb he (a := (2 : Int32)) (b := (1 : Int32)) (by decide)).mp hc50_105, hc63_107, hc70_108, hc77_109⟩, Or.inl (Classical.not_not.mp (fun q => hc50_110 ((own_ce (by decide) hcb he (a := (3 : Int32)) (b := (2 : Int32)) (by decide)).mpr q))), own_iffasc (own_seen1 hc2_) hp⟩)))
   ·refine wcy (pc := 50) (pc' := 93) X69 hx hby d21_50 (flt hc50_105).2.1 (by decide) (by decide) ?_
    exact J93u _ _ e5_ (2 : Int32) (0 : Int32) X69 e69 N8 (fun pl_ hp => (own_run_2 c0_ c1_ c2_ c3_ _ _ _).mpr (Or.inl ⟨by decide, Or.inl (Classical.not_not.mp (fun q => hc50_105 ((own_ce (by decide) hcb he (a := (2 : Int32)) (b := (1 : Int32)) (by decide)).mpr q))), own_iffasc own_seen0 hp⟩))
  ·show Ends _ _ _ _ T69 (mkF m 46 #[cr o0, cj q8_, cs, ci lv_, cr xa_, ci e5_, ci 3, ci 0, cu, cu] []) _ _ _
   refine wil X69 hx hby d21_46 rfl ?_
   refine wil X69 hx hby d21_48 rfl ?_
   by_cases hc50_115 : (3 : Int32) < e5_
   ·refine wcn X69 hx hby d21_50 (tlt hc50_115).2.1 ?_
    refine wal X69 hx hby d21_53 rfl rfl ?_
    refine wil X69 hx hby d21_55 rfl ?_
    show Ends _ _ _ _ T69 (mkF m 57 #[cr o0, cj q8_, cs, ci lv_, cr xa_, ci e5_, ci 3, ci 0, cu, cu] [(.int 3), (.ref xa_)]) _ _ _
    obtain ⟨cl116, Ar116, q116, S116, M116, H116, G116⟩ := id Vx
    have hin116 := inb_of (j := (3 : Int32)) S116 ⟨by decide, by decide⟩
    refine Ends.go (X69.caload hx (j := (3 : Int32)) (v := (.int c3_)) (by rw [e69]; exact Ar116.1) (State.isArrayOf_alike hZ.alike Ar116.2.1) Ar116.2.2 hin116 (H116.at hin116 rfl) (g := (mkF m 57 #[cr o0, cj q8_, cs, ci lv_, cr xa_, ci e5_, ci 3, ci 0, cu, cu] [(.int 3), (.ref xa_)])) rfl rfl (hb hby d21_57)) ?_
    refine wdu X69 hx hby d21_58 rfl ?_
    refine wst X69 hx hby d21_59 (l' := #[cr o0, cj q8_, cs, ci lv_, cr xa_, ci e5_, ci 3, ci 0, ci c3_, cu]) rfl ?_
    refine wbp X69 hx hby d21_61 ?_
    by_cases hc63_117 : c3_ < (32 : Int32)
    ·refine wcy (pc := 63) (pc' := 93) X69 hx hby d21_63 (tlt hc63_117).1 (by decide) (by decide) ?_
     show Ends _ _ _ _ T69 (mkF m 93 #[cr o0, cj q8_, cs, ci lv_, cr xa_, ci e5_, ci 3, ci 0, ci c3_, cu] []) _ _ _
     exact J93i _ _ e5_ (3 : Int32) (0 : Int32) c3_ X69 e69 N8 (fun pl_ hp => (own_run_3 c0_ c1_ c2_ c3_ _ _ _).mpr (Or.inl ⟨by decide, Or.inr (fun q => q.1 hc63_117), own_iffasc own_seen0 hp⟩))
    ·refine wcn X69 hx hby d21_63 (flt hc63_117).1 ?_
     refine wil X69 hx hby d21_66 rfl ?_
     refine wbp X69 hx hby d21_68 ?_
     by_cases hc70_118 : c3_ = (34 : Int32)
     ·refine wcy (pc := 70) (pc' := 93) X69 hx hby d21_70 (teq hc70_118).1 (by decide) (by decide) ?_
      exact J93i _ _ e5_ (3 : Int32) (0 : Int32) c3_ X69 e69 N8 (fun pl_ hp => (own_run_3 c0_ c1_ c2_ c3_ _ _ _).mpr (Or.inl ⟨by decide, Or.inr (fun q => q.2.1 hc70_118), own_iffasc own_seen0 hp⟩))
     ·refine wcn X69 hx hby d21_70 (feq hc70_118).1 ?_
      show Ends _ _ _ _ T69 (mkF m 73 #[cr o0, cj q8_, cs, ci lv_, cr xa_, ci e5_, ci 3, ci 0, ci c3_, cu] []) _ _ _
      refine wil X69 hx hby d21_73 rfl ?_
      refine wbp X69 hx hby d21_75 ?_
      by_cases hc77_119 : c3_ = (92 : Int32)
      ·refine wcy (pc := 77) (pc' := 93) X69 hx hby d21_77 (teq hc77_119).1 (by decide) (by decide) ?_
       exact J93i _ _ e5_ (3 : Int32) (0 : Int32) c3_ X69 e69 N8 (fun pl_ hp => (own_run_3 c0_ c1_ c2_ c3_ _ _ _).mpr (Or.inl ⟨by decide, Or.inr (fun q => q.2.2 hc77_119), own_iffasc own_seen0 hp⟩))
      ·refine wcn X69 hx hby d21_77 (feq hc77_119).1 ?_
       refine wil X69 hx hby d21_80 rfl ?_
       show Ends _ _ _ _ T69 (mkF m 82 #[cr o0, cj q8_, cs, ci lv_, cr xa_, ci e5_, ci 3, ci 0, ci c3_, cu] [(.int 0)]) _ _ _
       refine wil X69 hx hby d21_82 rfl ?_
       refine .go (fun _ => XS.ior X69.here hx rfl (hb hby d21_84) rfl) ?_
       refine wst X69 hx hby d21_85 (l' := #[cr o0, cj q8_, cs, ci lv_, cr xa_, ci e5_, ci 3, ci ((0 : Int32) ||| c3_), ci c3_, cu]) rfl ?_
       refine wii X69 hx hby d21_87 (l' := #[cr o0, cj q8_, cs, ci lv_, cr xa_, ci e5_, ci 4, ci ((0 : Int32) ||| c3_), ci c3_, cu]) rfl rfl ?_
       refine wgo (pc := 90) (pc' := 46) X69 hx hby d21_90 (by decide) (by decide) ?_
       show Ends _ _ _ _ T69 (mkF m 46 #[cr o0, cj q8_, cs, ci lv_, cr xa_, ci e5_, ci 4, ci ((0 : Int32) ||| c3_), ci c3_, cu] []) _ _ _
       refine wil X69 hx hby d21_46 rfl ?_
       refine wil X69 hx hby d21_48 rfl ?_
       refine wcy (pc := 50) (pc' := 93) X69 hx hby d21_50 (flt ((own_e4 hcb he) : ¬ ((4 : Int32) < e5_))).2.1 (by decide) (by decide) ?_
       exact J93i _ _ e5_ (4 : Int32) ((0 : Int32) ||| c3_) c3_ X69 e69 N8 (fun pl_ hp => (own_run_3 c0_ c1_ c2_ c3_ _ _ _).mpr (Or.inr (⟨by decide, ⟨(own_ce (by decide) hcb he (a := (3 : Int32)) (b := (1 : Int32)) (by decide)).mp hc50_115, hc63_117, hc70_118, hc77_119⟩, own_iffasc (own_seen1 hc3_) hp⟩)))
   ·refine wcy (pc := 50) (pc' := 93) X69 hx hby d21_50 (flt hc50_115).2.1 (by decide) (by decide) ?_
    exact J93u _ _ e5_ (3 : Int32) (0 : Int32) X69 e69 N8 (fun pl_ hp => (own_run_3 c0_ c1_ c2_ c3_ _ _ _).mpr (Or.inl ⟨by decide, Or.inl (Classical.not_not.mp (fun q => hc50_115 ((own_ce (by decide) hcb he (a := (3 : Int32)) (b := (1 : Int32)) (by decide)).mpr q))), own_iffasc own_seen0 hp⟩))
  ·show Ends _ _ _ _ T69 (mkF m 46 #[cr o0, cj q8_, cs, ci lv_, cr xa_, ci e5_, ci 4, ci 0, cu, cu] []) _ _ _
   refine wil X69 hx hby d21_46 rfl ?_
   refine wil X69 hx hby d21_48 rfl ?_
   refine wcy (pc := 50) (pc' := 93) X69 hx hby d21_50 (flt ((own_e4 hcb he) : ¬ ((4 : Int32) < e5_))).2.1 (by decide) (by decide) ?_
   exact J93u _ _ e5_ (4 : Int32) (0 : Int32) X69 e69 N8 (fun pl_ hp => (own_run_4 c0_ c1_ c2_ c3_ _ _ _).mpr (⟨by decide, own_iffasc own_seen0 hp⟩))
 show Ends _ _ _ _ s₁ (mkF m 0 #[cr o0, cj q8_, cs, ci lv_, cu, cu, cu, cu, cu, cu] []) _ _ _
 refine walN X0 hx hby d21_0 rfl rfl ?_
 show Ends _ _ _ _ s₁ (mkF m 1 #[cr o0, cj q8_, cs, ci lv_, cu, cu, cu, cu, cu, cu] [(.ref o0)]) _ _ _
 obtain ⟨T120, X120, e120, st120⟩ := getF X0 hx hZ hown (host := "") (Or.inl (ow hw 61 rfl)) Via.refl e0 Fc (g := (mkF m 1 #[cr o0, cj q8_, cs, ci lv_, cu, cu, cu, cu, cu, cu] [(.ref o0)])) rfl rfl (hb hby d21_1)
 refine Ends.go st120 ?_
 refine was X120 hx hby d21_4 (l' := #[cr o0, cj q8_, cs, ci lv_, cr xa_, cu, cu, cu, cu, cu]) rfl rfl ?_
 refine walN X120 hx hby d21_6 rfl rfl ?_
 obtain ⟨T121, X121, e121, st121⟩ := getF X120 hx hZ hown (host := "") (Or.inl (ow hw 63 rfl)) Via.refl e120 Fl (g := (mkF m 7 #[cr o0, cj q8_, cs, ci lv_, cr xa_, cu, cu, cu, cu, cu] [(.ref o0)])) rfl rfl (hb hby d21_7)
 refine Ends.go st121 ?_
 refine walN X121 hx hby d21_10 rfl rfl ?_
 show Ends _ _ _ _ T121 (mkF m 11 #[cr o0, cj q8_, cs, ci lv_, cr xa_, cu, cu, cu, cu, cu] [(.ref o0), (.int 4)]) _ _ _
 obtain ⟨T122, X122, e122, st122⟩ := getF X121 hx hZ hown (host := "") (Or.inl (ow hw 104 rfl)) Via.refl e121 Fp (g := (mkF m 11 #[cr o0, cj q8_, cs, ci lv_, cr xa_, cu, cu, cu, cu, cu] [(.ref o0), (.int 4)])) rfl rfl (hb hby d21_11)
 refine Ends.go st122 ?_
 refine wis X122 hx hby d21_14 ?_
 refine .go (fun _ => XS.i2l X122.here hx rfl (hb hby d21_15) rfl) ?_
 refine .go (fun _ => XS.lloadN X122.here hx rfl (hb hby d21_16) rfl) ?_
 refine .go (fun _ => XS.lcmp X122.here hx rfl (hb hby d21_17) rfl) ?_
 show Ends _ _ _ _ T122 (mkF m 18 #[cr o0, cj q8_, cs, ci lv_, cr xa_, cu, cu, cu, cu, cu] [(.int (lcmpW (((4 : Int32) - k_).toInt64) q8_))]) _ _ _
 by_cases hc18_123 : (0 : Int32) < (lcmpW (((4 : Int32) - k_).toInt64) q8_)
 ·refine win X122 hx hby d21_18 ((if0 _ _).trans (tlt hc18_123).2.2.2) ?_
  refine walN X122 hx hby d21_21 rfl rfl ?_
  obtain ⟨T124, X124, e124, st124⟩ := getF X122 hx hZ hown (host := "") (Or.inl (ow hw 104 rfl)) Via.refl e122 Fp (g := (mkF m 22 #[cr o0, cj q8_, cs, ci lv_, cr xa_, cu, cu, cu, cu, cu] [(.ref o0)])) rfl rfl (hb hby d21_22)
  refine Ends.go st124 ?_
  refine .go (fun _ => XS.lloadN X124.here hx rfl (hb hby d21_25) rfl) ?_
  refine .go (fun _ => XS.l2i X124.here hx rfl (hb hby d21_26) rfl) ?_
  show Ends _ _ _ _ T124 (mkF m 27 #[cr o0, cj q8_, cs, ci lv_, cr xa_, cu, cu, cu, cu, cu] [(.int (q8_.toInt32)), (.int k_)]) _ _ _
  refine wia X124 hx hby d21_27 ?_
  refine wgo (pc := 28) (pc' := 35) X124 hx hby d21_28 (by decide) (by decide) ?_
  exact J35 _ _ (k_ + (q8_.toInt32)) X124 e124 N0 (own_eT hc18_123)
 ·refine wiy (pc := 18) (pc' := 31) X122 hx hby d21_18 ((if0 _ _).trans (flt hc18_123).2.2.2) (by decide) (by decide) ?_
  refine walN X122 hx hby d21_31 rfl rfl ?_
  obtain ⟨T125, X125, e125, st125⟩ := getF X122 hx hZ hown (host := "") (Or.inl (ow hw 63 rfl)) Via.refl e122 Fl (g := (mkF m 32 #[cr o0, cj q8_, cs, ci lv_, cr xa_, cu, cu, cu, cu, cu] [(.ref o0)])) rfl rfl (hb hby d21_32)
  refine Ends.go st125 ?_
  show Ends _ _ _ _ T125 (mkF m 35 #[cr o0, cj q8_, cs, ci lv_, cr xa_, cu, cu, cu, cu, cu] [(.int 4)]) _ _ _
  exact J35 _ _ (4 : Int32) X125 e125 N0 (own_eF hc18_123)
theorem d32_0 : decode jdk_52_method_5_code 0 = .ok (.getstatic 44, 3) := by decide +kernel
theorem d32_3 : decode jdk_52_method_5_code 3 = .ok (.ifCond .ne 25, 3) := by decide +kernel
theorem d32_28 : decode jdk_52_method_5_code 28 = .ok (.iload_n 1, 1) := by decide +kernel
theorem d32_29 : decode jdk_52_method_5_code 29 = .ok (.iconst 1, 1) := by decide +kernel
theorem d32_30 : decode jdk_52_method_5_code 30 = .ok (.ishl, 1) := by decide +kernel
theorem d32_31 : decode jdk_52_method_5_code 31 = .ok (.istore_n 1, 1) := by decide +kernel
theorem d32_32 : decode jdk_52_method_5_code 32 = .ok (.aload_n 0, 1) := by decide +kernel
theorem d32_33 : decode jdk_52_method_5_code 33 = .ok (.iload_n 1, 1) := by decide +kernel
theorem d32_34 : decode jdk_52_method_5_code 34 = .ok (.iinc 1 1, 3) := by decide +kernel
theorem d32_37 : decode jdk_52_method_5_code 37 = .ok (.baload, 1) := by decide +kernel
theorem d32_38 : decode jdk_52_method_5_code 38 = .ok (.sipush 255, 3) := by decide +kernel
theorem d32_41 : decode jdk_52_method_5_code 41 = .ok (.iand, 1) := by decide +kernel
theorem d32_42 : decode jdk_52_method_5_code 42 = .ok (.getstatic 59, 3) := by decide +kernel
theorem d32_45 : decode jdk_52_method_5_code 45 = .ok (.ishl, 1) := by decide +kernel
theorem d32_46 : decode jdk_52_method_5_code 46 = .ok (.aload_n 0, 1) := by decide +kernel
theorem d32_47 : decode jdk_52_method_5_code 47 = .ok (.iload_n 1, 1) := by decide +kernel
theorem d32_48 : decode jdk_52_method_5_code 48 = .ok (.baload, 1) := by decide +kernel
theorem d32_49 : decode jdk_52_method_5_code 49 = .ok (.sipush 255, 3) := by decide +kernel
theorem d32_52 : decode jdk_52_method_5_code 52 = .ok (.iand, 1) := by decide +kernel
theorem d32_53 : decode jdk_52_method_5_code 53 = .ok (.getstatic 63, 3) := by decide +kernel
theorem d32_56 : decode jdk_52_method_5_code 56 = .ok (.ishl, 1) := by decide +kernel
theorem d32_57 : decode jdk_52_method_5_code 57 = .ok (.ior, 1) := by decide +kernel
theorem d32_58 : decode jdk_52_method_5_code 58 = .ok (.i2c, 1) := by decide +kernel
theorem d32_59 : decode jdk_52_method_5_code 59 = .ok (.ireturn, 1) := by decide +kernel
theorem pn32 : plainName "java/lang/StringUTF16" = true := by first | (simp [plainName, overriddenIn]; done) | decide +kernel
theorem ef32_ri (m : MethodId) (x0 : Addr) (x1 : Int32) : entryFrame m #[(.ref x0), (.int x1)] 2 = mkF m 0 #[.val (.ref x0), .val (.int x1)] [] := by first | (simp [entryFrame, mkF, argsToLocals, Value.category]; done) | rfl
set_option maxRecDepth 65536 in
set_option maxHeartbeats 40000000 in
theorem rx32_13 (l : Launch) (Z : State) (a0 : Array Value) (hw : ∀ d ∈ tables_1, d.before a0 Z = true) (ws : List Jvm.Cond) (n0 : Nat) (h0 : Heap) (O0 : Old Z n0 h0) (G1 : Int32) (G3 : Value) (GF : GlobF Z G1 G3) (b0_ : Addr) (kb_ : ClassId) (c0_ : Int32) (c1_ : Int32) (c2_ : Int32) (c3_ : Int32) (PV_b0_ : Arv Z h0 b0_ kb_ .byte (8 : Int32) [(.int ((c0_ >>> ((0 : Int32) &&& 31)).toInt8.toInt32)), (.int ((c0_ >>> ((8 : Int32) &&& 31)).toInt8.toInt32)), (.int ((c1_ >>> ((0 : Int32) &&& 31)).toInt8.toInt32)), (.int ((c1_ >>> ((8 : Int32) &&& 31)).toInt8.toInt32)), (.int ((c2_ >>> ((0 : Int32) &&& 31)).toInt8.toInt32)), (.int ((c2_ >>> ((8 : Int32) &&& 31)).toInt8.toInt32)), (.int ((c3_ >>> ((0 : Int32) &&& 31)).toInt8.toInt32)), (.int ((c3_ >>> ((8 : Int32) &&& 31)).toInt8.toInt32))] (.int 0)) (hc0_ : 0 ≤ c0_.toInt ∧ c0_.toInt < 65536) :
  Meets1 l ym9 jdk_52_method_5_code 2 (some .char) ws ({ frames := 0, cells := 0, slots := 0, locals := 0 } : Room) #[(.ref b0_), (.int 0)] Z h0 (fun v h L => v = some (.int c0_) ∧ Fr n0 L ∧ Keep h0 h []) := by
 refine MetFree.of_bodySF (plainFor_of_name pn32) hisR ?_
 intro p e s m args below meth c s₁ Bd hml0 hP hK
 obtain ⟨rfl, hZ, hh⟩ := hP
 have hx := Bd.exec
 have hby := Bd.bytes
 have hml : c.maxLocals = 2 := hml0
 have hown : s.vm.findClass "java/lang/StringUTF16" = some m.cls := findClass_of_methodNamed Bd.named
 have hnm := (name_of_methodNamed Bd.named Bd.method).1
 have X0 : Stand p l e ({ frames := 0, cells := 0, slots := 0, locals := 0 } : Room) s m #[(.ref b0_), (.int 0)] below meth c s₁ [] 0 0 := Stand.of_body Bd
 have e0 : s₁.heap = h0 := by rw [← hh, Bd.state]; rfl
 have N0 := Fr.nil n0
 have Z0 := own_old_le O0
 show Ends _ _ _ _ s₁ (entryFrame m #[(.ref b0_), (.int 0)] 2) ({ frames := 0, cells := 0, slots := 0, locals := 0 } : Room).cells ({ frames := 0, cells := 0, slots := 0, locals := 0 } : Room).slots (fun v h L => v = some (.int c0_) ∧ Fr n0 L ∧ Keep h0 h [])
 refine Ends.go (fun _ k => castTop (ef32_ri m b0_ (0 : Int32)) k) ?_
 obtain ⟨SCS, P5, SAD, SHI, SLO, SSF, RG3⟩ := id GF
 have K0 := Keep.refl h0 []
 show Ends _ _ _ _ s₁ (mkF m 0 #[cr b0_, ci 0] []) _ _ _
 obtain ⟨T14, X14, e14, st14⟩ := getS2 X0 hx hZ hown (host := "") (Or.inl (ow hw 158 rfl)) Via.refl e0 (SAD.ext O0.2) (g := (mkF m 0 #[cr b0_, ci 0] [])) rfl (hb hby d32_0)
 refine Ends.go st14 ?_
 refine wiy (pc := 3) (pc' := 28) X14 hx hby d32_3 ((if0 _ _).trans (feq (by decide : ¬ ((1 : Int32) = (0 : Int32)))).2) (by decide) (by decide) ?_
 refine wilN X14 hx hby d32_28 rfl ?_
 refine wic X14 hx hby d32_29 ?_
 show Ends _ _ _ _ T14 (mkF m 30 #[cr b0_, ci 0] [(.int 1), (.int 0)]) _ _ _
 refine .go (fun _ => XS.ishl X14.here hx rfl (hb hby d32_30) rfl) ?_
 refine wstN X14 hx hby d32_31 (l' := #[cr b0_, ci 0]) rfl ?_
 refine walN X14 hx hby d32_32 rfl rfl ?_
 refine wilN X14 hx hby d32_33 rfl ?_
 refine wii X14 hx hby d32_34 (l' := #[cr b0_, ci 1]) rfl rfl ?_
 show Ends _ _ _ _ T14 (mkF m 37 #[cr b0_, ci 1] [(.int 0), (.ref b0_)]) _ _ _
 obtain ⟨cl15, Ar15, q15, S15, M15, H15, G15⟩ := id PV_b0_
 have hin15 := inb_of (j := (0 : Int32)) S15 ⟨by decide, by decide⟩
 refine Ends.go (X14.baloadBytes hx (j := (0 : Int32)) (v := (.int ((c0_ >>> ((0 : Int32) &&& 31)).toInt8.toInt32))) (by rw [e14]; exact Ar15.1) (State.isArrayOf_alike hZ.alike Ar15.2.1) Ar15.2.2 hin15 (H15.at hin15 rfl) (g := (mkF m 37 #[cr b0_, ci 1] [(.int 0), (.ref b0_)])) rfl rfl (hb hby d32_37)) ?_
 refine wsp X14 hx hby d32_38 ?_
 refine wan X14 hx hby d32_41 ?_
 obtain ⟨T16, X16, e16, st16⟩ := getS2 X14 hx hZ hown (host := "") (Or.inl (ow hw 159 rfl)) Via.refl e14 (SHI.ext O0.2) (g := (mkF m 42 #[cr b0_, ci 1] [(.int (((c0_ >>> ((0 : Int32) &&& 31)).toInt8.toInt32) &&& (255 : Int32)))])) rfl (hb hby d32_42)
 refine Ends.go st16 ?_
 refine .go (fun _ => XS.ishl X16.here hx rfl (hb hby d32_45) rfl) ?_
 show Ends _ _ _ _ T16 (mkF m 46 #[cr b0_, ci 1] [(.int ((((c0_ >>> ((0 : Int32) &&& 31)).toInt8.toInt32) &&& (255 : Int32)) <<< ((0 : Int32) &&& 31)))]) _ _ _
 refine walN X16 hx hby d32_46 rfl rfl ?_
 refine wilN X16 hx hby d32_47 rfl ?_
 obtain ⟨cl17, Ar17, q17, S17, M17, H17, G17⟩ := id PV_b0_
 have hin17 := inb_of (j := (1 : Int32)) S17 ⟨by decide, by decide⟩
 refine Ends.go (X16.baloadBytes hx (j := (1 : Int32)) (v := (.int ((c0_ >>> ((8 : Int32) &&& 31)).toInt8.toInt32))) (by rw [e16]; exact Ar17.1) (State.isArrayOf_alike hZ.alike Ar17.2.1) Ar17.2.2 hin17 (H17.at hin17 rfl) (g := (mkF m 48 #[cr b0_, ci 1] [(.int 1), (.ref b0_), (.int ((((c0_ >>> ((0 : Int32) &&& 31)).toInt8.toInt32) &&& (255 : Int32)) <<< ((0 : Int32) &&& 31)))])) rfl rfl (hb hby d32_48)) ?_
 refine wsp X16 hx hby d32_49 ?_
 refine wan X16 hx hby d32_52 ?_
 show Ends _ _ _ _ T16 (mkF m 53 #[cr b0_, ci 1] [(.int (((c0_ >>> ((8 : Int32) &&& 31)).toInt8.toInt32) &&& (255 : Int32))), (.int ((((c0_ >>> ((0 : Int32) &&& 31)).toInt8.toInt32) &&& (255 : Int32)) <<< ((0 : Int32) &&& 31)))]) _ _ _
 obtain ⟨T18, X18, e18, st18⟩ := getS2 X16 hx hZ hown (host := "") (Or.inl (ow hw 160 rfl)) Via.refl e16 (SLO.ext O0.2) (g := (mkF m 53 #[cr b0_, ci 1] [(.int (((c0_ >>> ((8 : Int32) &&& 31)).toInt8.toInt32) &&& (255 : Int32))), (.int ((((c0_ >>> ((0 : Int32) &&& 31)).toInt8.toInt32) &&& (255 : Int32)) <<< ((0 : Int32) &&& 31)))])) rfl (hb hby d32_53)
 refine Ends.go st18 ?_
 refine .go (fun _ => XS.ishl X18.here hx rfl (hb hby d32_56) rfl) ?_
 refine .go (fun _ => XS.ior X18.here hx rfl (hb hby d32_57) rfl) ?_
 refine .go (fun _ => XS.i2c X18.here hx rfl (hb hby d32_58) rfl) ?_
 refine Ends.retZ X18 hx Bd.notSynchronized (t := .char) Bd.returns (by simp) (hb hby d32_59) (by decide) (by decide) ?_
 rw [e18]
 exact ⟨(congrArg (fun z => some (Value.int z)) (own_u16 hc0_)), N0, K0⟩

set_option maxRecDepth 65536 in
set_option maxHeartbeats 40000000 in
theorem rx32_19 (l : Launch) (Z : State) (a0 : Array Value) (hw : ∀ d ∈ tables_1, d.before a0 Z = true) (ws : List Jvm.Cond) (n0 : Nat) (h0 : Heap) (O0 : Old Z n0 h0) (G1 : Int32) (G3 : Value) (GF : GlobF Z G1 G3) (b0_ : Addr) (kb_ : ClassId) (c0_ : Int32) (c1_ : Int32) (c2_ : Int32) (c3_ : Int32) (PV_b0_ : Arv Z h0 b0_ kb_ .byte (8 : Int32) [(.int ((c0_ >>> ((0 : Int32) &&& 31)).toInt8.toInt32)), (.int ((c0_ >>> ((8 : Int32) &&& 31)).toInt8.toInt32)), (.int ((c1_ >>> ((0 : Int32) &&& 31)).toInt8.toInt32)), (.int ((c1_ >>> ((8 : Int32) &&& 31)).toInt8.toInt32)), (.int ((c2_ >>> ((0 : Int32) &&& 31)).toInt8.toInt32)), (.int ((c2_ >>> ((8 : Int32) &&& 31)).toInt8.toInt32)), (.int ((c3_ >>> ((0 : Int32) &&& 31)).toInt8.toInt32)), (.int ((c3_ >>> ((8 : Int32) &&& 31)).toInt8.toInt32))] (.int 0)) (hc1_ : 0 ≤ c1_.toInt ∧ c1_.toInt < 65536) :
  Meets1 l ym9 jdk_52_method_5_code 2 (some .char) ws ({ frames := 0, cells := 0, slots := 0, locals := 0 } : Room) #[(.ref b0_), (.int 1)] Z h0 (fun v h L => v = some (.int c1_) ∧ Fr n0 L ∧ Keep h0 h []) := by
 refine MetFree.of_bodySF (plainFor_of_name pn32) hisR ?_
 intro p e s m args below meth c s₁ Bd hml0 hP hK
 obtain ⟨rfl, hZ, hh⟩ := hP
 have hx := Bd.exec
 have hby := Bd.bytes
 have hml : c.maxLocals = 2 := hml0
 have hown : s.vm.findClass "java/lang/StringUTF16" = some m.cls := findClass_of_methodNamed Bd.named
 have hnm := (name_of_methodNamed Bd.named Bd.method).1
 have X0 : Stand p l e ({ frames := 0, cells := 0, slots := 0, locals := 0 } : Room) s m #[(.ref b0_), (.int 1)] below meth c s₁ [] 0 0 := Stand.of_body Bd
 have e0 : s₁.heap = h0 := by rw [← hh, Bd.state]; rfl
 have N0 := Fr.nil n0
 have Z0 := own_old_le O0
 show Ends _ _ _ _ s₁ (entryFrame m #[(.ref b0_), (.int 1)] 2) ({ frames := 0, cells := 0, slots := 0, locals := 0 } : Room).cells ({ frames := 0, cells := 0, slots := 0, locals := 0 } : Room).slots (fun v h L => v = some (.int c1_) ∧ Fr n0 L ∧ Keep h0 h [])
 refine Ends.go (fun _ k => castTop (ef32_ri m b0_ (1 : Int32)) k) ?_
 obtain ⟨SCS, P5, SAD, SHI, SLO, SSF, RG3⟩ := id GF
 have K0 := Keep.refl h0 []
 show Ends _ _ _ _ s₁ (mkF m 0 #[cr b0_, ci 1] []) _ _ _
 obtain ⟨T20, X20, e20, st20⟩ := getS2 X0 hx hZ hown (host := "") (Or.inl (ow hw 158 rfl)) Via.refl e0 (SAD.ext O0.2) (g := (mkF m 0 #[cr b0_, ci 1] [])) rfl (hb hby d32_0)
 refine Ends.go st20 ?_
 refine wiy (pc := 3) (pc' := 28) X20 hx hby d32_3 ((if0 _ _).trans (feq (by decide : ¬ ((1 : Int32) = (0 : Int32)))).2) (by decide) (by decide) ?_
 refine wilN X20 hx hby d32_28 rfl ?_
 refine wic X20 hx hby d32_29 ?_
 show Ends _ _ _ _ T20 (mkF m 30 #[cr b0_, ci 1] [(.int 1), (.int 1)]) _ _ _
 refine .go (fun _ => XS.ishl X20.here hx rfl (hb hby d32_30) rfl) ?_
 refine wstN X20 hx hby d32_31 (l' := #[cr b0_, ci 2]) rfl ?_
 refine walN X20 hx hby d32_32 rfl rfl ?_
 refine wilN X20 hx hby d32_33 rfl ?_
 refine wii X20 hx hby d32_34 (l' := #[cr b0_, ci 3]) rfl rfl ?_
 show Ends _ _ _ _ T20 (mkF m 37 #[cr b0_, ci 3] [(.int 2), (.ref b0_)]) _ _ _
 obtain ⟨cl21, Ar21, q21, S21, M21, H21, G21⟩ := id PV_b0_
 have hin21 := inb_of (j := (2 : Int32)) S21 ⟨by decide, by decide⟩
 refine Ends.go (X20.baloadBytes hx (j := (2 : Int32)) (v := (.int ((c1_ >>> ((0 : Int32) &&& 31)).toInt8.toInt32))) (by rw [e20]; exact Ar21.1) (State.isArrayOf_alike hZ.alike Ar21.2.1) Ar21.2.2 hin21 (H21.at hin21 rfl) (g := (mkF m 37 #[cr b0_, ci 3] [(.int 2), (.ref b0_)])) rfl rfl (hb hby d32_37)) ?_
 refine wsp X20 hx hby d32_38 ?_
 refine wan X20 hx hby d32_41 ?_
 obtain ⟨T22, X22, e22, st22⟩ := getS2 X20 hx hZ hown (host := "") (Or.inl (ow hw 159 rfl)) Via.refl e20 (SHI.ext O0.2) (g := (mkF m 42 #[cr b0_, ci 3] [(.int (((c1_ >>> ((0 : Int32) &&& 31)).toInt8.toInt32) &&& (255 : Int32)))])) rfl (hb hby d32_42)
 refine Ends.go st22 ?_
 refine .go (fun _ => XS.ishl X22.here hx rfl (hb hby d32_45) rfl) ?_
 show Ends _ _ _ _ T22 (mkF m 46 #[cr b0_, ci 3] [(.int ((((c1_ >>> ((0 : Int32) &&& 31)).toInt8.toInt32) &&& (255 : Int32)) <<< ((0 : Int32) &&& 31)))]) _ _ _
 refine walN X22 hx hby d32_46 rfl rfl ?_
 refine wilN X22 hx hby d32_47 rfl ?_
 obtain ⟨cl23, Ar23, q23, S23, M23, H23, G23⟩ := id PV_b0_
 have hin23 := inb_of (j := (3 : Int32)) S23 ⟨by decide, by decide⟩
 refine Ends.go (X22.baloadBytes hx (j := (3 : Int32)) (v := (.int ((c1_ >>> ((8 : Int32) &&& 31)).toInt8.toInt32))) (by rw [e22]; exact Ar23.1) (State.isArrayOf_alike hZ.alike Ar23.2.1) Ar23.2.2 hin23 (H23.at hin23 rfl) (g := (mkF m 48 #[cr b0_, ci 3] [(.int 3), (.ref b0_), (.int ((((c1_ >>> ((0 : Int32) &&& 31)).toInt8.toInt32) &&& (255 : Int32)) <<< ((0 : Int32) &&& 31)))])) rfl rfl (hb hby d32_48)) ?_
 refine wsp X22 hx hby d32_49 ?_
 refine wan X22 hx hby d32_52 ?_
 show Ends _ _ _ _ T22 (mkF m 53 #[cr b0_, ci 3] [(.int (((c1_ >>> ((8 : Int32) &&& 31)).toInt8.toInt32) &&& (255 : Int32))), (.int ((((c1_ >>> ((0 : Int32) &&& 31)).toInt8.toInt32) &&& (255 : Int32)) <<< ((0 : Int32) &&& 31)))]) _ _ _
 obtain ⟨T24, X24, e24, st24⟩ := getS2 X22 hx hZ hown (host := "") (Or.inl (ow hw 160 rfl)) Via.refl e22 (SLO.ext O0.2) (g := (mkF m 53 #[cr b0_, ci 3] [(.int (((c1_ >>> ((8 : Int32) &&& 31)).toInt8.toInt32) &&& (255 : Int32))), (.int ((((c1_ >>> ((0 : Int32) &&& 31)).toInt8.toInt32) &&& (255 : Int32)) <<< ((0 : Int32) &&& 31)))])) rfl (hb hby d32_53)
 refine Ends.go st24 ?_
 refine .go (fun _ => XS.ishl X24.here hx rfl (hb hby d32_56) rfl) ?_
 refine .go (fun _ => XS.ior X24.here hx rfl (hb hby d32_57) rfl) ?_
 refine .go (fun _ => XS.i2c X24.here hx rfl (hb hby d32_58) rfl) ?_
 refine Ends.retZ X24 hx Bd.notSynchronized (t := .char) Bd.returns (by simp) (hb hby d32_59) (by decide) (by decide) ?_
 rw [e24]
 exact ⟨(congrArg (fun z => some (Value.int z)) (own_u16 hc1_)), N0, K0⟩

set_option maxRecDepth 65536 in
set_option maxHeartbeats 40000000 in
theorem rx32_25 (l : Launch) (Z : State) (a0 : Array Value) (hw : ∀ d ∈ tables_1, d.before a0 Z = true) (ws : List Jvm.Cond) (n0 : Nat) (h0 : Heap) (O0 : Old Z n0 h0) (G1 : Int32) (G3 : Value) (GF : GlobF Z G1 G3) (b0_ : Addr) (kb_ : ClassId) (c0_ : Int32) (c1_ : Int32) (c2_ : Int32) (c3_ : Int32) (PV_b0_ : Arv Z h0 b0_ kb_ .byte (8 : Int32) [(.int ((c0_ >>> ((0 : Int32) &&& 31)).toInt8.toInt32)), (.int ((c0_ >>> ((8 : Int32) &&& 31)).toInt8.toInt32)), (.int ((c1_ >>> ((0 : Int32) &&& 31)).toInt8.toInt32)), (.int ((c1_ >>> ((8 : Int32) &&& 31)).toInt8.toInt32)), (.int ((c2_ >>> ((0 : Int32) &&& 31)).toInt8.toInt32)), (.int ((c2_ >>> ((8 : Int32) &&& 31)).toInt8.toInt32)), (.int ((c3_ >>> ((0 : Int32) &&& 31)).toInt8.toInt32)), (.int ((c3_ >>> ((8 : Int32) &&& 31)).toInt8.toInt32))] (.int 0)) (hc2_ : 0 ≤ c2_.toInt ∧ c2_.toInt < 65536) :
  Meets1 l ym9 jdk_52_method_5_code 2 (some .char) ws ({ frames := 0, cells := 0, slots := 0, locals := 0 } : Room) #[(.ref b0_), (.int 2)] Z h0 (fun v h L => v = some (.int c2_) ∧ Fr n0 L ∧ Keep h0 h []) := by
 refine MetFree.of_bodySF (plainFor_of_name pn32) hisR ?_
 intro p e s m args below meth c s₁ Bd hml0 hP hK
 obtain ⟨rfl, hZ, hh⟩ := hP
 have hx := Bd.exec
 have hby := Bd.bytes
 have hml : c.maxLocals = 2 := hml0
 have hown : s.vm.findClass "java/lang/StringUTF16" = some m.cls := findClass_of_methodNamed Bd.named
 have hnm := (name_of_methodNamed Bd.named Bd.method).1
 have X0 : Stand p l e ({ frames := 0, cells := 0, slots := 0, locals := 0 } : Room) s m #[(.ref b0_), (.int 2)] below meth c s₁ [] 0 0 := Stand.of_body Bd
 have e0 : s₁.heap = h0 := by rw [← hh, Bd.state]; rfl
 have N0 := Fr.nil n0
 have Z0 := own_old_le O0
 show Ends _ _ _ _ s₁ (entryFrame m #[(.ref b0_), (.int 2)] 2) ({ frames := 0, cells := 0, slots := 0, locals := 0 } : Room).cells ({ frames := 0, cells := 0, slots := 0, locals := 0 } : Room).slots (fun v h L => v = some (.int c2_) ∧ Fr n0 L ∧ Keep h0 h [])
 refine Ends.go (fun _ k => castTop (ef32_ri m b0_ (2 : Int32)) k) ?_
 obtain ⟨SCS, P5, SAD, SHI, SLO, SSF, RG3⟩ := id GF
 have K0 := Keep.refl h0 []
 show Ends _ _ _ _ s₁ (mkF m 0 #[cr b0_, ci 2] []) _ _ _
 obtain ⟨T26, X26, e26, st26⟩ := getS2 X0 hx hZ hown (host := "") (Or.inl (ow hw 158 rfl)) Via.refl e0 (SAD.ext O0.2) (g := (mkF m 0 #[cr b0_, ci 2] [])) rfl (hb hby d32_0)
 refine Ends.go st26 ?_
 refine wiy (pc := 3) (pc' := 28) X26 hx hby d32_3 ((if0 _ _).trans (feq (by decide : ¬ ((1 : Int32) = (0 : Int32)))).2) (by decide) (by decide) ?_
 refine wilN X26 hx hby d32_28 rfl ?_
 refine wic X26 hx hby d32_29 ?_
 show Ends _ _ _ _ T26 (mkF m 30 #[cr b0_, ci 2] [(.int 1), (.int 2)]) _ _ _
 refine .go (fun _ => XS.ishl X26.here hx rfl (hb hby d32_30) rfl) ?_
 refine wstN X26 hx hby d32_31 (l' := #[cr b0_, ci 4]) rfl ?_
 refine walN X26 hx hby d32_32 rfl rfl ?_
 refine wilN X26 hx hby d32_33 rfl ?_
 refine wii X26 hx hby d32_34 (l' := #[cr b0_, ci 5]) rfl rfl ?_
 show Ends _ _ _ _ T26 (mkF m 37 #[cr b0_, ci 5] [(.int 4), (.ref b0_)]) _ _ _
 obtain ⟨cl27, Ar27, q27, S27, M27, H27, G27⟩ := id PV_b0_
 have hin27 := inb_of (j := (4 : Int32)) S27 ⟨by decide, by decide⟩
 refine Ends.go (X26.baloadBytes hx (j := (4 : Int32)) (v := (.int ((c2_ >>> ((0 : Int32) &&& 31)).toInt8.toInt32))) (by rw [e26]; exact Ar27.1) (State.isArrayOf_alike hZ.alike Ar27.2.1) Ar27.2.2 hin27 (H27.at hin27 rfl) (g := (mkF m 37 #[cr b0_, ci 5] [(.int 4), (.ref b0_)])) rfl rfl (hb hby d32_37)) ?_
 refine wsp X26 hx hby d32_38 ?_
 refine wan X26 hx hby d32_41 ?_
 obtain ⟨T28, X28, e28, st28⟩ := getS2 X26 hx hZ hown (host := "") (Or.inl (ow hw 159 rfl)) Via.refl e26 (SHI.ext O0.2) (g := (mkF m 42 #[cr b0_, ci 5] [(.int (((c2_ >>> ((0 : Int32) &&& 31)).toInt8.toInt32) &&& (255 : Int32)))])) rfl (hb hby d32_42)
 refine Ends.go st28 ?_
 refine .go (fun _ => XS.ishl X28.here hx rfl (hb hby d32_45) rfl) ?_
 show Ends _ _ _ _ T28 (mkF m 46 #[cr b0_, ci 5] [(.int ((((c2_ >>> ((0 : Int32) &&& 31)).toInt8.toInt32) &&& (255 : Int32)) <<< ((0 : Int32) &&& 31)))]) _ _ _
 refine walN X28 hx hby d32_46 rfl rfl ?_
 refine wilN X28 hx hby d32_47 rfl ?_
 obtain ⟨cl29, Ar29, q29, S29, M29, H29, G29⟩ := id PV_b0_
 have hin29 := inb_of (j := (5 : Int32)) S29 ⟨by decide, by decide⟩
 refine Ends.go (X28.baloadBytes hx (j := (5 : Int32)) (v := (.int ((c2_ >>> ((8 : Int32) &&& 31)).toInt8.toInt32))) (by rw [e28]; exact Ar29.1) (State.isArrayOf_alike hZ.alike Ar29.2.1) Ar29.2.2 hin29 (H29.at hin29 rfl) (g := (mkF m 48 #[cr b0_, ci 5] [(.int 5), (.ref b0_), (.int ((((c2_ >>> ((0 : Int32) &&& 31)).toInt8.toInt32) &&& (255 : Int32)) <<< ((0 : Int32) &&& 31)))])) rfl rfl (hb hby d32_48)) ?_
 refine wsp X28 hx hby d32_49 ?_
 refine wan X28 hx hby d32_52 ?_
 show Ends _ _ _ _ T28 (mkF m 53 #[cr b0_, ci 5] [(.int (((c2_ >>> ((8 : Int32) &&& 31)).toInt8.toInt32) &&& (255 : Int32))), (.int ((((c2_ >>> ((0 : Int32) &&& 31)).toInt8.toInt32) &&& (255 : Int32)) <<< ((0 : Int32) &&& 31)))]) _ _ _
 obtain ⟨T30, X30, e30, st30⟩ := getS2 X28 hx hZ hown (host := "") (Or.inl (ow hw 160 rfl)) Via.refl e28 (SLO.ext O0.2) (g := (mkF m 53 #[cr b0_, ci 5] [(.int (((c2_ >>> ((8 : Int32) &&& 31)).toInt8.toInt32) &&& (255 : Int32))), (.int ((((c2_ >>> ((0 : Int32) &&& 31)).toInt8.toInt32) &&& (255 : Int32)) <<< ((0 : Int32) &&& 31)))])) rfl (hb hby d32_53)
 refine Ends.go st30 ?_
 refine .go (fun _ => XS.ishl X30.here hx rfl (hb hby d32_56) rfl) ?_
 refine .go (fun _ => XS.ior X30.here hx rfl (hb hby d32_57) rfl) ?_
 refine .go (fun _ => XS.i2c X30.here hx rfl (hb hby d32_58) rfl) ?_
 refine Ends.retZ X30 hx Bd.notSynchronized (t := .char) Bd.returns (by simp) (hb hby d32_59) (by decide) (by decide) ?_
 rw [e30]
 exact ⟨(congrArg (fun z => some (Value.int z)) (own_u16 hc2_)), N0, K0⟩

set_option maxRecDepth 65536 in
set_option maxHeartbeats 40000000 in
theorem rx32_31 (l : Launch) (Z : State) (a0 : Array Value) (hw : ∀ d ∈ tables_1, d.before a0 Z = true) (ws : List Jvm.Cond) (n0 : Nat) (h0 : Heap) (O0 : Old Z n0 h0) (G1 : Int32) (G3 : Value) (GF : GlobF Z G1 G3) (b0_ : Addr) (kb_ : ClassId) (c0_ : Int32) (c1_ : Int32) (c2_ : Int32) (c3_ : Int32) (PV_b0_ : Arv Z h0 b0_ kb_ .byte (8 : Int32) [(.int ((c0_ >>> ((0 : Int32) &&& 31)).toInt8.toInt32)), (.int ((c0_ >>> ((8 : Int32) &&& 31)).toInt8.toInt32)), (.int ((c1_ >>> ((0 : Int32) &&& 31)).toInt8.toInt32)), (.int ((c1_ >>> ((8 : Int32) &&& 31)).toInt8.toInt32)), (.int ((c2_ >>> ((0 : Int32) &&& 31)).toInt8.toInt32)), (.int ((c2_ >>> ((8 : Int32) &&& 31)).toInt8.toInt32)), (.int ((c3_ >>> ((0 : Int32) &&& 31)).toInt8.toInt32)), (.int ((c3_ >>> ((8 : Int32) &&& 31)).toInt8.toInt32))] (.int 0)) (hc3_ : 0 ≤ c3_.toInt ∧ c3_.toInt < 65536) :
  Meets1 l ym9 jdk_52_method_5_code 2 (some .char) ws ({ frames := 0, cells := 0, slots := 0, locals := 0 } : Room) #[(.ref b0_), (.int 3)] Z h0 (fun v h L => v = some (.int c3_) ∧ Fr n0 L ∧ Keep h0 h []) := by
 refine MetFree.of_bodySF (plainFor_of_name pn32) hisR ?_
 intro p e s m args below meth c s₁ Bd hml0 hP hK
 obtain ⟨rfl, hZ, hh⟩ := hP
 have hx := Bd.exec
 have hby := Bd.bytes
 have hml : c.maxLocals = 2 := hml0
 have hown : s.vm.findClass "java/lang/StringUTF16" = some m.cls := findClass_of_methodNamed Bd.named
 have hnm := (name_of_methodNamed Bd.named Bd.method).1
 have X0 : Stand p l e ({ frames := 0, cells := 0, slots := 0, locals := 0 } : Room) s m #[(.ref b0_), (.int 3)] below meth c s₁ [] 0 0 := Stand.of_body Bd
 have e0 : s₁.heap = h0 := by rw [← hh, Bd.state]; rfl
 have N0 := Fr.nil n0
 have Z0 := own_old_le O0
 show Ends _ _ _ _ s₁ (entryFrame m #[(.ref b0_), (.int 3)] 2) ({ frames := 0, cells := 0, slots := 0, locals := 0 } : Room).cells ({ frames := 0, cells := 0, slots := 0, locals := 0 } : Room).slots (fun v h L => v = some (.int c3_) ∧ Fr n0 L ∧ Keep h0 h [])
 refine Ends.go (fun _ k => castTop (ef32_ri m b0_ (3 : Int32)) k) ?_
 obtain ⟨SCS, P5, SAD, SHI, SLO, SSF, RG3⟩ := id GF
 have K0 := Keep.refl h0 []
 show Ends _ _ _ _ s₁ (mkF m 0 #[cr b0_, ci 3] []) _ _ _
 obtain ⟨T32, X32, e32, st32⟩ := getS2 X0 hx hZ hown (host := "") (Or.inl (ow hw 158 rfl)) Via.refl e0 (SAD.ext O0.2) (g := (mkF m 0 #[cr b0_, ci 3] [])) rfl (hb hby d32_0)
 refine Ends.go st32 ?_
 refine wiy (pc := 3) (pc' := 28) X32 hx hby d32_3 ((if0 _ _).trans (feq (by decide : ¬ ((1 : Int32) = (0 : Int32)))).2) (by decide) (by decide) ?_
 refine wilN X32 hx hby d32_28 rfl ?_
 refine wic X32 hx hby d32_29 ?_
 show Ends _ _ _ _ T32 (mkF m 30 #[cr b0_, ci 3] [(.int 1), (.int 3)]) _ _ _
 refine .go (fun _ => XS.ishl X32.here hx rfl (hb hby d32_30) rfl) ?_
 refine wstN X32 hx hby d32_31 (l' := #[cr b0_, ci 6]) rfl ?_
 refine walN X32 hx hby d32_32 rfl rfl ?_
 refine wilN X32 hx hby d32_33 rfl ?_
 refine wii X32 hx hby d32_34 (l' := #[cr b0_, ci 7]) rfl rfl ?_
 show Ends _ _ _ _ T32 (mkF m 37 #[cr b0_, ci 7] [(.int 6), (.ref b0_)]) _ _ _
 obtain ⟨cl33, Ar33, q33, S33, M33, H33, G33⟩ := id PV_b0_
 have hin33 := inb_of (j := (6 : Int32)) S33 ⟨by decide, by decide⟩
 refine Ends.go (X32.baloadBytes hx (j := (6 : Int32)) (v := (.int ((c3_ >>> ((0 : Int32) &&& 31)).toInt8.toInt32))) (by rw [e32]; exact Ar33.1) (State.isArrayOf_alike hZ.alike Ar33.2.1) Ar33.2.2 hin33 (H33.at hin33 rfl) (g := (mkF m 37 #[cr b0_, ci 7] [(.int 6), (.ref b0_)])) rfl rfl (hb hby d32_37)) ?_
 refine wsp X32 hx hby d32_38 ?_
 refine wan X32 hx hby d32_41 ?_
 obtain ⟨T34, X34, e34, st34⟩ := getS2 X32 hx hZ hown (host := "") (Or.inl (ow hw 159 rfl)) Via.refl e32 (SHI.ext O0.2) (g := (mkF m 42 #[cr b0_, ci 7] [(.int (((c3_ >>> ((0 : Int32) &&& 31)).toInt8.toInt32) &&& (255 : Int32)))])) rfl (hb hby d32_42)
 refine Ends.go st34 ?_
 refine .go (fun _ => XS.ishl X34.here hx rfl (hb hby d32_45) rfl) ?_
 show Ends _ _ _ _ T34 (mkF m 46 #[cr b0_, ci 7] [(.int ((((c3_ >>> ((0 : Int32) &&& 31)).toInt8.toInt32) &&& (255 : Int32)) <<< ((0 : Int32) &&& 31)))]) _ _ _
 refine walN X34 hx hby d32_46 rfl rfl ?_
 refine wilN X34 hx hby d32_47 rfl ?_
 obtain ⟨cl35, Ar35, q35, S35, M35, H35, G35⟩ := id PV_b0_
 have hin35 := inb_of (j := (7 : Int32)) S35 ⟨by decide, by decide⟩
 refine Ends.go (X34.baloadBytes hx (j := (7 : Int32)) (v := (.int ((c3_ >>> ((8 : Int32) &&& 31)).toInt8.toInt32))) (by rw [e34]; exact Ar35.1) (State.isArrayOf_alike hZ.alike Ar35.2.1) Ar35.2.2 hin35 (H35.at hin35 rfl) (g := (mkF m 48 #[cr b0_, ci 7] [(.int 7), (.ref b0_), (.int ((((c3_ >>> ((0 : Int32) &&& 31)).toInt8.toInt32) &&& (255 : Int32)) <<< ((0 : Int32) &&& 31)))])) rfl rfl (hb hby d32_48)) ?_
 refine wsp X34 hx hby d32_49 ?_
 refine wan X34 hx hby d32_52 ?_
 show Ends _ _ _ _ T34 (mkF m 53 #[cr b0_, ci 7] [(.int (((c3_ >>> ((8 : Int32) &&& 31)).toInt8.toInt32) &&& (255 : Int32))), (.int ((((c3_ >>> ((0 : Int32) &&& 31)).toInt8.toInt32) &&& (255 : Int32)) <<< ((0 : Int32) &&& 31)))]) _ _ _
 obtain ⟨T36, X36, e36, st36⟩ := getS2 X34 hx hZ hown (host := "") (Or.inl (ow hw 160 rfl)) Via.refl e34 (SLO.ext O0.2) (g := (mkF m 53 #[cr b0_, ci 7] [(.int (((c3_ >>> ((8 : Int32) &&& 31)).toInt8.toInt32) &&& (255 : Int32))), (.int ((((c3_ >>> ((0 : Int32) &&& 31)).toInt8.toInt32) &&& (255 : Int32)) <<< ((0 : Int32) &&& 31)))])) rfl (hb hby d32_53)
 refine Ends.go st36 ?_
 refine .go (fun _ => XS.ishl X36.here hx rfl (hb hby d32_56) rfl) ?_
 refine .go (fun _ => XS.ior X36.here hx rfl (hb hby d32_57) rfl) ?_
 refine .go (fun _ => XS.i2c X36.here hx rfl (hb hby d32_58) rfl) ?_
 refine Ends.retZ X36 hx Bd.notSynchronized (t := .char) Bd.returns (by simp) (hb hby d32_59) (by decide) (by decide) ?_
 rw [e36]
 exact ⟨(congrArg (fun z => some (Value.int z)) (own_u16 hc3_)), N0, K0⟩

theorem rmG (l : Launch) (Z : State) (a0 : Array Value) (hw : ∀ d ∈ tables_1, d.before a0 Z = true) (ws : List Jvm.Cond) (n0 : Nat) (h0 : Heap) (O0 : Old Z n0 h0) (G1 : Int32) (G3 : Value) (GF : GlobF Z G1 G3) (b0_ : Addr) (kb_ : ClassId) (c0_ c1_ c2_ c3_ ix_ : Int32) (Vb : Arv Z h0 b0_ kb_ .byte (8 : Int32) [(.int ((c0_ >>> ((0 : Int32) &&& 31)).toInt8.toInt32)), (.int ((c0_ >>> ((8 : Int32) &&& 31)).toInt8.toInt32)), (.int ((c1_ >>> ((0 : Int32) &&& 31)).toInt8.toInt32)), (.int ((c1_ >>> ((8 : Int32) &&& 31)).toInt8.toInt32)), (.int ((c2_ >>> ((0 : Int32) &&& 31)).toInt8.toInt32)), (.int ((c2_ >>> ((8 : Int32) &&& 31)).toInt8.toInt32)), (.int ((c3_ >>> ((0 : Int32) &&& 31)).toInt8.toInt32)), (.int ((c3_ >>> ((8 : Int32) &&& 31)).toInt8.toInt32))] (.int 0)) (hc0_ : 0 ≤ c0_.toInt ∧ c0_.toInt < 65536) (hc1_ : 0 ≤ c1_.toInt ∧ c1_.toInt < 65536) (hc2_ : 0 ≤ c2_.toInt ∧ c2_.toInt < 65536) (hc3_ : 0 ≤ c3_.toInt ∧ c3_.toInt < 65536) (hin : own_in7 ix_) :
  Meets1 l ym9 jdk_52_method_5_code 2 (some .char) ws ({ frames := 0, cells := 0, slots := 0, locals := 0 } : Room) #[(.ref b0_), (.int ix_)] Z h0 (fun v h L => v = some (.int (own_sel c0_ c1_ c2_ c3_ ix_)) ∧ Fr n0 L ∧ Keep h0 h []) := by
 rcases hin with rfl | rfl | rfl | rfl
 ·exact rx32_13 l Z a0 hw ws n0 h0 O0 G1 G3 GF b0_ kb_ c0_ c1_ c2_ c3_ Vb hc0_
 ·exact rx32_19 l Z a0 hw ws n0 h0 O0 G1 G3 GF b0_ kb_ c0_ c1_ c2_ c3_ Vb hc1_
 ·exact rx32_25 l Z a0 hw ws n0 h0 O0 G1 G3 GF b0_ kb_ c0_ c1_ c2_ c3_ Vb hc2_
 ·exact rx32_31 l Z a0 hw ws n0 h0 O0 G1 G3 GF b0_ kb_ c0_ c1_ c2_ c3_ Vb hc3_

theorem d24_0 : decode prog_85_method_19_code 0 = .ok (.aload_n 0, 1) := by decide +kernel
theorem d24_1 : decode prog_85_method_19_code 1 = .ok (.getfield 48, 3) := by decide +kernel
theorem d24_4 : decode prog_85_method_19_code 4 = .ok (.aload_n 0, 1) := by decide +kernel
theorem d24_5 : decode prog_85_method_19_code 5 = .ok (.getfield 37, 3) := by decide +kernel
theorem d24_8 : decode prog_85_method_19_code 8 = .ok (.iadd, 1) := by decide +kernel
theorem d24_9 : decode prog_85_method_19_code 9 = .ok (.i2l, 1) := by decide +kernel
theorem d24_10 : decode prog_85_method_19_code 10 = .ok (.lreturn, 1) := by decide +kernel
theorem pn24 : plainName "com/example/ratatoskr/ratatoskr/core/internal/StringInput" = true := by first | (simp [plainName, overriddenIn]; done) | decide +kernel
theorem ef24_r (m : MethodId) (x0 : Addr) : entryFrame m #[(.ref x0)] 1 = mkF m 0 #[.val (.ref x0)] [] := by first | (simp [entryFrame, mkF, argsToLocals, Value.category]; done) | rfl
set_option maxRecDepth 65536 in
set_option maxHeartbeats 40000000 in
theorem rx24_131 (l : Launch) (Z : State) (a0 : Array Value) (hw : ∀ d ∈ tables_1, d.before a0 Z = true) (ws : List Jvm.Cond) (n0 : Nat) (h0 : Heap) (O0 : Old Z n0 h0)  (si_ : Addr) (p_ : Int32) (PF_si__base : Fld Z h0 si_ cSI "base" "I" (.int 0)) (PF_si__position : Fld Z h0 si_ cSI "position" "I" (.int p_)) :
  Meets1 l ym10 prog_85_method_19_code 1 (some .long) ws ({ frames := 0, cells := 0, slots := 0, locals := 0 } : Room) #[(.ref si_)] Z h0 (fun v h L => v = some (.long (((0 : Int32) + p_).toInt64)) ∧ Fr n0 L ∧ Keep h0 h []) := by
 refine MetFree.of_bodySF (plainFor_of_name pn24) hisR ?_
 intro p e s m args below meth c s₁ Bd hml0 hP hK
 obtain ⟨rfl, hZ, hh⟩ := hP
 have hx := Bd.exec
 have hby := Bd.bytes
 have hml : c.maxLocals = 1 := hml0
 have hown : s.vm.findClass "com/example/ratatoskr/ratatoskr/core/internal/StringInput" = some m.cls := findClass_of_methodNamed Bd.named
 have hnm := (name_of_methodNamed Bd.named Bd.method).1
 have X0 : Stand p l e ({ frames := 0, cells := 0, slots := 0, locals := 0 } : Room) s m #[(.ref si_)] below meth c s₁ [] 0 0 := Stand.of_body Bd
 have e0 : s₁.heap = h0 := by rw [← hh, Bd.state]; rfl
 have N0 := Fr.nil n0
 have Z0 := own_old_le O0
 show Ends _ _ _ _ s₁ (entryFrame m #[(.ref si_)] 1) ({ frames := 0, cells := 0, slots := 0, locals := 0 } : Room).cells ({ frames := 0, cells := 0, slots := 0, locals := 0 } : Room).slots (fun v h L => v = some (.long (((0 : Int32) + p_).toInt64)) ∧ Fr n0 L ∧ Keep h0 h [])
 refine Ends.go (fun _ k => castTop (ef24_r m si_) k) ?_
 have K0 := Keep.refl h0 []
 show Ends _ _ _ _ s₁ (mkF m 0 #[cr si_] []) _ _ _
 refine walN X0 hx hby d24_0 rfl rfl ?_
 obtain ⟨T132, X132, e132, st132⟩ := getF X0 hx hZ hown (host := "") (Or.inl (ow hw 102 rfl)) Via.refl e0 PF_si__base (g := (mkF m 1 #[cr si_] [(.ref si_)])) rfl rfl (hb hby d24_1)
 refine Ends.go st132 ?_
 refine walN X132 hx hby d24_4 rfl rfl ?_
 obtain ⟨T133, X133, e133, st133⟩ := getF X132 hx hZ hown (host := "") (Or.inl (ow hw 104 rfl)) Via.refl e132 PF_si__position (g := (mkF m 5 #[cr si_] [(.ref si_), (.int 0)])) rfl rfl (hb hby d24_5)
 refine Ends.go st133 ?_
 show Ends _ _ _ _ T133 (mkF m 8 #[cr si_] [(.int p_), (.int 0)]) _ _ _
 refine wia X133 hx hby d24_8 ?_
 refine .go (fun _ => XS.i2l X133.here hx rfl (hb hby d24_9) rfl) ?_
 refine Ends.ret X133 hx Bd.notSynchronized (t := .long) Bd.returns rfl (Or.inr (Or.inl ⟨rfl, rfl, _, rfl⟩)) (hb hby d24_10) (by decide) (by decide) ?_
 rw [e133]
 exact ⟨rfl, N0, K0⟩

theorem d26_0 : decode prog_74_method_30_code 0 = .ok (.aload_n 0, 1) := by decide +kernel
theorem d26_1 : decode prog_74_method_30_code 1 = .ok (.getfield 69, 3) := by decide +kernel
theorem d26_4 : decode prog_74_method_30_code 4 = .ok (.ifnull 17, 3) := by decide +kernel
theorem d26_21 : decode prog_74_method_30_code 21 = .ok (.iconst 0, 1) := by decide +kernel
theorem d26_22 : decode prog_74_method_30_code 22 = .ok (.ireturn, 1) := by decide +kernel
theorem pn26 : plainName "com/example/ratatoskr/ratatoskr/core/internal/Input" = true := by first | (simp [plainName, overriddenIn]; done) | decide +kernel
theorem pdx_1 : parseMethodDescriptor "()J" = some ⟨[], some .long⟩ := by decide +kernel
theorem ef26_r (m : MethodId) (x0 : Addr) : entryFrame m #[(.ref x0)] 1 = mkF m 0 #[.val (.ref x0)] [] := by first | (simp [entryFrame, mkF, argsToLocals, Value.category]; done) | rfl
set_option maxRecDepth 65536 in
set_option maxHeartbeats 40000000 in
theorem rx26_136 (l : Launch) (Z : State) (a0 : Array Value) (hw : ∀ d ∈ tables_1, d.before a0 Z = true) (ws : List Jvm.Cond) (n0 : Nat) (h0 : Heap) (O0 : Old Z n0 h0)  (si_ : Addr) (PF_si__decoded : Fld Z h0 si_ "com/example/ratatoskr/ratatoskr/core/internal/Input" "decoded" "Lcom/example/ratatoskr/ratatoskr/core/internal/DecodedChars;" .null) :
  Meets1 l ym11 prog_74_method_30_code 1 (some .boolean) ws ({ frames := 0, cells := 0, slots := 0, locals := 0 } : Room) #[(.ref si_)] Z h0 (fun v h L => v = some (.int 0) ∧ Fr n0 L ∧ Keep h0 h []) := by
 refine MetFree.of_bodySF (plainFor_of_name pn26) hisR ?_
 intro p e s m args below meth c s₁ Bd hml0 hP hK
 obtain ⟨rfl, hZ, hh⟩ := hP
 have hx := Bd.exec
 have hby := Bd.bytes
 have hml : c.maxLocals = 1 := hml0
 have hown : s.vm.findClass "com/example/ratatoskr/ratatoskr/core/internal/Input" = some m.cls := findClass_of_methodNamed Bd.named
 have hnm := (name_of_methodNamed Bd.named Bd.method).1
 have X0 : Stand p l e ({ frames := 0, cells := 0, slots := 0, locals := 0 } : Room) s m #[(.ref si_)] below meth c s₁ [] 0 0 := Stand.of_body Bd
 have e0 : s₁.heap = h0 := by rw [← hh, Bd.state]; rfl
 have N0 := Fr.nil n0
 have Z0 := own_old_le O0
 show Ends _ _ _ _ s₁ (entryFrame m #[(.ref si_)] 1) ({ frames := 0, cells := 0, slots := 0, locals := 0 } : Room).cells ({ frames := 0, cells := 0, slots := 0, locals := 0 } : Room).slots (fun v h L => v = some (.int 0) ∧ Fr n0 L ∧ Keep h0 h [])
 refine Ends.go (fun _ k => castTop (ef26_r m si_) k) ?_
 have K0 := Keep.refl h0 []
 show Ends _ _ _ _ s₁ (mkF m 0 #[cr si_] []) _ _ _
 refine walN X0 hx hby d26_0 rfl rfl ?_
 obtain ⟨T137, X137, e137, st137⟩ := getF X0 hx hZ hown (host := "") (Or.inl (ow hw 138 rfl)) Via.refl e0 PF_si__decoded (g := (mkF m 1 #[cr si_] [(.ref si_)])) rfl rfl (hb hby d26_1)
 refine Ends.go st137 ?_
 refine .go (fun _ => XS.ifnullYes X137.here hx rfl (pc0 := 4) (pc' := 21) rfl (hb hby d26_4) rfl (by decide) (by decide)) ?_
 refine wic X137 hx hby d26_21 ?_
 show Ends _ _ _ _ T137 (mkF m 22 #[cr si_] [(.int 0)]) _ _ _
 refine Ends.retZ X137 hx Bd.notSynchronized (t := .boolean) Bd.returns (by simp) (hb hby d26_22) (by decide) (by decide) ?_
 rw [e137]
 exact ⟨rfl, N0, K0⟩

theorem d25_0 : decode prog_85_method_18_code 0 = .ok (.aload_n 0, 1) := by decide +kernel
theorem d25_1 : decode prog_85_method_18_code 1 = .ok (.invokevirtual 164, 3) := by decide +kernel
theorem d25_4 : decode prog_85_method_18_code 4 = .ok (.ifCond .ne 14, 3) := by decide +kernel
theorem d25_7 : decode prog_85_method_18_code 7 = .ok (.aload_n 0, 1) := by decide +kernel
theorem d25_8 : decode prog_85_method_18_code 8 = .ok (.getfield 44, 3) := by decide +kernel
theorem d25_11 : decode prog_85_method_18_code 11 = .ok (.ifCond .eq 7, 3) := by decide +kernel
theorem d25_18 : decode prog_85_method_18_code 18 = .ok (.iconst 0, 1) := by decide +kernel
theorem d25_19 : decode prog_85_method_18_code 19 = .ok (.ireturn, 1) := by decide +kernel
theorem pn25 : plainName "com/example/ratatoskr/ratatoskr/core/internal/StringInput" = true := by first | (simp [plainName, overriddenIn]; done) | decide +kernel
theorem pdx_2 : parseMethodDescriptor "()Z" = some ⟨[], some .boolean⟩ := by decide +kernel
theorem ef25_r (m : MethodId) (x0 : Addr) : entryFrame m #[(.ref x0)] 1 = mkF m 0 #[.val (.ref x0)] [] := by first | (simp [entryFrame, mkF, argsToLocals, Value.category]; done) | rfl
set_option maxRecDepth 65536 in
set_option maxHeartbeats 40000000 in
theorem rx25_135 (l : Launch) (Z : State) (a0 : Array Value) (hw : ∀ d ∈ tables_1, d.before a0 Z = true) (ws : List Jvm.Cond) (n0 : Nat) (h0 : Heap) (O0 : Old Z n0 h0)  (si_ : Addr) (PF_si__decoded : Fld Z h0 si_ "com/example/ratatoskr/ratatoskr/core/internal/Input" "decoded" "Lcom/example/ratatoskr/ratatoskr/core/internal/DecodedChars;" .null) (PE_si_ : Exa Z h0 si_ cSI) (PF_si__ascii : Fld Z h0 si_ cSI "ascii" "Z" (.int 0)) :
  Meets1 l ym12 prog_85_method_18_code 1 (some .boolean) ws ({ frames := 1, cells := 0, slots := 0, locals := 12 } : Room) #[(.ref si_)] Z h0 (fun v h L => v = some (.int 0) ∧ Fr n0 L ∧ Keep h0 h []) := by
 refine MetFree.of_bodySF (plainFor_of_name pn25) hisR ?_
 intro p e s m args below meth c s₁ Bd hml0 hP hK
 obtain ⟨rfl, hZ, hh⟩ := hP
 have hx := Bd.exec
 have hby := Bd.bytes
 have hml : c.maxLocals = 1 := hml0
 have hown : s.vm.findClass "com/example/ratatoskr/ratatoskr/core/internal/StringInput" = some m.cls := findClass_of_methodNamed Bd.named
 have hnm := (name_of_methodNamed Bd.named Bd.method).1
 have X0 : Stand p l e ({ frames := 1, cells := 0, slots := 0, locals := 12 } : Room) s m #[(.ref si_)] below meth c s₁ [] 0 0 := Stand.of_body Bd
 have e0 : s₁.heap = h0 := by rw [← hh, Bd.state]; rfl
 have N0 := Fr.nil n0
 have Z0 := own_old_le O0
 show Ends _ _ _ _ s₁ (entryFrame m #[(.ref si_)] 1) ({ frames := 1, cells := 0, slots := 0, locals := 12 } : Room).cells ({ frames := 1, cells := 0, slots := 0, locals := 12 } : Room).slots (fun v h L => v = some (.int 0) ∧ Fr n0 L ∧ Keep h0 h [])
 refine Ends.go (fun _ k => castTop (ef25_r m si_) k) ?_
 have K0 := Keep.refl h0 []
 show Ends _ _ _ _ s₁ (mkF m 0 #[cr si_] []) _ _ _
 refine walN X0 hx hby d25_0 rfl rfl ?_
 obtain ⟨cq138, kq138, q138a, q138b, q138c⟩ := isOf hZ e0 PE_si_
 obtain ⟨_, _, ⟨T138, L138, k138, n138⟩, -, X138, ⟨Lc138, hQ138, l138, y138, z138⟩, st138⟩ := X0.virtualBackUp hx (x := ym13) (y := ym11) hown (mvT hZ (ow hw 132 rfl)) (mvT hZ (ow hw 133 rfl)) (mvT hZ (ow hw 134 rfl)) (by decide) (mvT hZ (ow hw 136 rfl)) (mvT hZ (ow hw 135 rfl)) (own_backOf (W := 0) (rx26_136 l Z a0 hw [] n0 h0 O0  si_ PF_si__decoded) hZ (ow hw 137 rfl) (ow hw 42 rfl) (by decide) (by decide)) q138a q138c (g := (mkF m 1 #[cr si_] [(.ref si_)])) rfl (by rw [hml]; rfl) (Steps.refl _) (argsL := []) (rest := []) (lenOf pdx_2 rfl) rfl (by show 2 * 0 + _ ≤ _; exact Nat.le_of_eq rfl) (hb hby d25_1) (fun _ _ => ⟨rfl, e0, (by decide : 0 + 0 ≤ _), (by decide : 0 + 0 ≤ _)⟩)
 dsimp only [Pt.U, Pt.locs, Pt.cells, Pt.slots] at X138 l138 y138 z138 st138 hQ138
 subst l138 y138 z138
 obtain ⟨rfl, N138q, K138c⟩ := hQ138
 have N138 := Fr.app N0 N138q
 refine Ends.go (fun _ k => st138.trans k) ?_
 obtain ⟨h138, e138⟩ : ∃ z, T138.heap = z := ⟨_, rfl⟩
 rw [e138] at K138c
 have K138 := K0.trans K138c all0
 have O138 := O0.keep K138c all0
 refine win X138 hx hby d25_4 ((if0 _ _).trans (teq (by decide : (0 : Int32) = (0 : Int32))).2) ?_
 refine walN X138 hx hby d25_7 rfl rfl ?_
 show Ends _ _ _ _ T138 (mkF m 8 #[cr si_] [(.ref si_)]) _ _ _
 obtain ⟨T139, X139, e139, st139⟩ := getF X138 hx hZ hown (host := "") (Or.inl (ow hw 108 rfl)) Via.refl e138 (PF_si__ascii.keep K138c nin0) (g := (mkF m 8 #[cr si_] [(.ref si_)])) rfl rfl (hb hby d25_8)
 refine Ends.go st139 ?_
 refine wiy (pc := 11) (pc' := 18) X139 hx hby d25_11 ((if0 _ _).trans (teq (by decide : (0 : Int32) = (0 : Int32))).1) (by decide) (by decide) ?_
 refine wic X139 hx hby d25_18 ?_
 refine Ends.retZ X139 hx Bd.notSynchronized (t := .boolean) Bd.returns (by simp) (hb hby d25_19) (by decide) (by decide) ?_
 rw [e139]
 exact ⟨rfl, N138, K138⟩

theorem d25_14 : decode prog_85_method_18_code 14 = .ok (.iconst 1, 1) := by decide +kernel
theorem d25_15 : decode prog_85_method_18_code 15 = .ok (.goto 4, 3) := by decide +kernel
set_option maxRecDepth 65536 in
set_option maxHeartbeats 40000000 in
theorem rx25_142 (l : Launch) (Z : State) (a0 : Array Value) (hw : ∀ d ∈ tables_1, d.before a0 Z = true) (ws : List Jvm.Cond) (n0 : Nat) (h0 : Heap) (O0 : Old Z n0 h0)  (si_ : Addr) (PF_si__decoded : Fld Z h0 si_ "com/example/ratatoskr/ratatoskr/core/internal/Input" "decoded" "Lcom/example/ratatoskr/ratatoskr/core/internal/DecodedChars;" .null) (PE_si_ : Exa Z h0 si_ cSI) (PF_si__ascii : Fld Z h0 si_ cSI "ascii" "Z" (.int 1)) :
  Meets1 l ym12 prog_85_method_18_code 1 (some .boolean) ws ({ frames := 1, cells := 0, slots := 0, locals := 12 } : Room) #[(.ref si_)] Z h0 (fun v h L => v = some (.int 1) ∧ Fr n0 L ∧ Keep h0 h []) := by
 refine MetFree.of_bodySF (plainFor_of_name pn25) hisR ?_
 intro p e s m args below meth c s₁ Bd hml0 hP hK
 obtain ⟨rfl, hZ, hh⟩ := hP
 have hx := Bd.exec
 have hby := Bd.bytes
 have hml : c.maxLocals = 1 := hml0
 have hown : s.vm.findClass "com/example/ratatoskr/ratatoskr/core/internal/StringInput" = some m.cls := findClass_of_methodNamed Bd.named
 have hnm := (name_of_methodNamed Bd.named Bd.method).1
 have X0 : Stand p l e ({ frames := 1, cells := 0, slots := 0, locals := 12 } : Room) s m #[(.ref si_)] below meth c s₁ [] 0 0 := Stand.of_body Bd
 have e0 : s₁.heap = h0 := by rw [← hh, Bd.state]; rfl
 have N0 := Fr.nil n0
 have Z0 := own_old_le O0
 show Ends _ _ _ _ s₁ (entryFrame m #[(.ref si_)] 1) ({ frames := 1, cells := 0, slots := 0, locals := 12 } : Room).cells ({ frames := 1, cells := 0, slots := 0, locals := 12 } : Room).slots (fun v h L => v = some (.int 1) ∧ Fr n0 L ∧ Keep h0 h [])
 refine Ends.go (fun _ k => castTop (ef25_r m si_) k) ?_
 have K0 := Keep.refl h0 []
 show Ends _ _ _ _ s₁ (mkF m 0 #[cr si_] []) _ _ _
 refine walN X0 hx hby d25_0 rfl rfl ?_
 obtain ⟨cq143, kq143, q143a, q143b, q143c⟩ := isOf hZ e0 PE_si_
 obtain ⟨_, _, ⟨T143, L143, k143, n143⟩, -, X143, ⟨Lc143, hQ143, l143, y143, z143⟩, st143⟩ := X0.virtualBackUp hx (x := ym13) (y := ym11) hown (mvT hZ (ow hw 132 rfl)) (mvT hZ (ow hw 133 rfl)) (mvT hZ (ow hw 134 rfl)) (by decide) (mvT hZ (ow hw 136 rfl)) (mvT hZ (ow hw 135 rfl)) (own_backOf (W := 0) (rx26_136 l Z a0 hw [] n0 h0 O0  si_ PF_si__decoded) hZ (ow hw 137 rfl) (ow hw 42 rfl) (by decide) (by decide)) q143a q143c (g := (mkF m 1 #[cr si_] [(.ref si_)])) rfl (by rw [hml]; rfl) (Steps.refl _) (argsL := []) (rest := []) (lenOf pdx_2 rfl) rfl (by show 2 * 0 + _ ≤ _; exact Nat.le_of_eq rfl) (hb hby d25_1) (fun _ _ => ⟨rfl, e0, (by decide : 0 + 0 ≤ _), (by decide : 0 + 0 ≤ _)⟩)
 dsimp only [Pt.U, Pt.locs, Pt.cells, Pt.slots] at X143 l143 y143 z143 st143 hQ143
 subst l143 y143 z143
 obtain ⟨rfl, N143q, K143c⟩ := hQ143
 have N143 := Fr.app N0 N143q
 refine Ends.go (fun _ k => st143.trans k) ?_
 obtain ⟨h143, e143⟩ : ∃ z, T143.heap = z := ⟨_, rfl⟩
 rw [e143] at K143c
 have K143 := K0.trans K143c all0
 have O143 := O0.keep K143c all0
 refine win X143 hx hby d25_4 ((if0 _ _).trans (teq (by decide : (0 : Int32) = (0 : Int32))).2) ?_
 refine walN X143 hx hby d25_7 rfl rfl ?_
 show Ends _ _ _ _ T143 (mkF m 8 #[cr si_] [(.ref si_)]) _ _ _
 obtain ⟨T144, X144, e144, st144⟩ := getF X143 hx hZ hown (host := "") (Or.inl (ow hw 108 rfl)) Via.refl e143 (PF_si__ascii.keep K143c nin0) (g := (mkF m 8 #[cr si_] [(.ref si_)])) rfl rfl (hb hby d25_8)
 refine Ends.go st144 ?_
 refine win X144 hx hby d25_11 ((if0 _ _).trans (feq (by decide : ¬ ((1 : Int32) = (0 : Int32)))).1) ?_
 refine wic X144 hx hby d25_14 ?_
 refine wgo (pc := 15) (pc' := 19) X144 hx hby d25_15 (by decide) (by decide) ?_
 refine Ends.retZ X144 hx Bd.notSynchronized (t := .boolean) Bd.returns (by simp) (hb hby d25_19) (by decide) (by decide) ?_
 rw [e144]
 exact ⟨rfl, N143, K143⟩

theorem d20_0 : decode prog_85_method_21_code 0 = .ok (.aload_n 0, 1) := by decide +kernel
theorem d20_1 : decode prog_85_method_21_code 1 = .ok (.aload_n 0, 1) := by decide +kernel
theorem d20_2 : decode prog_85_method_21_code 2 = .ok (.getfield 48, 3) := by decide +kernel
theorem d20_5 : decode prog_85_method_21_code 5 = .ok (.aload_n 0, 1) := by decide +kernel
theorem d20_6 : decode prog_85_method_21_code 6 = .ok (.getfield 37, 3) := by decide +kernel
theorem d20_9 : decode prog_85_method_21_code 9 = .ok (.iadd, 1) := by decide +kernel
theorem d20_10 : decode prog_85_method_21_code 10 = .ok (.putfield 110, 3) := by decide +kernel
theorem d20_13 : decode prog_85_method_21_code 13 = .ok (.aload_n 0, 1) := by decide +kernel
theorem d20_14 : decode prog_85_method_21_code 14 = .ok (.iconst 1, 1) := by decide +kernel
theorem d20_15 : decode prog_85_method_21_code 15 = .ok (.putfield 44, 3) := by decide +kernel
theorem d20_18 : decode prog_85_method_21_code 18 = .ok (.return_, 1) := by decide +kernel
theorem pn20 : plainName "com/example/ratatoskr/ratatoskr/core/internal/StringInput" = true := by first | (simp [plainName, overriddenIn]; done) | decide +kernel
theorem pdx_3 : parseMethodDescriptor "([CI)Z" = some ⟨[(.array .char), .int], some .boolean⟩ := by decide +kernel
theorem ef20_r (m : MethodId) (x0 : Addr) : entryFrame m #[(.ref x0)] 1 = mkF m 0 #[.val (.ref x0)] [] := by first | (simp [entryFrame, mkF, argsToLocals, Value.category]; done) | rfl
set_option maxRecDepth 65536 in
set_option maxHeartbeats 40000000 in
theorem rx20_187 (l : Launch) (Z : State) (a0 : Array Value) (hw : ∀ d ∈ tables_1, d.before a0 Z = true) (ws : List Jvm.Cond) (n0 : Nat) (h0 : Heap) (O0 : Old Z n0 h0)  (si_ : Addr) (xa_ : Addr) (PF_si__base : Fld Z h0 si_ cSI "base" "I" (.int 0)) (PF_si__position : Fld Z h0 si_ cSI "position" "I" (.int 0)) (PE_si_ : Exa Z h0 si_ cSI) (PF_si__mark : Fld Z h0 si_ cSI "mark" "I" (.int 0)) (PF_si__ascii : Fld Z h0 si_ cSI "ascii" "Z" (.int 0)) (PF_si__limit : Fld Z h0 si_ cSI "limit" "I" (.int 4)) (PF_si__chars : Fld Z h0 si_ cSI "chars" "[C" (.ref xa_)) (PF_si__decoded : Fld Z h0 si_ "com/example/ratatoskr/ratatoskr/core/internal/Input" "decoded" "Lcom/example/ratatoskr/ratatoskr/core/internal/DecodedChars;" .null) (g_si_ : n0 ≤ si_) :
  Meets1 l ym14 prog_85_method_21_code 1 none ws ({ frames := 0, cells := 0, slots := 0, locals := 0 } : Room) #[(.ref si_)] Z h0 (fun v h L => v = none ∧ Fr n0 L ∧ Keep h0 h [si_] ∧ Fld Z h si_ cSI "base" "I" (.int 0) ∧ Fld Z h si_ cSI "position" "I" (.int 0) ∧ Fld Z h si_ cSI "mark" "I" (.int 0) ∧ Fld Z h si_ cSI "ascii" "Z" (.int 1) ∧ Fld Z h si_ cSI "limit" "I" (.int 4) ∧ Fld Z h si_ cSI "chars" "[C" (.ref xa_) ∧ Fld Z h si_ "com/example/ratatoskr/ratatoskr/core/internal/Input" "decoded" "Lcom/example/ratatoskr/ratatoskr/core/internal/DecodedChars;" .null) := by
 refine MetFree.of_bodySF (plainFor_of_name pn20) hisR ?_
 intro p e s m args below meth c s₁ Bd hml0 hP hK
 obtain ⟨rfl, hZ, hh⟩ := hP
 have hx := Bd.exec
 have hby := Bd.bytes
 have hml : c.maxLocals = 1 := hml0
 have hown : s.vm.findClass "com/example/ratatoskr/ratatoskr/core/internal/StringInput" = some m.cls := findClass_of_methodNamed Bd.named
 have hnm := (name_of_methodNamed Bd.named Bd.method).1
 have X0 : Stand p l e ({ frames := 0, cells := 0, slots := 0, locals := 0 } : Room) s m #[(.ref si_)] below meth c s₁ [] 0 0 := Stand.of_body Bd
 have e0 : s₁.heap = h0 := by rw [← hh, Bd.state]; rfl
 have N0 := Fr.nil n0
 have Z0 := own_old_le O0
 show Ends _ _ _ _ s₁ (entryFrame m #[(.ref si_)] 1) ({ frames := 0, cells := 0, slots := 0, locals := 0 } : Room).cells ({ frames := 0, cells := 0, slots := 0, locals := 0 } : Room).slots (fun v h L => v = none ∧ Fr n0 L ∧ Keep h0 h [si_] ∧ Fld Z h si_ cSI "base" "I" (.int 0) ∧ Fld Z h si_ cSI "position" "I" (.int 0) ∧ Fld Z h si_ cSI "mark" "I" (.int 0) ∧ Fld Z h si_ cSI "ascii" "Z" (.int 1) ∧ Fld Z h si_ cSI "limit" "I" (.int 4) ∧ Fld Z h si_ cSI "chars" "[C" (.ref xa_) ∧ Fld Z h si_ "com/example/ratatoskr/ratatoskr/core/internal/Input" "decoded" "Lcom/example/ratatoskr/ratatoskr/core/internal/DecodedChars;" .null)
 refine Ends.go (fun _ k => castTop (ef20_r m si_) k) ?_
 have K0 := Keep.refl h0 [si_]
 show Ends _ _ _ _ s₁ (mkF m 0 #[cr si_] []) _ _ _
 refine walN X0 hx hby d20_0 rfl rfl ?_
 refine walN X0 hx hby d20_1 rfl rfl ?_
 obtain ⟨T188, X188, e188, st188⟩ := getF X0 hx hZ hown (host := "") (Or.inl (ow hw 102 rfl)) Via.refl e0 PF_si__base (g := (mkF m 2 #[cr si_] [(.ref si_), (.ref si_)])) rfl rfl (hb hby d20_2)
 refine Ends.go st188 ?_
 refine walN X188 hx hby d20_5 rfl rfl ?_
 show Ends _ _ _ _ T188 (mkF m 6 #[cr si_] [(.ref si_), (.int 0), (.ref si_)]) _ _ _
 obtain ⟨T189, X189, e189, st189⟩ := getF X188 hx hZ hown (host := "") (Or.inl (ow hw 104 rfl)) Via.refl e188 PF_si__position (g := (mkF m 6 #[cr si_] [(.ref si_), (.int 0), (.ref si_)])) rfl rfl (hb hby d20_6)
 refine Ends.go st189 ?_
 refine wia X189 hx hby d20_9 ?_
 obtain ⟨T190, h190, X190, e190, W190, st190⟩ := putF X189 hx hZ hown (host := "") (Or.inl (ow hw 106 rfl)) Via.refl e189 PF_si__mark PE_si_ (Or.inl (ow hw 107 rfl)) (ow hw 5 rfl) (ty := .int) (by decide) rfl rfl (g := (mkF m 10 #[cr si_] [(.int 0), (.ref si_)])) rfl rfl (hb hby d20_10)
 refine Ends.go st190 ?_
 have Fw190 := PF_si__mark.same W190
 have K190 := K0.wr W190 (Or.inl (List.mem_of_getElem? (i := 0) rfl))
 have O190 := O0.wr W190 g_si_
 have N190 := Fr.snoc X190 N0 g_si_
 refine walN X190 hx hby d20_13 rfl rfl ?_
 refine wic X190 hx hby d20_14 ?_
 show Ends _ _ _ _ T190 (mkF m 15 #[cr si_] [(.int 1), (.ref si_)]) _ _ _
 obtain ⟨T191, h191, X191, e191, W191, st191⟩ := putFN X190 hx hZ hown (ow hw 108 rfl) Via.refl e190 (PF_si__ascii.other W190 (Or.inr (slot_ne (Or.inl (ow hw 109 rfl)) (Or.inl (ow hw 107 rfl)) (by decide) (t := .boolean) (t' := .int) (by decide) (by decide)))) (PE_si_.wr W190) (Or.inl (ow hw 109 rfl)) (ow hw 5 rfl) (ty := .boolean) (v' := (.int 1)) (by decide) rfl (by decide) (g := (mkF m 15 #[cr si_] [(.int 1), (.ref si_)])) rfl rfl (hb hby d20_15)
 refine Ends.go st191 ?_
 have Fw191 := (PF_si__ascii.other W190 (Or.inr (slot_ne (Or.inl (ow hw 109 rfl)) (Or.inl (ow hw 107 rfl)) (by decide) (t := .boolean) (t' := .int) (by decide) (by decide)))).same W191
 have K191 := K190.wr W191 (Or.inl (List.mem_of_getElem? (i := 0) rfl))
 have O191 := O190.wr W191 g_si_
 have N191 := Fr.snoc X191 N190 g_si_
 refine Ends.retV X191 hx Bd.notSynchronized Bd.returns (hb hby d20_18) (by decide) (by decide) ?_
 rw [e191]
 exact ⟨rfl, N191, K191, ((PF_si__base.other W190 (Or.inr (slot_ne (Or.inl (ow hw 103 rfl)) (Or.inl (ow hw 107 rfl)) (by decide) (t := .int) (t' := .int) (by decide) (by decide)))).other W191 (Or.inr (slot_ne (Or.inl (ow hw 103 rfl)) (Or.inl (ow hw 109 rfl)) (by decide) (t := .int) (t' := .boolean) (by decide) (by decide)))), ((PF_si__position.other W190 (Or.inr (slot_ne (Or.inl (ow hw 105 rfl)) (Or.inl (ow hw 107 rfl)) (by decide) (t := .int) (t' := .int) (by decide) (by decide)))).other W191 (Or.inr (slot_ne (Or.inl (ow hw 105 rfl)) (Or.inl (ow hw 109 rfl)) (by decide) (t := .int) (t' := .boolean) (by decide) (by decide)))), (Fw190.other W191 (Or.inr (slot_ne (Or.inl (ow hw 107 rfl)) (Or.inl (ow hw 109 rfl)) (by decide) (t := .int) (t' := .boolean) (by decide) (by decide)))), Fw191, ((PF_si__limit.other W190 (Or.inr (slot_ne (Or.inl (ow hw 64 rfl)) (Or.inl (ow hw 107 rfl)) (by decide) (t := .int) (t' := .int) (by decide) (by decide)))).other W191 (Or.inr (slot_ne (Or.inl (ow hw 64 rfl)) (Or.inl (ow hw 109 rfl)) (by decide) (t := .int) (t' := .boolean) (by decide) (by decide)))), ((PF_si__chars.other W190 (Or.inr (slot_ne (Or.inr (ow hw 62 rfl)) (Or.inl (ow hw 107 rfl)) (by decide) (t := (.array .char)) (t' := .int) (by decide) (by decide)))).other W191 (Or.inr (slot_ne (Or.inr (ow hw 62 rfl)) (Or.inl (ow hw 109 rfl)) (by decide) (t := (.array .char)) (t' := .boolean) (by decide) (by decide)))), ((PF_si__decoded.other W190 (Or.inr (slot_ne (Or.inl (ow hw 139 rfl)) (Or.inl (ow hw 107 rfl)) (by decide) (t := (.object "com/example/ratatoskr/ratatoskr/core/internal/DecodedChars")) (t' := .int) (by decide) (by decide)))).other W191 (Or.inr (slot_ne (Or.inl (ow hw 139 rfl)) (Or.inl (ow hw 109 rfl)) (by decide) (t := (.object "com/example/ratatoskr/ratatoskr/core/internal/DecodedChars")) (t' := .boolean) (by decide) (by decide))))⟩

theorem d27_0 : decode prog_85_method_3_code 0 = .ok (.aload_n 0, 1) := by decide +kernel
theorem d27_1 : decode prog_85_method_3_code 1 = .ok (.dup, 1) := by decide +kernel
theorem d27_2 : decode prog_85_method_3_code 2 = .ok (.getfield 37, 3) := by decide +kernel
theorem d27_5 : decode prog_85_method_3_code 5 = .ok (.iconst 1, 1) := by decide +kernel
theorem d27_6 : decode prog_85_method_3_code 6 = .ok (.iadd, 1) := by decide +kernel
theorem d27_7 : decode prog_85_method_3_code 7 = .ok (.putfield 37, 3) := by decide +kernel
theorem d27_10 : decode prog_85_method_3_code 10 = .ok (.return_, 1) := by decide +kernel
theorem pn27 : plainName "com/example/ratatoskr/ratatoskr/core/internal/StringInput" = true := by first | (simp [plainName, overriddenIn]; done) | decide +kernel
theorem pdx_4 : parseMethodDescriptor "()V" = some ⟨[], none⟩ := by decide +kernel
theorem pdx_5 : parseMethodDescriptor "(JZ)J" = some ⟨[.long, .boolean], some .long⟩ := by decide +kernel
theorem ef27_r (m : MethodId) (x0 : Addr) : entryFrame m #[(.ref x0)] 1 = mkF m 0 #[.val (.ref x0)] [] := by first | (simp [entryFrame, mkF, argsToLocals, Value.category]; done) | rfl
set_option maxRecDepth 65536 in
set_option maxHeartbeats 40000000 in
theorem rx27_195 (l : Launch) (Z : State) (a0 : Array Value) (hw : ∀ d ∈ tables_1, d.before a0 Z = true) (ws : List Jvm.Cond) (n0 : Nat) (h0 : Heap) (O0 : Old Z n0 h0)  (si_ : Addr) (xa_ : Addr) (PF_si__position : Fld Z h0 si_ cSI "position" "I" (.int 0)) (PE_si_ : Exa Z h0 si_ cSI) (PF_si__limit : Fld Z h0 si_ cSI "limit" "I" (.int 4)) (PF_si__base : Fld Z h0 si_ cSI "base" "I" (.int 0)) (PF_si__chars : Fld Z h0 si_ cSI "chars" "[C" (.ref xa_)) (PF_si__ascii : Fld Z h0 si_ cSI "ascii" "Z" (.int 0)) (PF_si__mark : Fld Z h0 si_ cSI "mark" "I" (.int 0)) (PF_si__decoded : Fld Z h0 si_ "com/example/ratatoskr/ratatoskr/core/internal/Input" "decoded" "Lcom/example/ratatoskr/ratatoskr/core/internal/DecodedChars;" .null) (g_si_ : n0 ≤ si_) :
  Meets1 l ym15 prog_85_method_3_code 1 none ws ({ frames := 0, cells := 0, slots := 0, locals := 0 } : Room) #[(.ref si_)] Z h0 (fun v h L => v = none ∧ Fr n0 L ∧ Keep h0 h [si_] ∧ Fld Z h si_ cSI "position" "I" (.int 1) ∧ Fld Z h si_ cSI "limit" "I" (.int 4) ∧ Fld Z h si_ cSI "base" "I" (.int 0) ∧ Fld Z h si_ cSI "chars" "[C" (.ref xa_) ∧ Fld Z h si_ cSI "ascii" "Z" (.int 0) ∧ Fld Z h si_ cSI "mark" "I" (.int 0) ∧ Fld Z h si_ "com/example/ratatoskr/ratatoskr/core/internal/Input" "decoded" "Lcom/example/ratatoskr/ratatoskr/core/internal/DecodedChars;" .null) := by
 refine MetFree.of_bodySF (plainFor_of_name pn27) hisR ?_
 intro p e s m args below meth c s₁ Bd hml0 hP hK
 obtain ⟨rfl, hZ, hh⟩ := hP
 have hx := Bd.exec
 have hby := Bd.bytes
 have hml : c.maxLocals = 1 := hml0
 have hown : s.vm.findClass "com/example/ratatoskr/ratatoskr/core/internal/StringInput" = some m.cls := findClass_of_methodNamed Bd.named
 have hnm := (name_of_methodNamed Bd.named Bd.method).1
 have X0 : Stand p l e ({ frames := 0, cells := 0, slots := 0, locals := 0 } : Room) s m #[(.ref si_)] below meth c s₁ [] 0 0 := Stand.of_body Bd
 have e0 : s₁.heap = h0 := by rw [← hh, Bd.state]; rfl
 have N0 := Fr.nil n0
 have Z0 := own_old_le O0
 show Ends _ _ _ _ s₁ (entryFrame m #[(.ref si_)] 1) ({ frames := 0, cells := 0, slots := 0, locals := 0 } : Room).cells ({ frames := 0, cells := 0, slots := 0, locals := 0 } : Room).slots (fun v h L => v = none ∧ Fr n0 L ∧ Keep h0 h [si_] ∧ Fld Z h si_ cSI "position" "I" (.int 1) ∧ Fld Z h si_ cSI "limit" "I" (.int 4) ∧ Fld Z h si_ cSI "base" "I" (.int 0) ∧ Fld Z h si_ cSI "chars" "[C" (.ref xa_) ∧ Fld Z h si_ cSI "ascii" "Z" (.int 0) ∧ Fld Z h si_ cSI "mark" "I" (.int 0) ∧ Fld Z h si_ "com/example/ratatoskr/ratatoskr/core/internal/Input" "decoded" "Lcom/example/ratatoskr/ratatoskr/core/internal/DecodedChars;" .null)
 refine Ends.go (fun _ k => castTop (ef27_r m si_) k) ?_
 have K0 := Keep.refl h0 [si_]
 show Ends _ _ _ _ s₁ (mkF m 0 #[cr si_] []) _ _ _
 refine walN X0 hx hby d27_0 rfl rfl ?_
 refine wdu X0 hx hby d27_1 rfl ?_
 obtain ⟨T196, X196, e196, st196⟩ := getF X0 hx hZ hown (host := "") (Or.inl (ow hw 104 rfl)) Via.refl e0 PF_si__position (g := (mkF m 2 #[cr si_] [(.ref si_), (.ref si_)])) rfl rfl (hb hby d27_2)
 refine Ends.go st196 ?_
 refine wic X196 hx hby d27_5 ?_
 show Ends _ _ _ _ T196 (mkF m 6 #[cr si_] [(.int 1), (.int 0), (.ref si_)]) _ _ _
 refine wia X196 hx hby d27_6 ?_
 obtain ⟨T197, h197, X197, e197, W197, st197⟩ := putF X196 hx hZ hown (host := "") (Or.inl (ow hw 104 rfl)) Via.refl e196 PF_si__position PE_si_ (Or.inl (ow hw 105 rfl)) (ow hw 5 rfl) (ty := .int) (by decide) rfl rfl (g := (mkF m 7 #[cr si_] [(.int 1), (.ref si_)])) rfl rfl (hb hby d27_7)
 refine Ends.go st197 ?_
 have Fw197 := PF_si__position.same W197
 have K197 := K0.wr W197 (Or.inl (List.mem_of_getElem? (i := 0) rfl))
 have O197 := O0.wr W197 g_si_
 have N197 := Fr.snoc X197 N0 g_si_
 refine Ends.retV X197 hx Bd.notSynchronized Bd.returns (hb hby d27_10) (by decide) (by decide) ?_
 rw [e197]
 exact ⟨rfl, N197, K197, Fw197, (PF_si__limit.other W197 (Or.inr (slot_ne (Or.inl (ow hw 64 rfl)) (Or.inl (ow hw 105 rfl)) (by decide) (t := .int) (t' := .int) (by decide) (by decide)))), (PF_si__base.other W197 (Or.inr (slot_ne (Or.inl (ow hw 103 rfl)) (Or.inl (ow hw 105 rfl)) (by decide) (t := .int) (t' := .int) (by decide) (by decide)))), (PF_si__chars.other W197 (Or.inr (slot_ne (Or.inr (ow hw 62 rfl)) (Or.inl (ow hw 105 rfl)) (by decide) (t := (.array .char)) (t' := .int) (by decide) (by decide)))), (PF_si__ascii.other W197 (Or.inr (slot_ne (Or.inl (ow hw 109 rfl)) (Or.inl (ow hw 105 rfl)) (by decide) (t := .boolean) (t' := .int) (by decide) (by decide)))), (PF_si__mark.other W197 (Or.inr (slot_ne (Or.inl (ow hw 107 rfl)) (Or.inl (ow hw 105 rfl)) (by decide) (t := .int) (t' := .int) (by decide) (by decide)))), (PF_si__decoded.other W197 (Or.inr (slot_ne (Or.inl (ow hw 139 rfl)) (Or.inl (ow hw 105 rfl)) (by decide) (t := (.object "com/example/ratatoskr/ratatoskr/core/internal/DecodedChars")) (t' := .int) (by decide) (by decide))))⟩

set_option maxRecDepth 65536 in
set_option maxHeartbeats 40000000 in
theorem rx20_200 (l : Launch) (Z : State) (a0 : Array Value) (hw : ∀ d ∈ tables_1, d.before a0 Z = true) (ws : List Jvm.Cond) (n0 : Nat) (h0 : Heap) (O0 : Old Z n0 h0)  (si_ : Addr) (xa_ : Addr) (PF_si__base : Fld Z h0 si_ cSI "base" "I" (.int 0)) (PF_si__position : Fld Z h0 si_ cSI "position" "I" (.int 1)) (PE_si_ : Exa Z h0 si_ cSI) (PF_si__mark : Fld Z h0 si_ cSI "mark" "I" (.int 0)) (PF_si__ascii : Fld Z h0 si_ cSI "ascii" "Z" (.int 0)) (PF_si__limit : Fld Z h0 si_ cSI "limit" "I" (.int 4)) (PF_si__chars : Fld Z h0 si_ cSI "chars" "[C" (.ref xa_)) (PF_si__decoded : Fld Z h0 si_ "com/example/ratatoskr/ratatoskr/core/internal/Input" "decoded" "Lcom/example/ratatoskr/ratatoskr/core/internal/DecodedChars;" .null) (g_si_ : n0 ≤ si_) :
  Meets1 l ym14 prog_85_method_21_code 1 none ws ({ frames := 0, cells := 0, slots := 0, locals := 0 } : Room) #[(.ref si_)] Z h0 (fun v h L => v = none ∧ Fr n0 L ∧ Keep h0 h [si_] ∧ Fld Z h si_ cSI "base" "I" (.int 0) ∧ Fld Z h si_ cSI "position" "I" (.int 1) ∧ Fld Z h si_ cSI "mark" "I" (.int 1) ∧ Fld Z h si_ cSI "ascii" "Z" (.int 1) ∧ Fld Z h si_ cSI "limit" "I" (.int 4) ∧ Fld Z h si_ cSI "chars" "[C" (.ref xa_) ∧ Fld Z h si_ "com/example/ratatoskr/ratatoskr/core/internal/Input" "decoded" "Lcom/example/ratatoskr/ratatoskr/core/internal/DecodedChars;" .null) := by
 refine MetFree.of_bodySF (plainFor_of_name pn20) hisR ?_
 intro p e s m args below meth c s₁ Bd hml0 hP hK
 obtain ⟨rfl, hZ, hh⟩ := hP
 have hx := Bd.exec
 have hby := Bd.bytes
 have hml : c.maxLocals = 1 := hml0
 have hown : s.vm.findClass "com/example/ratatoskr/ratatoskr/core/internal/StringInput" = some m.cls := findClass_of_methodNamed Bd.named
 have hnm := (name_of_methodNamed Bd.named Bd.method).1
 have X0 : Stand p l e ({ frames := 0, cells := 0, slots := 0, locals := 0 } : Room) s m #[(.ref si_)] below meth c s₁ [] 0 0 := Stand.of_body Bd
 have e0 : s₁.heap = h0 := by rw [← hh, Bd.state]; rfl
 have N0 := Fr.nil n0
 have Z0 := own_old_le O0
 show Ends _ _ _ _ s₁ (entryFrame m #[(.ref si_)] 1) ({ frames := 0, cells := 0, slots := 0, locals := 0 } : Room).cells ({ frames := 0, cells := 0, slots := 0, locals := 0 } : Room).slots (fun v h L => v = none ∧ Fr n0 L ∧ Keep h0 h [si_] ∧ Fld Z h si_ cSI "base" "I" (.int 0) ∧ Fld Z h si_ cSI "position" "I" (.int 1) ∧ Fld Z h si_ cSI "mark" "I" (.int 1) ∧ Fld Z h si_ cSI "ascii" "Z" (.int 1) ∧ Fld Z h si_ cSI "limit" "I" (.int 4) ∧ Fld Z h si_ cSI "chars" "[C" (.ref xa_) ∧ Fld Z h si_ "com/example/ratatoskr/ratatoskr/core/internal/Input" "decoded" "Lcom/example/ratatoskr/ratatoskr/core/internal/DecodedChars;" .null)
 refine Ends.go (fun _ k => castTop (ef20_r m si_) k) ?_
 have K0 := Keep.refl h0 [si_]
 show Ends _ _ _ _ s₁ (mkF m 0 #[cr si_] []) _ _ _
 refine walN X0 hx hby d20_0 rfl rfl ?_
 refine walN X0 hx hby d20_1 rfl rfl ?_
 obtain ⟨T201, X201, e201, st201⟩ := getF X0 hx hZ hown (host := "") (Or.inl (ow hw 102 rfl)) Via.refl e0 PF_si__base (g := (mkF m 2 #[cr si_] [(.ref si_), (.ref si_)])) rfl rfl (hb hby d20_2)
 refine Ends.go st201 ?_
 refine walN X201 hx hby d20_5 rfl rfl ?_
 show Ends _ _ _ _ T201 (mkF m 6 #[cr si_] [(.ref si_), (.int 0), (.ref si_)]) _ _ _
 obtain ⟨T202, X202, e202, st202⟩ := getF X201 hx hZ hown (host := "") (Or.inl (ow hw 104 rfl)) Via.refl e201 PF_si__position (g := (mkF m 6 #[cr si_] [(.ref si_), (.int 0), (.ref si_)])) rfl rfl (hb hby d20_6)
 refine Ends.go st202 ?_
 refine wia X202 hx hby d20_9 ?_
 obtain ⟨T203, h203, X203, e203, W203, st203⟩ := putF X202 hx hZ hown (host := "") (Or.inl (ow hw 106 rfl)) Via.refl e202 PF_si__mark PE_si_ (Or.inl (ow hw 107 rfl)) (ow hw 5 rfl) (ty := .int) (by decide) rfl rfl (g := (mkF m 10 #[cr si_] [(.int 1), (.ref si_)])) rfl rfl (hb hby d20_10)
 refine Ends.go st203 ?_
 have Fw203 := PF_si__mark.same W203
 have K203 := K0.wr W203 (Or.inl (List.mem_of_getElem? (i := 0) rfl))
 have O203 := O0.wr W203 g_si_
 have N203 := Fr.snoc X203 N0 g_si_
 refine walN X203 hx hby d20_13 rfl rfl ?_
 refine wic X203 hx hby d20_14 ?_
 show Ends _ _ _ _ T203 (mkF m 15 #[cr si_] [(.int 1), (.ref si_)]) _ _ _
 obtain ⟨T204, h204, X204, e204, W204, st204⟩ := putFN X203 hx hZ hown (ow hw 108 rfl) Via.refl e203 (PF_si__ascii.other W203 (Or.inr (slot_ne (Or.inl (ow hw 109 rfl)) (Or.inl (ow hw 107 rfl)) (by decide) (t := .boolean) (t' := .int) (by decide) (by decide)))) (PE_si_.wr W203) (Or.inl (ow hw 109 rfl)) (ow hw 5 rfl) (ty := .boolean) (v' := (.int 1)) (by decide) rfl (by decide) (g := (mkF m 15 #[cr si_] [(.int 1), (.ref si_)])) rfl rfl (hb hby d20_15)
 refine Ends.go st204 ?_
 have Fw204 := (PF_si__ascii.other W203 (Or.inr (slot_ne (Or.inl (ow hw 109 rfl)) (Or.inl (ow hw 107 rfl)) (by decide) (t := .boolean) (t' := .int) (by decide) (by decide)))).same W204
 have K204 := K203.wr W204 (Or.inl (List.mem_of_getElem? (i := 0) rfl))
 have O204 := O203.wr W204 g_si_
 have N204 := Fr.snoc X204 N203 g_si_
 refine Ends.retV X204 hx Bd.notSynchronized Bd.returns (hb hby d20_18) (by decide) (by decide) ?_
 rw [e204]
 exact ⟨rfl, N204, K204, ((PF_si__base.other W203 (Or.inr (slot_ne (Or.inl (ow hw 103 rfl)) (Or.inl (ow hw 107 rfl)) (by decide) (t := .int) (t' := .int) (by decide) (by decide)))).other W204 (Or.inr (slot_ne (Or.inl (ow hw 103 rfl)) (Or.inl (ow hw 109 rfl)) (by decide) (t := .int) (t' := .boolean) (by decide) (by decide)))), ((PF_si__position.other W203 (Or.inr (slot_ne (Or.inl (ow hw 105 rfl)) (Or.inl (ow hw 107 rfl)) (by decide) (t := .int) (t' := .int) (by decide) (by decide)))).other W204 (Or.inr (slot_ne (Or.inl (ow hw 105 rfl)) (Or.inl (ow hw 109 rfl)) (by decide) (t := .int) (t' := .boolean) (by decide) (by decide)))), (Fw203.other W204 (Or.inr (slot_ne (Or.inl (ow hw 107 rfl)) (Or.inl (ow hw 109 rfl)) (by decide) (t := .int) (t' := .boolean) (by decide) (by decide)))), Fw204, ((PF_si__limit.other W203 (Or.inr (slot_ne (Or.inl (ow hw 64 rfl)) (Or.inl (ow hw 107 rfl)) (by decide) (t := .int) (t' := .int) (by decide) (by decide)))).other W204 (Or.inr (slot_ne (Or.inl (ow hw 64 rfl)) (Or.inl (ow hw 109 rfl)) (by decide) (t := .int) (t' := .boolean) (by decide) (by decide)))), ((PF_si__chars.other W203 (Or.inr (slot_ne (Or.inr (ow hw 62 rfl)) (Or.inl (ow hw 107 rfl)) (by decide) (t := (.array .char)) (t' := .int) (by decide) (by decide)))).other W204 (Or.inr (slot_ne (Or.inr (ow hw 62 rfl)) (Or.inl (ow hw 109 rfl)) (by decide) (t := (.array .char)) (t' := .boolean) (by decide) (by decide)))), ((PF_si__decoded.other W203 (Or.inr (slot_ne (Or.inl (ow hw 139 rfl)) (Or.inl (ow hw 107 rfl)) (by decide) (t := (.object "com/example/ratatoskr/ratatoskr/core/internal/DecodedChars")) (t' := .int) (by decide) (by decide)))).other W204 (Or.inr (slot_ne (Or.inl (ow hw 139 rfl)) (Or.inl (ow hw 109 rfl)) (by decide) (t := (.object "com/example/ratatoskr/ratatoskr/core/internal/DecodedChars")) (t' := .boolean) (by decide) (by decide))))⟩

set_option maxRecDepth 65536 in
set_option maxHeartbeats 40000000 in
theorem rx27_208 (l : Launch) (Z : State) (a0 : Array Value) (hw : ∀ d ∈ tables_1, d.before a0 Z = true) (ws : List Jvm.Cond) (n0 : Nat) (h0 : Heap) (O0 : Old Z n0 h0)  (si_ : Addr) (xa_ : Addr) (PF_si__position : Fld Z h0 si_ cSI "position" "I" (.int 1)) (PE_si_ : Exa Z h0 si_ cSI) (PF_si__limit : Fld Z h0 si_ cSI "limit" "I" (.int 4)) (PF_si__base : Fld Z h0 si_ cSI "base" "I" (.int 0)) (PF_si__chars : Fld Z h0 si_ cSI "chars" "[C" (.ref xa_)) (PF_si__ascii : Fld Z h0 si_ cSI "ascii" "Z" (.int 0)) (PF_si__mark : Fld Z h0 si_ cSI "mark" "I" (.int 0)) (PF_si__decoded : Fld Z h0 si_ "com/example/ratatoskr/ratatoskr/core/internal/Input" "decoded" "Lcom/example/ratatoskr/ratatoskr/core/internal/DecodedChars;" .null) (g_si_ : n0 ≤ si_) :
  Meets1 l ym15 prog_85_method_3_code 1 none ws ({ frames := 0, cells := 0, slots := 0, locals := 0 } : Room) #[(.ref si_)] Z h0 (fun v h L => v = none ∧ Fr n0 L ∧ Keep h0 h [si_] ∧ Fld Z h si_ cSI "position" "I" (.int 2) ∧ Fld Z h si_ cSI "limit" "I" (.int 4) ∧ Fld Z h si_ cSI "base" "I" (.int 0) ∧ Fld Z h si_ cSI "chars" "[C" (.ref xa_) ∧ Fld Z h si_ cSI "ascii" "Z" (.int 0) ∧ Fld Z h si_ cSI "mark" "I" (.int 0) ∧ Fld Z h si_ "com/example/ratatoskr/ratatoskr/core/internal/Input" "decoded" "Lcom/example/ratatoskr/ratatoskr/core/internal/DecodedChars;" .null) := by
 refine MetFree.of_bodySF (plainFor_of_name pn27) hisR ?_
 intro p e s m args below meth c s₁ Bd hml0 hP hK
 obtain ⟨rfl, hZ, hh⟩ := hP
 have hx := Bd.exec
 have hby := Bd.bytes
 have hml : c.maxLocals = 1 := hml0
 have hown : s.vm.findClass "com/example/ratatoskr/ratatoskr/core/internal/StringInput" = some m.cls := findClass_of_methodNamed Bd.named
 have hnm := (name_of_methodNamed Bd.named Bd.method).1
 have X0 : Stand p l e ({ frames := 0, cells := 0, slots := 0, locals := 0 } : Room) s m #[(.ref si_)] below meth c s₁ [] 0 0 := Stand.of_body Bd
 have e0 : s₁.heap = h0 := by rw [← hh, Bd.state]; rfl
 have N0 := Fr.nil n0
 have Z0 := own_old_le O0
 show Ends _ _ _ _ s₁ (entryFrame m #[(.ref si_)] 1) ({ frames := 0, cells := 0, slots := 0, locals := 0 } : Room).cells ({ frames := 0, cells := 0, slots := 0, locals := 0 } : Room).slots (fun v h L => v = none ∧ Fr n0 L ∧ Keep h0 h [si_] ∧ Fld Z h si_ cSI "position" "I" (.int 2) ∧ Fld Z h si_ cSI "limit" "I" (.int 4) ∧ Fld Z h si_ cSI "base" "I" (.int 0) ∧ Fld Z h si_ cSI "chars" "[C" (.ref xa_) ∧ Fld Z h si_ cSI "ascii" "Z" (.int 0) ∧ Fld Z h si_ cSI "mark" "I" (.int 0) ∧ Fld Z h si_ "com/example/ratatoskr/ratatoskr/core/internal/Input" "decoded" "Lcom/example/ratatoskr/ratatoskr/core/internal/DecodedChars;" .null)
 refine Ends.go (fun _ k => castTop (ef27_r m si_) k) ?_
 have K0 := Keep.refl h0 [si_]
 show Ends _ _ _ _ s₁ (mkF m 0 #[cr si_] []) _ _ _
 refine walN X0 hx hby d27_0 rfl rfl ?_
 refine wdu X0 hx hby d27_1 rfl ?_
 obtain ⟨T209, X209, e209, st209⟩ := getF X0 hx hZ hown (host := "") (Or.inl (ow hw 104 rfl)) Via.refl e0 PF_si__position (g := (mkF m 2 #[cr si_] [(.ref si_), (.ref si_)])) rfl rfl (hb hby d27_2)
 refine Ends.go st209 ?_
 refine wic X209 hx hby d27_5 ?_
 show Ends _ _ _ _ T209 (mkF m 6 #[cr si_] [(.int 1), (.int 1), (.ref si_)]) _ _ _
 refine wia X209 hx hby d27_6 ?_
 obtain ⟨T210, h210, X210, e210, W210, st210⟩ := putF X209 hx hZ hown (host := "") (Or.inl (ow hw 104 rfl)) Via.refl e209 PF_si__position PE_si_ (Or.inl (ow hw 105 rfl)) (ow hw 5 rfl) (ty := .int) (by decide) rfl rfl (g := (mkF m 7 #[cr si_] [(.int 2), (.ref si_)])) rfl rfl (hb hby d27_7)
 refine Ends.go st210 ?_
 have Fw210 := PF_si__position.same W210
 have K210 := K0.wr W210 (Or.inl (List.mem_of_getElem? (i := 0) rfl))
 have O210 := O0.wr W210 g_si_
 have N210 := Fr.snoc X210 N0 g_si_
 refine Ends.retV X210 hx Bd.notSynchronized Bd.returns (hb hby d27_10) (by decide) (by decide) ?_
 rw [e210]
 exact ⟨rfl, N210, K210, Fw210, (PF_si__limit.other W210 (Or.inr (slot_ne (Or.inl (ow hw 64 rfl)) (Or.inl (ow hw 105 rfl)) (by decide) (t := .int) (t' := .int) (by decide) (by decide)))), (PF_si__base.other W210 (Or.inr (slot_ne (Or.inl (ow hw 103 rfl)) (Or.inl (ow hw 105 rfl)) (by decide) (t := .int) (t' := .int) (by decide) (by decide)))), (PF_si__chars.other W210 (Or.inr (slot_ne (Or.inr (ow hw 62 rfl)) (Or.inl (ow hw 105 rfl)) (by decide) (t := (.array .char)) (t' := .int) (by decide) (by decide)))), (PF_si__ascii.other W210 (Or.inr (slot_ne (Or.inl (ow hw 109 rfl)) (Or.inl (ow hw 105 rfl)) (by decide) (t := .boolean) (t' := .int) (by decide) (by decide)))), (PF_si__mark.other W210 (Or.inr (slot_ne (Or.inl (ow hw 107 rfl)) (Or.inl (ow hw 105 rfl)) (by decide) (t := .int) (t' := .int) (by decide) (by decide)))), (PF_si__decoded.other W210 (Or.inr (slot_ne (Or.inl (ow hw 139 rfl)) (Or.inl (ow hw 105 rfl)) (by decide) (t := (.object "com/example/ratatoskr/ratatoskr/core/internal/DecodedChars")) (t' := .int) (by decide) (by decide))))⟩

set_option maxRecDepth 65536 in
set_option maxHeartbeats 40000000 in
theorem rx20_213 (l : Launch) (Z : State) (a0 : Array Value) (hw : ∀ d ∈ tables_1, d.before a0 Z = true) (ws : List Jvm.Cond) (n0 : Nat) (h0 : Heap) (O0 : Old Z n0 h0)  (si_ : Addr) (xa_ : Addr) (PF_si__base : Fld Z h0 si_ cSI "base" "I" (.int 0)) (PF_si__position : Fld Z h0 si_ cSI "position" "I" (.int 2)) (PE_si_ : Exa Z h0 si_ cSI) (PF_si__mark : Fld Z h0 si_ cSI "mark" "I" (.int 0)) (PF_si__ascii : Fld Z h0 si_ cSI "ascii" "Z" (.int 0)) (PF_si__limit : Fld Z h0 si_ cSI "limit" "I" (.int 4)) (PF_si__chars : Fld Z h0 si_ cSI "chars" "[C" (.ref xa_)) (PF_si__decoded : Fld Z h0 si_ "com/example/ratatoskr/ratatoskr/core/internal/Input" "decoded" "Lcom/example/ratatoskr/ratatoskr/core/internal/DecodedChars;" .null) (g_si_ : n0 ≤ si_) :
  Meets1 l ym14 prog_85_method_21_code 1 none ws ({ frames := 0, cells := 0, slots := 0, locals := 0 } : Room) #[(.ref si_)] Z h0 (fun v h L => v = none ∧ Fr n0 L ∧ Keep h0 h [si_] ∧ Fld Z h si_ cSI "base" "I" (.int 0) ∧ Fld Z h si_ cSI "position" "I" (.int 2) ∧ Fld Z h si_ cSI "mark" "I" (.int 2) ∧ Fld Z h si_ cSI "ascii" "Z" (.int 1) ∧ Fld Z h si_ cSI "limit" "I" (.int 4) ∧ Fld Z h si_ cSI "chars" "[C" (.ref xa_) ∧ Fld Z h si_ "com/example/ratatoskr/ratatoskr/core/internal/Input" "decoded" "Lcom/example/ratatoskr/ratatoskr/core/internal/DecodedChars;" .null) := by
 refine MetFree.of_bodySF (plainFor_of_name pn20) hisR ?_
 intro p e s m args below meth c s₁ Bd hml0 hP hK
 obtain ⟨rfl, hZ, hh⟩ := hP
 have hx := Bd.exec
 have hby := Bd.bytes
 have hml : c.maxLocals = 1 := hml0
 have hown : s.vm.findClass "com/example/ratatoskr/ratatoskr/core/internal/StringInput" = some m.cls := findClass_of_methodNamed Bd.named
 have hnm := (name_of_methodNamed Bd.named Bd.method).1
 have X0 : Stand p l e ({ frames := 0, cells := 0, slots := 0, locals := 0 } : Room) s m #[(.ref si_)] below meth c s₁ [] 0 0 := Stand.of_body Bd
 have e0 : s₁.heap = h0 := by rw [← hh, Bd.state]; rfl
 have N0 := Fr.nil n0
 have Z0 := own_old_le O0
 show Ends _ _ _ _ s₁ (entryFrame m #[(.ref si_)] 1) ({ frames := 0, cells := 0, slots := 0, locals := 0 } : Room).cells ({ frames := 0, cells := 0, slots := 0, locals := 0 } : Room).slots (fun v h L => v = none ∧ Fr n0 L ∧ Keep h0 h [si_] ∧ Fld Z h si_ cSI "base" "I" (.int 0) ∧ Fld Z h si_ cSI "position" "I" (.int 2) ∧ Fld Z h si_ cSI "mark" "I" (.int 2) ∧ Fld Z h si_ cSI "ascii" "Z" (.int 1) ∧ Fld Z h si_ cSI "limit" "I" (.int 4) ∧ Fld Z h si_ cSI "chars" "[C" (.ref xa_) ∧ Fld Z h si_ "com/example/ratatoskr/ratatoskr/core/internal/Input" "decoded" "Lcom/example/ratatoskr/ratatoskr/core/internal/DecodedChars;" .null)
 refine Ends.go (fun _ k => castTop (ef20_r m si_) k) ?_
 have K0 := Keep.refl h0 [si_]
 show Ends _ _ _ _ s₁ (mkF m 0 #[cr si_] []) _ _ _
 refine walN X0 hx hby d20_0 rfl rfl ?_
 refine walN X0 hx hby d20_1 rfl rfl ?_
 obtain ⟨T214, X214, e214, st214⟩ := getF X0 hx hZ hown (host := "") (Or.inl (ow hw 102 rfl)) Via.refl e0 PF_si__base (g := (mkF m 2 #[cr si_] [(.ref si_), (.ref si_)])) rfl rfl (hb hby d20_2)
 refine Ends.go st214 ?_
 refine walN X214 hx hby d20_5 rfl rfl ?_
 show Ends _ _ _ _ T214 (mkF m 6 #[cr si_] [(.ref si_), (.int 0), (.ref si_)]) _ _ _
 obtain ⟨T215, X215, e215, st215⟩ := getF X214 hx hZ hown (host := "") (Or.inl (ow hw 104 rfl)) Via.refl e214 PF_si__position (g := (mkF m 6 #[cr si_] [(.ref si_), (.int 0), (.ref si_)])) rfl rfl (hb hby d20_6)
 refine Ends.go st215 ?_
 refine wia X215 hx hby d20_9 ?_
 obtain ⟨T216, h216, X216, e216, W216, st216⟩ := putF X215 hx hZ hown (host := "") (Or.inl (ow hw 106 rfl)) Via.refl e215 PF_si__mark PE_si_ (Or.inl (ow hw 107 rfl)) (ow hw 5 rfl) (ty := .int) (by decide) rfl rfl (g := (mkF m 10 #[cr si_] [(.int 2), (.ref si_)])) rfl rfl (hb hby d20_10)
 refine Ends.go st216 ?_
 have Fw216 := PF_si__mark.same W216
 have K216 := K0.wr W216 (Or.inl (List.mem_of_getElem? (i := 0) rfl))
 have O216 := O0.wr W216 g_si_
 have N216 := Fr.snoc X216 N0 g_si_
 refine walN X216 hx hby d20_13 rfl rfl ?_
 refine wic X216 hx hby d20_14 ?_
 show Ends _ _ _ _ T216 (mkF m 15 #[cr si_] [(.int 1), (.ref si_)]) _ _ _
 obtain ⟨T217, h217, X217, e217, W217, st217⟩ := putFN X216 hx hZ hown (ow hw 108 rfl) Via.refl e216 (PF_si__ascii.other W216 (Or.inr (slot_ne (Or.inl (ow hw 109 rfl)) (Or.inl (ow hw 107 rfl)) (by decide) (t := .boolean) (t' := .int) (by decide) (by decide)))) (PE_si_.wr W216) (Or.inl (ow hw 109 rfl)) (ow hw 5 rfl) (ty := .boolean) (v' := (.int 1)) (by decide) rfl (by decide) (g := (mkF m 15 #[cr si_] [(.int 1), (.ref si_)])) rfl rfl (hb hby d20_15)
 refine Ends.go st217 ?_
 have Fw217 := (PF_si__ascii.other W216 (Or.inr (slot_ne (Or.inl (ow hw 109 rfl)) (Or.inl (ow hw 107 rfl)) (by decide) (t := .boolean) (t' := .int) (by decide) (by decide)))).same W217
 have K217 := K216.wr W217 (Or.inl (List.mem_of_getElem? (i := 0) rfl))
 have O217 := O216.wr W217 g_si_
 have N217 := Fr.snoc X217 N216 g_si_
 refine Ends.retV X217 hx Bd.notSynchronized Bd.returns (hb hby d20_18) (by decide) (by decide) ?_
 rw [e217]
 exact ⟨rfl, N217, K217, ((PF_si__base.other W216 (Or.inr (slot_ne (Or.inl (ow hw 103 rfl)) (Or.inl (ow hw 107 rfl)) (by decide) (t := .int) (t' := .int) (by decide) (by decide)))).other W217 (Or.inr (slot_ne (Or.inl (ow hw 103 rfl)) (Or.inl (ow hw 109 rfl)) (by decide) (t := .int) (t' := .boolean) (by decide) (by decide)))), ((PF_si__position.other W216 (Or.inr (slot_ne (Or.inl (ow hw 105 rfl)) (Or.inl (ow hw 107 rfl)) (by decide) (t := .int) (t' := .int) (by decide) (by decide)))).other W217 (Or.inr (slot_ne (Or.inl (ow hw 105 rfl)) (Or.inl (ow hw 109 rfl)) (by decide) (t := .int) (t' := .boolean) (by decide) (by decide)))), (Fw216.other W217 (Or.inr (slot_ne (Or.inl (ow hw 107 rfl)) (Or.inl (ow hw 109 rfl)) (by decide) (t := .int) (t' := .boolean) (by decide) (by decide)))), Fw217, ((PF_si__limit.other W216 (Or.inr (slot_ne (Or.inl (ow hw 64 rfl)) (Or.inl (ow hw 107 rfl)) (by decide) (t := .int) (t' := .int) (by decide) (by decide)))).other W217 (Or.inr (slot_ne (Or.inl (ow hw 64 rfl)) (Or.inl (ow hw 109 rfl)) (by decide) (t := .int) (t' := .boolean) (by decide) (by decide)))), ((PF_si__chars.other W216 (Or.inr (slot_ne (Or.inr (ow hw 62 rfl)) (Or.inl (ow hw 107 rfl)) (by decide) (t := (.array .char)) (t' := .int) (by decide) (by decide)))).other W217 (Or.inr (slot_ne (Or.inr (ow hw 62 rfl)) (Or.inl (ow hw 109 rfl)) (by decide) (t := (.array .char)) (t' := .boolean) (by decide) (by decide)))), ((PF_si__decoded.other W216 (Or.inr (slot_ne (Or.inl (ow hw 139 rfl)) (Or.inl (ow hw 107 rfl)) (by decide) (t := (.object "com/example/ratatoskr/ratatoskr/core/internal/DecodedChars")) (t' := .int) (by decide) (by decide)))).other W217 (Or.inr (slot_ne (Or.inl (ow hw 139 rfl)) (Or.inl (ow hw 109 rfl)) (by decide) (t := (.object "com/example/ratatoskr/ratatoskr/core/internal/DecodedChars")) (t' := .boolean) (by decide) (by decide))))⟩

set_option maxRecDepth 65536 in
set_option maxHeartbeats 40000000 in
theorem rx27_221 (l : Launch) (Z : State) (a0 : Array Value) (hw : ∀ d ∈ tables_1, d.before a0 Z = true) (ws : List Jvm.Cond) (n0 : Nat) (h0 : Heap) (O0 : Old Z n0 h0)  (si_ : Addr) (xa_ : Addr) (PF_si__position : Fld Z h0 si_ cSI "position" "I" (.int 2)) (PE_si_ : Exa Z h0 si_ cSI) (PF_si__limit : Fld Z h0 si_ cSI "limit" "I" (.int 4)) (PF_si__base : Fld Z h0 si_ cSI "base" "I" (.int 0)) (PF_si__chars : Fld Z h0 si_ cSI "chars" "[C" (.ref xa_)) (PF_si__ascii : Fld Z h0 si_ cSI "ascii" "Z" (.int 0)) (PF_si__mark : Fld Z h0 si_ cSI "mark" "I" (.int 0)) (PF_si__decoded : Fld Z h0 si_ "com/example/ratatoskr/ratatoskr/core/internal/Input" "decoded" "Lcom/example/ratatoskr/ratatoskr/core/internal/DecodedChars;" .null) (g_si_ : n0 ≤ si_) :
  Meets1 l ym15 prog_85_method_3_code 1 none ws ({ frames := 0, cells := 0, slots := 0, locals := 0 } : Room) #[(.ref si_)] Z h0 (fun v h L => v = none ∧ Fr n0 L ∧ Keep h0 h [si_] ∧ Fld Z h si_ cSI "position" "I" (.int 3) ∧ Fld Z h si_ cSI "limit" "I" (.int 4) ∧ Fld Z h si_ cSI "base" "I" (.int 0) ∧ Fld Z h si_ cSI "chars" "[C" (.ref xa_) ∧ Fld Z h si_ cSI "ascii" "Z" (.int 0) ∧ Fld Z h si_ cSI "mark" "I" (.int 0) ∧ Fld Z h si_ "com/example/ratatoskr/ratatoskr/core/internal/Input" "decoded" "Lcom/example/ratatoskr/ratatoskr/core/internal/DecodedChars;" .null) := by
 refine MetFree.of_bodySF (plainFor_of_name pn27) hisR ?_
 intro p e s m args below meth c s₁ Bd hml0 hP hK
 obtain ⟨rfl, hZ, hh⟩ := hP
 have hx := Bd.exec
 have hby := Bd.bytes
 have hml : c.maxLocals = 1 := hml0
 have hown : s.vm.findClass "com/example/ratatoskr/ratatoskr/core/internal/StringInput" = some m.cls := findClass_of_methodNamed Bd.named
 have hnm := (name_of_methodNamed Bd.named Bd.method).1
 have X0 : Stand p l e ({ frames := 0, cells := 0, slots := 0, locals := 0 } : Room) s m #[(.ref si_)] below meth c s₁ [] 0 0 := Stand.of_body Bd
 have e0 : s₁.heap = h0 := by rw [← hh, Bd.state]; rfl
 have N0 := Fr.nil n0
 have Z0 := own_old_le O0
 show Ends _ _ _ _ s₁ (entryFrame m #[(.ref si_)] 1) ({ frames := 0, cells := 0, slots := 0, locals := 0 } : Room).cells ({ frames := 0, cells := 0, slots := 0, locals := 0 } : Room).slots (fun v h L => v = none ∧ Fr n0 L ∧ Keep h0 h [si_] ∧ Fld Z h si_ cSI "position" "I" (.int 3) ∧ Fld Z h si_ cSI "limit" "I" (.int 4) ∧ Fld Z h si_ cSI "base" "I" (.int 0) ∧ Fld Z h si_ cSI "chars" "[C" (.ref xa_) ∧ Fld Z h si_ cSI "ascii" "Z" (.int 0) ∧ Fld Z h si_ cSI "mark" "I" (.int 0) ∧ Fld Z h si_ "com/example/ratatoskr/ratatoskr/core/internal/Input" "decoded" "Lcom/example/ratatoskr/ratatoskr/core/internal/DecodedChars;" .null)
 refine Ends.go (fun _ k => castTop (ef27_r m si_) k) ?_
 have K0 := Keep.refl h0 [si_]
 show Ends _ _ _ _ s₁ (mkF m 0 #[cr si_] []) _ _ _
 refine walN X0 hx hby d27_0 rfl rfl ?_
 refine wdu X0 hx hby d27_1 rfl ?_
 obtain ⟨T222, X222, e222, st222⟩ := getF X0 hx hZ hown (host := "") (Or.inl (ow hw 104 rfl)) Via.refl e0 PF_si__position (g := (mkF m 2 #[cr si_] [(.ref si_), (.ref si_)])) rfl rfl (hb hby d27_2)
 refine Ends.go st222 ?_
 refine wic X222 hx hby d27_5 ?_
 show Ends _ _ _ _ T222 (mkF m 6 #[cr si_] [(.int 1), (.int 2), (.ref si_)]) _ _ _
 refine wia X222 hx hby d27_6 ?_
 obtain ⟨T223, h223, X223, e223, W223, st223⟩ := putF X222 hx hZ hown (host := "") (Or.inl (ow hw 104 rfl)) Via.refl e222 PF_si__position PE_si_ (Or.inl (ow hw 105 rfl)) (ow hw 5 rfl) (ty := .int) (by decide) rfl rfl (g := (mkF m 7 #[cr si_] [(.int 3), (.ref si_)])) rfl rfl (hb hby d27_7)
 refine Ends.go st223 ?_
 have Fw223 := PF_si__position.same W223
 have K223 := K0.wr W223 (Or.inl (List.mem_of_getElem? (i := 0) rfl))
 have O223 := O0.wr W223 g_si_
 have N223 := Fr.snoc X223 N0 g_si_
 refine Ends.retV X223 hx Bd.notSynchronized Bd.returns (hb hby d27_10) (by decide) (by decide) ?_
 rw [e223]
 exact ⟨rfl, N223, K223, Fw223, (PF_si__limit.other W223 (Or.inr (slot_ne (Or.inl (ow hw 64 rfl)) (Or.inl (ow hw 105 rfl)) (by decide) (t := .int) (t' := .int) (by decide) (by decide)))), (PF_si__base.other W223 (Or.inr (slot_ne (Or.inl (ow hw 103 rfl)) (Or.inl (ow hw 105 rfl)) (by decide) (t := .int) (t' := .int) (by decide) (by decide)))), (PF_si__chars.other W223 (Or.inr (slot_ne (Or.inr (ow hw 62 rfl)) (Or.inl (ow hw 105 rfl)) (by decide) (t := (.array .char)) (t' := .int) (by decide) (by decide)))), (PF_si__ascii.other W223 (Or.inr (slot_ne (Or.inl (ow hw 109 rfl)) (Or.inl (ow hw 105 rfl)) (by decide) (t := .boolean) (t' := .int) (by decide) (by decide)))), (PF_si__mark.other W223 (Or.inr (slot_ne (Or.inl (ow hw 107 rfl)) (Or.inl (ow hw 105 rfl)) (by decide) (t := .int) (t' := .int) (by decide) (by decide)))), (PF_si__decoded.other W223 (Or.inr (slot_ne (Or.inl (ow hw 139 rfl)) (Or.inl (ow hw 105 rfl)) (by decide) (t := (.object "com/example/ratatoskr/ratatoskr/core/internal/DecodedChars")) (t' := .int) (by decide) (by decide))))⟩

set_option maxRecDepth 65536 in
set_option maxHeartbeats 40000000 in
theorem rx20_226 (l : Launch) (Z : State) (a0 : Array Value) (hw : ∀ d ∈ tables_1, d.before a0 Z = true) (ws : List Jvm.Cond) (n0 : Nat) (h0 : Heap) (O0 : Old Z n0 h0)  (si_ : Addr) (xa_ : Addr) (PF_si__base : Fld Z h0 si_ cSI "base" "I" (.int 0)) (PF_si__position : Fld Z h0 si_ cSI "position" "I" (.int 3)) (PE_si_ : Exa Z h0 si_ cSI) (PF_si__mark : Fld Z h0 si_ cSI "mark" "I" (.int 0)) (PF_si__ascii : Fld Z h0 si_ cSI "ascii" "Z" (.int 0)) (PF_si__limit : Fld Z h0 si_ cSI "limit" "I" (.int 4)) (PF_si__chars : Fld Z h0 si_ cSI "chars" "[C" (.ref xa_)) (PF_si__decoded : Fld Z h0 si_ "com/example/ratatoskr/ratatoskr/core/internal/Input" "decoded" "Lcom/example/ratatoskr/ratatoskr/core/internal/DecodedChars;" .null) (g_si_ : n0 ≤ si_) :
  Meets1 l ym14 prog_85_method_21_code 1 none ws ({ frames := 0, cells := 0, slots := 0, locals := 0 } : Room) #[(.ref si_)] Z h0 (fun v h L => v = none ∧ Fr n0 L ∧ Keep h0 h [si_] ∧ Fld Z h si_ cSI "base" "I" (.int 0) ∧ Fld Z h si_ cSI "position" "I" (.int 3) ∧ Fld Z h si_ cSI "mark" "I" (.int 3) ∧ Fld Z h si_ cSI "ascii" "Z" (.int 1) ∧ Fld Z h si_ cSI "limit" "I" (.int 4) ∧ Fld Z h si_ cSI "chars" "[C" (.ref xa_) ∧ Fld Z h si_ "com/example/ratatoskr/ratatoskr/core/internal/Input" "decoded" "Lcom/example/ratatoskr/ratatoskr/core/internal/DecodedChars;" .null) := by
 refine MetFree.of_bodySF (plainFor_of_name pn20) hisR ?_
 intro p e s m args below meth c s₁ Bd hml0 hP hK
 obtain ⟨rfl, hZ, hh⟩ := hP
 have hx := Bd.exec
 have hby := Bd.bytes
 have hml : c.maxLocals = 1 := hml0
 have hown : s.vm.findClass "com/example/ratatoskr/ratatoskr/core/internal/StringInput" = some m.cls := findClass_of_methodNamed Bd.named
 have hnm := (name_of_methodNamed Bd.named Bd.method).1
 have X0 : Stand p l e ({ frames := 0, cells := 0, slots := 0, locals := 0 } : Room) s m #[(.ref si_)] below meth c s₁ [] 0 0 := Stand.of_body Bd
 have e0 : s₁.heap = h0 := by rw [← hh, Bd.state]; rfl
 have N0 := Fr.nil n0
 have Z0 := own_old_le O0
 show Ends _ _ _ _ s₁ (entryFrame m #[(.ref si_)] 1) ({ frames := 0, cells := 0, slots := 0, locals := 0 } : Room).cells ({ frames := 0, cells := 0, slots := 0, locals := 0 } : Room).slots (fun v h L => v = none ∧ Fr n0 L ∧ Keep h0 h [si_] ∧ Fld Z h si_ cSI "base" "I" (.int 0) ∧ Fld Z h si_ cSI "position" "I" (.int 3) ∧ Fld Z h si_ cSI "mark" "I" (.int 3) ∧ Fld Z h si_ cSI "ascii" "Z" (.int 1) ∧ Fld Z h si_ cSI "limit" "I" (.int 4) ∧ Fld Z h si_ cSI "chars" "[C" (.ref xa_) ∧ Fld Z h si_ "com/example/ratatoskr/ratatoskr/core/internal/Input" "decoded" "Lcom/example/ratatoskr/ratatoskr/core/internal/DecodedChars;" .null)
 refine Ends.go (fun _ k => castTop (ef20_r m si_) k) ?_
 have K0 := Keep.refl h0 [si_]
 show Ends _ _ _ _ s₁ (mkF m 0 #[cr si_] []) _ _ _
 refine walN X0 hx hby d20_0 rfl rfl ?_
 refine walN X0 hx hby d20_1 rfl rfl ?_
 obtain ⟨T227, X227, e227, st227⟩ := getF X0 hx hZ hown (host := "") (Or.inl (ow hw 102 rfl)) Via.refl e0 PF_si__base (g := (mkF m 2 #[cr si_] [(.ref si_), (.ref si_)])) rfl rfl (hb hby d20_2)
 refine Ends.go st227 ?_
 refine walN X227 hx hby d20_5 rfl rfl ?_
 show Ends _ _ _ _ T227 (mkF m 6 #[cr si_] [(.ref si_), (.int 0), (.ref si_)]) _ _ _
 obtain ⟨T228, X228, e228, st228⟩ := getF X227 hx hZ hown (host := "") (Or.inl (ow hw 104 rfl)) Via.refl e227 PF_si__position (g := (mkF m 6 #[cr si_] [(.ref si_), (.int 0), (.ref si_)])) rfl rfl (hb hby d20_6)
 refine Ends.go st228 ?_
 refine wia X228 hx hby d20_9 ?_
 obtain ⟨T229, h229, X229, e229, W229, st229⟩ := putF X228 hx hZ hown (host := "") (Or.inl (ow hw 106 rfl)) Via.refl e228 PF_si__mark PE_si_ (Or.inl (ow hw 107 rfl)) (ow hw 5 rfl) (ty := .int) (by decide) rfl rfl (g := (mkF m 10 #[cr si_] [(.int 3), (.ref si_)])) rfl rfl (hb hby d20_10)
 refine Ends.go st229 ?_
 have Fw229 := PF_si__mark.same W229
 have K229 := K0.wr W229 (Or.inl (List.mem_of_getElem? (i := 0) rfl))
 have O229 := O0.wr W229 g_si_
 have N229 := Fr.snoc X229 N0 g_si_
 refine walN X229 hx hby d20_13 rfl rfl ?_
 refine wic X229 hx hby d20_14 ?_
 show Ends _ _ _ _ T229 (mkF m 15 #[cr si_] [(.int 1), (.ref si_)]) _ _ _
 obtain ⟨T230, h230, X230, e230, W230, st230⟩ := putFN X229 hx hZ hown (ow hw 108 rfl) Via.refl e229 (PF_si__ascii.other W229 (Or.inr (slot_ne (Or.inl (ow hw 109 rfl)) (Or.inl (ow hw 107 rfl)) (by decide) (t := .boolean) (t' := .int) (by decide) (by decide)))) (PE_si_.wr W229) (Or.inl (ow hw 109 rfl)) (ow hw 5 rfl) (ty := .boolean) (v' := (.int 1)) (by decide) rfl (by decide) (g := (mkF m 15 #[cr si_] [(.int 1), (.ref si_)])) rfl rfl (hb hby d20_15)
 refine Ends.go st230 ?_
 have Fw230 := (PF_si__ascii.other W229 (Or.inr (slot_ne (Or.inl (ow hw 109 rfl)) (Or.inl (ow hw 107 rfl)) (by decide) (t := .boolean) (t' := .int) (by decide) (by decide)))).same W230
 have K230 := K229.wr W230 (Or.inl (List.mem_of_getElem? (i := 0) rfl))
 have O230 := O229.wr W230 g_si_
 have N230 := Fr.snoc X230 N229 g_si_
 refine Ends.retV X230 hx Bd.notSynchronized Bd.returns (hb hby d20_18) (by decide) (by decide) ?_
 rw [e230]
 exact ⟨rfl, N230, K230, ((PF_si__base.other W229 (Or.inr (slot_ne (Or.inl (ow hw 103 rfl)) (Or.inl (ow hw 107 rfl)) (by decide) (t := .int) (t' := .int) (by decide) (by decide)))).other W230 (Or.inr (slot_ne (Or.inl (ow hw 103 rfl)) (Or.inl (ow hw 109 rfl)) (by decide) (t := .int) (t' := .boolean) (by decide) (by decide)))), ((PF_si__position.other W229 (Or.inr (slot_ne (Or.inl (ow hw 105 rfl)) (Or.inl (ow hw 107 rfl)) (by decide) (t := .int) (t' := .int) (by decide) (by decide)))).other W230 (Or.inr (slot_ne (Or.inl (ow hw 105 rfl)) (Or.inl (ow hw 109 rfl)) (by decide) (t := .int) (t' := .boolean) (by decide) (by decide)))), (Fw229.other W230 (Or.inr (slot_ne (Or.inl (ow hw 107 rfl)) (Or.inl (ow hw 109 rfl)) (by decide) (t := .int) (t' := .boolean) (by decide) (by decide)))), Fw230, ((PF_si__limit.other W229 (Or.inr (slot_ne (Or.inl (ow hw 64 rfl)) (Or.inl (ow hw 107 rfl)) (by decide) (t := .int) (t' := .int) (by decide) (by decide)))).other W230 (Or.inr (slot_ne (Or.inl (ow hw 64 rfl)) (Or.inl (ow hw 109 rfl)) (by decide) (t := .int) (t' := .boolean) (by decide) (by decide)))), ((PF_si__chars.other W229 (Or.inr (slot_ne (Or.inr (ow hw 62 rfl)) (Or.inl (ow hw 107 rfl)) (by decide) (t := (.array .char)) (t' := .int) (by decide) (by decide)))).other W230 (Or.inr (slot_ne (Or.inr (ow hw 62 rfl)) (Or.inl (ow hw 109 rfl)) (by decide) (t := (.array .char)) (t' := .boolean) (by decide) (by decide)))), ((PF_si__decoded.other W229 (Or.inr (slot_ne (Or.inl (ow hw 139 rfl)) (Or.inl (ow hw 107 rfl)) (by decide) (t := (.object "com/example/ratatoskr/ratatoskr/core/internal/DecodedChars")) (t' := .int) (by decide) (by decide)))).other W230 (Or.inr (slot_ne (Or.inl (ow hw 139 rfl)) (Or.inl (ow hw 109 rfl)) (by decide) (t := (.object "com/example/ratatoskr/ratatoskr/core/internal/DecodedChars")) (t' := .boolean) (by decide) (by decide))))⟩

set_option maxRecDepth 65536 in
set_option maxHeartbeats 40000000 in
theorem rx27_234 (l : Launch) (Z : State) (a0 : Array Value) (hw : ∀ d ∈ tables_1, d.before a0 Z = true) (ws : List Jvm.Cond) (n0 : Nat) (h0 : Heap) (O0 : Old Z n0 h0)  (si_ : Addr) (xa_ : Addr) (PF_si__position : Fld Z h0 si_ cSI "position" "I" (.int 3)) (PE_si_ : Exa Z h0 si_ cSI) (PF_si__limit : Fld Z h0 si_ cSI "limit" "I" (.int 4)) (PF_si__base : Fld Z h0 si_ cSI "base" "I" (.int 0)) (PF_si__chars : Fld Z h0 si_ cSI "chars" "[C" (.ref xa_)) (PF_si__ascii : Fld Z h0 si_ cSI "ascii" "Z" (.int 0)) (PF_si__mark : Fld Z h0 si_ cSI "mark" "I" (.int 0)) (PF_si__decoded : Fld Z h0 si_ "com/example/ratatoskr/ratatoskr/core/internal/Input" "decoded" "Lcom/example/ratatoskr/ratatoskr/core/internal/DecodedChars;" .null) (g_si_ : n0 ≤ si_) :
  Meets1 l ym15 prog_85_method_3_code 1 none ws ({ frames := 0, cells := 0, slots := 0, locals := 0 } : Room) #[(.ref si_)] Z h0 (fun v h L => v = none ∧ Fr n0 L ∧ Keep h0 h [si_] ∧ Fld Z h si_ cSI "position" "I" (.int 4) ∧ Fld Z h si_ cSI "limit" "I" (.int 4) ∧ Fld Z h si_ cSI "base" "I" (.int 0) ∧ Fld Z h si_ cSI "chars" "[C" (.ref xa_) ∧ Fld Z h si_ cSI "ascii" "Z" (.int 0) ∧ Fld Z h si_ cSI "mark" "I" (.int 0) ∧ Fld Z h si_ "com/example/ratatoskr/ratatoskr/core/internal/Input" "decoded" "Lcom/example/ratatoskr/ratatoskr/core/internal/DecodedChars;" .null) := by
 refine MetFree.of_bodySF (plainFor_of_name pn27) hisR ?_
 intro p e s m args below meth c s₁ Bd hml0 hP hK
 obtain ⟨rfl, hZ, hh⟩ := hP
 have hx := Bd.exec
 have hby := Bd.bytes
 have hml : c.maxLocals = 1 := hml0
 have hown : s.vm.findClass "com/example/ratatoskr/ratatoskr/core/internal/StringInput" = some m.cls := findClass_of_methodNamed Bd.named
 have hnm := (name_of_methodNamed Bd.named Bd.method).1
 have X0 : Stand p l e ({ frames := 0, cells := 0, slots := 0, locals := 0 } : Room) s m #[(.ref si_)] below meth c s₁ [] 0 0 := Stand.of_body Bd
 have e0 : s₁.heap = h0 := by rw [← hh, Bd.state]; rfl
 have N0 := Fr.nil n0
 have Z0 := own_old_le O0
 show Ends _ _ _ _ s₁ (entryFrame m #[(.ref si_)] 1) ({ frames := 0, cells := 0, slots := 0, locals := 0 } : Room).cells ({ frames := 0, cells := 0, slots := 0, locals := 0 } : Room).slots (fun v h L => v = none ∧ Fr n0 L ∧ Keep h0 h [si_] ∧ Fld Z h si_ cSI "position" "I" (.int 4) ∧ Fld Z h si_ cSI "limit" "I" (.int 4) ∧ Fld Z h si_ cSI "base" "I" (.int 0) ∧ Fld Z h si_ cSI "chars" "[C" (.ref xa_) ∧ Fld Z h si_ cSI "ascii" "Z" (.int 0) ∧ Fld Z h si_ cSI "mark" "I" (.int 0) ∧ Fld Z h si_ "com/example/ratatoskr/ratatoskr/core/internal/Input" "decoded" "Lcom/example/ratatoskr/ratatoskr/core/internal/DecodedChars;" .null)
 refine Ends.go (fun _ k => castTop (ef27_r m si_) k) ?_
 have K0 := Keep.refl h0 [si_]
 show Ends _ _ _ _ s₁ (mkF m 0 #[cr si_] []) _ _ _
 refine walN X0 hx hby d27_0 rfl rfl ?_
 refine wdu X0 hx hby d27_1 rfl ?_
 obtain ⟨T235, X235, e235, st235⟩ := getF X0 hx hZ hown (host := "") (Or.inl (ow hw 104 rfl)) Via.refl e0 PF_si__position (g := (mkF m 2 #[cr si_] [(.ref si_), (.ref si_)])) rfl rfl (hb hby d27_2)
 refine Ends.go st235 ?_
 refine wic X235 hx hby d27_5 ?_
 show Ends _ _ _ _ T235 (mkF m 6 #[cr si_] [(.int 1), (.int 3), (.ref si_)]) _ _ _
 refine wia X235 hx hby d27_6 ?_
 obtain ⟨T236, h236, X236, e236, W236, st236⟩ := putF X235 hx hZ hown (host := "") (Or.inl (ow hw 104 rfl)) Via.refl e235 PF_si__position PE_si_ (Or.inl (ow hw 105 rfl)) (ow hw 5 rfl) (ty := .int) (by decide) rfl rfl (g := (mkF m 7 #[cr si_] [(.int 4), (.ref si_)])) rfl rfl (hb hby d27_7)
 refine Ends.go st236 ?_
 have Fw236 := PF_si__position.same W236
 have K236 := K0.wr W236 (Or.inl (List.mem_of_getElem? (i := 0) rfl))
 have O236 := O0.wr W236 g_si_
 have N236 := Fr.snoc X236 N0 g_si_
 refine Ends.retV X236 hx Bd.notSynchronized Bd.returns (hb hby d27_10) (by decide) (by decide) ?_
 rw [e236]
 exact ⟨rfl, N236, K236, Fw236, (PF_si__limit.other W236 (Or.inr (slot_ne (Or.inl (ow hw 64 rfl)) (Or.inl (ow hw 105 rfl)) (by decide) (t := .int) (t' := .int) (by decide) (by decide)))), (PF_si__base.other W236 (Or.inr (slot_ne (Or.inl (ow hw 103 rfl)) (Or.inl (ow hw 105 rfl)) (by decide) (t := .int) (t' := .int) (by decide) (by decide)))), (PF_si__chars.other W236 (Or.inr (slot_ne (Or.inr (ow hw 62 rfl)) (Or.inl (ow hw 105 rfl)) (by decide) (t := (.array .char)) (t' := .int) (by decide) (by decide)))), (PF_si__ascii.other W236 (Or.inr (slot_ne (Or.inl (ow hw 109 rfl)) (Or.inl (ow hw 105 rfl)) (by decide) (t := .boolean) (t' := .int) (by decide) (by decide)))), (PF_si__mark.other W236 (Or.inr (slot_ne (Or.inl (ow hw 107 rfl)) (Or.inl (ow hw 105 rfl)) (by decide) (t := .int) (t' := .int) (by decide) (by decide)))), (PF_si__decoded.other W236 (Or.inr (slot_ne (Or.inl (ow hw 139 rfl)) (Or.inl (ow hw 105 rfl)) (by decide) (t := (.object "com/example/ratatoskr/ratatoskr/core/internal/DecodedChars")) (t' := .int) (by decide) (by decide))))⟩

set_option maxRecDepth 65536 in
set_option maxHeartbeats 40000000 in
theorem rx20_238 (l : Launch) (Z : State) (a0 : Array Value) (hw : ∀ d ∈ tables_1, d.before a0 Z = true) (ws : List Jvm.Cond) (n0 : Nat) (h0 : Heap) (O0 : Old Z n0 h0)  (si_ : Addr) (xa_ : Addr) (PF_si__base : Fld Z h0 si_ cSI "base" "I" (.int 0)) (PF_si__position : Fld Z h0 si_ cSI "position" "I" (.int 4)) (PE_si_ : Exa Z h0 si_ cSI) (PF_si__mark : Fld Z h0 si_ cSI "mark" "I" (.int 0)) (PF_si__ascii : Fld Z h0 si_ cSI "ascii" "Z" (.int 0)) (PF_si__limit : Fld Z h0 si_ cSI "limit" "I" (.int 4)) (PF_si__chars : Fld Z h0 si_ cSI "chars" "[C" (.ref xa_)) (PF_si__decoded : Fld Z h0 si_ "com/example/ratatoskr/ratatoskr/core/internal/Input" "decoded" "Lcom/example/ratatoskr/ratatoskr/core/internal/DecodedChars;" .null) (g_si_ : n0 ≤ si_) :
  Meets1 l ym14 prog_85_method_21_code 1 none ws ({ frames := 0, cells := 0, slots := 0, locals := 0 } : Room) #[(.ref si_)] Z h0 (fun v h L => v = none ∧ Fr n0 L ∧ Keep h0 h [si_] ∧ Fld Z h si_ cSI "base" "I" (.int 0) ∧ Fld Z h si_ cSI "position" "I" (.int 4) ∧ Fld Z h si_ cSI "mark" "I" (.int 4) ∧ Fld Z h si_ cSI "ascii" "Z" (.int 1) ∧ Fld Z h si_ cSI "limit" "I" (.int 4) ∧ Fld Z h si_ cSI "chars" "[C" (.ref xa_) ∧ Fld Z h si_ "com/example/ratatoskr/ratatoskr/core/internal/Input" "decoded" "Lcom/example/ratatoskr/ratatoskr/core/internal/DecodedChars;" .null) := by
 refine MetFree.of_bodySF (plainFor_of_name pn20) hisR ?_
 intro p e s m args below meth c s₁ Bd hml0 hP hK
 obtain ⟨rfl, hZ, hh⟩ := hP
 have hx := Bd.exec
 have hby := Bd.bytes
 have hml : c.maxLocals = 1 := hml0
 have hown : s.vm.findClass "com/example/ratatoskr/ratatoskr/core/internal/StringInput" = some m.cls := findClass_of_methodNamed Bd.named
 have hnm := (name_of_methodNamed Bd.named Bd.method).1
 have X0 : Stand p l e ({ frames := 0, cells := 0, slots := 0, locals := 0 } : Room) s m #[(.ref si_)] below meth c s₁ [] 0 0 := Stand.of_body Bd
 have e0 : s₁.heap = h0 := by rw [← hh, Bd.state]; rfl
 have N0 := Fr.nil n0
 have Z0 := own_old_le O0
 show Ends _ _ _ _ s₁ (entryFrame m #[(.ref si_)] 1) ({ frames := 0, cells := 0, slots := 0, locals := 0 } : Room).cells ({ frames := 0, cells := 0, slots := 0, locals := 0 } : Room).slots (fun v h L => v = none ∧ Fr n0 L ∧ Keep h0 h [si_] ∧ Fld Z h si_ cSI "base" "I" (.int 0) ∧ Fld Z h si_ cSI "position" "I" (.int 4) ∧ Fld Z h si_ cSI "mark" "I" (.int 4) ∧ Fld Z h si_ cSI "ascii" "Z" (.int 1) ∧ Fld Z h si_ cSI "limit" "I" (.int 4) ∧ Fld Z h si_ cSI "chars" "[C" (.ref xa_) ∧ Fld Z h si_ "com/example/ratatoskr/ratatoskr/core/internal/Input" "decoded" "Lcom/example/ratatoskr/ratatoskr/core/internal/DecodedChars;" .null)
 refine Ends.go (fun _ k => castTop (ef20_r m si_) k) ?_
 have K0 := Keep.refl h0 [si_]
 show Ends _ _ _ _ s₁ (mkF m 0 #[cr si_] []) _ _ _
 refine walN X0 hx hby d20_0 rfl rfl ?_
 refine walN X0 hx hby d20_1 rfl rfl ?_
 obtain ⟨T239, X239, e239, st239⟩ := getF X0 hx hZ hown (host := "") (Or.inl (ow hw 102 rfl)) Via.refl e0 PF_si__base (g := (mkF m 2 #[cr si_] [(.ref si_), (.ref si_)])) rfl rfl (hb hby d20_2)
 refine Ends.go st239 ?_
 refine walN X239 hx hby d20_5 rfl rfl ?_
 show Ends _ _ _ _ T239 (mkF m 6 #[cr si_] [(.ref si_), (.int 0), (.ref si_)]) _ _ _
 obtain ⟨T240, X240, e240, st240⟩ := getF X239 hx hZ hown (host := "") (Or.inl (ow hw 104 rfl)) Via.refl e239 PF_si__position (g := (mkF m 6 #[cr si_] [(.ref si_), (.int 0), (.ref si_)])) rfl rfl (hb hby d20_6)
 refine Ends.go st240 ?_
 refine wia X240 hx hby d20_9 ?_
 obtain ⟨T241, h241, X241, e241, W241, st241⟩ := putF X240 hx hZ hown (host := "") (Or.inl (ow hw 106 rfl)) Via.refl e240 PF_si__mark PE_si_ (Or.inl (ow hw 107 rfl)) (ow hw 5 rfl) (ty := .int) (by decide) rfl rfl (g := (mkF m 10 #[cr si_] [(.int 4), (.ref si_)])) rfl rfl (hb hby d20_10)
 refine Ends.go st241 ?_
 have Fw241 := PF_si__mark.same W241
 have K241 := K0.wr W241 (Or.inl (List.mem_of_getElem? (i := 0) rfl))
 have O241 := O0.wr W241 g_si_
 have N241 := Fr.snoc X241 N0 g_si_
 refine walN X241 hx hby d20_13 rfl rfl ?_
 refine wic X241 hx hby d20_14 ?_
 show Ends _ _ _ _ T241 (mkF m 15 #[cr si_] [(.int 1), (.ref si_)]) _ _ _
 obtain ⟨T242, h242, X242, e242, W242, st242⟩ := putFN X241 hx hZ hown (ow hw 108 rfl) Via.refl e241 (PF_si__ascii.other W241 (Or.inr (slot_ne (Or.inl (ow hw 109 rfl)) (Or.inl (ow hw 107 rfl)) (by decide) (t := .boolean) (t' := .int) (by decide) (by decide)))) (PE_si_.wr W241) (Or.inl (ow hw 109 rfl)) (ow hw 5 rfl) (ty := .boolean) (v' := (.int 1)) (by decide) rfl (by decide) (g := (mkF m 15 #[cr si_] [(.int 1), (.ref si_)])) rfl rfl (hb hby d20_15)
 refine Ends.go st242 ?_
 have Fw242 := (PF_si__ascii.other W241 (Or.inr (slot_ne (Or.inl (ow hw 109 rfl)) (Or.inl (ow hw 107 rfl)) (by decide) (t := .boolean) (t' := .int) (by decide) (by decide)))).same W242
 have K242 := K241.wr W242 (Or.inl (List.mem_of_getElem? (i := 0) rfl))
 have O242 := O241.wr W242 g_si_
 have N242 := Fr.snoc X242 N241 g_si_
 refine Ends.retV X242 hx Bd.notSynchronized Bd.returns (hb hby d20_18) (by decide) (by decide) ?_
 rw [e242]
 exact ⟨rfl, N242, K242, ((PF_si__base.other W241 (Or.inr (slot_ne (Or.inl (ow hw 103 rfl)) (Or.inl (ow hw 107 rfl)) (by decide) (t := .int) (t' := .int) (by decide) (by decide)))).other W242 (Or.inr (slot_ne (Or.inl (ow hw 103 rfl)) (Or.inl (ow hw 109 rfl)) (by decide) (t := .int) (t' := .boolean) (by decide) (by decide)))), ((PF_si__position.other W241 (Or.inr (slot_ne (Or.inl (ow hw 105 rfl)) (Or.inl (ow hw 107 rfl)) (by decide) (t := .int) (t' := .int) (by decide) (by decide)))).other W242 (Or.inr (slot_ne (Or.inl (ow hw 105 rfl)) (Or.inl (ow hw 109 rfl)) (by decide) (t := .int) (t' := .boolean) (by decide) (by decide)))), (Fw241.other W242 (Or.inr (slot_ne (Or.inl (ow hw 107 rfl)) (Or.inl (ow hw 109 rfl)) (by decide) (t := .int) (t' := .boolean) (by decide) (by decide)))), Fw242, ((PF_si__limit.other W241 (Or.inr (slot_ne (Or.inl (ow hw 64 rfl)) (Or.inl (ow hw 107 rfl)) (by decide) (t := .int) (t' := .int) (by decide) (by decide)))).other W242 (Or.inr (slot_ne (Or.inl (ow hw 64 rfl)) (Or.inl (ow hw 109 rfl)) (by decide) (t := .int) (t' := .boolean) (by decide) (by decide)))), ((PF_si__chars.other W241 (Or.inr (slot_ne (Or.inr (ow hw 62 rfl)) (Or.inl (ow hw 107 rfl)) (by decide) (t := (.array .char)) (t' := .int) (by decide) (by decide)))).other W242 (Or.inr (slot_ne (Or.inr (ow hw 62 rfl)) (Or.inl (ow hw 109 rfl)) (by decide) (t := (.array .char)) (t' := .boolean) (by decide) (by decide)))), ((PF_si__decoded.other W241 (Or.inr (slot_ne (Or.inl (ow hw 139 rfl)) (Or.inl (ow hw 107 rfl)) (by decide) (t := (.object "com/example/ratatoskr/ratatoskr/core/internal/DecodedChars")) (t' := .int) (by decide) (by decide)))).other W242 (Or.inr (slot_ne (Or.inl (ow hw 139 rfl)) (Or.inl (ow hw 109 rfl)) (by decide) (t := (.object "com/example/ratatoskr/ratatoskr/core/internal/DecodedChars")) (t' := .boolean) (by decide) (by decide))))⟩

set_option maxRecDepth 65536 in
set_option maxHeartbeats 40000000 in
theorem rx5_255 (l : Launch) (Z : State) (a0 : Array Value) (hw : ∀ d ∈ tables_1, d.before a0 Z = true) (ws : List Jvm.Cond) (n0 : Nat) (h0 : Heap) (O0 : Old Z n0 h0)  (x5 : Addr) (b254 : Addr) (kx5 : ClassId) (c0_ : Int32) (c1_ : Int32) (c2_ : Int32) (c3_ : Int32) (k254 : ClassId) (PV_x5 : Arv Z h0 x5 kx5 .char (4 : Int32) [(.int c0_), (.int c1_), (.int c2_), (.int c3_)] (.int 0)) (PV_b254 : Arv Z h0 b254 k254 .byte (4 : Int32) [(.int 0), (.int 0), (.int 0), (.int 0)] (.int 0)) (ne_x5_b254 : x5 ≠ b254) (g_b254 : n0 ≤ b254) (hk0_ : ¬ ((255 : Int32) < c0_)) (hk1_ : ¬ ((255 : Int32) < c1_)) (hk2_ : ¬ ((255 : Int32) < c2_)) (hk3_ : ¬ ((255 : Int32) < c3_)) :
  Meets1 l ym0 jdk_52_method_21_code 7 (some .int) ws ({ frames := 0, cells := 0, slots := 0, locals := 0 } : Room) #[(.ref x5), (.int 0), (.ref b254), (.int 0), (.int 4)] Z h0 (fun v h L => v = some (.int 4) ∧ Fr n0 L ∧ Keep h0 h [b254] ∧ Arv Z h b254 k254 .byte (4 : Int32) [(.int (c0_.toInt8.toInt32)), (.int (c1_.toInt8.toInt32)), (.int (c2_.toInt8.toInt32)), (.int (c3_.toInt8.toInt32))] (.int 0)) := by
 refine MetFree.of_bodySF (plainFor_of_name pn5) hisR ?_
 intro p e s m args below meth c s₁ Bd hml0 hP hK
 obtain ⟨rfl, hZ, hh⟩ := hP
 have hx := Bd.exec
 have hby := Bd.bytes
 have hml : c.maxLocals = 7 := hml0
 have hown : s.vm.findClass "java/lang/StringUTF16" = some m.cls := findClass_of_methodNamed Bd.named
 have hnm := (name_of_methodNamed Bd.named Bd.method).1
 have X0 : Stand p l e ({ frames := 0, cells := 0, slots := 0, locals := 0 } : Room) s m #[(.ref x5), (.int 0), (.ref b254), (.int 0), (.int 4)] below meth c s₁ [] 0 0 := Stand.of_body Bd
 have e0 : s₁.heap = h0 := by rw [← hh, Bd.state]; rfl
 have N0 := Fr.nil n0
 have Z0 := own_old_le O0
 show Ends _ _ _ _ s₁ (entryFrame m #[(.ref x5), (.int 0), (.ref b254), (.int 0), (.int 4)] 7) ({ frames := 0, cells := 0, slots := 0, locals := 0 } : Room).cells ({ frames := 0, cells := 0, slots := 0, locals := 0 } : Room).slots (fun v h L => v = some (.int 4) ∧ Fr n0 L ∧ Keep h0 h [b254] ∧ Arv Z h b254 k254 .byte (4 : Int32) [(.int (c0_.toInt8.toInt32)), (.int (c1_.toInt8.toInt32)), (.int (c2_.toInt8.toInt32)), (.int (c3_.toInt8.toInt32))] (.int 0))
 refine Ends.go (fun _ k => castTop (ef5_ririi m x5 (0 : Int32) b254 (0 : Int32) (4 : Int32)) k) ?_
 have K0 := Keep.refl h0 [b254]
 show Ends _ _ _ _ s₁ (mkF m 0 #[cr x5, ci 0, cr b254, ci 0, ci 4, cu, cu] []) _ _ _
 refine wic X0 hx hby d5_0 ?_
 refine wst X0 hx hby d5_1 (l' := #[cr x5, ci 0, cr b254, ci 0, ci 4, ci 0, cu]) rfl ?_
 refine wil X0 hx hby d5_3 rfl ?_
 refine wil X0 hx hby d5_5 rfl ?_
 show Ends _ _ _ _ s₁ (mkF m 7 #[cr x5, ci 0, cr b254, ci 0, ci 4, ci 0, cu] [(.int 4), (.int 0)]) _ _ _
 refine wcn X0 hx hby d5_7 (tlt (by decide : (0 : Int32) < (4 : Int32))).2.1 ?_
 refine walN X0 hx hby d5_10 rfl rfl ?_
 refine wilN X0 hx hby d5_11 rfl ?_
 obtain ⟨cl256, Ar256, q256, S256, M256, H256, G256⟩ := id PV_x5
 have hin256 := inb_of (j := (0 : Int32)) S256 ⟨by decide, by decide⟩
 refine Ends.go (X0.caload hx (j := (0 : Int32)) (v := (.int c0_)) (by rw [e0]; exact Ar256.1) (State.isArrayOf_alike hZ.alike Ar256.2.1) Ar256.2.2 hin256 (H256.at hin256 rfl) (g := (mkF m 12 #[cr x5, ci 0, cr b254, ci 0, ci 4, ci 0, cu] [(.int 0), (.ref x5)])) rfl rfl (hb hby d5_12)) ?_
 refine wst X0 hx hby d5_13 (l' := #[cr x5, ci 0, cr b254, ci 0, ci 4, ci 0, ci c0_]) rfl ?_
 show Ends _ _ _ _ s₁ (mkF m 15 #[cr x5, ci 0, cr b254, ci 0, ci 4, ci 0, ci c0_] []) _ _ _
 refine wil X0 hx hby d5_15 rfl ?_
 refine wsp X0 hx hby d5_17 ?_
 refine wcy (pc := 20) (pc' := 26) X0 hx hby d5_20 (flt (hk0_ : ¬ ((255 : Int32) < c0_))).2.2.2 (by decide) (by decide) ?_
 refine walN X0 hx hby d5_26 rfl rfl ?_
 refine wilN X0 hx hby d5_27 rfl ?_
 show Ends _ _ _ _ s₁ (mkF m 28 #[cr x5, ci 0, cr b254, ci 0, ci 4, ci 0, ci c0_] [(.int 0), (.ref b254)]) _ _ _
 refine wil X0 hx hby d5_28 rfl ?_
 refine .go (fun _ => XS.i2b X0.here hx rfl (hb hby d5_30) rfl) ?_
 obtain ⟨cl257, Ar257, q257, S257, M257, H257, G257⟩ := id PV_b254
 have hin257 := inb_of (j := (0 : Int32)) S257 ⟨by decide, by decide⟩
 obtain ⟨T257, h257, X257, e257, W257, st257⟩ := stB X0 hx hZ e0 Ar257 (j := (0 : Int32)) hin257 (g := (mkF m 31 #[cr x5, ci 0, cr b254, ci 0, ci 4, ci 0, ci c0_] [(.int (c0_.toInt8.toInt32)), (.int 0), (.ref b254)])) rfl rfl (hb hby d5_31)
 refine Ends.go st257 ?_
 have V257 : Arv Z h257 b254 k254 .byte (4 : Int32) [(.int (nar .byte (c0_.toInt8.toInt32))), (.int 0), (.int 0), (.int 0)] (.int 0) := Arv.set Ar257 q257 S257 M257 H257 G257 (fits_nar_byte _) W257 0 rfl (Nat.le_of_ble_eq_true rfl)
 rw [own_narb] at V257
 have K257 := K0.wr W257 (Or.inl (List.mem_of_getElem? (i := 0) rfl))
 have O257 := O0.wr W257 g_b254
 have N257 := Fr.snoc X257 N0 g_b254
 refine wii X257 hx hby d5_32 (l' := #[cr x5, ci 1, cr b254, ci 0, ci 4, ci 0, ci c0_]) rfl rfl ?_
 refine wii X257 hx hby d5_35 (l' := #[cr x5, ci 1, cr b254, ci 1, ci 4, ci 0, ci c0_]) rfl rfl ?_
 show Ends _ _ _ _ T257 (mkF m 38 #[cr x5, ci 1, cr b254, ci 1, ci 4, ci 0, ci c0_] []) _ _ _
 refine wii X257 hx hby d5_38 (l' := #[cr x5, ci 1, cr b254, ci 1, ci 4, ci 1, ci c0_]) rfl rfl ?_
 refine wgo (pc := 41) (pc' := 3) X257 hx hby d5_41 (by decide) (by decide) ?_
 refine wil X257 hx hby d5_3 rfl ?_
 refine wil X257 hx hby d5_5 rfl ?_
 refine wcn X257 hx hby d5_7 (tlt (by decide : (1 : Int32) < (4 : Int32))).2.1 ?_
 show Ends _ _ _ _ T257 (mkF m 10 #[cr x5, ci 1, cr b254, ci 1, ci 4, ci 1, ci c0_] []) _ _ _
 refine walN X257 hx hby d5_10 rfl rfl ?_
 refine wilN X257 hx hby d5_11 rfl ?_
 obtain ⟨cl258, Ar258, q258, S258, M258, H258, G258⟩ := id (PV_x5.other W257 ne_x5_b254)
 have hin258 := inb_of (j := (1 : Int32)) S258 ⟨by decide, by decide⟩
 refine Ends.go (X257.caload hx (j := (1 : Int32)) (v := (.int c1_)) (by rw [e257]; exact Ar258.1) (State.isArrayOf_alike hZ.alike Ar258.2.1) Ar258.2.2 hin258 (H258.at hin258 rfl) (g := (mkF m 12 #[cr x5, ci 1, cr b254, ci 1, ci 4, ci 1, ci c0_] [(.int 1), (.ref x5)])) rfl rfl (hb hby d5_12)) ?_
 refine wst X257 hx hby d5_13 (l' := #[cr x5, ci 1, cr b254, ci 1, ci 4, ci 1, ci c1_]) rfl ?_
 refine wil X257 hx hby d5_15 rfl ?_
 show Ends _ _ _ _ T257 (mkF m 17 #[cr x5, ci 1, cr b254, ci 1, ci 4, ci 1, ci c1_] [(.int c1_)]) _ _ _
 refine wsp X257 hx hby d5_17 ?_
 refine wcy (pc := 20) (pc' := 26) X257 hx hby d5_20 (flt (hk1_ : ¬ ((255 : Int32) < c1_))).2.2.2 (by decide) (by decide) ?_
 refine walN X257 hx hby d5_26 rfl rfl ?_
 refine wilN X257 hx hby d5_27 rfl ?_
 refine wil X257 hx hby d5_28 rfl ?_
 show Ends _ _ _ _ T257 (mkF m 30 #[cr x5, ci 1, cr b254, ci 1, ci 4, ci 1, ci c1_] [(.int c1_), (.int 1), (.ref b254)]) _ _ _
 refine .go (fun _ => XS.i2b X257.here hx rfl (hb hby d5_30) rfl) ?_
 obtain ⟨cl259, Ar259, q259, S259, M259, H259, G259⟩ := id V257
 have hin259 := inb_of (j := (1 : Int32)) S259 ⟨by decide, by decide⟩
 obtain ⟨T259, h259, X259, e259, W259, st259⟩ := stB X257 hx hZ e257 Ar259 (j := (1 : Int32)) hin259 (g := (mkF m 31 #[cr x5, ci 1, cr b254, ci 1, ci 4, ci 1, ci c1_] [(.int (c1_.toInt8.toInt32)), (.int 1), (.ref b254)])) rfl rfl (hb hby d5_31)
 refine Ends.go st259 ?_
 have V259 : Arv Z h259 b254 k254 .byte (4 : Int32) [(.int (c0_.toInt8.toInt32)), (.int (nar .byte (c1_.toInt8.toInt32))), (.int 0), (.int 0)] (.int 0) := Arv.set Ar259 q259 S259 M259 H259 G259 (fits_nar_byte _) W259 1 rfl (Nat.le_of_ble_eq_true rfl)
 rw [own_narb] at V259
 have K259 := K257.wr W259 (Or.inl (List.mem_of_getElem? (i := 0) rfl))
 have O259 := O257.wr W259 g_b254
 have N259 := Fr.snoc X259 N257 g_b254
 refine wii X259 hx hby d5_32 (l' := #[cr x5, ci 2, cr b254, ci 1, ci 4, ci 1, ci c1_]) rfl rfl ?_
 refine wii X259 hx hby d5_35 (l' := #[cr x5, ci 2, cr b254, ci 2, ci 4, ci 1, ci c1_]) rfl rfl ?_
 refine wii X259 hx hby d5_38 (l' := #[cr x5, ci 2, cr b254, ci 2, ci 4, ci 2, ci c1_]) rfl rfl ?_
 show Ends _ _ _ _ T259 (mkF m 41 #[cr x5, ci 2, cr b254, ci 2, ci 4, ci 2, ci c1_] []) _ _ _
 refine wgo (pc := 41) (pc' := 3) X259 hx hby d5_41 (by decide) (by decide) ?_
 refine wil X259 hx hby d5_3 rfl ?_
 refine wil X259 hx hby d5_5 rfl ?_
 refine wcn X259 hx hby d5_7 (tlt (by decide : (2 : Int32) < (4 : Int32))).2.1 ?_
 refine walN X259 hx hby d5_10 rfl rfl ?_
 show Ends _ _ _ _ T259 (mkF m 11 #[cr x5, ci 2, cr b254, ci 2, ci 4, ci 2, ci c1_] [(.ref x5)]) _ _ _
 refine wilN X259 hx hby d5_11 rfl ?_
 obtain ⟨cl260, Ar260, q260, S260, M260, H260, G260⟩ := id ((PV_x5.other W257 ne_x5_b254).other W259 ne_x5_b254)
 have hin260 := inb_of (j := (2 : Int32)) S260 ⟨by decide, by decide⟩
 refine Ends.go (X259.caload hx (j := (2 : Int32)) (v := (.int c2_)) (by rw [e259]; exact Ar260.1) (State.isArrayOf_alike hZ.alike Ar260.2.1) Ar260.2.2 hin260 (H260.at hin260 rfl) (g := (mkF m 12 #[cr x5, ci 2, cr b254, ci 2, ci 4, ci 2, ci c1_] [(.int 2), (.ref x5)])) rfl rfl (hb hby d5_12)) ?_
 refine wst X259 hx hby d5_13 (l' := #[cr x5, ci 2, cr b254, ci 2, ci 4, ci 2, ci c2_]) rfl ?_
 refine wil X259 hx hby d5_15 rfl ?_
 refine wsp X259 hx hby d5_17 ?_
 show Ends _ _ _ _ T259 (mkF m 20 #[cr x5, ci 2, cr b254, ci 2, ci 4, ci 2, ci c2_] [(.int 255), (.int c2_)]) _ _ _
 refine wcy (pc := 20) (pc' := 26) X259 hx hby d5_20 (flt (hk2_ : ¬ ((255 : Int32) < c2_))).2.2.2 (by decide) (by decide) ?_
 refine walN X259 hx hby d5_26 rfl rfl ?_
 refine wilN X259 hx hby d5_27 rfl ?_
 refine wil X259 hx hby d5_28 rfl ?_
 refine .go (fun _ => XS.i2b X259.here hx rfl (hb hby d5_30) rfl) ?_
 show Ends _ _ _ _ T259 (mkF m 31 #[cr x5, ci 2, cr b254, ci 2, ci 4, ci 2, ci c2_] [(.int (c2_.toInt8.toInt32)), (.int 2), (.ref b254)]) _ _ _
 obtain ⟨cl261, Ar261, q261, S261, M261, H261, G261⟩ := id V259
 have hin261 := inb_of (j := (2 : Int32)) S261 ⟨by decide, by decide⟩
 obtain ⟨T261, h261, X261, e261, W261, st261⟩ := stB X259 hx hZ e259 Ar261 (j := (2 : Int32)) hin261 (g := (mkF m 31 #[cr x5, ci 2, cr b254, ci 2, ci 4, ci 2, ci c2_] [(.int (c2_.toInt8.toInt32)), (.int 2), (.ref b254)])) rfl rfl (hb hby d5_31)
 refine Ends.go st261 ?_
 have V261 : Arv Z h261 b254 k254 .byte (4 : Int32) [(.int (c0_.toInt8.toInt32)), (.int (c1_.toInt8.toInt32)), (.int (nar .byte (c2_.toInt8.toInt32))), (.int 0)] (.int 0) := Arv.set Ar261 q261 S261 M261 H261 G261 (fits_nar_byte _) W261 2 rfl (Nat.le_of_ble_eq_true rfl)
 rw [own_narb] at V261
 have K261 := K259.wr W261 (Or.inl (List.mem_of_getElem? (i := 0) rfl))
 have O261 := O259.wr W261 g_b254
 have N261 := Fr.snoc X261 N259 g_b254
 refine wii X261 hx hby d5_32 (l' := #[cr x5, ci 3, cr b254, ci 2, ci 4, ci 2, ci c2_]) rfl rfl ?_
 refine wii X261 hx hby d5_35 (l' := #[cr x5, ci 3, cr b254, ci 3, ci 4, ci 2, ci c2_]) rfl rfl ?_
 refine wii X261 hx hby d5_38 (l' := #[cr x5, ci 3, cr b254, ci 3, ci 4, ci 3, ci c2_]) rfl rfl ?_
 refine wgo (pc := 41) (pc' := 3) X261 hx hby d5_41 (by decide) (by decide) ?_
 show Ends _ _ _ _ T261 (mkF m 3 #[cr x5, ci 3, cr b254, ci 3, ci 4, ci 3, ci c2_] []) _ _ _
 refine wil X261 hx hby d5_3 rfl ?_
 refine wil X261 hx hby d5_5 rfl ?_
 refine wcn X261 hx hby d5_7 (tlt (by decide : (3 : Int32) < (4 : Int32))).2.1 ?_
 refine walN X261 hx hby d5_10 rfl rfl ?_
 refine wilN X261 hx hby d5_11 rfl ?_
 show Ends _ _ _ _ T261 (mkF m 12 #[cr x5, ci 3, cr b254, ci 3, ci 4, ci 3, ci c2_] [(.int 3), (.ref x5)]) _ _ _
 obtain ⟨cl262, Ar262, q262, S262, M262, H262, G262⟩ := id (((PV_x5.other W257 ne_x5_b254).other W259 ne_x5_b254).other W261 ne_x5_b254)
 have hin262 := inb_of (j := (3 : Int32)) S262 ⟨by decide, by decide⟩
 refine Ends.go (X261.caload hx (j := (3 : Int32)) (v := (.int c3_)) (by rw [e261]; exact Ar262.1) (State.isArrayOf_alike hZ.alike Ar262.2.1) Ar262.2.2 hin262 (H262.at hin262 rfl) (g := (mkF m 12 #[cr x5, ci 3, cr b254, ci 3, ci 4, ci 3, ci c2_] [(.int 3), (.ref x5)])) rfl rfl (hb hby d5_12)) ?_
 refine wst X261 hx hby d5_13 (l' := #[cr x5, ci 3, cr b254, ci 3, ci 4, ci 3, ci c3_]) rfl ?_
 refine wil X261 hx hby d5_15 rfl ?_
 refine wsp X261 hx hby d5_17 ?_
 refine wcy (pc := 20) (pc' := 26) X261 hx hby d5_20 (flt (hk3_ : ¬ ((255 : Int32) < c3_))).2.2.2 (by decide) (by decide) ?_
 show Ends _ _ _ _ T261 (mkF m 26 #[cr x5, ci 3, cr b254, ci 3, ci 4, ci 3, ci c3_] []) _ _ _
 refine walN X261 hx hby d5_26 rfl rfl ?_
 refine wilN X261 hx hby d5_27 rfl ?_
 refine wil X261 hx hby d5_28 rfl ?_
 refine .go (fun _ => XS.i2b X261.here hx rfl (hb hby d5_30) rfl) ?_
 obtain ⟨cl263, Ar263, q263, S263, M263, H263, G263⟩ := id V261
 have hin263 := inb_of (j := (3 : Int32)) S263 ⟨by decide, by decide⟩
 obtain ⟨T263, h263, X263, e263, W263, st263⟩ := stB X261 hx hZ e261 Ar263 (j := (3 : Int32)) hin263 (g := (mkF m 31 #[cr x5, ci 3, cr b254, ci 3, ci 4, ci 3, ci c3_] [(.int (c3_.toInt8.toInt32)), (.int 3), (.ref b254)])) rfl rfl (hb hby d5_31)
 refine Ends.go st263 ?_
 have V263 : Arv Z h263 b254 k254 .byte (4 : Int32) [(.int (c0_.toInt8.toInt32)), (.int (c1_.toInt8.toInt32)), (.int (c2_.toInt8.toInt32)), (.int (nar .byte (c3_.toInt8.toInt32)))] (.int 0) := Arv.set Ar263 q263 S263 M263 H263 G263 (fits_nar_byte _) W263 3 rfl (Nat.le_of_ble_eq_true rfl)
 rw [own_narb] at V263
 have K263 := K261.wr W263 (Or.inl (List.mem_of_getElem? (i := 0) rfl))
 have O263 := O261.wr W263 g_b254
 have N263 := Fr.snoc X263 N261 g_b254
 show Ends _ _ _ _ T263 (mkF m 32 #[cr x5, ci 3, cr b254, ci 3, ci 4, ci 3, ci c3_] []) _ _ _
 refine wii X263 hx hby d5_32 (l' := #[cr x5, ci 4, cr b254, ci 3, ci 4, ci 3, ci c3_]) rfl rfl ?_
 refine wii X263 hx hby d5_35 (l' := #[cr x5, ci 4, cr b254, ci 4, ci 4, ci 3, ci c3_]) rfl rfl ?_
 refine wii X263 hx hby d5_38 (l' := #[cr x5, ci 4, cr b254, ci 4, ci 4, ci 4, ci c3_]) rfl rfl ?_
 refine wgo (pc := 41) (pc' := 3) X263 hx hby d5_41 (by decide) (by decide) ?_
 refine wil X263 hx hby d5_3 rfl ?_
 show Ends _ _ _ _ T263 (mkF m 5 #[cr x5, ci 4, cr b254, ci 4, ci 4, ci 4, ci c3_] [(.int 4)]) _ _ _
 refine wil X263 hx hby d5_5 rfl ?_
 refine wcy (pc := 7) (pc' := 44) X263 hx hby d5_7 (flt (by decide : ¬ ((4 : Int32) < (4 : Int32)))).2.1 (by decide) (by decide) ?_
 refine wil X263 hx hby d5_44 rfl ?_
 refine Ends.ret X263 hx Bd.notSynchronized (t := .int) Bd.returns rfl (Or.inl ⟨rfl, by simp, _, rfl⟩) (hb hby d5_46) (by decide) (by decide) ?_
 rw [e263]
 exact ⟨rfl, N263, K263, V263⟩

theorem d4_0 : decode jdk_52_method_16_code 0 = .ok (.iload_n 2, 1) := by decide +kernel
theorem d4_1 : decode jdk_52_method_16_code 1 = .ok (.newarray .byte, 2) := by decide +kernel
theorem d4_3 : decode jdk_52_method_16_code 3 = .ok (.astore_n 3, 1) := by decide +kernel
theorem d4_4 : decode jdk_52_method_16_code 4 = .ok (.aload_n 0, 1) := by decide +kernel
theorem d4_5 : decode jdk_52_method_16_code 5 = .ok (.iload_n 1, 1) := by decide +kernel
theorem d4_6 : decode jdk_52_method_16_code 6 = .ok (.aload_n 3, 1) := by decide +kernel
theorem d4_7 : decode jdk_52_method_16_code 7 = .ok (.iconst 0, 1) := by decide +kernel
theorem d4_8 : decode jdk_52_method_16_code 8 = .ok (.iload_n 2, 1) := by decide +kernel
theorem d4_9 : decode jdk_52_method_16_code 9 = .ok (.invokestatic 115, 3) := by decide +kernel
theorem d4_12 : decode jdk_52_method_16_code 12 = .ok (.istore 4, 2) := by decide +kernel
theorem d4_14 : decode jdk_52_method_16_code 14 = .ok (.iload 4, 2) := by decide +kernel
theorem d4_16 : decode jdk_52_method_16_code 16 = .ok (.iload_n 2, 1) := by decide +kernel
theorem d4_17 : decode jdk_52_method_16_code 17 = .ok (.if_icmp .eq 40, 3) := by decide +kernel
theorem d4_57 : decode jdk_52_method_16_code 57 = .ok (.aload_n 3, 1) := by decide +kernel
theorem d4_58 : decode jdk_52_method_16_code 58 = .ok (.areturn, 1) := by decide +kernel
theorem pn4 : plainName "java/lang/StringUTF16" = true := by first | (simp [plainName, overriddenIn]; done) | decide +kernel
theorem pdx_6 : parseMethodDescriptor "([CI[BII)I" = some ⟨[(.array .char), .int, (.array .byte), .int, .int], some .int⟩ := by decide +kernel
theorem ef4_rii (m : MethodId) (x0 : Addr) (x1 : Int32) (x2 : Int32) : entryFrame m #[(.ref x0), (.int x1), (.int x2)] 6 = mkF m 0 #[.val (.ref x0), .val (.int x1), .val (.int x2), .unset, .unset, .unset] [] := by first | (simp [entryFrame, mkF, argsToLocals, Value.category]; done) | rfl
set_option maxRecDepth 65536 in
set_option maxHeartbeats 40000000 in
theorem rx4_253 (l : Launch) (Z : State) (a0 : Array Value) (hw : ∀ d ∈ tables_1, d.before a0 Z = true) (ws : List Jvm.Cond) (n0 : Nat) (h0 : Heap) (O0 : Old Z n0 h0)  (x5 : Addr) (kx5 : ClassId) (c0_ : Int32) (c1_ : Int32) (c2_ : Int32) (c3_ : Int32) (PV_x5 : Arv Z h0 x5 kx5 .char (4 : Int32) [(.int c0_), (.int c1_), (.int c2_), (.int c3_)] (.int 0)) (hk0_ : ¬ ((255 : Int32) < c0_)) (hk1_ : ¬ ((255 : Int32) < c1_)) (hk2_ : ¬ ((255 : Int32) < c2_)) (hk3_ : ¬ ((255 : Int32) < c3_)) :
  Meets1 l ym16 jdk_52_method_16_code 6 (some (.array .byte)) ws ({ frames := 1, cells := 1, slots := 4, locals := 18 } : Room) #[(.ref x5), (.int 0), (.int 4)] Z h0 (fun v h L => ∃ (b254 : Addr) (k254 : ClassId), v = some (.ref b254) ∧ Fr n0 L ∧ Keep h0 h [] ∧ h0.size ≤ b254 ∧ Arv Z h b254 k254 .byte (4 : Int32) [(.int (c0_.toInt8.toInt32)), (.int (c1_.toInt8.toInt32)), (.int (c2_.toInt8.toInt32)), (.int (c3_.toInt8.toInt32))] (.int 0)) := by
 refine MetFree.of_bodySF (plainFor_of_name pn4) hisR ?_
 intro p e s m args below meth c s₁ Bd hml0 hP hK
 obtain ⟨rfl, hZ, hh⟩ := hP
 have hx := Bd.exec
 have hby := Bd.bytes
 have hml : c.maxLocals = 6 := hml0
 have hown : s.vm.findClass "java/lang/StringUTF16" = some m.cls := findClass_of_methodNamed Bd.named
 have hnm := (name_of_methodNamed Bd.named Bd.method).1
 have X0 : Stand p l e ({ frames := 1, cells := 1, slots := 4, locals := 18 } : Room) s m #[(.ref x5), (.int 0), (.int 4)] below meth c s₁ [] 0 0 := Stand.of_body Bd
 have e0 : s₁.heap = h0 := by rw [← hh, Bd.state]; rfl
 have N0 := Fr.nil n0
 have Z0 := own_old_le O0
 show Ends _ _ _ _ s₁ (entryFrame m #[(.ref x5), (.int 0), (.int 4)] 6) ({ frames := 1, cells := 1, slots := 4, locals := 18 } : Room).cells ({ frames := 1, cells := 1, slots := 4, locals := 18 } : Room).slots (fun v h L => ∃ (b254 : Addr) (k254 : ClassId), v = some (.ref b254) ∧ Fr n0 L ∧ Keep h0 h [] ∧ h0.size ≤ b254 ∧ Arv Z h b254 k254 .byte (4 : Int32) [(.int (c0_.toInt8.toInt32)), (.int (c1_.toInt8.toInt32)), (.int (c2_.toInt8.toInt32)), (.int (c3_.toInt8.toInt32))] (.int 0))
 refine Ends.go (fun _ k => castTop (ef4_rii m x5 (0 : Int32) (4 : Int32)) k) ?_
 have K0 := Keep.refl h0 []
 show Ends _ _ _ _ s₁ (mkF m 0 #[cr x5, ci 0, ci 4, cu, cu, cu] []) _ _ _
 refine wilN X0 hx hby d4_0 rfl ?_
 obtain ⟨T254, h254, k254, X254, e254, E254, A254, st254⟩ := newP X0 hx hZ (ow hw 25 rfl) e0 (g := (mkF m 1 #[cr x5, ci 0, ci 4, cu, cu, cu] [(.int 4)])) rfl (hb hby d4_1) rfl (by decide) (cap := 4) (by decide) (by decide) (by decide) (by decide)
 obtain ⟨b254, g254⟩ : ∃ z, z = h0.size := ⟨_, rfl⟩
 rw [← g254] at A254 st254
 refine Ends.go st254 ?_
 have g_b254 : n0 ≤ b254 := Nat.le_trans (own_old_le O0) (Nat.le_of_eq g254.symm)
 have sz_b254 : h0.size ≤ b254 := Nat.le_trans K0.1 (Nat.le_of_eq g254.symm)
 have K254 := K0.ext E254
 have O254 := O0.ext E254
 have V_b254 : Arv Z h254 b254 k254 .byte (4 : Int32) [(.int 0), (.int 0), (.int 0), (.int 0)] (.int 0) := (Arv.new A254 (by decide)).pad (pad_rep [] (.int 0) 4)
 refine wasN X254 hx hby d4_3 (l' := #[cr x5, ci 0, ci 4, cr b254, cu, cu]) rfl rfl ?_
 refine walN X254 hx hby d4_4 rfl rfl ?_
 show Ends _ _ _ _ T254 (mkF m 5 #[cr x5, ci 0, ci 4, cr b254, cu, cu] [(.ref x5)]) _ _ _
 refine wilN X254 hx hby d4_5 rfl ?_
 refine walN X254 hx hby d4_6 rfl rfl ?_
 refine wic X254 hx hby d4_7 ?_
 refine wilN X254 hx hby d4_8 rfl ?_
 obtain ⟨_, _, ⟨T264, L264, k264, n264⟩, -, X264, ⟨Lc264, hQ264, l264, y264, z264⟩, st264⟩ := Jvm.LawKit.callS X254 hx (y := ym0) hown (mvT hZ (ow hw 26 rfl)) (mvT hZ (ow hw 27 rfl)) (mvT hZ (ow hw 23 rfl)) (mvT hZ (ow hw 28 rfl)) (by decide) (own_backOf (W := 0) (rx5_255 l Z a0 hw [] n0 h254 O254  x5 b254 kx5 c0_ c1_ c2_ c3_ k254 (PV_x5.ext E254) V_b254 (Nat.ne_of_lt (Nat.lt_of_lt_of_le PV_x5.lt sz_b254)) g_b254 hk0_ hk1_ hk2_ hk3_) hZ (ow hw 28 rfl) (ow hw 23 rfl) (by decide) (by decide)) (g := (mkF m 9 #[cr x5, ci 0, ci 4, cr b254, cu, cu] [(.int 4), (.int 0), (.ref b254), (.int 0), (.ref x5)])) rfl (by rw [hml]; rfl) (argsL := [(.ref x5), (.int 0), (.ref b254), (.int 0), (.int 4)]) (rest := []) (lenOf pdx_6 rfl) rfl (by show 2 * 0 + _ ≤ _; exact Nat.le_of_eq rfl) (hb hby d4_9) (fun _ _ => ⟨rfl, e254, (by decide : 1 + 0 ≤ _), (by decide : 4 + 0 ≤ _)⟩)
 dsimp only [Pt.U, Pt.locs, Pt.cells, Pt.slots] at X264 l264 y264 z264 st264 hQ264
 subst l264 y264 z264
 obtain ⟨rfl, N264q, K264c, Y264_0⟩ := hQ264
 have N264 := Fr.app N0 N264q
 refine Ends.go st264 ?_
 obtain ⟨h264, e264⟩ : ∃ z, T264.heap = z := ⟨_, rfl⟩
 rw [e264] at K264c Y264_0
 have K264 := K254.trans K264c (allS (Or.inr sz_b254) all0)
 have O264 := O254.keep K264c (allS g_b254 all0)
 show Ends _ _ _ _ T264 (mkF m 12 #[cr x5, ci 0, ci 4, cr b254, cu, cu] [(.int 4)]) _ _ _
 refine wst X264 hx hby d4_12 (l' := #[cr x5, ci 0, ci 4, cr b254, ci 4, cu]) rfl ?_
 refine wil X264 hx hby d4_14 rfl ?_
 refine wilN X264 hx hby d4_16 rfl ?_
 refine wcy (pc := 17) (pc' := 57) X264 hx hby d4_17 (teq (by decide : (4 : Int32) = (4 : Int32))).1 (by decide) (by decide) ?_
 refine walN X264 hx hby d4_57 rfl rfl ?_
 show Ends _ _ _ _ T264 (mkF m 58 #[cr x5, ci 0, ci 4, cr b254, ci 4, cu] [(.ref b254)]) _ _ _
 refine Ends.ret X264 hx Bd.notSynchronized (t := (.array .byte)) Bd.returns rfl (Or.inr (Or.inr (Or.inr (Or.inr ⟨rfl, rfl, rfl⟩)))) (hb hby d4_58) (by decide) (by decide) ?_
 rw [e264]
 exact ⟨b254, k254, rfl, N264, K264, sz_b254, Y264_0⟩

theorem d6_0 : decode jdk_52_method_15_code 0 = .ok (.iload_n 1, 1) := by decide +kernel
theorem d6_1 : decode jdk_52_method_15_code 1 = .ok (.aload_n 0, 1) := by decide +kernel
theorem d6_2 : decode jdk_52_method_15_code 2 = .ok (.arraylength, 1) := by decide +kernel
theorem d6_3 : decode jdk_52_method_15_code 3 = .ok (.isub, 1) := by decide +kernel
theorem d6_4 : decode jdk_52_method_15_code 4 = .ok (.bipush 31, 2) := by decide +kernel
theorem d6_6 : decode jdk_52_method_15_code 6 = .ok (.iushr, 1) := by decide +kernel
theorem d6_7 : decode jdk_52_method_15_code 7 = .ok (.i2b, 1) := by decide +kernel
theorem d6_8 : decode jdk_52_method_15_code 8 = .ok (.ireturn, 1) := by decide +kernel
theorem pn6 : plainName "java/lang/StringUTF16" = true := by first | (simp [plainName, overriddenIn]; done) | decide +kernel
theorem pdx_7 : parseMethodDescriptor "([CII)[B" = some ⟨[(.array .char), .int, .int], some (.array .byte)⟩ := by decide +kernel
theorem ef6_ri (m : MethodId) (x0 : Addr) (x1 : Int32) : entryFrame m #[(.ref x0), (.int x1)] 2 = mkF m 0 #[.val (.ref x0), .val (.int x1)] [] := by first | (simp [entryFrame, mkF, argsToLocals, Value.category]; done) | rfl
set_option maxRecDepth 65536 in
set_option maxHeartbeats 40000000 in
theorem rx6_268 (l : Launch) (Z : State) (a0 : Array Value) (hw : ∀ d ∈ tables_1, d.before a0 Z = true) (ws : List Jvm.Cond) (n0 : Nat) (h0 : Heap) (O0 : Old Z n0 h0)  (b266 : Addr) (k267 : ClassId) (c0_ : Int32) (c1_ : Int32) (c2_ : Int32) (c3_ : Int32) (PV_b266 : Arv Z h0 b266 k267 .byte (4 : Int32) [(.int (c0_.toInt8.toInt32)), (.int (c1_.toInt8.toInt32)), (.int (c2_.toInt8.toInt32)), (.int (c3_.toInt8.toInt32))] (.int 0)) :
  Meets1 l ym17 jdk_52_method_15_code 2 (some .byte) ws ({ frames := 0, cells := 0, slots := 0, locals := 0 } : Room) #[(.ref b266), (.int 4)] Z h0 (fun v h L => v = some (.int 0) ∧ Fr n0 L ∧ Keep h0 h []) := by
 refine MetFree.of_bodySF (plainFor_of_name pn6) hisR ?_
 intro p e s m args below meth c s₁ Bd hml0 hP hK
 obtain ⟨rfl, hZ, hh⟩ := hP
 have hx := Bd.exec
 have hby := Bd.bytes
 have hml : c.maxLocals = 2 := hml0
 have hown : s.vm.findClass "java/lang/StringUTF16" = some m.cls := findClass_of_methodNamed Bd.named
 have hnm := (name_of_methodNamed Bd.named Bd.method).1
 have X0 : Stand p l e ({ frames := 0, cells := 0, slots := 0, locals := 0 } : Room) s m #[(.ref b266), (.int 4)] below meth c s₁ [] 0 0 := Stand.of_body Bd
 have e0 : s₁.heap = h0 := by rw [← hh, Bd.state]; rfl
 have N0 := Fr.nil n0
 have Z0 := own_old_le O0
 show Ends _ _ _ _ s₁ (entryFrame m #[(.ref b266), (.int 4)] 2) ({ frames := 0, cells := 0, slots := 0, locals := 0 } : Room).cells ({ frames := 0, cells := 0, slots := 0, locals := 0 } : Room).slots (fun v h L => v = some (.int 0) ∧ Fr n0 L ∧ Keep h0 h [])
 refine Ends.go (fun _ k => castTop (ef6_ri m b266 (4 : Int32)) k) ?_
 have K0 := Keep.refl h0 []
 show Ends _ _ _ _ s₁ (mkF m 0 #[cr b266, ci 4] []) _ _ _
 refine wilN X0 hx hby d6_0 rfl ?_
 refine walN X0 hx hby d6_1 rfl rfl ?_
 obtain ⟨cl269, Ar269, q269, S269, M269, H269, G269⟩ := id PV_b266
 refine Ends.go (X0.arraylength hx (by rw [e0]; exact Ar269.1) (State.isArrayOf_alike hZ.alike Ar269.2.1) (g := (mkF m 2 #[cr b266, ci 4] [(.ref b266), (.int 4)])) rfl rfl (hb hby d6_2)) ?_
 rw [len_of S269 M269]
 refine wis X0 hx hby d6_3 ?_
 show Ends _ _ _ _ s₁ (mkF m 4 #[cr b266, ci 4] [(.int 0)]) _ _ _
 refine wbp X0 hx hby d6_4 ?_
 refine .go (fun _ => XS.iushr X0.here hx rfl (hb hby d6_6) rfl) ?_
 refine .go (fun _ => XS.i2b X0.here hx rfl (hb hby d6_7) rfl) ?_
 refine Ends.retZ X0 hx Bd.notSynchronized (t := .byte) Bd.returns (by simp) (hb hby d6_8) (by decide) (by decide) ?_
 rw [e0]
 exact ⟨rfl, N0, K0⟩

theorem d2_0 : decode jdk_42_method_149_code 0 = .ok (.aload_n 0, 1) := by decide +kernel
theorem d2_1 : decode jdk_42_method_149_code 1 = .ok (.invokespecial 1, 3) := by decide +kernel
theorem d2_4 : decode jdk_42_method_149_code 4 = .ok (.iload_n 3, 1) := by decide +kernel
theorem d2_5 : decode jdk_42_method_149_code 5 = .ok (.ifCond .ne 22, 3) := by decide +kernel
theorem d2_27 : decode jdk_42_method_149_code 27 = .ok (.getstatic 38, 3) := by decide +kernel
theorem d2_30 : decode jdk_42_method_149_code 30 = .ok (.ifCond .eq 28, 3) := by decide +kernel
theorem d2_33 : decode jdk_42_method_149_code 33 = .ok (.aload_n 1, 1) := by decide +kernel
theorem d2_34 : decode jdk_42_method_149_code 34 = .ok (.iload_n 2, 1) := by decide +kernel
theorem d2_35 : decode jdk_42_method_149_code 35 = .ok (.iload_n 3, 1) := by decide +kernel
theorem d2_36 : decode jdk_42_method_149_code 36 = .ok (.invokestatic 177, 3) := by decide +kernel
theorem d2_39 : decode jdk_42_method_149_code 39 = .ok (.astore 5, 2) := by decide +kernel
theorem d2_41 : decode jdk_42_method_149_code 41 = .ok (.aload_n 0, 1) := by decide +kernel
theorem d2_42 : decode jdk_42_method_149_code 42 = .ok (.aload 5, 2) := by decide +kernel
theorem d2_44 : decode jdk_42_method_149_code 44 = .ok (.iload_n 3, 1) := by decide +kernel
theorem d2_45 : decode jdk_42_method_149_code 45 = .ok (.invokestatic 47, 3) := by decide +kernel
theorem d2_48 : decode jdk_42_method_149_code 48 = .ok (.putfield 15, 3) := by decide +kernel
theorem d2_51 : decode jdk_42_method_149_code 51 = .ok (.aload_n 0, 1) := by decide +kernel
theorem d2_52 : decode jdk_42_method_149_code 52 = .ok (.aload 5, 2) := by decide +kernel
theorem d2_54 : decode jdk_42_method_149_code 54 = .ok (.putfield 9, 3) := by decide +kernel
theorem d2_57 : decode jdk_42_method_149_code 57 = .ok (.return_, 1) := by decide +kernel
theorem pn2 : plainName "java/lang/String" = true := by first | (simp [plainName, overriddenIn]; done) | decide +kernel
theorem pdx_8 : parseMethodDescriptor "([BI)B" = some ⟨[(.array .byte), .int], some .byte⟩ := by decide +kernel
theorem ef2_rriin (m : MethodId) (x0 : Addr) (x1 : Addr) (x2 : Int32) (x3 : Int32) : entryFrame m #[(.ref x0), (.ref x1), (.int x2), (.int x3), .null] 6 = mkF m 0 #[.val (.ref x0), .val (.ref x1), .val (.int x2), .val (.int x3), .val .null, .unset] [] := by first | (simp [entryFrame, mkF, argsToLocals, Value.category]; done) | rfl
set_option maxRecDepth 65536 in
set_option maxHeartbeats 40000000 in
theorem rx2_250 (l : Launch) (Z : State) (a0 : Array Value) (hw : ∀ d ∈ tables_1, d.before a0 Z = true) (ws : List Jvm.Cond) (n0 : Nat) (h0 : Heap) (O0 : Old Z n0 h0) (G1 : Int32) (G3 : Value) (GF : GlobF Z G1 G3) (b247 : Addr) (x5 : Addr) (kx5 : ClassId) (c0_ : Int32) (c1_ : Int32) (c2_ : Int32) (c3_ : Int32) (PV_x5 : Arv Z h0 x5 kx5 .char (4 : Int32) [(.int c0_), (.int c1_), (.int c2_), (.int c3_)] (.int 0)) (PE_b247 : Exa Z h0 b247 "java/lang/String") (PF_b247_coder : Fld Z h0 b247 "java/lang/String" "coder" "B" (.int 0)) (PF_b247_value : Fld Z h0 b247 "java/lang/String" "value" "[B" .null) (g_b247 : n0 ≤ b247) (hk0_ : ¬ ((255 : Int32) < c0_)) (hk1_ : ¬ ((255 : Int32) < c1_)) (hk2_ : ¬ ((255 : Int32) < c2_)) (hk3_ : ¬ ((255 : Int32) < c3_)) :
  Meets1 l ym18 jdk_42_method_149_code 6 none ws ({ frames := 2, cells := 1, slots := 4, locals := 35 } : Room) #[(.ref b247), (.ref x5), (.int 0), (.int 4), .null] Z h0 (fun v h L => ∃ (b266 : Addr) (k267 : ClassId), v = none ∧ Fr n0 L ∧ Keep h0 h [b247] ∧ h0.size ≤ b266 ∧ Arv Z h b266 k267 .byte (4 : Int32) [(.int (c0_.toInt8.toInt32)), (.int (c1_.toInt8.toInt32)), (.int (c2_.toInt8.toInt32)), (.int (c3_.toInt8.toInt32))] (.int 0) ∧ Fld Z h b247 "java/lang/String" "coder" "B" (.int 0) ∧ Fld Z h b247 "java/lang/String" "value" "[B" (.ref b266)) := by
 refine MetFree.of_bodySF (plainFor_of_name pn2) hisR ?_
 intro p e s m args below meth c s₁ Bd hml0 hP hK
 obtain ⟨rfl, hZ, hh⟩ := hP
 have hx := Bd.exec
 have hby := Bd.bytes
 have hml : c.maxLocals = 6 := hml0
 have hown : s.vm.findClass "java/lang/String" = some m.cls := findClass_of_methodNamed Bd.named
 have hnm := (name_of_methodNamed Bd.named Bd.method).1
 have X0 : Stand p l e ({ frames := 2, cells := 1, slots := 4, locals := 35 } : Room) s m #[(.ref b247), (.ref x5), (.int 0), (.int 4), .null] below meth c s₁ [] 0 0 := Stand.of_body Bd
 have e0 : s₁.heap = h0 := by rw [← hh, Bd.state]; rfl
 have N0 := Fr.nil n0
 have Z0 := own_old_le O0
 show Ends _ _ _ _ s₁ (entryFrame m #[(.ref b247), (.ref x5), (.int 0), (.int 4), .null] 6) ({ frames := 2, cells := 1, slots := 4, locals := 35 } : Room).cells ({ frames := 2, cells := 1, slots := 4, locals := 35 } : Room).slots (fun v h L => ∃ (b266 : Addr) (k267 : ClassId), v = none ∧ Fr n0 L ∧ Keep h0 h [b247] ∧ h0.size ≤ b266 ∧ Arv Z h b266 k267 .byte (4 : Int32) [(.int (c0_.toInt8.toInt32)), (.int (c1_.toInt8.toInt32)), (.int (c2_.toInt8.toInt32)), (.int (c3_.toInt8.toInt32))] (.int 0) ∧ Fld Z h b247 "java/lang/String" "coder" "B" (.int 0) ∧ Fld Z h b247 "java/lang/String" "value" "[B" (.ref b266))
 refine Ends.go (fun _ k => castTop (ef2_rriin m b247 x5 (0 : Int32) (4 : Int32)) k) ?_
 obtain ⟨SCS, P5, SAD, SHI, SLO, SSF, RG3⟩ := id GF
 have K0 := Keep.refl h0 [b247]
 show Ends _ _ _ _ s₁ (mkF m 0 #[cr b247, cr x5, ci 0, ci 4, .val .null, cu] []) _ _ _
 refine walN X0 hx hby d2_0 rfl rfl ?_
 obtain ⟨T251, X251, e251, st251⟩ := initO X0 hx hZ hown (ow hw 17 rfl) (ow hw 18 rfl) (ow hw 19 rfl) e0 (g := (mkF m 1 #[cr b247, cr x5, ci 0, ci 4, .val .null, cu] [(.ref b247)])) rfl (by rw [hml]; rfl) rfl (hb hby d2_1) (by decide) (W := 0) (by show 2 * 0 + _ ≤ _; exact Nat.le_of_eq rfl) (by decide)
 refine Ends.go st251 ?_
 refine wilN X251 hx hby d2_4 rfl ?_
 refine wiy (pc := 5) (pc' := 27) X251 hx hby d2_5 ((if0 _ _).trans (feq (by decide : ¬ ((4 : Int32) = (0 : Int32)))).2) (by decide) (by decide) ?_
 show Ends _ _ _ _ T251 (mkF m 27 #[cr b247, cr x5, ci 0, ci 4, .val .null, cu] []) _ _ _
 obtain ⟨T252, X252, e252, st252⟩ := getS2 X251 hx hZ hown (host := "") (Or.inl (ow hw 20 rfl)) Via.refl e251 (SCS.ext O0.2) (g := (mkF m 27 #[cr b247, cr x5, ci 0, ci 4, .val .null, cu] [])) rfl (hb hby d2_27)
 refine Ends.go st252 ?_
 refine win X252 hx hby d2_30 ((if0 _ _).trans (feq (P5 : ¬ (G1 = (0 : Int32)))).1) ?_
 refine walN X252 hx hby d2_33 rfl rfl ?_
 refine wilN X252 hx hby d2_34 rfl ?_
 refine wilN X252 hx hby d2_35 rfl ?_
 show Ends _ _ _ _ T252 (mkF m 36 #[cr b247, cr x5, ci 0, ci 4, .val .null, cu] [(.int 4), (.int 0), (.ref x5)]) _ _ _
 obtain ⟨_, _, ⟨T265, L265, k265, n265⟩, -, X265, ⟨Lc265, hQ265, l265, y265, z265⟩, st265⟩ := Jvm.LawKit.callS X252 hx (y := ym16) hown (mvT hZ (ow hw 21 rfl)) (mvT hZ (ow hw 22 rfl)) (mvT hZ (ow hw 23 rfl)) (mvT hZ (ow hw 24 rfl)) (by decide) (own_backOf (W := 0) (rx4_253 l Z a0 hw [] n0 h0 O0  x5 kx5 c0_ c1_ c2_ c3_ PV_x5 hk0_ hk1_ hk2_ hk3_) hZ (ow hw 24 rfl) (ow hw 23 rfl) (by decide) (by decide)) (g := (mkF m 36 #[cr b247, cr x5, ci 0, ci 4, .val .null, cu] [(.int 4), (.int 0), (.ref x5)])) rfl (by rw [hml]; rfl) (argsL := [(.ref x5), (.int 0), (.int 4)]) (rest := []) (lenOf pdx_7 rfl) rfl (by show 2 * 0 + _ ≤ _; exact Nat.le_of_eq rfl) (hb hby d2_36) (fun _ _ => ⟨rfl, e252, (by decide : 0 + 1 ≤ _), (by decide : 0 + 4 ≤ _)⟩)
 dsimp only [Pt.U, Pt.locs, Pt.cells, Pt.slots] at X265 l265 y265 z265 st265 hQ265
 subst l265 y265 z265
 obtain ⟨b266, k267, rfl, N265q, K265c, hb265_b266, Y265_0⟩ := hQ265
 have N265 := Fr.app N0 N265q
 refine Ends.go st265 ?_
 have g_b266 : n0 ≤ b266 := Nat.le_trans (own_old_le O0) hb265_b266
 have sz_b266 : h0.size ≤ b266 := Nat.le_trans K0.1 hb265_b266
 obtain ⟨h265, e265⟩ : ∃ z, T265.heap = z := ⟨_, rfl⟩
 rw [e265] at K265c Y265_0
 have K265 := K0.trans K265c all0
 have O265 := O0.keep K265c all0
 refine was X265 hx hby d2_39 (l' := #[cr b247, cr x5, ci 0, ci 4, .val .null, cr b266]) rfl rfl ?_
 refine walN X265 hx hby d2_41 rfl rfl ?_
 refine wal X265 hx hby d2_42 rfl rfl ?_
 refine wilN X265 hx hby d2_44 rfl ?_
 show Ends _ _ _ _ T265 (mkF m 45 #[cr b247, cr x5, ci 0, ci 4, .val .null, cr b266] [(.int 4), (.ref b266), (.ref b247)]) _ _ _
 obtain ⟨_, _, ⟨T270, L270, k270, n270⟩, -, X270, ⟨Lc270, hQ270, l270, y270, z270⟩, st270⟩ := Jvm.LawKit.callS X265 hx (y := ym17) hown (mvT hZ (ow hw 29 rfl)) (mvT hZ (ow hw 30 rfl)) (mvT hZ (ow hw 23 rfl)) (mvT hZ (ow hw 31 rfl)) (by decide) (own_backOf (W := 1) (rx6_268 l Z a0 hw [] n0 h265 O265  b266 k267 c0_ c1_ c2_ c3_ Y265_0) hZ (ow hw 31 rfl) (ow hw 23 rfl) (by decide) (by decide)) (g := (mkF m 45 #[cr b247, cr x5, ci 0, ci 4, .val .null, cr b266] [(.int 4), (.ref b266), (.ref b247)])) rfl (by rw [hml]; rfl) (argsL := [(.ref b266), (.int 4)]) (rest := [(.ref b247)]) (lenOf pdx_8 rfl) rfl (by show 2 * 0 + _ ≤ _; exact Nat.le_of_eq rfl) (hb hby d2_45) (fun _ _ => ⟨rfl, e265, (by decide : 1 + 0 ≤ _), (by decide : 4 + 0 ≤ _)⟩)
 dsimp only [Pt.U, Pt.locs, Pt.cells, Pt.slots] at X270 l270 y270 z270 st270 hQ270
 subst l270 y270 z270
 obtain ⟨rfl, N270q, K270c⟩ := hQ270
 have N270 := Fr.app N265 N270q
 refine Ends.go st270 ?_
 obtain ⟨h270, e270⟩ : ∃ z, T270.heap = z := ⟨_, rfl⟩
 rw [e270] at K270c
 have K270 := K265.trans K270c all0
 have O270 := O265.keep K270c all0
 obtain ⟨T271, h271, X271, e271, W271, st271⟩ := putFN X270 hx hZ hown (ow hw 32 rfl) Via.refl e270 ((PF_b247_coder.keep K265c nin0).keep K270c nin0) ((PE_b247.keep K265c).keep K270c) (Or.inr ⟨(ow hw 33 rfl), rfl, hnm⟩) (ow hw 8 rfl) (ty := .byte) (v' := (.int 0)) (by decide) rfl (by decide) (g := (mkF m 48 #[cr b247, cr x5, ci 0, ci 4, .val .null, cr b266] [(.int 0), (.ref b247)])) rfl rfl (hb hby d2_48)
 refine Ends.go st271 ?_
 have Fw271 := ((PF_b247_coder.keep K265c nin0).keep K270c nin0).same W271
 have K271 := K270.wr W271 (Or.inl (List.mem_of_getElem? (i := 0) rfl))
 have O271 := O270.wr W271 g_b247
 have N271 := Fr.snoc X271 N270 g_b247
 refine walN X271 hx hby d2_51 rfl rfl ?_
 refine wal X271 hx hby d2_52 rfl rfl ?_
 obtain ⟨T272, h272, X272, e272, W272, st272⟩ := putF X271 hx hZ hown (host := "") (Or.inl (ow hw 34 rfl)) Via.refl e271 (((PF_b247_value.keep K265c nin0).keep K270c nin0).other W271 (Or.inr (slot_ne (Or.inr (ow hw 35 rfl)) (Or.inr (ow hw 33 rfl)) (by decide) (t := (.array .byte)) (t' := .byte) (by decide) (by decide)))) (((PE_b247.keep K265c).keep K270c).wr W271) (Or.inr ⟨(ow hw 35 rfl), rfl, hnm⟩) (ow hw 8 rfl) (ty := (.array .byte)) (by decide) rfl rfl (g := (mkF m 54 #[cr b247, cr x5, ci 0, ci 4, .val .null, cr b266] [(.ref b266), (.ref b247)])) rfl rfl (hb hby d2_54)
 refine Ends.go st272 ?_
 have Fw272 := (((PF_b247_value.keep K265c nin0).keep K270c nin0).other W271 (Or.inr (slot_ne (Or.inr (ow hw 35 rfl)) (Or.inr (ow hw 33 rfl)) (by decide) (t := (.array .byte)) (t' := .byte) (by decide) (by decide)))).same W272
 have K272 := K271.wr W272 (Or.inl (List.mem_of_getElem? (i := 0) rfl))
 have O272 := O271.wr W272 g_b247
 have N272 := Fr.snoc X272 N271 g_b247
 show Ends _ _ _ _ T272 (mkF m 57 #[cr b247, cr x5, ci 0, ci 4, .val .null, cr b266] []) _ _ _
 refine Ends.retV X272 hx Bd.notSynchronized Bd.returns (hb hby d2_57) (by decide) (by decide) ?_
 rw [e272]
 exact ⟨b266, k267, rfl, N272, K272, sz_b266, (((Y265_0.keep K270c nin0).other W271 (Ne.symm (Nat.ne_of_lt (Nat.lt_of_lt_of_le PE_b247.lt sz_b266)))).other W272 (Ne.symm (Nat.ne_of_lt (Nat.lt_of_lt_of_le PE_b247.lt sz_b266)))), (Fw271.other W272 (Or.inr (slot_ne (Or.inr (ow hw 33 rfl)) (Or.inr (ow hw 35 rfl)) (by decide) (t := .byte) (t' := (.array .byte)) (by decide) (by decide)))), Fw272⟩

theorem d1_0 : decode jdk_42_method_3_code 0 = .ok (.aload_n 0, 1) := by decide +kernel
theorem d1_1 : decode jdk_42_method_3_code 1 = .ok (.aload_n 1, 1) := by decide +kernel
theorem d1_2 : decode jdk_42_method_3_code 2 = .ok (.iconst 0, 1) := by decide +kernel
theorem d1_3 : decode jdk_42_method_3_code 3 = .ok (.aload_n 1, 1) := by decide +kernel
theorem d1_4 : decode jdk_42_method_3_code 4 = .ok (.arraylength, 1) := by decide +kernel
theorem d1_5 : decode jdk_42_method_3_code 5 = .ok (.aconst_null, 1) := by decide +kernel
theorem d1_6 : decode jdk_42_method_3_code 6 = .ok (.invokespecial 27, 3) := by decide +kernel
theorem d1_9 : decode jdk_42_method_3_code 9 = .ok (.return_, 1) := by decide +kernel
theorem pn1 : plainName "java/lang/String" = true := by first | (simp [plainName, overriddenIn]; done) | decide +kernel
theorem pdx_9 : parseMethodDescriptor "([CIILjava/lang/Void;)V" = some ⟨[(.array .char), .int, .int, (.object "java/lang/Void")], none⟩ := by decide +kernel
theorem ef1_rr (m : MethodId) (x0 : Addr) (x1 : Addr) : entryFrame m #[(.ref x0), (.ref x1)] 2 = mkF m 0 #[.val (.ref x0), .val (.ref x1)] [] := by first | (simp [entryFrame, mkF, argsToLocals, Value.category]; done) | rfl
set_option maxRecDepth 65536 in
set_option maxHeartbeats 40000000 in
theorem rx1_248 (l : Launch) (Z : State) (a0 : Array Value) (hw : ∀ d ∈ tables_1, d.before a0 Z = true) (ws : List Jvm.Cond) (n0 : Nat) (h0 : Heap) (O0 : Old Z n0 h0) (G1 : Int32) (G3 : Value) (GF : GlobF Z G1 G3) (b247 : Addr) (x5 : Addr) (kx5 : ClassId) (c0_ : Int32) (c1_ : Int32) (c2_ : Int32) (c3_ : Int32) (PV_x5 : Arv Z h0 x5 kx5 .char (4 : Int32) [(.int c0_), (.int c1_), (.int c2_), (.int c3_)] (.int 0)) (PE_b247 : Exa Z h0 b247 "java/lang/String") (PF_b247_coder : Fld Z h0 b247 "java/lang/String" "coder" "B" (.int 0)) (PF_b247_value : Fld Z h0 b247 "java/lang/String" "value" "[B" .null) (g_b247 : n0 ≤ b247) (hk0_ : ¬ ((255 : Int32) < c0_)) (hk1_ : ¬ ((255 : Int32) < c1_)) (hk2_ : ¬ ((255 : Int32) < c2_)) (hk3_ : ¬ ((255 : Int32) < c3_)) :
  Meets1 l ym19 jdk_42_method_3_code 2 none ws ({ frames := 3, cells := 1, slots := 4, locals := 52 } : Room) #[(.ref b247), (.ref x5)] Z h0 (fun v h L => ∃ (b274 : Addr) (k275 : ClassId), v = none ∧ Fr n0 L ∧ Keep h0 h [b247] ∧ h0.size ≤ b274 ∧ Arv Z h b274 k275 .byte (4 : Int32) [(.int (c0_.toInt8.toInt32)), (.int (c1_.toInt8.toInt32)), (.int (c2_.toInt8.toInt32)), (.int (c3_.toInt8.toInt32))] (.int 0) ∧ Fld Z h b247 "java/lang/String" "coder" "B" (.int 0) ∧ Fld Z h b247 "java/lang/String" "value" "[B" (.ref b274)) := by
 refine MetFree.of_bodySF (plainFor_of_name pn1) hisR ?_
 intro p e s m args below meth c s₁ Bd hml0 hP hK
 obtain ⟨rfl, hZ, hh⟩ := hP
 have hx := Bd.exec
 have hby := Bd.bytes
 have hml : c.maxLocals = 2 := hml0
 have hown : s.vm.findClass "java/lang/String" = some m.cls := findClass_of_methodNamed Bd.named
 have hnm := (name_of_methodNamed Bd.named Bd.method).1
 have X0 : Stand p l e ({ frames := 3, cells := 1, slots := 4, locals := 52 } : Room) s m #[(.ref b247), (.ref x5)] below meth c s₁ [] 0 0 := Stand.of_body Bd
 have e0 : s₁.heap = h0 := by rw [← hh, Bd.state]; rfl
 have N0 := Fr.nil n0
 have Z0 := own_old_le O0
 show Ends _ _ _ _ s₁ (entryFrame m #[(.ref b247), (.ref x5)] 2) ({ frames := 3, cells := 1, slots := 4, locals := 52 } : Room).cells ({ frames := 3, cells := 1, slots := 4, locals := 52 } : Room).slots (fun v h L => ∃ (b274 : Addr) (k275 : ClassId), v = none ∧ Fr n0 L ∧ Keep h0 h [b247] ∧ h0.size ≤ b274 ∧ Arv Z h b274 k275 .byte (4 : Int32) [(.int (c0_.toInt8.toInt32)), (.int (c1_.toInt8.toInt32)), (.int (c2_.toInt8.toInt32)), (.int (c3_.toInt8.toInt32))] (.int 0) ∧ Fld Z h b247 "java/lang/String" "coder" "B" (.int 0) ∧ Fld Z h b247 "java/lang/String" "value" "[B" (.ref b274))
 refine Ends.go (fun _ k => castTop (ef1_rr m b247 x5) k) ?_
 obtain ⟨SCS, P5, SAD, SHI, SLO, SSF, RG3⟩ := id GF
 have K0 := Keep.refl h0 [b247]
 show Ends _ _ _ _ s₁ (mkF m 0 #[cr b247, cr x5] []) _ _ _
 refine walN X0 hx hby d1_0 rfl rfl ?_
 refine walN X0 hx hby d1_1 rfl rfl ?_
 refine wic X0 hx hby d1_2 ?_
 refine walN X0 hx hby d1_3 rfl rfl ?_
 show Ends _ _ _ _ s₁ (mkF m 4 #[cr b247, cr x5] [(.ref x5), (.int 0), (.ref x5), (.ref b247)]) _ _ _
 obtain ⟨cl249, Ar249, q249, S249, M249, H249, G249⟩ := id PV_x5
 refine Ends.go (X0.arraylength hx (by rw [e0]; exact Ar249.1) (State.isArrayOf_alike hZ.alike Ar249.2.1) (g := (mkF m 4 #[cr b247, cr x5] [(.ref x5), (.int 0), (.ref x5), (.ref b247)])) rfl rfl (hb hby d1_4)) ?_
 rw [len_of S249 M249]
 refine .go (fun _ => XS.aconstNull X0.here hx rfl (hb hby d1_5)) ?_
 obtain ⟨_, _, ⟨T273, L273, k273, n273⟩, -, X273, ⟨Lc273, hQ273, l273, y273, z273⟩, st273⟩ := X0.specialBack hx (y := ym18) rfl hown (mvT hZ (ow hw 13 rfl)) (mvT hZ (ow hw 14 rfl)) (mvT hZ (ow hw 16 rfl)) (by decide) (own_backOf (W := 0) (rx2_250 l Z a0 hw [] n0 h0 O0 G1 G3 GF b247 x5 kx5 c0_ c1_ c2_ c3_ PV_x5 PE_b247 PF_b247_coder PF_b247_value g_b247 hk0_ hk1_ hk2_ hk3_) hZ (ow hw 16 rfl) (ow hw 9 rfl) (by decide) (by decide)) (g := (mkF m 6 #[cr b247, cr x5] [.null, (.int 4), (.int 0), (.ref x5), (.ref b247)])) rfl (by rw [hml]; rfl) (Steps.refl _) (a := b247) (argsL := [(.ref x5), (.int 0), (.int 4), .null]) (rest := []) (lenOf pdx_9 rfl) rfl (by show 2 * 0 + _ ≤ _; exact Nat.le_of_eq rfl) (hb hby d1_6) (fun _ _ => ⟨rfl, e0, (by decide : 0 + 1 ≤ _), (by decide : 0 + 4 ≤ _)⟩)
 dsimp only [Pt.U, Pt.locs, Pt.cells, Pt.slots] at X273 l273 y273 z273 st273 hQ273
 subst l273 y273 z273
 obtain ⟨b274, k275, rfl, N273q, K273c, hb273_b274, Y273_0, Y273_1, Y273_2⟩ := hQ273
 have N273 := Fr.app N0 N273q
 refine Ends.go (fun _ k => st273.trans k) ?_
 have g_b274 : n0 ≤ b274 := Nat.le_trans (own_old_le O0) hb273_b274
 have sz_b274 : h0.size ≤ b274 := Nat.le_trans K0.1 hb273_b274
 obtain ⟨h273, e273⟩ : ∃ z, T273.heap = z := ⟨_, rfl⟩
 rw [e273] at K273c Y273_0 Y273_1 Y273_2
 have K273 := K0.trans K273c (allS (Or.inl (List.mem_of_getElem? (i := 0) rfl)) all0)
 have O273 := O0.keep K273c (allS g_b247 all0)
 refine Ends.retV X273 hx Bd.notSynchronized Bd.returns (hb hby d1_9) (by decide) (by decide) ?_
 rw [e273]
 exact ⟨b274, k275, rfl, N273, K273, sz_b274, Y273_0, Y273_1, Y273_2⟩

theorem d8_0 : decode prog_74_method_1_code 0 = .ok (.aload_n 0, 1) := by decide +kernel
theorem d8_1 : decode prog_74_method_1_code 1 = .ok (.invokespecial 3, 3) := by decide +kernel
theorem d8_4 : decode prog_74_method_1_code 4 = .ok (.return_, 1) := by decide +kernel
theorem pn8 : plainName "com/example/ratatoskr/ratatoskr/core/internal/Input" = true := by first | (simp [plainName, overriddenIn]; done) | decide +kernel
theorem pdx_10 : parseMethodDescriptor "([C)V" = some ⟨[(.array .char)], none⟩ := by decide +kernel
theorem ef8_r (m : MethodId) (x0 : Addr) : entryFrame m #[(.ref x0)] 1 = mkF m 0 #[.val (.ref x0)] [] := by first | (simp [entryFrame, mkF, argsToLocals, Value.category]; done) | rfl
set_option maxRecDepth 65536 in
set_option maxHeartbeats 40000000 in
theorem rx8_280 (l : Launch) (Z : State) (a0 : Array Value) (hw : ∀ d ∈ tables_1, d.before a0 Z = true) (ws : List Jvm.Cond) (n0 : Nat) (h0 : Heap) (O0 : Old Z n0 h0)  (b246 : Addr)  :
  Meets1 l ym20 prog_74_method_1_code 1 none ws ({ frames := 1, cells := 0, slots := 0, locals := 12 } : Room) #[(.ref b246)] Z h0 (fun v h L => v = none ∧ Fr n0 L ∧ Keep h0 h []) := by
 refine MetFree.of_bodySF (plainFor_of_name pn8) hisR ?_
 intro p e s m args below meth c s₁ Bd hml0 hP hK
 obtain ⟨rfl, hZ, hh⟩ := hP
 have hx := Bd.exec
 have hby := Bd.bytes
 have hml : c.maxLocals = 1 := hml0
 have hown : s.vm.findClass "com/example/ratatoskr/ratatoskr/core/internal/Input" = some m.cls := findClass_of_methodNamed Bd.named
 have hnm := (name_of_methodNamed Bd.named Bd.method).1
 have X0 : Stand p l e ({ frames := 1, cells := 0, slots := 0, locals := 12 } : Room) s m #[(.ref b246)] below meth c s₁ [] 0 0 := Stand.of_body Bd
 have e0 : s₁.heap = h0 := by rw [← hh, Bd.state]; rfl
 have N0 := Fr.nil n0
 have Z0 := own_old_le O0
 show Ends _ _ _ _ s₁ (entryFrame m #[(.ref b246)] 1) ({ frames := 1, cells := 0, slots := 0, locals := 12 } : Room).cells ({ frames := 1, cells := 0, slots := 0, locals := 12 } : Room).slots (fun v h L => v = none ∧ Fr n0 L ∧ Keep h0 h [])
 refine Ends.go (fun _ k => castTop (ef8_r m b246) k) ?_
 have K0 := Keep.refl h0 []
 show Ends _ _ _ _ s₁ (mkF m 0 #[cr b246] []) _ _ _
 refine walN X0 hx hby d8_0 rfl rfl ?_
 obtain ⟨T281, X281, e281, st281⟩ := initO X0 hx hZ hown (ow hw 44 rfl) (ow hw 18 rfl) (ow hw 19 rfl) e0 (g := (mkF m 1 #[cr b246] [(.ref b246)])) rfl (by rw [hml]; rfl) rfl (hb hby d8_1) (by decide) (W := 0) (by show 2 * 0 + _ ≤ _; exact Nat.le_of_eq rfl) (by decide)
 refine Ends.go st281 ?_
 refine Ends.retV X281 hx Bd.notSynchronized Bd.returns (hb hby d8_4) (by decide) (by decide) ?_
 rw [e281]
 exact ⟨rfl, N0, K0⟩

theorem d10_0 : decode jdk_42_method_152_code 0 = .ok (.getstatic 38, 3) := by decide +kernel
theorem d10_3 : decode jdk_42_method_152_code 3 = .ok (.ifCond .eq 10, 3) := by decide +kernel
theorem d10_6 : decode jdk_42_method_152_code 6 = .ok (.aload_n 0, 1) := by decide +kernel
theorem d10_7 : decode jdk_42_method_152_code 7 = .ok (.getfield 15, 3) := by decide +kernel
theorem d10_10 : decode jdk_42_method_152_code 10 = .ok (.goto 4, 3) := by decide +kernel
theorem d10_14 : decode jdk_42_method_152_code 14 = .ok (.ireturn, 1) := by decide +kernel
theorem pn10 : plainName "java/lang/String" = true := by first | (simp [plainName, overriddenIn]; done) | decide +kernel
theorem ef10_r (m : MethodId) (x0 : Addr) : entryFrame m #[(.ref x0)] 1 = mkF m 0 #[.val (.ref x0)] [] := by first | (simp [entryFrame, mkF, argsToLocals, Value.category]; done) | rfl
set_option maxRecDepth 65536 in
set_option maxHeartbeats 40000000 in
theorem rx10_287 (l : Launch) (Z : State) (a0 : Array Value) (hw : ∀ d ∈ tables_1, d.before a0 Z = true) (ws : List Jvm.Cond) (n0 : Nat) (h0 : Heap) (O0 : Old Z n0 h0) (G1 : Int32) (G3 : Value) (GF : GlobF Z G1 G3) (b247 : Addr) (PF_b247_coder : Fld Z h0 b247 "java/lang/String" "coder" "B" (.int 0)) :
  Meets1 l ym21 jdk_42_method_152_code 1 (some .byte) ws ({ frames := 0, cells := 0, slots := 0, locals := 0 } : Room) #[(.ref b247)] Z h0 (fun v h L => v = some (.int 0) ∧ Fr n0 L ∧ Keep h0 h []) := by
 refine MetFree.of_bodySF (plainFor_of_name pn10) hisR ?_
 intro p e s m args below meth c s₁ Bd hml0 hP hK
 obtain ⟨rfl, hZ, hh⟩ := hP
 have hx := Bd.exec
 have hby := Bd.bytes
 have hml : c.maxLocals = 1 := hml0
 have hown : s.vm.findClass "java/lang/String" = some m.cls := findClass_of_methodNamed Bd.named
 have hnm := (name_of_methodNamed Bd.named Bd.method).1
 have X0 : Stand p l e ({ frames := 0, cells := 0, slots := 0, locals := 0 } : Room) s m #[(.ref b247)] below meth c s₁ [] 0 0 := Stand.of_body Bd
 have e0 : s₁.heap = h0 := by rw [← hh, Bd.state]; rfl
 have N0 := Fr.nil n0
 have Z0 := own_old_le O0
 show Ends _ _ _ _ s₁ (entryFrame m #[(.ref b247)] 1) ({ frames := 0, cells := 0, slots := 0, locals := 0 } : Room).cells ({ frames := 0, cells := 0, slots := 0, locals := 0 } : Room).slots (fun v h L => v = some (.int 0) ∧ Fr n0 L ∧ Keep h0 h [])
 refine Ends.go (fun _ k => castTop (ef10_r m b247) k) ?_
 obtain ⟨SCS, P5, SAD, SHI, SLO, SSF, RG3⟩ := id GF
 have K0 := Keep.refl h0 []
 show Ends _ _ _ _ s₁ (mkF m 0 #[cr b247] []) _ _ _
 obtain ⟨T288, X288, e288, st288⟩ := getS2 X0 hx hZ hown (host := "") (Or.inl (ow hw 20 rfl)) Via.refl e0 (SCS.ext O0.2) (g := (mkF m 0 #[cr b247] [])) rfl (hb hby d10_0)
 refine Ends.go st288 ?_
 refine win X288 hx hby d10_3 ((if0 _ _).trans (feq (P5 : ¬ (G1 = (0 : Int32)))).1) ?_
 refine walN X288 hx hby d10_6 rfl rfl ?_
 obtain ⟨T289, X289, e289, st289⟩ := getF X288 hx hZ hown (host := "") (Or.inl (ow hw 32 rfl)) Via.refl e288 PF_b247_coder (g := (mkF m 7 #[cr b247] [(.ref b247)])) rfl rfl (hb hby d10_7)
 refine Ends.go st289 ?_
 show Ends _ _ _ _ T289 (mkF m 10 #[cr b247] [(.int 0)]) _ _ _
 refine wgo (pc := 10) (pc' := 14) X289 hx hby d10_10 (by decide) (by decide) ?_
 refine Ends.retZ X289 hx Bd.notSynchronized (t := .byte) Bd.returns (by simp) (hb hby d10_14) (by decide) (by decide) ?_
 rw [e289]
 exact ⟨rfl, N0, K0⟩

theorem d9_0 : decode jdk_42_method_54_code 0 = .ok (.aload_n 0, 1) := by decide +kernel
theorem d9_1 : decode jdk_42_method_54_code 1 = .ok (.getfield 9, 3) := by decide +kernel
theorem d9_4 : decode jdk_42_method_54_code 4 = .ok (.arraylength, 1) := by decide +kernel
theorem d9_5 : decode jdk_42_method_54_code 5 = .ok (.aload_n 0, 1) := by decide +kernel
theorem d9_6 : decode jdk_42_method_54_code 6 = .ok (.invokevirtual 335, 3) := by decide +kernel
theorem d9_9 : decode jdk_42_method_54_code 9 = .ok (.ishr, 1) := by decide +kernel
theorem d9_10 : decode jdk_42_method_54_code 10 = .ok (.ireturn, 1) := by decide +kernel
theorem pn9 : plainName "java/lang/String" = true := by first | (simp [plainName, overriddenIn]; done) | decide +kernel
theorem pdx_11 : parseMethodDescriptor "()B" = some ⟨[], some .byte⟩ := by decide +kernel
theorem ef9_r (m : MethodId) (x0 : Addr) : entryFrame m #[(.ref x0)] 1 = mkF m 0 #[.val (.ref x0)] [] := by first | (simp [entryFrame, mkF, argsToLocals, Value.category]; done) | rfl
set_option maxRecDepth 65536 in
set_option maxHeartbeats 40000000 in
theorem rx9_284 (l : Launch) (Z : State) (a0 : Array Value) (hw : ∀ d ∈ tables_1, d.before a0 Z = true) (ws : List Jvm.Cond) (n0 : Nat) (h0 : Heap) (O0 : Old Z n0 h0) (G1 : Int32) (G3 : Value) (GF : GlobF Z G1 G3) (b247 : Addr) (b277 : Addr) (k278 : ClassId) (c0_ : Int32) (c1_ : Int32) (c2_ : Int32) (c3_ : Int32) (PF_b247_value : Fld Z h0 b247 "java/lang/String" "value" "[B" (.ref b277)) (PV_b277 : Arv Z h0 b277 k278 .byte (4 : Int32) [(.int (c0_.toInt8.toInt32)), (.int (c1_.toInt8.toInt32)), (.int (c2_.toInt8.toInt32)), (.int (c3_.toInt8.toInt32))] (.int 0)) (PF_b247_coder : Fld Z h0 b247 "java/lang/String" "coder" "B" (.int 0)) (PE_b247 : Exa Z h0 b247 "java/lang/String") :
  Meets1 l ym22 jdk_42_method_54_code 1 (some .int) ws ({ frames := 1, cells := 0, slots := 0, locals := 13 } : Room) #[(.ref b247)] Z h0 (fun v h L => v = some (.int 4) ∧ Fr n0 L ∧ Keep h0 h []) := by
 refine MetFree.of_bodySF (plainFor_of_name pn9) hisR ?_
 intro p e s m args below meth c s₁ Bd hml0 hP hK
 obtain ⟨rfl, hZ, hh⟩ := hP
 have hx := Bd.exec
 have hby := Bd.bytes
 have hml : c.maxLocals = 1 := hml0
 have hown : s.vm.findClass "java/lang/String" = some m.cls := findClass_of_methodNamed Bd.named
 have hnm := (name_of_methodNamed Bd.named Bd.method).1
 have X0 : Stand p l e ({ frames := 1, cells := 0, slots := 0, locals := 13 } : Room) s m #[(.ref b247)] below meth c s₁ [] 0 0 := Stand.of_body Bd
 have e0 : s₁.heap = h0 := by rw [← hh, Bd.state]; rfl
 have N0 := Fr.nil n0
 have Z0 := own_old_le O0
 show Ends _ _ _ _ s₁ (entryFrame m #[(.ref b247)] 1) ({ frames := 1, cells := 0, slots := 0, locals := 13 } : Room).cells ({ frames := 1, cells := 0, slots := 0, locals := 13 } : Room).slots (fun v h L => v = some (.int 4) ∧ Fr n0 L ∧ Keep h0 h [])
 refine Ends.go (fun _ k => castTop (ef9_r m b247) k) ?_
 obtain ⟨SCS, P5, SAD, SHI, SLO, SSF, RG3⟩ := id GF
 have K0 := Keep.refl h0 []
 show Ends _ _ _ _ s₁ (mkF m 0 #[cr b247] []) _ _ _
 refine walN X0 hx hby d9_0 rfl rfl ?_
 obtain ⟨T285, X285, e285, st285⟩ := getF X0 hx hZ hown (host := "") (Or.inl (ow hw 34 rfl)) Via.refl e0 PF_b247_value (g := (mkF m 1 #[cr b247] [(.ref b247)])) rfl rfl (hb hby d9_1)
 refine Ends.go st285 ?_
 obtain ⟨cl286, Ar286, q286, S286, M286, H286, G286⟩ := id PV_b277
 refine Ends.go (X285.arraylength hx (by rw [e285]; exact Ar286.1) (State.isArrayOf_alike hZ.alike Ar286.2.1) (g := (mkF m 4 #[cr b247] [(.ref b277)])) rfl rfl (hb hby d9_4)) ?_
 rw [len_of S286 M286]
 refine walN X285 hx hby d9_5 rfl rfl ?_
 show Ends _ _ _ _ T285 (mkF m 6 #[cr b247] [(.ref b247), (.int 4)]) _ _ _
 obtain ⟨cq290, kq290, q290a, q290b, q290c⟩ := isOf hZ e285 PE_b247
 obtain ⟨_, _, ⟨T290, L290, k290, n290⟩, -, X290, ⟨Lc290, hQ290, l290, y290, z290⟩, st290⟩ := X285.virtualBack hx (y := ym21) (z := ym21) hown (mvT hZ (ow hw 52 rfl)) (mvT hZ (ow hw 53 rfl)) (notFace_of_selects (args := #[]) (mvT hZ (ow hw 55 rfl))) (mvT hZ (ow hw 55 rfl)) (mvT hZ (ow hw 54 rfl)) (by decide) (own_backOf (W := 1) (rx10_287 l Z a0 hw [] n0 h0 O0 G1 G3 GF b247 PF_b247_coder) hZ (ow hw 56 rfl) (ow hw 9 rfl) (by decide) (by decide)) q290a q290c (g := (mkF m 6 #[cr b247] [(.ref b247), (.int 4)])) rfl (by rw [hml]; rfl) (Steps.refl _) (argsL := []) (rest := [(.int 4)]) (lenOf pdx_11 rfl) rfl (by show 2 * 0 + _ ≤ _; exact Nat.le_of_eq rfl) (hb hby d9_6) (fun _ _ => ⟨rfl, e285, (by decide : 0 + 0 ≤ _), (by decide : 0 + 0 ≤ _)⟩)
 dsimp only [Pt.U, Pt.locs, Pt.cells, Pt.slots] at X290 l290 y290 z290 st290 hQ290
 subst l290 y290 z290
 obtain ⟨rfl, N290q, K290c⟩ := hQ290
 have N290 := Fr.app N0 N290q
 refine Ends.go (fun _ k => st290.trans k) ?_
 obtain ⟨h290, e290⟩ : ∃ z, T290.heap = z := ⟨_, rfl⟩
 rw [e290] at K290c
 have K290 := K0.trans K290c all0
 have O290 := O0.keep K290c all0
 refine .go (fun _ => XS.ishr X290.here hx rfl (hb hby d9_9) rfl) ?_
 refine Ends.ret X290 hx Bd.notSynchronized (t := .int) Bd.returns rfl (Or.inl ⟨rfl, by simp, _, rfl⟩) (hb hby d9_10) (by decide) (by decide) ?_
 rw [e290]
 exact ⟨rfl, N290, K290⟩

theorem d11_0 : decode jdk_29_method_69_code 0 = .ok (.iload_n 0, 1) := by decide +kernel
theorem d11_1 : decode jdk_29_method_69_code 1 = .ok (.iload_n 1, 1) := by decide +kernel
theorem d11_2 : decode jdk_29_method_69_code 2 = .ok (.if_icmp .gt 7, 3) := by decide +kernel
theorem d11_5 : decode jdk_29_method_69_code 5 = .ok (.iload_n 0, 1) := by decide +kernel
theorem d11_6 : decode jdk_29_method_69_code 6 = .ok (.goto 4, 3) := by decide +kernel
theorem d11_10 : decode jdk_29_method_69_code 10 = .ok (.ireturn, 1) := by decide +kernel
theorem pdx_12 : parseMethodDescriptor "()I" = some ⟨[], some .int⟩ := by decide +kernel
theorem ef11_ii (m : MethodId) (x0 : Int32) (x1 : Int32) : entryFrame m #[(.int x0), (.int x1)] 2 = mkF m 0 #[.val (.int x0), .val (.int x1)] [] := by first | (simp [entryFrame, mkF, argsToLocals, Value.category]; done) | rfl
set_option maxRecDepth 65536 in
set_option maxHeartbeats 40000000 in
theorem rx11_292 (l : Launch) (Z : State) (a0 : Array Value) (hw : ∀ d ∈ tables_1, d.before a0 Z = true) (ws : List Jvm.Cond) (n0 : Nat) (h0 : Heap) (O0 : Old Z n0 h0)    :
  Meets1 l ym23 jdk_29_method_69_code 2 (some .int) ws ({ frames := 0, cells := 0, slots := 0, locals := 0 } : Room) #[(.int 4), (.int 8192)] Z h0 (fun v h L => v = some (.int 4) ∧ Fr n0 L ∧ Keep h0 h []) := by
 refine MetFree.of_bodySF (Jvm.Free.JP.mathPlain rfl (by decide +kernel)) hisR ?_
 intro p e s m args below meth c s₁ Bd hml0 hP hK
 obtain ⟨rfl, hZ, hh⟩ := hP
 have hx := Bd.exec
 have hby := Bd.bytes
 have hml : c.maxLocals = 2 := hml0
 have hown : s.vm.findClass "java/lang/Math" = some m.cls := findClass_of_methodNamed Bd.named
 have hnm := (name_of_methodNamed Bd.named Bd.method).1
 have X0 : Stand p l e ({ frames := 0, cells := 0, slots := 0, locals := 0 } : Room) s m #[(.int 4), (.int 8192)] below meth c s₁ [] 0 0 := Stand.of_body Bd
 have e0 : s₁.heap = h0 := by rw [← hh, Bd.state]; rfl
 have N0 := Fr.nil n0
 have Z0 := own_old_le O0
 show Ends _ _ _ _ s₁ (entryFrame m #[(.int 4), (.int 8192)] 2) ({ frames := 0, cells := 0, slots := 0, locals := 0 } : Room).cells ({ frames := 0, cells := 0, slots := 0, locals := 0 } : Room).slots (fun v h L => v = some (.int 4) ∧ Fr n0 L ∧ Keep h0 h [])
 refine Ends.go (fun _ k => castTop (ef11_ii m (4 : Int32) (8192 : Int32)) k) ?_
 have K0 := Keep.refl h0 []
 show Ends _ _ _ _ s₁ (mkF m 0 #[ci 4, ci 8192] []) _ _ _
 refine wilN X0 hx hby d11_0 rfl ?_
 refine wilN X0 hx hby d11_1 rfl ?_
 refine wcn X0 hx hby d11_2 (flt (by decide : ¬ ((8192 : Int32) < (4 : Int32)))).2.2.1 ?_
 refine wilN X0 hx hby d11_5 rfl ?_
 show Ends _ _ _ _ s₁ (mkF m 6 #[ci 4, ci 8192] [(.int 4)]) _ _ _
 refine wgo (pc := 6) (pc' := 10) X0 hx hby d11_6 (by decide) (by decide) ?_
 refine Ends.ret X0 hx Bd.notSynchronized (t := .int) Bd.returns rfl (Or.inl ⟨rfl, by simp, _, rfl⟩) (hb hby d11_10) (by decide) (by decide) ?_
 rw [e0]
 exact ⟨rfl, N0, K0⟩

theorem d17_0 : decode jdk_42_method_154_code 0 = .ok (.getstatic 38, 3) := by decide +kernel
theorem d17_3 : decode jdk_42_method_154_code 3 = .ok (.ifCond .eq 14, 3) := by decide +kernel
theorem d17_6 : decode jdk_42_method_154_code 6 = .ok (.aload_n 0, 1) := by decide +kernel
theorem d17_7 : decode jdk_42_method_154_code 7 = .ok (.getfield 15, 3) := by decide +kernel
theorem d17_10 : decode jdk_42_method_154_code 10 = .ok (.ifCond .ne 7, 3) := by decide +kernel
theorem d17_13 : decode jdk_42_method_154_code 13 = .ok (.iconst 1, 1) := by decide +kernel
theorem d17_14 : decode jdk_42_method_154_code 14 = .ok (.goto 4, 3) := by decide +kernel
theorem d17_18 : decode jdk_42_method_154_code 18 = .ok (.ireturn, 1) := by decide +kernel
theorem pn17 : plainName "java/lang/String" = true := by first | (simp [plainName, overriddenIn]; done) | decide +kernel
theorem pdx_13 : parseMethodDescriptor "(II)I" = some ⟨[.int, .int], some .int⟩ := by decide +kernel
theorem pdx_14 : parseMethodDescriptor "(III)V" = some ⟨[.int, .int, .int], none⟩ := by decide +kernel
theorem pdx_15 : parseMethodDescriptor "(III)I" = some ⟨[.int, .int, .int], some .int⟩ := by decide +kernel
theorem ef17_r (m : MethodId) (x0 : Addr) : entryFrame m #[(.ref x0)] 1 = mkF m 0 #[.val (.ref x0)] [] := by first | (simp [entryFrame, mkF, argsToLocals, Value.category]; done) | rfl
set_option maxRecDepth 65536 in
set_option maxHeartbeats 40000000 in
theorem rx17_306 (l : Launch) (Z : State) (a0 : Array Value) (hw : ∀ d ∈ tables_1, d.before a0 Z = true) (ws : List Jvm.Cond) (n0 : Nat) (h0 : Heap) (O0 : Old Z n0 h0) (G1 : Int32) (G3 : Value) (GF : GlobF Z G1 G3) (b247 : Addr) (PF_b247_coder : Fld Z h0 b247 "java/lang/String" "coder" "B" (.int 0)) :
  Meets1 l ym24 jdk_42_method_154_code 1 (some .boolean) ws ({ frames := 0, cells := 0, slots := 0, locals := 0 } : Room) #[(.ref b247)] Z h0 (fun v h L => v = some (.int 1) ∧ Fr n0 L ∧ Keep h0 h []) := by
 refine MetFree.of_bodySF (plainFor_of_name pn17) hisR ?_
 intro p e s m args below meth c s₁ Bd hml0 hP hK
 obtain ⟨rfl, hZ, hh⟩ := hP
 have hx := Bd.exec
 have hby := Bd.bytes
 have hml : c.maxLocals = 1 := hml0
 have hown : s.vm.findClass "java/lang/String" = some m.cls := findClass_of_methodNamed Bd.named
 have hnm := (name_of_methodNamed Bd.named Bd.method).1
 have X0 : Stand p l e ({ frames := 0, cells := 0, slots := 0, locals := 0 } : Room) s m #[(.ref b247)] below meth c s₁ [] 0 0 := Stand.of_body Bd
 have e0 : s₁.heap = h0 := by rw [← hh, Bd.state]; rfl
 have N0 := Fr.nil n0
 have Z0 := own_old_le O0
 show Ends _ _ _ _ s₁ (entryFrame m #[(.ref b247)] 1) ({ frames := 0, cells := 0, slots := 0, locals := 0 } : Room).cells ({ frames := 0, cells := 0, slots := 0, locals := 0 } : Room).slots (fun v h L => v = some (.int 1) ∧ Fr n0 L ∧ Keep h0 h [])
 refine Ends.go (fun _ k => castTop (ef17_r m b247) k) ?_
 obtain ⟨SCS, P5, SAD, SHI, SLO, SSF, RG3⟩ := id GF
 have K0 := Keep.refl h0 []
 show Ends _ _ _ _ s₁ (mkF m 0 #[cr b247] []) _ _ _
 obtain ⟨T307, X307, e307, st307⟩ := getS2 X0 hx hZ hown (host := "") (Or.inl (ow hw 20 rfl)) Via.refl e0 (SCS.ext O0.2) (g := (mkF m 0 #[cr b247] [])) rfl (hb hby d17_0)
 refine Ends.go st307 ?_
 refine win X307 hx hby d17_3 ((if0 _ _).trans (feq (P5 : ¬ (G1 = (0 : Int32)))).1) ?_
 refine walN X307 hx hby d17_6 rfl rfl ?_
 obtain ⟨T308, X308, e308, st308⟩ := getF X307 hx hZ hown (host := "") (Or.inl (ow hw 32 rfl)) Via.refl e307 PF_b247_coder (g := (mkF m 7 #[cr b247] [(.ref b247)])) rfl rfl (hb hby d17_7)
 refine Ends.go st308 ?_
 show Ends _ _ _ _ T308 (mkF m 10 #[cr b247] [(.int 0)]) _ _ _
 refine win X308 hx hby d17_10 ((if0 _ _).trans (teq (by decide : (0 : Int32) = (0 : Int32))).2) ?_
 refine wic X308 hx hby d17_13 ?_
 refine wgo (pc := 14) (pc' := 18) X308 hx hby d17_14 (by decide) (by decide) ?_
 refine Ends.retZ X308 hx Bd.notSynchronized (t := .boolean) Bd.returns (by simp) (hb hby d17_18) (by decide) (by decide) ?_
 rw [e308]
 exact ⟨rfl, N0, K0⟩

theorem d19_0 : decode jdk_43_method_49_code 0 = .ok (.iconst 0, 1) := by decide +kernel
theorem d19_1 : decode jdk_43_method_49_code 1 = .ok (.istore 5, 2) := by decide +kernel
theorem d19_3 : decode jdk_43_method_49_code 3 = .ok (.iload 5, 2) := by decide +kernel
theorem d19_5 : decode jdk_43_method_49_code 5 = .ok (.iload 4, 2) := by decide +kernel
theorem d19_7 : decode jdk_43_method_49_code 7 = .ok (.if_icmp .ge 26, 3) := by decide +kernel
theorem d19_10 : decode jdk_43_method_49_code 10 = .ok (.aload_n 2, 1) := by decide +kernel
theorem d19_11 : decode jdk_43_method_49_code 11 = .ok (.iload_n 3, 1) := by decide +kernel
theorem d19_12 : decode jdk_43_method_49_code 12 = .ok (.iinc 3 1, 3) := by decide +kernel
theorem d19_15 : decode jdk_43_method_49_code 15 = .ok (.aload_n 0, 1) := by decide +kernel
theorem d19_16 : decode jdk_43_method_49_code 16 = .ok (.iload_n 1, 1) := by decide +kernel
theorem d19_17 : decode jdk_43_method_49_code 17 = .ok (.iinc 1 1, 3) := by decide +kernel
theorem d19_20 : decode jdk_43_method_49_code 20 = .ok (.baload, 1) := by decide +kernel
theorem d19_21 : decode jdk_43_method_49_code 21 = .ok (.sipush 255, 3) := by decide +kernel
theorem d19_24 : decode jdk_43_method_49_code 24 = .ok (.iand, 1) := by decide +kernel
theorem d19_25 : decode jdk_43_method_49_code 25 = .ok (.i2c, 1) := by decide +kernel
theorem d19_26 : decode jdk_43_method_49_code 26 = .ok (.castore, 1) := by decide +kernel
theorem d19_27 : decode jdk_43_method_49_code 27 = .ok (.iinc 5 1, 3) := by decide +kernel
theorem d19_30 : decode jdk_43_method_49_code 30 = .ok (.goto (-27), 3) := by decide +kernel
theorem d19_33 : decode jdk_43_method_49_code 33 = .ok (.return_, 1) := by decide +kernel
theorem pn19 : plainName "java/lang/StringLatin1" = true := by first | (simp [plainName, overriddenIn]; done) | decide +kernel
theorem ef19_ririi (m : MethodId) (x0 : Addr) (x1 : Int32) (x2 : Addr) (x3 : Int32) (x4 : Int32) : entryFrame m #[(.ref x0), (.int x1), (.ref x2), (.int x3), (.int x4)] 6 = mkF m 0 #[.val (.ref x0), .val (.int x1), .val (.ref x2), .val (.int x3), .val (.int x4), .unset] [] := by first | (simp [entryFrame, mkF, argsToLocals, Value.category]; done) | rfl
set_option maxRecDepth 65536 in
set_option maxHeartbeats 40000000 in
theorem rx19_312 (l : Launch) (Z : State) (a0 : Array Value) (hw : ∀ d ∈ tables_1, d.before a0 Z = true) (ws : List Jvm.Cond) (n0 : Nat) (h0 : Heap) (O0 : Old Z n0 h0)  (b277 : Addr) (b294 : Addr) (k278 : ClassId) (c0_ : Int32) (c1_ : Int32) (c2_ : Int32) (c3_ : Int32) (k294 : ClassId) (PV_b277 : Arv Z h0 b277 k278 .byte (4 : Int32) [(.int (c0_.toInt8.toInt32)), (.int (c1_.toInt8.toInt32)), (.int (c2_.toInt8.toInt32)), (.int (c3_.toInt8.toInt32))] (.int 0)) (PV_b294 : Arv Z h0 b294 k294 .char (4 : Int32) [(.int 0), (.int 0), (.int 0), (.int 0)] (.int 0)) (ne_b277_b294 : b277 ≠ b294) (g_b294 : n0 ≤ b294) :
  Meets1 l ym25 jdk_43_method_49_code 6 none ws ({ frames := 0, cells := 0, slots := 0, locals := 0 } : Room) #[(.ref b277), (.int 0), (.ref b294), (.int 0), (.int 4)] Z h0 (fun v h L => v = none ∧ Fr n0 L ∧ Keep h0 h [b294] ∧ Arv Z h b294 k294 .char (4 : Int32) [(.int (nar .char (((c0_.toInt8.toInt32) &&& (255 : Int32)).toUInt32.toUInt16.toUInt32.toInt32))), (.int (nar .char (((c1_.toInt8.toInt32) &&& (255 : Int32)).toUInt32.toUInt16.toUInt32.toInt32))), (.int (nar .char (((c2_.toInt8.toInt32) &&& (255 : Int32)).toUInt32.toUInt16.toUInt32.toInt32))), (.int (nar .char (((c3_.toInt8.toInt32) &&& (255 : Int32)).toUInt32.toUInt16.toUInt32.toInt32)))] (.int 0)) := by
 refine MetFree.of_bodySF (plainFor_of_name pn19) hisR ?_
 intro p e s m args below meth c s₁ Bd hml0 hP hK
 obtain ⟨rfl, hZ, hh⟩ := hP
 have hx := Bd.exec
 have hby := Bd.bytes
 have hml : c.maxLocals = 6 := hml0
 have hown : s.vm.findClass "java/lang/StringLatin1" = some m.cls := findClass_of_methodNamed Bd.named
 have hnm := (name_of_methodNamed Bd.named Bd.method).1
 have X0 : Stand p l e ({ frames := 0, cells := 0, slots := 0, locals := 0 } : Room) s m #[(.ref b277), (.int 0), (.ref b294), (.int 0), (.int 4)] below meth c s₁ [] 0 0 := Stand.of_body Bd
 have e0 : s₁.heap = h0 := by rw [← hh, Bd.state]; rfl
 have N0 := Fr.nil n0
 have Z0 := own_old_le O0
 show Ends _ _ _ _ s₁ (entryFrame m #[(.ref b277), (.int 0), (.ref b294), (.int 0), (.int 4)] 6) ({ frames := 0, cells := 0, slots := 0, locals := 0 } : Room).cells ({ frames := 0, cells := 0, slots := 0, locals := 0 } : Room).slots (fun v h L => v = none ∧ Fr n0 L ∧ Keep h0 h [b294] ∧ Arv Z h b294 k294 .char (4 : Int32) [(.int (nar .char (((c0_.toInt8.toInt32) &&& (255 : Int32)).toUInt32.toUInt16.toUInt32.toInt32))), (.int (nar .char (((c1_.toInt8.toInt32) &&& (255 : Int32)).toUInt32.toUInt16.toUInt32.toInt32))), (.int (nar .char (((c2_.toInt8.toInt32) &&& (255 : Int32)).toUInt32.toUInt16.toUInt32.toInt32))), (.int (nar .char (((c3_.toInt8.toInt32) &&& (255 : Int32)).toUInt32.toUInt16.toUInt32.toInt32)))] (.int 0))
 refine Ends.go (fun _ k => castTop (ef19_ririi m b277 (0 : Int32) b294 (0 : Int32) (4 : Int32)) k) ?_
 have K0 := Keep.refl h0 [b294]
 show Ends _ _ _ _ s₁ (mkF m 0 #[cr b277, ci 0, cr b294, ci 0, ci 4, cu] []) _ _ _
 refine wic X0 hx hby d19_0 ?_
 refine wst X0 hx hby d19_1 (l' := #[cr b277, ci 0, cr b294, ci 0, ci 4, ci 0]) rfl ?_
 refine wil X0 hx hby d19_3 rfl ?_
 refine wil X0 hx hby d19_5 rfl ?_
 show Ends _ _ _ _ s₁ (mkF m 7 #[cr b277, ci 0, cr b294, ci 0, ci 4, ci 0] [(.int 4), (.int 0)]) _ _ _
 refine wcn X0 hx hby d19_7 (tlt (by decide : (0 : Int32) < (4 : Int32))).2.1 ?_
 refine walN X0 hx hby d19_10 rfl rfl ?_
 refine wilN X0 hx hby d19_11 rfl ?_
 refine wii X0 hx hby d19_12 (l' := #[cr b277, ci 0, cr b294, ci 1, ci 4, ci 0]) rfl rfl ?_
 refine walN X0 hx hby d19_15 rfl rfl ?_
 show Ends _ _ _ _ s₁ (mkF m 16 #[cr b277, ci 0, cr b294, ci 1, ci 4, ci 0] [(.ref b277), (.int 0), (.ref b294)]) _ _ _
 refine wilN X0 hx hby d19_16 rfl ?_
 refine wii X0 hx hby d19_17 (l' := #[cr b277, ci 1, cr b294, ci 1, ci 4, ci 0]) rfl rfl ?_
 obtain ⟨cl313, Ar313, q313, S313, M313, H313, G313⟩ := id PV_b277
 have hin313 := inb_of (j := (0 : Int32)) S313 ⟨by decide, by decide⟩
 refine Ends.go (X0.baloadBytes hx (j := (0 : Int32)) (v := (.int (c0_.toInt8.toInt32))) (by rw [e0]; exact Ar313.1) (State.isArrayOf_alike hZ.alike Ar313.2.1) Ar313.2.2 hin313 (H313.at hin313 rfl) (g := (mkF m 20 #[cr b277, ci 1, cr b294, ci 1, ci 4, ci 0] [(.int 0), (.ref b277), (.int 0), (.ref b294)])) rfl rfl (hb hby d19_20)) ?_
 refine wsp X0 hx hby d19_21 ?_
 refine wan X0 hx hby d19_24 ?_
 show Ends _ _ _ _ s₁ (mkF m 25 #[cr b277, ci 1, cr b294, ci 1, ci 4, ci 0] [(.int ((c0_.toInt8.toInt32) &&& (255 : Int32))), (.int 0), (.ref b294)]) _ _ _
 refine .go (fun _ => XS.i2c X0.here hx rfl (hb hby d19_25) rfl) ?_
 obtain ⟨cl314, Ar314, q314, S314, M314, H314, G314⟩ := id PV_b294
 have hin314 := inb_of (j := (0 : Int32)) S314 ⟨by decide, by decide⟩
 obtain ⟨T314, h314, X314, e314, W314, st314⟩ := stC X0 hx hZ e0 Ar314 (j := (0 : Int32)) hin314 (g := (mkF m 26 #[cr b277, ci 1, cr b294, ci 1, ci 4, ci 0] [(.int (((c0_.toInt8.toInt32) &&& (255 : Int32)).toUInt32.toUInt16.toUInt32.toInt32)), (.int 0), (.ref b294)])) rfl rfl (hb hby d19_26)
 refine Ends.go st314 ?_
 have V314 : Arv Z h314 b294 k294 .char (4 : Int32) [(.int (nar .char (((c0_.toInt8.toInt32) &&& (255 : Int32)).toUInt32.toUInt16.toUInt32.toInt32))), (.int 0), (.int 0), (.int 0)] (.int 0) := Arv.set Ar314 q314 S314 M314 H314 G314 (fits_nar_char _) W314 0 rfl (Nat.le_of_ble_eq_true rfl)
 have K314 := K0.wr W314 (Or.inl (List.mem_of_getElem? (i := 0) rfl))
 have O314 := O0.wr W314 g_b294
 have N314 := Fr.snoc X314 N0 g_b294
 refine wii X314 hx hby d19_27 (l' := #[cr b277, ci 1, cr b294, ci 1, ci 4, ci 1]) rfl rfl ?_
 refine wgo (pc := 30) (pc' := 3) X314 hx hby d19_30 (by decide) (by decide) ?_
 refine wil X314 hx hby d19_3 rfl ?_
 show Ends _ _ _ _ T314 (mkF m 5 #[cr b277, ci 1, cr b294, ci 1, ci 4, ci 1] [(.int 1)]) _ _ _
 refine wil X314 hx hby d19_5 rfl ?_
 refine wcn X314 hx hby d19_7 (tlt (by decide : (1 : Int32) < (4 : Int32))).2.1 ?_
 refine walN X314 hx hby d19_10 rfl rfl ?_
 refine wilN X314 hx hby d19_11 rfl ?_
 refine wii X314 hx hby d19_12 (l' := #[cr b277, ci 1, cr b294, ci 2, ci 4, ci 1]) rfl rfl ?_
 show Ends _ _ _ _ T314 (mkF m 15 #[cr b277, ci 1, cr b294, ci 2, ci 4, ci 1] [(.int 1), (.ref b294)]) _ _ _
 refine walN X314 hx hby d19_15 rfl rfl ?_
 refine wilN X314 hx hby d19_16 rfl ?_
 refine wii X314 hx hby d19_17 (l' := #[cr b277, ci 2, cr b294, ci 2, ci 4, ci 1]) rfl rfl ?_
 obtain ⟨cl315, Ar315, q315, S315, M315, H315, G315⟩ := id (PV_b277.other W314 ne_b277_b294)
 have hin315 := inb_of (j := (1 : Int32)) S315 ⟨by decide, by decide⟩
 refine Ends.go (X314.baloadBytes hx (j := (1 : Int32)) (v := (.int (c1_.toInt8.toInt32))) (by rw [e314]; exact Ar315.1) (State.isArrayOf_alike hZ.alike Ar315.2.1) Ar315.2.2 hin315 (H315.at hin315 rfl) (g := (mkF m 20 #[cr b277, ci 2, cr b294, ci 2, ci 4, ci 1] [(.int 1), (.ref b277), (.int 1), (.ref b294)])) rfl rfl (hb hby d19_20)) ?_
 refine wsp X314 hx hby d19_21 ?_
 show Ends _ _ _ _ T314 (mkF m 24 #[cr b277, ci 2, cr b294, ci 2, ci 4, ci 1] [(.int 255), (.int (c1_.toInt8.toInt32)), (.int 1), (.ref b294)]) _ _ _
 refine wan X314 hx hby d19_24 ?_
 refine .go (fun _ => XS.i2c X314.here hx rfl (hb hby d19_25) rfl) ?_
 obtain ⟨cl316, Ar316, q316, S316, M316, H316, G316⟩ := id V314
 have hin316 := inb_of (j := (1 : Int32)) S316 ⟨by decide, by decide⟩
 obtain ⟨T316, h316, X316, e316, W316, st316⟩ := stC X314 hx hZ e314 Ar316 (j := (1 : Int32)) hin316 (g := (mkF m 26 #[cr b277, ci 2, cr b294, ci 2, ci 4, ci 1] [(.int (((c1_.toInt8.toInt32) &&& (255 : Int32)).toUInt32.toUInt16.toUInt32.toInt32)), (.int 1), (.ref b294)])) rfl rfl (hb hby d19_26)
 refine Ends.go st316 ?_
 have V316 : Arv Z h316 b294 k294 .char (4 : Int32) [(.int (nar .char (((c0_.toInt8.toInt32) &&& (255 : Int32)).toUInt32.toUInt16.toUInt32.toInt32))), (.int (nar .char (((c1_.toInt8.toInt32) &&& (255 : Int32)).toUInt32.toUInt16.toUInt32.toInt32))), (.int 0), (.int 0)] (.int 0) := Arv.set Ar316 q316 S316 M316 H316 G316 (fits_nar_char _) W316 1 rfl (Nat.le_of_ble_eq_true rfl)
 have K316 := K314.wr W316 (Or.inl (List.mem_of_getElem? (i := 0) rfl))
 have O316 := O314.wr W316 g_b294
 have N316 := Fr.snoc X316 N314 g_b294
 refine wii X316 hx hby d19_27 (l' := #[cr b277, ci 2, cr b294, ci 2, ci 4, ci 2]) rfl rfl ?_
 refine wgo (pc := 30) (pc' := 3) X316 hx hby d19_30 (by decide) (by decide) ?_
 show Ends _ _ _ _ T316 (mkF m 3 #[cr b277, ci 2, cr b294, ci 2, ci 4, ci 2] []) _ _ _
 refine wil X316 hx hby d19_3 rfl ?_
 refine wil X316 hx hby d19_5 rfl ?_
 refine wcn X316 hx hby d19_7 (tlt (by decide : (2 : Int32) < (4 : Int32))).2.1 ?_
 refine walN X316 hx hby d19_10 rfl rfl ?_
 refine wilN X316 hx hby d19_11 rfl ?_
 show Ends _ _ _ _ T316 (mkF m 12 #[cr b277, ci 2, cr b294, ci 2, ci 4, ci 2] [(.int 2), (.ref b294)]) _ _ _
 refine wii X316 hx hby d19_12 (l' := #[cr b277, ci 2, cr b294, ci 3, ci 4, ci 2]) rfl rfl ?_
 refine walN X316 hx hby d19_15 rfl rfl ?_
 refine wilN X316 hx hby d19_16 rfl ?_
 refine wii X316 hx hby d19_17 (l' := #[cr b277, ci 3, cr b294, ci 3, ci 4, ci 2]) rfl rfl ?_
 obtain ⟨cl317, Ar317, q317, S317, M317, H317, G317⟩ := id ((PV_b277.other W314 ne_b277_b294).other W316 ne_b277_b294)
 have hin317 := inb_of (j := (2 : Int32)) S317 ⟨by decide, by decide⟩
 refine Ends.go (X316.baloadBytes hx (j := (2 : Int32)) (v := (.int (c2_.toInt8.toInt32))) (by rw [e316]; exact Ar317.1) (State.isArrayOf_alike hZ.alike Ar317.2.1) Ar317.2.2 hin317 (H317.at hin317 rfl) (g := (mkF m 20 #[cr b277, ci 3, cr b294, ci 3, ci 4, ci 2] [(.int 2), (.ref b277), (.int 2), (.ref b294)])) rfl rfl (hb hby d19_20)) ?_
 show Ends _ _ _ _ T316 (mkF m 21 #[cr b277, ci 3, cr b294, ci 3, ci 4, ci 2] [(.int (c2_.toInt8.toInt32)), (.int 2), (.ref b294)]) _ _ _
 refine wsp X316 hx hby d19_21 ?_
 refine wan X316 hx hby d19_24 ?_
 refine .go (fun _ => XS.i2c X316.here hx rfl (hb hby d19_25) rfl) ?_
 obtain ⟨cl318, Ar318, q318, S318, M318, H318, G318⟩ := id V316
 have hin318 := inb_of (j := (2 : Int32)) S318 ⟨by decide, by decide⟩
 obtain ⟨T318, h318, X318, e318, W318, st318⟩ := stC X316 hx hZ e316 Ar318 (j := (2 : Int32)) hin318 (g := (mkF m 26 #[cr b277, ci 3, cr b294, ci 3, ci 4, ci 2] [(.int (((c2_.toInt8.toInt32) &&& (255 : Int32)).toUInt32.toUInt16.toUInt32.toInt32)), (.int 2), (.ref b294)])) rfl rfl (hb hby d19_26)
 refine Ends.go st318 ?_
 have V318 : Arv Z h318 b294 k294 .char (4 : Int32) [(.int (nar .char (((c0_.toInt8.toInt32) &&& (255 : Int32)).toUInt32.toUInt16.toUInt32.toInt32))), (.int (nar .char (((c1_.toInt8.toInt32) &&& (255 : Int32)).toUInt32.toUInt16.toUInt32.toInt32))), (.int (nar .char (((c2_.toInt8.toInt32) &&& (255 : Int32)).toUInt32.toUInt16.toUInt32.toInt32))), (.int 0)] (.int 0) := Arv.set Ar318 q318 S318 M318 H318 G318 (fits_nar_char _) W318 2 rfl (Nat.le_of_ble_eq_true rfl)
 have K318 := K316.wr W318 (Or.inl (List.mem_of_getElem? (i := 0) rfl))
 have O318 := O316.wr W318 g_b294
 have N318 := Fr.snoc X318 N316 g_b294
 refine wii X318 hx hby d19_27 (l' := #[cr b277, ci 3, cr b294, ci 3, ci 4, ci 3]) rfl rfl ?_
 show Ends _ _ _ _ T318 (mkF m 30 #[cr b277, ci 3, cr b294, ci 3, ci 4, ci 3] []) _ _ _
 refine wgo (pc := 30) (pc' := 3) X318 hx hby d19_30 (by decide) (by decide) ?_
 refine wil X318 hx hby d19_3 rfl ?_
 refine wil X318 hx hby d19_5 rfl ?_
 refine wcn X318 hx hby d19_7 (tlt (by decide : (3 : Int32) < (4 : Int32))).2.1 ?_
 refine walN X318 hx hby d19_10 rfl rfl ?_
 show Ends _ _ _ _ T318 (mkF m 11 #[cr b277, ci 3, cr b294, ci 3, ci 4, ci 3] [(.ref b294)]) _ _ _
 refine wilN X318 hx hby d19_11 rfl ?_
 refine wii X318 hx hby d19_12 (l' := #[cr b277, ci 3, cr b294, ci 4, ci 4, ci 3]) rfl rfl ?_
 refine walN X318 hx hby d19_15 rfl rfl ?_
 refine wilN X318 hx hby d19_16 rfl ?_
 refine wii X318 hx hby d19_17 (l' := #[cr b277, ci 4, cr b294, ci 4, ci 4, ci 3]) rfl rfl ?_
 show Ends _ _ _ _ T318 (mkF m 20 #[cr b277, ci 4, cr b294, ci 4, ci 4, ci 3] [(.int 3), (.ref b277), (.int 3), (.ref b294)]) _ _ _
 obtain ⟨cl319, Ar319, q319, S319, M319, H319, G319⟩ := id (((PV_b277.other W314 ne_b277_b294).other W316 ne_b277_b294).other W318 ne_b277_b294)
 have hin319 := inb_of (j := (3 : Int32)) S319 ⟨by decide, by decide⟩
 refine Ends.go (X318.baloadBytes hx (j := (3 : Int32)) (v := (.int (c3_.toInt8.toInt32))) (by rw [e318]; exact Ar319.1) (State.isArrayOf_alike hZ.alike Ar319.2.1) Ar319.2.2 hin319 (H319.at hin319 rfl) (g := (mkF m 20 #[cr b277, ci 4, cr b294, ci 4, ci 4, ci 3] [(.int 3), (.ref b277), (.int 3), (.ref b294)])) rfl rfl (hb hby d19_20)) ?_
 refine wsp X318 hx hby d19_21 ?_
 refine wan X318 hx hby d19_24 ?_
 refine .go (fun _ => XS.i2c X318.here hx rfl (hb hby d19_25) rfl) ?_
 obtain ⟨cl320, Ar320, q320, S320, M320, H320, G320⟩ := id V318
 have hin320 := inb_of (j := (3 : Int32)) S320 ⟨by decide, by decide⟩
 obtain ⟨T320, h320, X320, e320, W320, st320⟩ := stC X318 hx hZ e318 Ar320 (j := (3 : Int32)) hin320 (g := (mkF m 26 #[cr b277, ci 4, cr b294, ci 4, ci 4, ci 3] [(.int (((c3_.toInt8.toInt32) &&& (255 : Int32)).toUInt32.toUInt16.toUInt32.toInt32)), (.int 3), (.ref b294)])) rfl rfl (hb hby d19_26)
 refine Ends.go st320 ?_
 have V320 : Arv Z h320 b294 k294 .char (4 : Int32) [(.int (nar .char (((c0_.toInt8.toInt32) &&& (255 : Int32)).toUInt32.toUInt16.toUInt32.toInt32))), (.int (nar .char (((c1_.toInt8.toInt32) &&& (255 : Int32)).toUInt32.toUInt16.toUInt32.toInt32))), (.int (nar .char (((c2_.toInt8.toInt32) &&& (255 : Int32)).toUInt32.toUInt16.toUInt32.toInt32))), (.int (nar .char (((c3_.toInt8.toInt32) &&& (255 : Int32)).toUInt32.toUInt16.toUInt32.toInt32)))] (.int 0) := Arv.set Ar320 q320 S320 M320 H320 G320 (fits_nar_char _) W320 3 rfl (Nat.le_of_ble_eq_true rfl)
 have K320 := K318.wr W320 (Or.inl (List.mem_of_getElem? (i := 0) rfl))
 have O320 := O318.wr W320 g_b294
 have N320 := Fr.snoc X320 N318 g_b294
 show Ends _ _ _ _ T320 (mkF m 27 #[cr b277, ci 4, cr b294, ci 4, ci 4, ci 3] []) _ _ _
 refine wii X320 hx hby d19_27 (l' := #[cr b277, ci 4, cr b294, ci 4, ci 4, ci 4]) rfl rfl ?_
 refine wgo (pc := 30) (pc' := 3) X320 hx hby d19_30 (by decide) (by decide) ?_
 refine wil X320 hx hby d19_3 rfl ?_
 refine wil X320 hx hby d19_5 rfl ?_
 refine wcy (pc := 7) (pc' := 33) X320 hx hby d19_7 (flt (by decide : ¬ ((4 : Int32) < (4 : Int32)))).2.1 (by decide) (by decide) ?_
 show Ends _ _ _ _ T320 (mkF m 33 #[cr b277, ci 4, cr b294, ci 4, ci 4, ci 4] []) _ _ _
 refine Ends.retV X320 hx Bd.notSynchronized Bd.returns (hb hby d19_33) (by decide) (by decide) ?_
 rw [e320]
 exact ⟨rfl, N320, K320, V320⟩

theorem d18_0 : decode jdk_43_method_11_code 0 = .ok (.aload_n 0, 1) := by decide +kernel
theorem d18_1 : decode jdk_43_method_11_code 1 = .ok (.iload_n 1, 1) := by decide +kernel
theorem d18_2 : decode jdk_43_method_11_code 2 = .ok (.aload_n 3, 1) := by decide +kernel
theorem d18_3 : decode jdk_43_method_11_code 3 = .ok (.iload 4, 2) := by decide +kernel
theorem d18_5 : decode jdk_43_method_11_code 5 = .ok (.iload_n 2, 1) := by decide +kernel
theorem d18_6 : decode jdk_43_method_11_code 6 = .ok (.iload_n 1, 1) := by decide +kernel
theorem d18_7 : decode jdk_43_method_11_code 7 = .ok (.isub, 1) := by decide +kernel
theorem d18_8 : decode jdk_43_method_11_code 8 = .ok (.invokestatic 13, 3) := by decide +kernel
theorem d18_11 : decode jdk_43_method_11_code 11 = .ok (.return_, 1) := by decide +kernel
theorem pn18 : plainName "java/lang/StringLatin1" = true := by first | (simp [plainName, overriddenIn]; done) | decide +kernel
theorem pdx_16 : parseMethodDescriptor "([BI[CII)V" = some ⟨[(.array .byte), .int, (.array .char), .int, .int], none⟩ := by decide +kernel
theorem ef18_riiri (m : MethodId) (x0 : Addr) (x1 : Int32) (x2 : Int32) (x3 : Addr) (x4 : Int32) : entryFrame m #[(.ref x0), (.int x1), (.int x2), (.ref x3), (.int x4)] 5 = mkF m 0 #[.val (.ref x0), .val (.int x1), .val (.int x2), .val (.ref x3), .val (.int x4)] [] := by first | (simp [entryFrame, mkF, argsToLocals, Value.category]; done) | rfl
set_option maxRecDepth 65536 in
set_option maxHeartbeats 40000000 in
theorem rx18_311 (l : Launch) (Z : State) (a0 : Array Value) (hw : ∀ d ∈ tables_1, d.before a0 Z = true) (ws : List Jvm.Cond) (n0 : Nat) (h0 : Heap) (O0 : Old Z n0 h0)  (b277 : Addr) (b294 : Addr) (k278 : ClassId) (c0_ : Int32) (c1_ : Int32) (c2_ : Int32) (c3_ : Int32) (k294 : ClassId) (PV_b277 : Arv Z h0 b277 k278 .byte (4 : Int32) [(.int (c0_.toInt8.toInt32)), (.int (c1_.toInt8.toInt32)), (.int (c2_.toInt8.toInt32)), (.int (c3_.toInt8.toInt32))] (.int 0)) (PV_b294 : Arv Z h0 b294 k294 .char (4 : Int32) [(.int 0), (.int 0), (.int 0), (.int 0)] (.int 0)) (ne_b277_b294 : b277 ≠ b294) (g_b294 : n0 ≤ b294) :
  Meets1 l ym26 jdk_43_method_11_code 5 none ws ({ frames := 1, cells := 0, slots := 0, locals := 17 } : Room) #[(.ref b277), (.int 0), (.int 4), (.ref b294), (.int 0)] Z h0 (fun v h L => v = none ∧ Fr n0 L ∧ Keep h0 h [b294] ∧ Arv Z h b294 k294 .char (4 : Int32) [(.int (nar .char (((c0_.toInt8.toInt32) &&& (255 : Int32)).toUInt32.toUInt16.toUInt32.toInt32))), (.int (nar .char (((c1_.toInt8.toInt32) &&& (255 : Int32)).toUInt32.toUInt16.toUInt32.toInt32))), (.int (nar .char (((c2_.toInt8.toInt32) &&& (255 : Int32)).toUInt32.toUInt16.toUInt32.toInt32))), (.int (nar .char (((c3_.toInt8.toInt32) &&& (255 : Int32)).toUInt32.toUInt16.toUInt32.toInt32)))] (.int 0)) := by
 refine MetFree.of_bodySF (plainFor_of_name pn18) hisR ?_
 intro p e s m args below meth c s₁ Bd hml0 hP hK
 obtain ⟨rfl, hZ, hh⟩ := hP
 have hx := Bd.exec
 have hby := Bd.bytes
 have hml : c.maxLocals = 5 := hml0
 have hown : s.vm.findClass "java/lang/StringLatin1" = some m.cls := findClass_of_methodNamed Bd.named
 have hnm := (name_of_methodNamed Bd.named Bd.method).1
 have X0 : Stand p l e ({ frames := 1, cells := 0, slots := 0, locals := 17 } : Room) s m #[(.ref b277), (.int 0), (.int 4), (.ref b294), (.int 0)] below meth c s₁ [] 0 0 := Stand.of_body Bd
 have e0 : s₁.heap = h0 := by rw [← hh, Bd.state]; rfl
 have N0 := Fr.nil n0
 have Z0 := own_old_le O0
 show Ends _ _ _ _ s₁ (entryFrame m #[(.ref b277), (.int 0), (.int 4), (.ref b294), (.int 0)] 5) ({ frames := 1, cells := 0, slots := 0, locals := 17 } : Room).cells ({ frames := 1, cells := 0, slots := 0, locals := 17 } : Room).slots (fun v h L => v = none ∧ Fr n0 L ∧ Keep h0 h [b294] ∧ Arv Z h b294 k294 .char (4 : Int32) [(.int (nar .char (((c0_.toInt8.toInt32) &&& (255 : Int32)).toUInt32.toUInt16.toUInt32.toInt32))), (.int (nar .char (((c1_.toInt8.toInt32) &&& (255 : Int32)).toUInt32.toUInt16.toUInt32.toInt32))), (.int (nar .char (((c2_.toInt8.toInt32) &&& (255 : Int32)).toUInt32.toUInt16.toUInt32.toInt32))), (.int (nar .char (((c3_.toInt8.toInt32) &&& (255 : Int32)).toUInt32.toUInt16.toUInt32.toInt32)))] (.int 0))
 refine Ends.go (fun _ k => castTop (ef18_riiri m b277 (0 : Int32) (4 : Int32) b294 (0 : Int32)) k) ?_
 have K0 := Keep.refl h0 [b294]
 show Ends _ _ _ _ s₁ (mkF m 0 #[cr b277, ci 0, ci 4, cr b294, ci 0] []) _ _ _
 refine walN X0 hx hby d18_0 rfl rfl ?_
 refine wilN X0 hx hby d18_1 rfl ?_
 refine walN X0 hx hby d18_2 rfl rfl ?_
 refine wil X0 hx hby d18_3 rfl ?_
 show Ends _ _ _ _ s₁ (mkF m 5 #[cr b277, ci 0, ci 4, cr b294, ci 0] [(.int 0), (.ref b294), (.int 0), (.ref b277)]) _ _ _
 refine wilN X0 hx hby d18_5 rfl ?_
 refine wilN X0 hx hby d18_6 rfl ?_
 refine wis X0 hx hby d18_7 ?_
 obtain ⟨_, _, ⟨T321, L321, k321, n321⟩, -, X321, ⟨Lc321, hQ321, l321, y321, z321⟩, st321⟩ := Jvm.LawKit.callS X0 hx (y := ym25) hown (mvT hZ (ow hw 94 rfl)) (mvT hZ (ow hw 95 rfl)) (mvT hZ (ow hw 92 rfl)) (mvT hZ (ow hw 96 rfl)) (by decide) (own_backOf (W := 0) (rx19_312 l Z a0 hw [] n0 h0 O0  b277 b294 k278 c0_ c1_ c2_ c3_ k294 PV_b277 PV_b294 ne_b277_b294 g_b294) hZ (ow hw 96 rfl) (ow hw 92 rfl) (by decide) (by decide)) (g := (mkF m 8 #[cr b277, ci 0, ci 4, cr b294, ci 0] [(.int 4), (.int 0), (.ref b294), (.int 0), (.ref b277)])) rfl (by rw [hml]; rfl) (argsL := [(.ref b277), (.int 0), (.ref b294), (.int 0), (.int 4)]) (rest := []) (lenOf pdx_16 rfl) rfl (by show 2 * 0 + _ ≤ _; exact Nat.le_of_eq rfl) (hb hby d18_8) (fun _ _ => ⟨rfl, e0, (by decide : 0 + 0 ≤ _), (by decide : 0 + 0 ≤ _)⟩)
 dsimp only [Pt.U, Pt.locs, Pt.cells, Pt.slots] at X321 l321 y321 z321 st321 hQ321
 subst l321 y321 z321
 obtain ⟨rfl, N321q, K321c, Y321_0⟩ := hQ321
 have N321 := Fr.app N0 N321q
 refine Ends.go st321 ?_
 obtain ⟨h321, e321⟩ : ∃ z, T321.heap = z := ⟨_, rfl⟩
 rw [e321] at K321c Y321_0
 have K321 := K0.trans K321c (allS (Or.inl (List.mem_of_getElem? (i := 0) rfl)) all0)
 have O321 := O0.keep K321c (allS g_b294 all0)
 refine Ends.retV X321 hx Bd.notSynchronized Bd.returns (hb hby d18_11) (by decide) (by decide) ?_
 rw [e321]
 exact ⟨rfl, N321, K321, Y321_0⟩

theorem d12_0 : decode jdk_42_method_61_code 0 = .ok (.iload_n 1, 1) := by decide +kernel
theorem d12_1 : decode jdk_42_method_61_code 1 = .ok (.iload_n 2, 1) := by decide +kernel
theorem d12_2 : decode jdk_42_method_61_code 2 = .ok (.aload_n 0, 1) := by decide +kernel
theorem d12_3 : decode jdk_42_method_61_code 3 = .ok (.invokevirtual 505, 3) := by decide +kernel
theorem d12_6 : decode jdk_42_method_61_code 6 = .ok (.invokestatic 521, 3) := by decide +kernel
theorem d12_9 : decode jdk_42_method_61_code 9 = .ok (.iload 4, 2) := by decide +kernel
theorem d12_11 : decode jdk_42_method_61_code 11 = .ok (.iload_n 2, 1) := by decide +kernel
theorem d12_12 : decode jdk_42_method_61_code 12 = .ok (.iload_n 1, 1) := by decide +kernel
theorem d12_13 : decode jdk_42_method_61_code 13 = .ok (.isub, 1) := by decide +kernel
theorem d12_14 : decode jdk_42_method_61_code 14 = .ok (.aload_n 3, 1) := by decide +kernel
theorem d12_15 : decode jdk_42_method_61_code 15 = .ok (.arraylength, 1) := by decide +kernel
theorem d12_16 : decode jdk_42_method_61_code 16 = .ok (.invokestatic 34, 3) := by decide +kernel
theorem d12_19 : decode jdk_42_method_61_code 19 = .ok (.pop, 1) := by decide +kernel
theorem d12_20 : decode jdk_42_method_61_code 20 = .ok (.aload_n 0, 1) := by decide +kernel
theorem d12_21 : decode jdk_42_method_61_code 21 = .ok (.invokevirtual 492, 3) := by decide +kernel
theorem d12_24 : decode jdk_42_method_61_code 24 = .ok (.ifCond .eq 18, 3) := by decide +kernel
theorem d12_27 : decode jdk_42_method_61_code 27 = .ok (.aload_n 0, 1) := by decide +kernel
theorem d12_28 : decode jdk_42_method_61_code 28 = .ok (.getfield 9, 3) := by decide +kernel
theorem d12_31 : decode jdk_42_method_61_code 31 = .ok (.iload_n 1, 1) := by decide +kernel
theorem d12_32 : decode jdk_42_method_61_code 32 = .ok (.iload_n 2, 1) := by decide +kernel
theorem d12_33 : decode jdk_42_method_61_code 33 = .ok (.aload_n 3, 1) := by decide +kernel
theorem d12_34 : decode jdk_42_method_61_code 34 = .ok (.iload 4, 2) := by decide +kernel
theorem d12_36 : decode jdk_42_method_61_code 36 = .ok (.invokestatic 525, 3) := by decide +kernel
theorem d12_39 : decode jdk_42_method_61_code 39 = .ok (.goto 15, 3) := by decide +kernel
theorem d12_54 : decode jdk_42_method_61_code 54 = .ok (.return_, 1) := by decide +kernel
theorem pn12 : plainName "java/lang/String" = true := by first | (simp [plainName, overriddenIn]; done) | decide +kernel
theorem pdx_17 : parseMethodDescriptor "([BII[CI)V" = some ⟨[(.array .byte), .int, .int, (.array .char), .int], none⟩ := by decide +kernel
theorem ef12_riiri (m : MethodId) (x0 : Addr) (x1 : Int32) (x2 : Int32) (x3 : Addr) (x4 : Int32) : entryFrame m #[(.ref x0), (.int x1), (.int x2), (.ref x3), (.int x4)] 5 = mkF m 0 #[.val (.ref x0), .val (.int x1), .val (.int x2), .val (.ref x3), .val (.int x4)] [] := by first | (simp [entryFrame, mkF, argsToLocals, Value.category]; done) | rfl
set_option maxRecDepth 65536 in
set_option maxHeartbeats 40000000 in
theorem rx12_301 (l : Launch) (Z : State) (a0 : Array Value) (hw : ∀ d ∈ tables_1, d.before a0 Z = true) (ws : List Jvm.Cond) (n0 : Nat) (h0 : Heap) (O0 : Old Z n0 h0) (G1 : Int32) (G3 : Value) (GF : GlobF Z G1 G3) (b247 : Addr) (b294 : Addr) (b277 : Addr) (k278 : ClassId) (c0_ : Int32) (c1_ : Int32) (c2_ : Int32) (c3_ : Int32) (k294 : ClassId) (PF_b247_value : Fld Z h0 b247 "java/lang/String" "value" "[B" (.ref b277)) (PV_b277 : Arv Z h0 b277 k278 .byte (4 : Int32) [(.int (c0_.toInt8.toInt32)), (.int (c1_.toInt8.toInt32)), (.int (c2_.toInt8.toInt32)), (.int (c3_.toInt8.toInt32))] (.int 0)) (PF_b247_coder : Fld Z h0 b247 "java/lang/String" "coder" "B" (.int 0)) (PE_b247 : Exa Z h0 b247 "java/lang/String") (PV_b294 : Arv Z h0 b294 k294 .char (4 : Int32) [(.int 0), (.int 0), (.int 0), (.int 0)] (.int 0)) (ne_b277_b294 : b277 ≠ b294) (g_b294 : n0 ≤ b294) :
  Meets1 l ym27 jdk_42_method_61_code 5 none ws ({ frames := 2, cells := 0, slots := 0, locals := 33 } : Room) #[(.ref b247), (.int 0), (.int 4), (.ref b294), (.int 0)] Z h0 (fun v h L => v = none ∧ Fr n0 L ∧ Keep h0 h [b294] ∧ Arv Z h b294 k294 .char (4 : Int32) [(.int (nar .char (((c0_.toInt8.toInt32) &&& (255 : Int32)).toUInt32.toUInt16.toUInt32.toInt32))), (.int (nar .char (((c1_.toInt8.toInt32) &&& (255 : Int32)).toUInt32.toUInt16.toUInt32.toInt32))), (.int (nar .char (((c2_.toInt8.toInt32) &&& (255 : Int32)).toUInt32.toUInt16.toUInt32.toInt32))), (.int (nar .char (((c3_.toInt8.toInt32) &&& (255 : Int32)).toUInt32.toUInt16.toUInt32.toInt32)))] (.int 0)) := by
 refine MetFree.of_bodySF (plainFor_of_name pn12) hisR ?_
 intro p e s m args below meth c s₁ Bd hml0 hP hK
 obtain ⟨rfl, hZ, hh⟩ := hP
 have hx := Bd.exec
 have hby := Bd.bytes
 have hml : c.maxLocals = 5 := hml0
 have hown : s.vm.findClass "java/lang/String" = some m.cls := findClass_of_methodNamed Bd.named
 have hnm := (name_of_methodNamed Bd.named Bd.method).1
 have X0 : Stand p l e ({ frames := 2, cells := 0, slots := 0, locals := 33 } : Room) s m #[(.ref b247), (.int 0), (.int 4), (.ref b294), (.int 0)] below meth c s₁ [] 0 0 := Stand.of_body Bd
 have e0 : s₁.heap = h0 := by rw [← hh, Bd.state]; rfl
 have N0 := Fr.nil n0
 have Z0 := own_old_le O0
 show Ends _ _ _ _ s₁ (entryFrame m #[(.ref b247), (.int 0), (.int 4), (.ref b294), (.int 0)] 5) ({ frames := 2, cells := 0, slots := 0, locals := 33 } : Room).cells ({ frames := 2, cells := 0, slots := 0, locals := 33 } : Room).slots (fun v h L => v = none ∧ Fr n0 L ∧ Keep h0 h [b294] ∧ Arv Z h b294 k294 .char (4 : Int32) [(.int (nar .char (((c0_.toInt8.toInt32) &&& (255 : Int32)).toUInt32.toUInt16.toUInt32.toInt32))), (.int (nar .char (((c1_.toInt8.toInt32) &&& (255 : Int32)).toUInt32.toUInt16.toUInt32.toInt32))), (.int (nar .char (((c2_.toInt8.toInt32) &&& (255 : Int32)).toUInt32.toUInt16.toUInt32.toInt32))), (.int (nar .char (((c3_.toInt8.toInt32) &&& (255 : Int32)).toUInt32.toUInt16.toUInt32.toInt32)))] (.int 0))
 refine Ends.go (fun _ k => castTop (ef12_riiri m b247 (0 : Int32) (4 : Int32) b294 (0 : Int32)) k) ?_
 obtain ⟨SCS, P5, SAD, SHI, SLO, SSF, RG3⟩ := id GF
 have K0 := Keep.refl h0 [b294]
 show Ends _ _ _ _ s₁ (mkF m 0 #[cr b247, ci 0, ci 4, cr b294, ci 0] []) _ _ _
 refine wilN X0 hx hby d12_0 rfl ?_
 refine wilN X0 hx hby d12_1 rfl ?_
 refine walN X0 hx hby d12_2 rfl rfl ?_
 obtain ⟨cq302, kq302, q302a, q302b, q302c⟩ := isOf hZ e0 PE_b247
 obtain ⟨_, _, ⟨T302, L302, k302, n302⟩, -, X302, ⟨Lc302, hQ302, l302, y302, z302⟩, st302⟩ := X0.virtualBack hx (y := ym22) (z := ym22) hown (mvT hZ (ow hw 70 rfl)) (mvT hZ (ow hw 48 rfl)) (notFace_of_selects (args := #[]) (mvT hZ (ow hw 50 rfl))) (mvT hZ (ow hw 50 rfl)) (mvT hZ (ow hw 49 rfl)) (by decide) (own_backOf (W := 2) (rx9_284 l Z a0 hw [] n0 h0 O0 G1 G3 GF b247 b277 k278 c0_ c1_ c2_ c3_ PF_b247_value PV_b277 PF_b247_coder PE_b247) hZ (ow hw 51 rfl) (ow hw 9 rfl) (by decide) (by decide)) q302a q302c (g := (mkF m 3 #[cr b247, ci 0, ci 4, cr b294, ci 0] [(.ref b247), (.int 4), (.int 0)])) rfl (by rw [hml]; rfl) (Steps.refl _) (argsL := []) (rest := [(.int 4), (.int 0)]) (lenOf pdx_12 rfl) rfl (by show 2 * 0 + _ ≤ _; exact Nat.le_of_eq rfl) (hb hby d12_3) (fun _ _ => ⟨rfl, e0, (by decide : 0 + 0 ≤ _), (by decide : 0 + 0 ≤ _)⟩)
 dsimp only [Pt.U, Pt.locs, Pt.cells, Pt.slots] at X302 l302 y302 z302 st302 hQ302
 subst l302 y302 z302
 obtain ⟨rfl, N302q, K302c⟩ := hQ302
 have N302 := Fr.app N0 N302q
 refine Ends.go (fun _ k => st302.trans k) ?_
 obtain ⟨h302, e302⟩ : ∃ z, T302.heap = z := ⟨_, rfl⟩
 rw [e302] at K302c
 have K302 := K0.trans K302c all0
 have O302 := O0.keep K302c all0
 show Ends _ _ _ _ T302 (mkF m 6 #[cr b247, ci 0, ci 4, cr b294, ci 0] [(.int 4), (.int 4), (.int 0)]) _ _ _
 obtain ⟨_, _, ⟨T303, L303, k303, n303⟩, -, X303, ⟨Lc303, hQ303, l303, y303, z303⟩, st303⟩ := Jvm.LawKit.callS X302 hx (y := ym2) hown (mvT hZ (ow hw 71 rfl)) (mvT hZ (ow hw 72 rfl)) (mvT hZ (ow hw 9 rfl)) (mvT hZ (ow hw 73 rfl)) (by decide) (own_backOf (W := 0) (rm_checkBoundsBeginEnd l Z a0 hw [] n0 h302 O302 (0 : Int32) (4 : Int32) (4 : Int32) G1 G3 GF (by decide) (by decide) (by decide)) hZ (ow hw 73 rfl) (ow hw 9 rfl) (by decide) (by decide)) (g := (mkF m 6 #[cr b247, ci 0, ci 4, cr b294, ci 0] [(.int 4), (.int 4), (.int 0)])) rfl (by rw [hml]; rfl) (argsL := [(.int 0), (.int 4), (.int 4)]) (rest := []) (lenOf pdx_14 rfl) rfl (by show 2 * 0 + _ ≤ _; exact Nat.le_of_eq rfl) (hb hby d12_6) (fun _ _ => ⟨rfl, e302, (by decide : 0 + 0 ≤ _), (by decide : 0 + 0 ≤ _)⟩)
 dsimp only [Pt.U, Pt.locs, Pt.cells, Pt.slots] at X303 l303 y303 z303 st303 hQ303
 subst l303 y303 z303
 obtain ⟨rfl, N303q, e303q⟩ := hQ303
 have N303 := Fr.app N302 N303q
 refine Ends.go st303 ?_
 refine wil X303 hx hby d12_9 rfl ?_
 refine wilN X303 hx hby d12_11 rfl ?_
 refine wilN X303 hx hby d12_12 rfl ?_
 refine wis X303 hx hby d12_13 ?_
 show Ends _ _ _ _ T303 (mkF m 14 #[cr b247, ci 0, ci 4, cr b294, ci 0] [(.int 4), (.int 0)]) _ _ _
 refine walN X303 hx hby d12_14 rfl rfl ?_
 obtain ⟨cl304, Ar304, q304, S304, M304, H304, G304⟩ := id (PV_b294.keep K302c nin0)
 refine Ends.go (X303.arraylength hx (by rw [e303q]; exact Ar304.1) (State.isArrayOf_alike hZ.alike Ar304.2.1) (g := (mkF m 15 #[cr b247, ci 0, ci 4, cr b294, ci 0] [(.ref b294), (.int 4), (.int 0)])) rfl rfl (hb hby d12_15)) ?_
 rw [len_of S304 M304]
 obtain ⟨_, _, ⟨T305, L305, k305, n305⟩, -, X305, ⟨Lc305, hQ305, l305, y305, z305⟩, st305⟩ := Jvm.LawKit.callS X303 hx (y := ym4) hown (mvT hZ (ow hw 79 rfl)) (mvT hZ (ow hw 80 rfl)) (mvT hZ (ow hw 9 rfl)) (mvT hZ (ow hw 81 rfl)) (by decide) (own_backOf (W := 0) (rm_checkBoundsOffCount l Z a0 hw [] n0 h302 O302 (0 : Int32) (4 : Int32) (4 : Int32) G1 G3 GF (by decide) (by decide)) hZ (ow hw 81 rfl) (ow hw 9 rfl) (by decide) (by decide)) (g := (mkF m 16 #[cr b247, ci 0, ci 4, cr b294, ci 0] [(.int 4), (.int 4), (.int 0)])) rfl (by rw [hml]; rfl) (argsL := [(.int 0), (.int 4), (.int 4)]) (rest := []) (lenOf pdx_15 rfl) rfl (by show 2 * 0 + _ ≤ _; exact Nat.le_of_eq rfl) (hb hby d12_16) (fun _ _ => ⟨rfl, e303q, (by decide : 0 + 0 ≤ _), (by decide : 0 + 0 ≤ _)⟩)
 dsimp only [Pt.U, Pt.locs, Pt.cells, Pt.slots] at X305 l305 y305 z305 st305 hQ305
 subst l305 y305 z305
 obtain ⟨rfl, N305q, e305q⟩ := hQ305
 have N305 := Fr.app N303 N305q
 refine Ends.go st305 ?_
 refine .go (fun _ => XS.pop X305.here hx rfl (hb hby d12_19) rfl rfl) ?_
 refine walN X305 hx hby d12_20 rfl rfl ?_
 show Ends _ _ _ _ T305 (mkF m 21 #[cr b247, ci 0, ci 4, cr b294, ci 0] [(.ref b247)]) _ _ _
 obtain ⟨cq309, kq309, q309a, q309b, q309c⟩ := isOf hZ e305q (PE_b247.keep K302c)
 obtain ⟨_, _, ⟨T309, L309, k309, n309⟩, -, X309, ⟨Lc309, hQ309, l309, y309, z309⟩, st309⟩ := X305.virtualBack hx (y := ym24) (z := ym24) hown (mvT hZ (ow hw 85 rfl)) (mvT hZ (ow hw 86 rfl)) (notFace_of_selects (args := #[]) (mvT hZ (ow hw 88 rfl))) (mvT hZ (ow hw 88 rfl)) (mvT hZ (ow hw 87 rfl)) (by decide) (own_backOf (W := 0) (rx17_306 l Z a0 hw [] n0 h302 O302 G1 G3 GF b247 (PF_b247_coder.keep K302c nin0)) hZ (ow hw 89 rfl) (ow hw 9 rfl) (by decide) (by decide)) q309a q309c (g := (mkF m 21 #[cr b247, ci 0, ci 4, cr b294, ci 0] [(.ref b247)])) rfl (by rw [hml]; rfl) (Steps.refl _) (argsL := []) (rest := []) (lenOf pdx_2 rfl) rfl (by show 2 * 0 + _ ≤ _; exact Nat.le_of_eq rfl) (hb hby d12_21) (fun _ _ => ⟨rfl, e305q, (by decide : 0 + 0 ≤ _), (by decide : 0 + 0 ≤ _)⟩)
 dsimp only [Pt.U, Pt.locs, Pt.cells, Pt.slots] at X309 l309 y309 z309 st309 hQ309
 subst l309 y309 z309
 obtain ⟨rfl, N309q, K309c⟩ := hQ309
 have N309 := Fr.app N305 N309q
 refine Ends.go (fun _ k => st309.trans k) ?_
 obtain ⟨h309, e309⟩ : ∃ z, T309.heap = z := ⟨_, rfl⟩
 rw [e309] at K309c
 have K309 := K302.trans K309c all0
 have O309 := O302.keep K309c all0
 refine win X309 hx hby d12_24 ((if0 _ _).trans (feq (by decide : ¬ ((1 : Int32) = (0 : Int32)))).1) ?_
 refine walN X309 hx hby d12_27 rfl rfl ?_
 obtain ⟨T310, X310, e310, st310⟩ := getF X309 hx hZ hown (host := "") (Or.inl (ow hw 34 rfl)) Via.refl e309 ((PF_b247_value.keep K302c nin0).keep K309c nin0) (g := (mkF m 28 #[cr b247, ci 0, ci 4, cr b294, ci 0] [(.ref b247)])) rfl rfl (hb hby d12_28)
 refine Ends.go st310 ?_
 refine wilN X310 hx hby d12_31 rfl ?_
 show Ends _ _ _ _ T310 (mkF m 32 #[cr b247, ci 0, ci 4, cr b294, ci 0] [(.int 0), (.ref b277)]) _ _ _
 refine wilN X310 hx hby d12_32 rfl ?_
 refine walN X310 hx hby d12_33 rfl rfl ?_
 refine wil X310 hx hby d12_34 rfl ?_
 obtain ⟨_, _, ⟨T322, L322, k322, n322⟩, -, X322, ⟨Lc322, hQ322, l322, y322, z322⟩, st322⟩ := Jvm.LawKit.callS X310 hx (y := ym26) hown (mvT hZ (ow hw 90 rfl)) (mvT hZ (ow hw 91 rfl)) (mvT hZ (ow hw 92 rfl)) (mvT hZ (ow hw 93 rfl)) (by decide) (own_backOf (W := 0) (rx18_311 l Z a0 hw [] n0 h309 O309  b277 b294 k278 c0_ c1_ c2_ c3_ k294 ((PV_b277.keep K302c nin0).keep K309c nin0) ((PV_b294.keep K302c nin0).keep K309c nin0) ne_b277_b294 g_b294) hZ (ow hw 93 rfl) (ow hw 92 rfl) (by decide) (by decide)) (g := (mkF m 36 #[cr b247, ci 0, ci 4, cr b294, ci 0] [(.int 0), (.ref b294), (.int 4), (.int 0), (.ref b277)])) rfl (by rw [hml]; rfl) (argsL := [(.ref b277), (.int 0), (.int 4), (.ref b294), (.int 0)]) (rest := []) (lenOf pdx_17 rfl) rfl (by show 2 * 0 + _ ≤ _; exact Nat.le_of_eq rfl) (hb hby d12_36) (fun _ _ => ⟨rfl, e310, (by decide : 0 + 0 ≤ _), (by decide : 0 + 0 ≤ _)⟩)
 dsimp only [Pt.U, Pt.locs, Pt.cells, Pt.slots] at X322 l322 y322 z322 st322 hQ322
 subst l322 y322 z322
 obtain ⟨rfl, N322q, K322c, Y322_0⟩ := hQ322
 have N322 := Fr.app N309 N322q
 refine Ends.go st322 ?_
 obtain ⟨h322, e322⟩ : ∃ z, T322.heap = z := ⟨_, rfl⟩
 rw [e322] at K322c Y322_0
 have K322 := K309.trans K322c (allS (Or.inl (List.mem_of_getElem? (i := 0) rfl)) all0)
 have O322 := O309.keep K322c (allS g_b294 all0)
 refine wgo (pc := 39) (pc' := 54) X322 hx hby d12_39 (by decide) (by decide) ?_
 show Ends _ _ _ _ T322 (mkF m 54 #[cr b247, ci 0, ci 4, cr b294, ci 0] []) _ _ _
 refine Ends.retV X322 hx Bd.notSynchronized Bd.returns (hb hby d12_54) (by decide) (by decide) ?_
 rw [e322]
 exact ⟨rfl, N322, K322, Y322_0⟩

theorem d7_0 : decode prog_85_method_1_code 0 = .ok (.aload_n 0, 1) := by decide +kernel
theorem d7_1 : decode prog_85_method_1_code 1 = .ok (.invokespecial 1, 3) := by decide +kernel
theorem d7_4 : decode prog_85_method_1_code 4 = .ok (.aload_n 0, 1) := by decide +kernel
theorem d7_5 : decode prog_85_method_1_code 5 = .ok (.aload_n 1, 1) := by decide +kernel
theorem d7_6 : decode prog_85_method_1_code 6 = .ok (.putfield 7, 3) := by decide +kernel
theorem d7_9 : decode prog_85_method_1_code 9 = .ok (.aload_n 0, 1) := by decide +kernel
theorem d7_10 : decode prog_85_method_1_code 10 = .ok (.aload_n 1, 1) := by decide +kernel
theorem d7_11 : decode prog_85_method_1_code 11 = .ok (.invokevirtual 13, 3) := by decide +kernel
theorem d7_14 : decode prog_85_method_1_code 14 = .ok (.sipush 8192, 3) := by decide +kernel
theorem d7_17 : decode prog_85_method_1_code 17 = .ok (.invokestatic 19, 3) := by decide +kernel
theorem d7_20 : decode prog_85_method_1_code 20 = .ok (.newarray .char, 2) := by decide +kernel
theorem d7_22 : decode prog_85_method_1_code 22 = .ok (.putfield 25, 3) := by decide +kernel
theorem d7_25 : decode prog_85_method_1_code 25 = .ok (.aload_n 0, 1) := by decide +kernel
theorem d7_26 : decode prog_85_method_1_code 26 = .ok (.aload_n 0, 1) := by decide +kernel
theorem d7_27 : decode prog_85_method_1_code 27 = .ok (.getfield 25, 3) := by decide +kernel
theorem d7_30 : decode prog_85_method_1_code 30 = .ok (.arraylength, 1) := by decide +kernel
theorem d7_31 : decode prog_85_method_1_code 31 = .ok (.putfield 29, 3) := by decide +kernel
theorem d7_34 : decode prog_85_method_1_code 34 = .ok (.aload_n 1, 1) := by decide +kernel
theorem d7_35 : decode prog_85_method_1_code 35 = .ok (.iconst 0, 1) := by decide +kernel
theorem d7_36 : decode prog_85_method_1_code 36 = .ok (.aload_n 0, 1) := by decide +kernel
theorem d7_37 : decode prog_85_method_1_code 37 = .ok (.getfield 29, 3) := by decide +kernel
theorem d7_40 : decode prog_85_method_1_code 40 = .ok (.aload_n 0, 1) := by decide +kernel
theorem d7_41 : decode prog_85_method_1_code 41 = .ok (.getfield 25, 3) := by decide +kernel
theorem d7_44 : decode prog_85_method_1_code 44 = .ok (.iconst 0, 1) := by decide +kernel
theorem d7_45 : decode prog_85_method_1_code 45 = .ok (.invokevirtual 33, 3) := by decide +kernel
theorem d7_48 : decode prog_85_method_1_code 48 = .ok (.return_, 1) := by decide +kernel
theorem pn7 : plainName "com/example/ratatoskr/ratatoskr/core/internal/StringInput" = true := by first | (simp [plainName, overriddenIn]; done) | decide +kernel
theorem pdx_18 : parseMethodDescriptor "(II[CI)V" = some ⟨[.int, .int, (.array .char), .int], none⟩ := by decide +kernel
theorem ef7_rr (m : MethodId) (x0 : Addr) (x1 : Addr) : entryFrame m #[(.ref x0), (.ref x1)] 2 = mkF m 0 #[.val (.ref x0), .val (.ref x1)] [] := by first | (simp [entryFrame, mkF, argsToLocals, Value.category]; done) | rfl
set_option maxRecDepth 65536 in
set_option maxHeartbeats 40000000 in
theorem rx7_279 (l : Launch) (Z : State) (a0 : Array Value) (hw : ∀ d ∈ tables_1, d.before a0 Z = true) (ws : List Jvm.Cond) (n0 : Nat) (h0 : Heap) (O0 : Old Z n0 h0) (G1 : Int32) (G3 : Value) (GF : GlobF Z G1 G3) (b246 : Addr) (b247 : Addr) (b277 : Addr) (k278 : ClassId) (c0_ : Int32) (c1_ : Int32) (c2_ : Int32) (c3_ : Int32) (PE_b246 : Exa Z h0 b246 cSI) (PF_b246_text : Fld Z h0 b246 cSI "text" "Ljava/lang/String;" .null) (PF_b247_value : Fld Z h0 b247 "java/lang/String" "value" "[B" (.ref b277)) (PV_b277 : Arv Z h0 b277 k278 .byte (4 : Int32) [(.int (c0_.toInt8.toInt32)), (.int (c1_.toInt8.toInt32)), (.int (c2_.toInt8.toInt32)), (.int (c3_.toInt8.toInt32))] (.int 0)) (PF_b247_coder : Fld Z h0 b247 "java/lang/String" "coder" "B" (.int 0)) (PE_b247 : Exa Z h0 b247 "java/lang/String") (PF_b246_chars : Fld Z h0 b246 cSI "chars" "[C" .null) (PF_b246_limit : Fld Z h0 b246 cSI "limit" "I" (.int 0)) (PF_b246_base : Fld Z h0 b246 cSI "base" "I" (.int 0)) (PF_b246_position : Fld Z h0 b246 cSI "position" "I" (.int 0)) (PF_b246_mark : Fld Z h0 b246 cSI "mark" "I" (.int 0)) (PF_b246_ascii : Fld Z h0 b246 cSI "ascii" "Z" (.int 0)) (PF_b246_decoded : Fld Z h0 b246 "com/example/ratatoskr/ratatoskr/core/internal/Input" "decoded" "Lcom/example/ratatoskr/ratatoskr/core/internal/DecodedChars;" .null) (ne_b247_b246 : b247 ≠ b246) (ne_b277_b246 : b277 ≠ b246) (g_b246 : n0 ≤ b246) :
  Meets1 l ym28 prog_85_method_1_code 2 none ws ({ frames := 3, cells := 1, slots := 4, locals := 49 } : Room) #[(.ref b246), (.ref b247)] Z h0 (fun v h L => ∃ (b294 : Addr) (k294 : ClassId), v = none ∧ Fr n0 L ∧ Keep h0 h [b246] ∧ h0.size ≤ b294 ∧ Fld Z h b246 cSI "text" "Ljava/lang/String;" (.ref b247) ∧ Fld Z h b246 cSI "chars" "[C" (.ref b294) ∧ Fld Z h b246 cSI "limit" "I" (.int 4) ∧ Arv Z h b294 k294 .char (4 : Int32) [(.int (nar .char (((c0_.toInt8.toInt32) &&& (255 : Int32)).toUInt32.toUInt16.toUInt32.toInt32))), (.int (nar .char (((c1_.toInt8.toInt32) &&& (255 : Int32)).toUInt32.toUInt16.toUInt32.toInt32))), (.int (nar .char (((c2_.toInt8.toInt32) &&& (255 : Int32)).toUInt32.toUInt16.toUInt32.toInt32))), (.int (nar .char (((c3_.toInt8.toInt32) &&& (255 : Int32)).toUInt32.toUInt16.toUInt32.toInt32)))] (.int 0) ∧ Fld Z h b246 cSI "base" "I" (.int 0) ∧ Fld Z h b246 cSI "position" "I" (.int 0) ∧ Fld Z h b246 cSI "mark" "I" (.int 0) ∧ Fld Z h b246 cSI "ascii" "Z" (.int 0) ∧ Fld Z h b246 "com/example/ratatoskr/ratatoskr/core/internal/Input" "decoded" "Lcom/example/ratatoskr/ratatoskr/core/internal/DecodedChars;" .null) := by
 refine MetFree.of_bodySF (plainFor_of_name pn7) hisR ?_
 intro p e s m args below meth c s₁ Bd hml0 hP hK
 obtain ⟨rfl, hZ, hh⟩ := hP
 have hx := Bd.exec
 have hby := Bd.bytes
 have hml : c.maxLocals = 2 := hml0
 have hown : s.vm.findClass "com/example/ratatoskr/ratatoskr/core/internal/StringInput" = some m.cls := findClass_of_methodNamed Bd.named
 have hnm := (name_of_methodNamed Bd.named Bd.method).1
 have X0 : Stand p l e ({ frames := 3, cells := 1, slots := 4, locals := 49 } : Room) s m #[(.ref b246), (.ref b247)] below meth c s₁ [] 0 0 := Stand.of_body Bd
 have e0 : s₁.heap = h0 := by rw [← hh, Bd.state]; rfl
 have N0 := Fr.nil n0
 have Z0 := own_old_le O0
 show Ends _ _ _ _ s₁ (entryFrame m #[(.ref b246), (.ref b247)] 2) ({ frames := 3, cells := 1, slots := 4, locals := 49 } : Room).cells ({ frames := 3, cells := 1, slots := 4, locals := 49 } : Room).slots (fun v h L => ∃ (b294 : Addr) (k294 : ClassId), v = none ∧ Fr n0 L ∧ Keep h0 h [b246] ∧ h0.size ≤ b294 ∧ Fld Z h b246 cSI "text" "Ljava/lang/String;" (.ref b247) ∧ Fld Z h b246 cSI "chars" "[C" (.ref b294) ∧ Fld Z h b246 cSI "limit" "I" (.int 4) ∧ Arv Z h b294 k294 .char (4 : Int32) [(.int (nar .char (((c0_.toInt8.toInt32) &&& (255 : Int32)).toUInt32.toUInt16.toUInt32.toInt32))), (.int (nar .char (((c1_.toInt8.toInt32) &&& (255 : Int32)).toUInt32.toUInt16.toUInt32.toInt32))), (.int (nar .char (((c2_.toInt8.toInt32) &&& (255 : Int32)).toUInt32.toUInt16.toUInt32.toInt32))), (.int (nar .char (((c3_.toInt8.toInt32) &&& (255 : Int32)).toUInt32.toUInt16.toUInt32.toInt32)))] (.int 0) ∧ Fld Z h b246 cSI "base" "I" (.int 0) ∧ Fld Z h b246 cSI "position" "I" (.int 0) ∧ Fld Z h b246 cSI "mark" "I" (.int 0) ∧ Fld Z h b246 cSI "ascii" "Z" (.int 0) ∧ Fld Z h b246 "com/example/ratatoskr/ratatoskr/core/internal/Input" "decoded" "Lcom/example/ratatoskr/ratatoskr/core/internal/DecodedChars;" .null)
 refine Ends.go (fun _ k => castTop (ef7_rr m b246 b247) k) ?_
 obtain ⟨SCS, P5, SAD, SHI, SLO, SSF, RG3⟩ := id GF
 have K0 := Keep.refl h0 [b246]
 show Ends _ _ _ _ s₁ (mkF m 0 #[cr b246, cr b247] []) _ _ _
 refine walN X0 hx hby d7_0 rfl rfl ?_
 obtain ⟨_, _, ⟨T282, L282, k282, n282⟩, -, X282, ⟨Lc282, hQ282, l282, y282, z282⟩, st282⟩ := X0.specialBack hx (y := ym20) rfl hown (mvT hZ (ow hw 39 rfl)) (mvT hZ (ow hw 40 rfl)) (mvT hZ (ow hw 43 rfl)) (by decide) (own_backOf (W := 0) (rx8_280 l Z a0 hw [] n0 h0 O0  b246 ) hZ (ow hw 43 rfl) (ow hw 42 rfl) (by decide) (by decide)) (g := (mkF m 1 #[cr b246, cr b247] [(.ref b246)])) rfl (by rw [hml]; rfl) (Steps.refl _) (a := b246) (argsL := []) (rest := []) (lenOf pdx_4 rfl) rfl (by show 2 * 0 + _ ≤ _; exact Nat.le_of_eq rfl) (hb hby d7_1) (fun _ _ => ⟨rfl, e0, (by decide : 0 + 0 ≤ _), (by decide : 0 + 0 ≤ _)⟩)
 dsimp only [Pt.U, Pt.locs, Pt.cells, Pt.slots] at X282 l282 y282 z282 st282 hQ282
 subst l282 y282 z282
 obtain ⟨rfl, N282q, K282c⟩ := hQ282
 have N282 := Fr.app N0 N282q
 refine Ends.go (fun _ k => st282.trans k) ?_
 obtain ⟨h282, e282⟩ : ∃ z, T282.heap = z := ⟨_, rfl⟩
 rw [e282] at K282c
 have K282 := K0.trans K282c all0
 have O282 := O0.keep K282c all0
 refine walN X282 hx hby d7_4 rfl rfl ?_
 refine walN X282 hx hby d7_5 rfl rfl ?_
 show Ends _ _ _ _ T282 (mkF m 6 #[cr b246, cr b247] [(.ref b247), (.ref b246)]) _ _ _
 obtain ⟨T283, h283, X283, e283, W283, st283⟩ := putF X282 hx hZ hown (host := "") (Or.inl (ow hw 45 rfl)) Via.refl e282 (PF_b246_text.keep K282c nin0) (PE_b246.keep K282c) (Or.inr ⟨(ow hw 46 rfl), rfl, hnm⟩) (ow hw 5 rfl) (ty := (.object "java/lang/String")) (by decide) rfl rfl (g := (mkF m 6 #[cr b246, cr b247] [(.ref b247), (.ref b246)])) rfl rfl (hb hby d7_6)
 refine Ends.go st283 ?_
 have Fw283 := (PF_b246_text.keep K282c nin0).same W283
 have K283 := K282.wr W283 (Or.inl (List.mem_of_getElem? (i := 0) rfl))
 have O283 := O282.wr W283 g_b246
 have N283 := Fr.snoc X283 N282 g_b246
 refine walN X283 hx hby d7_9 rfl rfl ?_
 refine walN X283 hx hby d7_10 rfl rfl ?_
 obtain ⟨cq291, kq291, q291a, q291b, q291c⟩ := isOf hZ e283 ((PE_b247.keep K282c).wr W283)
 obtain ⟨_, _, ⟨T291, L291, k291, n291⟩, -, X291, ⟨Lc291, hQ291, l291, y291, z291⟩, st291⟩ := X283.virtualBack hx (y := ym22) (z := ym22) hown (mvT hZ (ow hw 47 rfl)) (mvT hZ (ow hw 48 rfl)) (notFace_of_selects (args := #[]) (mvT hZ (ow hw 50 rfl))) (mvT hZ (ow hw 50 rfl)) (mvT hZ (ow hw 49 rfl)) (by decide) (own_backOf (W := 1) (rx9_284 l Z a0 hw [] n0 h283 O283 G1 G3 GF b247 b277 k278 c0_ c1_ c2_ c3_ ((PF_b247_value.keep K282c nin0).other W283 (Or.inl ne_b247_b246)) ((PV_b277.keep K282c nin0).other W283 ne_b277_b246) ((PF_b247_coder.keep K282c nin0).other W283 (Or.inl ne_b247_b246)) ((PE_b247.keep K282c).wr W283)) hZ (ow hw 51 rfl) (ow hw 9 rfl) (by decide) (by decide)) q291a q291c (g := (mkF m 11 #[cr b246, cr b247] [(.ref b247), (.ref b246)])) rfl (by rw [hml]; rfl) (Steps.refl _) (argsL := []) (rest := [(.ref b246)]) (lenOf pdx_12 rfl) rfl (by show 2 * 0 + _ ≤ _; exact Nat.le_of_eq rfl) (hb hby d7_11) (fun _ _ => ⟨rfl, e283, (by decide : 0 + 0 ≤ _), (by decide : 0 + 0 ≤ _)⟩)
 dsimp only [Pt.U, Pt.locs, Pt.cells, Pt.slots] at X291 l291 y291 z291 st291 hQ291
 subst l291 y291 z291
 obtain ⟨rfl, N291q, K291c⟩ := hQ291
 have N291 := Fr.app N283 N291q
 refine Ends.go (fun _ k => st291.trans k) ?_
 obtain ⟨h291, e291⟩ : ∃ z, T291.heap = z := ⟨_, rfl⟩
 rw [e291] at K291c
 have K291 := K283.trans K291c all0
 have O291 := O283.keep K291c all0
 refine wsp X291 hx hby d7_14 ?_
 show Ends _ _ _ _ T291 (mkF m 17 #[cr b246, cr b247] [(.int 8192), (.int 4), (.ref b246)]) _ _ _
 obtain ⟨_, _, ⟨T293, L293, k293, n293⟩, -, X293, ⟨Lc293, hQ293, l293, y293, z293⟩, st293⟩ := Jvm.LawKit.callS X291 hx (y := ym23) hown (mvT hZ (ow hw 57 rfl)) (mvT hZ (ow hw 58 rfl)) (mvT hZ (ow hw 59 rfl)) (mvT hZ (ow hw 60 rfl)) (by decide) (own_backOf (W := 1) (rx11_292 l Z a0 hw [] n0 h291 O291   ) hZ (ow hw 60 rfl) (ow hw 59 rfl) (by decide) (by decide)) (g := (mkF m 17 #[cr b246, cr b247] [(.int 8192), (.int 4), (.ref b246)])) rfl (by rw [hml]; rfl) (argsL := [(.int 4), (.int 8192)]) (rest := [(.ref b246)]) (lenOf pdx_13 rfl) rfl (by show 2 * 0 + _ ≤ _; exact Nat.le_of_eq rfl) (hb hby d7_17) (fun _ _ => ⟨rfl, e291, (by decide : 0 + 0 ≤ _), (by decide : 0 + 0 ≤ _)⟩)
 dsimp only [Pt.U, Pt.locs, Pt.cells, Pt.slots] at X293 l293 y293 z293 st293 hQ293
 subst l293 y293 z293
 obtain ⟨rfl, N293q, K293c⟩ := hQ293
 have N293 := Fr.app N291 N293q
 refine Ends.go st293 ?_
 obtain ⟨h293, e293⟩ : ∃ z, T293.heap = z := ⟨_, rfl⟩
 rw [e293] at K293c
 have K293 := K291.trans K293c all0
 have O293 := O291.keep K293c all0
 obtain ⟨T294, h294, k294, X294, e294, E294, A294, st294⟩ := newP X293 hx hZ (ow hw 0 rfl) e293 (g := (mkF m 20 #[cr b246, cr b247] [(.int 4), (.ref b246)])) rfl (hb hby d7_20) rfl (by decide) (cap := 4) (by decide) (by decide) (by decide) (by decide)
 obtain ⟨b294, g294⟩ : ∃ z, z = h293.size := ⟨_, rfl⟩
 rw [← g294] at A294 st294
 refine Ends.go st294 ?_
 have g_b294 : n0 ≤ b294 := Nat.le_trans (own_old_le O293) (Nat.le_of_eq g294.symm)
 have sz_b294 : h0.size ≤ b294 := Nat.le_trans K293.1 (Nat.le_of_eq g294.symm)
 have K294 := K293.ext E294
 have O294 := O293.ext E294
 have V_b294 : Arv Z h294 b294 k294 .char (4 : Int32) [(.int 0), (.int 0), (.int 0), (.int 0)] (.int 0) := (Arv.new A294 (by decide)).pad (pad_rep [] (.int 0) 4)
 obtain ⟨T295, h295, X295, e295, W295, st295⟩ := putF X294 hx hZ hown (host := "") (Or.inl (ow hw 61 rfl)) Via.refl e294 (((((PF_b246_chars.keep K282c nin0).other W283 (Or.inr (slot_ne (Or.inr (ow hw 62 rfl)) (Or.inr (ow hw 46 rfl)) (by decide) (t := (.array .char)) (t' := (.object "java/lang/String")) (by decide) (by decide)))).keep K291c nin0).keep K293c nin0).ext E294) (((((PE_b246.keep K282c).wr W283).keep K291c).keep K293c).ext E294) (Or.inr ⟨(ow hw 62 rfl), rfl, hnm⟩) (ow hw 5 rfl) (ty := (.array .char)) (by decide) rfl rfl (g := (mkF m 22 #[cr b246, cr b247] [(.ref b294), (.ref b246)])) rfl rfl (hb hby d7_22)
 refine Ends.go st295 ?_
 have Fw295 := (((((PF_b246_chars.keep K282c nin0).other W283 (Or.inr (slot_ne (Or.inr (ow hw 62 rfl)) (Or.inr (ow hw 46 rfl)) (by decide) (t := (.array .char)) (t' := (.object "java/lang/String")) (by decide) (by decide)))).keep K291c nin0).keep K293c nin0).ext E294).same W295
 have K295 := K294.wr W295 (Or.inl (List.mem_of_getElem? (i := 0) rfl))
 have O295 := O294.wr W295 g_b246
 have N295 := Fr.snoc X295 N293 g_b246
 refine walN X295 hx hby d7_25 rfl rfl ?_
 refine walN X295 hx hby d7_26 rfl rfl ?_
 show Ends _ _ _ _ T295 (mkF m 27 #[cr b246, cr b247] [(.ref b246), (.ref b246)]) _ _ _
 obtain ⟨T296, X296, e296, st296⟩ := getF X295 hx hZ hown (host := "") (Or.inl (ow hw 61 rfl)) Via.refl e295 Fw295 (g := (mkF m 27 #[cr b246, cr b247] [(.ref b246), (.ref b246)])) rfl rfl (hb hby d7_27)
 refine Ends.go st296 ?_
 obtain ⟨cl297, Ar297, q297, S297, M297, H297, G297⟩ := id (V_b294.other W295 (Ne.symm (Nat.ne_of_lt (Nat.lt_of_lt_of_le PE_b246.lt sz_b294))))
 refine Ends.go (X296.arraylength hx (by rw [e296]; exact Ar297.1) (State.isArrayOf_alike hZ.alike Ar297.2.1) (g := (mkF m 30 #[cr b246, cr b247] [(.ref b294), (.ref b246)])) rfl rfl (hb hby d7_30)) ?_
 rw [len_of S297 M297]
 obtain ⟨T298, h298, X298, e298, W298, st298⟩ := putF X296 hx hZ hown (host := "") (Or.inl (ow hw 63 rfl)) Via.refl e296 ((((((PF_b246_limit.keep K282c nin0).other W283 (Or.inr (slot_ne (Or.inl (ow hw 64 rfl)) (Or.inr (ow hw 46 rfl)) (by decide) (t := .int) (t' := (.object "java/lang/String")) (by decide) (by decide)))).keep K291c nin0).keep K293c nin0).ext E294).other W295 (Or.inr (slot_ne (Or.inl (ow hw 64 rfl)) (Or.inr (ow hw 62 rfl)) (by decide) (t := .int) (t' := (.array .char)) (by decide) (by decide)))) ((((((PE_b246.keep K282c).wr W283).keep K291c).keep K293c).ext E294).wr W295) (Or.inl (ow hw 64 rfl)) (ow hw 5 rfl) (ty := .int) (by decide) rfl rfl (g := (mkF m 31 #[cr b246, cr b247] [(.int 4), (.ref b246)])) rfl rfl (hb hby d7_31)
 refine Ends.go st298 ?_
 have Fw298 := ((((((PF_b246_limit.keep K282c nin0).other W283 (Or.inr (slot_ne (Or.inl (ow hw 64 rfl)) (Or.inr (ow hw 46 rfl)) (by decide) (t := .int) (t' := (.object "java/lang/String")) (by decide) (by decide)))).keep K291c nin0).keep K293c nin0).ext E294).other W295 (Or.inr (slot_ne (Or.inl (ow hw 64 rfl)) (Or.inr (ow hw 62 rfl)) (by decide) (t := .int) (t' := (.array .char)) (by decide) (by decide)))).same W298
 have K298 := K295.wr W298 (Or.inl (List.mem_of_getElem? (i := 0) rfl))
 have O298 := O295.wr W298 g_b246
 have N298 := Fr.snoc X298 N295 g_b246
 refine walN X298 hx hby d7_34 rfl rfl ?_
 refine wic X298 hx hby d7_35 ?_
 show Ends _ _ _ _ T298 (mkF m 36 #[cr b246, cr b247] [(.int 0), (.ref b247)]) _ _ _
 refine walN X298 hx hby d7_36 rfl rfl ?_
 obtain ⟨T299, X299, e299, st299⟩ := getF X298 hx hZ hown (host := "") (Or.inl (ow hw 63 rfl)) Via.refl e298 Fw298 (g := (mkF m 37 #[cr b246, cr b247] [(.ref b246), (.int 0), (.ref b247)])) rfl rfl (hb hby d7_37)
 refine Ends.go st299 ?_
 refine walN X299 hx hby d7_40 rfl rfl ?_
 obtain ⟨T300, X300, e300, st300⟩ := getF X299 hx hZ hown (host := "") (Or.inl (ow hw 61 rfl)) Via.refl e299 (Fw295.other W298 (Or.inr (slot_ne (Or.inr (ow hw 62 rfl)) (Or.inl (ow hw 64 rfl)) (by decide) (t := (.array .char)) (t' := .int) (by decide) (by decide)))) (g := (mkF m 41 #[cr b246, cr b247] [(.ref b246), (.int 4), (.int 0), (.ref b247)])) rfl rfl (hb hby d7_41)
 refine Ends.go st300 ?_
 refine wic X300 hx hby d7_44 ?_
 show Ends _ _ _ _ T300 (mkF m 45 #[cr b246, cr b247] [(.int 0), (.ref b294), (.int 4), (.int 0), (.ref b247)]) _ _ _
 obtain ⟨cq323, kq323, q323a, q323b, q323c⟩ := isOf hZ e300 (((((((PE_b247.keep K282c).wr W283).keep K291c).keep K293c).ext E294).wr W295).wr W298)
 obtain ⟨_, _, ⟨T323, L323, k323, n323⟩, -, X323, ⟨Lc323, hQ323, l323, y323, z323⟩, st323⟩ := X300.virtualBack hx (y := ym27) (z := ym27) hown (mvT hZ (ow hw 65 rfl)) (mvT hZ (ow hw 66 rfl)) (notFace_of_selects (args := #[]) (mvT hZ (ow hw 68 rfl))) (mvT hZ (ow hw 68 rfl)) (mvT hZ (ow hw 67 rfl)) (by decide) (own_backOf (W := 0) (rx12_301 l Z a0 hw [] n0 h298 O298 G1 G3 GF b247 b294 b277 k278 c0_ c1_ c2_ c3_ k294 (((((((PF_b247_value.keep K282c nin0).other W283 (Or.inl ne_b247_b246)).keep K291c nin0).keep K293c nin0).ext E294).other W295 (Or.inl ne_b247_b246)).other W298 (Or.inl ne_b247_b246)) (((((((PV_b277.keep K282c nin0).other W283 ne_b277_b246).keep K291c nin0).keep K293c nin0).ext E294).other W295 ne_b277_b246).other W298 ne_b277_b246) (((((((PF_b247_coder.keep K282c nin0).other W283 (Or.inl ne_b247_b246)).keep K291c nin0).keep K293c nin0).ext E294).other W295 (Or.inl ne_b247_b246)).other W298 (Or.inl ne_b247_b246)) (((((((PE_b247.keep K282c).wr W283).keep K291c).keep K293c).ext E294).wr W295).wr W298) ((V_b294.other W295 (Ne.symm (Nat.ne_of_lt (Nat.lt_of_lt_of_le PE_b246.lt sz_b294)))).other W298 (Ne.symm (Nat.ne_of_lt (Nat.lt_of_lt_of_le PE_b246.lt sz_b294)))) (Nat.ne_of_lt (Nat.lt_of_lt_of_le PV_b277.lt sz_b294)) g_b294) hZ (ow hw 69 rfl) (ow hw 9 rfl) (by decide) (by decide)) q323a q323c (g := (mkF m 45 #[cr b246, cr b247] [(.int 0), (.ref b294), (.int 4), (.int 0), (.ref b247)])) rfl (by rw [hml]; rfl) (Steps.refl _) (argsL := [(.int 0), (.int 4), (.ref b294), (.int 0)]) (rest := []) (lenOf pdx_18 rfl) rfl (by show 2 * 0 + _ ≤ _; exact Nat.le_of_eq rfl) (hb hby d7_45) (fun _ _ => ⟨rfl, e300, (by decide : 1 + 0 ≤ _), (by decide : 4 + 0 ≤ _)⟩)
 dsimp only [Pt.U, Pt.locs, Pt.cells, Pt.slots] at X323 l323 y323 z323 st323 hQ323
 subst l323 y323 z323
 obtain ⟨rfl, N323q, K323c, Y323_0⟩ := hQ323
 have N323 := Fr.app N298 N323q
 refine Ends.go (fun _ k => st323.trans k) ?_
 obtain ⟨h323, e323⟩ : ∃ z, T323.heap = z := ⟨_, rfl⟩
 rw [e323] at K323c Y323_0
 have K323 := K298.trans K323c (allS (Or.inr sz_b294) all0)
 have O323 := O298.keep K323c (allS g_b294 all0)
 refine Ends.retV X323 hx Bd.notSynchronized Bd.returns (hb hby d7_48) (by decide) (by decide) ?_
 rw [e323]
 exact ⟨b294, k294, rfl, N323, K323, sz_b294, ((((((Fw283.keep K291c nin0).keep K293c nin0).ext E294).other W295 (Or.inr (slot_ne (Or.inr (ow hw 46 rfl)) (Or.inr (ow hw 62 rfl)) (by decide) (t := (.object "java/lang/String")) (t' := (.array .char)) (by decide) (by decide)))).other W298 (Or.inr (slot_ne (Or.inr (ow hw 46 rfl)) (Or.inl (ow hw 64 rfl)) (by decide) (t := (.object "java/lang/String")) (t' := .int) (by decide) (by decide)))).keep K323c (ninS (Nat.ne_of_lt (Nat.lt_of_lt_of_le PE_b246.lt sz_b294)) nin0)), ((Fw295.other W298 (Or.inr (slot_ne (Or.inr (ow hw 62 rfl)) (Or.inl (ow hw 64 rfl)) (by decide) (t := (.array .char)) (t' := .int) (by decide) (by decide)))).keep K323c (ninS (Nat.ne_of_lt (Nat.lt_of_lt_of_le PE_b246.lt sz_b294)) nin0)), (Fw298.keep K323c (ninS (Nat.ne_of_lt (Nat.lt_of_lt_of_le PE_b246.lt sz_b294)) nin0)), Y323_0, ((((((((PF_b246_base.keep K282c nin0).other W283 (Or.inr (slot_ne (Or.inl (ow hw 103 rfl)) (Or.inr (ow hw 46 rfl)) (by decide) (t := .int) (t' := (.object "java/lang/String")) (by decide) (by decide)))).keep K291c nin0).keep K293c nin0).ext E294).other W295 (Or.inr (slot_ne (Or.inl (ow hw 103 rfl)) (Or.inr (ow hw 62 rfl)) (by decide) (t := .int) (t' := (.array .char)) (by decide) (by decide)))).other W298 (Or.inr (slot_ne (Or.inl (ow hw 103 rfl)) (Or.inl (ow hw 64 rfl)) (by decide) (t := .int) (t' := .int) (by decide) (by decide)))).keep K323c (ninS (Nat.ne_of_lt (Nat.lt_of_lt_of_le PE_b246.lt sz_b294)) nin0)), ((((((((PF_b246_position.keep K282c nin0).other W283 (Or.inr (slot_ne (Or.inl (ow hw 105 rfl)) (Or.inr (ow hw 46 rfl)) (by decide) (t := .int) (t' := (.object "java/lang/String")) (by decide) (by decide)))).keep K291c nin0).keep K293c nin0).ext E294).other W295 (Or.inr (slot_ne (Or.inl (ow hw 105 rfl)) (Or.inr (ow hw 62 rfl)) (by decide) (t := .int) (t' := (.array .char)) (by decide) (by decide)))).other W298 (Or.inr (slot_ne (Or.inl (ow hw 105 rfl)) (Or.inl (ow hw 64 rfl)) (by decide) (t := .int) (t' := .int) (by decide) (by decide)))).keep K323c (ninS (Nat.ne_of_lt (Nat.lt_of_lt_of_le PE_b246.lt sz_b294)) nin0)), ((((((((PF_b246_mark.keep K282c nin0).other W283 (Or.inr (slot_ne (Or.inl (ow hw 107 rfl)) (Or.inr (ow hw 46 rfl)) (by decide) (t := .int) (t' := (.object "java/lang/String")) (by decide) (by decide)))).keep K291c nin0).keep K293c nin0).ext E294).other W295 (Or.inr (slot_ne (Or.inl (ow hw 107 rfl)) (Or.inr (ow hw 62 rfl)) (by decide) (t := .int) (t' := (.array .char)) (by decide) (by decide)))).other W298 (Or.inr (slot_ne (Or.inl (ow hw 107 rfl)) (Or.inl (ow hw 64 rfl)) (by decide) (t := .int) (t' := .int) (by decide) (by decide)))).keep K323c (ninS (Nat.ne_of_lt (Nat.lt_of_lt_of_le PE_b246.lt sz_b294)) nin0)), ((((((((PF_b246_ascii.keep K282c nin0).other W283 (Or.inr (slot_ne (Or.inl (ow hw 109 rfl)) (Or.inr (ow hw 46 rfl)) (by decide) (t := .boolean) (t' := (.object "java/lang/String")) (by decide) (by decide)))).keep K291c nin0).keep K293c nin0).ext E294).other W295 (Or.inr (slot_ne (Or.inl (ow hw 109 rfl)) (Or.inr (ow hw 62 rfl)) (by decide) (t := .boolean) (t' := (.array .char)) (by decide) (by decide)))).other W298 (Or.inr (slot_ne (Or.inl (ow hw 109 rfl)) (Or.inl (ow hw 64 rfl)) (by decide) (t := .boolean) (t' := .int) (by decide) (by decide)))).keep K323c (ninS (Nat.ne_of_lt (Nat.lt_of_lt_of_le PE_b246.lt sz_b294)) nin0)), ((((((((PF_b246_decoded.keep K282c nin0).other W283 (Or.inr (slot_ne (Or.inl (ow hw 139 rfl)) (Or.inr (ow hw 46 rfl)) (by decide) (t := (.object "com/example/ratatoskr/ratatoskr/core/internal/DecodedChars")) (t' := (.object "java/lang/String")) (by decide) (by decide)))).keep K291c nin0).keep K293c nin0).ext E294).other W295 (Or.inr (slot_ne (Or.inl (ow hw 139 rfl)) (Or.inr (ow hw 62 rfl)) (by decide) (t := (.object "com/example/ratatoskr/ratatoskr/core/internal/DecodedChars")) (t' := (.array .char)) (by decide) (by decide)))).other W298 (Or.inr (slot_ne (Or.inl (ow hw 139 rfl)) (Or.inl (ow hw 64 rfl)) (by decide) (t := (.object "com/example/ratatoskr/ratatoskr/core/internal/DecodedChars")) (t' := .int) (by decide) (by decide)))).keep K323c (ninS (Nat.ne_of_lt (Nat.lt_of_lt_of_le PE_b246.lt sz_b294)) nin0))⟩

theorem d30_0 : decode jdk_52_method_3_code 0 = .ok (.iload_n 0, 1) := by decide +kernel
theorem d30_1 : decode jdk_52_method_3_code 1 = .ok (.ifCond .ge 11, 3) := by decide +kernel
theorem d30_12 : decode jdk_52_method_3_code 12 = .ok (.iload_n 0, 1) := by decide +kernel
theorem d30_13 : decode jdk_52_method_3_code 13 = .ok (.ldc 20, 2) := by decide +kernel
theorem d30_15 : decode jdk_52_method_3_code 15 = .ok (.if_icmp .lt 40, 3) := by decide +kernel
theorem d30_55 : decode jdk_52_method_3_code 55 = .ok (.iload_n 0, 1) := by decide +kernel
theorem d30_56 : decode jdk_52_method_3_code 56 = .ok (.iconst 1, 1) := by decide +kernel
theorem d30_57 : decode jdk_52_method_3_code 57 = .ok (.ishl, 1) := by decide +kernel
theorem d30_58 : decode jdk_52_method_3_code 58 = .ok (.ireturn, 1) := by decide +kernel
theorem pn30 : plainName "java/lang/StringUTF16" = true := by first | (simp [plainName, overriddenIn]; done) | decide +kernel
theorem pdx_19 : parseMethodDescriptor "(Ljava/lang/String;)V" = some ⟨[(.object "java/lang/String")], none⟩ := by decide +kernel
theorem ef30_i (m : MethodId) (x0 : Int32) : entryFrame m #[(.int x0)] 1 = mkF m 0 #[.val (.int x0)] [] := by first | (simp [entryFrame, mkF, argsToLocals, Value.category]; done) | rfl
set_option maxRecDepth 65536 in
set_option maxHeartbeats 40000000 in
theorem rx30_338 (l : Launch) (Z : State) (a0 : Array Value) (hw : ∀ d ∈ tables_1, d.before a0 Z = true) (ws : List Jvm.Cond) (n0 : Nat) (h0 : Heap) (O0 : Old Z n0 h0)    :
  Meets1 l ym29 jdk_52_method_3_code 1 (some .int) ws ({ frames := 0, cells := 0, slots := 0, locals := 0 } : Room) #[(.int 4)] Z h0 (fun v h L => v = some (.int 8) ∧ Fr n0 L ∧ Keep h0 h []) := by
 refine MetFree.of_bodySF (plainFor_of_name pn30) hisR ?_
 intro p e s m args below meth c s₁ Bd hml0 hP hK
 obtain ⟨rfl, hZ, hh⟩ := hP
 have hx := Bd.exec
 have hby := Bd.bytes
 have hml : c.maxLocals = 1 := hml0
 have hown : s.vm.findClass "java/lang/StringUTF16" = some m.cls := findClass_of_methodNamed Bd.named
 have hnm := (name_of_methodNamed Bd.named Bd.method).1
 have X0 : Stand p l e ({ frames := 0, cells := 0, slots := 0, locals := 0 } : Room) s m #[(.int 4)] below meth c s₁ [] 0 0 := Stand.of_body Bd
 have e0 : s₁.heap = h0 := by rw [← hh, Bd.state]; rfl
 have N0 := Fr.nil n0
 have Z0 := own_old_le O0
 show Ends _ _ _ _ s₁ (entryFrame m #[(.int 4)] 1) ({ frames := 0, cells := 0, slots := 0, locals := 0 } : Room).cells ({ frames := 0, cells := 0, slots := 0, locals := 0 } : Room).slots (fun v h L => v = some (.int 8) ∧ Fr n0 L ∧ Keep h0 h [])
 refine Ends.go (fun _ k => castTop (ef30_i m (4 : Int32)) k) ?_
 have K0 := Keep.refl h0 []
 show Ends _ _ _ _ s₁ (mkF m 0 #[ci 4] []) _ _ _
 refine wilN X0 hx hby d30_0 rfl ?_
 refine wiy (pc := 1) (pc' := 12) X0 hx hby d30_1 ((if0 _ _).trans (flt (by decide : ¬ ((4 : Int32) < (0 : Int32)))).2.1) (by decide) (by decide) ?_
 refine wilN X0 hx hby d30_12 rfl ?_
 refine Ends.go (X0.ldcInt hx hown (mvT hZ (ow hw 154 rfl)) (g := (mkF m 13 #[ci 4] [(.int 4)])) rfl (hb hby d30_13)) ?_
 show Ends _ _ _ _ s₁ (mkF m 15 #[ci 4] [(.int 1073741823), (.int 4)]) _ _ _
 refine wcy (pc := 15) (pc' := 55) X0 hx hby d30_15 (tlt (by decide : (4 : Int32) < (1073741823 : Int32))).1 (by decide) (by decide) ?_
 refine wilN X0 hx hby d30_55 rfl ?_
 refine wic X0 hx hby d30_56 ?_
 refine .go (fun _ => XS.ishl X0.here hx rfl (hb hby d30_57) rfl) ?_
 refine Ends.ret X0 hx Bd.notSynchronized (t := .int) Bd.returns rfl (Or.inl ⟨rfl, by simp, _, rfl⟩) (hb hby d30_58) (by decide) (by decide) ?_
 rw [e0]
 exact ⟨rfl, N0, K0⟩

theorem d29_0 : decode jdk_52_method_2_code 0 = .ok (.iload_n 0, 1) := by decide +kernel
theorem d29_1 : decode jdk_52_method_2_code 1 = .ok (.invokestatic 11, 3) := by decide +kernel
theorem d29_4 : decode jdk_52_method_2_code 4 = .ok (.newarray .byte, 2) := by decide +kernel
theorem d29_6 : decode jdk_52_method_2_code 6 = .ok (.areturn, 1) := by decide +kernel
theorem pn29 : plainName "java/lang/StringUTF16" = true := by first | (simp [plainName, overriddenIn]; done) | decide +kernel
theorem pdx_20 : parseMethodDescriptor "(I)I" = some ⟨[.int], some .int⟩ := by decide +kernel
theorem ef29_i (m : MethodId) (x0 : Int32) : entryFrame m #[(.int x0)] 1 = mkF m 0 #[.val (.int x0)] [] := by first | (simp [entryFrame, mkF, argsToLocals, Value.category]; done) | rfl
set_option maxRecDepth 65536 in
set_option maxHeartbeats 40000000 in
theorem rx29_337 (l : Launch) (Z : State) (a0 : Array Value) (hw : ∀ d ∈ tables_1, d.before a0 Z = true) (ws : List Jvm.Cond) (n0 : Nat) (h0 : Heap) (O0 : Old Z n0 h0)    :
  Meets1 l ym30 jdk_52_method_2_code 1 (some (.array .byte)) ws ({ frames := 1, cells := 1, slots := 8, locals := 12 } : Room) #[(.int 4)] Z h0 (fun v h L => ∃ (b340 : Addr) (k340 : ClassId), v = some (.ref b340) ∧ Fr n0 L ∧ Keep h0 h [] ∧ h0.size ≤ b340 ∧ Arv Z h b340 k340 .byte (8 : Int32) [(.int 0), (.int 0), (.int 0), (.int 0), (.int 0), (.int 0), (.int 0), (.int 0)] (.int 0)) := by
 refine MetFree.of_bodySF (plainFor_of_name pn29) hisR ?_
 intro p e s m args below meth c s₁ Bd hml0 hP hK
 obtain ⟨rfl, hZ, hh⟩ := hP
 have hx := Bd.exec
 have hby := Bd.bytes
 have hml : c.maxLocals = 1 := hml0
 have hown : s.vm.findClass "java/lang/StringUTF16" = some m.cls := findClass_of_methodNamed Bd.named
 have hnm := (name_of_methodNamed Bd.named Bd.method).1
 have X0 : Stand p l e ({ frames := 1, cells := 1, slots := 8, locals := 12 } : Room) s m #[(.int 4)] below meth c s₁ [] 0 0 := Stand.of_body Bd
 have e0 : s₁.heap = h0 := by rw [← hh, Bd.state]; rfl
 have N0 := Fr.nil n0
 have Z0 := own_old_le O0
 show Ends _ _ _ _ s₁ (entryFrame m #[(.int 4)] 1) ({ frames := 1, cells := 1, slots := 8, locals := 12 } : Room).cells ({ frames := 1, cells := 1, slots := 8, locals := 12 } : Room).slots (fun v h L => ∃ (b340 : Addr) (k340 : ClassId), v = some (.ref b340) ∧ Fr n0 L ∧ Keep h0 h [] ∧ h0.size ≤ b340 ∧ Arv Z h b340 k340 .byte (8 : Int32) [(.int 0), (.int 0), (.int 0), (.int 0), (.int 0), (.int 0), (.int 0), (.int 0)] (.int 0))
 refine Ends.go (fun _ k => castTop (ef29_i m (4 : Int32)) k) ?_
 have K0 := Keep.refl h0 []
 show Ends _ _ _ _ s₁ (mkF m 0 #[ci 4] []) _ _ _
 refine wilN X0 hx hby d29_0 rfl ?_
 obtain ⟨_, _, ⟨T339, L339, k339, n339⟩, -, X339, ⟨Lc339, hQ339, l339, y339, z339⟩, st339⟩ := Jvm.LawKit.callS X0 hx (y := ym29) hown (mvT hZ (ow hw 151 rfl)) (mvT hZ (ow hw 152 rfl)) (mvT hZ (ow hw 23 rfl)) (mvT hZ (ow hw 153 rfl)) (by decide) (own_backOf (W := 0) (rx30_338 l Z a0 hw [] n0 h0 O0   ) hZ (ow hw 153 rfl) (ow hw 23 rfl) (by decide) (by decide)) (g := (mkF m 1 #[ci 4] [(.int 4)])) rfl (by rw [hml]; rfl) (argsL := [(.int 4)]) (rest := []) (lenOf pdx_20 rfl) rfl (by show 2 * 0 + _ ≤ _; exact Nat.le_of_eq rfl) (hb hby d29_1) (fun _ _ => ⟨rfl, e0, (by decide : 0 + 0 ≤ _), (by decide : 0 + 0 ≤ _)⟩)
 dsimp only [Pt.U, Pt.locs, Pt.cells, Pt.slots] at X339 l339 y339 z339 st339 hQ339
 subst l339 y339 z339
 obtain ⟨rfl, N339q, K339c⟩ := hQ339
 have N339 := Fr.app N0 N339q
 refine Ends.go st339 ?_
 obtain ⟨h339, e339⟩ : ∃ z, T339.heap = z := ⟨_, rfl⟩
 rw [e339] at K339c
 have K339 := K0.trans K339c all0
 have O339 := O0.keep K339c all0
 obtain ⟨T340, h340, k340, X340, e340, E340, A340, st340⟩ := newP X339 hx hZ (ow hw 25 rfl) e339 (g := (mkF m 4 #[ci 4] [(.int 8)])) rfl (hb hby d29_4) rfl (by decide) (cap := 8) (by decide) (by decide) (by decide) (by decide)
 obtain ⟨b340, g340⟩ : ∃ z, z = h339.size := ⟨_, rfl⟩
 rw [← g340] at A340 st340
 refine Ends.go st340 ?_
 have g_b340 : n0 ≤ b340 := Nat.le_trans (own_old_le O339) (Nat.le_of_eq g340.symm)
 have sz_b340 : h0.size ≤ b340 := Nat.le_trans K339.1 (Nat.le_of_eq g340.symm)
 have K340 := K339.ext E340
 have O340 := O339.ext E340
 have V_b340 : Arv Z h340 b340 k340 .byte (8 : Int32) [(.int 0), (.int 0), (.int 0), (.int 0), (.int 0), (.int 0), (.int 0), (.int 0)] (.int 0) := (Arv.new A340 (by decide)).pad (pad_rep [] (.int 0) 8)
 refine Ends.ret X340 hx Bd.notSynchronized (t := (.array .byte)) Bd.returns rfl (Or.inr (Or.inr (Or.inr (Or.inr ⟨rfl, rfl, rfl⟩)))) (hb hby d29_6) (by decide) (by decide) ?_
 rw [e340]
 exact ⟨b340, k340, rfl, N339, K340, sz_b340, V_b340⟩

theorem d31_0 : decode jdk_52_method_4_code 0 = .ok (.getstatic 44, 3) := by decide +kernel
theorem d31_3 : decode jdk_52_method_4_code 3 = .ok (.ifCond .ne 25, 3) := by decide +kernel
theorem d31_28 : decode jdk_52_method_4_code 28 = .ok (.iload_n 1, 1) := by decide +kernel
theorem d31_29 : decode jdk_52_method_4_code 29 = .ok (.iconst 1, 1) := by decide +kernel
theorem d31_30 : decode jdk_52_method_4_code 30 = .ok (.ishl, 1) := by decide +kernel
theorem d31_31 : decode jdk_52_method_4_code 31 = .ok (.istore_n 1, 1) := by decide +kernel
theorem d31_32 : decode jdk_52_method_4_code 32 = .ok (.aload_n 0, 1) := by decide +kernel
theorem d31_33 : decode jdk_52_method_4_code 33 = .ok (.iload_n 1, 1) := by decide +kernel
theorem d31_34 : decode jdk_52_method_4_code 34 = .ok (.iinc 1 1, 3) := by decide +kernel
theorem d31_37 : decode jdk_52_method_4_code 37 = .ok (.iload_n 2, 1) := by decide +kernel
theorem d31_38 : decode jdk_52_method_4_code 38 = .ok (.getstatic 59, 3) := by decide +kernel
theorem d31_41 : decode jdk_52_method_4_code 41 = .ok (.ishr, 1) := by decide +kernel
theorem d31_42 : decode jdk_52_method_4_code 42 = .ok (.i2b, 1) := by decide +kernel
theorem d31_43 : decode jdk_52_method_4_code 43 = .ok (.bastore, 1) := by decide +kernel
theorem d31_44 : decode jdk_52_method_4_code 44 = .ok (.aload_n 0, 1) := by decide +kernel
theorem d31_45 : decode jdk_52_method_4_code 45 = .ok (.iload_n 1, 1) := by decide +kernel
theorem d31_46 : decode jdk_52_method_4_code 46 = .ok (.iload_n 2, 1) := by decide +kernel
theorem d31_47 : decode jdk_52_method_4_code 47 = .ok (.getstatic 63, 3) := by decide +kernel
theorem d31_50 : decode jdk_52_method_4_code 50 = .ok (.ishr, 1) := by decide +kernel
theorem d31_51 : decode jdk_52_method_4_code 51 = .ok (.i2b, 1) := by decide +kernel
theorem d31_52 : decode jdk_52_method_4_code 52 = .ok (.bastore, 1) := by decide +kernel
theorem d31_53 : decode jdk_52_method_4_code 53 = .ok (.return_, 1) := by decide +kernel
theorem pn31 : plainName "java/lang/StringUTF16" = true := by first | (simp [plainName, overriddenIn]; done) | decide +kernel
theorem pdx_21 : parseMethodDescriptor "(I)[B" = some ⟨[.int], some (.array .byte)⟩ := by decide +kernel
theorem ef31_rii (m : MethodId) (x0 : Addr) (x1 : Int32) (x2 : Int32) : entryFrame m #[(.ref x0), (.int x1), (.int x2)] 3 = mkF m 0 #[.val (.ref x0), .val (.int x1), .val (.int x2)] [] := by first | (simp [entryFrame, mkF, argsToLocals, Value.category]; done) | rfl
set_option maxRecDepth 65536 in
set_option maxHeartbeats 40000000 in
theorem rx31_345 (l : Launch) (Z : State) (a0 : Array Value) (hw : ∀ d ∈ tables_1, d.before a0 Z = true) (ws : List Jvm.Cond) (n0 : Nat) (h0 : Heap) (O0 : Old Z n0 h0) (G1 : Int32) (G3 : Value) (GF : GlobF Z G1 G3) (b342 : Addr) (c0_ : Int32) (k343 : ClassId) (PV_b342 : Arv Z h0 b342 k343 .byte (8 : Int32) [(.int 0), (.int 0), (.int 0), (.int 0), (.int 0), (.int 0), (.int 0), (.int 0)] (.int 0)) (g_b342 : n0 ≤ b342) :
  Meets1 l ym31 jdk_52_method_4_code 3 none ws ({ frames := 0, cells := 0, slots := 0, locals := 0 } : Room) #[(.ref b342), (.int 0), (.int c0_)] Z h0 (fun v h L => v = none ∧ Fr n0 L ∧ Keep h0 h [b342] ∧ Arv Z h b342 k343 .byte (8 : Int32) [(.int ((c0_ >>> ((0 : Int32) &&& 31)).toInt8.toInt32)), (.int ((c0_ >>> ((8 : Int32) &&& 31)).toInt8.toInt32)), (.int 0), (.int 0), (.int 0), (.int 0), (.int 0), (.int 0)] (.int 0)) := by
 refine MetFree.of_bodySF (plainFor_of_name pn31) hisR ?_
 intro p e s m args below meth c s₁ Bd hml0 hP hK
 obtain ⟨rfl, hZ, hh⟩ := hP
 have hx := Bd.exec
 have hby := Bd.bytes
 have hml : c.maxLocals = 3 := hml0
 have hown : s.vm.findClass "java/lang/StringUTF16" = some m.cls := findClass_of_methodNamed Bd.named
 have hnm := (name_of_methodNamed Bd.named Bd.method).1
 have X0 : Stand p l e ({ frames := 0, cells := 0, slots := 0, locals := 0 } : Room) s m #[(.ref b342), (.int 0), (.int c0_)] below meth c s₁ [] 0 0 := Stand.of_body Bd
 have e0 : s₁.heap = h0 := by rw [← hh, Bd.state]; rfl
 have N0 := Fr.nil n0
 have Z0 := own_old_le O0
 show Ends _ _ _ _ s₁ (entryFrame m #[(.ref b342), (.int 0), (.int c0_)] 3) ({ frames := 0, cells := 0, slots := 0, locals := 0 } : Room).cells ({ frames := 0, cells := 0, slots := 0, locals := 0 } : Room).slots (fun v h L => v = none ∧ Fr n0 L ∧ Keep h0 h [b342] ∧ Arv Z h b342 k343 .byte (8 : Int32) [(.int ((c0_ >>> ((0 : Int32) &&& 31)).toInt8.toInt32)), (.int ((c0_ >>> ((8 : Int32) &&& 31)).toInt8.toInt32)), (.int 0), (.int 0), (.int 0), (.int 0), (.int 0), (.int 0)] (.int 0))
 refine Ends.go (fun _ k => castTop (ef31_rii m b342 (0 : Int32) c0_) k) ?_
 obtain ⟨SCS, P5, SAD, SHI, SLO, SSF, RG3⟩ := id GF
 have K0 := Keep.refl h0 [b342]
 show Ends _ _ _ _ s₁ (mkF m 0 #[cr b342, ci 0, ci c0_] []) _ _ _
 obtain ⟨T346, X346, e346, st346⟩ := getS2 X0 hx hZ hown (host := "") (Or.inl (ow hw 158 rfl)) Via.refl e0 (SAD.ext O0.2) (g := (mkF m 0 #[cr b342, ci 0, ci c0_] [])) rfl (hb hby d31_0)
 refine Ends.go st346 ?_
 refine wiy (pc := 3) (pc' := 28) X346 hx hby d31_3 ((if0 _ _).trans (feq (by decide : ¬ ((1 : Int32) = (0 : Int32)))).2) (by decide) (by decide) ?_
 refine wilN X346 hx hby d31_28 rfl ?_
 refine wic X346 hx hby d31_29 ?_
 show Ends _ _ _ _ T346 (mkF m 30 #[cr b342, ci 0, ci c0_] [(.int 1), (.int 0)]) _ _ _
 refine .go (fun _ => XS.ishl X346.here hx rfl (hb hby d31_30) rfl) ?_
 refine wstN X346 hx hby d31_31 (l' := #[cr b342, ci 0, ci c0_]) rfl ?_
 refine walN X346 hx hby d31_32 rfl rfl ?_
 refine wilN X346 hx hby d31_33 rfl ?_
 refine wii X346 hx hby d31_34 (l' := #[cr b342, ci 1, ci c0_]) rfl rfl ?_
 show Ends _ _ _ _ T346 (mkF m 37 #[cr b342, ci 1, ci c0_] [(.int 0), (.ref b342)]) _ _ _
 refine wilN X346 hx hby d31_37 rfl ?_
 obtain ⟨T347, X347, e347, st347⟩ := getS2 X346 hx hZ hown (host := "") (Or.inl (ow hw 159 rfl)) Via.refl e346 (SHI.ext O0.2) (g := (mkF m 38 #[cr b342, ci 1, ci c0_] [(.int c0_), (.int 0), (.ref b342)])) rfl (hb hby d31_38)
 refine Ends.go st347 ?_
 refine .go (fun _ => XS.ishr X347.here hx rfl (hb hby d31_41) rfl) ?_
 refine .go (fun _ => XS.i2b X347.here hx rfl (hb hby d31_42) rfl) ?_
 obtain ⟨cl348, Ar348, q348, S348, M348, H348, G348⟩ := id PV_b342
 have hin348 := inb_of (j := (0 : Int32)) S348 ⟨by decide, by decide⟩
 obtain ⟨T348, h348, X348, e348, W348, st348⟩ := stB X347 hx hZ e347 Ar348 (j := (0 : Int32)) hin348 (g := (mkF m 43 #[cr b342, ci 1, ci c0_] [(.int ((c0_ >>> ((0 : Int32) &&& 31)).toInt8.toInt32)), (.int 0), (.ref b342)])) rfl rfl (hb hby d31_43)
 refine Ends.go st348 ?_
 have V348 : Arv Z h348 b342 k343 .byte (8 : Int32) [(.int (nar .byte ((c0_ >>> ((0 : Int32) &&& 31)).toInt8.toInt32))), (.int 0), (.int 0), (.int 0), (.int 0), (.int 0), (.int 0), (.int 0)] (.int 0) := Arv.set Ar348 q348 S348 M348 H348 G348 (fits_nar_byte _) W348 0 rfl (Nat.le_of_ble_eq_true rfl)
 rw [own_narb] at V348
 have K348 := K0.wr W348 (Or.inl (List.mem_of_getElem? (i := 0) rfl))
 have O348 := O0.wr W348 g_b342
 have N348 := Fr.snoc X348 N0 g_b342
 show Ends _ _ _ _ T348 (mkF m 44 #[cr b342, ci 1, ci c0_] []) _ _ _
 refine walN X348 hx hby d31_44 rfl rfl ?_
 refine wilN X348 hx hby d31_45 rfl ?_
 refine wilN X348 hx hby d31_46 rfl ?_
 obtain ⟨T349, X349, e349, st349⟩ := getS2 X348 hx hZ hown (host := "") (Or.inl (ow hw 160 rfl)) Via.refl e348 (SLO.ext O348.2) (g := (mkF m 47 #[cr b342, ci 1, ci c0_] [(.int c0_), (.int 1), (.ref b342)])) rfl (hb hby d31_47)
 refine Ends.go st349 ?_
 refine .go (fun _ => XS.ishr X349.here hx rfl (hb hby d31_50) rfl) ?_
 show Ends _ _ _ _ T349 (mkF m 51 #[cr b342, ci 1, ci c0_] [(.int (c0_ >>> ((8 : Int32) &&& 31))), (.int 1), (.ref b342)]) _ _ _
 refine .go (fun _ => XS.i2b X349.here hx rfl (hb hby d31_51) rfl) ?_
 obtain ⟨cl350, Ar350, q350, S350, M350, H350, G350⟩ := id V348
 have hin350 := inb_of (j := (1 : Int32)) S350 ⟨by decide, by decide⟩
 obtain ⟨T350, h350, X350, e350, W350, st350⟩ := stB X349 hx hZ e349 Ar350 (j := (1 : Int32)) hin350 (g := (mkF m 52 #[cr b342, ci 1, ci c0_] [(.int ((c0_ >>> ((8 : Int32) &&& 31)).toInt8.toInt32)), (.int 1), (.ref b342)])) rfl rfl (hb hby d31_52)
 refine Ends.go st350 ?_
 have V350 : Arv Z h350 b342 k343 .byte (8 : Int32) [(.int ((c0_ >>> ((0 : Int32) &&& 31)).toInt8.toInt32)), (.int (nar .byte ((c0_ >>> ((8 : Int32) &&& 31)).toInt8.toInt32))), (.int 0), (.int 0), (.int 0), (.int 0), (.int 0), (.int 0)] (.int 0) := Arv.set Ar350 q350 S350 M350 H350 G350 (fits_nar_byte _) W350 1 rfl (Nat.le_of_ble_eq_true rfl)
 rw [own_narb] at V350
 have K350 := K348.wr W350 (Or.inl (List.mem_of_getElem? (i := 0) rfl))
 have O350 := O348.wr W350 g_b342
 have N350 := Fr.snoc X350 N348 g_b342
 refine Ends.retV X350 hx Bd.notSynchronized Bd.returns (hb hby d31_53) (by decide) (by decide) ?_
 rw [e350]
 exact ⟨rfl, N350, K350, V350⟩

theorem pdx_22 : parseMethodDescriptor "([BII)V" = some ⟨[(.array .byte), .int, .int], none⟩ := by decide +kernel
set_option maxRecDepth 65536 in
set_option maxHeartbeats 40000000 in
theorem rx31_353 (l : Launch) (Z : State) (a0 : Array Value) (hw : ∀ d ∈ tables_1, d.before a0 Z = true) (ws : List Jvm.Cond) (n0 : Nat) (h0 : Heap) (O0 : Old Z n0 h0) (G1 : Int32) (G3 : Value) (GF : GlobF Z G1 G3) (b342 : Addr) (c1_ : Int32) (k343 : ClassId) (c0_ : Int32) (PV_b342 : Arv Z h0 b342 k343 .byte (8 : Int32) [(.int ((c0_ >>> ((0 : Int32) &&& 31)).toInt8.toInt32)), (.int ((c0_ >>> ((8 : Int32) &&& 31)).toInt8.toInt32)), (.int 0), (.int 0), (.int 0), (.int 0), (.int 0), (.int 0)] (.int 0)) (g_b342 : n0 ≤ b342) :
  Meets1 l ym31 jdk_52_method_4_code 3 none ws ({ frames := 0, cells := 0, slots := 0, locals := 0 } : Room) #[(.ref b342), (.int 1), (.int c1_)] Z h0 (fun v h L => v = none ∧ Fr n0 L ∧ Keep h0 h [b342] ∧ Arv Z h b342 k343 .byte (8 : Int32) [(.int ((c0_ >>> ((0 : Int32) &&& 31)).toInt8.toInt32)), (.int ((c0_ >>> ((8 : Int32) &&& 31)).toInt8.toInt32)), (.int ((c1_ >>> ((0 : Int32) &&& 31)).toInt8.toInt32)), (.int ((c1_ >>> ((8 : Int32) &&& 31)).toInt8.toInt32)), (.int 0), (.int 0), (.int 0), (.int 0)] (.int 0)) := by
 refine MetFree.of_bodySF (plainFor_of_name pn31) hisR ?_
 intro p e s m args below meth c s₁ Bd hml0 hP hK
 obtain ⟨rfl, hZ, hh⟩ := hP
 have hx := Bd.exec
 have hby := Bd.bytes
 have hml : c.maxLocals = 3 := hml0
 have hown : s.vm.findClass "java/lang/StringUTF16" = some m.cls := findClass_of_methodNamed Bd.named
 have hnm := (name_of_methodNamed Bd.named Bd.method).1
 have X0 : Stand p l e ({ frames := 0, cells := 0, slots := 0, locals := 0 } : Room) s m #[(.ref b342), (.int 1), (.int c1_)] below meth c s₁ [] 0 0 := Stand.of_body Bd
 have e0 : s₁.heap = h0 := by rw [← hh, Bd.state]; rfl
 have N0 := Fr.nil n0
 have Z0 := own_old_le O0
 show Ends _ _ _ _ s₁ (entryFrame m #[(.ref b342), (.int 1), (.int c1_)] 3) ({ frames := 0, cells := 0, slots := 0, locals := 0 } : Room).cells ({ frames := 0, cells := 0, slots := 0, locals := 0 } : Room).slots (fun v h L => v = none ∧ Fr n0 L ∧ Keep h0 h [b342] ∧ Arv Z h b342 k343 .byte (8 : Int32) [(.int ((c0_ >>> ((0 : Int32) &&& 31)).toInt8.toInt32)), (.int ((c0_ >>> ((8 : Int32) &&& 31)).toInt8.toInt32)), (.int ((c1_ >>> ((0 : Int32) &&& 31)).toInt8.toInt32)), (.int ((c1_ >>> ((8 : Int32) &&& 31)).toInt8.toInt32)), (.int 0), (.int 0), (.int 0), (.int 0)] (.int 0))
 refine Ends.go (fun _ k => castTop (ef31_rii m b342 (1 : Int32) c1_) k) ?_
 obtain ⟨SCS, P5, SAD, SHI, SLO, SSF, RG3⟩ := id GF
 have K0 := Keep.refl h0 [b342]
 show Ends _ _ _ _ s₁ (mkF m 0 #[cr b342, ci 1, ci c1_] []) _ _ _
 obtain ⟨T354, X354, e354, st354⟩ := getS2 X0 hx hZ hown (host := "") (Or.inl (ow hw 158 rfl)) Via.refl e0 (SAD.ext O0.2) (g := (mkF m 0 #[cr b342, ci 1, ci c1_] [])) rfl (hb hby d31_0)
 refine Ends.go st354 ?_
 refine wiy (pc := 3) (pc' := 28) X354 hx hby d31_3 ((if0 _ _).trans (feq (by decide : ¬ ((1 : Int32) = (0 : Int32)))).2) (by decide) (by decide) ?_
 refine wilN X354 hx hby d31_28 rfl ?_
 refine wic X354 hx hby d31_29 ?_
 show Ends _ _ _ _ T354 (mkF m 30 #[cr b342, ci 1, ci c1_] [(.int 1), (.int 1)]) _ _ _
 refine .go (fun _ => XS.ishl X354.here hx rfl (hb hby d31_30) rfl) ?_
 refine wstN X354 hx hby d31_31 (l' := #[cr b342, ci 2, ci c1_]) rfl ?_
 refine walN X354 hx hby d31_32 rfl rfl ?_
 refine wilN X354 hx hby d31_33 rfl ?_
 refine wii X354 hx hby d31_34 (l' := #[cr b342, ci 3, ci c1_]) rfl rfl ?_
 show Ends _ _ _ _ T354 (mkF m 37 #[cr b342, ci 3, ci c1_] [(.int 2), (.ref b342)]) _ _ _
 refine wilN X354 hx hby d31_37 rfl ?_
 obtain ⟨T355, X355, e355, st355⟩ := getS2 X354 hx hZ hown (host := "") (Or.inl (ow hw 159 rfl)) Via.refl e354 (SHI.ext O0.2) (g := (mkF m 38 #[cr b342, ci 3, ci c1_] [(.int c1_), (.int 2), (.ref b342)])) rfl (hb hby d31_38)
 refine Ends.go st355 ?_
 refine .go (fun _ => XS.ishr X355.here hx rfl (hb hby d31_41) rfl) ?_
 refine .go (fun _ => XS.i2b X355.here hx rfl (hb hby d31_42) rfl) ?_
 obtain ⟨cl356, Ar356, q356, S356, M356, H356, G356⟩ := id PV_b342
 have hin356 := inb_of (j := (2 : Int32)) S356 ⟨by decide, by decide⟩
 obtain ⟨T356, h356, X356, e356, W356, st356⟩ := stB X355 hx hZ e355 Ar356 (j := (2 : Int32)) hin356 (g := (mkF m 43 #[cr b342, ci 3, ci c1_] [(.int ((c1_ >>> ((0 : Int32) &&& 31)).toInt8.toInt32)), (.int 2), (.ref b342)])) rfl rfl (hb hby d31_43)
 refine Ends.go st356 ?_
 have V356 : Arv Z h356 b342 k343 .byte (8 : Int32) [(.int ((c0_ >>> ((0 : Int32) &&& 31)).toInt8.toInt32)), (.int ((c0_ >>> ((8 : Int32) &&& 31)).toInt8.toInt32)), (.int (nar .byte ((c1_ >>> ((0 : Int32) &&& 31)).toInt8.toInt32))), (.int 0), (.int 0), (.int 0), (.int 0), (.int 0)] (.int 0) := Arv.set Ar356 q356 S356 M356 H356 G356 (fits_nar_byte _) W356 2 rfl (Nat.le_of_ble_eq_true rfl)
 rw [own_narb] at V356
 have K356 := K0.wr W356 (Or.inl (List.mem_of_getElem? (i := 0) rfl))
 have O356 := O0.wr W356 g_b342
 have N356 := Fr.snoc X356 N0 g_b342
 show Ends _ _ _ _ T356 (mkF m 44 #[cr b342, ci 3, ci c1_] []) _ _ _
 refine walN X356 hx hby d31_44 rfl rfl ?_
 refine wilN X356 hx hby d31_45 rfl ?_
 refine wilN X356 hx hby d31_46 rfl ?_
 obtain ⟨T357, X357, e357, st357⟩ := getS2 X356 hx hZ hown (host := "") (Or.inl (ow hw 160 rfl)) Via.refl e356 (SLO.ext O356.2) (g := (mkF m 47 #[cr b342, ci 3, ci c1_] [(.int c1_), (.int 3), (.ref b342)])) rfl (hb hby d31_47)
 refine Ends.go st357 ?_
 refine .go (fun _ => XS.ishr X357.here hx rfl (hb hby d31_50) rfl) ?_
 show Ends _ _ _ _ T357 (mkF m 51 #[cr b342, ci 3, ci c1_] [(.int (c1_ >>> ((8 : Int32) &&& 31))), (.int 3), (.ref b342)]) _ _ _
 refine .go (fun _ => XS.i2b X357.here hx rfl (hb hby d31_51) rfl) ?_
 obtain ⟨cl358, Ar358, q358, S358, M358, H358, G358⟩ := id V356
 have hin358 := inb_of (j := (3 : Int32)) S358 ⟨by decide, by decide⟩
 obtain ⟨T358, h358, X358, e358, W358, st358⟩ := stB X357 hx hZ e357 Ar358 (j := (3 : Int32)) hin358 (g := (mkF m 52 #[cr b342, ci 3, ci c1_] [(.int ((c1_ >>> ((8 : Int32) &&& 31)).toInt8.toInt32)), (.int 3), (.ref b342)])) rfl rfl (hb hby d31_52)
 refine Ends.go st358 ?_
 have V358 : Arv Z h358 b342 k343 .byte (8 : Int32) [(.int ((c0_ >>> ((0 : Int32) &&& 31)).toInt8.toInt32)), (.int ((c0_ >>> ((8 : Int32) &&& 31)).toInt8.toInt32)), (.int ((c1_ >>> ((0 : Int32) &&& 31)).toInt8.toInt32)), (.int (nar .byte ((c1_ >>> ((8 : Int32) &&& 31)).toInt8.toInt32))), (.int 0), (.int 0), (.int 0), (.int 0)] (.int 0) := Arv.set Ar358 q358 S358 M358 H358 G358 (fits_nar_byte _) W358 3 rfl (Nat.le_of_ble_eq_true rfl)
 rw [own_narb] at V358
 have K358 := K356.wr W358 (Or.inl (List.mem_of_getElem? (i := 0) rfl))
 have O358 := O356.wr W358 g_b342
 have N358 := Fr.snoc X358 N356 g_b342
 refine Ends.retV X358 hx Bd.notSynchronized Bd.returns (hb hby d31_53) (by decide) (by decide) ?_
 rw [e358]
 exact ⟨rfl, N358, K358, V358⟩

set_option maxRecDepth 65536 in
set_option maxHeartbeats 40000000 in
theorem rx31_361 (l : Launch) (Z : State) (a0 : Array Value) (hw : ∀ d ∈ tables_1, d.before a0 Z = true) (ws : List Jvm.Cond) (n0 : Nat) (h0 : Heap) (O0 : Old Z n0 h0) (G1 : Int32) (G3 : Value) (GF : GlobF Z G1 G3) (b342 : Addr) (c2_ : Int32) (k343 : ClassId) (c0_ : Int32) (c1_ : Int32) (PV_b342 : Arv Z h0 b342 k343 .byte (8 : Int32) [(.int ((c0_ >>> ((0 : Int32) &&& 31)).toInt8.toInt32)), (.int ((c0_ >>> ((8 : Int32) &&& 31)).toInt8.toInt32)), (.int ((c1_ >>> ((0 : Int32) &&& 31)).toInt8.toInt32)), (.int ((c1_ >>> ((8 : Int32) &&& 31)).toInt8.toInt32)), (.int 0), (.int 0), (.int 0), (.int 0)] (.int 0)) (g_b342 : n0 ≤ b342) :
  Meets1 l ym31 jdk_52_method_4_code 3 none ws ({ frames := 0, cells := 0, slots := 0, locals := 0 } : Room) #[(.ref b342), (.int 2), (.int c2_)] Z h0 (fun v h L => v = none ∧ Fr n0 L ∧ Keep h0 h [b342] ∧ Arv Z h b342 k343 .byte (8 : Int32) [(.int ((c0_ >>> ((0 : Int32) &&& 31)).toInt8.toInt32)), (.int ((c0_ >>> ((8 : Int32) &&& 31)).toInt8.toInt32)), (.int ((c1_ >>> ((0 : Int32) &&& 31)).toInt8.toInt32)), (.int ((c1_ >>> ((8 : Int32) &&& 31)).toInt8.toInt32)), (.int ((c2_ >>> ((0 : Int32) &&& 31)).toInt8.toInt32)), (.int ((c2_ >>> ((8 : Int32) &&& 31)).toInt8.toInt32)), (.int 0), (.int 0)] (.int 0)) := by
 refine MetFree.of_bodySF (plainFor_of_name pn31) hisR ?_
 intro p e s m args below meth c s₁ Bd hml0 hP hK
 obtain ⟨rfl, hZ, hh⟩ := hP
 have hx := Bd.exec
 have hby := Bd.bytes
 have hml : c.maxLocals = 3 := hml0
 have hown : s.vm.findClass "java/lang/StringUTF16" = some m.cls := findClass_of_methodNamed Bd.named
 have hnm := (name_of_methodNamed Bd.named Bd.method).1
 have X0 : Stand p l e ({ frames := 0, cells := 0, slots := 0, locals := 0 } : Room) s m #[(.ref b342), (.int 2), (.int c2_)] below meth c s₁ [] 0 0 := Stand.of_body Bd
 have e0 : s₁.heap = h0 := by rw [← hh, Bd.state]; rfl
 have N0 := Fr.nil n0
 have Z0 := own_old_le O0
 show Ends _ _ _ _ s₁ (entryFrame m #[(.ref b342), (.int 2), (.int c2_)] 3) ({ frames := 0, cells := 0, slots := 0, locals := 0 } : Room).cells ({ frames := 0, cells := 0, slots := 0, locals := 0 } : Room).slots (fun v h L => v = none ∧ Fr n0 L ∧ Keep h0 h [b342] ∧ Arv Z h b342 k343 .byte (8 : Int32) [(.int ((c0_ >>> ((0 : Int32) &&& 31)).toInt8.toInt32)), (.int ((c0_ >>> ((8 : Int32) &&& 31)).toInt8.toInt32)), (.int ((c1_ >>> ((0 : Int32) &&& 31)).toInt8.toInt32)), (.int ((c1_ >>> ((8 : Int32) &&& 31)).toInt8.toInt32)), (.int ((c2_ >>> ((0 : Int32) &&& 31)).toInt8.toInt32)), (.int ((c2_ >>> ((8 : Int32) &&& 31)).toInt8.toInt32)), (.int 0), (.int 0)] (.int 0))
 refine Ends.go (fun _ k => castTop (ef31_rii m b342 (2 : Int32) c2_) k) ?_
 obtain ⟨SCS, P5, SAD, SHI, SLO, SSF, RG3⟩ := id GF
 have K0 := Keep.refl h0 [b342]
 show Ends _ _ _ _ s₁ (mkF m 0 #[cr b342, ci 2, ci c2_] []) _ _ _
 obtain ⟨T362, X362, e362, st362⟩ := getS2 X0 hx hZ hown (host := "") (Or.inl (ow hw 158 rfl)) Via.refl e0 (SAD.ext O0.2) (g := (mkF m 0 #[cr b342, ci 2, ci c2_] [])) rfl (hb hby d31_0)
 refine Ends.go st362 ?_
 refine wiy (pc := 3) (pc' := 28) X362 hx hby d31_3 ((if0 _ _).trans (feq (by decide : ¬ ((1 : Int32) = (0 : Int32)))).2) (by decide) (by decide) ?_
 refine wilN X362 hx hby d31_28 rfl ?_
 refine wic X362 hx hby d31_29 ?_
 show Ends _ _ _ _ T362 (mkF m 30 #[cr b342, ci 2, ci c2_] [(.int 1), (.int 2)]) _ _ _
 refine .go (fun _ => XS.ishl X362.here hx rfl (hb hby d31_30) rfl) ?_
 refine wstN X362 hx hby d31_31 (l' := #[cr b342, ci 4, ci c2_]) rfl ?_
 refine walN X362 hx hby d31_32 rfl rfl ?_
 refine wilN X362 hx hby d31_33 rfl ?_
 refine wii X362 hx hby d31_34 (l' := #[cr b342, ci 5, ci c2_]) rfl rfl ?_
 show Ends _ _ _ _ T362 (mkF m 37 #[cr b342, ci 5, ci c2_] [(.int 4), (.ref b342)]) _ _ _
 refine wilN X362 hx hby d31_37 rfl ?_
 obtain ⟨T363, X363, e363, st363⟩ := getS2 X362 hx hZ hown (host := "") (Or.inl (ow hw 159 rfl)) Via.refl e362 (SHI.ext O0.2) (g := (mkF m 38 #[cr b342, ci 5, ci c2_] [(.int c2_), (.int 4), (.ref b342)])) rfl (hb hby d31_38)
 refine Ends.go st363 ?_
 refine .go (fun _ => XS.ishr X363.here hx rfl (hb hby d31_41) rfl) ?_
 refine .go (fun _ => XS.i2b X363.here hx rfl (hb hby d31_42) rfl) ?_
 obtain ⟨cl364, Ar364, q364, S364, M364, H364, G364⟩ := id PV_b342
 have hin364 := inb_of (j := (4 : Int32)) S364 ⟨by decide, by decide⟩
 obtain ⟨T364, h364, X364, e364, W364, st364⟩ := stB X363 hx hZ e363 Ar364 (j := (4 : Int32)) hin364 (g := (mkF m 43 #[cr b342, ci 5, ci c2_] [(.int ((c2_ >>> ((0 : Int32) &&& 31)).toInt8.toInt32)), (.int 4), (.ref b342)])) rfl rfl (hb hby d31_43)
 refine Ends.go st364 ?_
 have V364 : Arv Z h364 b342 k343 .byte (8 : Int32) [(.int ((c0_ >>> ((0 : Int32) &&& 31)).toInt8.toInt32)), (.int ((c0_ >>> ((8 : Int32) &&& 31)).toInt8.toInt32)), (.int ((c1_ >>> ((0 : Int32) &&& 31)).toInt8.toInt32)), (.int ((c1_ >>> ((8 : Int32) &&& 31)).toInt8.toInt32)), (.int (nar .byte ((c2_ >>> ((0 : Int32) &&& 31)).toInt8.toInt32))), (.int 0), (.int 0), (.int 0)] (.int 0) := Arv.set Ar364 q364 S364 M364 H364 G364 (fits_nar_byte _) W364 4 rfl (Nat.le_of_ble_eq_true rfl)
 rw [own_narb] at V364
 have K364 := K0.wr W364 (Or.inl (List.mem_of_getElem? (i := 0) rfl))
 have O364 := O0.wr W364 g_b342
 have N364 := Fr.snoc X364 N0 g_b342
 show Ends _ _ _ _ T364 (mkF m 44 #[cr b342, ci 5, ci c2_] []) _ _ _
 refine walN X364 hx hby d31_44 rfl rfl ?_
 refine wilN X364 hx hby d31_45 rfl ?_
 refine wilN X364 hx hby d31_46 rfl ?_
 obtain ⟨T365, X365, e365, st365⟩ := getS2 X364 hx hZ hown (host := "") (Or.inl (ow hw 160 rfl)) Via.refl e364 (SLO.ext O364.2) (g := (mkF m 47 #[cr b342, ci 5, ci c2_] [(.int c2_), (.int 5), (.ref b342)])) rfl (hb hby d31_47)
 refine Ends.go st365 ?_
 refine .go (fun _ => XS.ishr X365.here hx rfl (hb hby d31_50) rfl) ?_
 show Ends _ _ _ _ T365 (mkF m 51 #[cr b342, ci 5, ci c2_] [(.int (c2_ >>> ((8 : Int32) &&& 31))), (.int 5), (.ref b342)]) _ _ _
 refine .go (fun _ => XS.i2b X365.here hx rfl (hb hby d31_51) rfl) ?_
 obtain ⟨cl366, Ar366, q366, S366, M366, H366, G366⟩ := id V364
 have hin366 := inb_of (j := (5 : Int32)) S366 ⟨by decide, by decide⟩
 obtain ⟨T366, h366, X366, e366, W366, st366⟩ := stB X365 hx hZ e365 Ar366 (j := (5 : Int32)) hin366 (g := (mkF m 52 #[cr b342, ci 5, ci c2_] [(.int ((c2_ >>> ((8 : Int32) &&& 31)).toInt8.toInt32)), (.int 5), (.ref b342)])) rfl rfl (hb hby d31_52)
 refine Ends.go st366 ?_
 have V366 : Arv Z h366 b342 k343 .byte (8 : Int32) [(.int ((c0_ >>> ((0 : Int32) &&& 31)).toInt8.toInt32)), (.int ((c0_ >>> ((8 : Int32) &&& 31)).toInt8.toInt32)), (.int ((c1_ >>> ((0 : Int32) &&& 31)).toInt8.toInt32)), (.int ((c1_ >>> ((8 : Int32) &&& 31)).toInt8.toInt32)), (.int ((c2_ >>> ((0 : Int32) &&& 31)).toInt8.toInt32)), (.int (nar .byte ((c2_ >>> ((8 : Int32) &&& 31)).toInt8.toInt32))), (.int 0), (.int 0)] (.int 0) := Arv.set Ar366 q366 S366 M366 H366 G366 (fits_nar_byte _) W366 5 rfl (Nat.le_of_ble_eq_true rfl)
 rw [own_narb] at V366
 have K366 := K364.wr W366 (Or.inl (List.mem_of_getElem? (i := 0) rfl))
 have O366 := O364.wr W366 g_b342
 have N366 := Fr.snoc X366 N364 g_b342
 refine Ends.retV X366 hx Bd.notSynchronized Bd.returns (hb hby d31_53) (by decide) (by decide) ?_
 rw [e366]
 exact ⟨rfl, N366, K366, V366⟩

set_option maxRecDepth 65536 in
set_option maxHeartbeats 40000000 in
theorem rx31_369 (l : Launch) (Z : State) (a0 : Array Value) (hw : ∀ d ∈ tables_1, d.before a0 Z = true) (ws : List Jvm.Cond) (n0 : Nat) (h0 : Heap) (O0 : Old Z n0 h0) (G1 : Int32) (G3 : Value) (GF : GlobF Z G1 G3) (b342 : Addr) (c3_ : Int32) (k343 : ClassId) (c0_ : Int32) (c1_ : Int32) (c2_ : Int32) (PV_b342 : Arv Z h0 b342 k343 .byte (8 : Int32) [(.int ((c0_ >>> ((0 : Int32) &&& 31)).toInt8.toInt32)), (.int ((c0_ >>> ((8 : Int32) &&& 31)).toInt8.toInt32)), (.int ((c1_ >>> ((0 : Int32) &&& 31)).toInt8.toInt32)), (.int ((c1_ >>> ((8 : Int32) &&& 31)).toInt8.toInt32)), (.int ((c2_ >>> ((0 : Int32) &&& 31)).toInt8.toInt32)), (.int ((c2_ >>> ((8 : Int32) &&& 31)).toInt8.toInt32)), (.int 0), (.int 0)] (.int 0)) (g_b342 : n0 ≤ b342) :
  Meets1 l ym31 jdk_52_method_4_code 3 none ws ({ frames := 0, cells := 0, slots := 0, locals := 0 } : Room) #[(.ref b342), (.int 3), (.int c3_)] Z h0 (fun v h L => v = none ∧ Fr n0 L ∧ Keep h0 h [b342] ∧ Arv Z h b342 k343 .byte (8 : Int32) [(.int ((c0_ >>> ((0 : Int32) &&& 31)).toInt8.toInt32)), (.int ((c0_ >>> ((8 : Int32) &&& 31)).toInt8.toInt32)), (.int ((c1_ >>> ((0 : Int32) &&& 31)).toInt8.toInt32)), (.int ((c1_ >>> ((8 : Int32) &&& 31)).toInt8.toInt32)), (.int ((c2_ >>> ((0 : Int32) &&& 31)).toInt8.toInt32)), (.int ((c2_ >>> ((8 : Int32) &&& 31)).toInt8.toInt32)), (.int ((c3_ >>> ((0 : Int32) &&& 31)).toInt8.toInt32)), (.int ((c3_ >>> ((8 : Int32) &&& 31)).toInt8.toInt32))] (.int 0)) := by
 refine MetFree.of_bodySF (plainFor_of_name pn31) hisR ?_
 intro p e s m args below meth c s₁ Bd hml0 hP hK
 obtain ⟨rfl, hZ, hh⟩ := hP
 have hx := Bd.exec
 have hby := Bd.bytes
 have hml : c.maxLocals = 3 := hml0
 have hown : s.vm.findClass "java/lang/StringUTF16" = some m.cls := findClass_of_methodNamed Bd.named
 have hnm := (name_of_methodNamed Bd.named Bd.method).1
 have X0 : Stand p l e ({ frames := 0, cells := 0, slots := 0, locals := 0 } : Room) s m #[(.ref b342), (.int 3), (.int c3_)] below meth c s₁ [] 0 0 := Stand.of_body Bd
 have e0 : s₁.heap = h0 := by rw [← hh, Bd.state]; rfl
 have N0 := Fr.nil n0
 have Z0 := own_old_le O0
 show Ends _ _ _ _ s₁ (entryFrame m #[(.ref b342), (.int 3), (.int c3_)] 3) ({ frames := 0, cells := 0, slots := 0, locals := 0 } : Room).cells ({ frames := 0, cells := 0, slots := 0, locals := 0 } : Room).slots (fun v h L => v = none ∧ Fr n0 L ∧ Keep h0 h [b342] ∧ Arv Z h b342 k343 .byte (8 : Int32) [(.int ((c0_ >>> ((0 : Int32) &&& 31)).toInt8.toInt32)), (.int ((c0_ >>> ((8 : Int32) &&& 31)).toInt8.toInt32)), (.int ((c1_ >>> ((0 : Int32) &&& 31)).toInt8.toInt32)), (.int ((c1_ >>> ((8 : Int32) &&& 31)).toInt8.toInt32)), (.int ((c2_ >>> ((0 : Int32) &&& 31)).toInt8.toInt32)), (.int ((c2_ >>> ((8 : Int32) &&& 31)).toInt8.toInt32)), (.int ((c3_ >>> ((0 : Int32) &&& 31)).toInt8.toInt32)), (.int ((c3_ >>> ((8 : Int32) &&& 31)).toInt8.toInt32))] (.int 0))
 refine Ends.go (fun _ k => castTop (ef31_rii m b342 (3 : Int32) c3_) k) ?_
 obtain ⟨SCS, P5, SAD, SHI, SLO, SSF, RG3⟩ := id GF
 have K0 := Keep.refl h0 [b342]
 show Ends _ _ _ _ s₁ (mkF m 0 #[cr b342, ci 3, ci c3_] []) _ _ _
 obtain ⟨T370, X370, e370, st370⟩ := getS2 X0 hx hZ hown (host := "") (Or.inl (ow hw 158 rfl)) Via.refl e0 (SAD.ext O0.2) (g := (mkF m 0 #[cr b342, ci 3, ci c3_] [])) rfl (hb hby d31_0)
 refine Ends.go st370 ?_
 refine wiy (pc := 3) (pc' := 28) X370 hx hby d31_3 ((if0 _ _).trans (feq (by decide : ¬ ((1 : Int32) = (0 : Int32)))).2) (by decide) (by decide) ?_
 refine wilN X370 hx hby d31_28 rfl ?_
 refine wic X370 hx hby d31_29 ?_
 show Ends _ _ _ _ T370 (mkF m 30 #[cr b342, ci 3, ci c3_] [(.int 1), (.int 3)]) _ _ _
 refine .go (fun _ => XS.ishl X370.here hx rfl (hb hby d31_30) rfl) ?_
 refine wstN X370 hx hby d31_31 (l' := #[cr b342, ci 6, ci c3_]) rfl ?_
 refine walN X370 hx hby d31_32 rfl rfl ?_
 refine wilN X370 hx hby d31_33 rfl ?_
 refine wii X370 hx hby d31_34 (l' := #[cr b342, ci 7, ci c3_]) rfl rfl ?_
 show Ends _ _ _ _ T370 (mkF m 37 #[cr b342, ci 7, ci c3_] [(.int 6), (.ref b342)]) _ _ _
 refine wilN X370 hx hby d31_37 rfl ?_
 obtain ⟨T371, X371, e371, st371⟩ := getS2 X370 hx hZ hown (host := "") (Or.inl (ow hw 159 rfl)) Via.refl e370 (SHI.ext O0.2) (g := (mkF m 38 #[cr b342, ci 7, ci c3_] [(.int c3_), (.int 6), (.ref b342)])) rfl (hb hby d31_38)
 refine Ends.go st371 ?_
 refine .go (fun _ => XS.ishr X371.here hx rfl (hb hby d31_41) rfl) ?_
 refine .go (fun _ => XS.i2b X371.here hx rfl (hb hby d31_42) rfl) ?_
 obtain ⟨cl372, Ar372, q372, S372, M372, H372, G372⟩ := id PV_b342
 have hin372 := inb_of (j := (6 : Int32)) S372 ⟨by decide, by decide⟩
 obtain ⟨T372, h372, X372, e372, W372, st372⟩ := stB X371 hx hZ e371 Ar372 (j := (6 : Int32)) hin372 (g := (mkF m 43 #[cr b342, ci 7, ci c3_] [(.int ((c3_ >>> ((0 : Int32) &&& 31)).toInt8.toInt32)), (.int 6), (.ref b342)])) rfl rfl (hb hby d31_43)
 refine Ends.go st372 ?_
 have V372 : Arv Z h372 b342 k343 .byte (8 : Int32) [(.int ((c0_ >>> ((0 : Int32) &&& 31)).toInt8.toInt32)), (.int ((c0_ >>> ((8 : Int32) &&& 31)).toInt8.toInt32)), (.int ((c1_ >>> ((0 : Int32) &&& 31)).toInt8.toInt32)), (.int ((c1_ >>> ((8 : Int32) &&& 31)).toInt8.toInt32)), (.int ((c2_ >>> ((0 : Int32) &&& 31)).toInt8.toInt32)), (.int ((c2_ >>> ((8 : Int32) &&& 31)).toInt8.toInt32)), (.int (nar .byte ((c3_ >>> ((0 : Int32) &&& 31)).toInt8.toInt32))), (.int 0)] (.int 0) := Arv.set Ar372 q372 S372 M372 H372 G372 (fits_nar_byte _) W372 6 rfl (Nat.le_of_ble_eq_true rfl)
 rw [own_narb] at V372
 have K372 := K0.wr W372 (Or.inl (List.mem_of_getElem? (i := 0) rfl))
 have O372 := O0.wr W372 g_b342
 have N372 := Fr.snoc X372 N0 g_b342
 show Ends _ _ _ _ T372 (mkF m 44 #[cr b342, ci 7, ci c3_] []) _ _ _
 refine walN X372 hx hby d31_44 rfl rfl ?_
 refine wilN X372 hx hby d31_45 rfl ?_
 refine wilN X372 hx hby d31_46 rfl ?_
 obtain ⟨T373, X373, e373, st373⟩ := getS2 X372 hx hZ hown (host := "") (Or.inl (ow hw 160 rfl)) Via.refl e372 (SLO.ext O372.2) (g := (mkF m 47 #[cr b342, ci 7, ci c3_] [(.int c3_), (.int 7), (.ref b342)])) rfl (hb hby d31_47)
 refine Ends.go st373 ?_
 refine .go (fun _ => XS.ishr X373.here hx rfl (hb hby d31_50) rfl) ?_
 show Ends _ _ _ _ T373 (mkF m 51 #[cr b342, ci 7, ci c3_] [(.int (c3_ >>> ((8 : Int32) &&& 31))), (.int 7), (.ref b342)]) _ _ _
 refine .go (fun _ => XS.i2b X373.here hx rfl (hb hby d31_51) rfl) ?_
 obtain ⟨cl374, Ar374, q374, S374, M374, H374, G374⟩ := id V372
 have hin374 := inb_of (j := (7 : Int32)) S374 ⟨by decide, by decide⟩
 obtain ⟨T374, h374, X374, e374, W374, st374⟩ := stB X373 hx hZ e373 Ar374 (j := (7 : Int32)) hin374 (g := (mkF m 52 #[cr b342, ci 7, ci c3_] [(.int ((c3_ >>> ((8 : Int32) &&& 31)).toInt8.toInt32)), (.int 7), (.ref b342)])) rfl rfl (hb hby d31_52)
 refine Ends.go st374 ?_
 have V374 : Arv Z h374 b342 k343 .byte (8 : Int32) [(.int ((c0_ >>> ((0 : Int32) &&& 31)).toInt8.toInt32)), (.int ((c0_ >>> ((8 : Int32) &&& 31)).toInt8.toInt32)), (.int ((c1_ >>> ((0 : Int32) &&& 31)).toInt8.toInt32)), (.int ((c1_ >>> ((8 : Int32) &&& 31)).toInt8.toInt32)), (.int ((c2_ >>> ((0 : Int32) &&& 31)).toInt8.toInt32)), (.int ((c2_ >>> ((8 : Int32) &&& 31)).toInt8.toInt32)), (.int ((c3_ >>> ((0 : Int32) &&& 31)).toInt8.toInt32)), (.int (nar .byte ((c3_ >>> ((8 : Int32) &&& 31)).toInt8.toInt32)))] (.int 0) := Arv.set Ar374 q374 S374 M374 H374 G374 (fits_nar_byte _) W374 7 rfl (Nat.le_of_ble_eq_true rfl)
 rw [own_narb] at V374
 have K374 := K372.wr W374 (Or.inl (List.mem_of_getElem? (i := 0) rfl))
 have O374 := O372.wr W374 g_b342
 have N374 := Fr.snoc X374 N372 g_b342
 refine Ends.retV X374 hx Bd.notSynchronized Bd.returns (hb hby d31_53) (by decide) (by decide) ?_
 rw [e374]
 exact ⟨rfl, N374, K374, V374⟩

theorem d28_0 : decode jdk_52_method_14_code 0 = .ok (.iload_n 2, 1) := by decide +kernel
theorem d28_1 : decode jdk_52_method_14_code 1 = .ok (.invokestatic 107, 3) := by decide +kernel
theorem d28_4 : decode jdk_52_method_14_code 4 = .ok (.astore_n 3, 1) := by decide +kernel
theorem d28_5 : decode jdk_52_method_14_code 5 = .ok (.iconst 0, 1) := by decide +kernel
theorem d28_6 : decode jdk_52_method_14_code 6 = .ok (.istore 4, 2) := by decide +kernel
theorem d28_8 : decode jdk_52_method_14_code 8 = .ok (.iload 4, 2) := by decide +kernel
theorem d28_10 : decode jdk_52_method_14_code 10 = .ok (.iload_n 2, 1) := by decide +kernel
theorem d28_11 : decode jdk_52_method_14_code 11 = .ok (.if_icmp .ge 21, 3) := by decide +kernel
theorem d28_14 : decode jdk_52_method_14_code 14 = .ok (.aload_n 3, 1) := by decide +kernel
theorem d28_15 : decode jdk_52_method_14_code 15 = .ok (.iload 4, 2) := by decide +kernel
theorem d28_17 : decode jdk_52_method_14_code 17 = .ok (.aload_n 0, 1) := by decide +kernel
theorem d28_18 : decode jdk_52_method_14_code 18 = .ok (.iload_n 1, 1) := by decide +kernel
theorem d28_19 : decode jdk_52_method_14_code 19 = .ok (.caload, 1) := by decide +kernel
theorem d28_20 : decode jdk_52_method_14_code 20 = .ok (.invokestatic 111, 3) := by decide +kernel
theorem d28_23 : decode jdk_52_method_14_code 23 = .ok (.iinc 1 1, 3) := by decide +kernel
theorem d28_26 : decode jdk_52_method_14_code 26 = .ok (.iinc 4 1, 3) := by decide +kernel
theorem d28_29 : decode jdk_52_method_14_code 29 = .ok (.goto (-21), 3) := by decide +kernel
theorem d28_32 : decode jdk_52_method_14_code 32 = .ok (.aload_n 3, 1) := by decide +kernel
theorem d28_33 : decode jdk_52_method_14_code 33 = .ok (.areturn, 1) := by decide +kernel
theorem pn28 : plainName "java/lang/StringUTF16" = true := by first | (simp [plainName, overriddenIn]; done) | decide +kernel
theorem ef28_rii (m : MethodId) (x0 : Addr) (x1 : Int32) (x2 : Int32) : entryFrame m #[(.ref x0), (.int x1), (.int x2)] 5 = mkF m 0 #[.val (.ref x0), .val (.int x1), .val (.int x2), .unset, .unset] [] := by first | (simp [entryFrame, mkF, argsToLocals, Value.category]; done) | rfl
set_option maxRecDepth 65536 in
set_option maxHeartbeats 40000000 in
theorem rx28_336 (l : Launch) (Z : State) (a0 : Array Value) (hw : ∀ d ∈ tables_1, d.before a0 Z = true) (ws : List Jvm.Cond) (n0 : Nat) (h0 : Heap) (O0 : Old Z n0 h0) (G1 : Int32) (G3 : Value) (GF : GlobF Z G1 G3) (x5 : Addr) (kx5 : ClassId) (c0_ : Int32) (c1_ : Int32) (c2_ : Int32) (c3_ : Int32) (PV_x5 : Arv Z h0 x5 kx5 .char (4 : Int32) [(.int c0_), (.int c1_), (.int c2_), (.int c3_)] (.int 0)) :
  Meets1 l ym32 jdk_52_method_14_code 5 (some (.array .byte)) ws ({ frames := 2, cells := 1, slots := 8, locals := 24 } : Room) #[(.ref x5), (.int 0), (.int 4)] Z h0 (fun v h L => ∃ (b342 : Addr) (k343 : ClassId), v = some (.ref b342) ∧ Fr n0 L ∧ Keep h0 h [] ∧ h0.size ≤ b342 ∧ Arv Z h b342 k343 .byte (8 : Int32) [(.int ((c0_ >>> ((0 : Int32) &&& 31)).toInt8.toInt32)), (.int ((c0_ >>> ((8 : Int32) &&& 31)).toInt8.toInt32)), (.int ((c1_ >>> ((0 : Int32) &&& 31)).toInt8.toInt32)), (.int ((c1_ >>> ((8 : Int32) &&& 31)).toInt8.toInt32)), (.int ((c2_ >>> ((0 : Int32) &&& 31)).toInt8.toInt32)), (.int ((c2_ >>> ((8 : Int32) &&& 31)).toInt8.toInt32)), (.int ((c3_ >>> ((0 : Int32) &&& 31)).toInt8.toInt32)), (.int ((c3_ >>> ((8 : Int32) &&& 31)).toInt8.toInt32))] (.int 0)) := by
 refine MetFree.of_bodySF (plainFor_of_name pn28) hisR ?_
 intro p e s m args below meth c s₁ Bd hml0 hP hK
 obtain ⟨rfl, hZ, hh⟩ := hP
 have hx := Bd.exec
 have hby := Bd.bytes
 have hml : c.maxLocals = 5 := hml0
 have hown : s.vm.findClass "java/lang/StringUTF16" = some m.cls := findClass_of_methodNamed Bd.named
 have hnm := (name_of_methodNamed Bd.named Bd.method).1
 have X0 : Stand p l e ({ frames := 2, cells := 1, slots := 8, locals := 24 } : Room) s m #[(.ref x5), (.int 0), (.int 4)] below meth c s₁ [] 0 0 := Stand.of_body Bd
 have e0 : s₁.heap = h0 := by rw [← hh, Bd.state]; rfl
 have N0 := Fr.nil n0
 have Z0 := own_old_le O0
 show Ends _ _ _ _ s₁ (entryFrame m #[(.ref x5), (.int 0), (.int 4)] 5) ({ frames := 2, cells := 1, slots := 8, locals := 24 } : Room).cells ({ frames := 2, cells := 1, slots := 8, locals := 24 } : Room).slots (fun v h L => ∃ (b342 : Addr) (k343 : ClassId), v = some (.ref b342) ∧ Fr n0 L ∧ Keep h0 h [] ∧ h0.size ≤ b342 ∧ Arv Z h b342 k343 .byte (8 : Int32) [(.int ((c0_ >>> ((0 : Int32) &&& 31)).toInt8.toInt32)), (.int ((c0_ >>> ((8 : Int32) &&& 31)).toInt8.toInt32)), (.int ((c1_ >>> ((0 : Int32) &&& 31)).toInt8.toInt32)), (.int ((c1_ >>> ((8 : Int32) &&& 31)).toInt8.toInt32)), (.int ((c2_ >>> ((0 : Int32) &&& 31)).toInt8.toInt32)), (.int ((c2_ >>> ((8 : Int32) &&& 31)).toInt8.toInt32)), (.int ((c3_ >>> ((0 : Int32) &&& 31)).toInt8.toInt32)), (.int ((c3_ >>> ((8 : Int32) &&& 31)).toInt8.toInt32))] (.int 0))
 refine Ends.go (fun _ k => castTop (ef28_rii m x5 (0 : Int32) (4 : Int32)) k) ?_
 obtain ⟨SCS, P5, SAD, SHI, SLO, SSF, RG3⟩ := id GF
 have K0 := Keep.refl h0 []
 show Ends _ _ _ _ s₁ (mkF m 0 #[cr x5, ci 0, ci 4, cu, cu] []) _ _ _
 refine wilN X0 hx hby d28_0 rfl ?_
 obtain ⟨_, _, ⟨T341, L341, k341, n341⟩, -, X341, ⟨Lc341, hQ341, l341, y341, z341⟩, st341⟩ := Jvm.LawKit.callS X0 hx (y := ym30) hown (mvT hZ (ow hw 148 rfl)) (mvT hZ (ow hw 149 rfl)) (mvT hZ (ow hw 23 rfl)) (mvT hZ (ow hw 150 rfl)) (by decide) (own_backOf (W := 0) (rx29_337 l Z a0 hw [] n0 h0 O0   ) hZ (ow hw 150 rfl) (ow hw 23 rfl) (by decide) (by decide)) (g := (mkF m 1 #[cr x5, ci 0, ci 4, cu, cu] [(.int 4)])) rfl (by rw [hml]; rfl) (argsL := [(.int 4)]) (rest := []) (lenOf pdx_21 rfl) rfl (by show 2 * 0 + _ ≤ _; exact Nat.le_of_eq rfl) (hb hby d28_1) (fun _ _ => ⟨rfl, e0, (by decide : 0 + 1 ≤ _), (by decide : 0 + 8 ≤ _)⟩)
 dsimp only [Pt.U, Pt.locs, Pt.cells, Pt.slots] at X341 l341 y341 z341 st341 hQ341
 subst l341 y341 z341
 obtain ⟨b342, k343, rfl, N341q, K341c, hb341_b342, Y341_0⟩ := hQ341
 have N341 := Fr.app N0 N341q
 refine Ends.go st341 ?_
 have g_b342 : n0 ≤ b342 := Nat.le_trans (own_old_le O0) hb341_b342
 have sz_b342 : h0.size ≤ b342 := Nat.le_trans K0.1 hb341_b342
 obtain ⟨h341, e341⟩ : ∃ z, T341.heap = z := ⟨_, rfl⟩
 rw [e341] at K341c Y341_0
 have K341 := K0.trans K341c all0
 have O341 := O0.keep K341c all0
 refine wasN X341 hx hby d28_4 (l' := #[cr x5, ci 0, ci 4, cr b342, cu]) rfl rfl ?_
 refine wic X341 hx hby d28_5 ?_
 show Ends _ _ _ _ T341 (mkF m 6 #[cr x5, ci 0, ci 4, cr b342, cu] [(.int 0)]) _ _ _
 refine wst X341 hx hby d28_6 (l' := #[cr x5, ci 0, ci 4, cr b342, ci 0]) rfl ?_
 refine wil X341 hx hby d28_8 rfl ?_
 refine wilN X341 hx hby d28_10 rfl ?_
 refine wcn X341 hx hby d28_11 (tlt (by decide : (0 : Int32) < (4 : Int32))).2.1 ?_
 refine walN X341 hx hby d28_14 rfl rfl ?_
 show Ends _ _ _ _ T341 (mkF m 15 #[cr x5, ci 0, ci 4, cr b342, ci 0] [(.ref b342)]) _ _ _
 refine wil X341 hx hby d28_15 rfl ?_
 refine walN X341 hx hby d28_17 rfl rfl ?_
 refine wilN X341 hx hby d28_18 rfl ?_
 obtain ⟨cl344, Ar344, q344, S344, M344, H344, G344⟩ := id (PV_x5.keep K341c nin0)
 have hin344 := inb_of (j := (0 : Int32)) S344 ⟨by decide, by decide⟩
 refine Ends.go (X341.caload hx (j := (0 : Int32)) (v := (.int c0_)) (by rw [e341]; exact Ar344.1) (State.isArrayOf_alike hZ.alike Ar344.2.1) Ar344.2.2 hin344 (H344.at hin344 rfl) (g := (mkF m 19 #[cr x5, ci 0, ci 4, cr b342, ci 0] [(.int 0), (.ref x5), (.int 0), (.ref b342)])) rfl rfl (hb hby d28_19)) ?_
 obtain ⟨_, _, ⟨T351, L351, k351, n351⟩, -, X351, ⟨Lc351, hQ351, l351, y351, z351⟩, st351⟩ := Jvm.LawKit.callS X341 hx (y := ym31) hown (mvT hZ (ow hw 155 rfl)) (mvT hZ (ow hw 156 rfl)) (mvT hZ (ow hw 23 rfl)) (mvT hZ (ow hw 157 rfl)) (by decide) (own_backOf (W := 0) (rx31_345 l Z a0 hw [] n0 h341 O341 G1 G3 GF b342 c0_ k343 Y341_0 g_b342) hZ (ow hw 157 rfl) (ow hw 23 rfl) (by decide) (by decide)) (g := (mkF m 20 #[cr x5, ci 0, ci 4, cr b342, ci 0] [(.int c0_), (.int 0), (.ref b342)])) rfl (by rw [hml]; rfl) (argsL := [(.ref b342), (.int 0), (.int c0_)]) (rest := []) (lenOf pdx_22 rfl) rfl (by show 2 * 0 + _ ≤ _; exact Nat.le_of_eq rfl) (hb hby d28_20) (fun _ _ => ⟨rfl, e341, (by decide : 1 + 0 ≤ _), (by decide : 8 + 0 ≤ _)⟩)
 dsimp only [Pt.U, Pt.locs, Pt.cells, Pt.slots] at X351 l351 y351 z351 st351 hQ351
 subst l351 y351 z351
 obtain ⟨rfl, N351q, K351c, Y351_0⟩ := hQ351
 have N351 := Fr.app N341 N351q
 refine Ends.go st351 ?_
 obtain ⟨h351, e351⟩ : ∃ z, T351.heap = z := ⟨_, rfl⟩
 rw [e351] at K351c Y351_0
 have K351 := K341.trans K351c (allS (Or.inr sz_b342) all0)
 have O351 := O341.keep K351c (allS g_b342 all0)
 show Ends _ _ _ _ T351 (mkF m 23 #[cr x5, ci 0, ci 4, cr b342, ci 0] []) _ _ _
 refine wii X351 hx hby d28_23 (l' := #[cr x5, ci 1, ci 4, cr b342, ci 0]) rfl rfl ?_
 refine wii X351 hx hby d28_26 (l' := #[cr x5, ci 1, ci 4, cr b342, ci 1]) rfl rfl ?_
 refine wgo (pc := 29) (pc' := 8) X351 hx hby d28_29 (by decide) (by decide) ?_
 refine wil X351 hx hby d28_8 rfl ?_
 refine wilN X351 hx hby d28_10 rfl ?_
 show Ends _ _ _ _ T351 (mkF m 11 #[cr x5, ci 1, ci 4, cr b342, ci 1] [(.int 4), (.int 1)]) _ _ _
 refine wcn X351 hx hby d28_11 (tlt (by decide : (1 : Int32) < (4 : Int32))).2.1 ?_
 refine walN X351 hx hby d28_14 rfl rfl ?_
 refine wil X351 hx hby d28_15 rfl ?_
 refine walN X351 hx hby d28_17 rfl rfl ?_
 refine wilN X351 hx hby d28_18 rfl ?_
 show Ends _ _ _ _ T351 (mkF m 19 #[cr x5, ci 1, ci 4, cr b342, ci 1] [(.int 1), (.ref x5), (.int 1), (.ref b342)]) _ _ _
 obtain ⟨cl352, Ar352, q352, S352, M352, H352, G352⟩ := id ((PV_x5.keep K341c nin0).keep K351c (ninS (Nat.ne_of_lt (Nat.lt_of_lt_of_le PV_x5.lt sz_b342)) nin0))
 have hin352 := inb_of (j := (1 : Int32)) S352 ⟨by decide, by decide⟩
 refine Ends.go (X351.caload hx (j := (1 : Int32)) (v := (.int c1_)) (by rw [e351]; exact Ar352.1) (State.isArrayOf_alike hZ.alike Ar352.2.1) Ar352.2.2 hin352 (H352.at hin352 rfl) (g := (mkF m 19 #[cr x5, ci 1, ci 4, cr b342, ci 1] [(.int 1), (.ref x5), (.int 1), (.ref b342)])) rfl rfl (hb hby d28_19)) ?_
 obtain ⟨_, _, ⟨T359, L359, k359, n359⟩, -, X359, ⟨Lc359, hQ359, l359, y359, z359⟩, st359⟩ := Jvm.LawKit.callS X351 hx (y := ym31) hown (mvT hZ (ow hw 155 rfl)) (mvT hZ (ow hw 156 rfl)) (mvT hZ (ow hw 23 rfl)) (mvT hZ (ow hw 157 rfl)) (by decide) (own_backOf (W := 0) (rx31_353 l Z a0 hw [] n0 h351 O351 G1 G3 GF b342 c1_ k343 c0_ Y351_0 g_b342) hZ (ow hw 157 rfl) (ow hw 23 rfl) (by decide) (by decide)) (g := (mkF m 20 #[cr x5, ci 1, ci 4, cr b342, ci 1] [(.int c1_), (.int 1), (.ref b342)])) rfl (by rw [hml]; rfl) (argsL := [(.ref b342), (.int 1), (.int c1_)]) (rest := []) (lenOf pdx_22 rfl) rfl (by show 2 * 0 + _ ≤ _; exact Nat.le_of_eq rfl) (hb hby d28_20) (fun _ _ => ⟨rfl, e351, (by decide : 1 + 0 ≤ _), (by decide : 8 + 0 ≤ _)⟩)
 dsimp only [Pt.U, Pt.locs, Pt.cells, Pt.slots] at X359 l359 y359 z359 st359 hQ359
 subst l359 y359 z359
 obtain ⟨rfl, N359q, K359c, Y359_0⟩ := hQ359
 have N359 := Fr.app N351 N359q
 refine Ends.go st359 ?_
 obtain ⟨h359, e359⟩ : ∃ z, T359.heap = z := ⟨_, rfl⟩
 rw [e359] at K359c Y359_0
 have K359 := K351.trans K359c (allS (Or.inr sz_b342) all0)
 have O359 := O351.keep K359c (allS g_b342 all0)
 refine wii X359 hx hby d28_23 (l' := #[cr x5, ci 2, ci 4, cr b342, ci 1]) rfl rfl ?_
 refine wii X359 hx hby d28_26 (l' := #[cr x5, ci 2, ci 4, cr b342, ci 2]) rfl rfl ?_
 refine wgo (pc := 29) (pc' := 8) X359 hx hby d28_29 (by decide) (by decide) ?_
 show Ends _ _ _ _ T359 (mkF m 8 #[cr x5, ci 2, ci 4, cr b342, ci 2] []) _ _ _
 refine wil X359 hx hby d28_8 rfl ?_
 refine wilN X359 hx hby d28_10 rfl ?_
 refine wcn X359 hx hby d28_11 (tlt (by decide : (2 : Int32) < (4 : Int32))).2.1 ?_
 refine walN X359 hx hby d28_14 rfl rfl ?_
 refine wil X359 hx hby d28_15 rfl ?_
 show Ends _ _ _ _ T359 (mkF m 17 #[cr x5, ci 2, ci 4, cr b342, ci 2] [(.int 2), (.ref b342)]) _ _ _
 refine walN X359 hx hby d28_17 rfl rfl ?_
 refine wilN X359 hx hby d28_18 rfl ?_
 obtain ⟨cl360, Ar360, q360, S360, M360, H360, G360⟩ := id (((PV_x5.keep K341c nin0).keep K351c (ninS (Nat.ne_of_lt (Nat.lt_of_lt_of_le PV_x5.lt sz_b342)) nin0)).keep K359c (ninS (Nat.ne_of_lt (Nat.lt_of_lt_of_le PV_x5.lt sz_b342)) nin0))
 have hin360 := inb_of (j := (2 : Int32)) S360 ⟨by decide, by decide⟩
 refine Ends.go (X359.caload hx (j := (2 : Int32)) (v := (.int c2_)) (by rw [e359]; exact Ar360.1) (State.isArrayOf_alike hZ.alike Ar360.2.1) Ar360.2.2 hin360 (H360.at hin360 rfl) (g := (mkF m 19 #[cr x5, ci 2, ci 4, cr b342, ci 2] [(.int 2), (.ref x5), (.int 2), (.ref b342)])) rfl rfl (hb hby d28_19)) ?_
 obtain ⟨_, _, ⟨T367, L367, k367, n367⟩, -, X367, ⟨Lc367, hQ367, l367, y367, z367⟩, st367⟩ := Jvm.LawKit.callS X359 hx (y := ym31) hown (mvT hZ (ow hw 155 rfl)) (mvT hZ (ow hw 156 rfl)) (mvT hZ (ow hw 23 rfl)) (mvT hZ (ow hw 157 rfl)) (by decide) (own_backOf (W := 0) (rx31_361 l Z a0 hw [] n0 h359 O359 G1 G3 GF b342 c2_ k343 c0_ c1_ Y359_0 g_b342) hZ (ow hw 157 rfl) (ow hw 23 rfl) (by decide) (by decide)) (g := (mkF m 20 #[cr x5, ci 2, ci 4, cr b342, ci 2] [(.int c2_), (.int 2), (.ref b342)])) rfl (by rw [hml]; rfl) (argsL := [(.ref b342), (.int 2), (.int c2_)]) (rest := []) (lenOf pdx_22 rfl) rfl (by show 2 * 0 + _ ≤ _; exact Nat.le_of_eq rfl) (hb hby d28_20) (fun _ _ => ⟨rfl, e359, (by decide : 1 + 0 ≤ _), (by decide : 8 + 0 ≤ _)⟩)
 dsimp only [Pt.U, Pt.locs, Pt.cells, Pt.slots] at X367 l367 y367 z367 st367 hQ367
 subst l367 y367 z367
 obtain ⟨rfl, N367q, K367c, Y367_0⟩ := hQ367
 have N367 := Fr.app N359 N367q
 refine Ends.go st367 ?_
 obtain ⟨h367, e367⟩ : ∃ z, T367.heap = z := ⟨_, rfl⟩
 rw [e367] at K367c Y367_0
 have K367 := K359.trans K367c (allS (Or.inr sz_b342) all0)
 have O367 := O359.keep K367c (allS g_b342 all0)
 refine wii X367 hx hby d28_23 (l' := #[cr x5, ci 3, ci 4, cr b342, ci 2]) rfl rfl ?_
 show Ends _ _ _ _ T367 (mkF m 26 #[cr x5, ci 3, ci 4, cr b342, ci 2] []) _ _ _
 refine wii X367 hx hby d28_26 (l' := #[cr x5, ci 3, ci 4, cr b342, ci 3]) rfl rfl ?_
 refine wgo (pc := 29) (pc' := 8) X367 hx hby d28_29 (by decide) (by decide) ?_
 refine wil X367 hx hby d28_8 rfl ?_
 refine wilN X367 hx hby d28_10 rfl ?_
 refine wcn X367 hx hby d28_11 (tlt (by decide : (3 : Int32) < (4 : Int32))).2.1 ?_
 show Ends _ _ _ _ T367 (mkF m 14 #[cr x5, ci 3, ci 4, cr b342, ci 3] []) _ _ _
 refine walN X367 hx hby d28_14 rfl rfl ?_
 refine wil X367 hx hby d28_15 rfl ?_
 refine walN X367 hx hby d28_17 rfl rfl ?_
 refine wilN X367 hx hby d28_18 rfl ?_
 obtain ⟨cl368, Ar368, q368, S368, M368, H368, G368⟩ := id ((((PV_x5.keep K341c nin0).keep K351c (ninS (Nat.ne_of_lt (Nat.lt_of_lt_of_le PV_x5.lt sz_b342)) nin0)).keep K359c (ninS (Nat.ne_of_lt (Nat.lt_of_lt_of_le PV_x5.lt sz_b342)) nin0)).keep K367c (ninS (Nat.ne_of_lt (Nat.lt_of_lt_of_le PV_x5.lt sz_b342)) nin0))
 have hin368 := inb_of (j := (3 : Int32)) S368 ⟨by decide, by decide⟩
 refine Ends.go (X367.caload hx (j := (3 : Int32)) (v := (.int c3_)) (by rw [e367]; exact Ar368.1) (State.isArrayOf_alike hZ.alike Ar368.2.1) Ar368.2.2 hin368 (H368.at hin368 rfl) (g := (mkF m 19 #[cr x5, ci 3, ci 4, cr b342, ci 3] [(.int 3), (.ref x5), (.int 3), (.ref b342)])) rfl rfl (hb hby d28_19)) ?_
 show Ends _ _ _ _ T367 (mkF m 20 #[cr x5, ci 3, ci 4, cr b342, ci 3] [(.int c3_), (.int 3), (.ref b342)]) _ _ _
 obtain ⟨_, _, ⟨T375, L375, k375, n375⟩, -, X375, ⟨Lc375, hQ375, l375, y375, z375⟩, st375⟩ := Jvm.LawKit.callS X367 hx (y := ym31) hown (mvT hZ (ow hw 155 rfl)) (mvT hZ (ow hw 156 rfl)) (mvT hZ (ow hw 23 rfl)) (mvT hZ (ow hw 157 rfl)) (by decide) (own_backOf (W := 0) (rx31_369 l Z a0 hw [] n0 h367 O367 G1 G3 GF b342 c3_ k343 c0_ c1_ c2_ Y367_0 g_b342) hZ (ow hw 157 rfl) (ow hw 23 rfl) (by decide) (by decide)) (g := (mkF m 20 #[cr x5, ci 3, ci 4, cr b342, ci 3] [(.int c3_), (.int 3), (.ref b342)])) rfl (by rw [hml]; rfl) (argsL := [(.ref b342), (.int 3), (.int c3_)]) (rest := []) (lenOf pdx_22 rfl) rfl (by show 2 * 0 + _ ≤ _; exact Nat.le_of_eq rfl) (hb hby d28_20) (fun _ _ => ⟨rfl, e367, (by decide : 1 + 0 ≤ _), (by decide : 8 + 0 ≤ _)⟩)
 dsimp only [Pt.U, Pt.locs, Pt.cells, Pt.slots] at X375 l375 y375 z375 st375 hQ375
 subst l375 y375 z375
 obtain ⟨rfl, N375q, K375c, Y375_0⟩ := hQ375
 have N375 := Fr.app N367 N375q
 refine Ends.go st375 ?_
 obtain ⟨h375, e375⟩ : ∃ z, T375.heap = z := ⟨_, rfl⟩
 rw [e375] at K375c Y375_0
 have K375 := K367.trans K375c (allS (Or.inr sz_b342) all0)
 have O375 := O367.keep K375c (allS g_b342 all0)
 refine wii X375 hx hby d28_23 (l' := #[cr x5, ci 4, ci 4, cr b342, ci 3]) rfl rfl ?_
 refine wii X375 hx hby d28_26 (l' := #[cr x5, ci 4, ci 4, cr b342, ci 4]) rfl rfl ?_
 refine wgo (pc := 29) (pc' := 8) X375 hx hby d28_29 (by decide) (by decide) ?_
 refine wil X375 hx hby d28_8 rfl ?_
 show Ends _ _ _ _ T375 (mkF m 10 #[cr x5, ci 4, ci 4, cr b342, ci 4] [(.int 4)]) _ _ _
 refine wilN X375 hx hby d28_10 rfl ?_
 refine wcy (pc := 11) (pc' := 32) X375 hx hby d28_11 (flt (by decide : ¬ ((4 : Int32) < (4 : Int32)))).2.1 (by decide) (by decide) ?_
 refine walN X375 hx hby d28_32 rfl rfl ?_
 refine Ends.ret X375 hx Bd.notSynchronized (t := (.array .byte)) Bd.returns rfl (Or.inr (Or.inr (Or.inr (Or.inr ⟨rfl, rfl, rfl⟩)))) (hb hby d28_33) (by decide) (by decide) ?_
 rw [e375]
 exact ⟨b342, k343, rfl, N375, K375, sz_b342, Y375_0⟩

theorem d4_20 : decode jdk_52_method_16_code 20 = .ok (.aload_n 0, 1) := by decide +kernel
theorem d4_21 : decode jdk_52_method_16_code 21 = .ok (.iload_n 1, 1) := by decide +kernel
theorem d4_22 : decode jdk_52_method_16_code 22 = .ok (.iload_n 2, 1) := by decide +kernel
theorem d4_23 : decode jdk_52_method_16_code 23 = .ok (.invokestatic 119, 3) := by decide +kernel
theorem d4_26 : decode jdk_52_method_16_code 26 = .ok (.astore 5, 2) := by decide +kernel
theorem d4_28 : decode jdk_52_method_16_code 28 = .ok (.aload 5, 2) := by decide +kernel
theorem d4_30 : decode jdk_52_method_16_code 30 = .ok (.iload 4, 2) := by decide +kernel
theorem d4_32 : decode jdk_52_method_16_code 32 = .ok (.invokestatic 71, 3) := by decide +kernel
theorem d4_35 : decode jdk_52_method_16_code 35 = .ok (.sipush 255, 3) := by decide +kernel
theorem d4_38 : decode jdk_52_method_16_code 38 = .ok (.if_icmp .gt 16, 3) := by decide +kernel
theorem d4_54 : decode jdk_52_method_16_code 54 = .ok (.aload 5, 2) := by decide +kernel
theorem d4_56 : decode jdk_52_method_16_code 56 = .ok (.areturn, 1) := by decide +kernel
theorem pdx_23 : parseMethodDescriptor "([BI)C" = some ⟨[(.array .byte), .int], some .char⟩ := by decide +kernel
set_option maxRecDepth 65536 in
set_option maxHeartbeats 40000000 in
theorem rx4_333 (l : Launch) (Z : State) (a0 : Array Value) (hw : ∀ d ∈ tables_1, d.before a0 Z = true) (ws : List Jvm.Cond) (n0 : Nat) (h0 : Heap) (O0 : Old Z n0 h0) (G1 : Int32) (G3 : Value) (GF : GlobF Z G1 G3) (x5 : Addr) (kx5 : ClassId) (c0_ : Int32) (c1_ : Int32) (c2_ : Int32) (c3_ : Int32) (PV_x5 : Arv Z h0 x5 kx5 .char (4 : Int32) [(.int c0_), (.int c1_), (.int c2_), (.int c3_)] (.int 0)) (hbig_ : ¬ (own_lat c0_ c1_ c2_ c3_)) (hc0_ : 0 ≤ c0_.toInt ∧ c0_.toInt < 65536) (hc1_ : 0 ≤ c1_.toInt ∧ c1_.toInt < 65536) (hc2_ : 0 ≤ c2_.toInt ∧ c2_.toInt < 65536) (hc3_ : 0 ≤ c3_.toInt ∧ c3_.toInt < 65536) :
  Meets1 l ym16 jdk_52_method_16_code 6 (some (.array .byte)) ws ({ frames := 3, cells := 2, slots := 12, locals := 40 } : Room) #[(.ref x5), (.int 0), (.int 4)] Z h0 (fun v h L => ∃ (b334 : Addr) (b377 : Addr) (k378 : ClassId), v = some (.ref b377) ∧ Fr n0 L ∧ Keep h0 h [] ∧ h0.size ≤ b334 ∧ h0.size ≤ b377 ∧ Arv Z h b377 k378 .byte (8 : Int32) [(.int ((c0_ >>> ((0 : Int32) &&& 31)).toInt8.toInt32)), (.int ((c0_ >>> ((8 : Int32) &&& 31)).toInt8.toInt32)), (.int ((c1_ >>> ((0 : Int32) &&& 31)).toInt8.toInt32)), (.int ((c1_ >>> ((8 : Int32) &&& 31)).toInt8.toInt32)), (.int ((c2_ >>> ((0 : Int32) &&& 31)).toInt8.toInt32)), (.int ((c2_ >>> ((8 : Int32) &&& 31)).toInt8.toInt32)), (.int ((c3_ >>> ((0 : Int32) &&& 31)).toInt8.toInt32)), (.int ((c3_ >>> ((8 : Int32) &&& 31)).toInt8.toInt32))] (.int 0)) := by
 refine MetFree.of_bodySF (plainFor_of_name pn4) hisR ?_
 intro p e s m args below meth c s₁ Bd hml0 hP hK
 obtain ⟨rfl, hZ, hh⟩ := hP
 have hx := Bd.exec
 have hby := Bd.bytes
 have hml : c.maxLocals = 6 := hml0
 have hown : s.vm.findClass "java/lang/StringUTF16" = some m.cls := findClass_of_methodNamed Bd.named
 have hnm := (name_of_methodNamed Bd.named Bd.method).1
 have X0 : Stand p l e ({ frames := 3, cells := 2, slots := 12, locals := 40 } : Room) s m #[(.ref x5), (.int 0), (.int 4)] below meth c s₁ [] 0 0 := Stand.of_body Bd
 have e0 : s₁.heap = h0 := by rw [← hh, Bd.state]; rfl
 have N0 := Fr.nil n0
 have Z0 := own_old_le O0
 show Ends _ _ _ _ s₁ (entryFrame m #[(.ref x5), (.int 0), (.int 4)] 6) ({ frames := 3, cells := 2, slots := 12, locals := 40 } : Room).cells ({ frames := 3, cells := 2, slots := 12, locals := 40 } : Room).slots (fun v h L => ∃ (b334 : Addr) (b377 : Addr) (k378 : ClassId), v = some (.ref b377) ∧ Fr n0 L ∧ Keep h0 h [] ∧ h0.size ≤ b334 ∧ h0.size ≤ b377 ∧ Arv Z h b377 k378 .byte (8 : Int32) [(.int ((c0_ >>> ((0 : Int32) &&& 31)).toInt8.toInt32)), (.int ((c0_ >>> ((8 : Int32) &&& 31)).toInt8.toInt32)), (.int ((c1_ >>> ((0 : Int32) &&& 31)).toInt8.toInt32)), (.int ((c1_ >>> ((8 : Int32) &&& 31)).toInt8.toInt32)), (.int ((c2_ >>> ((0 : Int32) &&& 31)).toInt8.toInt32)), (.int ((c2_ >>> ((8 : Int32) &&& 31)).toInt8.toInt32)), (.int ((c3_ >>> ((0 : Int32) &&& 31)).toInt8.toInt32)), (.int ((c3_ >>> ((8 : Int32) &&& 31)).toInt8.toInt32))] (.int 0))
 refine Ends.go (fun _ k => castTop (ef4_rii m x5 (0 : Int32) (4 : Int32)) k) ?_
 obtain ⟨SCS, P5, SAD, SHI, SLO, SSF, RG3⟩ := id GF
 have K0 := Keep.refl h0 []
 show Ends _ _ _ _ s₁ (mkF m 0 #[cr x5, ci 0, ci 4, cu, cu, cu] []) _ _ _
 refine wilN X0 hx hby d4_0 rfl ?_
 obtain ⟨T334, h334, k334, X334, e334, E334, A334, st334⟩ := newP X0 hx hZ (ow hw 25 rfl) e0 (g := (mkF m 1 #[cr x5, ci 0, ci 4, cu, cu, cu] [(.int 4)])) rfl (hb hby d4_1) rfl (by decide) (cap := 4) (by decide) (by decide) (by decide) (by decide)
 obtain ⟨b334, g334⟩ : ∃ z, z = h0.size := ⟨_, rfl⟩
 rw [← g334] at A334 st334
 refine Ends.go st334 ?_
 have g_b334 : n0 ≤ b334 := Nat.le_trans (own_old_le O0) (Nat.le_of_eq g334.symm)
 have sz_b334 : h0.size ≤ b334 := Nat.le_trans K0.1 (Nat.le_of_eq g334.symm)
 have K334 := K0.ext E334
 have O334 := O0.ext E334
 have V_b334 : Arv Z h334 b334 k334 .byte (4 : Int32) [(.int 0), (.int 0), (.int 0), (.int 0)] (.int 0) := (Arv.new A334 (by decide)).pad (pad_rep [] (.int 0) 4)
 refine wasN X334 hx hby d4_3 (l' := #[cr x5, ci 0, ci 4, cr b334, cu, cu]) rfl rfl ?_
 refine walN X334 hx hby d4_4 rfl rfl ?_
 show Ends _ _ _ _ T334 (mkF m 5 #[cr x5, ci 0, ci 4, cr b334, cu, cu] [(.ref x5)]) _ _ _
 refine wilN X334 hx hby d4_5 rfl ?_
 refine walN X334 hx hby d4_6 rfl rfl ?_
 refine wic X334 hx hby d4_7 ?_
 refine wilN X334 hx hby d4_8 rfl ?_
 obtain ⟨_, _, ⟨T335, L335, k335, n335⟩, -, X335, ⟨Lc335, hQ335, l335, y335, z335⟩, st335⟩ := Jvm.LawKit.callS X334 hx (y := ym0) hown (mvT hZ (ow hw 26 rfl)) (mvT hZ (ow hw 27 rfl)) (mvT hZ (ow hw 23 rfl)) (mvT hZ (ow hw 28 rfl)) (by decide) (own_backOf (W := 0) (rmC l Z a0 hw [] n0 h334 O334 x5 b334 kx5 k334 c0_ c1_ c2_ c3_ g_b334 (Nat.ne_of_lt (Nat.lt_of_lt_of_le PV_x5.lt sz_b334)) (PV_x5.ext E334) V_b334 hbig_) hZ (ow hw 28 rfl) (ow hw 23 rfl) (by decide) (by decide)) (g := (mkF m 9 #[cr x5, ci 0, ci 4, cr b334, cu, cu] [(.int 4), (.int 0), (.ref b334), (.int 0), (.ref x5)])) rfl (by rw [hml]; rfl) (argsL := [(.ref x5), (.int 0), (.ref b334), (.int 0), (.int 4)]) (rest := []) (lenOf pdx_6 rfl) rfl (by show 2 * 0 + _ ≤ _; exact Nat.le_of_eq rfl) (hb hby d4_9) (fun _ _ => ⟨rfl, e334, (by decide : 1 + 0 ≤ _), (by decide : 4 + 0 ≤ _)⟩)
 dsimp only [Pt.U, Pt.locs, Pt.cells, Pt.slots] at X335 l335 y335 z335 st335 hQ335
 subst l335 y335 z335
 obtain ⟨ix335, rfl, N335q, K335c, hin335, hsel335⟩ := hQ335
 have N335 := Fr.app N0 N335q
 refine Ends.go st335 ?_
 obtain ⟨h335, e335⟩ : ∃ z, T335.heap = z := ⟨_, rfl⟩
 rw [e335] at K335c
 have K335 := K334.trans K335c (allS (Or.inr sz_b334) all0)
 have O335 := O334.keep K335c (allS g_b334 all0)
 show Ends _ _ _ _ T335 (mkF m 12 #[cr x5, ci 0, ci 4, cr b334, cu, cu] [(.int ix335)]) _ _ _
 refine wst X335 hx hby d4_12 (l' := #[cr x5, ci 0, ci 4, cr b334, ci ix335, cu]) rfl ?_
 refine wil X335 hx hby d4_14 rfl ?_
 refine wilN X335 hx hby d4_16 rfl ?_
 refine wcn X335 hx hby d4_17 (feq ((own_ix7 hin335) : ¬ (ix335 = (4 : Int32)))).1 ?_
 refine walN X335 hx hby d4_20 rfl rfl ?_
 show Ends _ _ _ _ T335 (mkF m 21 #[cr x5, ci 0, ci 4, cr b334, ci ix335, cu] [(.ref x5)]) _ _ _
 refine wilN X335 hx hby d4_21 rfl ?_
 refine wilN X335 hx hby d4_22 rfl ?_
 obtain ⟨_, _, ⟨T376, L376, k376, n376⟩, -, X376, ⟨Lc376, hQ376, l376, y376, z376⟩, st376⟩ := Jvm.LawKit.callS X335 hx (y := ym32) hown (mvT hZ (ow hw 145 rfl)) (mvT hZ (ow hw 146 rfl)) (mvT hZ (ow hw 23 rfl)) (mvT hZ (ow hw 147 rfl)) (by decide) (own_backOf (W := 0) (rx28_336 l Z a0 hw [] n0 h335 O335 G1 G3 GF x5 kx5 c0_ c1_ c2_ c3_ ((PV_x5.ext E334).keep K335c (ninS (Nat.ne_of_lt (Nat.lt_of_lt_of_le PV_x5.lt sz_b334)) nin0))) hZ (ow hw 147 rfl) (ow hw 23 rfl) (by decide) (by decide)) (g := (mkF m 23 #[cr x5, ci 0, ci 4, cr b334, ci ix335, cu] [(.int 4), (.int 0), (.ref x5)])) rfl (by rw [hml]; rfl) (argsL := [(.ref x5), (.int 0), (.int 4)]) (rest := []) (lenOf pdx_7 rfl) rfl (by show 2 * 0 + _ ≤ _; exact Nat.le_of_eq rfl) (hb hby d4_23) (fun _ _ => ⟨rfl, e335, (by decide : 1 + 1 ≤ _), (by decide : 4 + 8 ≤ _)⟩)
 dsimp only [Pt.U, Pt.locs, Pt.cells, Pt.slots] at X376 l376 y376 z376 st376 hQ376
 subst l376 y376 z376
 obtain ⟨b377, k378, rfl, N376q, K376c, hb376_b377, Y376_0⟩ := hQ376
 have N376 := Fr.app N335 N376q
 refine Ends.go st376 ?_
 have g_b377 : n0 ≤ b377 := Nat.le_trans (own_old_le O335) hb376_b377
 have sz_b377 : h0.size ≤ b377 := Nat.le_trans K335.1 hb376_b377
 obtain ⟨h376, e376⟩ : ∃ z, T376.heap = z := ⟨_, rfl⟩
 rw [e376] at K376c Y376_0
 have K376 := K335.trans K376c all0
 have O376 := O335.keep K376c all0
 refine was X376 hx hby d4_26 (l' := #[cr x5, ci 0, ci 4, cr b334, ci ix335, cr b377]) rfl rfl ?_
 refine wal X376 hx hby d4_28 rfl rfl ?_
 show Ends _ _ _ _ T376 (mkF m 30 #[cr x5, ci 0, ci 4, cr b334, ci ix335, cr b377] [(.ref b377)]) _ _ _
 refine wil X376 hx hby d4_30 rfl ?_
 obtain ⟨_, _, ⟨T379, L379, k379, n379⟩, -, X379, ⟨Lc379, hQ379, l379, y379, z379⟩, st379⟩ := Jvm.LawKit.callS X376 hx (y := ym9) hown (mvT hZ (ow hw 161 rfl)) (mvT hZ (ow hw 162 rfl)) (mvT hZ (ow hw 23 rfl)) (mvT hZ (ow hw 163 rfl)) (by decide) (own_backOf (W := 0) (rmG l Z a0 hw [] n0 h376 O376 G1 G3 GF b377 k378 c0_ c1_ c2_ c3_ ix335 Y376_0 hc0_ hc1_ hc2_ hc3_ hin335) hZ (ow hw 163 rfl) (ow hw 23 rfl) (by decide) (by decide)) (g := (mkF m 32 #[cr x5, ci 0, ci 4, cr b334, ci ix335, cr b377] [(.int ix335), (.ref b377)])) rfl (by rw [hml]; rfl) (argsL := [(.ref b377), (.int ix335)]) (rest := []) (lenOf pdx_23 rfl) rfl (by show 2 * 0 + _ ≤ _; exact Nat.le_of_eq rfl) (hb hby d4_32) (fun _ _ => ⟨rfl, e376, (by decide : 2 + 0 ≤ _), (by decide : 12 + 0 ≤ _)⟩)
 dsimp only [Pt.U, Pt.locs, Pt.cells, Pt.slots] at X379 l379 y379 z379 st379 hQ379
 subst l379 y379 z379
 obtain ⟨rfl, N379q, K379c⟩ := hQ379
 have N379 := Fr.app N376 N379q
 refine Ends.go st379 ?_
 obtain ⟨h379, e379⟩ : ∃ z, T379.heap = z := ⟨_, rfl⟩
 rw [e379] at K379c
 have K379 := K376.trans K379c all0
 have O379 := O376.keep K379c all0
 refine wsp X379 hx hby d4_35 ?_
 refine wcy (pc := 38) (pc' := 54) X379 hx hby d4_38 (tlt (hsel335 : (255 : Int32) < (own_sel c0_ c1_ c2_ c3_ ix335))).2.2.1 (by decide) (by decide) ?_
 refine wal X379 hx hby d4_54 rfl rfl ?_
 show Ends _ _ _ _ T379 (mkF m 56 #[cr x5, ci 0, ci 4, cr b334, ci ix335, cr b377] [(.ref b377)]) _ _ _
 refine Ends.ret X379 hx Bd.notSynchronized (t := (.array .byte)) Bd.returns rfl (Or.inr (Or.inr (Or.inr (Or.inr ⟨rfl, rfl, rfl⟩)))) (hb hby d4_56) (by decide) (by decide) ?_
 rw [e379]
 exact ⟨b334, b377, k378, rfl, N379, K379, sz_b334, sz_b377, (Y376_0.keep K379c nin0)⟩

set_option maxRecDepth 65536 in
set_option maxHeartbeats 40000000 in
theorem rx6_384 (l : Launch) (Z : State) (a0 : Array Value) (hw : ∀ d ∈ tables_1, d.before a0 Z = true) (ws : List Jvm.Cond) (n0 : Nat) (h0 : Heap) (O0 : Old Z n0 h0)  (b382 : Addr) (k383 : ClassId) (c0_ : Int32) (c1_ : Int32) (c2_ : Int32) (c3_ : Int32) (PV_b382 : Arv Z h0 b382 k383 .byte (8 : Int32) [(.int ((c0_ >>> ((0 : Int32) &&& 31)).toInt8.toInt32)), (.int ((c0_ >>> ((8 : Int32) &&& 31)).toInt8.toInt32)), (.int ((c1_ >>> ((0 : Int32) &&& 31)).toInt8.toInt32)), (.int ((c1_ >>> ((8 : Int32) &&& 31)).toInt8.toInt32)), (.int ((c2_ >>> ((0 : Int32) &&& 31)).toInt8.toInt32)), (.int ((c2_ >>> ((8 : Int32) &&& 31)).toInt8.toInt32)), (.int ((c3_ >>> ((0 : Int32) &&& 31)).toInt8.toInt32)), (.int ((c3_ >>> ((8 : Int32) &&& 31)).toInt8.toInt32))] (.int 0)) :
  Meets1 l ym17 jdk_52_method_15_code 2 (some .byte) ws ({ frames := 0, cells := 0, slots := 0, locals := 0 } : Room) #[(.ref b382), (.int 4)] Z h0 (fun v h L => v = some (.int 1) ∧ Fr n0 L ∧ Keep h0 h []) := by
 refine MetFree.of_bodySF (plainFor_of_name pn6) hisR ?_
 intro p e s m args below meth c s₁ Bd hml0 hP hK
 obtain ⟨rfl, hZ, hh⟩ := hP
 have hx := Bd.exec
 have hby := Bd.bytes
 have hml : c.maxLocals = 2 := hml0
 have hown : s.vm.findClass "java/lang/StringUTF16" = some m.cls := findClass_of_methodNamed Bd.named
 have hnm := (name_of_methodNamed Bd.named Bd.method).1
 have X0 : Stand p l e ({ frames := 0, cells := 0, slots := 0, locals := 0 } : Room) s m #[(.ref b382), (.int 4)] below meth c s₁ [] 0 0 := Stand.of_body Bd
 have e0 : s₁.heap = h0 := by rw [← hh, Bd.state]; rfl
 have N0 := Fr.nil n0
 have Z0 := own_old_le O0
 show Ends _ _ _ _ s₁ (entryFrame m #[(.ref b382), (.int 4)] 2) ({ frames := 0, cells := 0, slots := 0, locals := 0 } : Room).cells ({ frames := 0, cells := 0, slots := 0, locals := 0 } : Room).slots (fun v h L => v = some (.int 1) ∧ Fr n0 L ∧ Keep h0 h [])
 refine Ends.go (fun _ k => castTop (ef6_ri m b382 (4 : Int32)) k) ?_
 have K0 := Keep.refl h0 []
 show Ends _ _ _ _ s₁ (mkF m 0 #[cr b382, ci 4] []) _ _ _
 refine wilN X0 hx hby d6_0 rfl ?_
 refine walN X0 hx hby d6_1 rfl rfl ?_
 obtain ⟨cl385, Ar385, q385, S385, M385, H385, G385⟩ := id PV_b382
 refine Ends.go (X0.arraylength hx (by rw [e0]; exact Ar385.1) (State.isArrayOf_alike hZ.alike Ar385.2.1) (g := (mkF m 2 #[cr b382, ci 4] [(.ref b382), (.int 4)])) rfl rfl (hb hby d6_2)) ?_
 rw [len_of S385 M385]
 refine wis X0 hx hby d6_3 ?_
 show Ends _ _ _ _ s₁ (mkF m 4 #[cr b382, ci 4] [(.int (-4))]) _ _ _
 refine wbp X0 hx hby d6_4 ?_
 refine .go (fun _ => XS.iushr X0.here hx rfl (hb hby d6_6) rfl) ?_
 refine .go (fun _ => XS.i2b X0.here hx rfl (hb hby d6_7) rfl) ?_
 refine Ends.retZ X0 hx Bd.notSynchronized (t := .byte) Bd.returns (by simp) (hb hby d6_8) (by decide) (by decide) ?_
 rw [e0]
 exact ⟨rfl, N0, K0⟩

set_option maxRecDepth 65536 in
set_option maxHeartbeats 40000000 in
theorem rx2_330 (l : Launch) (Z : State) (a0 : Array Value) (hw : ∀ d ∈ tables_1, d.before a0 Z = true) (ws : List Jvm.Cond) (n0 : Nat) (h0 : Heap) (O0 : Old Z n0 h0) (G1 : Int32) (G3 : Value) (GF : GlobF Z G1 G3) (b247 : Addr) (x5 : Addr) (kx5 : ClassId) (c0_ : Int32) (c1_ : Int32) (c2_ : Int32) (c3_ : Int32) (PV_x5 : Arv Z h0 x5 kx5 .char (4 : Int32) [(.int c0_), (.int c1_), (.int c2_), (.int c3_)] (.int 0)) (PE_b247 : Exa Z h0 b247 "java/lang/String") (PF_b247_coder : Fld Z h0 b247 "java/lang/String" "coder" "B" (.int 0)) (PF_b247_value : Fld Z h0 b247 "java/lang/String" "value" "[B" .null) (g_b247 : n0 ≤ b247) (hbig_ : ¬ (own_lat c0_ c1_ c2_ c3_)) (hc0_ : 0 ≤ c0_.toInt ∧ c0_.toInt < 65536) (hc1_ : 0 ≤ c1_.toInt ∧ c1_.toInt < 65536) (hc2_ : 0 ≤ c2_.toInt ∧ c2_.toInt < 65536) (hc3_ : 0 ≤ c3_.toInt ∧ c3_.toInt < 65536) :
  Meets1 l ym18 jdk_42_method_149_code 6 none ws ({ frames := 4, cells := 2, slots := 12, locals := 57 } : Room) #[(.ref b247), (.ref x5), (.int 0), (.int 4), .null] Z h0 (fun v h L => ∃ (b381 : Addr) (b382 : Addr) (k383 : ClassId), v = none ∧ Fr n0 L ∧ Keep h0 h [b247] ∧ h0.size ≤ b381 ∧ h0.size ≤ b382 ∧ Arv Z h b382 k383 .byte (8 : Int32) [(.int ((c0_ >>> ((0 : Int32) &&& 31)).toInt8.toInt32)), (.int ((c0_ >>> ((8 : Int32) &&& 31)).toInt8.toInt32)), (.int ((c1_ >>> ((0 : Int32) &&& 31)).toInt8.toInt32)), (.int ((c1_ >>> ((8 : Int32) &&& 31)).toInt8.toInt32)), (.int ((c2_ >>> ((0 : Int32) &&& 31)).toInt8.toInt32)), (.int ((c2_ >>> ((8 : Int32) &&& 31)).toInt8.toInt32)), (.int ((c3_ >>> ((0 : Int32) &&& 31)).toInt8.toInt32)), (.int ((c3_ >>> ((8 : Int32) &&& 31)).toInt8.toInt32))] (.int 0) ∧ Fld Z h b247 "java/lang/String" "coder" "B" (.int 1) ∧ Fld Z h b247 "java/lang/String" "value" "[B" (.ref b382)) := by
 refine MetFree.of_bodySF (plainFor_of_name pn2) hisR ?_
 intro p e s m args below meth c s₁ Bd hml0 hP hK
 obtain ⟨rfl, hZ, hh⟩ := hP
 have hx := Bd.exec
 have hby := Bd.bytes
 have hml : c.maxLocals = 6 := hml0
 have hown : s.vm.findClass "java/lang/String" = some m.cls := findClass_of_methodNamed Bd.named
 have hnm := (name_of_methodNamed Bd.named Bd.method).1
 have X0 : Stand p l e ({ frames := 4, cells := 2, slots := 12, locals := 57 } : Room) s m #[(.ref b247), (.ref x5), (.int 0), (.int 4), .null] below meth c s₁ [] 0 0 := Stand.of_body Bd
 have e0 : s₁.heap = h0 := by rw [← hh, Bd.state]; rfl
 have N0 := Fr.nil n0
 have Z0 := own_old_le O0
 show Ends _ _ _ _ s₁ (entryFrame m #[(.ref b247), (.ref x5), (.int 0), (.int 4), .null] 6) ({ frames := 4, cells := 2, slots := 12, locals := 57 } : Room).cells ({ frames := 4, cells := 2, slots := 12, locals := 57 } : Room).slots (fun v h L => ∃ (b381 : Addr) (b382 : Addr) (k383 : ClassId), v = none ∧ Fr n0 L ∧ Keep h0 h [b247] ∧ h0.size ≤ b381 ∧ h0.size ≤ b382 ∧ Arv Z h b382 k383 .byte (8 : Int32) [(.int ((c0_ >>> ((0 : Int32) &&& 31)).toInt8.toInt32)), (.int ((c0_ >>> ((8 : Int32) &&& 31)).toInt8.toInt32)), (.int ((c1_ >>> ((0 : Int32) &&& 31)).toInt8.toInt32)), (.int ((c1_ >>> ((8 : Int32) &&& 31)).toInt8.toInt32)), (.int ((c2_ >>> ((0 : Int32) &&& 31)).toInt8.toInt32)), (.int ((c2_ >>> ((8 : Int32) &&& 31)).toInt8.toInt32)), (.int ((c3_ >>> ((0 : Int32) &&& 31)).toInt8.toInt32)), (.int ((c3_ >>> ((8 : Int32) &&& 31)).toInt8.toInt32))] (.int 0) ∧ Fld Z h b247 "java/lang/String" "coder" "B" (.int 1) ∧ Fld Z h b247 "java/lang/String" "value" "[B" (.ref b382))
 refine Ends.go (fun _ k => castTop (ef2_rriin m b247 x5 (0 : Int32) (4 : Int32)) k) ?_
 obtain ⟨SCS, P5, SAD, SHI, SLO, SSF, RG3⟩ := id GF
 have K0 := Keep.refl h0 [b247]
 show Ends _ _ _ _ s₁ (mkF m 0 #[cr b247, cr x5, ci 0, ci 4, .val .null, cu] []) _ _ _
 refine walN X0 hx hby d2_0 rfl rfl ?_
 obtain ⟨T331, X331, e331, st331⟩ := initO X0 hx hZ hown (ow hw 17 rfl) (ow hw 18 rfl) (ow hw 19 rfl) e0 (g := (mkF m 1 #[cr b247, cr x5, ci 0, ci 4, .val .null, cu] [(.ref b247)])) rfl (by rw [hml]; rfl) rfl (hb hby d2_1) (by decide) (W := 0) (by show 2 * 0 + _ ≤ _; exact Nat.le_of_eq rfl) (by decide)
 refine Ends.go st331 ?_
 refine wilN X331 hx hby d2_4 rfl ?_
 refine wiy (pc := 5) (pc' := 27) X331 hx hby d2_5 ((if0 _ _).trans (feq (by decide : ¬ ((4 : Int32) = (0 : Int32)))).2) (by decide) (by decide) ?_
 show Ends _ _ _ _ T331 (mkF m 27 #[cr b247, cr x5, ci 0, ci 4, .val .null, cu] []) _ _ _
 obtain ⟨T332, X332, e332, st332⟩ := getS2 X331 hx hZ hown (host := "") (Or.inl (ow hw 20 rfl)) Via.refl e331 (SCS.ext O0.2) (g := (mkF m 27 #[cr b247, cr x5, ci 0, ci 4, .val .null, cu] [])) rfl (hb hby d2_27)
 refine Ends.go st332 ?_
 refine win X332 hx hby d2_30 ((if0 _ _).trans (feq (P5 : ¬ (G1 = (0 : Int32)))).1) ?_
 refine walN X332 hx hby d2_33 rfl rfl ?_
 refine wilN X332 hx hby d2_34 rfl ?_
 refine wilN X332 hx hby d2_35 rfl ?_
 show Ends _ _ _ _ T332 (mkF m 36 #[cr b247, cr x5, ci 0, ci 4, .val .null, cu] [(.int 4), (.int 0), (.ref x5)]) _ _ _
 obtain ⟨_, _, ⟨T380, L380, k380, n380⟩, -, X380, ⟨Lc380, hQ380, l380, y380, z380⟩, st380⟩ := Jvm.LawKit.callS X332 hx (y := ym16) hown (mvT hZ (ow hw 21 rfl)) (mvT hZ (ow hw 22 rfl)) (mvT hZ (ow hw 23 rfl)) (mvT hZ (ow hw 24 rfl)) (by decide) (own_backOf (W := 0) (rx4_333 l Z a0 hw [] n0 h0 O0 G1 G3 GF x5 kx5 c0_ c1_ c2_ c3_ PV_x5 hbig_ hc0_ hc1_ hc2_ hc3_) hZ (ow hw 24 rfl) (ow hw 23 rfl) (by decide) (by decide)) (g := (mkF m 36 #[cr b247, cr x5, ci 0, ci 4, .val .null, cu] [(.int 4), (.int 0), (.ref x5)])) rfl (by rw [hml]; rfl) (argsL := [(.ref x5), (.int 0), (.int 4)]) (rest := []) (lenOf pdx_7 rfl) rfl (by show 2 * 0 + _ ≤ _; exact Nat.le_of_eq rfl) (hb hby d2_36) (fun _ _ => ⟨rfl, e332, (by decide : 0 + 2 ≤ _), (by decide : 0 + 12 ≤ _)⟩)
 dsimp only [Pt.U, Pt.locs, Pt.cells, Pt.slots] at X380 l380 y380 z380 st380 hQ380
 subst l380 y380 z380
 obtain ⟨b381, b382, k383, rfl, N380q, K380c, hb380_b381, hb380_b382, Y380_0⟩ := hQ380
 have N380 := Fr.app N0 N380q
 refine Ends.go st380 ?_
 have g_b381 : n0 ≤ b381 := Nat.le_trans (own_old_le O0) hb380_b381
 have sz_b381 : h0.size ≤ b381 := Nat.le_trans K0.1 hb380_b381
 have g_b382 : n0 ≤ b382 := Nat.le_trans (own_old_le O0) hb380_b382
 have sz_b382 : h0.size ≤ b382 := Nat.le_trans K0.1 hb380_b382
 obtain ⟨h380, e380⟩ : ∃ z, T380.heap = z := ⟨_, rfl⟩
 rw [e380] at K380c Y380_0
 have K380 := K0.trans K380c all0
 have O380 := O0.keep K380c all0
 refine was X380 hx hby d2_39 (l' := #[cr b247, cr x5, ci 0, ci 4, .val .null, cr b382]) rfl rfl ?_
 refine walN X380 hx hby d2_41 rfl rfl ?_
 refine wal X380 hx hby d2_42 rfl rfl ?_
 refine wilN X380 hx hby d2_44 rfl ?_
 show Ends _ _ _ _ T380 (mkF m 45 #[cr b247, cr x5, ci 0, ci 4, .val .null, cr b382] [(.int 4), (.ref b382), (.ref b247)]) _ _ _
 obtain ⟨_, _, ⟨T386, L386, k386, n386⟩, -, X386, ⟨Lc386, hQ386, l386, y386, z386⟩, st386⟩ := Jvm.LawKit.callS X380 hx (y := ym17) hown (mvT hZ (ow hw 29 rfl)) (mvT hZ (ow hw 30 rfl)) (mvT hZ (ow hw 23 rfl)) (mvT hZ (ow hw 31 rfl)) (by decide) (own_backOf (W := 1) (rx6_384 l Z a0 hw [] n0 h380 O380  b382 k383 c0_ c1_ c2_ c3_ Y380_0) hZ (ow hw 31 rfl) (ow hw 23 rfl) (by decide) (by decide)) (g := (mkF m 45 #[cr b247, cr x5, ci 0, ci 4, .val .null, cr b382] [(.int 4), (.ref b382), (.ref b247)])) rfl (by rw [hml]; rfl) (argsL := [(.ref b382), (.int 4)]) (rest := [(.ref b247)]) (lenOf pdx_8 rfl) rfl (by show 2 * 0 + _ ≤ _; exact Nat.le_of_eq rfl) (hb hby d2_45) (fun _ _ => ⟨rfl, e380, (by decide : 2 + 0 ≤ _), (by decide : 12 + 0 ≤ _)⟩)
 dsimp only [Pt.U, Pt.locs, Pt.cells, Pt.slots] at X386 l386 y386 z386 st386 hQ386
 subst l386 y386 z386
 obtain ⟨rfl, N386q, K386c⟩ := hQ386
 have N386 := Fr.app N380 N386q
 refine Ends.go st386 ?_
 obtain ⟨h386, e386⟩ : ∃ z, T386.heap = z := ⟨_, rfl⟩
 rw [e386] at K386c
 have K386 := K380.trans K386c all0
 have O386 := O380.keep K386c all0
 obtain ⟨T387, h387, X387, e387, W387, st387⟩ := putFN X386 hx hZ hown (ow hw 32 rfl) Via.refl e386 ((PF_b247_coder.keep K380c nin0).keep K386c nin0) ((PE_b247.keep K380c).keep K386c) (Or.inr ⟨(ow hw 33 rfl), rfl, hnm⟩) (ow hw 8 rfl) (ty := .byte) (v' := (.int 1)) (by decide) rfl (by decide) (g := (mkF m 48 #[cr b247, cr x5, ci 0, ci 4, .val .null, cr b382] [(.int 1), (.ref b247)])) rfl rfl (hb hby d2_48)
 refine Ends.go st387 ?_
 have Fw387 := ((PF_b247_coder.keep K380c nin0).keep K386c nin0).same W387
 have K387 := K386.wr W387 (Or.inl (List.mem_of_getElem? (i := 0) rfl))
 have O387 := O386.wr W387 g_b247
 have N387 := Fr.snoc X387 N386 g_b247
 refine walN X387 hx hby d2_51 rfl rfl ?_
 refine wal X387 hx hby d2_52 rfl rfl ?_
 obtain ⟨T388, h388, X388, e388, W388, st388⟩ := putF X387 hx hZ hown (host := "") (Or.inl (ow hw 34 rfl)) Via.refl e387 (((PF_b247_value.keep K380c nin0).keep K386c nin0).other W387 (Or.inr (slot_ne (Or.inr (ow hw 35 rfl)) (Or.inr (ow hw 33 rfl)) (by decide) (t := (.array .byte)) (t' := .byte) (by decide) (by decide)))) (((PE_b247.keep K380c).keep K386c).wr W387) (Or.inr ⟨(ow hw 35 rfl), rfl, hnm⟩) (ow hw 8 rfl) (ty := (.array .byte)) (by decide) rfl rfl (g := (mkF m 54 #[cr b247, cr x5, ci 0, ci 4, .val .null, cr b382] [(.ref b382), (.ref b247)])) rfl rfl (hb hby d2_54)
 refine Ends.go st388 ?_
 have Fw388 := (((PF_b247_value.keep K380c nin0).keep K386c nin0).other W387 (Or.inr (slot_ne (Or.inr (ow hw 35 rfl)) (Or.inr (ow hw 33 rfl)) (by decide) (t := (.array .byte)) (t' := .byte) (by decide) (by decide)))).same W388
 have K388 := K387.wr W388 (Or.inl (List.mem_of_getElem? (i := 0) rfl))
 have O388 := O387.wr W388 g_b247
 have N388 := Fr.snoc X388 N387 g_b247
 show Ends _ _ _ _ T388 (mkF m 57 #[cr b247, cr x5, ci 0, ci 4, .val .null, cr b382] []) _ _ _
 refine Ends.retV X388 hx Bd.notSynchronized Bd.returns (hb hby d2_57) (by decide) (by decide) ?_
 rw [e388]
 exact ⟨b381, b382, k383, rfl, N388, K388, sz_b381, sz_b382, (((Y380_0.keep K386c nin0).other W387 (Ne.symm (Nat.ne_of_lt (Nat.lt_of_lt_of_le PE_b247.lt sz_b382)))).other W388 (Ne.symm (Nat.ne_of_lt (Nat.lt_of_lt_of_le PE_b247.lt sz_b382)))), (Fw387.other W388 (Or.inr (slot_ne (Or.inr (ow hw 33 rfl)) (Or.inr (ow hw 35 rfl)) (by decide) (t := .byte) (t' := (.array .byte)) (by decide) (by decide)))), Fw388⟩

set_option maxRecDepth 65536 in
set_option maxHeartbeats 40000000 in
theorem rx1_328 (l : Launch) (Z : State) (a0 : Array Value) (hw : ∀ d ∈ tables_1, d.before a0 Z = true) (ws : List Jvm.Cond) (n0 : Nat) (h0 : Heap) (O0 : Old Z n0 h0) (G1 : Int32) (G3 : Value) (GF : GlobF Z G1 G3) (b247 : Addr) (x5 : Addr) (kx5 : ClassId) (c0_ : Int32) (c1_ : Int32) (c2_ : Int32) (c3_ : Int32) (PV_x5 : Arv Z h0 x5 kx5 .char (4 : Int32) [(.int c0_), (.int c1_), (.int c2_), (.int c3_)] (.int 0)) (PE_b247 : Exa Z h0 b247 "java/lang/String") (PF_b247_coder : Fld Z h0 b247 "java/lang/String" "coder" "B" (.int 0)) (PF_b247_value : Fld Z h0 b247 "java/lang/String" "value" "[B" .null) (g_b247 : n0 ≤ b247) (hbig_ : ¬ (own_lat c0_ c1_ c2_ c3_)) (hc0_ : 0 ≤ c0_.toInt ∧ c0_.toInt < 65536) (hc1_ : 0 ≤ c1_.toInt ∧ c1_.toInt < 65536) (hc2_ : 0 ≤ c2_.toInt ∧ c2_.toInt < 65536) (hc3_ : 0 ≤ c3_.toInt ∧ c3_.toInt < 65536) :
  Meets1 l ym19 jdk_42_method_3_code 2 none ws ({ frames := 5, cells := 2, slots := 12, locals := 74 } : Room) #[(.ref b247), (.ref x5)] Z h0 (fun v h L => ∃ (b390 : Addr) (b391 : Addr) (k392 : ClassId), v = none ∧ Fr n0 L ∧ Keep h0 h [b247] ∧ h0.size ≤ b390 ∧ h0.size ≤ b391 ∧ Arv Z h b391 k392 .byte (8 : Int32) [(.int ((c0_ >>> ((0 : Int32) &&& 31)).toInt8.toInt32)), (.int ((c0_ >>> ((8 : Int32) &&& 31)).toInt8.toInt32)), (.int ((c1_ >>> ((0 : Int32) &&& 31)).toInt8.toInt32)), (.int ((c1_ >>> ((8 : Int32) &&& 31)).toInt8.toInt32)), (.int ((c2_ >>> ((0 : Int32) &&& 31)).toInt8.toInt32)), (.int ((c2_ >>> ((8 : Int32) &&& 31)).toInt8.toInt32)), (.int ((c3_ >>> ((0 : Int32) &&& 31)).toInt8.toInt32)), (.int ((c3_ >>> ((8 : Int32) &&& 31)).toInt8.toInt32))] (.int 0) ∧ Fld Z h b247 "java/lang/String" "coder" "B" (.int 1) ∧ Fld Z h b247 "java/lang/String" "value" "[B" (.ref b391)) := by
 refine MetFree.of_bodySF (plainFor_of_name pn1) hisR ?_
 intro p e s m args below meth c s₁ Bd hml0 hP hK
 obtain ⟨rfl, hZ, hh⟩ := hP
 have hx := Bd.exec
 have hby := Bd.bytes
 have hml : c.maxLocals = 2 := hml0
 have hown : s.vm.findClass "java/lang/String" = some m.cls := findClass_of_methodNamed Bd.named
 have hnm := (name_of_methodNamed Bd.named Bd.method).1
 have X0 : Stand p l e ({ frames := 5, cells := 2, slots := 12, locals := 74 } : Room) s m #[(.ref b247), (.ref x5)] below meth c s₁ [] 0 0 := Stand.of_body Bd
 have e0 : s₁.heap = h0 := by rw [← hh, Bd.state]; rfl
 have N0 := Fr.nil n0
 have Z0 := own_old_le O0
 show Ends _ _ _ _ s₁ (entryFrame m #[(.ref b247), (.ref x5)] 2) ({ frames := 5, cells := 2, slots := 12, locals := 74 } : Room).cells ({ frames := 5, cells := 2, slots := 12, locals := 74 } : Room).slots (fun v h L => ∃ (b390 : Addr) (b391 : Addr) (k392 : ClassId), v = none ∧ Fr n0 L ∧ Keep h0 h [b247] ∧ h0.size ≤ b390 ∧ h0.size ≤ b391 ∧ Arv Z h b391 k392 .byte (8 : Int32) [(.int ((c0_ >>> ((0 : Int32) &&& 31)).toInt8.toInt32)), (.int ((c0_ >>> ((8 : Int32) &&& 31)).toInt8.toInt32)), (.int ((c1_ >>> ((0 : Int32) &&& 31)).toInt8.toInt32)), (.int ((c1_ >>> ((8 : Int32) &&& 31)).toInt8.toInt32)), (.int ((c2_ >>> ((0 : Int32) &&& 31)).toInt8.toInt32)), (.int ((c2_ >>> ((8 : Int32) &&& 31)).toInt8.toInt32)), (.int ((c3_ >>> ((0 : Int32) &&& 31)).toInt8.toInt32)), (.int ((c3_ >>> ((8 : Int32) &&& 31)).toInt8.toInt32))] (.int 0) ∧ Fld Z h b247 "java/lang/String" "coder" "B" (.int 1) ∧ Fld Z h b247 "java/lang/String" "value" "[B" (.ref b391))
 refine Ends.go (fun _ k => castTop (ef1_rr m b247 x5) k) ?_
 obtain ⟨SCS, P5, SAD, SHI, SLO, SSF, RG3⟩ := id GF
 have K0 := Keep.refl h0 [b247]
 show Ends _ _ _ _ s₁ (mkF m 0 #[cr b247, cr x5] []) _ _ _
 refine walN X0 hx hby d1_0 rfl rfl ?_
 refine walN X0 hx hby d1_1 rfl rfl ?_
 refine wic X0 hx hby d1_2 ?_
 refine walN X0 hx hby d1_3 rfl rfl ?_
 show Ends _ _ _ _ s₁ (mkF m 4 #[cr b247, cr x5] [(.ref x5), (.int 0), (.ref x5), (.ref b247)]) _ _ _
 obtain ⟨cl329, Ar329, q329, S329, M329, H329, G329⟩ := id PV_x5
 refine Ends.go (X0.arraylength hx (by rw [e0]; exact Ar329.1) (State.isArrayOf_alike hZ.alike Ar329.2.1) (g := (mkF m 4 #[cr b247, cr x5] [(.ref x5), (.int 0), (.ref x5), (.ref b247)])) rfl rfl (hb hby d1_4)) ?_
 rw [len_of S329 M329]
 refine .go (fun _ => XS.aconstNull X0.here hx rfl (hb hby d1_5)) ?_
 obtain ⟨_, _, ⟨T389, L389, k389, n389⟩, -, X389, ⟨Lc389, hQ389, l389, y389, z389⟩, st389⟩ := X0.specialBack hx (y := ym18) rfl hown (mvT hZ (ow hw 13 rfl)) (mvT hZ (ow hw 14 rfl)) (mvT hZ (ow hw 16 rfl)) (by decide) (own_backOf (W := 0) (rx2_330 l Z a0 hw [] n0 h0 O0 G1 G3 GF b247 x5 kx5 c0_ c1_ c2_ c3_ PV_x5 PE_b247 PF_b247_coder PF_b247_value g_b247 hbig_ hc0_ hc1_ hc2_ hc3_) hZ (ow hw 16 rfl) (ow hw 9 rfl) (by decide) (by decide)) (g := (mkF m 6 #[cr b247, cr x5] [.null, (.int 4), (.int 0), (.ref x5), (.ref b247)])) rfl (by rw [hml]; rfl) (Steps.refl _) (a := b247) (argsL := [(.ref x5), (.int 0), (.int 4), .null]) (rest := []) (lenOf pdx_9 rfl) rfl (by show 2 * 0 + _ ≤ _; exact Nat.le_of_eq rfl) (hb hby d1_6) (fun _ _ => ⟨rfl, e0, (by decide : 0 + 2 ≤ _), (by decide : 0 + 12 ≤ _)⟩)
 dsimp only [Pt.U, Pt.locs, Pt.cells, Pt.slots] at X389 l389 y389 z389 st389 hQ389
 subst l389 y389 z389
 obtain ⟨b390, b391, k392, rfl, N389q, K389c, hb389_b390, hb389_b391, Y389_0, Y389_1, Y389_2⟩ := hQ389
 have N389 := Fr.app N0 N389q
 refine Ends.go (fun _ k => st389.trans k) ?_
 have g_b390 : n0 ≤ b390 := Nat.le_trans (own_old_le O0) hb389_b390
 have sz_b390 : h0.size ≤ b390 := Nat.le_trans K0.1 hb389_b390
 have g_b391 : n0 ≤ b391 := Nat.le_trans (own_old_le O0) hb389_b391
 have sz_b391 : h0.size ≤ b391 := Nat.le_trans K0.1 hb389_b391
 obtain ⟨h389, e389⟩ : ∃ z, T389.heap = z := ⟨_, rfl⟩
 rw [e389] at K389c Y389_0 Y389_1 Y389_2
 have K389 := K0.trans K389c (allS (Or.inl (List.mem_of_getElem? (i := 0) rfl)) all0)
 have O389 := O0.keep K389c (allS g_b247 all0)
 refine Ends.retV X389 hx Bd.notSynchronized Bd.returns (hb hby d1_9) (by decide) (by decide) ?_
 rw [e389]
 exact ⟨b390, b391, k392, rfl, N389, K389, sz_b390, sz_b391, Y389_0, Y389_1, Y389_2⟩

set_option maxRecDepth 65536 in
set_option maxHeartbeats 40000000 in
theorem rx10_403 (l : Launch) (Z : State) (a0 : Array Value) (hw : ∀ d ∈ tables_1, d.before a0 Z = true) (ws : List Jvm.Cond) (n0 : Nat) (h0 : Heap) (O0 : Old Z n0 h0) (G1 : Int32) (G3 : Value) (GF : GlobF Z G1 G3) (b247 : Addr) (PF_b247_coder : Fld Z h0 b247 "java/lang/String" "coder" "B" (.int 1)) :
  Meets1 l ym21 jdk_42_method_152_code 1 (some .byte) ws ({ frames := 0, cells := 0, slots := 0, locals := 0 } : Room) #[(.ref b247)] Z h0 (fun v h L => v = some (.int 1) ∧ Fr n0 L ∧ Keep h0 h []) := by
 refine MetFree.of_bodySF (plainFor_of_name pn10) hisR ?_
 intro p e s m args below meth c s₁ Bd hml0 hP hK
 obtain ⟨rfl, hZ, hh⟩ := hP
 have hx := Bd.exec
 have hby := Bd.bytes
 have hml : c.maxLocals = 1 := hml0
 have hown : s.vm.findClass "java/lang/String" = some m.cls := findClass_of_methodNamed Bd.named
 have hnm := (name_of_methodNamed Bd.named Bd.method).1
 have X0 : Stand p l e ({ frames := 0, cells := 0, slots := 0, locals := 0 } : Room) s m #[(.ref b247)] below meth c s₁ [] 0 0 := Stand.of_body Bd
 have e0 : s₁.heap = h0 := by rw [← hh, Bd.state]; rfl
 have N0 := Fr.nil n0
 have Z0 := own_old_le O0
 show Ends _ _ _ _ s₁ (entryFrame m #[(.ref b247)] 1) ({ frames := 0, cells := 0, slots := 0, locals := 0 } : Room).cells ({ frames := 0, cells := 0, slots := 0, locals := 0 } : Room).slots (fun v h L => v = some (.int 1) ∧ Fr n0 L ∧ Keep h0 h [])
 refine Ends.go (fun _ k => castTop (ef10_r m b247) k) ?_
 obtain ⟨SCS, P5, SAD, SHI, SLO, SSF, RG3⟩ := id GF
 have K0 := Keep.refl h0 []
 show Ends _ _ _ _ s₁ (mkF m 0 #[cr b247] []) _ _ _
 obtain ⟨T404, X404, e404, st404⟩ := getS2 X0 hx hZ hown (host := "") (Or.inl (ow hw 20 rfl)) Via.refl e0 (SCS.ext O0.2) (g := (mkF m 0 #[cr b247] [])) rfl (hb hby d10_0)
 refine Ends.go st404 ?_
 refine win X404 hx hby d10_3 ((if0 _ _).trans (feq (P5 : ¬ (G1 = (0 : Int32)))).1) ?_
 refine walN X404 hx hby d10_6 rfl rfl ?_
 obtain ⟨T405, X405, e405, st405⟩ := getF X404 hx hZ hown (host := "") (Or.inl (ow hw 32 rfl)) Via.refl e404 PF_b247_coder (g := (mkF m 7 #[cr b247] [(.ref b247)])) rfl rfl (hb hby d10_7)
 refine Ends.go st405 ?_
 show Ends _ _ _ _ T405 (mkF m 10 #[cr b247] [(.int 1)]) _ _ _
 refine wgo (pc := 10) (pc' := 14) X405 hx hby d10_10 (by decide) (by decide) ?_
 refine Ends.retZ X405 hx Bd.notSynchronized (t := .byte) Bd.returns (by simp) (hb hby d10_14) (by decide) (by decide) ?_
 rw [e405]
 exact ⟨rfl, N0, K0⟩

set_option maxRecDepth 65536 in
set_option maxHeartbeats 40000000 in
theorem rx9_400 (l : Launch) (Z : State) (a0 : Array Value) (hw : ∀ d ∈ tables_1, d.before a0 Z = true) (ws : List Jvm.Cond) (n0 : Nat) (h0 : Heap) (O0 : Old Z n0 h0) (G1 : Int32) (G3 : Value) (GF : GlobF Z G1 G3) (b247 : Addr) (b395 : Addr) (k396 : ClassId) (c0_ : Int32) (c1_ : Int32) (c2_ : Int32) (c3_ : Int32) (PF_b247_value : Fld Z h0 b247 "java/lang/String" "value" "[B" (.ref b395)) (PV_b395 : Arv Z h0 b395 k396 .byte (8 : Int32) [(.int ((c0_ >>> ((0 : Int32) &&& 31)).toInt8.toInt32)), (.int ((c0_ >>> ((8 : Int32) &&& 31)).toInt8.toInt32)), (.int ((c1_ >>> ((0 : Int32) &&& 31)).toInt8.toInt32)), (.int ((c1_ >>> ((8 : Int32) &&& 31)).toInt8.toInt32)), (.int ((c2_ >>> ((0 : Int32) &&& 31)).toInt8.toInt32)), (.int ((c2_ >>> ((8 : Int32) &&& 31)).toInt8.toInt32)), (.int ((c3_ >>> ((0 : Int32) &&& 31)).toInt8.toInt32)), (.int ((c3_ >>> ((8 : Int32) &&& 31)).toInt8.toInt32))] (.int 0)) (PF_b247_coder : Fld Z h0 b247 "java/lang/String" "coder" "B" (.int 1)) (PE_b247 : Exa Z h0 b247 "java/lang/String") :
  Meets1 l ym22 jdk_42_method_54_code 1 (some .int) ws ({ frames := 1, cells := 0, slots := 0, locals := 13 } : Room) #[(.ref b247)] Z h0 (fun v h L => v = some (.int 4) ∧ Fr n0 L ∧ Keep h0 h []) := by
 refine MetFree.of_bodySF (plainFor_of_name pn9) hisR ?_
 intro p e s m args below meth c s₁ Bd hml0 hP hK
 obtain ⟨rfl, hZ, hh⟩ := hP
 have hx := Bd.exec
 have hby := Bd.bytes
 have hml : c.maxLocals = 1 := hml0
 have hown : s.vm.findClass "java/lang/String" = some m.cls := findClass_of_methodNamed Bd.named
 have hnm := (name_of_methodNamed Bd.named Bd.method).1
 have X0 : Stand p l e ({ frames := 1, cells := 0, slots := 0, locals := 13 } : Room) s m #[(.ref b247)] below meth c s₁ [] 0 0 := Stand.of_body Bd
 have e0 : s₁.heap = h0 := by rw [← hh, Bd.state]; rfl
 have N0 := Fr.nil n0
 have Z0 := own_old_le O0
 show Ends _ _ _ _ s₁ (entryFrame m #[(.ref b247)] 1) ({ frames := 1, cells := 0, slots := 0, locals := 13 } : Room).cells ({ frames := 1, cells := 0, slots := 0, locals := 13 } : Room).slots (fun v h L => v = some (.int 4) ∧ Fr n0 L ∧ Keep h0 h [])
 refine Ends.go (fun _ k => castTop (ef9_r m b247) k) ?_
 obtain ⟨SCS, P5, SAD, SHI, SLO, SSF, RG3⟩ := id GF
 have K0 := Keep.refl h0 []
 show Ends _ _ _ _ s₁ (mkF m 0 #[cr b247] []) _ _ _
 refine walN X0 hx hby d9_0 rfl rfl ?_
 obtain ⟨T401, X401, e401, st401⟩ := getF X0 hx hZ hown (host := "") (Or.inl (ow hw 34 rfl)) Via.refl e0 PF_b247_value (g := (mkF m 1 #[cr b247] [(.ref b247)])) rfl rfl (hb hby d9_1)
 refine Ends.go st401 ?_
 obtain ⟨cl402, Ar402, q402, S402, M402, H402, G402⟩ := id PV_b395
 refine Ends.go (X401.arraylength hx (by rw [e401]; exact Ar402.1) (State.isArrayOf_alike hZ.alike Ar402.2.1) (g := (mkF m 4 #[cr b247] [(.ref b395)])) rfl rfl (hb hby d9_4)) ?_
 rw [len_of S402 M402]
 refine walN X401 hx hby d9_5 rfl rfl ?_
 show Ends _ _ _ _ T401 (mkF m 6 #[cr b247] [(.ref b247), (.int 8)]) _ _ _
 obtain ⟨cq406, kq406, q406a, q406b, q406c⟩ := isOf hZ e401 PE_b247
 obtain ⟨_, _, ⟨T406, L406, k406, n406⟩, -, X406, ⟨Lc406, hQ406, l406, y406, z406⟩, st406⟩ := X401.virtualBack hx (y := ym21) (z := ym21) hown (mvT hZ (ow hw 52 rfl)) (mvT hZ (ow hw 53 rfl)) (notFace_of_selects (args := #[]) (mvT hZ (ow hw 55 rfl))) (mvT hZ (ow hw 55 rfl)) (mvT hZ (ow hw 54 rfl)) (by decide) (own_backOf (W := 1) (rx10_403 l Z a0 hw [] n0 h0 O0 G1 G3 GF b247 PF_b247_coder) hZ (ow hw 56 rfl) (ow hw 9 rfl) (by decide) (by decide)) q406a q406c (g := (mkF m 6 #[cr b247] [(.ref b247), (.int 8)])) rfl (by rw [hml]; rfl) (Steps.refl _) (argsL := []) (rest := [(.int 8)]) (lenOf pdx_11 rfl) rfl (by show 2 * 0 + _ ≤ _; exact Nat.le_of_eq rfl) (hb hby d9_6) (fun _ _ => ⟨rfl, e401, (by decide : 0 + 0 ≤ _), (by decide : 0 + 0 ≤ _)⟩)
 dsimp only [Pt.U, Pt.locs, Pt.cells, Pt.slots] at X406 l406 y406 z406 st406 hQ406
 subst l406 y406 z406
 obtain ⟨rfl, N406q, K406c⟩ := hQ406
 have N406 := Fr.app N0 N406q
 refine Ends.go (fun _ k => st406.trans k) ?_
 obtain ⟨h406, e406⟩ : ∃ z, T406.heap = z := ⟨_, rfl⟩
 rw [e406] at K406c
 have K406 := K0.trans K406c all0
 have O406 := O0.keep K406c all0
 refine .go (fun _ => XS.ishr X406.here hx rfl (hb hby d9_9) rfl) ?_
 refine Ends.ret X406 hx Bd.notSynchronized (t := .int) Bd.returns rfl (Or.inl ⟨rfl, by simp, _, rfl⟩) (hb hby d9_10) (by decide) (by decide) ?_
 rw [e406]
 exact ⟨rfl, N406, K406⟩

theorem d17_17 : decode jdk_42_method_154_code 17 = .ok (.iconst 0, 1) := by decide +kernel
set_option maxRecDepth 65536 in
set_option maxHeartbeats 40000000 in
theorem rx17_421 (l : Launch) (Z : State) (a0 : Array Value) (hw : ∀ d ∈ tables_1, d.before a0 Z = true) (ws : List Jvm.Cond) (n0 : Nat) (h0 : Heap) (O0 : Old Z n0 h0) (G1 : Int32) (G3 : Value) (GF : GlobF Z G1 G3) (b247 : Addr) (PF_b247_coder : Fld Z h0 b247 "java/lang/String" "coder" "B" (.int 1)) :
  Meets1 l ym24 jdk_42_method_154_code 1 (some .boolean) ws ({ frames := 0, cells := 0, slots := 0, locals := 0 } : Room) #[(.ref b247)] Z h0 (fun v h L => v = some (.int 0) ∧ Fr n0 L ∧ Keep h0 h []) := by
 refine MetFree.of_bodySF (plainFor_of_name pn17) hisR ?_
 intro p e s m args below meth c s₁ Bd hml0 hP hK
 obtain ⟨rfl, hZ, hh⟩ := hP
 have hx := Bd.exec
 have hby := Bd.bytes
 have hml : c.maxLocals = 1 := hml0
 have hown : s.vm.findClass "java/lang/String" = some m.cls := findClass_of_methodNamed Bd.named
 have hnm := (name_of_methodNamed Bd.named Bd.method).1
 have X0 : Stand p l e ({ frames := 0, cells := 0, slots := 0, locals := 0 } : Room) s m #[(.ref b247)] below meth c s₁ [] 0 0 := Stand.of_body Bd
 have e0 : s₁.heap = h0 := by rw [← hh, Bd.state]; rfl
 have N0 := Fr.nil n0
 have Z0 := own_old_le O0
 show Ends _ _ _ _ s₁ (entryFrame m #[(.ref b247)] 1) ({ frames := 0, cells := 0, slots := 0, locals := 0 } : Room).cells ({ frames := 0, cells := 0, slots := 0, locals := 0 } : Room).slots (fun v h L => v = some (.int 0) ∧ Fr n0 L ∧ Keep h0 h [])
 refine Ends.go (fun _ k => castTop (ef17_r m b247) k) ?_
 obtain ⟨SCS, P5, SAD, SHI, SLO, SSF, RG3⟩ := id GF
 have K0 := Keep.refl h0 []
 show Ends _ _ _ _ s₁ (mkF m 0 #[cr b247] []) _ _ _
 obtain ⟨T422, X422, e422, st422⟩ := getS2 X0 hx hZ hown (host := "") (Or.inl (ow hw 20 rfl)) Via.refl e0 (SCS.ext O0.2) (g := (mkF m 0 #[cr b247] [])) rfl (hb hby d17_0)
 refine Ends.go st422 ?_
 refine win X422 hx hby d17_3 ((if0 _ _).trans (feq (P5 : ¬ (G1 = (0 : Int32)))).1) ?_
 refine walN X422 hx hby d17_6 rfl rfl ?_
 obtain ⟨T423, X423, e423, st423⟩ := getF X422 hx hZ hown (host := "") (Or.inl (ow hw 32 rfl)) Via.refl e422 PF_b247_coder (g := (mkF m 7 #[cr b247] [(.ref b247)])) rfl rfl (hb hby d17_7)
 refine Ends.go st423 ?_
 show Ends _ _ _ _ T423 (mkF m 10 #[cr b247] [(.int 1)]) _ _ _
 refine wiy (pc := 10) (pc' := 17) X423 hx hby d17_10 ((if0 _ _).trans (feq (by decide : ¬ ((1 : Int32) = (0 : Int32)))).2) (by decide) (by decide) ?_
 refine wic X423 hx hby d17_17 ?_
 refine Ends.retZ X423 hx Bd.notSynchronized (t := .boolean) Bd.returns (by simp) (hb hby d17_18) (by decide) (by decide) ?_
 rw [e423]
 exact ⟨rfl, N0, K0⟩

theorem d35_0 : decode jdk_52_method_6_code 0 = .ok (.aload_n 0, 1) := by decide +kernel
theorem d35_1 : decode jdk_52_method_6_code 1 = .ok (.arraylength, 1) := by decide +kernel
theorem d35_2 : decode jdk_52_method_6_code 2 = .ok (.iconst 1, 1) := by decide +kernel
theorem d35_3 : decode jdk_52_method_6_code 3 = .ok (.ishr, 1) := by decide +kernel
theorem d35_4 : decode jdk_52_method_6_code 4 = .ok (.ireturn, 1) := by decide +kernel
theorem pn35 : plainName "java/lang/StringUTF16" = true := by first | (simp [plainName, overriddenIn]; done) | decide +kernel
theorem ef35_r (m : MethodId) (x0 : Addr) : entryFrame m #[(.ref x0)] 1 = mkF m 0 #[.val (.ref x0)] [] := by first | (simp [entryFrame, mkF, argsToLocals, Value.category]; done) | rfl
set_option maxRecDepth 65536 in
set_option maxHeartbeats 40000000 in
theorem rx35_428 (l : Launch) (Z : State) (a0 : Array Value) (hw : ∀ d ∈ tables_1, d.before a0 Z = true) (ws : List Jvm.Cond) (n0 : Nat) (h0 : Heap) (O0 : Old Z n0 h0)  (b395 : Addr) (k396 : ClassId) (c0_ : Int32) (c1_ : Int32) (c2_ : Int32) (c3_ : Int32) (PV_b395 : Arv Z h0 b395 k396 .byte (8 : Int32) [(.int ((c0_ >>> ((0 : Int32) &&& 31)).toInt8.toInt32)), (.int ((c0_ >>> ((8 : Int32) &&& 31)).toInt8.toInt32)), (.int ((c1_ >>> ((0 : Int32) &&& 31)).toInt8.toInt32)), (.int ((c1_ >>> ((8 : Int32) &&& 31)).toInt8.toInt32)), (.int ((c2_ >>> ((0 : Int32) &&& 31)).toInt8.toInt32)), (.int ((c2_ >>> ((8 : Int32) &&& 31)).toInt8.toInt32)), (.int ((c3_ >>> ((0 : Int32) &&& 31)).toInt8.toInt32)), (.int ((c3_ >>> ((8 : Int32) &&& 31)).toInt8.toInt32))] (.int 0)) :
  Meets1 l ym33 jdk_52_method_6_code 1 (some .int) ws ({ frames := 0, cells := 0, slots := 0, locals := 0 } : Room) #[(.ref b395)] Z h0 (fun v h L => v = some (.int 4) ∧ Fr n0 L ∧ Keep h0 h []) := by
 refine MetFree.of_bodySF (plainFor_of_name pn35) hisR ?_
 intro p e s m args below meth c s₁ Bd hml0 hP hK
 obtain ⟨rfl, hZ, hh⟩ := hP
 have hx := Bd.exec
 have hby := Bd.bytes
 have hml : c.maxLocals = 1 := hml0
 have hown : s.vm.findClass "java/lang/StringUTF16" = some m.cls := findClass_of_methodNamed Bd.named
 have hnm := (name_of_methodNamed Bd.named Bd.method).1
 have X0 : Stand p l e ({ frames := 0, cells := 0, slots := 0, locals := 0 } : Room) s m #[(.ref b395)] below meth c s₁ [] 0 0 := Stand.of_body Bd
 have e0 : s₁.heap = h0 := by rw [← hh, Bd.state]; rfl
 have N0 := Fr.nil n0
 have Z0 := own_old_le O0
 show Ends _ _ _ _ s₁ (entryFrame m #[(.ref b395)] 1) ({ frames := 0, cells := 0, slots := 0, locals := 0 } : Room).cells ({ frames := 0, cells := 0, slots := 0, locals := 0 } : Room).slots (fun v h L => v = some (.int 4) ∧ Fr n0 L ∧ Keep h0 h [])
 refine Ends.go (fun _ k => castTop (ef35_r m b395) k) ?_
 have K0 := Keep.refl h0 []
 show Ends _ _ _ _ s₁ (mkF m 0 #[cr b395] []) _ _ _
 refine walN X0 hx hby d35_0 rfl rfl ?_
 obtain ⟨cl429, Ar429, q429, S429, M429, H429, G429⟩ := id PV_b395
 refine Ends.go (X0.arraylength hx (by rw [e0]; exact Ar429.1) (State.isArrayOf_alike hZ.alike Ar429.2.1) (g := (mkF m 1 #[cr b395] [(.ref b395)])) rfl rfl (hb hby d35_1)) ?_
 rw [len_of S429 M429]
 refine wic X0 hx hby d35_2 ?_
 refine .go (fun _ => XS.ishr X0.here hx rfl (hb hby d35_3) rfl) ?_
 show Ends _ _ _ _ s₁ (mkF m 4 #[cr b395] [(.int 4)]) _ _ _
 refine Ends.ret X0 hx Bd.notSynchronized (t := .int) Bd.returns rfl (Or.inl ⟨rfl, by simp, _, rfl⟩) (hb hby d35_4) (by decide) (by decide) ?_
 rw [e0]
 exact ⟨rfl, N0, K0⟩

theorem d34_0 : decode jdk_52_method_94_code 0 = .ok (.iload_n 0, 1) := by decide +kernel
theorem d34_1 : decode jdk_52_method_94_code 1 = .ok (.iload_n 1, 1) := by decide +kernel
theorem d34_2 : decode jdk_52_method_94_code 2 = .ok (.aload_n 2, 1) := by decide +kernel
theorem d34_3 : decode jdk_52_method_94_code 3 = .ok (.invokestatic 48, 3) := by decide +kernel
theorem d34_6 : decode jdk_52_method_94_code 6 = .ok (.invokestatic 419, 3) := by decide +kernel
theorem d34_9 : decode jdk_52_method_94_code 9 = .ok (.pop, 1) := by decide +kernel
theorem d34_10 : decode jdk_52_method_94_code 10 = .ok (.return_, 1) := by decide +kernel
theorem pn34 : plainName "java/lang/StringUTF16" = true := by first | (simp [plainName, overriddenIn]; done) | decide +kernel
theorem pdx_24 : parseMethodDescriptor "([B)I" = some ⟨[(.array .byte)], some .int⟩ := by decide +kernel
theorem ef34_iir (m : MethodId) (x0 : Int32) (x1 : Int32) (x2 : Addr) : entryFrame m #[(.int x0), (.int x1), (.ref x2)] 3 = mkF m 0 #[.val (.int x0), .val (.int x1), .val (.ref x2)] [] := by first | (simp [entryFrame, mkF, argsToLocals, Value.category]; done) | rfl
set_option maxRecDepth 65536 in
set_option maxHeartbeats 40000000 in
theorem rx34_427 (l : Launch) (Z : State) (a0 : Array Value) (hw : ∀ d ∈ tables_1, d.before a0 Z = true) (ws : List Jvm.Cond) (n0 : Nat) (h0 : Heap) (O0 : Old Z n0 h0) (G1 : Int32) (G3 : Value) (GF : GlobF Z G1 G3) (b395 : Addr) (k396 : ClassId) (c0_ : Int32) (c1_ : Int32) (c2_ : Int32) (c3_ : Int32) (PV_b395 : Arv Z h0 b395 k396 .byte (8 : Int32) [(.int ((c0_ >>> ((0 : Int32) &&& 31)).toInt8.toInt32)), (.int ((c0_ >>> ((8 : Int32) &&& 31)).toInt8.toInt32)), (.int ((c1_ >>> ((0 : Int32) &&& 31)).toInt8.toInt32)), (.int ((c1_ >>> ((8 : Int32) &&& 31)).toInt8.toInt32)), (.int ((c2_ >>> ((0 : Int32) &&& 31)).toInt8.toInt32)), (.int ((c2_ >>> ((8 : Int32) &&& 31)).toInt8.toInt32)), (.int ((c3_ >>> ((0 : Int32) &&& 31)).toInt8.toInt32)), (.int ((c3_ >>> ((8 : Int32) &&& 31)).toInt8.toInt32))] (.int 0)) :
  Meets1 l ym34 jdk_52_method_94_code 3 none ws ({ frames := 2, cells := 0, slots := 0, locals := 29 } : Room) #[(.int 0), (.int 4), (.ref b395)] Z h0 (fun v h L => v = none ∧ Fr n0 L ∧ Keep h0 h []) := by
 refine MetFree.of_bodySF (plainFor_of_name pn34) hisR ?_
 intro p e s m args below meth c s₁ Bd hml0 hP hK
 obtain ⟨rfl, hZ, hh⟩ := hP
 have hx := Bd.exec
 have hby := Bd.bytes
 have hml : c.maxLocals = 3 := hml0
 have hown : s.vm.findClass "java/lang/StringUTF16" = some m.cls := findClass_of_methodNamed Bd.named
 have hnm := (name_of_methodNamed Bd.named Bd.method).1
 have X0 : Stand p l e ({ frames := 2, cells := 0, slots := 0, locals := 29 } : Room) s m #[(.int 0), (.int 4), (.ref b395)] below meth c s₁ [] 0 0 := Stand.of_body Bd
 have e0 : s₁.heap = h0 := by rw [← hh, Bd.state]; rfl
 have N0 := Fr.nil n0
 have Z0 := own_old_le O0
 show Ends _ _ _ _ s₁ (entryFrame m #[(.int 0), (.int 4), (.ref b395)] 3) ({ frames := 2, cells := 0, slots := 0, locals := 29 } : Room).cells ({ frames := 2, cells := 0, slots := 0, locals := 29 } : Room).slots (fun v h L => v = none ∧ Fr n0 L ∧ Keep h0 h [])
 refine Ends.go (fun _ k => castTop (ef34_iir m (0 : Int32) (4 : Int32) b395) k) ?_
 obtain ⟨SCS, P5, SAD, SHI, SLO, SSF, RG3⟩ := id GF
 have K0 := Keep.refl h0 []
 show Ends _ _ _ _ s₁ (mkF m 0 #[ci 0, ci 4, cr b395] []) _ _ _
 refine wilN X0 hx hby d34_0 rfl ?_
 refine wilN X0 hx hby d34_1 rfl ?_
 refine walN X0 hx hby d34_2 rfl rfl ?_
 obtain ⟨_, _, ⟨T430, L430, k430, n430⟩, -, X430, ⟨Lc430, hQ430, l430, y430, z430⟩, st430⟩ := Jvm.LawKit.callS X0 hx (y := ym33) hown (mvT hZ (ow hw 170 rfl)) (mvT hZ (ow hw 171 rfl)) (mvT hZ (ow hw 23 rfl)) (mvT hZ (ow hw 172 rfl)) (by decide) (own_backOf (W := 2) (rx35_428 l Z a0 hw [] n0 h0 O0  b395 k396 c0_ c1_ c2_ c3_ PV_b395) hZ (ow hw 172 rfl) (ow hw 23 rfl) (by decide) (by decide)) (g := (mkF m 3 #[ci 0, ci 4, cr b395] [(.ref b395), (.int 4), (.int 0)])) rfl (by rw [hml]; rfl) (argsL := [(.ref b395)]) (rest := [(.int 4), (.int 0)]) (lenOf pdx_24 rfl) rfl (by show 2 * 0 + _ ≤ _; exact Nat.le_of_eq rfl) (hb hby d34_3) (fun _ _ => ⟨rfl, e0, (by decide : 0 + 0 ≤ _), (by decide : 0 + 0 ≤ _)⟩)
 dsimp only [Pt.U, Pt.locs, Pt.cells, Pt.slots] at X430 l430 y430 z430 st430 hQ430
 subst l430 y430 z430
 obtain ⟨rfl, N430q, K430c⟩ := hQ430
 have N430 := Fr.app N0 N430q
 refine Ends.go st430 ?_
 obtain ⟨h430, e430⟩ : ∃ z, T430.heap = z := ⟨_, rfl⟩
 rw [e430] at K430c
 have K430 := K0.trans K430c all0
 have O430 := O0.keep K430c all0
 show Ends _ _ _ _ T430 (mkF m 6 #[ci 0, ci 4, cr b395] [(.int 4), (.int 4), (.int 0)]) _ _ _
 obtain ⟨_, _, ⟨T431, L431, k431, n431⟩, -, X431, ⟨Lc431, hQ431, l431, y431, z431⟩, st431⟩ := Jvm.LawKit.callS X430 hx (y := ym4) hown (mvT hZ (ow hw 173 rfl)) (mvT hZ (ow hw 80 rfl)) (mvT hZ (ow hw 9 rfl)) (mvT hZ (ow hw 81 rfl)) (by decide) (own_backOf (W := 0) (rm_checkBoundsOffCount l Z a0 hw [] n0 h430 O430 (0 : Int32) (4 : Int32) (4 : Int32) G1 G3 GF (by decide) (by decide)) hZ (ow hw 81 rfl) (ow hw 9 rfl) (by decide) (by decide)) (g := (mkF m 6 #[ci 0, ci 4, cr b395] [(.int 4), (.int 4), (.int 0)])) rfl (by rw [hml]; rfl) (argsL := [(.int 0), (.int 4), (.int 4)]) (rest := []) (lenOf pdx_15 rfl) rfl (by show 2 * 0 + _ ≤ _; exact Nat.le_of_eq rfl) (hb hby d34_6) (fun _ _ => ⟨rfl, e430, (by decide : 0 + 0 ≤ _), (by decide : 0 + 0 ≤ _)⟩)
 dsimp only [Pt.U, Pt.locs, Pt.cells, Pt.slots] at X431 l431 y431 z431 st431 hQ431
 subst l431 y431 z431
 obtain ⟨rfl, N431q, e431q⟩ := hQ431
 have N431 := Fr.app N430 N431q
 refine Ends.go st431 ?_
 refine .go (fun _ => XS.pop X431.here hx rfl (hb hby d34_9) rfl rfl) ?_
 refine Ends.retV X431 hx Bd.notSynchronized Bd.returns (hb hby d34_10) (by decide) (by decide) ?_
 rw [e431q]
 exact ⟨rfl, N431, K430⟩

theorem d33_0 : decode jdk_52_method_26_code 0 = .ok (.iload_n 1, 1) := by decide +kernel
theorem d33_1 : decode jdk_52_method_26_code 1 = .ok (.iload_n 2, 1) := by decide +kernel
theorem d33_2 : decode jdk_52_method_26_code 2 = .ok (.if_icmp .ge 11, 3) := by decide +kernel
theorem d33_5 : decode jdk_52_method_26_code 5 = .ok (.iload_n 1, 1) := by decide +kernel
theorem d33_6 : decode jdk_52_method_26_code 6 = .ok (.iload_n 2, 1) := by decide +kernel
theorem d33_7 : decode jdk_52_method_26_code 7 = .ok (.iload_n 1, 1) := by decide +kernel
theorem d33_8 : decode jdk_52_method_26_code 8 = .ok (.isub, 1) := by decide +kernel
theorem d33_9 : decode jdk_52_method_26_code 9 = .ok (.aload_n 0, 1) := by decide +kernel
theorem d33_10 : decode jdk_52_method_26_code 10 = .ok (.invokestatic 173, 3) := by decide +kernel
theorem d33_13 : decode jdk_52_method_26_code 13 = .ok (.iload_n 1, 1) := by decide +kernel
theorem d33_14 : decode jdk_52_method_26_code 14 = .ok (.istore 5, 2) := by decide +kernel
theorem d33_16 : decode jdk_52_method_26_code 16 = .ok (.iload 5, 2) := by decide +kernel
theorem d33_18 : decode jdk_52_method_26_code 18 = .ok (.iload_n 2, 1) := by decide +kernel
theorem d33_19 : decode jdk_52_method_26_code 19 = .ok (.if_icmp .ge 22, 3) := by decide +kernel
theorem d33_22 : decode jdk_52_method_26_code 22 = .ok (.aload_n 3, 1) := by decide +kernel
theorem d33_23 : decode jdk_52_method_26_code 23 = .ok (.iload 4, 2) := by decide +kernel
theorem d33_25 : decode jdk_52_method_26_code 25 = .ok (.iinc 4 1, 3) := by decide +kernel
theorem d33_28 : decode jdk_52_method_26_code 28 = .ok (.aload_n 0, 1) := by decide +kernel
theorem d33_29 : decode jdk_52_method_26_code 29 = .ok (.iload 5, 2) := by decide +kernel
theorem d33_31 : decode jdk_52_method_26_code 31 = .ok (.invokestatic 71, 3) := by decide +kernel
theorem d33_34 : decode jdk_52_method_26_code 34 = .ok (.castore, 1) := by decide +kernel
theorem d33_35 : decode jdk_52_method_26_code 35 = .ok (.iinc 5 1, 3) := by decide +kernel
theorem d33_38 : decode jdk_52_method_26_code 38 = .ok (.goto (-22), 3) := by decide +kernel
theorem d33_41 : decode jdk_52_method_26_code 41 = .ok (.return_, 1) := by decide +kernel
theorem pn33 : plainName "java/lang/StringUTF16" = true := by first | (simp [plainName, overriddenIn]; done) | decide +kernel
theorem pdx_25 : parseMethodDescriptor "(II[B)V" = some ⟨[.int, .int, (.array .byte)], none⟩ := by decide +kernel
theorem ef33_riiri (m : MethodId) (x0 : Addr) (x1 : Int32) (x2 : Int32) (x3 : Addr) (x4 : Int32) : entryFrame m #[(.ref x0), (.int x1), (.int x2), (.ref x3), (.int x4)] 6 = mkF m 0 #[.val (.ref x0), .val (.int x1), .val (.int x2), .val (.ref x3), .val (.int x4), .unset] [] := by first | (simp [entryFrame, mkF, argsToLocals, Value.category]; done) | rfl
set_option maxRecDepth 65536 in
set_option maxHeartbeats 40000000 in
theorem rx33_426 (l : Launch) (Z : State) (a0 : Array Value) (hw : ∀ d ∈ tables_1, d.before a0 Z = true) (ws : List Jvm.Cond) (n0 : Nat) (h0 : Heap) (O0 : Old Z n0 h0) (G1 : Int32) (G3 : Value) (GF : GlobF Z G1 G3) (b395 : Addr) (b409 : Addr) (k396 : ClassId) (c0_ : Int32) (c1_ : Int32) (c2_ : Int32) (c3_ : Int32) (k409 : ClassId) (PV_b395 : Arv Z h0 b395 k396 .byte (8 : Int32) [(.int ((c0_ >>> ((0 : Int32) &&& 31)).toInt8.toInt32)), (.int ((c0_ >>> ((8 : Int32) &&& 31)).toInt8.toInt32)), (.int ((c1_ >>> ((0 : Int32) &&& 31)).toInt8.toInt32)), (.int ((c1_ >>> ((8 : Int32) &&& 31)).toInt8.toInt32)), (.int ((c2_ >>> ((0 : Int32) &&& 31)).toInt8.toInt32)), (.int ((c2_ >>> ((8 : Int32) &&& 31)).toInt8.toInt32)), (.int ((c3_ >>> ((0 : Int32) &&& 31)).toInt8.toInt32)), (.int ((c3_ >>> ((8 : Int32) &&& 31)).toInt8.toInt32))] (.int 0)) (PV_b409 : Arv Z h0 b409 k409 .char (4 : Int32) [(.int 0), (.int 0), (.int 0), (.int 0)] (.int 0)) (ne_b395_b409 : b395 ≠ b409) (g_b409 : n0 ≤ b409) (hc0_ : 0 ≤ c0_.toInt ∧ c0_.toInt < 65536) (hc1_ : 0 ≤ c1_.toInt ∧ c1_.toInt < 65536) (hc2_ : 0 ≤ c2_.toInt ∧ c2_.toInt < 65536) (hc3_ : 0 ≤ c3_.toInt ∧ c3_.toInt < 65536) :
  Meets1 l ym35 jdk_52_method_26_code 6 none ws ({ frames := 3, cells := 0, slots := 0, locals := 43 } : Room) #[(.ref b395), (.int 0), (.int 4), (.ref b409), (.int 0)] Z h0 (fun v h L => v = none ∧ Fr n0 L ∧ Keep h0 h [b409] ∧ Arv Z h b409 k409 .char (4 : Int32) [(.int c0_), (.int c1_), (.int c2_), (.int c3_)] (.int 0)) := by
 refine MetFree.of_bodySF (plainFor_of_name pn33) hisR ?_
 intro p e s m args below meth c s₁ Bd hml0 hP hK
 obtain ⟨rfl, hZ, hh⟩ := hP
 have hx := Bd.exec
 have hby := Bd.bytes
 have hml : c.maxLocals = 6 := hml0
 have hown : s.vm.findClass "java/lang/StringUTF16" = some m.cls := findClass_of_methodNamed Bd.named
 have hnm := (name_of_methodNamed Bd.named Bd.method).1
 have X0 : Stand p l e ({ frames := 3, cells := 0, slots := 0, locals := 43 } : Room) s m #[(.ref b395), (.int 0), (.int 4), (.ref b409), (.int 0)] below meth c s₁ [] 0 0 := Stand.of_body Bd
 have e0 : s₁.heap = h0 := by rw [← hh, Bd.state]; rfl
 have N0 := Fr.nil n0
 have Z0 := own_old_le O0
 show Ends _ _ _ _ s₁ (entryFrame m #[(.ref b395), (.int 0), (.int 4), (.ref b409), (.int 0)] 6) ({ frames := 3, cells := 0, slots := 0, locals := 43 } : Room).cells ({ frames := 3, cells := 0, slots := 0, locals := 43 } : Room).slots (fun v h L => v = none ∧ Fr n0 L ∧ Keep h0 h [b409] ∧ Arv Z h b409 k409 .char (4 : Int32) [(.int c0_), (.int c1_), (.int c2_), (.int c3_)] (.int 0))
 refine Ends.go (fun _ k => castTop (ef33_riiri m b395 (0 : Int32) (4 : Int32) b409 (0 : Int32)) k) ?_
 obtain ⟨SCS, P5, SAD, SHI, SLO, SSF, RG3⟩ := id GF
 have K0 := Keep.refl h0 [b409]
 show Ends _ _ _ _ s₁ (mkF m 0 #[cr b395, ci 0, ci 4, cr b409, ci 0, cu] []) _ _ _
 refine wilN X0 hx hby d33_0 rfl ?_
 refine wilN X0 hx hby d33_1 rfl ?_
 refine wcn X0 hx hby d33_2 (tlt (by decide : (0 : Int32) < (4 : Int32))).2.1 ?_
 refine wilN X0 hx hby d33_5 rfl ?_
 show Ends _ _ _ _ s₁ (mkF m 6 #[cr b395, ci 0, ci 4, cr b409, ci 0, cu] [(.int 0)]) _ _ _
 refine wilN X0 hx hby d33_6 rfl ?_
 refine wilN X0 hx hby d33_7 rfl ?_
 refine wis X0 hx hby d33_8 ?_
 refine walN X0 hx hby d33_9 rfl rfl ?_
 obtain ⟨_, _, ⟨T432, L432, k432, n432⟩, -, X432, ⟨Lc432, hQ432, l432, y432, z432⟩, st432⟩ := Jvm.LawKit.callS X0 hx (y := ym34) hown (mvT hZ (ow hw 167 rfl)) (mvT hZ (ow hw 168 rfl)) (mvT hZ (ow hw 23 rfl)) (mvT hZ (ow hw 169 rfl)) (by decide) (own_backOf (W := 0) (rx34_427 l Z a0 hw [] n0 h0 O0 G1 G3 GF b395 k396 c0_ c1_ c2_ c3_ PV_b395) hZ (ow hw 169 rfl) (ow hw 23 rfl) (by decide) (by decide)) (g := (mkF m 10 #[cr b395, ci 0, ci 4, cr b409, ci 0, cu] [(.ref b395), (.int 4), (.int 0)])) rfl (by rw [hml]; rfl) (argsL := [(.int 0), (.int 4), (.ref b395)]) (rest := []) (lenOf pdx_25 rfl) rfl (by show 2 * 0 + _ ≤ _; exact Nat.le_of_eq rfl) (hb hby d33_10) (fun _ _ => ⟨rfl, e0, (by decide : 0 + 0 ≤ _), (by decide : 0 + 0 ≤ _)⟩)
 dsimp only [Pt.U, Pt.locs, Pt.cells, Pt.slots] at X432 l432 y432 z432 st432 hQ432
 subst l432 y432 z432
 obtain ⟨rfl, N432q, K432c⟩ := hQ432
 have N432 := Fr.app N0 N432q
 refine Ends.go st432 ?_
 obtain ⟨h432, e432⟩ : ∃ z, T432.heap = z := ⟨_, rfl⟩
 rw [e432] at K432c
 have K432 := K0.trans K432c all0
 have O432 := O0.keep K432c all0
 show Ends _ _ _ _ T432 (mkF m 13 #[cr b395, ci 0, ci 4, cr b409, ci 0, cu] []) _ _ _
 refine wilN X432 hx hby d33_13 rfl ?_
 refine wst X432 hx hby d33_14 (l' := #[cr b395, ci 0, ci 4, cr b409, ci 0, ci 0]) rfl ?_
 refine wil X432 hx hby d33_16 rfl ?_
 refine wilN X432 hx hby d33_18 rfl ?_
 refine wcn X432 hx hby d33_19 (tlt (by decide : (0 : Int32) < (4 : Int32))).2.1 ?_
 show Ends _ _ _ _ T432 (mkF m 22 #[cr b395, ci 0, ci 4, cr b409, ci 0, ci 0] []) _ _ _
 refine walN X432 hx hby d33_22 rfl rfl ?_
 refine wil X432 hx hby d33_23 rfl ?_
 refine wii X432 hx hby d33_25 (l' := #[cr b395, ci 0, ci 4, cr b409, ci 1, ci 0]) rfl rfl ?_
 refine walN X432 hx hby d33_28 rfl rfl ?_
 refine wil X432 hx hby d33_29 rfl ?_
 show Ends _ _ _ _ T432 (mkF m 31 #[cr b395, ci 0, ci 4, cr b409, ci 1, ci 0] [(.int 0), (.ref b395), (.int 0), (.ref b409)]) _ _ _
 obtain ⟨_, _, ⟨T433, L433, k433, n433⟩, -, X433, ⟨Lc433, hQ433, l433, y433, z433⟩, st433⟩ := Jvm.LawKit.callS X432 hx (y := ym9) hown (mvT hZ (ow hw 161 rfl)) (mvT hZ (ow hw 162 rfl)) (mvT hZ (ow hw 23 rfl)) (mvT hZ (ow hw 163 rfl)) (by decide) (own_backOf (W := 2) (rx32_13 l Z a0 hw [] n0 h432 O432 G1 G3 GF b395 k396 c0_ c1_ c2_ c3_ (PV_b395.keep K432c nin0) hc0_) hZ (ow hw 163 rfl) (ow hw 23 rfl) (by decide) (by decide)) (g := (mkF m 31 #[cr b395, ci 0, ci 4, cr b409, ci 1, ci 0] [(.int 0), (.ref b395), (.int 0), (.ref b409)])) rfl (by rw [hml]; rfl) (argsL := [(.ref b395), (.int 0)]) (rest := [(.int 0), (.ref b409)]) (lenOf pdx_23 rfl) rfl (by show 2 * 0 + _ ≤ _; exact Nat.le_of_eq rfl) (hb hby d33_31) (fun _ _ => ⟨rfl, e432, (by decide : 0 + 0 ≤ _), (by decide : 0 + 0 ≤ _)⟩)
 dsimp only [Pt.U, Pt.locs, Pt.cells, Pt.slots] at X433 l433 y433 z433 st433 hQ433
 subst l433 y433 z433
 obtain ⟨rfl, N433q, K433c⟩ := hQ433
 have N433 := Fr.app N432 N433q
 refine Ends.go st433 ?_
 obtain ⟨h433, e433⟩ : ∃ z, T433.heap = z := ⟨_, rfl⟩
 rw [e433] at K433c
 have K433 := K432.trans K433c all0
 have O433 := O432.keep K433c all0
 obtain ⟨cl434, Ar434, q434, S434, M434, H434, G434⟩ := id ((PV_b409.keep K432c nin0).keep K433c nin0)
 have hin434 := inb_of (j := (0 : Int32)) S434 ⟨by decide, by decide⟩
 obtain ⟨T434, h434, X434, e434, W434, st434⟩ := stC X433 hx hZ e433 Ar434 (j := (0 : Int32)) hin434 (g := (mkF m 34 #[cr b395, ci 0, ci 4, cr b409, ci 1, ci 0] [(.int c0_), (.int 0), (.ref b409)])) rfl rfl (hb hby d33_34)
 refine Ends.go st434 ?_
 have V434 : Arv Z h434 b409 k409 .char (4 : Int32) [(.int (nar .char c0_)), (.int 0), (.int 0), (.int 0)] (.int 0) := Arv.set Ar434 q434 S434 M434 H434 G434 (fits_nar_char _) W434 0 rfl (Nat.le_of_ble_eq_true rfl)
 rw [own_narc hc0_] at V434
 have K434 := K433.wr W434 (Or.inl (List.mem_of_getElem? (i := 0) rfl))
 have O434 := O433.wr W434 g_b409
 have N434 := Fr.snoc X434 N433 g_b409
 refine wii X434 hx hby d33_35 (l' := #[cr b395, ci 0, ci 4, cr b409, ci 1, ci 1]) rfl rfl ?_
 refine wgo (pc := 38) (pc' := 16) X434 hx hby d33_38 (by decide) (by decide) ?_
 refine wil X434 hx hby d33_16 rfl ?_
 show Ends _ _ _ _ T434 (mkF m 18 #[cr b395, ci 0, ci 4, cr b409, ci 1, ci 1] [(.int 1)]) _ _ _
 refine wilN X434 hx hby d33_18 rfl ?_
 refine wcn X434 hx hby d33_19 (tlt (by decide : (1 : Int32) < (4 : Int32))).2.1 ?_
 refine walN X434 hx hby d33_22 rfl rfl ?_
 refine wil X434 hx hby d33_23 rfl ?_
 refine wii X434 hx hby d33_25 (l' := #[cr b395, ci 0, ci 4, cr b409, ci 2, ci 1]) rfl rfl ?_
 show Ends _ _ _ _ T434 (mkF m 28 #[cr b395, ci 0, ci 4, cr b409, ci 2, ci 1] [(.int 1), (.ref b409)]) _ _ _
 refine walN X434 hx hby d33_28 rfl rfl ?_
 refine wil X434 hx hby d33_29 rfl ?_
 obtain ⟨_, _, ⟨T435, L435, k435, n435⟩, -, X435, ⟨Lc435, hQ435, l435, y435, z435⟩, st435⟩ := Jvm.LawKit.callS X434 hx (y := ym9) hown (mvT hZ (ow hw 161 rfl)) (mvT hZ (ow hw 162 rfl)) (mvT hZ (ow hw 23 rfl)) (mvT hZ (ow hw 163 rfl)) (by decide) (own_backOf (W := 2) (rx32_19 l Z a0 hw [] n0 h434 O434 G1 G3 GF b395 k396 c0_ c1_ c2_ c3_ (((PV_b395.keep K432c nin0).keep K433c nin0).other W434 ne_b395_b409) hc1_) hZ (ow hw 163 rfl) (ow hw 23 rfl) (by decide) (by decide)) (g := (mkF m 31 #[cr b395, ci 0, ci 4, cr b409, ci 2, ci 1] [(.int 1), (.ref b395), (.int 1), (.ref b409)])) rfl (by rw [hml]; rfl) (argsL := [(.ref b395), (.int 1)]) (rest := [(.int 1), (.ref b409)]) (lenOf pdx_23 rfl) rfl (by show 2 * 0 + _ ≤ _; exact Nat.le_of_eq rfl) (hb hby d33_31) (fun _ _ => ⟨rfl, e434, (by decide : 0 + 0 ≤ _), (by decide : 0 + 0 ≤ _)⟩)
 dsimp only [Pt.U, Pt.locs, Pt.cells, Pt.slots] at X435 l435 y435 z435 st435 hQ435
 subst l435 y435 z435
 obtain ⟨rfl, N435q, K435c⟩ := hQ435
 have N435 := Fr.app N434 N435q
 refine Ends.go st435 ?_
 obtain ⟨h435, e435⟩ : ∃ z, T435.heap = z := ⟨_, rfl⟩
 rw [e435] at K435c
 have K435 := K434.trans K435c all0
 have O435 := O434.keep K435c all0
 obtain ⟨cl436, Ar436, q436, S436, M436, H436, G436⟩ := id (V434.keep K435c nin0)
 have hin436 := inb_of (j := (1 : Int32)) S436 ⟨by decide, by decide⟩
 obtain ⟨T436, h436, X436, e436, W436, st436⟩ := stC X435 hx hZ e435 Ar436 (j := (1 : Int32)) hin436 (g := (mkF m 34 #[cr b395, ci 0, ci 4, cr b409, ci 2, ci 1] [(.int c1_), (.int 1), (.ref b409)])) rfl rfl (hb hby d33_34)
 refine Ends.go st436 ?_
 have V436 : Arv Z h436 b409 k409 .char (4 : Int32) [(.int c0_), (.int (nar .char c1_)), (.int 0), (.int 0)] (.int 0) := Arv.set Ar436 q436 S436 M436 H436 G436 (fits_nar_char _) W436 1 rfl (Nat.le_of_ble_eq_true rfl)
 rw [own_narc hc1_] at V436
 have K436 := K435.wr W436 (Or.inl (List.mem_of_getElem? (i := 0) rfl))
 have O436 := O435.wr W436 g_b409
 have N436 := Fr.snoc X436 N435 g_b409
 refine wii X436 hx hby d33_35 (l' := #[cr b395, ci 0, ci 4, cr b409, ci 2, ci 2]) rfl rfl ?_
 show Ends _ _ _ _ T436 (mkF m 38 #[cr b395, ci 0, ci 4, cr b409, ci 2, ci 2] []) _ _ _
 refine wgo (pc := 38) (pc' := 16) X436 hx hby d33_38 (by decide) (by decide) ?_
 refine wil X436 hx hby d33_16 rfl ?_
 refine wilN X436 hx hby d33_18 rfl ?_
 refine wcn X436 hx hby d33_19 (tlt (by decide : (2 : Int32) < (4 : Int32))).2.1 ?_
 refine walN X436 hx hby d33_22 rfl rfl ?_
 show Ends _ _ _ _ T436 (mkF m 23 #[cr b395, ci 0, ci 4, cr b409, ci 2, ci 2] [(.ref b409)]) _ _ _
 refine wil X436 hx hby d33_23 rfl ?_
 refine wii X436 hx hby d33_25 (l' := #[cr b395, ci 0, ci 4, cr b409, ci 3, ci 2]) rfl rfl ?_
 refine walN X436 hx hby d33_28 rfl rfl ?_
 refine wil X436 hx hby d33_29 rfl ?_
 obtain ⟨_, _, ⟨T437, L437, k437, n437⟩, -, X437, ⟨Lc437, hQ437, l437, y437, z437⟩, st437⟩ := Jvm.LawKit.callS X436 hx (y := ym9) hown (mvT hZ (ow hw 161 rfl)) (mvT hZ (ow hw 162 rfl)) (mvT hZ (ow hw 23 rfl)) (mvT hZ (ow hw 163 rfl)) (by decide) (own_backOf (W := 2) (rx32_25 l Z a0 hw [] n0 h436 O436 G1 G3 GF b395 k396 c0_ c1_ c2_ c3_ (((((PV_b395.keep K432c nin0).keep K433c nin0).other W434 ne_b395_b409).keep K435c nin0).other W436 ne_b395_b409) hc2_) hZ (ow hw 163 rfl) (ow hw 23 rfl) (by decide) (by decide)) (g := (mkF m 31 #[cr b395, ci 0, ci 4, cr b409, ci 3, ci 2] [(.int 2), (.ref b395), (.int 2), (.ref b409)])) rfl (by rw [hml]; rfl) (argsL := [(.ref b395), (.int 2)]) (rest := [(.int 2), (.ref b409)]) (lenOf pdx_23 rfl) rfl (by show 2 * 0 + _ ≤ _; exact Nat.le_of_eq rfl) (hb hby d33_31) (fun _ _ => ⟨rfl, e436, (by decide : 0 + 0 ≤ _), (by decide : 0 + 0 ≤ _)⟩)
 dsimp only [Pt.U, Pt.locs, Pt.cells, Pt.slots] at X437 l437 y437 z437 st437 hQ437
 subst l437 y437 z437
 obtain ⟨rfl, N437q, K437c⟩ := hQ437
 have N437 := Fr.app N436 N437q
 refine Ends.go st437 ?_
 obtain ⟨h437, e437⟩ : ∃ z, T437.heap = z := ⟨_, rfl⟩
 rw [e437] at K437c
 have K437 := K436.trans K437c all0
 have O437 := O436.keep K437c all0
 show Ends _ _ _ _ T437 (mkF m 34 #[cr b395, ci 0, ci 4, cr b409, ci 3, ci 2] [(.int c2_), (.int 2), (.ref b409)]) _ _ _
 obtain ⟨cl438, Ar438, q438, S438, M438, H438, G438⟩ := id (V436.keep K437c nin0)
 have hin438 := inb_of (j := (2 : Int32)) S438 ⟨by decide, by decide⟩
 obtain ⟨T438, h438, X438, e438, W438, st438⟩ := stC X437 hx hZ e437 Ar438 (j := (2 : Int32)) hin438 (g := (mkF m 34 #[cr b395, ci 0, ci 4, cr b409, ci 3, ci 2] [(.int c2_), (.int 2), (.ref b409)])) rfl rfl (hb hby d33_34)
 refine Ends.go st438 ?_
 have V438 : Arv Z h438 b409 k409 .char (4 : Int32) [(.int c0_), (.int c1_), (.int (nar .char c2_)), (.int 0)] (.int 0) := Arv.set Ar438 q438 S438 M438 H438 G438 (fits_nar_char _) W438 2 rfl (Nat.le_of_ble_eq_true rfl)
 rw [own_narc hc2_] at V438
 have K438 := K437.wr W438 (Or.inl (List.mem_of_getElem? (i := 0) rfl))
 have O438 := O437.wr W438 g_b409
 have N438 := Fr.snoc X438 N437 g_b409
 refine wii X438 hx hby d33_35 (l' := #[cr b395, ci 0, ci 4, cr b409, ci 3, ci 3]) rfl rfl ?_
 refine wgo (pc := 38) (pc' := 16) X438 hx hby d33_38 (by decide) (by decide) ?_
 refine wil X438 hx hby d33_16 rfl ?_
 refine wilN X438 hx hby d33_18 rfl ?_
 show Ends _ _ _ _ T438 (mkF m 19 #[cr b395, ci 0, ci 4, cr b409, ci 3, ci 3] [(.int 4), (.int 3)]) _ _ _
 refine wcn X438 hx hby d33_19 (tlt (by decide : (3 : Int32) < (4 : Int32))).2.1 ?_
 refine walN X438 hx hby d33_22 rfl rfl ?_
 refine wil X438 hx hby d33_23 rfl ?_
 refine wii X438 hx hby d33_25 (l' := #[cr b395, ci 0, ci 4, cr b409, ci 4, ci 3]) rfl rfl ?_
 refine walN X438 hx hby d33_28 rfl rfl ?_
 show Ends _ _ _ _ T438 (mkF m 29 #[cr b395, ci 0, ci 4, cr b409, ci 4, ci 3] [(.ref b395), (.int 3), (.ref b409)]) _ _ _
 refine wil X438 hx hby d33_29 rfl ?_
 obtain ⟨_, _, ⟨T439, L439, k439, n439⟩, -, X439, ⟨Lc439, hQ439, l439, y439, z439⟩, st439⟩ := Jvm.LawKit.callS X438 hx (y := ym9) hown (mvT hZ (ow hw 161 rfl)) (mvT hZ (ow hw 162 rfl)) (mvT hZ (ow hw 23 rfl)) (mvT hZ (ow hw 163 rfl)) (by decide) (own_backOf (W := 2) (rx32_31 l Z a0 hw [] n0 h438 O438 G1 G3 GF b395 k396 c0_ c1_ c2_ c3_ (((((((PV_b395.keep K432c nin0).keep K433c nin0).other W434 ne_b395_b409).keep K435c nin0).other W436 ne_b395_b409).keep K437c nin0).other W438 ne_b395_b409) hc3_) hZ (ow hw 163 rfl) (ow hw 23 rfl) (by decide) (by decide)) (g := (mkF m 31 #[cr b395, ci 0, ci 4, cr b409, ci 4, ci 3] [(.int 3), (.ref b395), (.int 3), (.ref b409)])) rfl (by rw [hml]; rfl) (argsL := [(.ref b395), (.int 3)]) (rest := [(.int 3), (.ref b409)]) (lenOf pdx_23 rfl) rfl (by show 2 * 0 + _ ≤ _; exact Nat.le_of_eq rfl) (hb hby d33_31) (fun _ _ => ⟨rfl, e438, (by decide : 0 + 0 ≤ _), (by decide : 0 + 0 ≤ _)⟩)
 dsimp only [Pt.U, Pt.locs, Pt.cells, Pt.slots] at X439 l439 y439 z439 st439 hQ439
 subst l439 y439 z439
 obtain ⟨rfl, N439q, K439c⟩ := hQ439
 have N439 := Fr.app N438 N439q
 refine Ends.go st439 ?_
 obtain ⟨h439, e439⟩ : ∃ z, T439.heap = z := ⟨_, rfl⟩
 rw [e439] at K439c
 have K439 := K438.trans K439c all0
 have O439 := O438.keep K439c all0
 obtain ⟨cl440, Ar440, q440, S440, M440, H440, G440⟩ := id (V438.keep K439c nin0)
 have hin440 := inb_of (j := (3 : Int32)) S440 ⟨by decide, by decide⟩
 obtain ⟨T440, h440, X440, e440, W440, st440⟩ := stC X439 hx hZ e439 Ar440 (j := (3 : Int32)) hin440 (g := (mkF m 34 #[cr b395, ci 0, ci 4, cr b409, ci 4, ci 3] [(.int c3_), (.int 3), (.ref b409)])) rfl rfl (hb hby d33_34)
 refine Ends.go st440 ?_
 have V440 : Arv Z h440 b409 k409 .char (4 : Int32) [(.int c0_), (.int c1_), (.int c2_), (.int (nar .char c3_))] (.int 0) := Arv.set Ar440 q440 S440 M440 H440 G440 (fits_nar_char _) W440 3 rfl (Nat.le_of_ble_eq_true rfl)
 rw [own_narc hc3_] at V440
 have K440 := K439.wr W440 (Or.inl (List.mem_of_getElem? (i := 0) rfl))
 have O440 := O439.wr W440 g_b409
 have N440 := Fr.snoc X440 N439 g_b409
 refine wii X440 hx hby d33_35 (l' := #[cr b395, ci 0, ci 4, cr b409, ci 4, ci 4]) rfl rfl ?_
 refine wgo (pc := 38) (pc' := 16) X440 hx hby d33_38 (by decide) (by decide) ?_
 show Ends _ _ _ _ T440 (mkF m 16 #[cr b395, ci 0, ci 4, cr b409, ci 4, ci 4] []) _ _ _
 refine wil X440 hx hby d33_16 rfl ?_
 refine wilN X440 hx hby d33_18 rfl ?_
 refine wcy (pc := 19) (pc' := 41) X440 hx hby d33_19 (flt (by decide : ¬ ((4 : Int32) < (4 : Int32)))).2.1 (by decide) (by decide) ?_
 refine Ends.retV X440 hx Bd.notSynchronized Bd.returns (hb hby d33_41) (by decide) (by decide) ?_
 rw [e440]
 exact ⟨rfl, N440, K440, V440⟩

theorem d12_42 : decode jdk_42_method_61_code 42 = .ok (.aload_n 0, 1) := by decide +kernel
theorem d12_43 : decode jdk_42_method_61_code 43 = .ok (.getfield 9, 3) := by decide +kernel
theorem d12_46 : decode jdk_42_method_61_code 46 = .ok (.iload_n 1, 1) := by decide +kernel
theorem d12_47 : decode jdk_42_method_61_code 47 = .ok (.iload_n 2, 1) := by decide +kernel
theorem d12_48 : decode jdk_42_method_61_code 48 = .ok (.aload_n 3, 1) := by decide +kernel
theorem d12_49 : decode jdk_42_method_61_code 49 = .ok (.iload 4, 2) := by decide +kernel
theorem d12_51 : decode jdk_42_method_61_code 51 = .ok (.invokestatic 529, 3) := by decide +kernel
set_option maxRecDepth 65536 in
set_option maxHeartbeats 40000000 in
theorem rx12_416 (l : Launch) (Z : State) (a0 : Array Value) (hw : ∀ d ∈ tables_1, d.before a0 Z = true) (ws : List Jvm.Cond) (n0 : Nat) (h0 : Heap) (O0 : Old Z n0 h0) (G1 : Int32) (G3 : Value) (GF : GlobF Z G1 G3) (b247 : Addr) (b409 : Addr) (b395 : Addr) (k396 : ClassId) (c0_ : Int32) (c1_ : Int32) (c2_ : Int32) (c3_ : Int32) (k409 : ClassId) (PF_b247_value : Fld Z h0 b247 "java/lang/String" "value" "[B" (.ref b395)) (PV_b395 : Arv Z h0 b395 k396 .byte (8 : Int32) [(.int ((c0_ >>> ((0 : Int32) &&& 31)).toInt8.toInt32)), (.int ((c0_ >>> ((8 : Int32) &&& 31)).toInt8.toInt32)), (.int ((c1_ >>> ((0 : Int32) &&& 31)).toInt8.toInt32)), (.int ((c1_ >>> ((8 : Int32) &&& 31)).toInt8.toInt32)), (.int ((c2_ >>> ((0 : Int32) &&& 31)).toInt8.toInt32)), (.int ((c2_ >>> ((8 : Int32) &&& 31)).toInt8.toInt32)), (.int ((c3_ >>> ((0 : Int32) &&& 31)).toInt8.toInt32)), (.int ((c3_ >>> ((8 : Int32) &&& 31)).toInt8.toInt32))] (.int 0)) (PF_b247_coder : Fld Z h0 b247 "java/lang/String" "coder" "B" (.int 1)) (PE_b247 : Exa Z h0 b247 "java/lang/String") (PV_b409 : Arv Z h0 b409 k409 .char (4 : Int32) [(.int 0), (.int 0), (.int 0), (.int 0)] (.int 0)) (ne_b395_b409 : b395 ≠ b409) (g_b409 : n0 ≤ b409) (hc0_ : 0 ≤ c0_.toInt ∧ c0_.toInt < 65536) (hc1_ : 0 ≤ c1_.toInt ∧ c1_.toInt < 65536) (hc2_ : 0 ≤ c2_.toInt ∧ c2_.toInt < 65536) (hc3_ : 0 ≤ c3_.toInt ∧ c3_.toInt < 65536) :
  Meets1 l ym27 jdk_42_method_61_code 5 none ws ({ frames := 4, cells := 0, slots := 0, locals := 60 } : Room) #[(.ref b247), (.int 0), (.int 4), (.ref b409), (.int 0)] Z h0 (fun v h L => v = none ∧ Fr n0 L ∧ Keep h0 h [b409] ∧ Arv Z h b409 k409 .char (4 : Int32) [(.int c0_), (.int c1_), (.int c2_), (.int c3_)] (.int 0)) := by
 refine MetFree.of_bodySF (plainFor_of_name pn12) hisR ?_
 intro p e s m args below meth c s₁ Bd hml0 hP hK
 obtain ⟨rfl, hZ, hh⟩ := hP
 have hx := Bd.exec
 have hby := Bd.bytes
 have hml : c.maxLocals = 5 := hml0
 have hown : s.vm.findClass "java/lang/String" = some m.cls := findClass_of_methodNamed Bd.named
 have hnm := (name_of_methodNamed Bd.named Bd.method).1
 have X0 : Stand p l e ({ frames := 4, cells := 0, slots := 0, locals := 60 } : Room) s m #[(.ref b247), (.int 0), (.int 4), (.ref b409), (.int 0)] below meth c s₁ [] 0 0 := Stand.of_body Bd
 have e0 : s₁.heap = h0 := by rw [← hh, Bd.state]; rfl
 have N0 := Fr.nil n0
 have Z0 := own_old_le O0
 show Ends _ _ _ _ s₁ (entryFrame m #[(.ref b247), (.int 0), (.int 4), (.ref b409), (.int 0)] 5) ({ frames := 4, cells := 0, slots := 0, locals := 60 } : Room).cells ({ frames := 4, cells := 0, slots := 0, locals := 60 } : Room).slots (fun v h L => v = none ∧ Fr n0 L ∧ Keep h0 h [b409] ∧ Arv Z h b409 k409 .char (4 : Int32) [(.int c0_), (.int c1_), (.int c2_), (.int c3_)] (.int 0))
 refine Ends.go (fun _ k => castTop (ef12_riiri m b247 (0 : Int32) (4 : Int32) b409 (0 : Int32)) k) ?_
 obtain ⟨SCS, P5, SAD, SHI, SLO, SSF, RG3⟩ := id GF
 have K0 := Keep.refl h0 [b409]
 show Ends _ _ _ _ s₁ (mkF m 0 #[cr b247, ci 0, ci 4, cr b409, ci 0] []) _ _ _
 refine wilN X0 hx hby d12_0 rfl ?_
 refine wilN X0 hx hby d12_1 rfl ?_
 refine walN X0 hx hby d12_2 rfl rfl ?_
 obtain ⟨cq417, kq417, q417a, q417b, q417c⟩ := isOf hZ e0 PE_b247
 obtain ⟨_, _, ⟨T417, L417, k417, n417⟩, -, X417, ⟨Lc417, hQ417, l417, y417, z417⟩, st417⟩ := X0.virtualBack hx (y := ym22) (z := ym22) hown (mvT hZ (ow hw 70 rfl)) (mvT hZ (ow hw 48 rfl)) (notFace_of_selects (args := #[]) (mvT hZ (ow hw 50 rfl))) (mvT hZ (ow hw 50 rfl)) (mvT hZ (ow hw 49 rfl)) (by decide) (own_backOf (W := 2) (rx9_400 l Z a0 hw [] n0 h0 O0 G1 G3 GF b247 b395 k396 c0_ c1_ c2_ c3_ PF_b247_value PV_b395 PF_b247_coder PE_b247) hZ (ow hw 51 rfl) (ow hw 9 rfl) (by decide) (by decide)) q417a q417c (g := (mkF m 3 #[cr b247, ci 0, ci 4, cr b409, ci 0] [(.ref b247), (.int 4), (.int 0)])) rfl (by rw [hml]; rfl) (Steps.refl _) (argsL := []) (rest := [(.int 4), (.int 0)]) (lenOf pdx_12 rfl) rfl (by show 2 * 0 + _ ≤ _; exact Nat.le_of_eq rfl) (hb hby d12_3) (fun _ _ => ⟨rfl, e0, (by decide : 0 + 0 ≤ _), (by decide : 0 + 0 ≤ _)⟩)
 dsimp only [Pt.U, Pt.locs, Pt.cells, Pt.slots] at X417 l417 y417 z417 st417 hQ417
 subst l417 y417 z417
 obtain ⟨rfl, N417q, K417c⟩ := hQ417
 have N417 := Fr.app N0 N417q
 refine Ends.go (fun _ k => st417.trans k) ?_
 obtain ⟨h417, e417⟩ : ∃ z, T417.heap = z := ⟨_, rfl⟩
 rw [e417] at K417c
 have K417 := K0.trans K417c all0
 have O417 := O0.keep K417c all0
 show Ends _ _ _ _ T417 (mkF m 6 #[cr b247, ci 0, ci 4, cr b409, ci 0] [(.int 4), (.int 4), (.int 0)]) _ _ _
 obtain ⟨_, _, ⟨T418, L418, k418, n418⟩, -, X418, ⟨Lc418, hQ418, l418, y418, z418⟩, st418⟩ := Jvm.LawKit.callS X417 hx (y := ym2) hown (mvT hZ (ow hw 71 rfl)) (mvT hZ (ow hw 72 rfl)) (mvT hZ (ow hw 9 rfl)) (mvT hZ (ow hw 73 rfl)) (by decide) (own_backOf (W := 0) (rm_checkBoundsBeginEnd l Z a0 hw [] n0 h417 O417 (0 : Int32) (4 : Int32) (4 : Int32) G1 G3 GF (by decide) (by decide) (by decide)) hZ (ow hw 73 rfl) (ow hw 9 rfl) (by decide) (by decide)) (g := (mkF m 6 #[cr b247, ci 0, ci 4, cr b409, ci 0] [(.int 4), (.int 4), (.int 0)])) rfl (by rw [hml]; rfl) (argsL := [(.int 0), (.int 4), (.int 4)]) (rest := []) (lenOf pdx_14 rfl) rfl (by show 2 * 0 + _ ≤ _; exact Nat.le_of_eq rfl) (hb hby d12_6) (fun _ _ => ⟨rfl, e417, (by decide : 0 + 0 ≤ _), (by decide : 0 + 0 ≤ _)⟩)
 dsimp only [Pt.U, Pt.locs, Pt.cells, Pt.slots] at X418 l418 y418 z418 st418 hQ418
 subst l418 y418 z418
 obtain ⟨rfl, N418q, e418q⟩ := hQ418
 have N418 := Fr.app N417 N418q
 refine Ends.go st418 ?_
 refine wil X418 hx hby d12_9 rfl ?_
 refine wilN X418 hx hby d12_11 rfl ?_
 refine wilN X418 hx hby d12_12 rfl ?_
 refine wis X418 hx hby d12_13 ?_
 show Ends _ _ _ _ T418 (mkF m 14 #[cr b247, ci 0, ci 4, cr b409, ci 0] [(.int 4), (.int 0)]) _ _ _
 refine walN X418 hx hby d12_14 rfl rfl ?_
 obtain ⟨cl419, Ar419, q419, S419, M419, H419, G419⟩ := id (PV_b409.keep K417c nin0)
 refine Ends.go (X418.arraylength hx (by rw [e418q]; exact Ar419.1) (State.isArrayOf_alike hZ.alike Ar419.2.1) (g := (mkF m 15 #[cr b247, ci 0, ci 4, cr b409, ci 0] [(.ref b409), (.int 4), (.int 0)])) rfl rfl (hb hby d12_15)) ?_
 rw [len_of S419 M419]
 obtain ⟨_, _, ⟨T420, L420, k420, n420⟩, -, X420, ⟨Lc420, hQ420, l420, y420, z420⟩, st420⟩ := Jvm.LawKit.callS X418 hx (y := ym4) hown (mvT hZ (ow hw 79 rfl)) (mvT hZ (ow hw 80 rfl)) (mvT hZ (ow hw 9 rfl)) (mvT hZ (ow hw 81 rfl)) (by decide) (own_backOf (W := 0) (rm_checkBoundsOffCount l Z a0 hw [] n0 h417 O417 (0 : Int32) (4 : Int32) (4 : Int32) G1 G3 GF (by decide) (by decide)) hZ (ow hw 81 rfl) (ow hw 9 rfl) (by decide) (by decide)) (g := (mkF m 16 #[cr b247, ci 0, ci 4, cr b409, ci 0] [(.int 4), (.int 4), (.int 0)])) rfl (by rw [hml]; rfl) (argsL := [(.int 0), (.int 4), (.int 4)]) (rest := []) (lenOf pdx_15 rfl) rfl (by show 2 * 0 + _ ≤ _; exact Nat.le_of_eq rfl) (hb hby d12_16) (fun _ _ => ⟨rfl, e418q, (by decide : 0 + 0 ≤ _), (by decide : 0 + 0 ≤ _)⟩)
 dsimp only [Pt.U, Pt.locs, Pt.cells, Pt.slots] at X420 l420 y420 z420 st420 hQ420
 subst l420 y420 z420
 obtain ⟨rfl, N420q, e420q⟩ := hQ420
 have N420 := Fr.app N418 N420q
 refine Ends.go st420 ?_
 refine .go (fun _ => XS.pop X420.here hx rfl (hb hby d12_19) rfl rfl) ?_
 refine walN X420 hx hby d12_20 rfl rfl ?_
 show Ends _ _ _ _ T420 (mkF m 21 #[cr b247, ci 0, ci 4, cr b409, ci 0] [(.ref b247)]) _ _ _
 obtain ⟨cq424, kq424, q424a, q424b, q424c⟩ := isOf hZ e420q (PE_b247.keep K417c)
 obtain ⟨_, _, ⟨T424, L424, k424, n424⟩, -, X424, ⟨Lc424, hQ424, l424, y424, z424⟩, st424⟩ := X420.virtualBack hx (y := ym24) (z := ym24) hown (mvT hZ (ow hw 85 rfl)) (mvT hZ (ow hw 86 rfl)) (notFace_of_selects (args := #[]) (mvT hZ (ow hw 88 rfl))) (mvT hZ (ow hw 88 rfl)) (mvT hZ (ow hw 87 rfl)) (by decide) (own_backOf (W := 0) (rx17_421 l Z a0 hw [] n0 h417 O417 G1 G3 GF b247 (PF_b247_coder.keep K417c nin0)) hZ (ow hw 89 rfl) (ow hw 9 rfl) (by decide) (by decide)) q424a q424c (g := (mkF m 21 #[cr b247, ci 0, ci 4, cr b409, ci 0] [(.ref b247)])) rfl (by rw [hml]; rfl) (Steps.refl _) (argsL := []) (rest := []) (lenOf pdx_2 rfl) rfl (by show 2 * 0 + _ ≤ _; exact Nat.le_of_eq rfl) (hb hby d12_21) (fun _ _ => ⟨rfl, e420q, (by decide : 0 + 0 ≤ _), (by decide : 0 + 0 ≤ _)⟩)
 dsimp only [Pt.U, Pt.locs, Pt.cells, Pt.slots] at X424 l424 y424 z424 st424 hQ424
 subst l424 y424 z424
 obtain ⟨rfl, N424q, K424c⟩ := hQ424
 have N424 := Fr.app N420 N424q
 refine Ends.go (fun _ k => st424.trans k) ?_
 obtain ⟨h424, e424⟩ : ∃ z, T424.heap = z := ⟨_, rfl⟩
 rw [e424] at K424c
 have K424 := K417.trans K424c all0
 have O424 := O417.keep K424c all0
 refine wiy (pc := 24) (pc' := 42) X424 hx hby d12_24 ((if0 _ _).trans (teq (by decide : (0 : Int32) = (0 : Int32))).1) (by decide) (by decide) ?_
 refine walN X424 hx hby d12_42 rfl rfl ?_
 obtain ⟨T425, X425, e425, st425⟩ := getF X424 hx hZ hown (host := "") (Or.inl (ow hw 34 rfl)) Via.refl e424 ((PF_b247_value.keep K417c nin0).keep K424c nin0) (g := (mkF m 43 #[cr b247, ci 0, ci 4, cr b409, ci 0] [(.ref b247)])) rfl rfl (hb hby d12_43)
 refine Ends.go st425 ?_
 refine wilN X425 hx hby d12_46 rfl ?_
 show Ends _ _ _ _ T425 (mkF m 47 #[cr b247, ci 0, ci 4, cr b409, ci 0] [(.int 0), (.ref b395)]) _ _ _
 refine wilN X425 hx hby d12_47 rfl ?_
 refine walN X425 hx hby d12_48 rfl rfl ?_
 refine wil X425 hx hby d12_49 rfl ?_
 obtain ⟨_, _, ⟨T441, L441, k441, n441⟩, -, X441, ⟨Lc441, hQ441, l441, y441, z441⟩, st441⟩ := Jvm.LawKit.callS X425 hx (y := ym35) hown (mvT hZ (ow hw 164 rfl)) (mvT hZ (ow hw 165 rfl)) (mvT hZ (ow hw 23 rfl)) (mvT hZ (ow hw 166 rfl)) (by decide) (own_backOf (W := 0) (rx33_426 l Z a0 hw [] n0 h424 O424 G1 G3 GF b395 b409 k396 c0_ c1_ c2_ c3_ k409 ((PV_b395.keep K417c nin0).keep K424c nin0) ((PV_b409.keep K417c nin0).keep K424c nin0) ne_b395_b409 g_b409 hc0_ hc1_ hc2_ hc3_) hZ (ow hw 166 rfl) (ow hw 23 rfl) (by decide) (by decide)) (g := (mkF m 51 #[cr b247, ci 0, ci 4, cr b409, ci 0] [(.int 0), (.ref b409), (.int 4), (.int 0), (.ref b395)])) rfl (by rw [hml]; rfl) (argsL := [(.ref b395), (.int 0), (.int 4), (.ref b409), (.int 0)]) (rest := []) (lenOf pdx_17 rfl) rfl (by show 2 * 0 + _ ≤ _; exact Nat.le_of_eq rfl) (hb hby d12_51) (fun _ _ => ⟨rfl, e425, (by decide : 0 + 0 ≤ _), (by decide : 0 + 0 ≤ _)⟩)
 dsimp only [Pt.U, Pt.locs, Pt.cells, Pt.slots] at X441 l441 y441 z441 st441 hQ441
 subst l441 y441 z441
 obtain ⟨rfl, N441q, K441c, Y441_0⟩ := hQ441
 have N441 := Fr.app N424 N441q
 refine Ends.go st441 ?_
 obtain ⟨h441, e441⟩ : ∃ z, T441.heap = z := ⟨_, rfl⟩
 rw [e441] at K441c Y441_0
 have K441 := K424.trans K441c (allS (Or.inl (List.mem_of_getElem? (i := 0) rfl)) all0)
 have O441 := O424.keep K441c (allS g_b409 all0)
 refine Ends.retV X441 hx Bd.notSynchronized Bd.returns (hb hby d12_54) (by decide) (by decide) ?_
 rw [e441]
 exact ⟨rfl, N441, K441, Y441_0⟩

set_option maxRecDepth 65536 in
set_option maxHeartbeats 40000000 in
theorem rx7_397 (l : Launch) (Z : State) (a0 : Array Value) (hw : ∀ d ∈ tables_1, d.before a0 Z = true) (ws : List Jvm.Cond) (n0 : Nat) (h0 : Heap) (O0 : Old Z n0 h0) (G1 : Int32) (G3 : Value) (GF : GlobF Z G1 G3) (b246 : Addr) (b247 : Addr) (b395 : Addr) (k396 : ClassId) (c0_ : Int32) (c1_ : Int32) (c2_ : Int32) (c3_ : Int32) (PE_b246 : Exa Z h0 b246 cSI) (PF_b246_text : Fld Z h0 b246 cSI "text" "Ljava/lang/String;" .null) (PF_b247_value : Fld Z h0 b247 "java/lang/String" "value" "[B" (.ref b395)) (PV_b395 : Arv Z h0 b395 k396 .byte (8 : Int32) [(.int ((c0_ >>> ((0 : Int32) &&& 31)).toInt8.toInt32)), (.int ((c0_ >>> ((8 : Int32) &&& 31)).toInt8.toInt32)), (.int ((c1_ >>> ((0 : Int32) &&& 31)).toInt8.toInt32)), (.int ((c1_ >>> ((8 : Int32) &&& 31)).toInt8.toInt32)), (.int ((c2_ >>> ((0 : Int32) &&& 31)).toInt8.toInt32)), (.int ((c2_ >>> ((8 : Int32) &&& 31)).toInt8.toInt32)), (.int ((c3_ >>> ((0 : Int32) &&& 31)).toInt8.toInt32)), (.int ((c3_ >>> ((8 : Int32) &&& 31)).toInt8.toInt32))] (.int 0)) (PF_b247_coder : Fld Z h0 b247 "java/lang/String" "coder" "B" (.int 1)) (PE_b247 : Exa Z h0 b247 "java/lang/String") (PF_b246_chars : Fld Z h0 b246 cSI "chars" "[C" .null) (PF_b246_limit : Fld Z h0 b246 cSI "limit" "I" (.int 0)) (PF_b246_base : Fld Z h0 b246 cSI "base" "I" (.int 0)) (PF_b246_position : Fld Z h0 b246 cSI "position" "I" (.int 0)) (PF_b246_mark : Fld Z h0 b246 cSI "mark" "I" (.int 0)) (PF_b246_ascii : Fld Z h0 b246 cSI "ascii" "Z" (.int 0)) (PF_b246_decoded : Fld Z h0 b246 "com/example/ratatoskr/ratatoskr/core/internal/Input" "decoded" "Lcom/example/ratatoskr/ratatoskr/core/internal/DecodedChars;" .null) (ne_b247_b246 : b247 ≠ b246) (ne_b395_b246 : b395 ≠ b246) (g_b246 : n0 ≤ b246) (hc0_ : 0 ≤ c0_.toInt ∧ c0_.toInt < 65536) (hc1_ : 0 ≤ c1_.toInt ∧ c1_.toInt < 65536) (hc2_ : 0 ≤ c2_.toInt ∧ c2_.toInt < 65536) (hc3_ : 0 ≤ c3_.toInt ∧ c3_.toInt < 65536) :
  Meets1 l ym28 prog_85_method_1_code 2 none ws ({ frames := 5, cells := 1, slots := 4, locals := 76 } : Room) #[(.ref b246), (.ref b247)] Z h0 (fun v h L => ∃ (b409 : Addr) (k409 : ClassId), v = none ∧ Fr n0 L ∧ Keep h0 h [b246] ∧ h0.size ≤ b409 ∧ Fld Z h b246 cSI "text" "Ljava/lang/String;" (.ref b247) ∧ Fld Z h b246 cSI "chars" "[C" (.ref b409) ∧ Fld Z h b246 cSI "limit" "I" (.int 4) ∧ Arv Z h b409 k409 .char (4 : Int32) [(.int c0_), (.int c1_), (.int c2_), (.int c3_)] (.int 0) ∧ Fld Z h b246 cSI "base" "I" (.int 0) ∧ Fld Z h b246 cSI "position" "I" (.int 0) ∧ Fld Z h b246 cSI "mark" "I" (.int 0) ∧ Fld Z h b246 cSI "ascii" "Z" (.int 0) ∧ Fld Z h b246 "com/example/ratatoskr/ratatoskr/core/internal/Input" "decoded" "Lcom/example/ratatoskr/ratatoskr/core/internal/DecodedChars;" .null) := by
 refine MetFree.of_bodySF (plainFor_of_name pn7) hisR ?_
 intro p e s m args below meth c s₁ Bd hml0 hP hK
 obtain ⟨rfl, hZ, hh⟩ := hP
 have hx := Bd.exec
 have hby := Bd.bytes
 have hml : c.maxLocals = 2 := hml0
 have hown : s.vm.findClass "com/example/ratatoskr/ratatoskr/core/internal/StringInput" = some m.cls := findClass_of_methodNamed Bd.named
 have hnm := (name_of_methodNamed Bd.named Bd.method).1
 have X0 : Stand p l e ({ frames := 5, cells := 1, slots := 4, locals := 76 } : Room) s m #[(.ref b246), (.ref b247)] below meth c s₁ [] 0 0 := Stand.of_body Bd
 have e0 : s₁.heap = h0 := by rw [← hh, Bd.state]; rfl
 have N0 := Fr.nil n0
 have Z0 := own_old_le O0
 show Ends _ _ _ _ s₁ (entryFrame m #[(.ref b246), (.ref b247)] 2) ({ frames := 5, cells := 1, slots := 4, locals := 76 } : Room).cells ({ frames := 5, cells := 1, slots := 4, locals := 76 } : Room).slots (fun v h L => ∃ (b409 : Addr) (k409 : ClassId), v = none ∧ Fr n0 L ∧ Keep h0 h [b246] ∧ h0.size ≤ b409 ∧ Fld Z h b246 cSI "text" "Ljava/lang/String;" (.ref b247) ∧ Fld Z h b246 cSI "chars" "[C" (.ref b409) ∧ Fld Z h b246 cSI "limit" "I" (.int 4) ∧ Arv Z h b409 k409 .char (4 : Int32) [(.int c0_), (.int c1_), (.int c2_), (.int c3_)] (.int 0) ∧ Fld Z h b246 cSI "base" "I" (.int 0) ∧ Fld Z h b246 cSI "position" "I" (.int 0) ∧ Fld Z h b246 cSI "mark" "I" (.int 0) ∧ Fld Z h b246 cSI "ascii" "Z" (.int 0) ∧ Fld Z h b246 "com/example/ratatoskr/ratatoskr/core/internal/Input" "decoded" "Lcom/example/ratatoskr/ratatoskr/core/internal/DecodedChars;" .null)
 refine Ends.go (fun _ k => castTop (ef7_rr m b246 b247) k) ?_
 obtain ⟨SCS, P5, SAD, SHI, SLO, SSF, RG3⟩ := id GF
 have K0 := Keep.refl h0 [b246]
 show Ends _ _ _ _ s₁ (mkF m 0 #[cr b246, cr b247] []) _ _ _
 refine walN X0 hx hby d7_0 rfl rfl ?_
 obtain ⟨_, _, ⟨T398, L398, k398, n398⟩, -, X398, ⟨Lc398, hQ398, l398, y398, z398⟩, st398⟩ := X0.specialBack hx (y := ym20) rfl hown (mvT hZ (ow hw 39 rfl)) (mvT hZ (ow hw 40 rfl)) (mvT hZ (ow hw 43 rfl)) (by decide) (own_backOf (W := 0) (rx8_280 l Z a0 hw [] n0 h0 O0  b246 ) hZ (ow hw 43 rfl) (ow hw 42 rfl) (by decide) (by decide)) (g := (mkF m 1 #[cr b246, cr b247] [(.ref b246)])) rfl (by rw [hml]; rfl) (Steps.refl _) (a := b246) (argsL := []) (rest := []) (lenOf pdx_4 rfl) rfl (by show 2 * 0 + _ ≤ _; exact Nat.le_of_eq rfl) (hb hby d7_1) (fun _ _ => ⟨rfl, e0, (by decide : 0 + 0 ≤ _), (by decide : 0 + 0 ≤ _)⟩)
 dsimp only [Pt.U, Pt.locs, Pt.cells, Pt.slots] at X398 l398 y398 z398 st398 hQ398
 subst l398 y398 z398
 obtain ⟨rfl, N398q, K398c⟩ := hQ398
 have N398 := Fr.app N0 N398q
 refine Ends.go (fun _ k => st398.trans k) ?_
 obtain ⟨h398, e398⟩ : ∃ z, T398.heap = z := ⟨_, rfl⟩
 rw [e398] at K398c
 have K398 := K0.trans K398c all0
 have O398 := O0.keep K398c all0
 refine walN X398 hx hby d7_4 rfl rfl ?_
 refine walN X398 hx hby d7_5 rfl rfl ?_
 show Ends _ _ _ _ T398 (mkF m 6 #[cr b246, cr b247] [(.ref b247), (.ref b246)]) _ _ _
 obtain ⟨T399, h399, X399, e399, W399, st399⟩ := putF X398 hx hZ hown (host := "") (Or.inl (ow hw 45 rfl)) Via.refl e398 (PF_b246_text.keep K398c nin0) (PE_b246.keep K398c) (Or.inr ⟨(ow hw 46 rfl), rfl, hnm⟩) (ow hw 5 rfl) (ty := (.object "java/lang/String")) (by decide) rfl rfl (g := (mkF m 6 #[cr b246, cr b247] [(.ref b247), (.ref b246)])) rfl rfl (hb hby d7_6)
 refine Ends.go st399 ?_
 have Fw399 := (PF_b246_text.keep K398c nin0).same W399
 have K399 := K398.wr W399 (Or.inl (List.mem_of_getElem? (i := 0) rfl))
 have O399 := O398.wr W399 g_b246
 have N399 := Fr.snoc X399 N398 g_b246
 refine walN X399 hx hby d7_9 rfl rfl ?_
 refine walN X399 hx hby d7_10 rfl rfl ?_
 obtain ⟨cq407, kq407, q407a, q407b, q407c⟩ := isOf hZ e399 ((PE_b247.keep K398c).wr W399)
 obtain ⟨_, _, ⟨T407, L407, k407, n407⟩, -, X407, ⟨Lc407, hQ407, l407, y407, z407⟩, st407⟩ := X399.virtualBack hx (y := ym22) (z := ym22) hown (mvT hZ (ow hw 47 rfl)) (mvT hZ (ow hw 48 rfl)) (notFace_of_selects (args := #[]) (mvT hZ (ow hw 50 rfl))) (mvT hZ (ow hw 50 rfl)) (mvT hZ (ow hw 49 rfl)) (by decide) (own_backOf (W := 1) (rx9_400 l Z a0 hw [] n0 h399 O399 G1 G3 GF b247 b395 k396 c0_ c1_ c2_ c3_ ((PF_b247_value.keep K398c nin0).other W399 (Or.inl ne_b247_b246)) ((PV_b395.keep K398c nin0).other W399 ne_b395_b246) ((PF_b247_coder.keep K398c nin0).other W399 (Or.inl ne_b247_b246)) ((PE_b247.keep K398c).wr W399)) hZ (ow hw 51 rfl) (ow hw 9 rfl) (by decide) (by decide)) q407a q407c (g := (mkF m 11 #[cr b246, cr b247] [(.ref b247), (.ref b246)])) rfl (by rw [hml]; rfl) (Steps.refl _) (argsL := []) (rest := [(.ref b246)]) (lenOf pdx_12 rfl) rfl (by show 2 * 0 + _ ≤ _; exact Nat.le_of_eq rfl) (hb hby d7_11) (fun _ _ => ⟨rfl, e399, (by decide : 0 + 0 ≤ _), (by decide : 0 + 0 ≤ _)⟩)
 dsimp only [Pt.U, Pt.locs, Pt.cells, Pt.slots] at X407 l407 y407 z407 st407 hQ407
 subst l407 y407 z407
 obtain ⟨rfl, N407q, K407c⟩ := hQ407
 have N407 := Fr.app N399 N407q
 refine Ends.go (fun _ k => st407.trans k) ?_
 obtain ⟨h407, e407⟩ : ∃ z, T407.heap = z := ⟨_, rfl⟩
 rw [e407] at K407c
 have K407 := K399.trans K407c all0
 have O407 := O399.keep K407c all0
 refine wsp X407 hx hby d7_14 ?_
 show Ends _ _ _ _ T407 (mkF m 17 #[cr b246, cr b247] [(.int 8192), (.int 4), (.ref b246)]) _ _ _
 obtain ⟨_, _, ⟨T408, L408, k408, n408⟩, -, X408, ⟨Lc408, hQ408, l408, y408, z408⟩, st408⟩ := Jvm.LawKit.callS X407 hx (y := ym23) hown (mvT hZ (ow hw 57 rfl)) (mvT hZ (ow hw 58 rfl)) (mvT hZ (ow hw 59 rfl)) (mvT hZ (ow hw 60 rfl)) (by decide) (own_backOf (W := 1) (rx11_292 l Z a0 hw [] n0 h407 O407   ) hZ (ow hw 60 rfl) (ow hw 59 rfl) (by decide) (by decide)) (g := (mkF m 17 #[cr b246, cr b247] [(.int 8192), (.int 4), (.ref b246)])) rfl (by rw [hml]; rfl) (argsL := [(.int 4), (.int 8192)]) (rest := [(.ref b246)]) (lenOf pdx_13 rfl) rfl (by show 2 * 0 + _ ≤ _; exact Nat.le_of_eq rfl) (hb hby d7_17) (fun _ _ => ⟨rfl, e407, (by decide : 0 + 0 ≤ _), (by decide : 0 + 0 ≤ _)⟩)
 dsimp only [Pt.U, Pt.locs, Pt.cells, Pt.slots] at X408 l408 y408 z408 st408 hQ408
 subst l408 y408 z408
 obtain ⟨rfl, N408q, K408c⟩ := hQ408
 have N408 := Fr.app N407 N408q
 refine Ends.go st408 ?_
 obtain ⟨h408, e408⟩ : ∃ z, T408.heap = z := ⟨_, rfl⟩
 rw [e408] at K408c
 have K408 := K407.trans K408c all0
 have O408 := O407.keep K408c all0
 obtain ⟨T409, h409, k409, X409, e409, E409, A409, st409⟩ := newP X408 hx hZ (ow hw 0 rfl) e408 (g := (mkF m 20 #[cr b246, cr b247] [(.int 4), (.ref b246)])) rfl (hb hby d7_20) rfl (by decide) (cap := 4) (by decide) (by decide) (by decide) (by decide)
 obtain ⟨b409, g409⟩ : ∃ z, z = h408.size := ⟨_, rfl⟩
 rw [← g409] at A409 st409
 refine Ends.go st409 ?_
 have g_b409 : n0 ≤ b409 := Nat.le_trans (own_old_le O408) (Nat.le_of_eq g409.symm)
 have sz_b409 : h0.size ≤ b409 := Nat.le_trans K408.1 (Nat.le_of_eq g409.symm)
 have K409 := K408.ext E409
 have O409 := O408.ext E409
 have V_b409 : Arv Z h409 b409 k409 .char (4 : Int32) [(.int 0), (.int 0), (.int 0), (.int 0)] (.int 0) := (Arv.new A409 (by decide)).pad (pad_rep [] (.int 0) 4)
 obtain ⟨T410, h410, X410, e410, W410, st410⟩ := putF X409 hx hZ hown (host := "") (Or.inl (ow hw 61 rfl)) Via.refl e409 (((((PF_b246_chars.keep K398c nin0).other W399 (Or.inr (slot_ne (Or.inr (ow hw 62 rfl)) (Or.inr (ow hw 46 rfl)) (by decide) (t := (.array .char)) (t' := (.object "java/lang/String")) (by decide) (by decide)))).keep K407c nin0).keep K408c nin0).ext E409) (((((PE_b246.keep K398c).wr W399).keep K407c).keep K408c).ext E409) (Or.inr ⟨(ow hw 62 rfl), rfl, hnm⟩) (ow hw 5 rfl) (ty := (.array .char)) (by decide) rfl rfl (g := (mkF m 22 #[cr b246, cr b247] [(.ref b409), (.ref b246)])) rfl rfl (hb hby d7_22)
 refine Ends.go st410 ?_
 have Fw410 := (((((PF_b246_chars.keep K398c nin0).other W399 (Or.inr (slot_ne (Or.inr (ow hw 62 rfl)) (Or.inr (ow hw 46 rfl)) (by decide) (t := (.array .char)) (t' := (.object "java/lang/String")) (by decide) (by decide)))).keep K407c nin0).keep K408c nin0).ext E409).same W410
 have K410 := K409.wr W410 (Or.inl (List.mem_of_getElem? (i := 0) rfl))
 have O410 := O409.wr W410 g_b246
 have N410 := Fr.snoc X410 N408 g_b246
 refine walN X410 hx hby d7_25 rfl rfl ?_
 refine walN X410 hx hby d7_26 rfl rfl ?_
 show Ends _ _ _ _ T410 (mkF m 27 #[cr b246, cr b247] [(.ref b246), (.ref b246)]) _ _ _
 obtain ⟨T411, X411, e411, st411⟩ := getF X410 hx hZ hown (host := "") (Or.inl (ow hw 61 rfl)) Via.refl e410 Fw410 (g := (mkF m 27 #[cr b246, cr b247] [(.ref b246), (.ref b246)])) rfl rfl (hb hby d7_27)
 refine Ends.go st411 ?_
 obtain ⟨cl412, Ar412, q412, S412, M412, H412, G412⟩ := id (V_b409.other W410 (Ne.symm (Nat.ne_of_lt (Nat.lt_of_lt_of_le PE_b246.lt sz_b409))))
 refine Ends.go (X411.arraylength hx (by rw [e411]; exact Ar412.1) (State.isArrayOf_alike hZ.alike Ar412.2.1) (g := (mkF m 30 #[cr b246, cr b247] [(.ref b409), (.ref b246)])) rfl rfl (hb hby d7_30)) ?_
 rw [len_of S412 M412]
 obtain ⟨T413, h413, X413, e413, W413, st413⟩ := putF X411 hx hZ hown (host := "") (Or.inl (ow hw 63 rfl)) Via.refl e411 ((((((PF_b246_limit.keep K398c nin0).other W399 (Or.inr (slot_ne (Or.inl (ow hw 64 rfl)) (Or.inr (ow hw 46 rfl)) (by decide) (t := .int) (t' := (.object "java/lang/String")) (by decide) (by decide)))).keep K407c nin0).keep K408c nin0).ext E409).other W410 (Or.inr (slot_ne (Or.inl (ow hw 64 rfl)) (Or.inr (ow hw 62 rfl)) (by decide) (t := .int) (t' := (.array .char)) (by decide) (by decide)))) ((((((PE_b246.keep K398c).wr W399).keep K407c).keep K408c).ext E409).wr W410) (Or.inl (ow hw 64 rfl)) (ow hw 5 rfl) (ty := .int) (by decide) rfl rfl (g := (mkF m 31 #[cr b246, cr b247] [(.int 4), (.ref b246)])) rfl rfl (hb hby d7_31)
 refine Ends.go st413 ?_
 have Fw413 := ((((((PF_b246_limit.keep K398c nin0).other W399 (Or.inr (slot_ne (Or.inl (ow hw 64 rfl)) (Or.inr (ow hw 46 rfl)) (by decide) (t := .int) (t' := (.object "java/lang/String")) (by decide) (by decide)))).keep K407c nin0).keep K408c nin0).ext E409).other W410 (Or.inr (slot_ne (Or.inl (ow hw 64 rfl)) (Or.inr (ow hw 62 rfl)) (by decide) (t := .int) (t' := (.array .char)) (by decide) (by decide)))).same W413
 have K413 := K410.wr W413 (Or.inl (List.mem_of_getElem? (i := 0) rfl))
 have O413 := O410.wr W413 g_b246
 have N413 := Fr.snoc X413 N410 g_b246
 refine walN X413 hx hby d7_34 rfl rfl ?_
 refine wic X413 hx hby d7_35 ?_
 show Ends _ _ _ _ T413 (mkF m 36 #[cr b246, cr b247] [(.int 0), (.ref b247)]) _ _ _
 refine walN X413 hx hby d7_36 rfl rfl ?_
 obtain ⟨T414, X414, e414, st414⟩ := getF X413 hx hZ hown (host := "") (Or.inl (ow hw 63 rfl)) Via.refl e413 Fw413 (g := (mkF m 37 #[cr b246, cr b247] [(.ref b246), (.int 0), (.ref b247)])) rfl rfl (hb hby d7_37)
 refine Ends.go st414 ?_
 refine walN X414 hx hby d7_40 rfl rfl ?_
 obtain ⟨T415, X415, e415, st415⟩ := getF X414 hx hZ hown (host := "") (Or.inl (ow hw 61 rfl)) Via.refl e414 (Fw410.other W413 (Or.inr (slot_ne (Or.inr (ow hw 62 rfl)) (Or.inl (ow hw 64 rfl)) (by decide) (t := (.array .char)) (t' := .int) (by decide) (by decide)))) (g := (mkF m 41 #[cr b246, cr b247] [(.ref b246), (.int 4), (.int 0), (.ref b247)])) rfl rfl (hb hby d7_41)
 refine Ends.go st415 ?_
 refine wic X415 hx hby d7_44 ?_
 show Ends _ _ _ _ T415 (mkF m 45 #[cr b246, cr b247] [(.int 0), (.ref b409), (.int 4), (.int 0), (.ref b247)]) _ _ _
 obtain ⟨cq442, kq442, q442a, q442b, q442c⟩ := isOf hZ e415 (((((((PE_b247.keep K398c).wr W399).keep K407c).keep K408c).ext E409).wr W410).wr W413)
 obtain ⟨_, _, ⟨T442, L442, k442, n442⟩, -, X442, ⟨Lc442, hQ442, l442, y442, z442⟩, st442⟩ := X415.virtualBack hx (y := ym27) (z := ym27) hown (mvT hZ (ow hw 65 rfl)) (mvT hZ (ow hw 66 rfl)) (notFace_of_selects (args := #[]) (mvT hZ (ow hw 68 rfl))) (mvT hZ (ow hw 68 rfl)) (mvT hZ (ow hw 67 rfl)) (by decide) (own_backOf (W := 0) (rx12_416 l Z a0 hw [] n0 h413 O413 G1 G3 GF b247 b409 b395 k396 c0_ c1_ c2_ c3_ k409 (((((((PF_b247_value.keep K398c nin0).other W399 (Or.inl ne_b247_b246)).keep K407c nin0).keep K408c nin0).ext E409).other W410 (Or.inl ne_b247_b246)).other W413 (Or.inl ne_b247_b246)) (((((((PV_b395.keep K398c nin0).other W399 ne_b395_b246).keep K407c nin0).keep K408c nin0).ext E409).other W410 ne_b395_b246).other W413 ne_b395_b246) (((((((PF_b247_coder.keep K398c nin0).other W399 (Or.inl ne_b247_b246)).keep K407c nin0).keep K408c nin0).ext E409).other W410 (Or.inl ne_b247_b246)).other W413 (Or.inl ne_b247_b246)) (((((((PE_b247.keep K398c).wr W399).keep K407c).keep K408c).ext E409).wr W410).wr W413) ((V_b409.other W410 (Ne.symm (Nat.ne_of_lt (Nat.lt_of_lt_of_le PE_b246.lt sz_b409)))).other W413 (Ne.symm (Nat.ne_of_lt (Nat.lt_of_lt_of_le PE_b246.lt sz_b409)))) (Nat.ne_of_lt (Nat.lt_of_lt_of_le PV_b395.lt sz_b409)) g_b409 hc0_ hc1_ hc2_ hc3_) hZ (ow hw 69 rfl) (ow hw 9 rfl) (by decide) (by decide)) q442a q442c (g := (mkF m 45 #[cr b246, cr b247] [(.int 0), (.ref b409), (.int 4), (.int 0), (.ref b247)])) rfl (by rw [hml]; rfl) (Steps.refl _) (argsL := [(.int 0), (.int 4), (.ref b409), (.int 0)]) (rest := []) (lenOf pdx_18 rfl) rfl (by show 2 * 0 + _ ≤ _; exact Nat.le_of_eq rfl) (hb hby d7_45) (fun _ _ => ⟨rfl, e415, (by decide : 1 + 0 ≤ _), (by decide : 4 + 0 ≤ _)⟩)
 dsimp only [Pt.U, Pt.locs, Pt.cells, Pt.slots] at X442 l442 y442 z442 st442 hQ442
 subst l442 y442 z442
 obtain ⟨rfl, N442q, K442c, Y442_0⟩ := hQ442
 have N442 := Fr.app N413 N442q
 refine Ends.go (fun _ k => st442.trans k) ?_
 obtain ⟨h442, e442⟩ : ∃ z, T442.heap = z := ⟨_, rfl⟩
 rw [e442] at K442c Y442_0
 have K442 := K413.trans K442c (allS (Or.inr sz_b409) all0)
 have O442 := O413.keep K442c (allS g_b409 all0)
 refine Ends.retV X442 hx Bd.notSynchronized Bd.returns (hb hby d7_48) (by decide) (by decide) ?_
 rw [e442]
 exact ⟨b409, k409, rfl, N442, K442, sz_b409, ((((((Fw399.keep K407c nin0).keep K408c nin0).ext E409).other W410 (Or.inr (slot_ne (Or.inr (ow hw 46 rfl)) (Or.inr (ow hw 62 rfl)) (by decide) (t := (.object "java/lang/String")) (t' := (.array .char)) (by decide) (by decide)))).other W413 (Or.inr (slot_ne (Or.inr (ow hw 46 rfl)) (Or.inl (ow hw 64 rfl)) (by decide) (t := (.object "java/lang/String")) (t' := .int) (by decide) (by decide)))).keep K442c (ninS (Nat.ne_of_lt (Nat.lt_of_lt_of_le PE_b246.lt sz_b409)) nin0)), ((Fw410.other W413 (Or.inr (slot_ne (Or.inr (ow hw 62 rfl)) (Or.inl (ow hw 64 rfl)) (by decide) (t := (.array .char)) (t' := .int) (by decide) (by decide)))).keep K442c (ninS (Nat.ne_of_lt (Nat.lt_of_lt_of_le PE_b246.lt sz_b409)) nin0)), (Fw413.keep K442c (ninS (Nat.ne_of_lt (Nat.lt_of_lt_of_le PE_b246.lt sz_b409)) nin0)), Y442_0, ((((((((PF_b246_base.keep K398c nin0).other W399 (Or.inr (slot_ne (Or.inl (ow hw 103 rfl)) (Or.inr (ow hw 46 rfl)) (by decide) (t := .int) (t' := (.object "java/lang/String")) (by decide) (by decide)))).keep K407c nin0).keep K408c nin0).ext E409).other W410 (Or.inr (slot_ne (Or.inl (ow hw 103 rfl)) (Or.inr (ow hw 62 rfl)) (by decide) (t := .int) (t' := (.array .char)) (by decide) (by decide)))).other W413 (Or.inr (slot_ne (Or.inl (ow hw 103 rfl)) (Or.inl (ow hw 64 rfl)) (by decide) (t := .int) (t' := .int) (by decide) (by decide)))).keep K442c (ninS (Nat.ne_of_lt (Nat.lt_of_lt_of_le PE_b246.lt sz_b409)) nin0)), ((((((((PF_b246_position.keep K398c nin0).other W399 (Or.inr (slot_ne (Or.inl (ow hw 105 rfl)) (Or.inr (ow hw 46 rfl)) (by decide) (t := .int) (t' := (.object "java/lang/String")) (by decide) (by decide)))).keep K407c nin0).keep K408c nin0).ext E409).other W410 (Or.inr (slot_ne (Or.inl (ow hw 105 rfl)) (Or.inr (ow hw 62 rfl)) (by decide) (t := .int) (t' := (.array .char)) (by decide) (by decide)))).other W413 (Or.inr (slot_ne (Or.inl (ow hw 105 rfl)) (Or.inl (ow hw 64 rfl)) (by decide) (t := .int) (t' := .int) (by decide) (by decide)))).keep K442c (ninS (Nat.ne_of_lt (Nat.lt_of_lt_of_le PE_b246.lt sz_b409)) nin0)), ((((((((PF_b246_mark.keep K398c nin0).other W399 (Or.inr (slot_ne (Or.inl (ow hw 107 rfl)) (Or.inr (ow hw 46 rfl)) (by decide) (t := .int) (t' := (.object "java/lang/String")) (by decide) (by decide)))).keep K407c nin0).keep K408c nin0).ext E409).other W410 (Or.inr (slot_ne (Or.inl (ow hw 107 rfl)) (Or.inr (ow hw 62 rfl)) (by decide) (t := .int) (t' := (.array .char)) (by decide) (by decide)))).other W413 (Or.inr (slot_ne (Or.inl (ow hw 107 rfl)) (Or.inl (ow hw 64 rfl)) (by decide) (t := .int) (t' := .int) (by decide) (by decide)))).keep K442c (ninS (Nat.ne_of_lt (Nat.lt_of_lt_of_le PE_b246.lt sz_b409)) nin0)), ((((((((PF_b246_ascii.keep K398c nin0).other W399 (Or.inr (slot_ne (Or.inl (ow hw 109 rfl)) (Or.inr (ow hw 46 rfl)) (by decide) (t := .boolean) (t' := (.object "java/lang/String")) (by decide) (by decide)))).keep K407c nin0).keep K408c nin0).ext E409).other W410 (Or.inr (slot_ne (Or.inl (ow hw 109 rfl)) (Or.inr (ow hw 62 rfl)) (by decide) (t := .boolean) (t' := (.array .char)) (by decide) (by decide)))).other W413 (Or.inr (slot_ne (Or.inl (ow hw 109 rfl)) (Or.inl (ow hw 64 rfl)) (by decide) (t := .boolean) (t' := .int) (by decide) (by decide)))).keep K442c (ninS (Nat.ne_of_lt (Nat.lt_of_lt_of_le PE_b246.lt sz_b409)) nin0)), ((((((((PF_b246_decoded.keep K398c nin0).other W399 (Or.inr (slot_ne (Or.inl (ow hw 139 rfl)) (Or.inr (ow hw 46 rfl)) (by decide) (t := (.object "com/example/ratatoskr/ratatoskr/core/internal/DecodedChars")) (t' := (.object "java/lang/String")) (by decide) (by decide)))).keep K407c nin0).keep K408c nin0).ext E409).other W410 (Or.inr (slot_ne (Or.inl (ow hw 139 rfl)) (Or.inr (ow hw 62 rfl)) (by decide) (t := (.object "com/example/ratatoskr/ratatoskr/core/internal/DecodedChars")) (t' := (.array .char)) (by decide) (by decide)))).other W413 (Or.inr (slot_ne (Or.inl (ow hw 139 rfl)) (Or.inl (ow hw 64 rfl)) (by decide) (t := (.object "com/example/ratatoskr/ratatoskr/core/internal/DecodedChars")) (t' := .int) (by decide) (by decide)))).keep K442c (ninS (Nat.ne_of_lt (Nat.lt_of_lt_of_le PE_b246.lt sz_b409)) nin0))⟩
theorem pn0 : plainName "com/example/ratatoskr/ratatoskr/core/internal/StringInputSkipPlainRunPinLaw" = true := by first | (simp [plainName, overriddenIn]; done) | decide +kernel
theorem ef0_iiji (m : MethodId) (x0 : Int32) (x1 : Int32) (x2 : Int64) (x3 : Int32) : entryFrame m #[(.int x0), (.int x1), (.long x2), (.int x3)] maxLocals = mkF m 0 #[.val (.int x0), .val (.int x1), .val (.long x2), .second, .val (.int x3), .unset, .unset, .unset, .unset, .unset, .unset, .unset, .unset, .unset, .unset, .unset, .unset, .unset, .unset, .unset, .unset] [] := by first | (simp [entryFrame, mkF, argsToLocals, Value.category, maxLocals]; done) | rfl
set_option maxRecDepth 65536 in
set_option maxHeartbeats 40000000 in
theorem rm0 (l : Launch) (Z : State) (a0 : Array Value) (hw : ∀ d ∈ tables_1, d.before a0 Z = true) (ws : List Jvm.Cond) (n0 : Nat) (h0 : Heap) (O0 : Old Z n0 h0) (p0 : Int32) (p1 : Int32) (q2 : Int64) (p3 : Int32) (G1 : Int32) (G3 : Value) (GF : GlobF Z G1 G3) :
  Meets1 l x code maxLocals ret ws room_1 #[(.int p0), (.int p1), (.long q2), (.int p3)] Z h0 (fun v h L => v = some (.int 1) ∧ Fr n0 L) := by
 refine MetFree.of_bodySF (plainFor_of_name pn0) hisR ?_
 intro p e s m args below meth c s₁ Bd hml0 hP hK
 obtain ⟨rfl, hZ, hh⟩ := hP
 have hx := Bd.exec
 have hby := Bd.bytes
 have hml : c.maxLocals = 21 := hml0
 have hown : s.vm.findClass "com/example/ratatoskr/ratatoskr/core/internal/StringInputSkipPlainRunPinLaw" = some m.cls := findClass_of_methodNamed Bd.named
 have hnm := (name_of_methodNamed Bd.named Bd.method).1
 have X0 : Stand p l e room_1 s m #[(.int p0), (.int p1), (.long q2), (.int p3)] below meth c s₁ [] 0 0 := Stand.of_body Bd
 have e0 : s₁.heap = h0 := by rw [← hh, Bd.state]; rfl
 have N0 := Fr.nil n0
 have Z0 := own_old_le O0
 show Ends _ _ _ _ s₁ (entryFrame m #[(.int p0), (.int p1), (.long q2), (.int p3)] maxLocals) room_1.cells room_1.slots (fun v h L => v = some (.int 1) ∧ Fr n0 L)
 refine Ends.go (fun _ k => castTop (ef0_iiji m p0 p1 q2 p3) k) ?_
 have K0 := Keep.refl h0 []
 obtain ⟨SCS, P5, SAD, SHI, SLO, SSF, RG3⟩ := id GF
 refine wic X0 hx hby at_0 ?_
 obtain ⟨T126, h126, k126, X126, e126, E126, A126, st126⟩ := newP X0 hx hZ (ow hw 0 rfl) e0 (g := (mkF m 1 #[ci p0, ci p1, cj q2, cs, ci p3, cu, cu, cu, cu, cu, cu, cu, cu, cu, cu, cu, cu, cu, cu, cu, cu] [(.int 4)])) rfl (hb hby at_1) rfl (by decide) (cap := 4) (by decide) (by decide) (by decide) (by decide)
 obtain ⟨b126, g126⟩ : ∃ z, z = h0.size := ⟨_, rfl⟩
 rw [← g126] at A126 st126
 refine Ends.go st126 ?_
 have g_b126 : n0 ≤ b126 := Nat.le_trans (own_old_le O0) (Nat.le_of_eq g126.symm)
 have sz_b126 : h0.size ≤ b126 := Nat.le_trans K0.1 (Nat.le_of_eq g126.symm)
 have K126 := K0.ext E126
 have O126 := O0.ext E126
 have V_b126 : Arv Z h126 b126 k126 .char (4 : Int32) [(.int 0), (.int 0), (.int 0), (.int 0)] (.int 0) := (Arv.new A126 (by decide)).pad (pad_rep [] (.int 0) 4)
 refine was X126 hx hby at_3 (l' := #[ci p0, ci p1, cj q2, cs, ci p3, cr b126, cu, cu, cu, cu, cu, cu, cu, cu, cu, cu, cu, cu, cu, cu, cu]) rfl rfl ?_
 refine wal X126 hx hby at_5 rfl rfl ?_
 show Ends _ _ _ _ T126 (mkF m 7 #[ci p0, ci p1, cj q2, cs, ci p3, cr b126, cu, cu, cu, cu, cu, cu, cu, cu, cu, cu, cu, cu, cu, cu, cu] [(.ref b126)]) _ _ _
 refine wic X126 hx hby at_7 ?_
 refine wilN X126 hx hby at_8 rfl ?_
 refine Ends.go (X126.ldcInt hx hown (mvT hZ (ow hw 1 rfl)) (g := (mkF m 9 #[ci p0, ci p1, cj q2, cs, ci p3, cr b126, cu, cu, cu, cu, cu, cu, cu, cu, cu, cu, cu, cu, cu, cu, cu] [(.int p0), (.int 0), (.ref b126)])) rfl (hb hby at_9)) ?_
 refine wan X126 hx hby at_11 ?_
 refine .go (fun _ => XS.i2c X126.here hx rfl (hb hby at_12) rfl) ?_
 show Ends _ _ _ _ T126 (mkF m 13 #[ci p0, ci p1, cj q2, cs, ci p3, cr b126, cu, cu, cu, cu, cu, cu, cu, cu, cu, cu, cu, cu, cu, cu, cu] [(.int ((p0 &&& (65535 : Int32)).toUInt32.toUInt16.toUInt32.toInt32)), (.int 0), (.ref b126)]) _ _ _
 show Ends _ _ _ _ T126 (mkF m 13 #[ci p0, ci p1, cj q2, cs, ci p3, cr b126, cu, cu, cu, cu, cu, cu, cu, cu, cu, cu, cu, cu, cu, cu, cu] [(.int ((p0 &&& (65535 : Int32)).toUInt32.toUInt16.toUInt32.toInt32)), (.int 0), (.ref b126)]) _ _ _
 generalize hgc0_ : ((p0 &&& (65535 : Int32)).toUInt32.toUInt16.toUInt32.toInt32) = c0_
 have hc0_ := own_rngc hgc0_
 show Ends _ _ _ _ T126 (mkF m 13 #[ci p0, ci p1, cj q2, cs, ci p3, cr b126, cu, cu, cu, cu, cu, cu, cu, cu, cu, cu, cu, cu, cu, cu, cu] [(.int c0_), (.int 0), (.ref b126)]) _ _ _
 obtain ⟨cl127, Ar127, q127, S127, M127, H127, G127⟩ := id V_b126
 have hin127 := inb_of (j := (0 : Int32)) S127 ⟨by decide, by decide⟩
 obtain ⟨T127, h127, X127, e127, W127, st127⟩ := stC X126 hx hZ e126 Ar127 (j := (0 : Int32)) hin127 (g := (mkF m 13 #[ci p0, ci p1, cj q2, cs, ci p3, cr b126, cu, cu, cu, cu, cu, cu, cu, cu, cu, cu, cu, cu, cu, cu, cu] [(.int c0_), (.int 0), (.ref b126)])) rfl rfl (hb hby at_13)
 refine Ends.go st127 ?_
 have V127 : Arv Z h127 b126 k126 .char (4 : Int32) [(.int (nar .char c0_)), (.int 0), (.int 0), (.int 0)] (.int 0) := Arv.set Ar127 q127 S127 M127 H127 G127 (fits_nar_char _) W127 0 rfl (Nat.le_of_ble_eq_true rfl)
 rw [own_narc hc0_] at V127
 have K127 := K126.wr W127 (Or.inr sz_b126)
 have O127 := O126.wr W127 g_b126
 have N127 := Fr.snoc X127 N0 g_b126
 refine wal X127 hx hby at_14 rfl rfl ?_
 refine wic X127 hx hby at_16 ?_
 show Ends _ _ _ _ T127 (mkF m 17 #[ci p0, ci p1, cj q2, cs, ci p3, cr b126, cu, cu, cu, cu, cu, cu, cu, cu, cu, cu, cu, cu, cu, cu, cu] [(.int 1), (.ref b126)]) _ _ _
 refine wilN X127 hx hby at_17 rfl ?_
 refine wbp X127 hx hby at_18 ?_
 refine .go (fun _ => XS.iushr X127.here hx rfl (hb hby at_20) rfl) ?_
 refine .go (fun _ => XS.i2c X127.here hx rfl (hb hby at_21) rfl) ?_
 show Ends _ _ _ _ T127 (mkF m 22 #[ci p0, ci p1, cj q2, cs, ci p3, cr b126, cu, cu, cu, cu, cu, cu, cu, cu, cu, cu, cu, cu, cu, cu, cu] [(.int (((p0.toUInt32 >>> ((16 : Int32) &&& 31).toUInt32).toInt32).toUInt32.toUInt16.toUInt32.toInt32)), (.int 1), (.ref b126)]) _ _ _
 generalize hgc1_ : (((p0.toUInt32 >>> ((16 : Int32) &&& 31).toUInt32).toInt32).toUInt32.toUInt16.toUInt32.toInt32) = c1_
 have hc1_ := own_rngc hgc1_
 show Ends _ _ _ _ T127 (mkF m 22 #[ci p0, ci p1, cj q2, cs, ci p3, cr b126, cu, cu, cu, cu, cu, cu, cu, cu, cu, cu, cu, cu, cu, cu, cu] [(.int c1_), (.int 1), (.ref b126)]) _ _ _
 obtain ⟨cl128, Ar128, q128, S128, M128, H128, G128⟩ := id V127
 have hin128 := inb_of (j := (1 : Int32)) S128 ⟨by decide, by decide⟩
 obtain ⟨T128, h128, X128, e128, W128, st128⟩ := stC X127 hx hZ e127 Ar128 (j := (1 : Int32)) hin128 (g := (mkF m 22 #[ci p0, ci p1, cj q2, cs, ci p3, cr b126, cu, cu, cu, cu, cu, cu, cu, cu, cu, cu, cu, cu, cu, cu, cu] [(.int c1_), (.int 1), (.ref b126)])) rfl rfl (hb hby at_22)
 refine Ends.go st128 ?_
 have V128 : Arv Z h128 b126 k126 .char (4 : Int32) [(.int c0_), (.int (nar .char c1_)), (.int 0), (.int 0)] (.int 0) := Arv.set Ar128 q128 S128 M128 H128 G128 (fits_nar_char _) W128 1 rfl (Nat.le_of_ble_eq_true rfl)
 rw [own_narc hc1_] at V128
 have K128 := K127.wr W128 (Or.inr sz_b126)
 have O128 := O127.wr W128 g_b126
 have N128 := Fr.snoc X128 N127 g_b126
 refine wal X128 hx hby at_23 rfl rfl ?_
 refine wic X128 hx hby at_25 ?_
 refine wilN X128 hx hby at_26 rfl ?_
 show Ends _ _ _ _ T128 (mkF m 27 #[ci p0, ci p1, cj q2, cs, ci p3, cr b126, cu, cu, cu, cu, cu, cu, cu, cu, cu, cu, cu, cu, cu, cu, cu] [(.int p1), (.int 2), (.ref b126)]) _ _ _
 refine Ends.go (X128.ldcInt hx hown (mvT hZ (ow hw 1 rfl)) (g := (mkF m 27 #[ci p0, ci p1, cj q2, cs, ci p3, cr b126, cu, cu, cu, cu, cu, cu, cu, cu, cu, cu, cu, cu, cu, cu, cu] [(.int p1), (.int 2), (.ref b126)])) rfl (hb hby at_27)) ?_
 refine wan X128 hx hby at_29 ?_
 refine .go (fun _ => XS.i2c X128.here hx rfl (hb hby at_30) rfl) ?_
 show Ends _ _ _ _ T128 (mkF m 31 #[ci p0, ci p1, cj q2, cs, ci p3, cr b126, cu, cu, cu, cu, cu, cu, cu, cu, cu, cu, cu, cu, cu, cu, cu] [(.int ((p1 &&& (65535 : Int32)).toUInt32.toUInt16.toUInt32.toInt32)), (.int 2), (.ref b126)]) _ _ _
 generalize hgc2_ : ((p1 &&& (65535 : Int32)).toUInt32.toUInt16.toUInt32.toInt32) = c2_
 have hc2_ := own_rngc hgc2_
 show Ends _ _ _ _ T128 (mkF m 31 #[ci p0, ci p1, cj q2, cs, ci p3, cr b126, cu, cu, cu, cu, cu, cu, cu, cu, cu, cu, cu, cu, cu, cu, cu] [(.int c2_), (.int 2), (.ref b126)]) _ _ _
 obtain ⟨cl129, Ar129, q129, S129, M129, H129, G129⟩ := id V128
 have hin129 := inb_of (j := (2 : Int32)) S129 ⟨by decide, by decide⟩
 obtain ⟨T129, h129, X129, e129, W129, st129⟩ := stC X128 hx hZ e128 Ar129 (j := (2 : Int32)) hin129 (g := (mkF m 31 #[ci p0, ci p1, cj q2, cs, ci p3, cr b126, cu, cu, cu, cu, cu, cu, cu, cu, cu, cu, cu, cu, cu, cu, cu] [(.int c2_), (.int 2), (.ref b126)])) rfl rfl (hb hby at_31)
 refine Ends.go st129 ?_
 have V129 : Arv Z h129 b126 k126 .char (4 : Int32) [(.int c0_), (.int c1_), (.int (nar .char c2_)), (.int 0)] (.int 0) := Arv.set Ar129 q129 S129 M129 H129 G129 (fits_nar_char _) W129 2 rfl (Nat.le_of_ble_eq_true rfl)
 rw [own_narc hc2_] at V129
 have K129 := K128.wr W129 (Or.inr sz_b126)
 have O129 := O128.wr W129 g_b126
 have N129 := Fr.snoc X129 N128 g_b126
 refine wal X129 hx hby at_32 rfl rfl ?_
 refine wic X129 hx hby at_34 ?_
 refine wilN X129 hx hby at_35 rfl ?_
 refine wbp X129 hx hby at_36 ?_
 show Ends _ _ _ _ T129 (mkF m 38 #[ci p0, ci p1, cj q2, cs, ci p3, cr b126, cu, cu, cu, cu, cu, cu, cu, cu, cu, cu, cu, cu, cu, cu, cu] [(.int 16), (.int p1), (.int 3), (.ref b126)]) _ _ _
 refine .go (fun _ => XS.iushr X129.here hx rfl (hb hby at_38) rfl) ?_
 refine .go (fun _ => XS.i2c X129.here hx rfl (hb hby at_39) rfl) ?_
 show Ends _ _ _ _ T129 (mkF m 40 #[ci p0, ci p1, cj q2, cs, ci p3, cr b126, cu, cu, cu, cu, cu, cu, cu, cu, cu, cu, cu, cu, cu, cu, cu] [(.int (((p1.toUInt32 >>> ((16 : Int32) &&& 31).toUInt32).toInt32).toUInt32.toUInt16.toUInt32.toInt32)), (.int 3), (.ref b126)]) _ _ _
 generalize hgc3_ : (((p1.toUInt32 >>> ((16 : Int32) &&& 31).toUInt32).toInt32).toUInt32.toUInt16.toUInt32.toInt32) = c3_
 have hc3_ := own_rngc hgc3_
 show Ends _ _ _ _ T129 (mkF m 40 #[ci p0, ci p1, cj q2, cs, ci p3, cr b126, cu, cu, cu, cu, cu, cu, cu, cu, cu, cu, cu, cu, cu, cu, cu] [(.int c3_), (.int 3), (.ref b126)]) _ _ _
 obtain ⟨cl130, Ar130, q130, S130, M130, H130, G130⟩ := id V129
 have hin130 := inb_of (j := (3 : Int32)) S130 ⟨by decide, by decide⟩
 obtain ⟨T130, h130, X130, e130, W130, st130⟩ := stC X129 hx hZ e129 Ar130 (j := (3 : Int32)) hin130 (g := (mkF m 40 #[ci p0, ci p1, cj q2, cs, ci p3, cr b126, cu, cu, cu, cu, cu, cu, cu, cu, cu, cu, cu, cu, cu, cu, cu] [(.int c3_), (.int 3), (.ref b126)])) rfl rfl (hb hby at_40)
 refine Ends.go st130 ?_
 have V130 : Arv Z h130 b126 k126 .char (4 : Int32) [(.int c0_), (.int c1_), (.int c2_), (.int (nar .char c3_))] (.int 0) := Arv.set Ar130 q130 S130 M130 H130 G130 (fits_nar_char _) W130 3 rfl (Nat.le_of_ble_eq_true rfl)
 rw [own_narc hc3_] at V130
 have K130 := K129.wr W130 (Or.inr sz_b126)
 have O130 := O129.wr W130 g_b126
 have N130 := Fr.snoc X130 N129 g_b126
 show Ends _ _ _ _ T130 (mkF m 41 #[ci p0, ci p1, cj q2, cs, ci p3, cr b126, cu, cu, cu, cu, cu, cu, cu, cu, cu, cu, cu, cu, cu, cu, cu] []) _ _ _
 refine wil X130 hx hby at_41 rfl ?_
 refine Ends.go (X130.ldcInt hx hown (mvT hZ (ow hw 2 rfl)) (g := (mkF m 43 #[ci p0, ci p1, cj q2, cs, ci p3, cr b126, cu, cu, cu, cu, cu, cu, cu, cu, cu, cu, cu, cu, cu, cu, cu] [(.int p3)])) rfl (hb hby at_43)) ?_
 refine wan X130 hx hby at_45 ?_
 refine wic X130 hx hby at_46 ?_
 refine .go (fun _ => iremM X130 hx rfl (hb hby at_47) rfl (by decide)) ?_
 show Ends _ _ _ _ T130 (mkF m 48 #[ci p0, ci p1, cj q2, cs, ci p3, cr b126, cu, cu, cu, cu, cu, cu, cu, cu, cu, cu, cu, cu, cu, cu, cu] [(.int ((p3 &&& (2147483647 : Int32)) % (5 : Int32)))]) _ _ _
 show Ends _ _ _ _ T130 (mkF m 48 #[ci p0, ci p1, cj q2, cs, ci p3, cr b126, cu, cu, cu, cu, cu, cu, cu, cu, cu, cu, cu, cu, cu, cu, cu] [(.int ((p3 &&& (2147483647 : Int32)) % (5 : Int32)))]) _ _ _
 generalize hkg : ((p3 &&& (2147483647 : Int32)) % (5 : Int32)) = k_
 have hk := own_k5 p3 k_ hkg
 show Ends _ _ _ _ T130 (mkF m 48 #[ci p0, ci p1, cj q2, cs, ci p3, cr b126, cu, cu, cu, cu, cu, cu, cu, cu, cu, cu, cu, cu, cu, cu, cu] [(.int k_)]) _ _ _
 refine wst X130 hx hby at_48 (l' := #[ci p0, ci p1, cj q2, cs, ci p3, cr b126, ci k_, cu, cu, cu, cu, cu, cu, cu, cu, cu, cu, cu, cu, cu, cu]) rfl ?_
 have J406_0 : ∀ (T8 : State) (h8 : Heap) (lcs : List Loc) (x5 : Addr) (si_ : Addr) (k_ : Int32) (lv_ : Int32) (rm_ : Int32) (cap_ : Int32) (r1_ : Int32) (r2_ : Int32) (r3_ : Int32) (r4_ : Int32) (n_ : Int32) (p_ : Int32) (q8_ : Int64) (g_ : Int64) (X8 : Stand p l e room_1 s m #[(.int p0), (.int p1), (.long q2), (.int p3)] below meth c T8 lcs 8 48) (eT8 : T8.heap = h8) (O8 : Old Z n0 h8) (N8 : Fr n0 lcs) (K8 : Keep h0 h8 []) (g_si_ : n0 ≤ si_) (sz_si_ : h0.size ≤ si_) (E4 : Exa Z h8 si_ cSI) (Fb : Fld Z h8 si_ cSI "base" "I" (.int 0)) (Fp : Fld Z h8 si_ cSI "position" "I" (.int p_)) (Fa : Fld Z h8 si_ cSI "ascii" "Z" (.int 0)) (Fd : Fld Z h8 si_ "com/example/ratatoskr/ratatoskr/core/internal/Input" "decoded" "Lcom/example/ratatoskr/ratatoskr/core/internal/DecodedChars;" .null) (hg : g_ = n_.toInt64) (hp : p_ = k_ + n_), Ends p e below s T8 (mkF m 406 #[ci p0, ci p1, cj q2, cs, ci p3, cr x5, ci k_, ci lv_, cj q8_, cs, cr si_, cj g_, cs, ci rm_, ci cap_, ci r1_, ci r2_, ci r3_, ci r4_, ci n_, cu] [(.int 0)]) room_1.cells room_1.slots (fun v h L => v = some (.int 1) ∧ Fr n0 L) := by
  intro T8 h8 lcs x5 si_ k_ lv_ rm_ cap_ r1_ r2_ r3_ r4_ n_ p_ q8_ g_ X8 eT8 O8 N8 K8 g_si_ sz_si_ E4 Fb Fp Fa Fd hg hp
  show Ends _ _ _ _ T8 (mkF m 406 #[ci p0, ci p1, cj q2, cs, ci p3, cr x5, ci k_, ci lv_, cj q8_, cs, cr si_, cj g_, cs, ci rm_, ci cap_, ci r1_, ci r2_, ci r3_, ci r4_, ci n_, cu] [(.int 0)]) _ _ _
  refine wst X8 hx hby at_406 (l' := #[ci p0, ci p1, cj q2, cs, ci p3, cr x5, ci k_, ci lv_, cj q8_, cs, cr si_, cj g_, cs, ci rm_, ci cap_, ci r1_, ci r2_, ci r3_, ci r4_, ci n_, ci 0]) rfl ?_
  show Ends _ _ _ _ T8 (mkF m 408 #[ci p0, ci p1, cj q2, cs, ci p3, cr x5, ci k_, ci lv_, cj q8_, cs, cr si_, cj g_, cs, ci rm_, ci cap_, ci r1_, ci r2_, ci r3_, ci r4_, ci n_, ci 0] []) _ _ _
  refine .go (fun _ => XS.lload X8.here hx rfl (hb hby at_408) rfl) ?_
  refine wil X8 hx hby at_410 rfl ?_
  refine .go (fun _ => XS.i2l X8.here hx rfl (hb hby at_412) rfl) ?_
  refine .go (fun _ => XS.lcmp X8.here hx rfl (hb hby at_413) rfl) ?_
  refine win X8 hx hby at_414 ((if0 _ _).trans (teq (((lw_eq _ _).mpr hg) : (lcmpW g_ (n_.toInt64)) = (0 : Int32))).2) ?_
  show Ends _ _ _ _ T8 (mkF m 417 #[ci p0, ci p1, cj q2, cs, ci p3, cr x5, ci k_, ci lv_, cj q8_, cs, cr si_, cj g_, cs, ci rm_, ci cap_, ci r1_, ci r2_, ci r3_, ci r4_, ci n_, ci 0] []) _ _ _
  refine wal X8 hx hby at_417 rfl rfl ?_
  obtain ⟨cq134, kq134, q134a, q134b, q134c⟩ := isOf hZ eT8 E4
  obtain ⟨_, _, ⟨T134, L134, k134, n134⟩, -, X134, ⟨Lc134, hQ134, l134, y134, z134⟩, st134⟩ := X8.virtualBack hx (y := ym10) (z := ym10) hown (mvT hZ (ow hw 122 rfl)) (mvT hZ (ow hw 123 rfl)) (notFace_of_selects (args := #[]) (mvT hZ (ow hw 125 rfl))) (mvT hZ (ow hw 125 rfl)) (mvT hZ (ow hw 124 rfl)) (by decide) (own_backOf (W := 0) (rx24_131 l Z a0 hw [] n0 h8 O8  si_ p_ Fb Fp) hZ (ow hw 126 rfl) (ow hw 6 rfl) (by decide) (by decide)) q134a q134c (g := (mkF m 419 #[ci p0, ci p1, cj q2, cs, ci p3, cr x5, ci k_, ci lv_, cj q8_, cs, cr si_, cj g_, cs, ci rm_, ci cap_, ci r1_, ci r2_, ci r3_, ci r4_, ci n_, ci 0] [(.ref si_)])) rfl (by rw [hml]; rfl) (Steps.refl _) (argsL := []) (rest := []) (lenOf pdx_1 rfl) rfl (by show 2 * 0 + _ ≤ _; exact Nat.le_of_eq rfl) (hb hby at_419) (fun _ _ => ⟨rfl, eT8, (by decide : 8 + 0 ≤ _), (by decide : 48 + 0 ≤ _)⟩)
  dsimp only [Pt.U, Pt.locs, Pt.cells, Pt.slots] at X134 l134 y134 z134 st134 hQ134
  subst l134 y134 z134
  obtain ⟨rfl, N134q, K134c⟩ := hQ134
  have N134 := Fr.app N8 N134q
  refine Ends.go (fun _ k => st134.trans k) ?_
  obtain ⟨h134, e134⟩ : ∃ z, T134.heap = z := ⟨_, rfl⟩
  rw [e134] at K134c
  have K134 := K8.trans K134c all0
  have O134 := O8.keep K134c all0
  refine wil X134 hx hby at_422 rfl ?_
  refine wil X134 hx hby at_424 rfl ?_
  refine wia X134 hx hby at_426 ?_
  show Ends _ _ _ _ T134 (mkF m 427 #[ci p0, ci p1, cj q2, cs, ci p3, cr x5, ci k_, ci lv_, cj q8_, cs, cr si_, cj g_, cs, ci rm_, ci cap_, ci r1_, ci r2_, ci r3_, ci r4_, ci n_, ci 0] [(.int (k_ + n_)), (.long (((0 : Int32) + p_).toInt64))]) _ _ _
  refine .go (fun _ => XS.i2l X134.here hx rfl (hb hby at_427) rfl) ?_
  refine .go (fun _ => XS.lcmp X134.here hx rfl (hb hby at_428) rfl) ?_
  refine win X134 hx hby at_429 ((if0 _ _).trans (teq (((lw_eq _ _).mpr (own_off hp)) : (lcmpW (((0 : Int32) + p_).toInt64) ((k_ + n_).toInt64)) = (0 : Int32))).2) ?_
  refine wal X134 hx hby at_432 rfl rfl ?_
  obtain ⟨cq140, kq140, q140a, q140b, q140c⟩ := isOf hZ e134 (E4.keep K134c)
  obtain ⟨_, _, ⟨T140, L140, k140, n140⟩, -, X140, ⟨Lc140, hQ140, l140, y140, z140⟩, st140⟩ := X134.virtualBack hx (y := ym12) (z := ym12) hown (mvT hZ (ow hw 127 rfl)) (mvT hZ (ow hw 128 rfl)) (notFace_of_selects (args := #[]) (mvT hZ (ow hw 130 rfl))) (mvT hZ (ow hw 130 rfl)) (mvT hZ (ow hw 129 rfl)) (by decide) (own_backOf (W := 0) (rx25_135 l Z a0 hw [] n0 h134 O134  si_ (Fd.keep K134c nin0) (E4.keep K134c) (Fa.keep K134c nin0)) hZ (ow hw 131 rfl) (ow hw 6 rfl) (by decide) (by decide)) q140a q140c (g := (mkF m 434 #[ci p0, ci p1, cj q2, cs, ci p3, cr x5, ci k_, ci lv_, cj q8_, cs, cr si_, cj g_, cs, ci rm_, ci cap_, ci r1_, ci r2_, ci r3_, ci r4_, ci n_, ci 0] [(.ref si_)])) rfl (by rw [hml]; rfl) (Steps.refl _) (argsL := []) (rest := []) (lenOf pdx_2 rfl) rfl (by show 2 * 0 + _ ≤ _; exact Nat.le_of_eq rfl) (hb hby at_434) (fun _ _ => ⟨rfl, e134, (by decide : 8 + 0 ≤ _), (by decide : 48 + 0 ≤ _)⟩)
  dsimp only [Pt.U, Pt.locs, Pt.cells, Pt.slots] at X140 l140 y140 z140 st140 hQ140
  subst l140 y140 z140
  obtain ⟨rfl, N140q, K140c⟩ := hQ140
  have N140 := Fr.app N134 N140q
  refine Ends.go (fun _ k => st140.trans k) ?_
  obtain ⟨h140, e140⟩ : ∃ z, T140.heap = z := ⟨_, rfl⟩
  rw [e140] at K140c
  have K140 := K134.trans K140c all0
  have O140 := O134.keep K140c all0
  show Ends _ _ _ _ T140 (mkF m 437 #[ci p0, ci p1, cj q2, cs, ci p3, cr x5, ci k_, ci lv_, cj q8_, cs, cr si_, cj g_, cs, ci rm_, ci cap_, ci r1_, ci r2_, ci r3_, ci r4_, ci n_, ci 0] [(.int 0)]) _ _ _
  refine wil X140 hx hby at_437 rfl ?_
  refine wcn X140 hx hby at_439 (teq (by decide : (0 : Int32) = (0 : Int32))).2 ?_
  refine wic X140 hx hby at_442 ?_
  refine wgo (pc := 443) (pc' := 447) X140 hx hby at_443 (by decide) (by decide) ?_
  refine Ends.retZ X140 hx Bd.notSynchronized (t := .boolean) Bd.returns (by simp) (hb hby at_447) (by decide) (by decide) ?_
  exact ⟨rfl, N140⟩
 have J406_1 : ∀ (T8 : State) (h8 : Heap) (lcs : List Loc) (x5 : Addr) (si_ : Addr) (k_ : Int32) (lv_ : Int32) (rm_ : Int32) (cap_ : Int32) (r1_ : Int32) (r2_ : Int32) (r3_ : Int32) (r4_ : Int32) (n_ : Int32) (p_ : Int32) (q8_ : Int64) (g_ : Int64) (X8 : Stand p l e room_1 s m #[(.int p0), (.int p1), (.long q2), (.int p3)] below meth c T8 lcs 8 48) (eT8 : T8.heap = h8) (O8 : Old Z n0 h8) (N8 : Fr n0 lcs) (K8 : Keep h0 h8 []) (g_si_ : n0 ≤ si_) (sz_si_ : h0.size ≤ si_) (E4 : Exa Z h8 si_ cSI) (Fb : Fld Z h8 si_ cSI "base" "I" (.int 0)) (Fp : Fld Z h8 si_ cSI "position" "I" (.int p_)) (Fa : Fld Z h8 si_ cSI "ascii" "Z" (.int 1)) (Fd : Fld Z h8 si_ "com/example/ratatoskr/ratatoskr/core/internal/Input" "decoded" "Lcom/example/ratatoskr/ratatoskr/core/internal/DecodedChars;" .null) (hg : g_ = n_.toInt64) (hp : p_ = k_ + n_), Ends p e below s T8 (mkF m 406 #[ci p0, ci p1, cj q2, cs, ci p3, cr x5, ci k_, ci lv_, cj q8_, cs, cr si_, cj g_, cs, ci rm_, ci cap_, ci r1_, ci r2_, ci r3_, ci r4_, ci n_, cu] [(.int 1)]) room_1.cells room_1.slots (fun v h L => v = some (.int 1) ∧ Fr n0 L) := by
  intro T8 h8 lcs x5 si_ k_ lv_ rm_ cap_ r1_ r2_ r3_ r4_ n_ p_ q8_ g_ X8 eT8 O8 N8 K8 g_si_ sz_si_ E4 Fb Fp Fa Fd hg hp
  show Ends _ _ _ _ T8 (mkF m 406 #[ci p0, ci p1, cj q2, cs, ci p3, cr x5, ci k_, ci lv_, cj q8_, cs, cr si_, cj g_, cs, ci rm_, ci cap_, ci r1_, ci r2_, ci r3_, ci r4_, ci n_, cu] [(.int 1)]) _ _ _
  refine wst X8 hx hby at_406 (l' := #[ci p0, ci p1, cj q2, cs, ci p3, cr x5, ci k_, ci lv_, cj q8_, cs, cr si_, cj g_, cs, ci rm_, ci cap_, ci r1_, ci r2_, ci r3_, ci r4_, ci n_, ci 1]) rfl ?_
  refine .go (fun _ => XS.lload X8.here hx rfl (hb hby at_408) rfl) ?_
  refine wil X8 hx hby at_410 rfl ?_
  refine .go (fun _ => XS.i2l X8.here hx rfl (hb hby at_412) rfl) ?_
  refine .go (fun _ => XS.lcmp X8.here hx rfl (hb hby at_413) rfl) ?_
  show Ends _ _ _ _ T8 (mkF m 414 #[ci p0, ci p1, cj q2, cs, ci p3, cr x5, ci k_, ci lv_, cj q8_, cs, cr si_, cj g_, cs, ci rm_, ci cap_, ci r1_, ci r2_, ci r3_, ci r4_, ci n_, ci 1] [(.int (lcmpW g_ (n_.toInt64)))]) _ _ _
  refine win X8 hx hby at_414 ((if0 _ _).trans (teq (((lw_eq _ _).mpr hg) : (lcmpW g_ (n_.toInt64)) = (0 : Int32))).2) ?_
  refine wal X8 hx hby at_417 rfl rfl ?_
  obtain ⟨cq141, kq141, q141a, q141b, q141c⟩ := isOf hZ eT8 E4
  obtain ⟨_, _, ⟨T141, L141, k141, n141⟩, -, X141, ⟨Lc141, hQ141, l141, y141, z141⟩, st141⟩ := X8.virtualBack hx (y := ym10) (z := ym10) hown (mvT hZ (ow hw 122 rfl)) (mvT hZ (ow hw 123 rfl)) (notFace_of_selects (args := #[]) (mvT hZ (ow hw 125 rfl))) (mvT hZ (ow hw 125 rfl)) (mvT hZ (ow hw 124 rfl)) (by decide) (own_backOf (W := 0) (rx24_131 l Z a0 hw [] n0 h8 O8  si_ p_ Fb Fp) hZ (ow hw 126 rfl) (ow hw 6 rfl) (by decide) (by decide)) q141a q141c (g := (mkF m 419 #[ci p0, ci p1, cj q2, cs, ci p3, cr x5, ci k_, ci lv_, cj q8_, cs, cr si_, cj g_, cs, ci rm_, ci cap_, ci r1_, ci r2_, ci r3_, ci r4_, ci n_, ci 1] [(.ref si_)])) rfl (by rw [hml]; rfl) (Steps.refl _) (argsL := []) (rest := []) (lenOf pdx_1 rfl) rfl (by show 2 * 0 + _ ≤ _; exact Nat.le_of_eq rfl) (hb hby at_419) (fun _ _ => ⟨rfl, eT8, (by decide : 8 + 0 ≤ _), (by decide : 48 + 0 ≤ _)⟩)
  dsimp only [Pt.U, Pt.locs, Pt.cells, Pt.slots] at X141 l141 y141 z141 st141 hQ141
  subst l141 y141 z141
  obtain ⟨rfl, N141q, K141c⟩ := hQ141
  have N141 := Fr.app N8 N141q
  refine Ends.go (fun _ k => st141.trans k) ?_
  obtain ⟨h141, e141⟩ : ∃ z, T141.heap = z := ⟨_, rfl⟩
  rw [e141] at K141c
  have K141 := K8.trans K141c all0
  have O141 := O8.keep K141c all0
  refine wil X141 hx hby at_422 rfl ?_
  refine wil X141 hx hby at_424 rfl ?_
  show Ends _ _ _ _ T141 (mkF m 426 #[ci p0, ci p1, cj q2, cs, ci p3, cr x5, ci k_, ci lv_, cj q8_, cs, cr si_, cj g_, cs, ci rm_, ci cap_, ci r1_, ci r2_, ci r3_, ci r4_, ci n_, ci 1] [(.int n_), (.int k_), (.long (((0 : Int32) + p_).toInt64))]) _ _ _
  refine wia X141 hx hby at_426 ?_
  refine .go (fun _ => XS.i2l X141.here hx rfl (hb hby at_427) rfl) ?_
  refine .go (fun _ => XS.lcmp X141.here hx rfl (hb hby at_428) rfl) ?_
  refine win X141 hx hby at_429 ((if0 _ _).trans (teq (((lw_eq _ _).mpr (own_off hp)) : (lcmpW (((0 : Int32) + p_).toInt64) ((k_ + n_).toInt64)) = (0 : Int32))).2) ?_
  refine wal X141 hx hby at_432 rfl rfl ?_
  show Ends _ _ _ _ T141 (mkF m 434 #[ci p0, ci p1, cj q2, cs, ci p3, cr x5, ci k_, ci lv_, cj q8_, cs, cr si_, cj g_, cs, ci rm_, ci cap_, ci r1_, ci r2_, ci r3_, ci r4_, ci n_, ci 1] [(.ref si_)]) _ _ _
  obtain ⟨cq145, kq145, q145a, q145b, q145c⟩ := isOf hZ e141 (E4.keep K141c)
  obtain ⟨_, _, ⟨T145, L145, k145, n145⟩, -, X145, ⟨Lc145, hQ145, l145, y145, z145⟩, st145⟩ := X141.virtualBack hx (y := ym12) (z := ym12) hown (mvT hZ (ow hw 127 rfl)) (mvT hZ (ow hw 128 rfl)) (notFace_of_selects (args := #[]) (mvT hZ (ow hw 130 rfl))) (mvT hZ (ow hw 130 rfl)) (mvT hZ (ow hw 129 rfl)) (by decide) (own_backOf (W := 0) (rx25_142 l Z a0 hw [] n0 h141 O141  si_ (Fd.keep K141c nin0) (E4.keep K141c) (Fa.keep K141c nin0)) hZ (ow hw 131 rfl) (ow hw 6 rfl) (by decide) (by decide)) q145a q145c (g := (mkF m 434 #[ci p0, ci p1, cj q2, cs, ci p3, cr x5, ci k_, ci lv_, cj q8_, cs, cr si_, cj g_, cs, ci rm_, ci cap_, ci r1_, ci r2_, ci r3_, ci r4_, ci n_, ci 1] [(.ref si_)])) rfl (by rw [hml]; rfl) (Steps.refl _) (argsL := []) (rest := []) (lenOf pdx_2 rfl) rfl (by show 2 * 0 + _ ≤ _; exact Nat.le_of_eq rfl) (hb hby at_434) (fun _ _ => ⟨rfl, e141, (by decide : 8 + 0 ≤ _), (by decide : 48 + 0 ≤ _)⟩)
  dsimp only [Pt.U, Pt.locs, Pt.cells, Pt.slots] at X145 l145 y145 z145 st145 hQ145
  subst l145 y145 z145
  obtain ⟨rfl, N145q, K145c⟩ := hQ145
  have N145 := Fr.app N141 N145q
  refine Ends.go (fun _ k => st145.trans k) ?_
  obtain ⟨h145, e145⟩ : ∃ z, T145.heap = z := ⟨_, rfl⟩
  rw [e145] at K145c
  have K145 := K141.trans K145c all0
  have O145 := O141.keep K145c all0
  refine wil X145 hx hby at_437 rfl ?_
  refine wcn X145 hx hby at_439 (teq (by decide : (1 : Int32) = (1 : Int32))).2 ?_
  refine wic X145 hx hby at_442 ?_
  refine wgo (pc := 443) (pc' := 447) X145 hx hby at_443 (by decide) (by decide) ?_
  show Ends _ _ _ _ T145 (mkF m 447 #[ci p0, ci p1, cj q2, cs, ci p3, cr x5, ci k_, ci lv_, cj q8_, cs, cr si_, cj g_, cs, ci rm_, ci cap_, ci r1_, ci r2_, ci r3_, ci r4_, ci n_, ci 1] [(.int 1)]) _ _ _
  refine Ends.retZ X145 hx Bd.notSynchronized (t := .boolean) Bd.returns (by simp) (hb hby at_447) (by decide) (by decide) ?_
  exact ⟨rfl, N145⟩
 have J290_0_0 : ∀ (T7 : State) (h7 : Heap) (lcs : List Loc) (x5 : Addr) (kx5 : ClassId) (si_ : Addr) (lv_ : Int32) (cap_ : Int32) (pl_ : Int32) (q8_ : Int64) (X7 : Stand p l e room_1 s m #[(.int p0), (.int p1), (.long q2), (.int p3)] below meth c T7 lcs 8 48) (eT7 : T7.heap = h7) (O7 : Old Z n0 h7) (N7 : Fr n0 lcs) (K7 : Keep h0 h7 []) (g_si_ : n0 ≤ si_) (sz_si_ : h0.size ≤ si_) (E4 : Exa Z h7 si_ cSI) (V7 : Arv Z h7 x5 kx5 .char (4 : Int32) [(.int c0_), (.int c1_), (.int c2_), (.int c3_)] (.int 0)) (Fb : Fld Z h7 si_ cSI "base" "I" (.int 0)) (Fp : Fld Z h7 si_ cSI "position" "I" (.int 0)) (Fa : Fld Z h7 si_ cSI "ascii" "Z" (.int pl_)) (Fd : Fld Z h7 si_ "com/example/ratatoskr/ratatoskr/core/internal/Input" "decoded" "Lcom/example/ratatoskr/ratatoskr/core/internal/DecodedChars;" .null) (hasc : ((pl_ = 1 ∧ (True)) ∨ (pl_ = 0 ∧ ¬ (True)))), Ends p e below s T7 (mkF m 290 #[ci p0, ci p1, cj q2, cs, ci p3, cr x5, ci 0, ci lv_, cj q8_, cs, cr si_, cj (0 : Int64), cs, ci 4, ci cap_, ci 0, ci 0, ci 0, ci 0, cu, cu] []) room_1.cells room_1.slots (fun v h L => v = some (.int 1) ∧ Fr n0 L) := by
  intro T7 h7 lcs x5 kx5 si_ lv_ cap_ pl_ q8_ X7 eT7 O7 N7 K7 g_si_ sz_si_ E4 V7 Fb Fp Fa Fd hasc
  show Ends _ _ _ _ T7 (mkF m 290 #[ci p0, ci p1, cj q2, cs, ci p3, cr x5, ci 0, ci lv_, cj q8_, cs, cr si_, cj (0 : Int64), cs, ci 4, ci cap_, ci 0, ci 0, ci 0, ci 0, cu, cu] []) _ _ _
  refine wil X7 hx hby at_290 rfl ?_
  refine wiy (pc := 292) (pc' := 299) X7 hx hby at_292 ((if0 _ _).trans (teq (by decide : (0 : Int32) = (0 : Int32))).1) (by decide) (by decide) ?_
  refine wic X7 hx hby at_299 ?_
  refine wil X7 hx hby at_300 rfl ?_
  show Ends _ _ _ _ T7 (mkF m 302 #[ci p0, ci p1, cj q2, cs, ci p3, cr x5, ci 0, ci lv_, cj q8_, cs, cr si_, cj (0 : Int64), cs, ci 4, ci cap_, ci 0, ci 0, ci 0, ci 0, cu, cu] [(.int 0), (.int 0)]) _ _ _
  refine wiy (pc := 302) (pc' := 309) X7 hx hby at_302 ((if0 _ _).trans (teq (by decide : (0 : Int32) = (0 : Int32))).1) (by decide) (by decide) ?_
  refine wic X7 hx hby at_309 ?_
  refine wia X7 hx hby at_310 ?_
  refine wil X7 hx hby at_311 rfl ?_
  refine wiy (pc := 313) (pc' := 320) X7 hx hby at_313 ((if0 _ _).trans (teq (by decide : (0 : Int32) = (0 : Int32))).1) (by decide) (by decide) ?_
  show Ends _ _ _ _ T7 (mkF m 320 #[ci p0, ci p1, cj q2, cs, ci p3, cr x5, ci 0, ci lv_, cj q8_, cs, cr si_, cj (0 : Int64), cs, ci 4, ci cap_, ci 0, ci 0, ci 0, ci 0, cu, cu] [(.int 0)]) _ _ _
  refine wic X7 hx hby at_320 ?_
  refine wia X7 hx hby at_321 ?_
  refine wil X7 hx hby at_322 rfl ?_
  refine wiy (pc := 324) (pc' := 331) X7 hx hby at_324 ((if0 _ _).trans (teq (by decide : (0 : Int32) = (0 : Int32))).1) (by decide) (by decide) ?_
  refine wic X7 hx hby at_331 ?_
  show Ends _ _ _ _ T7 (mkF m 332 #[ci p0, ci p1, cj q2, cs, ci p3, cr x5, ci 0, ci lv_, cj q8_, cs, cr si_, cj (0 : Int64), cs, ci 4, ci cap_, ci 0, ci 0, ci 0, ci 0, cu, cu] [(.int 0), (.int 0)]) _ _ _
  refine wia X7 hx hby at_332 ?_
  refine wst X7 hx hby at_333 (l' := #[ci p0, ci p1, cj q2, cs, ci p3, cr x5, ci 0, ci lv_, cj q8_, cs, cr si_, cj (0 : Int64), cs, ci 4, ci cap_, ci 0, ci 0, ci 0, ci 0, ci 0, cu]) rfl ?_
  refine wil X7 hx hby at_335 rfl ?_
  refine wiy (pc := 337) (pc' := 350) X7 hx hby at_337 ((if0 _ _).trans (teq (by decide : (0 : Int32) = (0 : Int32))).1) (by decide) (by decide) ?_
  refine wil X7 hx hby at_350 rfl ?_
  show Ends _ _ _ _ T7 (mkF m 352 #[ci p0, ci p1, cj q2, cs, ci p3, cr x5, ci 0, ci lv_, cj q8_, cs, cr si_, cj (0 : Int64), cs, ci 4, ci cap_, ci 0, ci 0, ci 0, ci 0, ci 0, cu] [(.int 0)]) _ _ _
  refine wiy (pc := 352) (pc' := 367) X7 hx hby at_352 ((if0 _ _).trans (teq (by decide : (0 : Int32) = (0 : Int32))).1) (by decide) (by decide) ?_
  refine wil X7 hx hby at_367 rfl ?_
  refine wiy (pc := 369) (pc' := 384) X7 hx hby at_369 ((if0 _ _).trans (teq (by decide : (0 : Int32) = (0 : Int32))).1) (by decide) (by decide) ?_
  refine wil X7 hx hby at_384 rfl ?_
  refine wiy (pc := 386) (pc' := 401) X7 hx hby at_386 ((if0 _ _).trans (teq (by decide : (0 : Int32) = (0 : Int32))).1) (by decide) (by decide) ?_
  show Ends _ _ _ _ T7 (mkF m 401 #[ci p0, ci p1, cj q2, cs, ci p3, cr x5, ci 0, ci lv_, cj q8_, cs, cr si_, cj (0 : Int64), cs, ci 4, ci cap_, ci 0, ci 0, ci 0, ci 0, ci 0, cu] []) _ _ _
  refine wic X7 hx hby at_401 ?_
  refine wgo (pc := 402) (pc' := 406) X7 hx hby at_402 (by decide) (by decide) ?_
  obtain rfl : pl_ = 1 := own_ex1 hasc trivial
  exact J406_1 _ _ _ x5 si_ (0 : Int32) lv_ (4 : Int32) cap_ (0 : Int32) (0 : Int32) (0 : Int32) (0 : Int32) (0 : Int32) (0 : Int32) q8_ (0 : Int64) X7 eT7 O7 N7 K7 g_si_ sz_si_ E4 Fb Fp Fa Fd (by decide) (by decide)
 have J290_0_1 : ∀ (T7 : State) (h7 : Heap) (lcs : List Loc) (x5 : Addr) (kx5 : ClassId) (si_ : Addr) (lv_ : Int32) (cap_ : Int32) (pl_ : Int32) (q8_ : Int64) (X7 : Stand p l e room_1 s m #[(.int p0), (.int p1), (.long q2), (.int p3)] below meth c T7 lcs 8 48) (eT7 : T7.heap = h7) (O7 : Old Z n0 h7) (N7 : Fr n0 lcs) (K7 : Keep h0 h7 []) (g_si_ : n0 ≤ si_) (sz_si_ : h0.size ≤ si_) (E4 : Exa Z h7 si_ cSI) (V7 : Arv Z h7 x5 kx5 .char (4 : Int32) [(.int c0_), (.int c1_), (.int c2_), (.int c3_)] (.int 0)) (Fb : Fld Z h7 si_ cSI "base" "I" (.int 0)) (Fp : Fld Z h7 si_ cSI "position" "I" (.int 1)) (Fa : Fld Z h7 si_ cSI "ascii" "Z" (.int pl_)) (Fd : Fld Z h7 si_ "com/example/ratatoskr/ratatoskr/core/internal/Input" "decoded" "Lcom/example/ratatoskr/ratatoskr/core/internal/DecodedChars;" .null) (hasc : ((pl_ = 1 ∧ (c0_ < (128 : Int32))) ∨ (pl_ = 0 ∧ ¬ (c0_ < (128 : Int32))))), Ends p e below s T7 (mkF m 290 #[ci p0, ci p1, cj q2, cs, ci p3, cr x5, ci 0, ci lv_, cj q8_, cs, cr si_, cj (1 : Int64), cs, ci 4, ci cap_, ci 1, ci 0, ci 0, ci 0, cu, cu] []) room_1.cells room_1.slots (fun v h L => v = some (.int 1) ∧ Fr n0 L) := by
  intro T7 h7 lcs x5 kx5 si_ lv_ cap_ pl_ q8_ X7 eT7 O7 N7 K7 g_si_ sz_si_ E4 V7 Fb Fp Fa Fd hasc
  show Ends _ _ _ _ T7 (mkF m 290 #[ci p0, ci p1, cj q2, cs, ci p3, cr x5, ci 0, ci lv_, cj q8_, cs, cr si_, cj (1 : Int64), cs, ci 4, ci cap_, ci 1, ci 0, ci 0, ci 0, cu, cu] []) _ _ _
  refine wil X7 hx hby at_290 rfl ?_
  refine win X7 hx hby at_292 ((if0 _ _).trans (feq (by decide : ¬ ((1 : Int32) = (0 : Int32)))).1) ?_
  show Ends _ _ _ _ T7 (mkF m 295 #[ci p0, ci p1, cj q2, cs, ci p3, cr x5, ci 0, ci lv_, cj q8_, cs, cr si_, cj (1 : Int64), cs, ci 4, ci cap_, ci 1, ci 0, ci 0, ci 0, cu, cu] []) _ _ _
  refine wic X7 hx hby at_295 ?_
  refine wgo (pc := 296) (pc' := 300) X7 hx hby at_296 (by decide) (by decide) ?_
  refine wil X7 hx hby at_300 rfl ?_
  refine wiy (pc := 302) (pc' := 309) X7 hx hby at_302 ((if0 _ _).trans (teq (by decide : (0 : Int32) = (0 : Int32))).1) (by decide) (by decide) ?_
  refine wic X7 hx hby at_309 ?_
  show Ends _ _ _ _ T7 (mkF m 310 #[ci p0, ci p1, cj q2, cs, ci p3, cr x5, ci 0, ci lv_, cj q8_, cs, cr si_, cj (1 : Int64), cs, ci 4, ci cap_, ci 1, ci 0, ci 0, ci 0, cu, cu] [(.int 0), (.int 1)]) _ _ _
  refine wia X7 hx hby at_310 ?_
  refine wil X7 hx hby at_311 rfl ?_
  refine wiy (pc := 313) (pc' := 320) X7 hx hby at_313 ((if0 _ _).trans (teq (by decide : (0 : Int32) = (0 : Int32))).1) (by decide) (by decide) ?_
  refine wic X7 hx hby at_320 ?_
  refine wia X7 hx hby at_321 ?_
  show Ends _ _ _ _ T7 (mkF m 322 #[ci p0, ci p1, cj q2, cs, ci p3, cr x5, ci 0, ci lv_, cj q8_, cs, cr si_, cj (1 : Int64), cs, ci 4, ci cap_, ci 1, ci 0, ci 0, ci 0, cu, cu] [(.int 1)]) _ _ _
  refine wil X7 hx hby at_322 rfl ?_
  refine wiy (pc := 324) (pc' := 331) X7 hx hby at_324 ((if0 _ _).trans (teq (by decide : (0 : Int32) = (0 : Int32))).1) (by decide) (by decide) ?_
  refine wic X7 hx hby at_331 ?_
  refine wia X7 hx hby at_332 ?_
  refine wst X7 hx hby at_333 (l' := #[ci p0, ci p1, cj q2, cs, ci p3, cr x5, ci 0, ci lv_, cj q8_, cs, cr si_, cj (1 : Int64), cs, ci 4, ci cap_, ci 1, ci 0, ci 0, ci 0, ci 1, cu]) rfl ?_
  show Ends _ _ _ _ T7 (mkF m 335 #[ci p0, ci p1, cj q2, cs, ci p3, cr x5, ci 0, ci lv_, cj q8_, cs, cr si_, cj (1 : Int64), cs, ci 4, ci cap_, ci 1, ci 0, ci 0, ci 0, ci 1, cu] []) _ _ _
  refine wil X7 hx hby at_335 rfl ?_
  refine win X7 hx hby at_337 ((if0 _ _).trans (feq (by decide : ¬ ((1 : Int32) = (0 : Int32)))).1) ?_
  refine wal X7 hx hby at_340 rfl rfl ?_
  refine wil X7 hx hby at_342 rfl ?_
  obtain ⟨_, _, ⟨T146, L146, k146, n146⟩, -, X146, ⟨Lc146, hQ146, l146, y146, z146⟩, st146⟩ := Jvm.LawKit.callS X7 hx (y := ym7) hown (mvT hZ (ow hw 174 rfl)) (mvT hZ (ow hw 175 rfl)) (mvT hZ (ow hw 117 rfl)) (mvT hZ (ow hw 176 rfl)) (by decide) (own_backOf (W := 0) (rm_asciiAt_0 l Z a0 hw [] n0 h7 O7 x5 kx5 c0_ c1_ c2_ c3_ V7) hZ (ow hw 176 rfl) (ow hw 117 rfl) (by decide) (by decide)) (g := (mkF m 344 #[ci p0, ci p1, cj q2, cs, ci p3, cr x5, ci 0, ci lv_, cj q8_, cs, cr si_, cj (1 : Int64), cs, ci 4, ci cap_, ci 1, ci 0, ci 0, ci 0, ci 1, cu] [(.int 0), (.ref x5)])) rfl (by rw [hml]; rfl) (argsL := [(.ref x5), (.int 0)]) (rest := []) (lenOf pdx_3 rfl) rfl (by show 2 * 0 + _ ≤ _; exact Nat.le_of_eq rfl) (hb hby at_344) (fun _ _ => ⟨rfl, eT7, (by decide : 8 + 0 ≤ _), (by decide : 48 + 0 ≤ _)⟩)
  dsimp only [Pt.U, Pt.locs, Pt.cells, Pt.slots] at X146 l146 y146 z146 st146 hQ146
  subst l146 y146 z146
  obtain ⟨r146, rfl, N146q, e146q, hr146⟩ := hQ146
  have N146 := Fr.app N7 N146q
  refine Ends.go st146 ?_
  show Ends _ _ _ _ T146 (mkF m 347 #[ci p0, ci p1, cj q2, cs, ci p3, cr x5, ci 0, ci lv_, cj q8_, cs, cr si_, cj (1 : Int64), cs, ci 4, ci cap_, ci 1, ci 0, ci 0, ci 0, ci 1, cu] [(.int r146)]) _ _ _
  rcases hr146 with ⟨rfl, hP146⟩ | ⟨rfl, hP146⟩
  ·show Ends _ _ _ _ T146 (mkF m 347 #[ci p0, ci p1, cj q2, cs, ci p3, cr x5, ci 0, ci lv_, cj q8_, cs, cr si_, cj (1 : Int64), cs, ci 4, ci cap_, ci 1, ci 0, ci 0, ci 0, ci 1, cu] [(.int 1)]) _ _ _
   refine win X146 hx hby at_347 ((if0 _ _).trans (feq (by decide : ¬ ((1 : Int32) = (0 : Int32)))).1) ?_
   refine wil X146 hx hby at_350 rfl ?_
   refine wiy (pc := 352) (pc' := 367) X146 hx hby at_352 ((if0 _ _).trans (teq (by decide : (0 : Int32) = (0 : Int32))).1) (by decide) (by decide) ?_
   refine wil X146 hx hby at_367 rfl ?_
   show Ends _ _ _ _ T146 (mkF m 369 #[ci p0, ci p1, cj q2, cs, ci p3, cr x5, ci 0, ci lv_, cj q8_, cs, cr si_, cj (1 : Int64), cs, ci 4, ci cap_, ci 1, ci 0, ci 0, ci 0, ci 1, cu] [(.int 0)]) _ _ _
   refine wiy (pc := 369) (pc' := 384) X146 hx hby at_369 ((if0 _ _).trans (teq (by decide : (0 : Int32) = (0 : Int32))).1) (by decide) (by decide) ?_
   refine wil X146 hx hby at_384 rfl ?_
   refine wiy (pc := 386) (pc' := 401) X146 hx hby at_386 ((if0 _ _).trans (teq (by decide : (0 : Int32) = (0 : Int32))).1) (by decide) (by decide) ?_
   refine wic X146 hx hby at_401 ?_
   refine wgo (pc := 402) (pc' := 406) X146 hx hby at_402 (by decide) (by decide) ?_
   show Ends _ _ _ _ T146 (mkF m 406 #[ci p0, ci p1, cj q2, cs, ci p3, cr x5, ci 0, ci lv_, cj q8_, cs, cr si_, cj (1 : Int64), cs, ci 4, ci cap_, ci 1, ci 0, ci 0, ci 0, ci 1, cu] [(.int 1)]) _ _ _
   obtain rfl : pl_ = 1 := own_ex1 hasc hP146
   exact J406_1 _ _ _ x5 si_ (0 : Int32) lv_ (4 : Int32) cap_ (1 : Int32) (0 : Int32) (0 : Int32) (0 : Int32) (1 : Int32) (1 : Int32) q8_ (1 : Int64) X146 e146q O7 N146 K7 g_si_ sz_si_ E4 Fb Fp Fa Fd (by decide) (by decide)
  ·show Ends _ _ _ _ T146 (mkF m 347 #[ci p0, ci p1, cj q2, cs, ci p3, cr x5, ci 0, ci lv_, cj q8_, cs, cr si_, cj (1 : Int64), cs, ci 4, ci cap_, ci 1, ci 0, ci 0, ci 0, ci 1, cu] [(.int 0)]) _ _ _
   refine wiy (pc := 347) (pc' := 405) X146 hx hby at_347 ((if0 _ _).trans (teq (by decide : (0 : Int32) = (0 : Int32))).1) (by decide) (by decide) ?_
   refine wic X146 hx hby at_405 ?_
   obtain rfl : pl_ = 0 := own_ex0 hasc (fun q => hP146 q)
   exact J406_0 _ _ _ x5 si_ (0 : Int32) lv_ (4 : Int32) cap_ (1 : Int32) (0 : Int32) (0 : Int32) (0 : Int32) (1 : Int32) (1 : Int32) q8_ (1 : Int64) X146 e146q O7 N146 K7 g_si_ sz_si_ E4 Fb Fp Fa Fd (by decide) (by decide)
 have J290_0_2 : ∀ (T7 : State) (h7 : Heap) (lcs : List Loc) (x5 : Addr) (kx5 : ClassId) (si_ : Addr) (lv_ : Int32) (cap_ : Int32) (pl_ : Int32) (q8_ : Int64) (X7 : Stand p l e room_1 s m #[(.int p0), (.int p1), (.long q2), (.int p3)] below meth c T7 lcs 8 48) (eT7 : T7.heap = h7) (O7 : Old Z n0 h7) (N7 : Fr n0 lcs) (K7 : Keep h0 h7 []) (g_si_ : n0 ≤ si_) (sz_si_ : h0.size ≤ si_) (E4 : Exa Z h7 si_ cSI) (V7 : Arv Z h7 x5 kx5 .char (4 : Int32) [(.int c0_), (.int c1_), (.int c2_), (.int c3_)] (.int 0)) (Fb : Fld Z h7 si_ cSI "base" "I" (.int 0)) (Fp : Fld Z h7 si_ cSI "position" "I" (.int 2)) (Fa : Fld Z h7 si_ cSI "ascii" "Z" (.int pl_)) (Fd : Fld Z h7 si_ "com/example/ratatoskr/ratatoskr/core/internal/Input" "decoded" "Lcom/example/ratatoskr/ratatoskr/core/internal/DecodedChars;" .null) (hasc : ((pl_ = 1 ∧ (c0_ < (128 : Int32) ∧ c1_ < (128 : Int32))) ∨ (pl_ = 0 ∧ ¬ (c0_ < (128 : Int32) ∧ c1_ < (128 : Int32))))), Ends p e below s T7 (mkF m 290 #[ci p0, ci p1, cj q2, cs, ci p3, cr x5, ci 0, ci lv_, cj q8_, cs, cr si_, cj (2 : Int64), cs, ci 4, ci cap_, ci 1, ci 1, ci 0, ci 0, cu, cu] []) room_1.cells room_1.slots (fun v h L => v = some (.int 1) ∧ Fr n0 L) := by
  intro T7 h7 lcs x5 kx5 si_ lv_ cap_ pl_ q8_ X7 eT7 O7 N7 K7 g_si_ sz_si_ E4 V7 Fb Fp Fa Fd hasc
  show Ends _ _ _ _ T7 (mkF m 290 #[ci p0, ci p1, cj q2, cs, ci p3, cr x5, ci 0, ci lv_, cj q8_, cs, cr si_, cj (2 : Int64), cs, ci 4, ci cap_, ci 1, ci 1, ci 0, ci 0, cu, cu] []) _ _ _
  refine wil X7 hx hby at_290 rfl ?_
  show Ends _ _ _ _ T7 (mkF m 292 #[ci p0, ci p1, cj q2, cs, ci p3, cr x5, ci 0, ci lv_, cj q8_, cs, cr si_, cj (2 : Int64), cs, ci 4, ci cap_, ci 1, ci 1, ci 0, ci 0, cu, cu] [(.int 1)]) _ _ _
  refine win X7 hx hby at_292 ((if0 _ _).trans (feq (by decide : ¬ ((1 : Int32) = (0 : Int32)))).1) ?_
  refine wic X7 hx hby at_295 ?_
  refine wgo (pc := 296) (pc' := 300) X7 hx hby at_296 (by decide) (by decide) ?_
  refine wil X7 hx hby at_300 rfl ?_
  refine win X7 hx hby at_302 ((if0 _ _).trans (feq (by decide : ¬ ((1 : Int32) = (0 : Int32)))).1) ?_
  show Ends _ _ _ _ T7 (mkF m 305 #[ci p0, ci p1, cj q2, cs, ci p3, cr x5, ci 0, ci lv_, cj q8_, cs, cr si_, cj (2 : Int64), cs, ci 4, ci cap_, ci 1, ci 1, ci 0, ci 0, cu, cu] [(.int 1)]) _ _ _
  refine wic X7 hx hby at_305 ?_
  refine wgo (pc := 306) (pc' := 310) X7 hx hby at_306 (by decide) (by decide) ?_
  refine wia X7 hx hby at_310 ?_
  refine wil X7 hx hby at_311 rfl ?_
  refine wiy (pc := 313) (pc' := 320) X7 hx hby at_313 ((if0 _ _).trans (teq (by decide : (0 : Int32) = (0 : Int32))).1) (by decide) (by decide) ?_
  show Ends _ _ _ _ T7 (mkF m 320 #[ci p0, ci p1, cj q2, cs, ci p3, cr x5, ci 0, ci lv_, cj q8_, cs, cr si_, cj (2 : Int64), cs, ci 4, ci cap_, ci 1, ci 1, ci 0, ci 0, cu, cu] [(.int 2)]) _ _ _
  refine wic X7 hx hby at_320 ?_
  refine wia X7 hx hby at_321 ?_
  refine wil X7 hx hby at_322 rfl ?_
  refine wiy (pc := 324) (pc' := 331) X7 hx hby at_324 ((if0 _ _).trans (teq (by decide : (0 : Int32) = (0 : Int32))).1) (by decide) (by decide) ?_
  refine wic X7 hx hby at_331 ?_
  show Ends _ _ _ _ T7 (mkF m 332 #[ci p0, ci p1, cj q2, cs, ci p3, cr x5, ci 0, ci lv_, cj q8_, cs, cr si_, cj (2 : Int64), cs, ci 4, ci cap_, ci 1, ci 1, ci 0, ci 0, cu, cu] [(.int 0), (.int 2)]) _ _ _
  refine wia X7 hx hby at_332 ?_
  refine wst X7 hx hby at_333 (l' := #[ci p0, ci p1, cj q2, cs, ci p3, cr x5, ci 0, ci lv_, cj q8_, cs, cr si_, cj (2 : Int64), cs, ci 4, ci cap_, ci 1, ci 1, ci 0, ci 0, ci 2, cu]) rfl ?_
  refine wil X7 hx hby at_335 rfl ?_
  refine win X7 hx hby at_337 ((if0 _ _).trans (feq (by decide : ¬ ((1 : Int32) = (0 : Int32)))).1) ?_
  refine wal X7 hx hby at_340 rfl rfl ?_
  show Ends _ _ _ _ T7 (mkF m 342 #[ci p0, ci p1, cj q2, cs, ci p3, cr x5, ci 0, ci lv_, cj q8_, cs, cr si_, cj (2 : Int64), cs, ci 4, ci cap_, ci 1, ci 1, ci 0, ci 0, ci 2, cu] [(.ref x5)]) _ _ _
  refine wil X7 hx hby at_342 rfl ?_
  obtain ⟨_, _, ⟨T147, L147, k147, n147⟩, -, X147, ⟨Lc147, hQ147, l147, y147, z147⟩, st147⟩ := Jvm.LawKit.callS X7 hx (y := ym7) hown (mvT hZ (ow hw 174 rfl)) (mvT hZ (ow hw 175 rfl)) (mvT hZ (ow hw 117 rfl)) (mvT hZ (ow hw 176 rfl)) (by decide) (own_backOf (W := 0) (rm_asciiAt_0 l Z a0 hw [] n0 h7 O7 x5 kx5 c0_ c1_ c2_ c3_ V7) hZ (ow hw 176 rfl) (ow hw 117 rfl) (by decide) (by decide)) (g := (mkF m 344 #[ci p0, ci p1, cj q2, cs, ci p3, cr x5, ci 0, ci lv_, cj q8_, cs, cr si_, cj (2 : Int64), cs, ci 4, ci cap_, ci 1, ci 1, ci 0, ci 0, ci 2, cu] [(.int 0), (.ref x5)])) rfl (by rw [hml]; rfl) (argsL := [(.ref x5), (.int 0)]) (rest := []) (lenOf pdx_3 rfl) rfl (by show 2 * 0 + _ ≤ _; exact Nat.le_of_eq rfl) (hb hby at_344) (fun _ _ => ⟨rfl, eT7, (by decide : 8 + 0 ≤ _), (by decide : 48 + 0 ≤ _)⟩)
  dsimp only [Pt.U, Pt.locs, Pt.cells, Pt.slots] at X147 l147 y147 z147 st147 hQ147
  subst l147 y147 z147
  obtain ⟨r147, rfl, N147q, e147q, hr147⟩ := hQ147
  have N147 := Fr.app N7 N147q
  refine Ends.go st147 ?_
  rcases hr147 with ⟨rfl, hP147⟩ | ⟨rfl, hP147⟩
  ·show Ends _ _ _ _ T147 (mkF m 347 #[ci p0, ci p1, cj q2, cs, ci p3, cr x5, ci 0, ci lv_, cj q8_, cs, cr si_, cj (2 : Int64), cs, ci 4, ci cap_, ci 1, ci 1, ci 0, ci 0, ci 2, cu] [(.int 1)]) _ _ _
   refine win X147 hx hby at_347 ((if0 _ _).trans (feq (by decide : ¬ ((1 : Int32) = (0 : Int32)))).1) ?_
   refine wil X147 hx hby at_350 rfl ?_
   show Ends _ _ _ _ T147 (mkF m 352 #[ci p0, ci p1, cj q2, cs, ci p3, cr x5, ci 0, ci lv_, cj q8_, cs, cr si_, cj (2 : Int64), cs, ci 4, ci cap_, ci 1, ci 1, ci 0, ci 0, ci 2, cu] [(.int 1)]) _ _ _
   refine win X147 hx hby at_352 ((if0 _ _).trans (feq (by decide : ¬ ((1 : Int32) = (0 : Int32)))).1) ?_
   refine wal X147 hx hby at_355 rfl rfl ?_
   refine wil X147 hx hby at_357 rfl ?_
   refine wic X147 hx hby at_359 ?_
   refine wia X147 hx hby at_360 ?_
   show Ends _ _ _ _ T147 (mkF m 361 #[ci p0, ci p1, cj q2, cs, ci p3, cr x5, ci 0, ci lv_, cj q8_, cs, cr si_, cj (2 : Int64), cs, ci 4, ci cap_, ci 1, ci 1, ci 0, ci 0, ci 2, cu] [(.int 1), (.ref x5)]) _ _ _
   obtain ⟨_, _, ⟨T148, L148, k148, n148⟩, -, X148, ⟨Lc148, hQ148, l148, y148, z148⟩, st148⟩ := Jvm.LawKit.callS X147 hx (y := ym7) hown (mvT hZ (ow hw 174 rfl)) (mvT hZ (ow hw 175 rfl)) (mvT hZ (ow hw 117 rfl)) (mvT hZ (ow hw 176 rfl)) (by decide) (own_backOf (W := 0) (rm_asciiAt_1 l Z a0 hw [] n0 h7 O7 x5 kx5 c0_ c1_ c2_ c3_ V7) hZ (ow hw 176 rfl) (ow hw 117 rfl) (by decide) (by decide)) (g := (mkF m 361 #[ci p0, ci p1, cj q2, cs, ci p3, cr x5, ci 0, ci lv_, cj q8_, cs, cr si_, cj (2 : Int64), cs, ci 4, ci cap_, ci 1, ci 1, ci 0, ci 0, ci 2, cu] [(.int 1), (.ref x5)])) rfl (by rw [hml]; rfl) (argsL := [(.ref x5), (.int 1)]) (rest := []) (lenOf pdx_3 rfl) rfl (by show 2 * 0 + _ ≤ _; exact Nat.le_of_eq rfl) (hb hby at_361) (fun _ _ => ⟨rfl, e147q, (by decide : 8 + 0 ≤ _), (by decide : 48 + 0 ≤ _)⟩)
   dsimp only [Pt.U, Pt.locs, Pt.cells, Pt.slots] at X148 l148 y148 z148 st148 hQ148
   subst l148 y148 z148
   obtain ⟨r148, rfl, N148q, e148q, hr148⟩ := hQ148
   have N148 := Fr.app N147 N148q
   refine Ends.go st148 ?_
   rcases hr148 with ⟨rfl, hP148⟩ | ⟨rfl, hP148⟩
   ·show Ends _ _ _ _ T148 (mkF m 364 #[ci p0, ci p1, cj q2, cs, ci p3, cr x5, ci 0, ci lv_, cj q8_, cs, cr si_, cj (2 : Int64), cs, ci 4, ci cap_, ci 1, ci 1, ci 0, ci 0, ci 2, cu] [(.int 1)]) _ _ _
    refine win X148 hx hby at_364 ((if0 _ _).trans (feq (by decide : ¬ ((1 : Int32) = (0 : Int32)))).1) ?_
    refine wil X148 hx hby at_367 rfl ?_
    refine wiy (pc := 369) (pc' := 384) X148 hx hby at_369 ((if0 _ _).trans (teq (by decide : (0 : Int32) = (0 : Int32))).1) (by decide) (by decide) ?_
    show Ends _ _ _ _ T148 (mkF m 384 #[ci p0, ci p1, cj q2, cs, ci p3, cr x5, ci 0, ci lv_, cj q8_, cs, cr si_, cj (2 : Int64), cs, ci 4, ci cap_, ci 1, ci 1, ci 0, ci 0, ci 2, cu] []) _ _ _
    refine wil X148 hx hby at_384 rfl ?_
    refine wiy (pc := 386) (pc' := 401) X148 hx hby at_386 ((if0 _ _).trans (teq (by decide : (0 : Int32) = (0 : Int32))).1) (by decide) (by decide) ?_
    refine wic X148 hx hby at_401 ?_
    refine wgo (pc := 402) (pc' := 406) X148 hx hby at_402 (by decide) (by decide) ?_
    obtain rfl : pl_ = 1 := own_ex1 hasc ⟨hP147, hP148⟩
    exact J406_1 _ _ _ x5 si_ (0 : Int32) lv_ (4 : Int32) cap_ (1 : Int32) (1 : Int32) (0 : Int32) (0 : Int32) (2 : Int32) (2 : Int32) q8_ (2 : Int64) X148 e148q O7 N148 K7 g_si_ sz_si_ E4 Fb Fp Fa Fd (by decide) (by decide)
   ·show Ends _ _ _ _ T148 (mkF m 364 #[ci p0, ci p1, cj q2, cs, ci p3, cr x5, ci 0, ci lv_, cj q8_, cs, cr si_, cj (2 : Int64), cs, ci 4, ci cap_, ci 1, ci 1, ci 0, ci 0, ci 2, cu] [(.int 0)]) _ _ _
    refine wiy (pc := 364) (pc' := 405) X148 hx hby at_364 ((if0 _ _).trans (teq (by decide : (0 : Int32) = (0 : Int32))).1) (by decide) (by decide) ?_
    refine wic X148 hx hby at_405 ?_
    obtain rfl : pl_ = 0 := own_ex0 hasc (fun q => hP148 q.2)
    exact J406_0 _ _ _ x5 si_ (0 : Int32) lv_ (4 : Int32) cap_ (1 : Int32) (1 : Int32) (0 : Int32) (0 : Int32) (2 : Int32) (2 : Int32) q8_ (2 : Int64) X148 e148q O7 N148 K7 g_si_ sz_si_ E4 Fb Fp Fa Fd (by decide) (by decide)
  ·show Ends _ _ _ _ T147 (mkF m 347 #[ci p0, ci p1, cj q2, cs, ci p3, cr x5, ci 0, ci lv_, cj q8_, cs, cr si_, cj (2 : Int64), cs, ci 4, ci cap_, ci 1, ci 1, ci 0, ci 0, ci 2, cu] [(.int 0)]) _ _ _
   refine wiy (pc := 347) (pc' := 405) X147 hx hby at_347 ((if0 _ _).trans (teq (by decide : (0 : Int32) = (0 : Int32))).1) (by decide) (by decide) ?_
   refine wic X147 hx hby at_405 ?_
   show Ends _ _ _ _ T147 (mkF m 406 #[ci p0, ci p1, cj q2, cs, ci p3, cr x5, ci 0, ci lv_, cj q8_, cs, cr si_, cj (2 : Int64), cs, ci 4, ci cap_, ci 1, ci 1, ci 0, ci 0, ci 2, cu] [(.int 0)]) _ _ _
   obtain rfl : pl_ = 0 := own_ex0 hasc (fun q => hP147 q.1)
   exact J406_0 _ _ _ x5 si_ (0 : Int32) lv_ (4 : Int32) cap_ (1 : Int32) (1 : Int32) (0 : Int32) (0 : Int32) (2 : Int32) (2 : Int32) q8_ (2 : Int64) X147 e147q O7 N147 K7 g_si_ sz_si_ E4 Fb Fp Fa Fd (by decide) (by decide)
 have J290_0_3 : ∀ (T7 : State) (h7 : Heap) (lcs : List Loc) (x5 : Addr) (kx5 : ClassId) (si_ : Addr) (lv_ : Int32) (cap_ : Int32) (pl_ : Int32) (q8_ : Int64) (X7 : Stand p l e room_1 s m #[(.int p0), (.int p1), (.long q2), (.int p3)] below meth c T7 lcs 8 48) (eT7 : T7.heap = h7) (O7 : Old Z n0 h7) (N7 : Fr n0 lcs) (K7 : Keep h0 h7 []) (g_si_ : n0 ≤ si_) (sz_si_ : h0.size ≤ si_) (E4 : Exa Z h7 si_ cSI) (V7 : Arv Z h7 x5 kx5 .char (4 : Int32) [(.int c0_), (.int c1_), (.int c2_), (.int c3_)] (.int 0)) (Fb : Fld Z h7 si_ cSI "base" "I" (.int 0)) (Fp : Fld Z h7 si_ cSI "position" "I" (.int 3)) (Fa : Fld Z h7 si_ cSI "ascii" "Z" (.int pl_)) (Fd : Fld Z h7 si_ "com/example/ratatoskr/ratatoskr/core/internal/Input" "decoded" "Lcom/example/ratatoskr/ratatoskr/core/internal/DecodedChars;" .null) (hasc : ((pl_ = 1 ∧ (c0_ < (128 : Int32) ∧ c1_ < (128 : Int32) ∧ c2_ < (128 : Int32))) ∨ (pl_ = 0 ∧ ¬ (c0_ < (128 : Int32) ∧ c1_ < (128 : Int32) ∧ c2_ < (128 : Int32))))), Ends p e below s T7 (mkF m 290 #[ci p0, ci p1, cj q2, cs, ci p3, cr x5, ci 0, ci lv_, cj q8_, cs, cr si_, cj (3 : Int64), cs, ci 4, ci cap_, ci 1, ci 1, ci 1, ci 0, cu, cu] []) room_1.cells room_1.slots (fun v h L => v = some (.int 1) ∧ Fr n0 L) := by
  intro T7 h7 lcs x5 kx5 si_ lv_ cap_ pl_ q8_ X7 eT7 O7 N7 K7 g_si_ sz_si_ E4 V7 Fb Fp Fa Fd hasc
  show Ends _ _ _ _ T7 (mkF m 290 #[ci p0, ci p1, cj q2, cs, ci p3, cr x5, ci 0, ci lv_, cj q8_, cs, cr si_, cj (3 : Int64), cs, ci 4, ci cap_, ci 1, ci 1, ci 1, ci 0, cu, cu] []) _ _ _
  refine wil X7 hx hby at_290 rfl ?_
  refine win X7 hx hby at_292 ((if0 _ _).trans (feq (by decide : ¬ ((1 : Int32) = (0 : Int32)))).1) ?_
  refine wic X7 hx hby at_295 ?_
  refine wgo (pc := 296) (pc' := 300) X7 hx hby at_296 (by decide) (by decide) ?_
  show Ends _ _ _ _ T7 (mkF m 300 #[ci p0, ci p1, cj q2, cs, ci p3, cr x5, ci 0, ci lv_, cj q8_, cs, cr si_, cj (3 : Int64), cs, ci 4, ci cap_, ci 1, ci 1, ci 1, ci 0, cu, cu] [(.int 1)]) _ _ _
  refine wil X7 hx hby at_300 rfl ?_
  refine win X7 hx hby at_302 ((if0 _ _).trans (feq (by decide : ¬ ((1 : Int32) = (0 : Int32)))).1) ?_
  refine wic X7 hx hby at_305 ?_
  refine wgo (pc := 306) (pc' := 310) X7 hx hby at_306 (by decide) (by decide) ?_
  refine wia X7 hx hby at_310 ?_
  show Ends _ _ _ _ T7 (mkF m 311 #[ci p0, ci p1, cj q2, cs, ci p3, cr x5, ci 0, ci lv_, cj q8_, cs, cr si_, cj (3 : Int64), cs, ci 4, ci cap_, ci 1, ci 1, ci 1, ci 0, cu, cu] [(.int 2)]) _ _ _
  refine wil X7 hx hby at_311 rfl ?_
  refine win X7 hx hby at_313 ((if0 _ _).trans (feq (by decide : ¬ ((1 : Int32) = (0 : Int32)))).1) ?_
  refine wic X7 hx hby at_316 ?_
  refine wgo (pc := 317) (pc' := 321) X7 hx hby at_317 (by decide) (by decide) ?_
  refine wia X7 hx hby at_321 ?_
  show Ends _ _ _ _ T7 (mkF m 322 #[ci p0, ci p1, cj q2, cs, ci p3, cr x5, ci 0, ci lv_, cj q8_, cs, cr si_, cj (3 : Int64), cs, ci 4, ci cap_, ci 1, ci 1, ci 1, ci 0, cu, cu] [(.int 3)]) _ _ _
  refine wil X7 hx hby at_322 rfl ?_
  refine wiy (pc := 324) (pc' := 331) X7 hx hby at_324 ((if0 _ _).trans (teq (by decide : (0 : Int32) = (0 : Int32))).1) (by decide) (by decide) ?_
  refine wic X7 hx hby at_331 ?_
  refine wia X7 hx hby at_332 ?_
  refine wst X7 hx hby at_333 (l' := #[ci p0, ci p1, cj q2, cs, ci p3, cr x5, ci 0, ci lv_, cj q8_, cs, cr si_, cj (3 : Int64), cs, ci 4, ci cap_, ci 1, ci 1, ci 1, ci 0, ci 3, cu]) rfl ?_
  show Ends _ _ _ _ T7 (mkF m 335 #[ci p0, ci p1, cj q2, cs, ci p3, cr x5, ci 0, ci lv_, cj q8_, cs, cr si_, cj (3 : Int64), cs, ci 4, ci cap_, ci 1, ci 1, ci 1, ci 0, ci 3, cu] []) _ _ _
  refine wil X7 hx hby at_335 rfl ?_
  refine win X7 hx hby at_337 ((if0 _ _).trans (feq (by decide : ¬ ((1 : Int32) = (0 : Int32)))).1) ?_
  refine wal X7 hx hby at_340 rfl rfl ?_
  refine wil X7 hx hby at_342 rfl ?_
  obtain ⟨_, _, ⟨T149, L149, k149, n149⟩, -, X149, ⟨Lc149, hQ149, l149, y149, z149⟩, st149⟩ := Jvm.LawKit.callS X7 hx (y := ym7) hown (mvT hZ (ow hw 174 rfl)) (mvT hZ (ow hw 175 rfl)) (mvT hZ (ow hw 117 rfl)) (mvT hZ (ow hw 176 rfl)) (by decide) (own_backOf (W := 0) (rm_asciiAt_0 l Z a0 hw [] n0 h7 O7 x5 kx5 c0_ c1_ c2_ c3_ V7) hZ (ow hw 176 rfl) (ow hw 117 rfl) (by decide) (by decide)) (g := (mkF m 344 #[ci p0, ci p1, cj q2, cs, ci p3, cr x5, ci 0, ci lv_, cj q8_, cs, cr si_, cj (3 : Int64), cs, ci 4, ci cap_, ci 1, ci 1, ci 1, ci 0, ci 3, cu] [(.int 0), (.ref x5)])) rfl (by rw [hml]; rfl) (argsL := [(.ref x5), (.int 0)]) (rest := []) (lenOf pdx_3 rfl) rfl (by show 2 * 0 + _ ≤ _; exact Nat.le_of_eq rfl) (hb hby at_344) (fun _ _ => ⟨rfl, eT7, (by decide : 8 + 0 ≤ _), (by decide : 48 + 0 ≤ _)⟩)
  dsimp only [Pt.U, Pt.locs, Pt.cells, Pt.slots] at X149 l149 y149 z149 st149 hQ149
  subst l149 y149 z149
  obtain ⟨r149, rfl, N149q, e149q, hr149⟩ := hQ149
  have N149 := Fr.app N7 N149q
  refine Ends.go st149 ?_
  show Ends _ _ _ _ T149 (mkF m 347 #[ci p0, ci p1, cj q2, cs, ci p3, cr x5, ci 0, ci lv_, cj q8_, cs, cr si_, cj (3 : Int64), cs, ci 4, ci cap_, ci 1, ci 1, ci 1, ci 0, ci 3, cu] [(.int r149)]) _ _ _
  rcases hr149 with ⟨rfl, hP149⟩ | ⟨rfl, hP149⟩
  ·show Ends _ _ _ _ T149 (mkF m 347 #[ci p0, ci p1, cj q2, cs, ci p3, cr x5, ci 0, ci lv_, cj q8_, cs, cr si_, cj (3 : Int64), cs, ci 4, ci cap_, ci 1, ci 1, ci 1, ci 0, ci 3, cu] [(.int 1)]) _ _ _
   refine win X149 hx hby at_347 ((if0 _ _).trans (feq (by decide : ¬ ((1 : Int32) = (0 : Int32)))).1) ?_
   refine wil X149 hx hby at_350 rfl ?_
   refine win X149 hx hby at_352 ((if0 _ _).trans (feq (by decide : ¬ ((1 : Int32) = (0 : Int32)))).1) ?_
   refine wal X149 hx hby at_355 rfl rfl ?_
   show Ends _ _ _ _ T149 (mkF m 357 #[ci p0, ci p1, cj q2, cs, ci p3, cr x5, ci 0, ci lv_, cj q8_, cs, cr si_, cj (3 : Int64), cs, ci 4, ci cap_, ci 1, ci 1, ci 1, ci 0, ci 3, cu] [(.ref x5)]) _ _ _
   refine wil X149 hx hby at_357 rfl ?_
   refine wic X149 hx hby at_359 ?_
   refine wia X149 hx hby at_360 ?_
   obtain ⟨_, _, ⟨T150, L150, k150, n150⟩, -, X150, ⟨Lc150, hQ150, l150, y150, z150⟩, st150⟩ := Jvm.LawKit.callS X149 hx (y := ym7) hown (mvT hZ (ow hw 174 rfl)) (mvT hZ (ow hw 175 rfl)) (mvT hZ (ow hw 117 rfl)) (mvT hZ (ow hw 176 rfl)) (by decide) (own_backOf (W := 0) (rm_asciiAt_1 l Z a0 hw [] n0 h7 O7 x5 kx5 c0_ c1_ c2_ c3_ V7) hZ (ow hw 176 rfl) (ow hw 117 rfl) (by decide) (by decide)) (g := (mkF m 361 #[ci p0, ci p1, cj q2, cs, ci p3, cr x5, ci 0, ci lv_, cj q8_, cs, cr si_, cj (3 : Int64), cs, ci 4, ci cap_, ci 1, ci 1, ci 1, ci 0, ci 3, cu] [(.int 1), (.ref x5)])) rfl (by rw [hml]; rfl) (argsL := [(.ref x5), (.int 1)]) (rest := []) (lenOf pdx_3 rfl) rfl (by show 2 * 0 + _ ≤ _; exact Nat.le_of_eq rfl) (hb hby at_361) (fun _ _ => ⟨rfl, e149q, (by decide : 8 + 0 ≤ _), (by decide : 48 + 0 ≤ _)⟩)
   dsimp only [Pt.U, Pt.locs, Pt.cells, Pt.slots] at X150 l150 y150 z150 st150 hQ150
   subst l150 y150 z150
   obtain ⟨r150, rfl, N150q, e150q, hr150⟩ := hQ150
   have N150 := Fr.app N149 N150q
   refine Ends.go st150 ?_
   rcases hr150 with ⟨rfl, hP150⟩ | ⟨rfl, hP150⟩
   ·show Ends _ _ _ _ T150 (mkF m 364 #[ci p0, ci p1, cj q2, cs, ci p3, cr x5, ci 0, ci lv_, cj q8_, cs, cr si_, cj (3 : Int64), cs, ci 4, ci cap_, ci 1, ci 1, ci 1, ci 0, ci 3, cu] [(.int 1)]) _ _ _
    refine win X150 hx hby at_364 ((if0 _ _).trans (feq (by decide : ¬ ((1 : Int32) = (0 : Int32)))).1) ?_
    refine wil X150 hx hby at_367 rfl ?_
    refine win X150 hx hby at_369 ((if0 _ _).trans (feq (by decide : ¬ ((1 : Int32) = (0 : Int32)))).1) ?_
    refine wal X150 hx hby at_372 rfl rfl ?_
    refine wil X150 hx hby at_374 rfl ?_
    show Ends _ _ _ _ T150 (mkF m 376 #[ci p0, ci p1, cj q2, cs, ci p3, cr x5, ci 0, ci lv_, cj q8_, cs, cr si_, cj (3 : Int64), cs, ci 4, ci cap_, ci 1, ci 1, ci 1, ci 0, ci 3, cu] [(.int 0), (.ref x5)]) _ _ _
    refine wic X150 hx hby at_376 ?_
    refine wia X150 hx hby at_377 ?_
    obtain ⟨_, _, ⟨T151, L151, k151, n151⟩, -, X151, ⟨Lc151, hQ151, l151, y151, z151⟩, st151⟩ := Jvm.LawKit.callS X150 hx (y := ym7) hown (mvT hZ (ow hw 174 rfl)) (mvT hZ (ow hw 175 rfl)) (mvT hZ (ow hw 117 rfl)) (mvT hZ (ow hw 176 rfl)) (by decide) (own_backOf (W := 0) (rm_asciiAt_2 l Z a0 hw [] n0 h7 O7 x5 kx5 c0_ c1_ c2_ c3_ V7) hZ (ow hw 176 rfl) (ow hw 117 rfl) (by decide) (by decide)) (g := (mkF m 378 #[ci p0, ci p1, cj q2, cs, ci p3, cr x5, ci 0, ci lv_, cj q8_, cs, cr si_, cj (3 : Int64), cs, ci 4, ci cap_, ci 1, ci 1, ci 1, ci 0, ci 3, cu] [(.int 2), (.ref x5)])) rfl (by rw [hml]; rfl) (argsL := [(.ref x5), (.int 2)]) (rest := []) (lenOf pdx_3 rfl) rfl (by show 2 * 0 + _ ≤ _; exact Nat.le_of_eq rfl) (hb hby at_378) (fun _ _ => ⟨rfl, e150q, (by decide : 8 + 0 ≤ _), (by decide : 48 + 0 ≤ _)⟩)
    dsimp only [Pt.U, Pt.locs, Pt.cells, Pt.slots] at X151 l151 y151 z151 st151 hQ151
    subst l151 y151 z151
    obtain ⟨r151, rfl, N151q, e151q, hr151⟩ := hQ151
    have N151 := Fr.app N150 N151q
    refine Ends.go st151 ?_
    rcases hr151 with ⟨rfl, hP151⟩ | ⟨rfl, hP151⟩
    ·show Ends _ _ _ _ T151 (mkF m 381 #[ci p0, ci p1, cj q2, cs, ci p3, cr x5, ci 0, ci lv_, cj q8_, cs, cr si_, cj (3 : Int64), cs, ci 4, ci cap_, ci 1, ci 1, ci 1, ci 0, ci 3, cu] [(.int 1)]) _ _ _
     refine win X151 hx hby at_381 ((if0 _ _).trans (feq (by decide : ¬ ((1 : Int32) = (0 : Int32)))).1) ?_
     show Ends _ _ _ _ T151 (mkF m 384 #[ci p0, ci p1, cj q2, cs, ci p3, cr x5, ci 0, ci lv_, cj q8_, cs, cr si_, cj (3 : Int64), cs, ci 4, ci cap_, ci 1, ci 1, ci 1, ci 0, ci 3, cu] []) _ _ _
     refine wil X151 hx hby at_384 rfl ?_
     refine wiy (pc := 386) (pc' := 401) X151 hx hby at_386 ((if0 _ _).trans (teq (by decide : (0 : Int32) = (0 : Int32))).1) (by decide) (by decide) ?_
     refine wic X151 hx hby at_401 ?_
     refine wgo (pc := 402) (pc' := 406) X151 hx hby at_402 (by decide) (by decide) ?_
     obtain rfl : pl_ = 1 := own_ex1 hasc ⟨hP149, hP150, hP151⟩
     exact J406_1 _ _ _ x5 si_ (0 : Int32) lv_ (4 : Int32) cap_ (1 : Int32) (1 : Int32) (1 : Int32) (0 : Int32) (3 : Int32) (3 : Int32) q8_ (3 : Int64) X151 e151q O7 N151 K7 g_si_ sz_si_ E4 Fb Fp Fa Fd (by decide) (by decide)
    ·show Ends _ _ _ _ T151 (mkF m 381 #[ci p0, ci p1, cj q2, cs, ci p3, cr x5, ci 0, ci lv_, cj q8_, cs, cr si_, cj (3 : Int64), cs, ci 4, ci cap_, ci 1, ci 1, ci 1, ci 0, ci 3, cu] [(.int 0)]) _ _ _
     refine wiy (pc := 381) (pc' := 405) X151 hx hby at_381 ((if0 _ _).trans (teq (by decide : (0 : Int32) = (0 : Int32))).1) (by decide) (by decide) ?_
     refine wic X151 hx hby at_405 ?_
     obtain rfl : pl_ = 0 := own_ex0 hasc (fun q => hP151 q.2.2)
     exact J406_0 _ _ _ x5 si_ (0 : Int32) lv_ (4 : Int32) cap_ (1 : Int32) (1 : Int32) (1 : Int32) (0 : Int32) (3 : Int32) (3 : Int32) q8_ (3 : Int64) X151 e151q O7 N151 K7 g_si_ sz_si_ E4 Fb Fp Fa Fd (by decide) (by decide)
   ·show Ends _ _ _ _ T150 (mkF m 364 #[ci p0, ci p1, cj q2, cs, ci p3, cr x5, ci 0, ci lv_, cj q8_, cs, cr si_, cj (3 : Int64), cs, ci 4, ci cap_, ci 1, ci 1, ci 1, ci 0, ci 3, cu] [(.int 0)]) _ _ _
    refine wiy (pc := 364) (pc' := 405) X150 hx hby at_364 ((if0 _ _).trans (teq (by decide : (0 : Int32) = (0 : Int32))).1) (by decide) (by decide) ?_
    refine wic X150 hx hby at_405 ?_
    show Ends _ _ _ _ T150 (mkF m 406 #[ci p0, ci p1, cj q2, cs, ci p3, cr x5, ci 0, ci lv_, cj q8_, cs, cr si_, cj (3 : Int64), cs, ci 4, ci cap_, ci 1, ci 1, ci 1, ci 0, ci 3, cu] [(.int 0)]) _ _ _
    obtain rfl : pl_ = 0 := own_ex0 hasc (fun q => hP150 q.2.1)
    exact J406_0 _ _ _ x5 si_ (0 : Int32) lv_ (4 : Int32) cap_ (1 : Int32) (1 : Int32) (1 : Int32) (0 : Int32) (3 : Int32) (3 : Int32) q8_ (3 : Int64) X150 e150q O7 N150 K7 g_si_ sz_si_ E4 Fb Fp Fa Fd (by decide) (by decide)
  ·show Ends _ _ _ _ T149 (mkF m 347 #[ci p0, ci p1, cj q2, cs, ci p3, cr x5, ci 0, ci lv_, cj q8_, cs, cr si_, cj (3 : Int64), cs, ci 4, ci cap_, ci 1, ci 1, ci 1, ci 0, ci 3, cu] [(.int 0)]) _ _ _
   refine wiy (pc := 347) (pc' := 405) X149 hx hby at_347 ((if0 _ _).trans (teq (by decide : (0 : Int32) = (0 : Int32))).1) (by decide) (by decide) ?_
   refine wic X149 hx hby at_405 ?_
   obtain rfl : pl_ = 0 := own_ex0 hasc (fun q => hP149 q.1)
   exact J406_0 _ _ _ x5 si_ (0 : Int32) lv_ (4 : Int32) cap_ (1 : Int32) (1 : Int32) (1 : Int32) (0 : Int32) (3 : Int32) (3 : Int32) q8_ (3 : Int64) X149 e149q O7 N149 K7 g_si_ sz_si_ E4 Fb Fp Fa Fd (by decide) (by decide)
 have J290_0_4 : ∀ (T7 : State) (h7 : Heap) (lcs : List Loc) (x5 : Addr) (kx5 : ClassId) (si_ : Addr) (lv_ : Int32) (cap_ : Int32) (pl_ : Int32) (q8_ : Int64) (X7 : Stand p l e room_1 s m #[(.int p0), (.int p1), (.long q2), (.int p3)] below meth c T7 lcs 8 48) (eT7 : T7.heap = h7) (O7 : Old Z n0 h7) (N7 : Fr n0 lcs) (K7 : Keep h0 h7 []) (g_si_ : n0 ≤ si_) (sz_si_ : h0.size ≤ si_) (E4 : Exa Z h7 si_ cSI) (V7 : Arv Z h7 x5 kx5 .char (4 : Int32) [(.int c0_), (.int c1_), (.int c2_), (.int c3_)] (.int 0)) (Fb : Fld Z h7 si_ cSI "base" "I" (.int 0)) (Fp : Fld Z h7 si_ cSI "position" "I" (.int 4)) (Fa : Fld Z h7 si_ cSI "ascii" "Z" (.int pl_)) (Fd : Fld Z h7 si_ "com/example/ratatoskr/ratatoskr/core/internal/Input" "decoded" "Lcom/example/ratatoskr/ratatoskr/core/internal/DecodedChars;" .null) (hasc : ((pl_ = 1 ∧ (c0_ < (128 : Int32) ∧ c1_ < (128 : Int32) ∧ c2_ < (128 : Int32) ∧ c3_ < (128 : Int32))) ∨ (pl_ = 0 ∧ ¬ (c0_ < (128 : Int32) ∧ c1_ < (128 : Int32) ∧ c2_ < (128 : Int32) ∧ c3_ < (128 : Int32))))), Ends p e below s T7 (mkF m 290 #[ci p0, ci p1, cj q2, cs, ci p3, cr x5, ci 0, ci lv_, cj q8_, cs, cr si_, cj (4 : Int64), cs, ci 4, ci cap_, ci 1, ci 1, ci 1, ci 1, cu, cu] []) room_1.cells room_1.slots (fun v h L => v = some (.int 1) ∧ Fr n0 L) := by
  intro T7 h7 lcs x5 kx5 si_ lv_ cap_ pl_ q8_ X7 eT7 O7 N7 K7 g_si_ sz_si_ E4 V7 Fb Fp Fa Fd hasc
  show Ends _ _ _ _ T7 (mkF m 290 #[ci p0, ci p1, cj q2, cs, ci p3, cr x5, ci 0, ci lv_, cj q8_, cs, cr si_, cj (4 : Int64), cs, ci 4, ci cap_, ci 1, ci 1, ci 1, ci 1, cu, cu] []) _ _ _
  refine wil X7 hx hby at_290 rfl ?_
  show Ends _ _ _ _ T7 (mkF m 292 #[ci p0, ci p1, cj q2, cs, ci p3, cr x5, ci 0, ci lv_, cj q8_, cs, cr si_, cj (4 : Int64), cs, ci 4, ci cap_, ci 1, ci 1, ci 1, ci 1, cu, cu] [(.int 1)]) _ _ _
  refine win X7 hx hby at_292 ((if0 _ _).trans (feq (by decide : ¬ ((1 : Int32) = (0 : Int32)))).1) ?_
  refine wic X7 hx hby at_295 ?_
  refine wgo (pc := 296) (pc' := 300) X7 hx hby at_296 (by decide) (by decide) ?_
  refine wil X7 hx hby at_300 rfl ?_
  refine win X7 hx hby at_302 ((if0 _ _).trans (feq (by decide : ¬ ((1 : Int32) = (0 : Int32)))).1) ?_
  show Ends _ _ _ _ T7 (mkF m 305 #[ci p0, ci p1, cj q2, cs, ci p3, cr x5, ci 0, ci lv_, cj q8_, cs, cr si_, cj (4 : Int64), cs, ci 4, ci cap_, ci 1, ci 1, ci 1, ci 1, cu, cu] [(.int 1)]) _ _ _
  refine wic X7 hx hby at_305 ?_
  refine wgo (pc := 306) (pc' := 310) X7 hx hby at_306 (by decide) (by decide) ?_
  refine wia X7 hx hby at_310 ?_
  refine wil X7 hx hby at_311 rfl ?_
  refine win X7 hx hby at_313 ((if0 _ _).trans (feq (by decide : ¬ ((1 : Int32) = (0 : Int32)))).1) ?_
  show Ends _ _ _ _ T7 (mkF m 316 #[ci p0, ci p1, cj q2, cs, ci p3, cr x5, ci 0, ci lv_, cj q8_, cs, cr si_, cj (4 : Int64), cs, ci 4, ci cap_, ci 1, ci 1, ci 1, ci 1, cu, cu] [(.int 2)]) _ _ _
  refine wic X7 hx hby at_316 ?_
  refine wgo (pc := 317) (pc' := 321) X7 hx hby at_317 (by decide) (by decide) ?_
  refine wia X7 hx hby at_321 ?_
  refine wil X7 hx hby at_322 rfl ?_
  refine win X7 hx hby at_324 ((if0 _ _).trans (feq (by decide : ¬ ((1 : Int32) = (0 : Int32)))).1) ?_
  show Ends _ _ _ _ T7 (mkF m 327 #[ci p0, ci p1, cj q2, cs, ci p3, cr x5, ci 0, ci lv_, cj q8_, cs, cr si_, cj (4 : Int64), cs, ci 4, ci cap_, ci 1, ci 1, ci 1, ci 1, cu, cu] [(.int 3)]) _ _ _
  refine wic X7 hx hby at_327 ?_
  refine wgo (pc := 328) (pc' := 332) X7 hx hby at_328 (by decide) (by decide) ?_
  refine wia X7 hx hby at_332 ?_
  refine wst X7 hx hby at_333 (l' := #[ci p0, ci p1, cj q2, cs, ci p3, cr x5, ci 0, ci lv_, cj q8_, cs, cr si_, cj (4 : Int64), cs, ci 4, ci cap_, ci 1, ci 1, ci 1, ci 1, ci 4, cu]) rfl ?_
  refine wil X7 hx hby at_335 rfl ?_
  show Ends _ _ _ _ T7 (mkF m 337 #[ci p0, ci p1, cj q2, cs, ci p3, cr x5, ci 0, ci lv_, cj q8_, cs, cr si_, cj (4 : Int64), cs, ci 4, ci cap_, ci 1, ci 1, ci 1, ci 1, ci 4, cu] [(.int 1)]) _ _ _
  refine win X7 hx hby at_337 ((if0 _ _).trans (feq (by decide : ¬ ((1 : Int32) = (0 : Int32)))).1) ?_
  refine wal X7 hx hby at_340 rfl rfl ?_
  refine wil X7 hx hby at_342 rfl ?_
  obtain ⟨_, _, ⟨T152, L152, k152, n152⟩, -, X152, ⟨Lc152, hQ152, l152, y152, z152⟩, st152⟩ := Jvm.LawKit.callS X7 hx (y := ym7) hown (mvT hZ (ow hw 174 rfl)) (mvT hZ (ow hw 175 rfl)) (mvT hZ (ow hw 117 rfl)) (mvT hZ (ow hw 176 rfl)) (by decide) (own_backOf (W := 0) (rm_asciiAt_0 l Z a0 hw [] n0 h7 O7 x5 kx5 c0_ c1_ c2_ c3_ V7) hZ (ow hw 176 rfl) (ow hw 117 rfl) (by decide) (by decide)) (g := (mkF m 344 #[ci p0, ci p1, cj q2, cs, ci p3, cr x5, ci 0, ci lv_, cj q8_, cs, cr si_, cj (4 : Int64), cs, ci 4, ci cap_, ci 1, ci 1, ci 1, ci 1, ci 4, cu] [(.int 0), (.ref x5)])) rfl (by rw [hml]; rfl) (argsL := [(.ref x5), (.int 0)]) (rest := []) (lenOf pdx_3 rfl) rfl (by show 2 * 0 + _ ≤ _; exact Nat.le_of_eq rfl) (hb hby at_344) (fun _ _ => ⟨rfl, eT7, (by decide : 8 + 0 ≤ _), (by decide : 48 + 0 ≤ _)⟩)
  dsimp only [Pt.U, Pt.locs, Pt.cells, Pt.slots] at X152 l152 y152 z152 st152 hQ152
  subst l152 y152 z152
  obtain ⟨r152, rfl, N152q, e152q, hr152⟩ := hQ152
  have N152 := Fr.app N7 N152q
  refine Ends.go st152 ?_
  rcases hr152 with ⟨rfl, hP152⟩ | ⟨rfl, hP152⟩
  ·show Ends _ _ _ _ T152 (mkF m 347 #[ci p0, ci p1, cj q2, cs, ci p3, cr x5, ci 0, ci lv_, cj q8_, cs, cr si_, cj (4 : Int64), cs, ci 4, ci cap_, ci 1, ci 1, ci 1, ci 1, ci 4, cu] [(.int 1)]) _ _ _
   refine win X152 hx hby at_347 ((if0 _ _).trans (feq (by decide : ¬ ((1 : Int32) = (0 : Int32)))).1) ?_
   refine wil X152 hx hby at_350 rfl ?_
   refine win X152 hx hby at_352 ((if0 _ _).trans (feq (by decide : ¬ ((1 : Int32) = (0 : Int32)))).1) ?_
   refine wal X152 hx hby at_355 rfl rfl ?_
   refine wil X152 hx hby at_357 rfl ?_
   show Ends _ _ _ _ T152 (mkF m 359 #[ci p0, ci p1, cj q2, cs, ci p3, cr x5, ci 0, ci lv_, cj q8_, cs, cr si_, cj (4 : Int64), cs, ci 4, ci cap_, ci 1, ci 1, ci 1, ci 1, ci 4, cu] [(.int 0), (.ref x5)]) _ _ _
   refine wic X152 hx hby at_359 ?_
   refine wia X152 hx hby at_360 ?_
   obtain ⟨_, _, ⟨T153, L153, k153, n153⟩, -, X153, ⟨Lc153, hQ153, l153, y153, z153⟩, st153⟩ := Jvm.LawKit.callS X152 hx (y := ym7) hown (mvT hZ (ow hw 174 rfl)) (mvT hZ (ow hw 175 rfl)) (mvT hZ (ow hw 117 rfl)) (mvT hZ (ow hw 176 rfl)) (by decide) (own_backOf (W := 0) (rm_asciiAt_1 l Z a0 hw [] n0 h7 O7 x5 kx5 c0_ c1_ c2_ c3_ V7) hZ (ow hw 176 rfl) (ow hw 117 rfl) (by decide) (by decide)) (g := (mkF m 361 #[ci p0, ci p1, cj q2, cs, ci p3, cr x5, ci 0, ci lv_, cj q8_, cs, cr si_, cj (4 : Int64), cs, ci 4, ci cap_, ci 1, ci 1, ci 1, ci 1, ci 4, cu] [(.int 1), (.ref x5)])) rfl (by rw [hml]; rfl) (argsL := [(.ref x5), (.int 1)]) (rest := []) (lenOf pdx_3 rfl) rfl (by show 2 * 0 + _ ≤ _; exact Nat.le_of_eq rfl) (hb hby at_361) (fun _ _ => ⟨rfl, e152q, (by decide : 8 + 0 ≤ _), (by decide : 48 + 0 ≤ _)⟩)
   dsimp only [Pt.U, Pt.locs, Pt.cells, Pt.slots] at X153 l153 y153 z153 st153 hQ153
   subst l153 y153 z153
   obtain ⟨r153, rfl, N153q, e153q, hr153⟩ := hQ153
   have N153 := Fr.app N152 N153q
   refine Ends.go st153 ?_
   rcases hr153 with ⟨rfl, hP153⟩ | ⟨rfl, hP153⟩
   ·show Ends _ _ _ _ T153 (mkF m 364 #[ci p0, ci p1, cj q2, cs, ci p3, cr x5, ci 0, ci lv_, cj q8_, cs, cr si_, cj (4 : Int64), cs, ci 4, ci cap_, ci 1, ci 1, ci 1, ci 1, ci 4, cu] [(.int 1)]) _ _ _
    refine win X153 hx hby at_364 ((if0 _ _).trans (feq (by decide : ¬ ((1 : Int32) = (0 : Int32)))).1) ?_
    show Ends _ _ _ _ T153 (mkF m 367 #[ci p0, ci p1, cj q2, cs, ci p3, cr x5, ci 0, ci lv_, cj q8_, cs, cr si_, cj (4 : Int64), cs, ci 4, ci cap_, ci 1, ci 1, ci 1, ci 1, ci 4, cu] []) _ _ _
    refine wil X153 hx hby at_367 rfl ?_
    refine win X153 hx hby at_369 ((if0 _ _).trans (feq (by decide : ¬ ((1 : Int32) = (0 : Int32)))).1) ?_
    refine wal X153 hx hby at_372 rfl rfl ?_
    refine wil X153 hx hby at_374 rfl ?_
    refine wic X153 hx hby at_376 ?_
    show Ends _ _ _ _ T153 (mkF m 377 #[ci p0, ci p1, cj q2, cs, ci p3, cr x5, ci 0, ci lv_, cj q8_, cs, cr si_, cj (4 : Int64), cs, ci 4, ci cap_, ci 1, ci 1, ci 1, ci 1, ci 4, cu] [(.int 2), (.int 0), (.ref x5)]) _ _ _
    refine wia X153 hx hby at_377 ?_
    obtain ⟨_, _, ⟨T154, L154, k154, n154⟩, -, X154, ⟨Lc154, hQ154, l154, y154, z154⟩, st154⟩ := Jvm.LawKit.callS X153 hx (y := ym7) hown (mvT hZ (ow hw 174 rfl)) (mvT hZ (ow hw 175 rfl)) (mvT hZ (ow hw 117 rfl)) (mvT hZ (ow hw 176 rfl)) (by decide) (own_backOf (W := 0) (rm_asciiAt_2 l Z a0 hw [] n0 h7 O7 x5 kx5 c0_ c1_ c2_ c3_ V7) hZ (ow hw 176 rfl) (ow hw 117 rfl) (by decide) (by decide)) (g := (mkF m 378 #[ci p0, ci p1, cj q2, cs, ci p3, cr x5, ci 0, ci lv_, cj q8_, cs, cr si_, cj (4 : Int64), cs, ci 4, ci cap_, ci 1, ci 1, ci 1, ci 1, ci 4, cu] [(.int 2), (.ref x5)])) rfl (by rw [hml]; rfl) (argsL := [(.ref x5), (.int 2)]) (rest := []) (lenOf pdx_3 rfl) rfl (by show 2 * 0 + _ ≤ _; exact Nat.le_of_eq rfl) (hb hby at_378) (fun _ _ => ⟨rfl, e153q, (by decide : 8 + 0 ≤ _), (by decide : 48 + 0 ≤ _)⟩)
    dsimp only [Pt.U, Pt.locs, Pt.cells, Pt.slots] at X154 l154 y154 z154 st154 hQ154
    subst l154 y154 z154
    obtain ⟨r154, rfl, N154q, e154q, hr154⟩ := hQ154
    have N154 := Fr.app N153 N154q
    refine Ends.go st154 ?_
    rcases hr154 with ⟨rfl, hP154⟩ | ⟨rfl, hP154⟩
    ·show Ends _ _ _ _ T154 (mkF m 381 #[ci p0, ci p1, cj q2, cs, ci p3, cr x5, ci 0, ci lv_, cj q8_, cs, cr si_, cj (4 : Int64), cs, ci 4, ci cap_, ci 1, ci 1, ci 1, ci 1, ci 4, cu] [(.int 1)]) _ _ _
     refine win X154 hx hby at_381 ((if0 _ _).trans (feq (by decide : ¬ ((1 : Int32) = (0 : Int32)))).1) ?_
     refine wil X154 hx hby at_384 rfl ?_
     show Ends _ _ _ _ T154 (mkF m 386 #[ci p0, ci p1, cj q2, cs, ci p3, cr x5, ci 0, ci lv_, cj q8_, cs, cr si_, cj (4 : Int64), cs, ci 4, ci cap_, ci 1, ci 1, ci 1, ci 1, ci 4, cu] [(.int 1)]) _ _ _
     refine win X154 hx hby at_386 ((if0 _ _).trans (feq (by decide : ¬ ((1 : Int32) = (0 : Int32)))).1) ?_
     refine wal X154 hx hby at_389 rfl rfl ?_
     refine wil X154 hx hby at_391 rfl ?_
     refine wic X154 hx hby at_393 ?_
     refine wia X154 hx hby at_394 ?_
     show Ends _ _ _ _ T154 (mkF m 395 #[ci p0, ci p1, cj q2, cs, ci p3, cr x5, ci 0, ci lv_, cj q8_, cs, cr si_, cj (4 : Int64), cs, ci 4, ci cap_, ci 1, ci 1, ci 1, ci 1, ci 4, cu] [(.int 3), (.ref x5)]) _ _ _
     obtain ⟨_, _, ⟨T155, L155, k155, n155⟩, -, X155, ⟨Lc155, hQ155, l155, y155, z155⟩, st155⟩ := Jvm.LawKit.callS X154 hx (y := ym7) hown (mvT hZ (ow hw 174 rfl)) (mvT hZ (ow hw 175 rfl)) (mvT hZ (ow hw 117 rfl)) (mvT hZ (ow hw 176 rfl)) (by decide) (own_backOf (W := 0) (rm_asciiAt_3 l Z a0 hw [] n0 h7 O7 x5 kx5 c0_ c1_ c2_ c3_ V7) hZ (ow hw 176 rfl) (ow hw 117 rfl) (by decide) (by decide)) (g := (mkF m 395 #[ci p0, ci p1, cj q2, cs, ci p3, cr x5, ci 0, ci lv_, cj q8_, cs, cr si_, cj (4 : Int64), cs, ci 4, ci cap_, ci 1, ci 1, ci 1, ci 1, ci 4, cu] [(.int 3), (.ref x5)])) rfl (by rw [hml]; rfl) (argsL := [(.ref x5), (.int 3)]) (rest := []) (lenOf pdx_3 rfl) rfl (by show 2 * 0 + _ ≤ _; exact Nat.le_of_eq rfl) (hb hby at_395) (fun _ _ => ⟨rfl, e154q, (by decide : 8 + 0 ≤ _), (by decide : 48 + 0 ≤ _)⟩)
     dsimp only [Pt.U, Pt.locs, Pt.cells, Pt.slots] at X155 l155 y155 z155 st155 hQ155
     subst l155 y155 z155
     obtain ⟨r155, rfl, N155q, e155q, hr155⟩ := hQ155
     have N155 := Fr.app N154 N155q
     refine Ends.go st155 ?_
     rcases hr155 with ⟨rfl, hP155⟩ | ⟨rfl, hP155⟩
     ·show Ends _ _ _ _ T155 (mkF m 398 #[ci p0, ci p1, cj q2, cs, ci p3, cr x5, ci 0, ci lv_, cj q8_, cs, cr si_, cj (4 : Int64), cs, ci 4, ci cap_, ci 1, ci 1, ci 1, ci 1, ci 4, cu] [(.int 1)]) _ _ _
      refine win X155 hx hby at_398 ((if0 _ _).trans (feq (by decide : ¬ ((1 : Int32) = (0 : Int32)))).1) ?_
      refine wic X155 hx hby at_401 ?_
      refine wgo (pc := 402) (pc' := 406) X155 hx hby at_402 (by decide) (by decide) ?_
      show Ends _ _ _ _ T155 (mkF m 406 #[ci p0, ci p1, cj q2, cs, ci p3, cr x5, ci 0, ci lv_, cj q8_, cs, cr si_, cj (4 : Int64), cs, ci 4, ci cap_, ci 1, ci 1, ci 1, ci 1, ci 4, cu] [(.int 1)]) _ _ _
      obtain rfl : pl_ = 1 := own_ex1 hasc ⟨hP152, hP153, hP154, hP155⟩
      exact J406_1 _ _ _ x5 si_ (0 : Int32) lv_ (4 : Int32) cap_ (1 : Int32) (1 : Int32) (1 : Int32) (1 : Int32) (4 : Int32) (4 : Int32) q8_ (4 : Int64) X155 e155q O7 N155 K7 g_si_ sz_si_ E4 Fb Fp Fa Fd (by decide) (by decide)
     ·show Ends _ _ _ _ T155 (mkF m 398 #[ci p0, ci p1, cj q2, cs, ci p3, cr x5, ci 0, ci lv_, cj q8_, cs, cr si_, cj (4 : Int64), cs, ci 4, ci cap_, ci 1, ci 1, ci 1, ci 1, ci 4, cu] [(.int 0)]) _ _ _
      refine wiy (pc := 398) (pc' := 405) X155 hx hby at_398 ((if0 _ _).trans (teq (by decide : (0 : Int32) = (0 : Int32))).1) (by decide) (by decide) ?_
      refine wic X155 hx hby at_405 ?_
      obtain rfl : pl_ = 0 := own_ex0 hasc (fun q => hP155 q.2.2.2)
      exact J406_0 _ _ _ x5 si_ (0 : Int32) lv_ (4 : Int32) cap_ (1 : Int32) (1 : Int32) (1 : Int32) (1 : Int32) (4 : Int32) (4 : Int32) q8_ (4 : Int64) X155 e155q O7 N155 K7 g_si_ sz_si_ E4 Fb Fp Fa Fd (by decide) (by decide)
    ·show Ends _ _ _ _ T154 (mkF m 381 #[ci p0, ci p1, cj q2, cs, ci p3, cr x5, ci 0, ci lv_, cj q8_, cs, cr si_, cj (4 : Int64), cs, ci 4, ci cap_, ci 1, ci 1, ci 1, ci 1, ci 4, cu] [(.int 0)]) _ _ _
     refine wiy (pc := 381) (pc' := 405) X154 hx hby at_381 ((if0 _ _).trans (teq (by decide : (0 : Int32) = (0 : Int32))).1) (by decide) (by decide) ?_
     show Ends _ _ _ _ T154 (mkF m 405 #[ci p0, ci p1, cj q2, cs, ci p3, cr x5, ci 0, ci lv_, cj q8_, cs, cr si_, cj (4 : Int64), cs, ci 4, ci cap_, ci 1, ci 1, ci 1, ci 1, ci 4, cu] []) _ _ _
     refine wic X154 hx hby at_405 ?_
     obtain rfl : pl_ = 0 := own_ex0 hasc (fun q => hP154 q.2.2.1)
     exact J406_0 _ _ _ x5 si_ (0 : Int32) lv_ (4 : Int32) cap_ (1 : Int32) (1 : Int32) (1 : Int32) (1 : Int32) (4 : Int32) (4 : Int32) q8_ (4 : Int64) X154 e154q O7 N154 K7 g_si_ sz_si_ E4 Fb Fp Fa Fd (by decide) (by decide)
   ·show Ends _ _ _ _ T153 (mkF m 364 #[ci p0, ci p1, cj q2, cs, ci p3, cr x5, ci 0, ci lv_, cj q8_, cs, cr si_, cj (4 : Int64), cs, ci 4, ci cap_, ci 1, ci 1, ci 1, ci 1, ci 4, cu] [(.int 0)]) _ _ _
    refine wiy (pc := 364) (pc' := 405) X153 hx hby at_364 ((if0 _ _).trans (teq (by decide : (0 : Int32) = (0 : Int32))).1) (by decide) (by decide) ?_
    refine wic X153 hx hby at_405 ?_
    obtain rfl : pl_ = 0 := own_ex0 hasc (fun q => hP153 q.2.1)
    exact J406_0 _ _ _ x5 si_ (0 : Int32) lv_ (4 : Int32) cap_ (1 : Int32) (1 : Int32) (1 : Int32) (1 : Int32) (4 : Int32) (4 : Int32) q8_ (4 : Int64) X153 e153q O7 N153 K7 g_si_ sz_si_ E4 Fb Fp Fa Fd (by decide) (by decide)
  ·show Ends _ _ _ _ T152 (mkF m 347 #[ci p0, ci p1, cj q2, cs, ci p3, cr x5, ci 0, ci lv_, cj q8_, cs, cr si_, cj (4 : Int64), cs, ci 4, ci cap_, ci 1, ci 1, ci 1, ci 1, ci 4, cu] [(.int 0)]) _ _ _
   refine wiy (pc := 347) (pc' := 405) X152 hx hby at_347 ((if0 _ _).trans (teq (by decide : (0 : Int32) = (0 : Int32))).1) (by decide) (by decide) ?_
   refine wic X152 hx hby at_405 ?_
   obtain rfl : pl_ = 0 := own_ex0 hasc (fun q => hP152 q.1)
   exact J406_0 _ _ _ x5 si_ (0 : Int32) lv_ (4 : Int32) cap_ (1 : Int32) (1 : Int32) (1 : Int32) (1 : Int32) (4 : Int32) (4 : Int32) q8_ (4 : Int64) X152 e152q O7 N152 K7 g_si_ sz_si_ E4 Fb Fp Fa Fd (by decide) (by decide)
 have J290_1_0 : ∀ (T7 : State) (h7 : Heap) (lcs : List Loc) (x5 : Addr) (kx5 : ClassId) (si_ : Addr) (lv_ : Int32) (cap_ : Int32) (pl_ : Int32) (q8_ : Int64) (X7 : Stand p l e room_1 s m #[(.int p0), (.int p1), (.long q2), (.int p3)] below meth c T7 lcs 8 48) (eT7 : T7.heap = h7) (O7 : Old Z n0 h7) (N7 : Fr n0 lcs) (K7 : Keep h0 h7 []) (g_si_ : n0 ≤ si_) (sz_si_ : h0.size ≤ si_) (E4 : Exa Z h7 si_ cSI) (V7 : Arv Z h7 x5 kx5 .char (4 : Int32) [(.int c0_), (.int c1_), (.int c2_), (.int c3_)] (.int 0)) (Fb : Fld Z h7 si_ cSI "base" "I" (.int 0)) (Fp : Fld Z h7 si_ cSI "position" "I" (.int 1)) (Fa : Fld Z h7 si_ cSI "ascii" "Z" (.int pl_)) (Fd : Fld Z h7 si_ "com/example/ratatoskr/ratatoskr/core/internal/Input" "decoded" "Lcom/example/ratatoskr/ratatoskr/core/internal/DecodedChars;" .null) (hasc : ((pl_ = 1 ∧ (True)) ∨ (pl_ = 0 ∧ ¬ (True)))), Ends p e below s T7 (mkF m 290 #[ci p0, ci p1, cj q2, cs, ci p3, cr x5, ci 1, ci lv_, cj q8_, cs, cr si_, cj (0 : Int64), cs, ci 3, ci cap_, ci 0, ci 0, ci 0, ci 0, cu, cu] []) room_1.cells room_1.slots (fun v h L => v = some (.int 1) ∧ Fr n0 L) := by
  intro T7 h7 lcs x5 kx5 si_ lv_ cap_ pl_ q8_ X7 eT7 O7 N7 K7 g_si_ sz_si_ E4 V7 Fb Fp Fa Fd hasc
  show Ends _ _ _ _ T7 (mkF m 290 #[ci p0, ci p1, cj q2, cs, ci p3, cr x5, ci 1, ci lv_, cj q8_, cs, cr si_, cj (0 : Int64), cs, ci 3, ci cap_, ci 0, ci 0, ci 0, ci 0, cu, cu] []) _ _ _
  refine wil X7 hx hby at_290 rfl ?_
  refine wiy (pc := 292) (pc' := 299) X7 hx hby at_292 ((if0 _ _).trans (teq (by decide : (0 : Int32) = (0 : Int32))).1) (by decide) (by decide) ?_
  show Ends _ _ _ _ T7 (mkF m 299 #[ci p0, ci p1, cj q2, cs, ci p3, cr x5, ci 1, ci lv_, cj q8_, cs, cr si_, cj (0 : Int64), cs, ci 3, ci cap_, ci 0, ci 0, ci 0, ci 0, cu, cu] []) _ _ _
  refine wic X7 hx hby at_299 ?_
  refine wil X7 hx hby at_300 rfl ?_
  refine wiy (pc := 302) (pc' := 309) X7 hx hby at_302 ((if0 _ _).trans (teq (by decide : (0 : Int32) = (0 : Int32))).1) (by decide) (by decide) ?_
  refine wic X7 hx hby at_309 ?_
  refine wia X7 hx hby at_310 ?_
  show Ends _ _ _ _ T7 (mkF m 311 #[ci p0, ci p1, cj q2, cs, ci p3, cr x5, ci 1, ci lv_, cj q8_, cs, cr si_, cj (0 : Int64), cs, ci 3, ci cap_, ci 0, ci 0, ci 0, ci 0, cu, cu] [(.int 0)]) _ _ _
  refine wil X7 hx hby at_311 rfl ?_
  refine wiy (pc := 313) (pc' := 320) X7 hx hby at_313 ((if0 _ _).trans (teq (by decide : (0 : Int32) = (0 : Int32))).1) (by decide) (by decide) ?_
  refine wic X7 hx hby at_320 ?_
  refine wia X7 hx hby at_321 ?_
  refine wil X7 hx hby at_322 rfl ?_
  show Ends _ _ _ _ T7 (mkF m 324 #[ci p0, ci p1, cj q2, cs, ci p3, cr x5, ci 1, ci lv_, cj q8_, cs, cr si_, cj (0 : Int64), cs, ci 3, ci cap_, ci 0, ci 0, ci 0, ci 0, cu, cu] [(.int 0), (.int 0)]) _ _ _
  refine wiy (pc := 324) (pc' := 331) X7 hx hby at_324 ((if0 _ _).trans (teq (by decide : (0 : Int32) = (0 : Int32))).1) (by decide) (by decide) ?_
  refine wic X7 hx hby at_331 ?_
  refine wia X7 hx hby at_332 ?_
  refine wst X7 hx hby at_333 (l' := #[ci p0, ci p1, cj q2, cs, ci p3, cr x5, ci 1, ci lv_, cj q8_, cs, cr si_, cj (0 : Int64), cs, ci 3, ci cap_, ci 0, ci 0, ci 0, ci 0, ci 0, cu]) rfl ?_
  refine wil X7 hx hby at_335 rfl ?_
  show Ends _ _ _ _ T7 (mkF m 337 #[ci p0, ci p1, cj q2, cs, ci p3, cr x5, ci 1, ci lv_, cj q8_, cs, cr si_, cj (0 : Int64), cs, ci 3, ci cap_, ci 0, ci 0, ci 0, ci 0, ci 0, cu] [(.int 0)]) _ _ _
  refine wiy (pc := 337) (pc' := 350) X7 hx hby at_337 ((if0 _ _).trans (teq (by decide : (0 : Int32) = (0 : Int32))).1) (by decide) (by decide) ?_
  refine wil X7 hx hby at_350 rfl ?_
  refine wiy (pc := 352) (pc' := 367) X7 hx hby at_352 ((if0 _ _).trans (teq (by decide : (0 : Int32) = (0 : Int32))).1) (by decide) (by decide) ?_
  refine wil X7 hx hby at_367 rfl ?_
  refine wiy (pc := 369) (pc' := 384) X7 hx hby at_369 ((if0 _ _).trans (teq (by decide : (0 : Int32) = (0 : Int32))).1) (by decide) (by decide) ?_
  show Ends _ _ _ _ T7 (mkF m 384 #[ci p0, ci p1, cj q2, cs, ci p3, cr x5, ci 1, ci lv_, cj q8_, cs, cr si_, cj (0 : Int64), cs, ci 3, ci cap_, ci 0, ci 0, ci 0, ci 0, ci 0, cu] []) _ _ _
  refine wil X7 hx hby at_384 rfl ?_
  refine wiy (pc := 386) (pc' := 401) X7 hx hby at_386 ((if0 _ _).trans (teq (by decide : (0 : Int32) = (0 : Int32))).1) (by decide) (by decide) ?_
  refine wic X7 hx hby at_401 ?_
  refine wgo (pc := 402) (pc' := 406) X7 hx hby at_402 (by decide) (by decide) ?_
  obtain rfl : pl_ = 1 := own_ex1 hasc trivial
  exact J406_1 _ _ _ x5 si_ (1 : Int32) lv_ (3 : Int32) cap_ (0 : Int32) (0 : Int32) (0 : Int32) (0 : Int32) (0 : Int32) (1 : Int32) q8_ (0 : Int64) X7 eT7 O7 N7 K7 g_si_ sz_si_ E4 Fb Fp Fa Fd (by decide) (by decide)
 have J290_1_1 : ∀ (T7 : State) (h7 : Heap) (lcs : List Loc) (x5 : Addr) (kx5 : ClassId) (si_ : Addr) (lv_ : Int32) (cap_ : Int32) (pl_ : Int32) (q8_ : Int64) (X7 : Stand p l e room_1 s m #[(.int p0), (.int p1), (.long q2), (.int p3)] below meth c T7 lcs 8 48) (eT7 : T7.heap = h7) (O7 : Old Z n0 h7) (N7 : Fr n0 lcs) (K7 : Keep h0 h7 []) (g_si_ : n0 ≤ si_) (sz_si_ : h0.size ≤ si_) (E4 : Exa Z h7 si_ cSI) (V7 : Arv Z h7 x5 kx5 .char (4 : Int32) [(.int c0_), (.int c1_), (.int c2_), (.int c3_)] (.int 0)) (Fb : Fld Z h7 si_ cSI "base" "I" (.int 0)) (Fp : Fld Z h7 si_ cSI "position" "I" (.int 2)) (Fa : Fld Z h7 si_ cSI "ascii" "Z" (.int pl_)) (Fd : Fld Z h7 si_ "com/example/ratatoskr/ratatoskr/core/internal/Input" "decoded" "Lcom/example/ratatoskr/ratatoskr/core/internal/DecodedChars;" .null) (hasc : ((pl_ = 1 ∧ (c1_ < (128 : Int32))) ∨ (pl_ = 0 ∧ ¬ (c1_ < (128 : Int32))))), Ends p e below s T7 (mkF m 290 #[ci p0, ci p1, cj q2, cs, ci p3, cr x5, ci 1, ci lv_, cj q8_, cs, cr si_, cj (1 : Int64), cs, ci 3, ci cap_, ci 1, ci 0, ci 0, ci 0, cu, cu] []) room_1.cells room_1.slots (fun v h L => v = some (.int 1) ∧ Fr n0 L) := by
  intro T7 h7 lcs x5 kx5 si_ lv_ cap_ pl_ q8_ X7 eT7 O7 N7 K7 g_si_ sz_si_ E4 V7 Fb Fp Fa Fd hasc
  show Ends _ _ _ _ T7 (mkF m 290 #[ci p0, ci p1, cj q2, cs, ci p3, cr x5, ci 1, ci lv_, cj q8_, cs, cr si_, cj (1 : Int64), cs, ci 3, ci cap_, ci 1, ci 0, ci 0, ci 0, cu, cu] []) _ _ _
  refine wil X7 hx hby at_290 rfl ?_
  refine win X7 hx hby at_292 ((if0 _ _).trans (feq (by decide : ¬ ((1 : Int32) = (0 : Int32)))).1) ?_
  refine wic X7 hx hby at_295 ?_
  refine wgo (pc := 296) (pc' := 300) X7 hx hby at_296 (by decide) (by decide) ?_
  refine wil X7 hx hby at_300 rfl ?_
  show Ends _ _ _ _ T7 (mkF m 302 #[ci p0, ci p1, cj q2, cs, ci p3, cr x5, ci 1, ci lv_, cj q8_, cs, cr si_, cj (1 : Int64), cs, ci 3, ci cap_, ci 1, ci 0, ci 0, ci 0, cu, cu] [(.int 0), (.int 1)]) _ _ _
  refine wiy (pc := 302) (pc' := 309) X7 hx hby at_302 ((if0 _ _).trans (teq (by decide : (0 : Int32) = (0 : Int32))).1) (by decide) (by decide) ?_
  refine wic X7 hx hby at_309 ?_
  refine wia X7 hx hby at_310 ?_
  refine wil X7 hx hby at_311 rfl ?_
  refine wiy (pc := 313) (pc' := 320) X7 hx hby at_313 ((if0 _ _).trans (teq (by decide : (0 : Int32) = (0 : Int32))).1) (by decide) (by decide) ?_
  show Ends _ _ _ _ T7 (mkF m 320 #[ci p0, ci p1, cj q2, cs, ci p3, cr x5, ci 1, ci lv_, cj q8_, cs, cr si_, cj (1 : Int64), cs, ci 3, ci cap_, ci 1, ci 0, ci 0, ci 0, cu, cu] [(.int 1)]) _ _ _
  refine wic X7 hx hby at_320 ?_
  refine wia X7 hx hby at_321 ?_
  refine wil X7 hx hby at_322 rfl ?_
  refine wiy (pc := 324) (pc' := 331) X7 hx hby at_324 ((if0 _ _).trans (teq (by decide : (0 : Int32) = (0 : Int32))).1) (by decide) (by decide) ?_
  refine wic X7 hx hby at_331 ?_
  show Ends _ _ _ _ T7 (mkF m 332 #[ci p0, ci p1, cj q2, cs, ci p3, cr x5, ci 1, ci lv_, cj q8_, cs, cr si_, cj (1 : Int64), cs, ci 3, ci cap_, ci 1, ci 0, ci 0, ci 0, cu, cu] [(.int 0), (.int 1)]) _ _ _
  refine wia X7 hx hby at_332 ?_
  refine wst X7 hx hby at_333 (l' := #[ci p0, ci p1, cj q2, cs, ci p3, cr x5, ci 1, ci lv_, cj q8_, cs, cr si_, cj (1 : Int64), cs, ci 3, ci cap_, ci 1, ci 0, ci 0, ci 0, ci 1, cu]) rfl ?_
  refine wil X7 hx hby at_335 rfl ?_
  refine win X7 hx hby at_337 ((if0 _ _).trans (feq (by decide : ¬ ((1 : Int32) = (0 : Int32)))).1) ?_
  refine wal X7 hx hby at_340 rfl rfl ?_
  show Ends _ _ _ _ T7 (mkF m 342 #[ci p0, ci p1, cj q2, cs, ci p3, cr x5, ci 1, ci lv_, cj q8_, cs, cr si_, cj (1 : Int64), cs, ci 3, ci cap_, ci 1, ci 0, ci 0, ci 0, ci 1, cu] [(.ref x5)]) _ _ _
  refine wil X7 hx hby at_342 rfl ?_
  obtain ⟨_, _, ⟨T156, L156, k156, n156⟩, -, X156, ⟨Lc156, hQ156, l156, y156, z156⟩, st156⟩ := Jvm.LawKit.callS X7 hx (y := ym7) hown (mvT hZ (ow hw 174 rfl)) (mvT hZ (ow hw 175 rfl)) (mvT hZ (ow hw 117 rfl)) (mvT hZ (ow hw 176 rfl)) (by decide) (own_backOf (W := 0) (rm_asciiAt_1 l Z a0 hw [] n0 h7 O7 x5 kx5 c0_ c1_ c2_ c3_ V7) hZ (ow hw 176 rfl) (ow hw 117 rfl) (by decide) (by decide)) (g := (mkF m 344 #[ci p0, ci p1, cj q2, cs, ci p3, cr x5, ci 1, ci lv_, cj q8_, cs, cr si_, cj (1 : Int64), cs, ci 3, ci cap_, ci 1, ci 0, ci 0, ci 0, ci 1, cu] [(.int 1), (.ref x5)])) rfl (by rw [hml]; rfl) (argsL := [(.ref x5), (.int 1)]) (rest := []) (lenOf pdx_3 rfl) rfl (by show 2 * 0 + _ ≤ _; exact Nat.le_of_eq rfl) (hb hby at_344) (fun _ _ => ⟨rfl, eT7, (by decide : 8 + 0 ≤ _), (by decide : 48 + 0 ≤ _)⟩)
  dsimp only [Pt.U, Pt.locs, Pt.cells, Pt.slots] at X156 l156 y156 z156 st156 hQ156
  subst l156 y156 z156
  obtain ⟨r156, rfl, N156q, e156q, hr156⟩ := hQ156
  have N156 := Fr.app N7 N156q
  refine Ends.go st156 ?_
  rcases hr156 with ⟨rfl, hP156⟩ | ⟨rfl, hP156⟩
  ·show Ends _ _ _ _ T156 (mkF m 347 #[ci p0, ci p1, cj q2, cs, ci p3, cr x5, ci 1, ci lv_, cj q8_, cs, cr si_, cj (1 : Int64), cs, ci 3, ci cap_, ci 1, ci 0, ci 0, ci 0, ci 1, cu] [(.int 1)]) _ _ _
   refine win X156 hx hby at_347 ((if0 _ _).trans (feq (by decide : ¬ ((1 : Int32) = (0 : Int32)))).1) ?_
   refine wil X156 hx hby at_350 rfl ?_
   show Ends _ _ _ _ T156 (mkF m 352 #[ci p0, ci p1, cj q2, cs, ci p3, cr x5, ci 1, ci lv_, cj q8_, cs, cr si_, cj (1 : Int64), cs, ci 3, ci cap_, ci 1, ci 0, ci 0, ci 0, ci 1, cu] [(.int 0)]) _ _ _
   refine wiy (pc := 352) (pc' := 367) X156 hx hby at_352 ((if0 _ _).trans (teq (by decide : (0 : Int32) = (0 : Int32))).1) (by decide) (by decide) ?_
   refine wil X156 hx hby at_367 rfl ?_
   refine wiy (pc := 369) (pc' := 384) X156 hx hby at_369 ((if0 _ _).trans (teq (by decide : (0 : Int32) = (0 : Int32))).1) (by decide) (by decide) ?_
   refine wil X156 hx hby at_384 rfl ?_
   refine wiy (pc := 386) (pc' := 401) X156 hx hby at_386 ((if0 _ _).trans (teq (by decide : (0 : Int32) = (0 : Int32))).1) (by decide) (by decide) ?_
   show Ends _ _ _ _ T156 (mkF m 401 #[ci p0, ci p1, cj q2, cs, ci p3, cr x5, ci 1, ci lv_, cj q8_, cs, cr si_, cj (1 : Int64), cs, ci 3, ci cap_, ci 1, ci 0, ci 0, ci 0, ci 1, cu] []) _ _ _
   refine wic X156 hx hby at_401 ?_
   refine wgo (pc := 402) (pc' := 406) X156 hx hby at_402 (by decide) (by decide) ?_
   obtain rfl : pl_ = 1 := own_ex1 hasc hP156
   exact J406_1 _ _ _ x5 si_ (1 : Int32) lv_ (3 : Int32) cap_ (1 : Int32) (0 : Int32) (0 : Int32) (0 : Int32) (1 : Int32) (2 : Int32) q8_ (1 : Int64) X156 e156q O7 N156 K7 g_si_ sz_si_ E4 Fb Fp Fa Fd (by decide) (by decide)
  ·show Ends _ _ _ _ T156 (mkF m 347 #[ci p0, ci p1, cj q2, cs, ci p3, cr x5, ci 1, ci lv_, cj q8_, cs, cr si_, cj (1 : Int64), cs, ci 3, ci cap_, ci 1, ci 0, ci 0, ci 0, ci 1, cu] [(.int 0)]) _ _ _
   refine wiy (pc := 347) (pc' := 405) X156 hx hby at_347 ((if0 _ _).trans (teq (by decide : (0 : Int32) = (0 : Int32))).1) (by decide) (by decide) ?_
   refine wic X156 hx hby at_405 ?_
   show Ends _ _ _ _ T156 (mkF m 406 #[ci p0, ci p1, cj q2, cs, ci p3, cr x5, ci 1, ci lv_, cj q8_, cs, cr si_, cj (1 : Int64), cs, ci 3, ci cap_, ci 1, ci 0, ci 0, ci 0, ci 1, cu] [(.int 0)]) _ _ _
   obtain rfl : pl_ = 0 := own_ex0 hasc (fun q => hP156 q)
   exact J406_0 _ _ _ x5 si_ (1 : Int32) lv_ (3 : Int32) cap_ (1 : Int32) (0 : Int32) (0 : Int32) (0 : Int32) (1 : Int32) (2 : Int32) q8_ (1 : Int64) X156 e156q O7 N156 K7 g_si_ sz_si_ E4 Fb Fp Fa Fd (by decide) (by decide)
 have J290_1_2 : ∀ (T7 : State) (h7 : Heap) (lcs : List Loc) (x5 : Addr) (kx5 : ClassId) (si_ : Addr) (lv_ : Int32) (cap_ : Int32) (pl_ : Int32) (q8_ : Int64) (X7 : Stand p l e room_1 s m #[(.int p0), (.int p1), (.long q2), (.int p3)] below meth c T7 lcs 8 48) (eT7 : T7.heap = h7) (O7 : Old Z n0 h7) (N7 : Fr n0 lcs) (K7 : Keep h0 h7 []) (g_si_ : n0 ≤ si_) (sz_si_ : h0.size ≤ si_) (E4 : Exa Z h7 si_ cSI) (V7 : Arv Z h7 x5 kx5 .char (4 : Int32) [(.int c0_), (.int c1_), (.int c2_), (.int c3_)] (.int 0)) (Fb : Fld Z h7 si_ cSI "base" "I" (.int 0)) (Fp : Fld Z h7 si_ cSI "position" "I" (.int 3)) (Fa : Fld Z h7 si_ cSI "ascii" "Z" (.int pl_)) (Fd : Fld Z h7 si_ "com/example/ratatoskr/ratatoskr/core/internal/Input" "decoded" "Lcom/example/ratatoskr/ratatoskr/core/internal/DecodedChars;" .null) (hasc : ((pl_ = 1 ∧ (c1_ < (128 : Int32) ∧ c2_ < (128 : Int32))) ∨ (pl_ = 0 ∧ ¬ (c1_ < (128 : Int32) ∧ c2_ < (128 : Int32))))), Ends p e below s T7 (mkF m 290 #[ci p0, ci p1, cj q2, cs, ci p3, cr x5, ci 1, ci lv_, cj q8_, cs, cr si_, cj (2 : Int64), cs, ci 3, ci cap_, ci 1, ci 1, ci 0, ci 0, cu, cu] []) room_1.cells room_1.slots (fun v h L => v = some (.int 1) ∧ Fr n0 L) := by
  intro T7 h7 lcs x5 kx5 si_ lv_ cap_ pl_ q8_ X7 eT7 O7 N7 K7 g_si_ sz_si_ E4 V7 Fb Fp Fa Fd hasc
  show Ends _ _ _ _ T7 (mkF m 290 #[ci p0, ci p1, cj q2, cs, ci p3, cr x5, ci 1, ci lv_, cj q8_, cs, cr si_, cj (2 : Int64), cs, ci 3, ci cap_, ci 1, ci 1, ci 0, ci 0, cu, cu] []) _ _ _
  refine wil X7 hx hby at_290 rfl ?_
  refine win X7 hx hby at_292 ((if0 _ _).trans (feq (by decide : ¬ ((1 : Int32) = (0 : Int32)))).1) ?_
  refine wic X7 hx hby at_295 ?_
  refine wgo (pc := 296) (pc' := 300) X7 hx hby at_296 (by decide) (by decide) ?_
  show Ends _ _ _ _ T7 (mkF m 300 #[ci p0, ci p1, cj q2, cs, ci p3, cr x5, ci 1, ci lv_, cj q8_, cs, cr si_, cj (2 : Int64), cs, ci 3, ci cap_, ci 1, ci 1, ci 0, ci 0, cu, cu] [(.int 1)]) _ _ _
  refine wil X7 hx hby at_300 rfl ?_
  refine win X7 hx hby at_302 ((if0 _ _).trans (feq (by decide : ¬ ((1 : Int32) = (0 : Int32)))).1) ?_
  refine wic X7 hx hby at_305 ?_
  refine wgo (pc := 306) (pc' := 310) X7 hx hby at_306 (by decide) (by decide) ?_
  refine wia X7 hx hby at_310 ?_
  show Ends _ _ _ _ T7 (mkF m 311 #[ci p0, ci p1, cj q2, cs, ci p3, cr x5, ci 1, ci lv_, cj q8_, cs, cr si_, cj (2 : Int64), cs, ci 3, ci cap_, ci 1, ci 1, ci 0, ci 0, cu, cu] [(.int 2)]) _ _ _
  refine wil X7 hx hby at_311 rfl ?_
  refine wiy (pc := 313) (pc' := 320) X7 hx hby at_313 ((if0 _ _).trans (teq (by decide : (0 : Int32) = (0 : Int32))).1) (by decide) (by decide) ?_
  refine wic X7 hx hby at_320 ?_
  refine wia X7 hx hby at_321 ?_
  refine wil X7 hx hby at_322 rfl ?_
  show Ends _ _ _ _ T7 (mkF m 324 #[ci p0, ci p1, cj q2, cs, ci p3, cr x5, ci 1, ci lv_, cj q8_, cs, cr si_, cj (2 : Int64), cs, ci 3, ci cap_, ci 1, ci 1, ci 0, ci 0, cu, cu] [(.int 0), (.int 2)]) _ _ _
  refine wiy (pc := 324) (pc' := 331) X7 hx hby at_324 ((if0 _ _).trans (teq (by decide : (0 : Int32) = (0 : Int32))).1) (by decide) (by decide) ?_
  refine wic X7 hx hby at_331 ?_
  refine wia X7 hx hby at_332 ?_
  refine wst X7 hx hby at_333 (l' := #[ci p0, ci p1, cj q2, cs, ci p3, cr x5, ci 1, ci lv_, cj q8_, cs, cr si_, cj (2 : Int64), cs, ci 3, ci cap_, ci 1, ci 1, ci 0, ci 0, ci 2, cu]) rfl ?_
  refine wil X7 hx hby at_335 rfl ?_
  show Ends _ _ _ _ T7 (mkF m 337 #[ci p0, ci p1, cj q2, cs, ci p3, cr x5, ci 1, ci lv_, cj q8_, cs, cr si_, cj (2 : Int64), cs, ci 3, ci cap_, ci 1, ci 1, ci 0, ci 0, ci 2, cu] [(.int 1)]) _ _ _
  refine win X7 hx hby at_337 ((if0 _ _).trans (feq (by decide : ¬ ((1 : Int32) = (0 : Int32)))).1) ?_
  refine wal X7 hx hby at_340 rfl rfl ?_
  refine wil X7 hx hby at_342 rfl ?_
  obtain ⟨_, _, ⟨T157, L157, k157, n157⟩, -, X157, ⟨Lc157, hQ157, l157, y157, z157⟩, st157⟩ := Jvm.LawKit.callS X7 hx (y := ym7) hown (mvT hZ (ow hw 174 rfl)) (mvT hZ (ow hw 175 rfl)) (mvT hZ (ow hw 117 rfl)) (mvT hZ (ow hw 176 rfl)) (by decide) (own_backOf (W := 0) (rm_asciiAt_1 l Z a0 hw [] n0 h7 O7 x5 kx5 c0_ c1_ c2_ c3_ V7) hZ (ow hw 176 rfl) (ow hw 117 rfl) (by decide) (by decide)) (g := (mkF m 344 #[ci p0, ci p1, cj q2, cs, ci p3, cr x5, ci 1, ci lv_, cj q8_, cs, cr si_, cj (2 : Int64), cs, ci 3, ci cap_, ci 1, ci 1, ci 0, ci 0, ci 2, cu] [(.int 1), (.ref x5)])) rfl (by rw [hml]; rfl) (argsL := [(.ref x5), (.int 1)]) (rest := []) (lenOf pdx_3 rfl) rfl (by show 2 * 0 + _ ≤ _; exact Nat.le_of_eq rfl) (hb hby at_344) (fun _ _ => ⟨rfl, eT7, (by decide : 8 + 0 ≤ _), (by decide : 48 + 0 ≤ _)⟩)
  dsimp only [Pt.U, Pt.locs, Pt.cells, Pt.slots] at X157 l157 y157 z157 st157 hQ157
  subst l157 y157 z157
  obtain ⟨r157, rfl, N157q, e157q, hr157⟩ := hQ157
  have N157 := Fr.app N7 N157q
  refine Ends.go st157 ?_
  rcases hr157 with ⟨rfl, hP157⟩ | ⟨rfl, hP157⟩
  ·show Ends _ _ _ _ T157 (mkF m 347 #[ci p0, ci p1, cj q2, cs, ci p3, cr x5, ci 1, ci lv_, cj q8_, cs, cr si_, cj (2 : Int64), cs, ci 3, ci cap_, ci 1, ci 1, ci 0, ci 0, ci 2, cu] [(.int 1)]) _ _ _
   refine win X157 hx hby at_347 ((if0 _ _).trans (feq (by decide : ¬ ((1 : Int32) = (0 : Int32)))).1) ?_
   refine wil X157 hx hby at_350 rfl ?_
   refine win X157 hx hby at_352 ((if0 _ _).trans (feq (by decide : ¬ ((1 : Int32) = (0 : Int32)))).1) ?_
   refine wal X157 hx hby at_355 rfl rfl ?_
   refine wil X157 hx hby at_357 rfl ?_
   show Ends _ _ _ _ T157 (mkF m 359 #[ci p0, ci p1, cj q2, cs, ci p3, cr x5, ci 1, ci lv_, cj q8_, cs, cr si_, cj (2 : Int64), cs, ci 3, ci cap_, ci 1, ci 1, ci 0, ci 0, ci 2, cu] [(.int 1), (.ref x5)]) _ _ _
   refine wic X157 hx hby at_359 ?_
   refine wia X157 hx hby at_360 ?_
   obtain ⟨_, _, ⟨T158, L158, k158, n158⟩, -, X158, ⟨Lc158, hQ158, l158, y158, z158⟩, st158⟩ := Jvm.LawKit.callS X157 hx (y := ym7) hown (mvT hZ (ow hw 174 rfl)) (mvT hZ (ow hw 175 rfl)) (mvT hZ (ow hw 117 rfl)) (mvT hZ (ow hw 176 rfl)) (by decide) (own_backOf (W := 0) (rm_asciiAt_2 l Z a0 hw [] n0 h7 O7 x5 kx5 c0_ c1_ c2_ c3_ V7) hZ (ow hw 176 rfl) (ow hw 117 rfl) (by decide) (by decide)) (g := (mkF m 361 #[ci p0, ci p1, cj q2, cs, ci p3, cr x5, ci 1, ci lv_, cj q8_, cs, cr si_, cj (2 : Int64), cs, ci 3, ci cap_, ci 1, ci 1, ci 0, ci 0, ci 2, cu] [(.int 2), (.ref x5)])) rfl (by rw [hml]; rfl) (argsL := [(.ref x5), (.int 2)]) (rest := []) (lenOf pdx_3 rfl) rfl (by show 2 * 0 + _ ≤ _; exact Nat.le_of_eq rfl) (hb hby at_361) (fun _ _ => ⟨rfl, e157q, (by decide : 8 + 0 ≤ _), (by decide : 48 + 0 ≤ _)⟩)
   dsimp only [Pt.U, Pt.locs, Pt.cells, Pt.slots] at X158 l158 y158 z158 st158 hQ158
   subst l158 y158 z158
   obtain ⟨r158, rfl, N158q, e158q, hr158⟩ := hQ158
   have N158 := Fr.app N157 N158q
   refine Ends.go st158 ?_
   rcases hr158 with ⟨rfl, hP158⟩ | ⟨rfl, hP158⟩
   ·show Ends _ _ _ _ T158 (mkF m 364 #[ci p0, ci p1, cj q2, cs, ci p3, cr x5, ci 1, ci lv_, cj q8_, cs, cr si_, cj (2 : Int64), cs, ci 3, ci cap_, ci 1, ci 1, ci 0, ci 0, ci 2, cu] [(.int 1)]) _ _ _
    refine win X158 hx hby at_364 ((if0 _ _).trans (feq (by decide : ¬ ((1 : Int32) = (0 : Int32)))).1) ?_
    show Ends _ _ _ _ T158 (mkF m 367 #[ci p0, ci p1, cj q2, cs, ci p3, cr x5, ci 1, ci lv_, cj q8_, cs, cr si_, cj (2 : Int64), cs, ci 3, ci cap_, ci 1, ci 1, ci 0, ci 0, ci 2, cu] []) _ _ _
    refine wil X158 hx hby at_367 rfl ?_
    refine wiy (pc := 369) (pc' := 384) X158 hx hby at_369 ((if0 _ _).trans (teq (by decide : (0 : Int32) = (0 : Int32))).1) (by decide) (by decide) ?_
    refine wil X158 hx hby at_384 rfl ?_
    refine wiy (pc := 386) (pc' := 401) X158 hx hby at_386 ((if0 _ _).trans (teq (by decide : (0 : Int32) = (0 : Int32))).1) (by decide) (by decide) ?_
    refine wic X158 hx hby at_401 ?_
    show Ends _ _ _ _ T158 (mkF m 402 #[ci p0, ci p1, cj q2, cs, ci p3, cr x5, ci 1, ci lv_, cj q8_, cs, cr si_, cj (2 : Int64), cs, ci 3, ci cap_, ci 1, ci 1, ci 0, ci 0, ci 2, cu] [(.int 1)]) _ _ _
    refine wgo (pc := 402) (pc' := 406) X158 hx hby at_402 (by decide) (by decide) ?_
    obtain rfl : pl_ = 1 := own_ex1 hasc ⟨hP157, hP158⟩
    exact J406_1 _ _ _ x5 si_ (1 : Int32) lv_ (3 : Int32) cap_ (1 : Int32) (1 : Int32) (0 : Int32) (0 : Int32) (2 : Int32) (3 : Int32) q8_ (2 : Int64) X158 e158q O7 N158 K7 g_si_ sz_si_ E4 Fb Fp Fa Fd (by decide) (by decide)
   ·show Ends _ _ _ _ T158 (mkF m 364 #[ci p0, ci p1, cj q2, cs, ci p3, cr x5, ci 1, ci lv_, cj q8_, cs, cr si_, cj (2 : Int64), cs, ci 3, ci cap_, ci 1, ci 1, ci 0, ci 0, ci 2, cu] [(.int 0)]) _ _ _
    refine wiy (pc := 364) (pc' := 405) X158 hx hby at_364 ((if0 _ _).trans (teq (by decide : (0 : Int32) = (0 : Int32))).1) (by decide) (by decide) ?_
    refine wic X158 hx hby at_405 ?_
    obtain rfl : pl_ = 0 := own_ex0 hasc (fun q => hP158 q.2)
    exact J406_0 _ _ _ x5 si_ (1 : Int32) lv_ (3 : Int32) cap_ (1 : Int32) (1 : Int32) (0 : Int32) (0 : Int32) (2 : Int32) (3 : Int32) q8_ (2 : Int64) X158 e158q O7 N158 K7 g_si_ sz_si_ E4 Fb Fp Fa Fd (by decide) (by decide)
  ·show Ends _ _ _ _ T157 (mkF m 347 #[ci p0, ci p1, cj q2, cs, ci p3, cr x5, ci 1, ci lv_, cj q8_, cs, cr si_, cj (2 : Int64), cs, ci 3, ci cap_, ci 1, ci 1, ci 0, ci 0, ci 2, cu] [(.int 0)]) _ _ _
   refine wiy (pc := 347) (pc' := 405) X157 hx hby at_347 ((if0 _ _).trans (teq (by decide : (0 : Int32) = (0 : Int32))).1) (by decide) (by decide) ?_
   refine wic X157 hx hby at_405 ?_
   obtain rfl : pl_ = 0 := own_ex0 hasc (fun q => hP157 q.1)
   exact J406_0 _ _ _ x5 si_ (1 : Int32) lv_ (3 : Int32) cap_ (1 : Int32) (1 : Int32) (0 : Int32) (0 : Int32) (2 : Int32) (3 : Int32) q8_ (2 : Int64) X157 e157q O7 N157 K7 g_si_ sz_si_ E4 Fb Fp Fa Fd (by decide) (by decide)
 have J290_1_3 : ∀ (T7 : State) (h7 : Heap) (lcs : List Loc) (x5 : Addr) (kx5 : ClassId) (si_ : Addr) (lv_ : Int32) (cap_ : Int32) (pl_ : Int32) (q8_ : Int64) (X7 : Stand p l e room_1 s m #[(.int p0), (.int p1), (.long q2), (.int p3)] below meth c T7 lcs 8 48) (eT7 : T7.heap = h7) (O7 : Old Z n0 h7) (N7 : Fr n0 lcs) (K7 : Keep h0 h7 []) (g_si_ : n0 ≤ si_) (sz_si_ : h0.size ≤ si_) (E4 : Exa Z h7 si_ cSI) (V7 : Arv Z h7 x5 kx5 .char (4 : Int32) [(.int c0_), (.int c1_), (.int c2_), (.int c3_)] (.int 0)) (Fb : Fld Z h7 si_ cSI "base" "I" (.int 0)) (Fp : Fld Z h7 si_ cSI "position" "I" (.int 4)) (Fa : Fld Z h7 si_ cSI "ascii" "Z" (.int pl_)) (Fd : Fld Z h7 si_ "com/example/ratatoskr/ratatoskr/core/internal/Input" "decoded" "Lcom/example/ratatoskr/ratatoskr/core/internal/DecodedChars;" .null) (hasc : ((pl_ = 1 ∧ (c1_ < (128 : Int32) ∧ c2_ < (128 : Int32) ∧ c3_ < (128 : Int32))) ∨ (pl_ = 0 ∧ ¬ (c1_ < (128 : Int32) ∧ c2_ < (128 : Int32) ∧ c3_ < (128 : Int32))))), Ends p e below s T7 (mkF m 290 #[ci p0, ci p1, cj q2, cs, ci p3, cr x5, ci 1, ci lv_, cj q8_, cs, cr si_, cj (3 : Int64), cs, ci 3, ci cap_, ci 1, ci 1, ci 1, ci 0, cu, cu] []) room_1.cells room_1.slots (fun v h L => v = some (.int 1) ∧ Fr n0 L) := by
  intro T7 h7 lcs x5 kx5 si_ lv_ cap_ pl_ q8_ X7 eT7 O7 N7 K7 g_si_ sz_si_ E4 V7 Fb Fp Fa Fd hasc
  show Ends _ _ _ _ T7 (mkF m 290 #[ci p0, ci p1, cj q2, cs, ci p3, cr x5, ci 1, ci lv_, cj q8_, cs, cr si_, cj (3 : Int64), cs, ci 3, ci cap_, ci 1, ci 1, ci 1, ci 0, cu, cu] []) _ _ _
  refine wil X7 hx hby at_290 rfl ?_
  refine win X7 hx hby at_292 ((if0 _ _).trans (feq (by decide : ¬ ((1 : Int32) = (0 : Int32)))).1) ?_
  show Ends _ _ _ _ T7 (mkF m 295 #[ci p0, ci p1, cj q2, cs, ci p3, cr x5, ci 1, ci lv_, cj q8_, cs, cr si_, cj (3 : Int64), cs, ci 3, ci cap_, ci 1, ci 1, ci 1, ci 0, cu, cu] []) _ _ _
  refine wic X7 hx hby at_295 ?_
  refine wgo (pc := 296) (pc' := 300) X7 hx hby at_296 (by decide) (by decide) ?_
  refine wil X7 hx hby at_300 rfl ?_
  refine win X7 hx hby at_302 ((if0 _ _).trans (feq (by decide : ¬ ((1 : Int32) = (0 : Int32)))).1) ?_
  refine wic X7 hx hby at_305 ?_
  show Ends _ _ _ _ T7 (mkF m 306 #[ci p0, ci p1, cj q2, cs, ci p3, cr x5, ci 1, ci lv_, cj q8_, cs, cr si_, cj (3 : Int64), cs, ci 3, ci cap_, ci 1, ci 1, ci 1, ci 0, cu, cu] [(.int 1), (.int 1)]) _ _ _
  refine wgo (pc := 306) (pc' := 310) X7 hx hby at_306 (by decide) (by decide) ?_
  refine wia X7 hx hby at_310 ?_
  refine wil X7 hx hby at_311 rfl ?_
  refine win X7 hx hby at_313 ((if0 _ _).trans (feq (by decide : ¬ ((1 : Int32) = (0 : Int32)))).1) ?_
  refine wic X7 hx hby at_316 ?_
  show Ends _ _ _ _ T7 (mkF m 317 #[ci p0, ci p1, cj q2, cs, ci p3, cr x5, ci 1, ci lv_, cj q8_, cs, cr si_, cj (3 : Int64), cs, ci 3, ci cap_, ci 1, ci 1, ci 1, ci 0, cu, cu] [(.int 1), (.int 2)]) _ _ _
  refine wgo (pc := 317) (pc' := 321) X7 hx hby at_317 (by decide) (by decide) ?_
  refine wia X7 hx hby at_321 ?_
  refine wil X7 hx hby at_322 rfl ?_
  refine wiy (pc := 324) (pc' := 331) X7 hx hby at_324 ((if0 _ _).trans (teq (by decide : (0 : Int32) = (0 : Int32))).1) (by decide) (by decide) ?_
  refine wic X7 hx hby at_331 ?_
  show Ends _ _ _ _ T7 (mkF m 332 #[ci p0, ci p1, cj q2, cs, ci p3, cr x5, ci 1, ci lv_, cj q8_, cs, cr si_, cj (3 : Int64), cs, ci 3, ci cap_, ci 1, ci 1, ci 1, ci 0, cu, cu] [(.int 0), (.int 3)]) _ _ _
  refine wia X7 hx hby at_332 ?_
  refine wst X7 hx hby at_333 (l' := #[ci p0, ci p1, cj q2, cs, ci p3, cr x5, ci 1, ci lv_, cj q8_, cs, cr si_, cj (3 : Int64), cs, ci 3, ci cap_, ci 1, ci 1, ci 1, ci 0, ci 3, cu]) rfl ?_
  refine wil X7 hx hby at_335 rfl ?_
  refine win X7 hx hby at_337 ((if0 _ _).trans (feq (by decide : ¬ ((1 : Int32) = (0 : Int32)))).1) ?_
  refine wal X7 hx hby at_340 rfl rfl ?_
  show Ends _ _ _ _ T7 (mkF m 342 #[ci p0, ci p1, cj q2, cs, ci p3, cr x5, ci 1, ci lv_, cj q8_, cs, cr si_, cj (3 : Int64), cs, ci 3, ci cap_, ci 1, ci 1, ci 1, ci 0, ci 3, cu] [(.ref x5)]) _ _ _
  refine wil X7 hx hby at_342 rfl ?_
  obtain ⟨_, _, ⟨T159, L159, k159, n159⟩, -, X159, ⟨Lc159, hQ159, l159, y159, z159⟩, st159⟩ := Jvm.LawKit.callS X7 hx (y := ym7) hown (mvT hZ (ow hw 174 rfl)) (mvT hZ (ow hw 175 rfl)) (mvT hZ (ow hw 117 rfl)) (mvT hZ (ow hw 176 rfl)) (by decide) (own_backOf (W := 0) (rm_asciiAt_1 l Z a0 hw [] n0 h7 O7 x5 kx5 c0_ c1_ c2_ c3_ V7) hZ (ow hw 176 rfl) (ow hw 117 rfl) (by decide) (by decide)) (g := (mkF m 344 #[ci p0, ci p1, cj q2, cs, ci p3, cr x5, ci 1, ci lv_, cj q8_, cs, cr si_, cj (3 : Int64), cs, ci 3, ci cap_, ci 1, ci 1, ci 1, ci 0, ci 3, cu] [(.int 1), (.ref x5)])) rfl (by rw [hml]; rfl) (argsL := [(.ref x5), (.int 1)]) (rest := []) (lenOf pdx_3 rfl) rfl (by show 2 * 0 + _ ≤ _; exact Nat.le_of_eq rfl) (hb hby at_344) (fun _ _ => ⟨rfl, eT7, (by decide : 8 + 0 ≤ _), (by decide : 48 + 0 ≤ _)⟩)
  dsimp only [Pt.U, Pt.locs, Pt.cells, Pt.slots] at X159 l159 y159 z159 st159 hQ159
  subst l159 y159 z159
  obtain ⟨r159, rfl, N159q, e159q, hr159⟩ := hQ159
  have N159 := Fr.app N7 N159q
  refine Ends.go st159 ?_
  rcases hr159 with ⟨rfl, hP159⟩ | ⟨rfl, hP159⟩
  ·show Ends _ _ _ _ T159 (mkF m 347 #[ci p0, ci p1, cj q2, cs, ci p3, cr x5, ci 1, ci lv_, cj q8_, cs, cr si_, cj (3 : Int64), cs, ci 3, ci cap_, ci 1, ci 1, ci 1, ci 0, ci 3, cu] [(.int 1)]) _ _ _
   refine win X159 hx hby at_347 ((if0 _ _).trans (feq (by decide : ¬ ((1 : Int32) = (0 : Int32)))).1) ?_
   refine wil X159 hx hby at_350 rfl ?_
   show Ends _ _ _ _ T159 (mkF m 352 #[ci p0, ci p1, cj q2, cs, ci p3, cr x5, ci 1, ci lv_, cj q8_, cs, cr si_, cj (3 : Int64), cs, ci 3, ci cap_, ci 1, ci 1, ci 1, ci 0, ci 3, cu] [(.int 1)]) _ _ _
   refine win X159 hx hby at_352 ((if0 _ _).trans (feq (by decide : ¬ ((1 : Int32) = (0 : Int32)))).1) ?_
   refine wal X159 hx hby at_355 rfl rfl ?_
   refine wil X159 hx hby at_357 rfl ?_
   refine wic X159 hx hby at_359 ?_
   refine wia X159 hx hby at_360 ?_
   show Ends _ _ _ _ T159 (mkF m 361 #[ci p0, ci p1, cj q2, cs, ci p3, cr x5, ci 1, ci lv_, cj q8_, cs, cr si_, cj (3 : Int64), cs, ci 3, ci cap_, ci 1, ci 1, ci 1, ci 0, ci 3, cu] [(.int 2), (.ref x5)]) _ _ _
   obtain ⟨_, _, ⟨T160, L160, k160, n160⟩, -, X160, ⟨Lc160, hQ160, l160, y160, z160⟩, st160⟩ := Jvm.LawKit.callS X159 hx (y := ym7) hown (mvT hZ (ow hw 174 rfl)) (mvT hZ (ow hw 175 rfl)) (mvT hZ (ow hw 117 rfl)) (mvT hZ (ow hw 176 rfl)) (by decide) (own_backOf (W := 0) (rm_asciiAt_2 l Z a0 hw [] n0 h7 O7 x5 kx5 c0_ c1_ c2_ c3_ V7) hZ (ow hw 176 rfl) (ow hw 117 rfl) (by decide) (by decide)) (g := (mkF m 361 #[ci p0, ci p1, cj q2, cs, ci p3, cr x5, ci 1, ci lv_, cj q8_, cs, cr si_, cj (3 : Int64), cs, ci 3, ci cap_, ci 1, ci 1, ci 1, ci 0, ci 3, cu] [(.int 2), (.ref x5)])) rfl (by rw [hml]; rfl) (argsL := [(.ref x5), (.int 2)]) (rest := []) (lenOf pdx_3 rfl) rfl (by show 2 * 0 + _ ≤ _; exact Nat.le_of_eq rfl) (hb hby at_361) (fun _ _ => ⟨rfl, e159q, (by decide : 8 + 0 ≤ _), (by decide : 48 + 0 ≤ _)⟩)
   dsimp only [Pt.U, Pt.locs, Pt.cells, Pt.slots] at X160 l160 y160 z160 st160 hQ160
   subst l160 y160 z160
   obtain ⟨r160, rfl, N160q, e160q, hr160⟩ := hQ160
   have N160 := Fr.app N159 N160q
   refine Ends.go st160 ?_
   rcases hr160 with ⟨rfl, hP160⟩ | ⟨rfl, hP160⟩
   ·show Ends _ _ _ _ T160 (mkF m 364 #[ci p0, ci p1, cj q2, cs, ci p3, cr x5, ci 1, ci lv_, cj q8_, cs, cr si_, cj (3 : Int64), cs, ci 3, ci cap_, ci 1, ci 1, ci 1, ci 0, ci 3, cu] [(.int 1)]) _ _ _
    refine win X160 hx hby at_364 ((if0 _ _).trans (feq (by decide : ¬ ((1 : Int32) = (0 : Int32)))).1) ?_
    refine wil X160 hx hby at_367 rfl ?_
    refine win X160 hx hby at_369 ((if0 _ _).trans (feq (by decide : ¬ ((1 : Int32) = (0 : Int32)))).1) ?_
    show Ends _ _ _ _ T160 (mkF m 372 #[ci p0, ci p1, cj q2, cs, ci p3, cr x5, ci 1, ci lv_, cj q8_, cs, cr si_, cj (3 : Int64), cs, ci 3, ci cap_, ci 1, ci 1, ci 1, ci 0, ci 3, cu] []) _ _ _
    refine wal X160 hx hby at_372 rfl rfl ?_
    refine wil X160 hx hby at_374 rfl ?_
    refine wic X160 hx hby at_376 ?_
    refine wia X160 hx hby at_377 ?_
    obtain ⟨_, _, ⟨T161, L161, k161, n161⟩, -, X161, ⟨Lc161, hQ161, l161, y161, z161⟩, st161⟩ := Jvm.LawKit.callS X160 hx (y := ym7) hown (mvT hZ (ow hw 174 rfl)) (mvT hZ (ow hw 175 rfl)) (mvT hZ (ow hw 117 rfl)) (mvT hZ (ow hw 176 rfl)) (by decide) (own_backOf (W := 0) (rm_asciiAt_3 l Z a0 hw [] n0 h7 O7 x5 kx5 c0_ c1_ c2_ c3_ V7) hZ (ow hw 176 rfl) (ow hw 117 rfl) (by decide) (by decide)) (g := (mkF m 378 #[ci p0, ci p1, cj q2, cs, ci p3, cr x5, ci 1, ci lv_, cj q8_, cs, cr si_, cj (3 : Int64), cs, ci 3, ci cap_, ci 1, ci 1, ci 1, ci 0, ci 3, cu] [(.int 3), (.ref x5)])) rfl (by rw [hml]; rfl) (argsL := [(.ref x5), (.int 3)]) (rest := []) (lenOf pdx_3 rfl) rfl (by show 2 * 0 + _ ≤ _; exact Nat.le_of_eq rfl) (hb hby at_378) (fun _ _ => ⟨rfl, e160q, (by decide : 8 + 0 ≤ _), (by decide : 48 + 0 ≤ _)⟩)
    dsimp only [Pt.U, Pt.locs, Pt.cells, Pt.slots] at X161 l161 y161 z161 st161 hQ161
    subst l161 y161 z161
    obtain ⟨r161, rfl, N161q, e161q, hr161⟩ := hQ161
    have N161 := Fr.app N160 N161q
    refine Ends.go st161 ?_
    show Ends _ _ _ _ T161 (mkF m 381 #[ci p0, ci p1, cj q2, cs, ci p3, cr x5, ci 1, ci lv_, cj q8_, cs, cr si_, cj (3 : Int64), cs, ci 3, ci cap_, ci 1, ci 1, ci 1, ci 0, ci 3, cu] [(.int r161)]) _ _ _
    rcases hr161 with ⟨rfl, hP161⟩ | ⟨rfl, hP161⟩
    ·show Ends _ _ _ _ T161 (mkF m 381 #[ci p0, ci p1, cj q2, cs, ci p3, cr x5, ci 1, ci lv_, cj q8_, cs, cr si_, cj (3 : Int64), cs, ci 3, ci cap_, ci 1, ci 1, ci 1, ci 0, ci 3, cu] [(.int 1)]) _ _ _
     refine win X161 hx hby at_381 ((if0 _ _).trans (feq (by decide : ¬ ((1 : Int32) = (0 : Int32)))).1) ?_
     refine wil X161 hx hby at_384 rfl ?_
     refine wiy (pc := 386) (pc' := 401) X161 hx hby at_386 ((if0 _ _).trans (teq (by decide : (0 : Int32) = (0 : Int32))).1) (by decide) (by decide) ?_
     refine wic X161 hx hby at_401 ?_
     show Ends _ _ _ _ T161 (mkF m 402 #[ci p0, ci p1, cj q2, cs, ci p3, cr x5, ci 1, ci lv_, cj q8_, cs, cr si_, cj (3 : Int64), cs, ci 3, ci cap_, ci 1, ci 1, ci 1, ci 0, ci 3, cu] [(.int 1)]) _ _ _
     refine wgo (pc := 402) (pc' := 406) X161 hx hby at_402 (by decide) (by decide) ?_
     obtain rfl : pl_ = 1 := own_ex1 hasc ⟨hP159, hP160, hP161⟩
     exact J406_1 _ _ _ x5 si_ (1 : Int32) lv_ (3 : Int32) cap_ (1 : Int32) (1 : Int32) (1 : Int32) (0 : Int32) (3 : Int32) (4 : Int32) q8_ (3 : Int64) X161 e161q O7 N161 K7 g_si_ sz_si_ E4 Fb Fp Fa Fd (by decide) (by decide)
    ·show Ends _ _ _ _ T161 (mkF m 381 #[ci p0, ci p1, cj q2, cs, ci p3, cr x5, ci 1, ci lv_, cj q8_, cs, cr si_, cj (3 : Int64), cs, ci 3, ci cap_, ci 1, ci 1, ci 1, ci 0, ci 3, cu] [(.int 0)]) _ _ _
     refine wiy (pc := 381) (pc' := 405) X161 hx hby at_381 ((if0 _ _).trans (teq (by decide : (0 : Int32) = (0 : Int32))).1) (by decide) (by decide) ?_
     refine wic X161 hx hby at_405 ?_
     obtain rfl : pl_ = 0 := own_ex0 hasc (fun q => hP161 q.2.2)
     exact J406_0 _ _ _ x5 si_ (1 : Int32) lv_ (3 : Int32) cap_ (1 : Int32) (1 : Int32) (1 : Int32) (0 : Int32) (3 : Int32) (4 : Int32) q8_ (3 : Int64) X161 e161q O7 N161 K7 g_si_ sz_si_ E4 Fb Fp Fa Fd (by decide) (by decide)
   ·show Ends _ _ _ _ T160 (mkF m 364 #[ci p0, ci p1, cj q2, cs, ci p3, cr x5, ci 1, ci lv_, cj q8_, cs, cr si_, cj (3 : Int64), cs, ci 3, ci cap_, ci 1, ci 1, ci 1, ci 0, ci 3, cu] [(.int 0)]) _ _ _
    refine wiy (pc := 364) (pc' := 405) X160 hx hby at_364 ((if0 _ _).trans (teq (by decide : (0 : Int32) = (0 : Int32))).1) (by decide) (by decide) ?_
    refine wic X160 hx hby at_405 ?_
    obtain rfl : pl_ = 0 := own_ex0 hasc (fun q => hP160 q.2.1)
    exact J406_0 _ _ _ x5 si_ (1 : Int32) lv_ (3 : Int32) cap_ (1 : Int32) (1 : Int32) (1 : Int32) (0 : Int32) (3 : Int32) (4 : Int32) q8_ (3 : Int64) X160 e160q O7 N160 K7 g_si_ sz_si_ E4 Fb Fp Fa Fd (by decide) (by decide)
  ·show Ends _ _ _ _ T159 (mkF m 347 #[ci p0, ci p1, cj q2, cs, ci p3, cr x5, ci 1, ci lv_, cj q8_, cs, cr si_, cj (3 : Int64), cs, ci 3, ci cap_, ci 1, ci 1, ci 1, ci 0, ci 3, cu] [(.int 0)]) _ _ _
   refine wiy (pc := 347) (pc' := 405) X159 hx hby at_347 ((if0 _ _).trans (teq (by decide : (0 : Int32) = (0 : Int32))).1) (by decide) (by decide) ?_
   refine wic X159 hx hby at_405 ?_
   show Ends _ _ _ _ T159 (mkF m 406 #[ci p0, ci p1, cj q2, cs, ci p3, cr x5, ci 1, ci lv_, cj q8_, cs, cr si_, cj (3 : Int64), cs, ci 3, ci cap_, ci 1, ci 1, ci 1, ci 0, ci 3, cu] [(.int 0)]) _ _ _
   obtain rfl : pl_ = 0 := own_ex0 hasc (fun q => hP159 q.1)
   exact J406_0 _ _ _ x5 si_ (1 : Int32) lv_ (3 : Int32) cap_ (1 : Int32) (1 : Int32) (1 : Int32) (0 : Int32) (3 : Int32) (4 : Int32) q8_ (3 : Int64) X159 e159q O7 N159 K7 g_si_ sz_si_ E4 Fb Fp Fa Fd (by decide) (by decide)
 have J290_2_0 : ∀ (T7 : State) (h7 : Heap) (lcs : List Loc) (x5 : Addr) (kx5 : ClassId) (si_ : Addr) (lv_ : Int32) (cap_ : Int32) (pl_ : Int32) (q8_ : Int64) (X7 : Stand p l e room_1 s m #[(.int p0), (.int p1), (.long q2), (.int p3)] below meth c T7 lcs 8 48) (eT7 : T7.heap = h7) (O7 : Old Z n0 h7) (N7 : Fr n0 lcs) (K7 : Keep h0 h7 []) (g_si_ : n0 ≤ si_) (sz_si_ : h0.size ≤ si_) (E4 : Exa Z h7 si_ cSI) (V7 : Arv Z h7 x5 kx5 .char (4 : Int32) [(.int c0_), (.int c1_), (.int c2_), (.int c3_)] (.int 0)) (Fb : Fld Z h7 si_ cSI "base" "I" (.int 0)) (Fp : Fld Z h7 si_ cSI "position" "I" (.int 2)) (Fa : Fld Z h7 si_ cSI "ascii" "Z" (.int pl_)) (Fd : Fld Z h7 si_ "com/example/ratatoskr/ratatoskr/core/internal/Input" "decoded" "Lcom/example/ratatoskr/ratatoskr/core/internal/DecodedChars;" .null) (hasc : ((pl_ = 1 ∧ (True)) ∨ (pl_ = 0 ∧ ¬ (True)))), Ends p e below s T7 (mkF m 290 #[ci p0, ci p1, cj q2, cs, ci p3, cr x5, ci 2, ci lv_, cj q8_, cs, cr si_, cj (0 : Int64), cs, ci 2, ci cap_, ci 0, ci 0, ci 0, ci 0, cu, cu] []) room_1.cells room_1.slots (fun v h L => v = some (.int 1) ∧ Fr n0 L) := by
  intro T7 h7 lcs x5 kx5 si_ lv_ cap_ pl_ q8_ X7 eT7 O7 N7 K7 g_si_ sz_si_ E4 V7 Fb Fp Fa Fd hasc
  show Ends _ _ _ _ T7 (mkF m 290 #[ci p0, ci p1, cj q2, cs, ci p3, cr x5, ci 2, ci lv_, cj q8_, cs, cr si_, cj (0 : Int64), cs, ci 2, ci cap_, ci 0, ci 0, ci 0, ci 0, cu, cu] []) _ _ _
  refine wil X7 hx hby at_290 rfl ?_
  refine wiy (pc := 292) (pc' := 299) X7 hx hby at_292 ((if0 _ _).trans (teq (by decide : (0 : Int32) = (0 : Int32))).1) (by decide) (by decide) ?_
  refine wic X7 hx hby at_299 ?_
  refine wil X7 hx hby at_300 rfl ?_
  show Ends _ _ _ _ T7 (mkF m 302 #[ci p0, ci p1, cj q2, cs, ci p3, cr x5, ci 2, ci lv_, cj q8_, cs, cr si_, cj (0 : Int64), cs, ci 2, ci cap_, ci 0, ci 0, ci 0, ci 0, cu, cu] [(.int 0), (.int 0)]) _ _ _
  refine wiy (pc := 302) (pc' := 309) X7 hx hby at_302 ((if0 _ _).trans (teq (by decide : (0 : Int32) = (0 : Int32))).1) (by decide) (by decide) ?_
  refine wic X7 hx hby at_309 ?_
  refine wia X7 hx hby at_310 ?_
  refine wil X7 hx hby at_311 rfl ?_
  refine wiy (pc := 313) (pc' := 320) X7 hx hby at_313 ((if0 _ _).trans (teq (by decide : (0 : Int32) = (0 : Int32))).1) (by decide) (by decide) ?_
  show Ends _ _ _ _ T7 (mkF m 320 #[ci p0, ci p1, cj q2, cs, ci p3, cr x5, ci 2, ci lv_, cj q8_, cs, cr si_, cj (0 : Int64), cs, ci 2, ci cap_, ci 0, ci 0, ci 0, ci 0, cu, cu] [(.int 0)]) _ _ _
  refine wic X7 hx hby at_320 ?_
  refine wia X7 hx hby at_321 ?_
  refine wil X7 hx hby at_322 rfl ?_
  refine wiy (pc := 324) (pc' := 331) X7 hx hby at_324 ((if0 _ _).trans (teq (by decide : (0 : Int32) = (0 : Int32))).1) (by decide) (by decide) ?_
  refine wic X7 hx hby at_331 ?_
  show Ends _ _ _ _ T7 (mkF m 332 #[ci p0, ci p1, cj q2, cs, ci p3, cr x5, ci 2, ci lv_, cj q8_, cs, cr si_, cj (0 : Int64), cs, ci 2, ci cap_, ci 0, ci 0, ci 0, ci 0, cu, cu] [(.int 0), (.int 0)]) _ _ _
  refine wia X7 hx hby at_332 ?_
  refine wst X7 hx hby at_333 (l' := #[ci p0, ci p1, cj q2, cs, ci p3, cr x5, ci 2, ci lv_, cj q8_, cs, cr si_, cj (0 : Int64), cs, ci 2, ci cap_, ci 0, ci 0, ci 0, ci 0, ci 0, cu]) rfl ?_
  refine wil X7 hx hby at_335 rfl ?_
  refine wiy (pc := 337) (pc' := 350) X7 hx hby at_337 ((if0 _ _).trans (teq (by decide : (0 : Int32) = (0 : Int32))).1) (by decide) (by decide) ?_
  refine wil X7 hx hby at_350 rfl ?_
  show Ends _ _ _ _ T7 (mkF m 352 #[ci p0, ci p1, cj q2, cs, ci p3, cr x5, ci 2, ci lv_, cj q8_, cs, cr si_, cj (0 : Int64), cs, ci 2, ci cap_, ci 0, ci 0, ci 0, ci 0, ci 0, cu] [(.int 0)]) _ _ _
  refine wiy (pc := 352) (pc' := 367) X7 hx hby at_352 ((if0 _ _).trans (teq (by decide : (0 : Int32) = (0 : Int32))).1) (by decide) (by decide) ?_
  refine wil X7 hx hby at_367 rfl ?_
  refine wiy (pc := 369) (pc' := 384) X7 hx hby at_369 ((if0 _ _).trans (teq (by decide : (0 : Int32) = (0 : Int32))).1) (by decide) (by decide) ?_
  refine wil X7 hx hby at_384 rfl ?_
  refine wiy (pc := 386) (pc' := 401) X7 hx hby at_386 ((if0 _ _).trans (teq (by decide : (0 : Int32) = (0 : Int32))).1) (by decide) (by decide) ?_
  show Ends _ _ _ _ T7 (mkF m 401 #[ci p0, ci p1, cj q2, cs, ci p3, cr x5, ci 2, ci lv_, cj q8_, cs, cr si_, cj (0 : Int64), cs, ci 2, ci cap_, ci 0, ci 0, ci 0, ci 0, ci 0, cu] []) _ _ _
  refine wic X7 hx hby at_401 ?_
  refine wgo (pc := 402) (pc' := 406) X7 hx hby at_402 (by decide) (by decide) ?_
  obtain rfl : pl_ = 1 := own_ex1 hasc trivial
  exact J406_1 _ _ _ x5 si_ (2 : Int32) lv_ (2 : Int32) cap_ (0 : Int32) (0 : Int32) (0 : Int32) (0 : Int32) (0 : Int32) (2 : Int32) q8_ (0 : Int64) X7 eT7 O7 N7 K7 g_si_ sz_si_ E4 Fb Fp Fa Fd (by decide) (by decide)
 have J290_2_1 : ∀ (T7 : State) (h7 : Heap) (lcs : List Loc) (x5 : Addr) (kx5 : ClassId) (si_ : Addr) (lv_ : Int32) (cap_ : Int32) (pl_ : Int32) (q8_ : Int64) (X7 : Stand p l e room_1 s m #[(.int p0), (.int p1), (.long q2), (.int p3)] below meth c T7 lcs 8 48) (eT7 : T7.heap = h7) (O7 : Old Z n0 h7) (N7 : Fr n0 lcs) (K7 : Keep h0 h7 []) (g_si_ : n0 ≤ si_) (sz_si_ : h0.size ≤ si_) (E4 : Exa Z h7 si_ cSI) (V7 : Arv Z h7 x5 kx5 .char (4 : Int32) [(.int c0_), (.int c1_), (.int c2_), (.int c3_)] (.int 0)) (Fb : Fld Z h7 si_ cSI "base" "I" (.int 0)) (Fp : Fld Z h7 si_ cSI "position" "I" (.int 3)) (Fa : Fld Z h7 si_ cSI "ascii" "Z" (.int pl_)) (Fd : Fld Z h7 si_ "com/example/ratatoskr/ratatoskr/core/internal/Input" "decoded" "Lcom/example/ratatoskr/ratatoskr/core/internal/DecodedChars;" .null) (hasc : ((pl_ = 1 ∧ (c2_ < (128 : Int32))) ∨ (pl_ = 0 ∧ ¬ (c2_ < (128 : Int32))))), Ends p e below s T7 (mkF m 290 #[ci p0, ci p1, cj q2, cs, ci p3, cr x5, ci 2, ci lv_, cj q8_, cs, cr si_, cj (1 : Int64), cs, ci 2, ci cap_, ci 1, ci 0, ci 0, ci 0, cu, cu] []) room_1.cells room_1.slots (fun v h L => v = some (.int 1) ∧ Fr n0 L) := by
  intro T7 h7 lcs x5 kx5 si_ lv_ cap_ pl_ q8_ X7 eT7 O7 N7 K7 g_si_ sz_si_ E4 V7 Fb Fp Fa Fd hasc
  show Ends _ _ _ _ T7 (mkF m 290 #[ci p0, ci p1, cj q2, cs, ci p3, cr x5, ci 2, ci lv_, cj q8_, cs, cr si_, cj (1 : Int64), cs, ci 2, ci cap_, ci 1, ci 0, ci 0, ci 0, cu, cu] []) _ _ _
  refine wil X7 hx hby at_290 rfl ?_
  refine win X7 hx hby at_292 ((if0 _ _).trans (feq (by decide : ¬ ((1 : Int32) = (0 : Int32)))).1) ?_
  show Ends _ _ _ _ T7 (mkF m 295 #[ci p0, ci p1, cj q2, cs, ci p3, cr x5, ci 2, ci lv_, cj q8_, cs, cr si_, cj (1 : Int64), cs, ci 2, ci cap_, ci 1, ci 0, ci 0, ci 0, cu, cu] []) _ _ _
  refine wic X7 hx hby at_295 ?_
  refine wgo (pc := 296) (pc' := 300) X7 hx hby at_296 (by decide) (by decide) ?_
  refine wil X7 hx hby at_300 rfl ?_
  refine wiy (pc := 302) (pc' := 309) X7 hx hby at_302 ((if0 _ _).trans (teq (by decide : (0 : Int32) = (0 : Int32))).1) (by decide) (by decide) ?_
  refine wic X7 hx hby at_309 ?_
  show Ends _ _ _ _ T7 (mkF m 310 #[ci p0, ci p1, cj q2, cs, ci p3, cr x5, ci 2, ci lv_, cj q8_, cs, cr si_, cj (1 : Int64), cs, ci 2, ci cap_, ci 1, ci 0, ci 0, ci 0, cu, cu] [(.int 0), (.int 1)]) _ _ _
  refine wia X7 hx hby at_310 ?_
  refine wil X7 hx hby at_311 rfl ?_
  refine wiy (pc := 313) (pc' := 320) X7 hx hby at_313 ((if0 _ _).trans (teq (by decide : (0 : Int32) = (0 : Int32))).1) (by decide) (by decide) ?_
  refine wic X7 hx hby at_320 ?_
  refine wia X7 hx hby at_321 ?_
  show Ends _ _ _ _ T7 (mkF m 322 #[ci p0, ci p1, cj q2, cs, ci p3, cr x5, ci 2, ci lv_, cj q8_, cs, cr si_, cj (1 : Int64), cs, ci 2, ci cap_, ci 1, ci 0, ci 0, ci 0, cu, cu] [(.int 1)]) _ _ _
  refine wil X7 hx hby at_322 rfl ?_
  refine wiy (pc := 324) (pc' := 331) X7 hx hby at_324 ((if0 _ _).trans (teq (by decide : (0 : Int32) = (0 : Int32))).1) (by decide) (by decide) ?_
  refine wic X7 hx hby at_331 ?_
  refine wia X7 hx hby at_332 ?_
  refine wst X7 hx hby at_333 (l' := #[ci p0, ci p1, cj q2, cs, ci p3, cr x5, ci 2, ci lv_, cj q8_, cs, cr si_, cj (1 : Int64), cs, ci 2, ci cap_, ci 1, ci 0, ci 0, ci 0, ci 1, cu]) rfl ?_
  show Ends _ _ _ _ T7 (mkF m 335 #[ci p0, ci p1, cj q2, cs, ci p3, cr x5, ci 2, ci lv_, cj q8_, cs, cr si_, cj (1 : Int64), cs, ci 2, ci cap_, ci 1, ci 0, ci 0, ci 0, ci 1, cu] []) _ _ _
  refine wil X7 hx hby at_335 rfl ?_
  refine win X7 hx hby at_337 ((if0 _ _).trans (feq (by decide : ¬ ((1 : Int32) = (0 : Int32)))).1) ?_
  refine wal X7 hx hby at_340 rfl rfl ?_
  refine wil X7 hx hby at_342 rfl ?_
  obtain ⟨_, _, ⟨T162, L162, k162, n162⟩, -, X162, ⟨Lc162, hQ162, l162, y162, z162⟩, st162⟩ := Jvm.LawKit.callS X7 hx (y := ym7) hown (mvT hZ (ow hw 174 rfl)) (mvT hZ (ow hw 175 rfl)) (mvT hZ (ow hw 117 rfl)) (mvT hZ (ow hw 176 rfl)) (by decide) (own_backOf (W := 0) (rm_asciiAt_2 l Z a0 hw [] n0 h7 O7 x5 kx5 c0_ c1_ c2_ c3_ V7) hZ (ow hw 176 rfl) (ow hw 117 rfl) (by decide) (by decide)) (g := (mkF m 344 #[ci p0, ci p1, cj q2, cs, ci p3, cr x5, ci 2, ci lv_, cj q8_, cs, cr si_, cj (1 : Int64), cs, ci 2, ci cap_, ci 1, ci 0, ci 0, ci 0, ci 1, cu] [(.int 2), (.ref x5)])) rfl (by rw [hml]; rfl) (argsL := [(.ref x5), (.int 2)]) (rest := []) (lenOf pdx_3 rfl) rfl (by show 2 * 0 + _ ≤ _; exact Nat.le_of_eq rfl) (hb hby at_344) (fun _ _ => ⟨rfl, eT7, (by decide : 8 + 0 ≤ _), (by decide : 48 + 0 ≤ _)⟩)
  dsimp only [Pt.U, Pt.locs, Pt.cells, Pt.slots] at X162 l162 y162 z162 st162 hQ162
  subst l162 y162 z162
  obtain ⟨r162, rfl, N162q, e162q, hr162⟩ := hQ162
  have N162 := Fr.app N7 N162q
  refine Ends.go st162 ?_
  show Ends _ _ _ _ T162 (mkF m 347 #[ci p0, ci p1, cj q2, cs, ci p3, cr x5, ci 2, ci lv_, cj q8_, cs, cr si_, cj (1 : Int64), cs, ci 2, ci cap_, ci 1, ci 0, ci 0, ci 0, ci 1, cu] [(.int r162)]) _ _ _
  rcases hr162 with ⟨rfl, hP162⟩ | ⟨rfl, hP162⟩
  ·show Ends _ _ _ _ T162 (mkF m 347 #[ci p0, ci p1, cj q2, cs, ci p3, cr x5, ci 2, ci lv_, cj q8_, cs, cr si_, cj (1 : Int64), cs, ci 2, ci cap_, ci 1, ci 0, ci 0, ci 0, ci 1, cu] [(.int 1)]) _ _ _
   refine win X162 hx hby at_347 ((if0 _ _).trans (feq (by decide : ¬ ((1 : Int32) = (0 : Int32)))).1) ?_
   refine wil X162 hx hby at_350 rfl ?_
   refine wiy (pc := 352) (pc' := 367) X162 hx hby at_352 ((if0 _ _).trans (teq (by decide : (0 : Int32) = (0 : Int32))).1) (by decide) (by decide) ?_
   refine wil X162 hx hby at_367 rfl ?_
   show Ends _ _ _ _ T162 (mkF m 369 #[ci p0, ci p1, cj q2, cs, ci p3, cr x5, ci 2, ci lv_, cj q8_, cs, cr si_, cj (1 : Int64), cs, ci 2, ci cap_, ci 1, ci 0, ci 0, ci 0, ci 1, cu] [(.int 0)]) _ _ _
   refine wiy (pc := 369) (pc' := 384) X162 hx hby at_369 ((if0 _ _).trans (teq (by decide : (0 : Int32) = (0 : Int32))).1) (by decide) (by decide) ?_
   refine wil X162 hx hby at_384 rfl ?_
   refine wiy (pc := 386) (pc' := 401) X162 hx hby at_386 ((if0 _ _).trans (teq (by decide : (0 : Int32) = (0 : Int32))).1) (by decide) (by decide) ?_
   refine wic X162 hx hby at_401 ?_
   refine wgo (pc := 402) (pc' := 406) X162 hx hby at_402 (by decide) (by decide) ?_
   show Ends _ _ _ _ T162 (mkF m 406 #[ci p0, ci p1, cj q2, cs, ci p3, cr x5, ci 2, ci lv_, cj q8_, cs, cr si_, cj (1 : Int64), cs, ci 2, ci cap_, ci 1, ci 0, ci 0, ci 0, ci 1, cu] [(.int 1)]) _ _ _
   obtain rfl : pl_ = 1 := own_ex1 hasc hP162
   exact J406_1 _ _ _ x5 si_ (2 : Int32) lv_ (2 : Int32) cap_ (1 : Int32) (0 : Int32) (0 : Int32) (0 : Int32) (1 : Int32) (3 : Int32) q8_ (1 : Int64) X162 e162q O7 N162 K7 g_si_ sz_si_ E4 Fb Fp Fa Fd (by decide) (by decide)
  ·show Ends _ _ _ _ T162 (mkF m 347 #[ci p0, ci p1, cj q2, cs, ci p3, cr x5, ci 2, ci lv_, cj q8_, cs, cr si_, cj (1 : Int64), cs, ci 2, ci cap_, ci 1, ci 0, ci 0, ci 0, ci 1, cu] [(.int 0)]) _ _ _
   refine wiy (pc := 347) (pc' := 405) X162 hx hby at_347 ((if0 _ _).trans (teq (by decide : (0 : Int32) = (0 : Int32))).1) (by decide) (by decide) ?_
   refine wic X162 hx hby at_405 ?_
   obtain rfl : pl_ = 0 := own_ex0 hasc (fun q => hP162 q)
   exact J406_0 _ _ _ x5 si_ (2 : Int32) lv_ (2 : Int32) cap_ (1 : Int32) (0 : Int32) (0 : Int32) (0 : Int32) (1 : Int32) (3 : Int32) q8_ (1 : Int64) X162 e162q O7 N162 K7 g_si_ sz_si_ E4 Fb Fp Fa Fd (by decide) (by decide)
 have J290_2_2 : ∀ (T7 : State) (h7 : Heap) (lcs : List Loc) (x5 : Addr) (kx5 : ClassId) (si_ : Addr) (lv_ : Int32) (cap_ : Int32) (pl_ : Int32) (q8_ : Int64) (X7 : Stand p l e room_1 s m #[(.int p0), (.int p1), (.long q2), (.int p3)] below meth c T7 lcs 8 48) (eT7 : T7.heap = h7) (O7 : Old Z n0 h7) (N7 : Fr n0 lcs) (K7 : Keep h0 h7 []) (g_si_ : n0 ≤ si_) (sz_si_ : h0.size ≤ si_) (E4 : Exa Z h7 si_ cSI) (V7 : Arv Z h7 x5 kx5 .char (4 : Int32) [(.int c0_), (.int c1_), (.int c2_), (.int c3_)] (.int 0)) (Fb : Fld Z h7 si_ cSI "base" "I" (.int 0)) (Fp : Fld Z h7 si_ cSI "position" "I" (.int 4)) (Fa : Fld Z h7 si_ cSI "ascii" "Z" (.int pl_)) (Fd : Fld Z h7 si_ "com/example/ratatoskr/ratatoskr/core/internal/Input" "decoded" "Lcom/example/ratatoskr/ratatoskr/core/internal/DecodedChars;" .null) (hasc : ((pl_ = 1 ∧ (c2_ < (128 : Int32) ∧ c3_ < (128 : Int32))) ∨ (pl_ = 0 ∧ ¬ (c2_ < (128 : Int32) ∧ c3_ < (128 : Int32))))), Ends p e below s T7 (mkF m 290 #[ci p0, ci p1, cj q2, cs, ci p3, cr x5, ci 2, ci lv_, cj q8_, cs, cr si_, cj (2 : Int64), cs, ci 2, ci cap_, ci 1, ci 1, ci 0, ci 0, cu, cu] []) room_1.cells room_1.slots (fun v h L => v = some (.int 1) ∧ Fr n0 L) := by
  intro T7 h7 lcs x5 kx5 si_ lv_ cap_ pl_ q8_ X7 eT7 O7 N7 K7 g_si_ sz_si_ E4 V7 Fb Fp Fa Fd hasc
  show Ends _ _ _ _ T7 (mkF m 290 #[ci p0, ci p1, cj q2, cs, ci p3, cr x5, ci 2, ci lv_, cj q8_, cs, cr si_, cj (2 : Int64), cs, ci 2, ci cap_, ci 1, ci 1, ci 0, ci 0, cu, cu] []) _ _ _
  refine wil X7 hx hby at_290 rfl ?_
  show Ends _ _ _ _ T7 (mkF m 292 #[ci p0, ci p1, cj q2, cs, ci p3, cr x5, ci 2, ci lv_, cj q8_, cs, cr si_, cj (2 : Int64), cs, ci 2, ci cap_, ci 1, ci 1, ci 0, ci 0, cu, cu] [(.int 1)]) _ _ _
  refine win X7 hx hby at_292 ((if0 _ _).trans (feq (by decide : ¬ ((1 : Int32) = (0 : Int32)))).1) ?_
  refine wic X7 hx hby at_295 ?_
  refine wgo (pc := 296) (pc' := 300) X7 hx hby at_296 (by decide) (by decide) ?_
  refine wil X7 hx hby at_300 rfl ?_
  refine win X7 hx hby at_302 ((if0 _ _).trans (feq (by decide : ¬ ((1 : Int32) = (0 : Int32)))).1) ?_
  show Ends _ _ _ _ T7 (mkF m 305 #[ci p0, ci p1, cj q2, cs, ci p3, cr x5, ci 2, ci lv_, cj q8_, cs, cr si_, cj (2 : Int64), cs, ci 2, ci cap_, ci 1, ci 1, ci 0, ci 0, cu, cu] [(.int 1)]) _ _ _
  refine wic X7 hx hby at_305 ?_
  refine wgo (pc := 306) (pc' := 310) X7 hx hby at_306 (by decide) (by decide) ?_
  refine wia X7 hx hby at_310 ?_
  refine wil X7 hx hby at_311 rfl ?_
  refine wiy (pc := 313) (pc' := 320) X7 hx hby at_313 ((if0 _ _).trans (teq (by decide : (0 : Int32) = (0 : Int32))).1) (by decide) (by decide) ?_
  show Ends _ _ _ _ T7 (mkF m 320 #[ci p0, ci p1, cj q2, cs, ci p3, cr x5, ci 2, ci lv_, cj q8_, cs, cr si_, cj (2 : Int64), cs, ci 2, ci cap_, ci 1, ci 1, ci 0, ci 0, cu, cu] [(.int 2)]) _ _ _
  refine wic X7 hx hby at_320 ?_
  refine wia X7 hx hby at_321 ?_
  refine wil X7 hx hby at_322 rfl ?_
  refine wiy (pc := 324) (pc' := 331) X7 hx hby at_324 ((if0 _ _).trans (teq (by decide : (0 : Int32) = (0 : Int32))).1) (by decide) (by decide) ?_
  refine wic X7 hx hby at_331 ?_
  show Ends _ _ _ _ T7 (mkF m 332 #[ci p0, ci p1, cj q2, cs, ci p3, cr x5, ci 2, ci lv_, cj q8_, cs, cr si_, cj (2 : Int64), cs, ci 2, ci cap_, ci 1, ci 1, ci 0, ci 0, cu, cu] [(.int 0), (.int 2)]) _ _ _
  refine wia X7 hx hby at_332 ?_
  refine wst X7 hx hby at_333 (l' := #[ci p0, ci p1, cj q2, cs, ci p3, cr x5, ci 2, ci lv_, cj q8_, cs, cr si_, cj (2 : Int64), cs, ci 2, ci cap_, ci 1, ci 1, ci 0, ci 0, ci 2, cu]) rfl ?_
  refine wil X7 hx hby at_335 rfl ?_
  refine win X7 hx hby at_337 ((if0 _ _).trans (feq (by decide : ¬ ((1 : Int32) = (0 : Int32)))).1) ?_
  refine wal X7 hx hby at_340 rfl rfl ?_
  show Ends _ _ _ _ T7 (mkF m 342 #[ci p0, ci p1, cj q2, cs, ci p3, cr x5, ci 2, ci lv_, cj q8_, cs, cr si_, cj (2 : Int64), cs, ci 2, ci cap_, ci 1, ci 1, ci 0, ci 0, ci 2, cu] [(.ref x5)]) _ _ _
  refine wil X7 hx hby at_342 rfl ?_
  obtain ⟨_, _, ⟨T163, L163, k163, n163⟩, -, X163, ⟨Lc163, hQ163, l163, y163, z163⟩, st163⟩ := Jvm.LawKit.callS X7 hx (y := ym7) hown (mvT hZ (ow hw 174 rfl)) (mvT hZ (ow hw 175 rfl)) (mvT hZ (ow hw 117 rfl)) (mvT hZ (ow hw 176 rfl)) (by decide) (own_backOf (W := 0) (rm_asciiAt_2 l Z a0 hw [] n0 h7 O7 x5 kx5 c0_ c1_ c2_ c3_ V7) hZ (ow hw 176 rfl) (ow hw 117 rfl) (by decide) (by decide)) (g := (mkF m 344 #[ci p0, ci p1, cj q2, cs, ci p3, cr x5, ci 2, ci lv_, cj q8_, cs, cr si_, cj (2 : Int64), cs, ci 2, ci cap_, ci 1, ci 1, ci 0, ci 0, ci 2, cu] [(.int 2), (.ref x5)])) rfl (by rw [hml]; rfl) (argsL := [(.ref x5), (.int 2)]) (rest := []) (lenOf pdx_3 rfl) rfl (by show 2 * 0 + _ ≤ _; exact Nat.le_of_eq rfl) (hb hby at_344) (fun _ _ => ⟨rfl, eT7, (by decide : 8 + 0 ≤ _), (by decide : 48 + 0 ≤ _)⟩)
  dsimp only [Pt.U, Pt.locs, Pt.cells, Pt.slots] at X163 l163 y163 z163 st163 hQ163
  subst l163 y163 z163
  obtain ⟨r163, rfl, N163q, e163q, hr163⟩ := hQ163
  have N163 := Fr.app N7 N163q
  refine Ends.go st163 ?_
  rcases hr163 with ⟨rfl, hP163⟩ | ⟨rfl, hP163⟩
  ·show Ends _ _ _ _ T163 (mkF m 347 #[ci p0, ci p1, cj q2, cs, ci p3, cr x5, ci 2, ci lv_, cj q8_, cs, cr si_, cj (2 : Int64), cs, ci 2, ci cap_, ci 1, ci 1, ci 0, ci 0, ci 2, cu] [(.int 1)]) _ _ _
   refine win X163 hx hby at_347 ((if0 _ _).trans (feq (by decide : ¬ ((1 : Int32) = (0 : Int32)))).1) ?_
   refine wil X163 hx hby at_350 rfl ?_
   show Ends _ _ _ _ T163 (mkF m 352 #[ci p0, ci p1, cj q2, cs, ci p3, cr x5, ci 2, ci lv_, cj q8_, cs, cr si_, cj (2 : Int64), cs, ci 2, ci cap_, ci 1, ci 1, ci 0, ci 0, ci 2, cu] [(.int 1)]) _ _ _
   refine win X163 hx hby at_352 ((if0 _ _).trans (feq (by decide : ¬ ((1 : Int32) = (0 : Int32)))).1) ?_
   refine wal X163 hx hby at_355 rfl rfl ?_
   refine wil X163 hx hby at_357 rfl ?_
   refine wic X163 hx hby at_359 ?_
   refine wia X163 hx hby at_360 ?_
   show Ends _ _ _ _ T163 (mkF m 361 #[ci p0, ci p1, cj q2, cs, ci p3, cr x5, ci 2, ci lv_, cj q8_, cs, cr si_, cj (2 : Int64), cs, ci 2, ci cap_, ci 1, ci 1, ci 0, ci 0, ci 2, cu] [(.int 3), (.ref x5)]) _ _ _
   obtain ⟨_, _, ⟨T164, L164, k164, n164⟩, -, X164, ⟨Lc164, hQ164, l164, y164, z164⟩, st164⟩ := Jvm.LawKit.callS X163 hx (y := ym7) hown (mvT hZ (ow hw 174 rfl)) (mvT hZ (ow hw 175 rfl)) (mvT hZ (ow hw 117 rfl)) (mvT hZ (ow hw 176 rfl)) (by decide) (own_backOf (W := 0) (rm_asciiAt_3 l Z a0 hw [] n0 h7 O7 x5 kx5 c0_ c1_ c2_ c3_ V7) hZ (ow hw 176 rfl) (ow hw 117 rfl) (by decide) (by decide)) (g := (mkF m 361 #[ci p0, ci p1, cj q2, cs, ci p3, cr x5, ci 2, ci lv_, cj q8_, cs, cr si_, cj (2 : Int64), cs, ci 2, ci cap_, ci 1, ci 1, ci 0, ci 0, ci 2, cu] [(.int 3), (.ref x5)])) rfl (by rw [hml]; rfl) (argsL := [(.ref x5), (.int 3)]) (rest := []) (lenOf pdx_3 rfl) rfl (by show 2 * 0 + _ ≤ _; exact Nat.le_of_eq rfl) (hb hby at_361) (fun _ _ => ⟨rfl, e163q, (by decide : 8 + 0 ≤ _), (by decide : 48 + 0 ≤ _)⟩)
   dsimp only [Pt.U, Pt.locs, Pt.cells, Pt.slots] at X164 l164 y164 z164 st164 hQ164
   subst l164 y164 z164
   obtain ⟨r164, rfl, N164q, e164q, hr164⟩ := hQ164
   have N164 := Fr.app N163 N164q
   refine Ends.go st164 ?_
   rcases hr164 with ⟨rfl, hP164⟩ | ⟨rfl, hP164⟩
   ·show Ends _ _ _ _ T164 (mkF m 364 #[ci p0, ci p1, cj q2, cs, ci p3, cr x5, ci 2, ci lv_, cj q8_, cs, cr si_, cj (2 : Int64), cs, ci 2, ci cap_, ci 1, ci 1, ci 0, ci 0, ci 2, cu] [(.int 1)]) _ _ _
    refine win X164 hx hby at_364 ((if0 _ _).trans (feq (by decide : ¬ ((1 : Int32) = (0 : Int32)))).1) ?_
    refine wil X164 hx hby at_367 rfl ?_
    refine wiy (pc := 369) (pc' := 384) X164 hx hby at_369 ((if0 _ _).trans (teq (by decide : (0 : Int32) = (0 : Int32))).1) (by decide) (by decide) ?_
    show Ends _ _ _ _ T164 (mkF m 384 #[ci p0, ci p1, cj q2, cs, ci p3, cr x5, ci 2, ci lv_, cj q8_, cs, cr si_, cj (2 : Int64), cs, ci 2, ci cap_, ci 1, ci 1, ci 0, ci 0, ci 2, cu] []) _ _ _
    refine wil X164 hx hby at_384 rfl ?_
    refine wiy (pc := 386) (pc' := 401) X164 hx hby at_386 ((if0 _ _).trans (teq (by decide : (0 : Int32) = (0 : Int32))).1) (by decide) (by decide) ?_
    refine wic X164 hx hby at_401 ?_
    refine wgo (pc := 402) (pc' := 406) X164 hx hby at_402 (by decide) (by decide) ?_
    obtain rfl : pl_ = 1 := own_ex1 hasc ⟨hP163, hP164⟩
    exact J406_1 _ _ _ x5 si_ (2 : Int32) lv_ (2 : Int32) cap_ (1 : Int32) (1 : Int32) (0 : Int32) (0 : Int32) (2 : Int32) (4 : Int32) q8_ (2 : Int64) X164 e164q O7 N164 K7 g_si_ sz_si_ E4 Fb Fp Fa Fd (by decide) (by decide)
   ·show Ends _ _ _ _ T164 (mkF m 364 #[ci p0, ci p1, cj q2, cs, ci p3, cr x5, ci 2, ci lv_, cj q8_, cs, cr si_, cj (2 : Int64), cs, ci 2, ci cap_, ci 1, ci 1, ci 0, ci 0, ci 2, cu] [(.int 0)]) _ _ _
    refine wiy (pc := 364) (pc' := 405) X164 hx hby at_364 ((if0 _ _).trans (teq (by decide : (0 : Int32) = (0 : Int32))).1) (by decide) (by decide) ?_
    refine wic X164 hx hby at_405 ?_
    obtain rfl : pl_ = 0 := own_ex0 hasc (fun q => hP164 q.2)
    exact J406_0 _ _ _ x5 si_ (2 : Int32) lv_ (2 : Int32) cap_ (1 : Int32) (1 : Int32) (0 : Int32) (0 : Int32) (2 : Int32) (4 : Int32) q8_ (2 : Int64) X164 e164q O7 N164 K7 g_si_ sz_si_ E4 Fb Fp Fa Fd (by decide) (by decide)
  ·show Ends _ _ _ _ T163 (mkF m 347 #[ci p0, ci p1, cj q2, cs, ci p3, cr x5, ci 2, ci lv_, cj q8_, cs, cr si_, cj (2 : Int64), cs, ci 2, ci cap_, ci 1, ci 1, ci 0, ci 0, ci 2, cu] [(.int 0)]) _ _ _
   refine wiy (pc := 347) (pc' := 405) X163 hx hby at_347 ((if0 _ _).trans (teq (by decide : (0 : Int32) = (0 : Int32))).1) (by decide) (by decide) ?_
   refine wic X163 hx hby at_405 ?_
   show Ends _ _ _ _ T163 (mkF m 406 #[ci p0, ci p1, cj q2, cs, ci p3, cr x5, ci 2, ci lv_, cj q8_, cs, cr si_, cj (2 : Int64), cs, ci 2, ci cap_, ci 1, ci 1, ci 0, ci 0, ci 2, cu] [(.int 0)]) _ _ _
   obtain rfl : pl_ = 0 := own_ex0 hasc (fun q => hP163 q.1)
   exact J406_0 _ _ _ x5 si_ (2 : Int32) lv_ (2 : Int32) cap_ (1 : Int32) (1 : Int32) (0 : Int32) (0 : Int32) (2 : Int32) (4 : Int32) q8_ (2 : Int64) X163 e163q O7 N163 K7 g_si_ sz_si_ E4 Fb Fp Fa Fd (by decide) (by decide)
 have J290_3_0 : ∀ (T7 : State) (h7 : Heap) (lcs : List Loc) (x5 : Addr) (kx5 : ClassId) (si_ : Addr) (lv_ : Int32) (cap_ : Int32) (pl_ : Int32) (q8_ : Int64) (X7 : Stand p l e room_1 s m #[(.int p0), (.int p1), (.long q2), (.int p3)] below meth c T7 lcs 8 48) (eT7 : T7.heap = h7) (O7 : Old Z n0 h7) (N7 : Fr n0 lcs) (K7 : Keep h0 h7 []) (g_si_ : n0 ≤ si_) (sz_si_ : h0.size ≤ si_) (E4 : Exa Z h7 si_ cSI) (V7 : Arv Z h7 x5 kx5 .char (4 : Int32) [(.int c0_), (.int c1_), (.int c2_), (.int c3_)] (.int 0)) (Fb : Fld Z h7 si_ cSI "base" "I" (.int 0)) (Fp : Fld Z h7 si_ cSI "position" "I" (.int 3)) (Fa : Fld Z h7 si_ cSI "ascii" "Z" (.int pl_)) (Fd : Fld Z h7 si_ "com/example/ratatoskr/ratatoskr/core/internal/Input" "decoded" "Lcom/example/ratatoskr/ratatoskr/core/internal/DecodedChars;" .null) (hasc : ((pl_ = 1 ∧ (True)) ∨ (pl_ = 0 ∧ ¬ (True)))), Ends p e below s T7 (mkF m 290 #[ci p0, ci p1, cj q2, cs, ci p3, cr x5, ci 3, ci lv_, cj q8_, cs, cr si_, cj (0 : Int64), cs, ci 1, ci cap_, ci 0, ci 0, ci 0, ci 0, cu, cu] []) room_1.cells room_1.slots (fun v h L => v = some (.int 1) ∧ Fr n0 L) := by
  intro T7 h7 lcs x5 kx5 si_ lv_ cap_ pl_ q8_ X7 eT7 O7 N7 K7 g_si_ sz_si_ E4 V7 Fb Fp Fa Fd hasc
  show Ends _ _ _ _ T7 (mkF m 290 #[ci p0, ci p1, cj q2, cs, ci p3, cr x5, ci 3, ci lv_, cj q8_, cs, cr si_, cj (0 : Int64), cs, ci 1, ci cap_, ci 0, ci 0, ci 0, ci 0, cu, cu] []) _ _ _
  refine wil X7 hx hby at_290 rfl ?_
  refine wiy (pc := 292) (pc' := 299) X7 hx hby at_292 ((if0 _ _).trans (teq (by decide : (0 : Int32) = (0 : Int32))).1) (by decide) (by decide) ?_
  refine wic X7 hx hby at_299 ?_
  refine wil X7 hx hby at_300 rfl ?_
  show Ends _ _ _ _ T7 (mkF m 302 #[ci p0, ci p1, cj q2, cs, ci p3, cr x5, ci 3, ci lv_, cj q8_, cs, cr si_, cj (0 : Int64), cs, ci 1, ci cap_, ci 0, ci 0, ci 0, ci 0, cu, cu] [(.int 0), (.int 0)]) _ _ _
  refine wiy (pc := 302) (pc' := 309) X7 hx hby at_302 ((if0 _ _).trans (teq (by decide : (0 : Int32) = (0 : Int32))).1) (by decide) (by decide) ?_
  refine wic X7 hx hby at_309 ?_
  refine wia X7 hx hby at_310 ?_
  refine wil X7 hx hby at_311 rfl ?_
  refine wiy (pc := 313) (pc' := 320) X7 hx hby at_313 ((if0 _ _).trans (teq (by decide : (0 : Int32) = (0 : Int32))).1) (by decide) (by decide) ?_
  show Ends _ _ _ _ T7 (mkF m 320 #[ci p0, ci p1, cj q2, cs, ci p3, cr x5, ci 3, ci lv_, cj q8_, cs, cr si_, cj (0 : Int64), cs, ci 1, ci cap_, ci 0, ci 0, ci 0, ci 0, cu, cu] [(.int 0)]) _ _ _
  refine wic X7 hx hby at_320 ?_
  refine wia X7 hx hby at_321 ?_
  refine wil X7 hx hby at_322 rfl ?_
  refine wiy (pc := 324) (pc' := 331) X7 hx hby at_324 ((if0 _ _).trans (teq (by decide : (0 : Int32) = (0 : Int32))).1) (by decide) (by decide) ?_
  refine wic X7 hx hby at_331 ?_
  show Ends _ _ _ _ T7 (mkF m 332 #[ci p0, ci p1, cj q2, cs, ci p3, cr x5, ci 3, ci lv_, cj q8_, cs, cr si_, cj (0 : Int64), cs, ci 1, ci cap_, ci 0, ci 0, ci 0, ci 0, cu, cu] [(.int 0), (.int 0)]) _ _ _
  refine wia X7 hx hby at_332 ?_
  refine wst X7 hx hby at_333 (l' := #[ci p0, ci p1, cj q2, cs, ci p3, cr x5, ci 3, ci lv_, cj q8_, cs, cr si_, cj (0 : Int64), cs, ci 1, ci cap_, ci 0, ci 0, ci 0, ci 0, ci 0, cu]) rfl ?_
  refine wil X7 hx hby at_335 rfl ?_
  refine wiy (pc := 337) (pc' := 350) X7 hx hby at_337 ((if0 _ _).trans (teq (by decide : (0 : Int32) = (0 : Int32))).1) (by decide) (by decide) ?_
  refine wil X7 hx hby at_350 rfl ?_
  show Ends _ _ _ _ T7 (mkF m 352 #[ci p0, ci p1, cj q2, cs, ci p3, cr x5, ci 3, ci lv_, cj q8_, cs, cr si_, cj (0 : Int64), cs, ci 1, ci cap_, ci 0, ci 0, ci 0, ci 0, ci 0, cu] [(.int 0)]) _ _ _
  refine wiy (pc := 352) (pc' := 367) X7 hx hby at_352 ((if0 _ _).trans (teq (by decide : (0 : Int32) = (0 : Int32))).1) (by decide) (by decide) ?_
  refine wil X7 hx hby at_367 rfl ?_
  refine wiy (pc := 369) (pc' := 384) X7 hx hby at_369 ((if0 _ _).trans (teq (by decide : (0 : Int32) = (0 : Int32))).1) (by decide) (by decide) ?_
  refine wil X7 hx hby at_384 rfl ?_
  refine wiy (pc := 386) (pc' := 401) X7 hx hby at_386 ((if0 _ _).trans (teq (by decide : (0 : Int32) = (0 : Int32))).1) (by decide) (by decide) ?_
  show Ends _ _ _ _ T7 (mkF m 401 #[ci p0, ci p1, cj q2, cs, ci p3, cr x5, ci 3, ci lv_, cj q8_, cs, cr si_, cj (0 : Int64), cs, ci 1, ci cap_, ci 0, ci 0, ci 0, ci 0, ci 0, cu] []) _ _ _
  refine wic X7 hx hby at_401 ?_
  refine wgo (pc := 402) (pc' := 406) X7 hx hby at_402 (by decide) (by decide) ?_
  obtain rfl : pl_ = 1 := own_ex1 hasc trivial
  exact J406_1 _ _ _ x5 si_ (3 : Int32) lv_ (1 : Int32) cap_ (0 : Int32) (0 : Int32) (0 : Int32) (0 : Int32) (0 : Int32) (3 : Int32) q8_ (0 : Int64) X7 eT7 O7 N7 K7 g_si_ sz_si_ E4 Fb Fp Fa Fd (by decide) (by decide)
 have J290_3_1 : ∀ (T7 : State) (h7 : Heap) (lcs : List Loc) (x5 : Addr) (kx5 : ClassId) (si_ : Addr) (lv_ : Int32) (cap_ : Int32) (pl_ : Int32) (q8_ : Int64) (X7 : Stand p l e room_1 s m #[(.int p0), (.int p1), (.long q2), (.int p3)] below meth c T7 lcs 8 48) (eT7 : T7.heap = h7) (O7 : Old Z n0 h7) (N7 : Fr n0 lcs) (K7 : Keep h0 h7 []) (g_si_ : n0 ≤ si_) (sz_si_ : h0.size ≤ si_) (E4 : Exa Z h7 si_ cSI) (V7 : Arv Z h7 x5 kx5 .char (4 : Int32) [(.int c0_), (.int c1_), (.int c2_), (.int c3_)] (.int 0)) (Fb : Fld Z h7 si_ cSI "base" "I" (.int 0)) (Fp : Fld Z h7 si_ cSI "position" "I" (.int 4)) (Fa : Fld Z h7 si_ cSI "ascii" "Z" (.int pl_)) (Fd : Fld Z h7 si_ "com/example/ratatoskr/ratatoskr/core/internal/Input" "decoded" "Lcom/example/ratatoskr/ratatoskr/core/internal/DecodedChars;" .null) (hasc : ((pl_ = 1 ∧ (c3_ < (128 : Int32))) ∨ (pl_ = 0 ∧ ¬ (c3_ < (128 : Int32))))), Ends p e below s T7 (mkF m 290 #[ci p0, ci p1, cj q2, cs, ci p3, cr x5, ci 3, ci lv_, cj q8_, cs, cr si_, cj (1 : Int64), cs, ci 1, ci cap_, ci 1, ci 0, ci 0, ci 0, cu, cu] []) room_1.cells room_1.slots (fun v h L => v = some (.int 1) ∧ Fr n0 L) := by
  intro T7 h7 lcs x5 kx5 si_ lv_ cap_ pl_ q8_ X7 eT7 O7 N7 K7 g_si_ sz_si_ E4 V7 Fb Fp Fa Fd hasc
  show Ends _ _ _ _ T7 (mkF m 290 #[ci p0, ci p1, cj q2, cs, ci p3, cr x5, ci 3, ci lv_, cj q8_, cs, cr si_, cj (1 : Int64), cs, ci 1, ci cap_, ci 1, ci 0, ci 0, ci 0, cu, cu] []) _ _ _
  refine wil X7 hx hby at_290 rfl ?_
  refine win X7 hx hby at_292 ((if0 _ _).trans (feq (by decide : ¬ ((1 : Int32) = (0 : Int32)))).1) ?_
  show Ends _ _ _ _ T7 (mkF m 295 #[ci p0, ci p1, cj q2, cs, ci p3, cr x5, ci 3, ci lv_, cj q8_, cs, cr si_, cj (1 : Int64), cs, ci 1, ci cap_, ci 1, ci 0, ci 0, ci 0, cu, cu] []) _ _ _
  refine wic X7 hx hby at_295 ?_
  refine wgo (pc := 296) (pc' := 300) X7 hx hby at_296 (by decide) (by decide) ?_
  refine wil X7 hx hby at_300 rfl ?_
  refine wiy (pc := 302) (pc' := 309) X7 hx hby at_302 ((if0 _ _).trans (teq (by decide : (0 : Int32) = (0 : Int32))).1) (by decide) (by decide) ?_
  refine wic X7 hx hby at_309 ?_
  show Ends _ _ _ _ T7 (mkF m 310 #[ci p0, ci p1, cj q2, cs, ci p3, cr x5, ci 3, ci lv_, cj q8_, cs, cr si_, cj (1 : Int64), cs, ci 1, ci cap_, ci 1, ci 0, ci 0, ci 0, cu, cu] [(.int 0), (.int 1)]) _ _ _
  refine wia X7 hx hby at_310 ?_
  refine wil X7 hx hby at_311 rfl ?_
  refine wiy (pc := 313) (pc' := 320) X7 hx hby at_313 ((if0 _ _).trans (teq (by decide : (0 : Int32) = (0 : Int32))).1) (by decide) (by decide) ?_
  refine wic X7 hx hby at_320 ?_
  refine wia X7 hx hby at_321 ?_
  show Ends _ _ _ _ T7 (mkF m 322 #[ci p0, ci p1, cj q2, cs, ci p3, cr x5, ci 3, ci lv_, cj q8_, cs, cr si_, cj (1 : Int64), cs, ci 1, ci cap_, ci 1, ci 0, ci 0, ci 0, cu, cu] [(.int 1)]) _ _ _
  refine wil X7 hx hby at_322 rfl ?_
  refine wiy (pc := 324) (pc' := 331) X7 hx hby at_324 ((if0 _ _).trans (teq (by decide : (0 : Int32) = (0 : Int32))).1) (by decide) (by decide) ?_
  refine wic X7 hx hby at_331 ?_
  refine wia X7 hx hby at_332 ?_
  refine wst X7 hx hby at_333 (l' := #[ci p0, ci p1, cj q2, cs, ci p3, cr x5, ci 3, ci lv_, cj q8_, cs, cr si_, cj (1 : Int64), cs, ci 1, ci cap_, ci 1, ci 0, ci 0, ci 0, ci 1, cu]) rfl ?_
  show Ends _ _ _ _ T7 (mkF m 335 #[ci p0, ci p1, cj q2, cs, ci p3, cr x5, ci 3, ci lv_, cj q8_, cs, cr si_, cj (1 : Int64), cs, ci 1, ci cap_, ci 1, ci 0, ci 0, ci 0, ci 1, cu] []) _ _ _
  refine wil X7 hx hby at_335 rfl ?_
  refine win X7 hx hby at_337 ((if0 _ _).trans (feq (by decide : ¬ ((1 : Int32) = (0 : Int32)))).1) ?_
  refine wal X7 hx hby at_340 rfl rfl ?_
  refine wil X7 hx hby at_342 rfl ?_
  obtain ⟨_, _, ⟨T165, L165, k165, n165⟩, -, X165, ⟨Lc165, hQ165, l165, y165, z165⟩, st165⟩ := Jvm.LawKit.callS X7 hx (y := ym7) hown (mvT hZ (ow hw 174 rfl)) (mvT hZ (ow hw 175 rfl)) (mvT hZ (ow hw 117 rfl)) (mvT hZ (ow hw 176 rfl)) (by decide) (own_backOf (W := 0) (rm_asciiAt_3 l Z a0 hw [] n0 h7 O7 x5 kx5 c0_ c1_ c2_ c3_ V7) hZ (ow hw 176 rfl) (ow hw 117 rfl) (by decide) (by decide)) (g := (mkF m 344 #[ci p0, ci p1, cj q2, cs, ci p3, cr x5, ci 3, ci lv_, cj q8_, cs, cr si_, cj (1 : Int64), cs, ci 1, ci cap_, ci 1, ci 0, ci 0, ci 0, ci 1, cu] [(.int 3), (.ref x5)])) rfl (by rw [hml]; rfl) (argsL := [(.ref x5), (.int 3)]) (rest := []) (lenOf pdx_3 rfl) rfl (by show 2 * 0 + _ ≤ _; exact Nat.le_of_eq rfl) (hb hby at_344) (fun _ _ => ⟨rfl, eT7, (by decide : 8 + 0 ≤ _), (by decide : 48 + 0 ≤ _)⟩)
  dsimp only [Pt.U, Pt.locs, Pt.cells, Pt.slots] at X165 l165 y165 z165 st165 hQ165
  subst l165 y165 z165
  obtain ⟨r165, rfl, N165q, e165q, hr165⟩ := hQ165
  have N165 := Fr.app N7 N165q
  refine Ends.go st165 ?_
  show Ends _ _ _ _ T165 (mkF m 347 #[ci p0, ci p1, cj q2, cs, ci p3, cr x5, ci 3, ci lv_, cj q8_, cs, cr si_, cj (1 : Int64), cs, ci 1, ci cap_, ci 1, ci 0, ci 0, ci 0, ci 1, cu] [(.int r165)]) _ _ _
  rcases hr165 with ⟨rfl, hP165⟩ | ⟨rfl, hP165⟩
  ·show Ends _ _ _ _ T165 (mkF m 347 #[ci p0, ci p1, cj q2, cs, ci p3, cr x5, ci 3, ci lv_, cj q8_, cs, cr si_, cj (1 : Int64), cs, ci 1, ci cap_, ci 1, ci 0, ci 0, ci 0, ci 1, cu] [(.int 1)]) _ _ _
   refine win X165 hx hby at_347 ((if0 _ _).trans (feq (by decide : ¬ ((1 : Int32) = (0 : Int32)))).1) ?_
   refine wil X165 hx hby at_350 rfl ?_
   refine wiy (pc := 352) (pc' := 367) X165 hx hby at_352 ((if0 _ _).trans (teq (by decide : (0 : Int32) = (0 : Int32))).1) (by decide) (by decide) ?_
   refine wil X165 hx hby at_367 rfl ?_
   show Ends _ _ _ _ T165 (mkF m 369 #[ci p0, ci p1, cj q2, cs, ci p3, cr x5, ci 3, ci lv_, cj q8_, cs, cr si_, cj (1 : Int64), cs, ci 1, ci cap_, ci 1, ci 0, ci 0, ci 0, ci 1, cu] [(.int 0)]) _ _ _
   refine wiy (pc := 369) (pc' := 384) X165 hx hby at_369 ((if0 _ _).trans (teq (by decide : (0 : Int32) = (0 : Int32))).1) (by decide) (by decide) ?_
   refine wil X165 hx hby at_384 rfl ?_
   refine wiy (pc := 386) (pc' := 401) X165 hx hby at_386 ((if0 _ _).trans (teq (by decide : (0 : Int32) = (0 : Int32))).1) (by decide) (by decide) ?_
   refine wic X165 hx hby at_401 ?_
   refine wgo (pc := 402) (pc' := 406) X165 hx hby at_402 (by decide) (by decide) ?_
   show Ends _ _ _ _ T165 (mkF m 406 #[ci p0, ci p1, cj q2, cs, ci p3, cr x5, ci 3, ci lv_, cj q8_, cs, cr si_, cj (1 : Int64), cs, ci 1, ci cap_, ci 1, ci 0, ci 0, ci 0, ci 1, cu] [(.int 1)]) _ _ _
   obtain rfl : pl_ = 1 := own_ex1 hasc hP165
   exact J406_1 _ _ _ x5 si_ (3 : Int32) lv_ (1 : Int32) cap_ (1 : Int32) (0 : Int32) (0 : Int32) (0 : Int32) (1 : Int32) (4 : Int32) q8_ (1 : Int64) X165 e165q O7 N165 K7 g_si_ sz_si_ E4 Fb Fp Fa Fd (by decide) (by decide)
  ·show Ends _ _ _ _ T165 (mkF m 347 #[ci p0, ci p1, cj q2, cs, ci p3, cr x5, ci 3, ci lv_, cj q8_, cs, cr si_, cj (1 : Int64), cs, ci 1, ci cap_, ci 1, ci 0, ci 0, ci 0, ci 1, cu] [(.int 0)]) _ _ _
   refine wiy (pc := 347) (pc' := 405) X165 hx hby at_347 ((if0 _ _).trans (teq (by decide : (0 : Int32) = (0 : Int32))).1) (by decide) (by decide) ?_
   refine wic X165 hx hby at_405 ?_
   obtain rfl : pl_ = 0 := own_ex0 hasc (fun q => hP165 q)
   exact J406_0 _ _ _ x5 si_ (3 : Int32) lv_ (1 : Int32) cap_ (1 : Int32) (0 : Int32) (0 : Int32) (0 : Int32) (1 : Int32) (4 : Int32) q8_ (1 : Int64) X165 e165q O7 N165 K7 g_si_ sz_si_ E4 Fb Fp Fa Fd (by decide) (by decide)
 have J290_4_0 : ∀ (T7 : State) (h7 : Heap) (lcs : List Loc) (x5 : Addr) (kx5 : ClassId) (si_ : Addr) (lv_ : Int32) (cap_ : Int32) (pl_ : Int32) (q8_ : Int64) (X7 : Stand p l e room_1 s m #[(.int p0), (.int p1), (.long q2), (.int p3)] below meth c T7 lcs 8 48) (eT7 : T7.heap = h7) (O7 : Old Z n0 h7) (N7 : Fr n0 lcs) (K7 : Keep h0 h7 []) (g_si_ : n0 ≤ si_) (sz_si_ : h0.size ≤ si_) (E4 : Exa Z h7 si_ cSI) (V7 : Arv Z h7 x5 kx5 .char (4 : Int32) [(.int c0_), (.int c1_), (.int c2_), (.int c3_)] (.int 0)) (Fb : Fld Z h7 si_ cSI "base" "I" (.int 0)) (Fp : Fld Z h7 si_ cSI "position" "I" (.int 4)) (Fa : Fld Z h7 si_ cSI "ascii" "Z" (.int pl_)) (Fd : Fld Z h7 si_ "com/example/ratatoskr/ratatoskr/core/internal/Input" "decoded" "Lcom/example/ratatoskr/ratatoskr/core/internal/DecodedChars;" .null) (hasc : ((pl_ = 1 ∧ (True)) ∨ (pl_ = 0 ∧ ¬ (True)))), Ends p e below s T7 (mkF m 290 #[ci p0, ci p1, cj q2, cs, ci p3, cr x5, ci 4, ci lv_, cj q8_, cs, cr si_, cj (0 : Int64), cs, ci 0, ci cap_, ci 0, ci 0, ci 0, ci 0, cu, cu] []) room_1.cells room_1.slots (fun v h L => v = some (.int 1) ∧ Fr n0 L) := by
  intro T7 h7 lcs x5 kx5 si_ lv_ cap_ pl_ q8_ X7 eT7 O7 N7 K7 g_si_ sz_si_ E4 V7 Fb Fp Fa Fd hasc
  show Ends _ _ _ _ T7 (mkF m 290 #[ci p0, ci p1, cj q2, cs, ci p3, cr x5, ci 4, ci lv_, cj q8_, cs, cr si_, cj (0 : Int64), cs, ci 0, ci cap_, ci 0, ci 0, ci 0, ci 0, cu, cu] []) _ _ _
  refine wil X7 hx hby at_290 rfl ?_
  show Ends _ _ _ _ T7 (mkF m 292 #[ci p0, ci p1, cj q2, cs, ci p3, cr x5, ci 4, ci lv_, cj q8_, cs, cr si_, cj (0 : Int64), cs, ci 0, ci cap_, ci 0, ci 0, ci 0, ci 0, cu, cu] [(.int 0)]) _ _ _
  refine wiy (pc := 292) (pc' := 299) X7 hx hby at_292 ((if0 _ _).trans (teq (by decide : (0 : Int32) = (0 : Int32))).1) (by decide) (by decide) ?_
  refine wic X7 hx hby at_299 ?_
  refine wil X7 hx hby at_300 rfl ?_
  refine wiy (pc := 302) (pc' := 309) X7 hx hby at_302 ((if0 _ _).trans (teq (by decide : (0 : Int32) = (0 : Int32))).1) (by decide) (by decide) ?_
  refine wic X7 hx hby at_309 ?_
  show Ends _ _ _ _ T7 (mkF m 310 #[ci p0, ci p1, cj q2, cs, ci p3, cr x5, ci 4, ci lv_, cj q8_, cs, cr si_, cj (0 : Int64), cs, ci 0, ci cap_, ci 0, ci 0, ci 0, ci 0, cu, cu] [(.int 0), (.int 0)]) _ _ _
  refine wia X7 hx hby at_310 ?_
  refine wil X7 hx hby at_311 rfl ?_
  refine wiy (pc := 313) (pc' := 320) X7 hx hby at_313 ((if0 _ _).trans (teq (by decide : (0 : Int32) = (0 : Int32))).1) (by decide) (by decide) ?_
  refine wic X7 hx hby at_320 ?_
  refine wia X7 hx hby at_321 ?_
  show Ends _ _ _ _ T7 (mkF m 322 #[ci p0, ci p1, cj q2, cs, ci p3, cr x5, ci 4, ci lv_, cj q8_, cs, cr si_, cj (0 : Int64), cs, ci 0, ci cap_, ci 0, ci 0, ci 0, ci 0, cu, cu] [(.int 0)]) _ _ _
  refine wil X7 hx hby at_322 rfl ?_
  refine wiy (pc := 324) (pc' := 331) X7 hx hby at_324 ((if0 _ _).trans (teq (by decide : (0 : Int32) = (0 : Int32))).1) (by decide) (by decide) ?_
  refine wic X7 hx hby at_331 ?_
  refine wia X7 hx hby at_332 ?_
  refine wst X7 hx hby at_333 (l' := #[ci p0, ci p1, cj q2, cs, ci p3, cr x5, ci 4, ci lv_, cj q8_, cs, cr si_, cj (0 : Int64), cs, ci 0, ci cap_, ci 0, ci 0, ci 0, ci 0, ci 0, cu]) rfl ?_
  show Ends _ _ _ _ T7 (mkF m 335 #[ci p0, ci p1, cj q2, cs, ci p3, cr x5, ci 4, ci lv_, cj q8_, cs, cr si_, cj (0 : Int64), cs, ci 0, ci cap_, ci 0, ci 0, ci 0, ci 0, ci 0, cu] []) _ _ _
  refine wil X7 hx hby at_335 rfl ?_
  refine wiy (pc := 337) (pc' := 350) X7 hx hby at_337 ((if0 _ _).trans (teq (by decide : (0 : Int32) = (0 : Int32))).1) (by decide) (by decide) ?_
  refine wil X7 hx hby at_350 rfl ?_
  refine wiy (pc := 352) (pc' := 367) X7 hx hby at_352 ((if0 _ _).trans (teq (by decide : (0 : Int32) = (0 : Int32))).1) (by decide) (by decide) ?_
  refine wil X7 hx hby at_367 rfl ?_
  show Ends _ _ _ _ T7 (mkF m 369 #[ci p0, ci p1, cj q2, cs, ci p3, cr x5, ci 4, ci lv_, cj q8_, cs, cr si_, cj (0 : Int64), cs, ci 0, ci cap_, ci 0, ci 0, ci 0, ci 0, ci 0, cu] [(.int 0)]) _ _ _
  refine wiy (pc := 369) (pc' := 384) X7 hx hby at_369 ((if0 _ _).trans (teq (by decide : (0 : Int32) = (0 : Int32))).1) (by decide) (by decide) ?_
  refine wil X7 hx hby at_384 rfl ?_
  refine wiy (pc := 386) (pc' := 401) X7 hx hby at_386 ((if0 _ _).trans (teq (by decide : (0 : Int32) = (0 : Int32))).1) (by decide) (by decide) ?_
  refine wic X7 hx hby at_401 ?_
  refine wgo (pc := 402) (pc' := 406) X7 hx hby at_402 (by decide) (by decide) ?_
  show Ends _ _ _ _ T7 (mkF m 406 #[ci p0, ci p1, cj q2, cs, ci p3, cr x5, ci 4, ci lv_, cj q8_, cs, cr si_, cj (0 : Int64), cs, ci 0, ci cap_, ci 0, ci 0, ci 0, ci 0, ci 0, cu] [(.int 1)]) _ _ _
  obtain rfl : pl_ = 1 := own_ex1 hasc trivial
  exact J406_1 _ _ _ x5 si_ (4 : Int32) lv_ (0 : Int32) cap_ (0 : Int32) (0 : Int32) (0 : Int32) (0 : Int32) (0 : Int32) (4 : Int32) q8_ (0 : Int64) X7 eT7 O7 N7 K7 g_si_ sz_si_ E4 Fb Fp Fa Fd (by decide) (by decide)
 have J177_0 : ∀ (T6 : State) (h6 : Heap) (lcs : List Loc) (x5 : Addr) (kx5 : ClassId) (si_ : Addr) (lv_ : Int32) (cap_ : Int32) (pl_ : Int32) (n_ : Int32) (p_ : Int32) (q8_ : Int64) (g_ : Int64) (X6 : Stand p l e room_1 s m #[(.int p0), (.int p1), (.long q2), (.int p3)] below meth c T6 lcs 8 48) (eT6 : T6.heap = h6) (O6 : Old Z n0 h6) (N6 : Fr n0 lcs) (K6 : Keep h0 h6 []) (g_si_ : n0 ≤ si_) (sz_si_ : h0.size ≤ si_) (E4 : Exa Z h6 si_ cSI) (V6 : Arv Z h6 x5 kx5 .char (4 : Int32) [(.int c0_), (.int c1_), (.int c2_), (.int c3_)] (.int 0)) (Fb : Fld Z h6 si_ cSI "base" "I" (.int 0)) (Fp : Fld Z h6 si_ cSI "position" "I" (.int p_)) (Fa : Fld Z h6 si_ cSI "ascii" "Z" (.int pl_)) (Fd : Fld Z h6 si_ "com/example/ratatoskr/ratatoskr/core/internal/Input" "decoded" "Lcom/example/ratatoskr/ratatoskr/core/internal/DecodedChars;" .null) (hg : g_ = n_.toInt64) (hp : p_ = (0 : Int32) + n_) (hcb : cap_.toInt ≤ 4) (hR : (n_ = 0 ∧ (cap_ < 1 ∨ ¬ own_pl c0_) ∧ ((pl_ = 1 ∧ (True)) ∨ (pl_ = 0 ∧ ¬ (True)))) ∨ (n_ = 1 ∧ (¬ cap_ < 1 ∧ own_pl c0_) ∧ (cap_ < 2 ∨ ¬ own_pl c1_) ∧ ((pl_ = 1 ∧ (c0_ < (128 : Int32))) ∨ (pl_ = 0 ∧ ¬ (c0_ < (128 : Int32))))) ∨ (n_ = 2 ∧ (¬ cap_ < 1 ∧ own_pl c0_) ∧ (¬ cap_ < 2 ∧ own_pl c1_) ∧ (cap_ < 3 ∨ ¬ own_pl c2_) ∧ ((pl_ = 1 ∧ (c0_ < (128 : Int32) ∧ c1_ < (128 : Int32))) ∨ (pl_ = 0 ∧ ¬ (c0_ < (128 : Int32) ∧ c1_ < (128 : Int32))))) ∨ (n_ = 3 ∧ (¬ cap_ < 1 ∧ own_pl c0_) ∧ (¬ cap_ < 2 ∧ own_pl c1_) ∧ (¬ cap_ < 3 ∧ own_pl c2_) ∧ (cap_ < 4 ∨ ¬ own_pl c3_) ∧ ((pl_ = 1 ∧ (c0_ < (128 : Int32) ∧ c1_ < (128 : Int32) ∧ c2_ < (128 : Int32))) ∨ (pl_ = 0 ∧ ¬ (c0_ < (128 : Int32) ∧ c1_ < (128 : Int32) ∧ c2_ < (128 : Int32))))) ∨ (n_ = 4 ∧ (¬ cap_ < 1 ∧ own_pl c0_) ∧ (¬ cap_ < 2 ∧ own_pl c1_) ∧ (¬ cap_ < 3 ∧ own_pl c2_) ∧ (¬ cap_ < 4 ∧ own_pl c3_) ∧ ((pl_ = 1 ∧ (c0_ < (128 : Int32) ∧ c1_ < (128 : Int32) ∧ c2_ < (128 : Int32) ∧ c3_ < (128 : Int32))) ∨ (pl_ = 0 ∧ ¬ (c0_ < (128 : Int32) ∧ c1_ < (128 : Int32) ∧ c2_ < (128 : Int32) ∧ c3_ < (128 : Int32)))))), Ends p e below s T6 (mkF m 177 #[ci p0, ci p1, cj q2, cs, ci p3, cr x5, ci 0, ci lv_, cj q8_, cs, cr si_, cj g_, cs, ci 4, ci cap_, cu, cu, cu, cu, cu, cu] []) room_1.cells room_1.slots (fun v h L => v = some (.int 1) ∧ Fr n0 L) := by
  intro T6 h6 lcs x5 kx5 si_ lv_ cap_ pl_ n_ p_ q8_ g_ X6 eT6 O6 N6 K6 g_si_ sz_si_ E4 V6 Fb Fp Fa Fd hg hp hcb hR
  show Ends _ _ _ _ T6 (mkF m 177 #[ci p0, ci p1, cj q2, cs, ci p3, cr x5, ci 0, ci lv_, cj q8_, cs, cr si_, cj g_, cs, ci 4, ci cap_, cu, cu, cu, cu, cu, cu] []) _ _ _
  refine wil X6 hx hby at_177 rfl ?_
  refine wic X6 hx hby at_179 ?_
  by_cases hc180_166 : cap_ < (1 : Int32)
  ·refine wcy (pc := 180) (pc' := 197) X6 hx hby at_180 (tlt hc180_166).1 (by decide) (by decide) ?_
   refine wic X6 hx hby at_197 ?_
   show Ends _ _ _ _ T6 (mkF m 198 #[ci p0, ci p1, cj q2, cs, ci p3, cr x5, ci 0, ci lv_, cj q8_, cs, cr si_, cj g_, cs, ci 4, ci cap_, cu, cu, cu, cu, cu, cu] [(.int 0)]) _ _ _
   refine wst X6 hx hby at_198 (l' := #[ci p0, ci p1, cj q2, cs, ci p3, cr x5, ci 0, ci lv_, cj q8_, cs, cr si_, cj g_, cs, ci 4, ci cap_, ci 0, cu, cu, cu, cu, cu]) rfl ?_
   refine wil X6 hx hby at_200 rfl ?_
   refine wiy (pc := 202) (pc' := 227) X6 hx hby at_202 ((if0 _ _).trans (teq (by decide : (0 : Int32) = (0 : Int32))).1) (by decide) (by decide) ?_
   refine wic X6 hx hby at_227 ?_
   refine wst X6 hx hby at_228 (l' := #[ci p0, ci p1, cj q2, cs, ci p3, cr x5, ci 0, ci lv_, cj q8_, cs, cr si_, cj g_, cs, ci 4, ci cap_, ci 0, ci 0, cu, cu, cu, cu]) rfl ?_
   show Ends _ _ _ _ T6 (mkF m 230 #[ci p0, ci p1, cj q2, cs, ci p3, cr x5, ci 0, ci lv_, cj q8_, cs, cr si_, cj g_, cs, ci 4, ci cap_, ci 0, ci 0, cu, cu, cu, cu] []) _ _ _
   refine wil X6 hx hby at_230 rfl ?_
   refine wiy (pc := 232) (pc' := 257) X6 hx hby at_232 ((if0 _ _).trans (teq (by decide : (0 : Int32) = (0 : Int32))).1) (by decide) (by decide) ?_
   refine wic X6 hx hby at_257 ?_
   refine wst X6 hx hby at_258 (l' := #[ci p0, ci p1, cj q2, cs, ci p3, cr x5, ci 0, ci lv_, cj q8_, cs, cr si_, cj g_, cs, ci 4, ci cap_, ci 0, ci 0, ci 0, cu, cu, cu]) rfl ?_
   refine wil X6 hx hby at_260 rfl ?_
   show Ends _ _ _ _ T6 (mkF m 262 #[ci p0, ci p1, cj q2, cs, ci p3, cr x5, ci 0, ci lv_, cj q8_, cs, cr si_, cj g_, cs, ci 4, ci cap_, ci 0, ci 0, ci 0, cu, cu, cu] [(.int 0)]) _ _ _
   refine wiy (pc := 262) (pc' := 287) X6 hx hby at_262 ((if0 _ _).trans (teq (by decide : (0 : Int32) = (0 : Int32))).1) (by decide) (by decide) ?_
   refine wic X6 hx hby at_287 ?_
   refine wst X6 hx hby at_288 (l' := #[ci p0, ci p1, cj q2, cs, ci p3, cr x5, ci 0, ci lv_, cj q8_, cs, cr si_, cj g_, cs, ci 4, ci cap_, ci 0, ci 0, ci 0, ci 0, cu, cu]) rfl ?_
   obtain ⟨rfl, hasc_⟩ : n_ = 0 ∧ ((pl_ = 1 ∧ (True)) ∨ (pl_ = 0 ∧ ¬ (True))) := hR.elim (fun d => ⟨d.1, d.2.2⟩) (fun o1 => o1.elim (fun d => absurd d.2.1.1 (Classical.not_not.mpr hc180_166)) (fun o2 => o2.elim (fun d => absurd d.2.1.1 (Classical.not_not.mpr hc180_166)) (fun o3 => o3.elim (fun d => absurd d.2.1.1 (Classical.not_not.mpr hc180_166)) (fun d => absurd d.2.1.1 (Classical.not_not.mpr hc180_166)))))
   obtain rfl : g_ = (0 : Int64) := hg.trans (by decide)
   obtain rfl : p_ = (0 : Int32) := hp.trans (by decide)
   exact J290_0_0 _ _ _ x5 kx5 si_ lv_ cap_ pl_ q8_ X6 eT6 O6 N6 K6 g_si_ sz_si_ E4 V6 Fb Fp Fa Fd hasc_
  ·refine wcn X6 hx hby at_180 (flt hc180_166).1 ?_
   refine wal X6 hx hby at_183 rfl rfl ?_
   show Ends _ _ _ _ T6 (mkF m 185 #[ci p0, ci p1, cj q2, cs, ci p3, cr x5, ci 0, ci lv_, cj q8_, cs, cr si_, cj g_, cs, ci 4, ci cap_, cu, cu, cu, cu, cu, cu] [(.ref x5)]) _ _ _
   refine wil X6 hx hby at_185 rfl ?_
   obtain ⟨_, _, ⟨T167, L167, k167, n167⟩, -, X167, ⟨Lc167, hQ167, l167, y167, z167⟩, st167⟩ := Jvm.LawKit.callS X6 hx (y := ym6) hown (mvT hZ (ow hw 115 rfl)) (mvT hZ (ow hw 116 rfl)) (mvT hZ (ow hw 117 rfl)) (mvT hZ (ow hw 118 rfl)) (by decide) (own_backOf (W := 0) (rm_plainAt_0 l Z a0 hw [] n0 h6 O6 x5 kx5 c0_ c1_ c2_ c3_ V6) hZ (ow hw 118 rfl) (ow hw 117 rfl) (by decide) (by decide)) (g := (mkF m 187 #[ci p0, ci p1, cj q2, cs, ci p3, cr x5, ci 0, ci lv_, cj q8_, cs, cr si_, cj g_, cs, ci 4, ci cap_, cu, cu, cu, cu, cu, cu] [(.int 0), (.ref x5)])) rfl (by rw [hml]; rfl) (argsL := [(.ref x5), (.int 0)]) (rest := []) (lenOf pdx_3 rfl) rfl (by show 2 * 0 + _ ≤ _; exact Nat.le_of_eq rfl) (hb hby at_187) (fun _ _ => ⟨rfl, eT6, (by decide : 8 + 0 ≤ _), (by decide : 48 + 0 ≤ _)⟩)
   dsimp only [Pt.U, Pt.locs, Pt.cells, Pt.slots] at X167 l167 y167 z167 st167 hQ167
   subst l167 y167 z167
   obtain ⟨r167, rfl, N167q, e167q, hr167⟩ := hQ167
   have N167 := Fr.app N6 N167q
   refine Ends.go st167 ?_
   rcases hr167 with ⟨rfl, hP167⟩ | ⟨rfl, hP167⟩
   ·show Ends _ _ _ _ T167 (mkF m 190 #[ci p0, ci p1, cj q2, cs, ci p3, cr x5, ci 0, ci lv_, cj q8_, cs, cr si_, cj g_, cs, ci 4, ci cap_, cu, cu, cu, cu, cu, cu] [(.int 1)]) _ _ _
    refine win X167 hx hby at_190 ((if0 _ _).trans (feq (by decide : ¬ ((1 : Int32) = (0 : Int32)))).1) ?_
    refine wic X167 hx hby at_193 ?_
    show Ends _ _ _ _ T167 (mkF m 194 #[ci p0, ci p1, cj q2, cs, ci p3, cr x5, ci 0, ci lv_, cj q8_, cs, cr si_, cj g_, cs, ci 4, ci cap_, cu, cu, cu, cu, cu, cu] [(.int 1)]) _ _ _
    refine wgo (pc := 194) (pc' := 198) X167 hx hby at_194 (by decide) (by decide) ?_
    refine wst X167 hx hby at_198 (l' := #[ci p0, ci p1, cj q2, cs, ci p3, cr x5, ci 0, ci lv_, cj q8_, cs, cr si_, cj g_, cs, ci 4, ci cap_, ci 1, cu, cu, cu, cu, cu]) rfl ?_
    refine wil X167 hx hby at_200 rfl ?_
    refine win X167 hx hby at_202 ((if0 _ _).trans (feq (by decide : ¬ ((1 : Int32) = (0 : Int32)))).1) ?_
    refine wil X167 hx hby at_205 rfl ?_
    show Ends _ _ _ _ T167 (mkF m 207 #[ci p0, ci p1, cj q2, cs, ci p3, cr x5, ci 0, ci lv_, cj q8_, cs, cr si_, cj g_, cs, ci 4, ci cap_, ci 1, cu, cu, cu, cu, cu] [(.int cap_)]) _ _ _
    refine wic X167 hx hby at_207 ?_
    by_cases hc208_168 : cap_ < (2 : Int32)
    ·refine wcy (pc := 208) (pc' := 227) X167 hx hby at_208 (tlt hc208_168).1 (by decide) (by decide) ?_
     refine wic X167 hx hby at_227 ?_
     refine wst X167 hx hby at_228 (l' := #[ci p0, ci p1, cj q2, cs, ci p3, cr x5, ci 0, ci lv_, cj q8_, cs, cr si_, cj g_, cs, ci 4, ci cap_, ci 1, ci 0, cu, cu, cu, cu]) rfl ?_
     refine wil X167 hx hby at_230 rfl ?_
     show Ends _ _ _ _ T167 (mkF m 232 #[ci p0, ci p1, cj q2, cs, ci p3, cr x5, ci 0, ci lv_, cj q8_, cs, cr si_, cj g_, cs, ci 4, ci cap_, ci 1, ci 0, cu, cu, cu, cu] [(.int 0)]) _ _ _
     refine wiy (pc := 232) (pc' := 257) X167 hx hby at_232 ((if0 _ _).trans (teq (by decide : (0 : Int32) = (0 : Int32))).1) (by decide) (by decide) ?_
     refine wic X167 hx hby at_257 ?_
     refine wst X167 hx hby at_258 (l' := #[ci p0, ci p1, cj q2, cs, ci p3, cr x5, ci 0, ci lv_, cj q8_, cs, cr si_, cj g_, cs, ci 4, ci cap_, ci 1, ci 0, ci 0, cu, cu, cu]) rfl ?_
     refine wil X167 hx hby at_260 rfl ?_
     refine wiy (pc := 262) (pc' := 287) X167 hx hby at_262 ((if0 _ _).trans (teq (by decide : (0 : Int32) = (0 : Int32))).1) (by decide) (by decide) ?_
     show Ends _ _ _ _ T167 (mkF m 287 #[ci p0, ci p1, cj q2, cs, ci p3, cr x5, ci 0, ci lv_, cj q8_, cs, cr si_, cj g_, cs, ci 4, ci cap_, ci 1, ci 0, ci 0, cu, cu, cu] []) _ _ _
     refine wic X167 hx hby at_287 ?_
     refine wst X167 hx hby at_288 (l' := #[ci p0, ci p1, cj q2, cs, ci p3, cr x5, ci 0, ci lv_, cj q8_, cs, cr si_, cj g_, cs, ci 4, ci cap_, ci 1, ci 0, ci 0, ci 0, cu, cu]) rfl ?_
     obtain ⟨rfl, hasc_⟩ : n_ = 1 ∧ ((pl_ = 1 ∧ (c0_ < (128 : Int32))) ∨ (pl_ = 0 ∧ ¬ (c0_ < (128 : Int32)))) := hR.elim (fun d => d.2.1.elim (fun z => absurd z hc180_166) (fun z => absurd hP167 z)) (fun o1 => o1.elim (fun d => ⟨d.1, d.2.2.2⟩) (fun o2 => o2.elim (fun d => absurd d.2.2.1.1 (Classical.not_not.mpr hc208_168)) (fun o3 => o3.elim (fun d => absurd d.2.2.1.1 (Classical.not_not.mpr hc208_168)) (fun d => absurd d.2.2.1.1 (Classical.not_not.mpr hc208_168)))))
     obtain rfl : g_ = (1 : Int64) := hg.trans (by decide)
     obtain rfl : p_ = (1 : Int32) := hp.trans (by decide)
     exact J290_0_1 _ _ _ x5 kx5 si_ lv_ cap_ pl_ q8_ X167 e167q O6 N167 K6 g_si_ sz_si_ E4 V6 Fb Fp Fa Fd hasc_
    ·refine wcn X167 hx hby at_208 (flt hc208_168).1 ?_
     refine wal X167 hx hby at_211 rfl rfl ?_
     refine wil X167 hx hby at_213 rfl ?_
     show Ends _ _ _ _ T167 (mkF m 215 #[ci p0, ci p1, cj q2, cs, ci p3, cr x5, ci 0, ci lv_, cj q8_, cs, cr si_, cj g_, cs, ci 4, ci cap_, ci 1, cu, cu, cu, cu, cu] [(.int 0), (.ref x5)]) _ _ _
     refine wic X167 hx hby at_215 ?_
     refine wia X167 hx hby at_216 ?_
     obtain ⟨_, _, ⟨T169, L169, k169, n169⟩, -, X169, ⟨Lc169, hQ169, l169, y169, z169⟩, st169⟩ := Jvm.LawKit.callS X167 hx (y := ym6) hown (mvT hZ (ow hw 115 rfl)) (mvT hZ (ow hw 116 rfl)) (mvT hZ (ow hw 117 rfl)) (mvT hZ (ow hw 118 rfl)) (by decide) (own_backOf (W := 0) (rm_plainAt_1 l Z a0 hw [] n0 h6 O6 x5 kx5 c0_ c1_ c2_ c3_ V6) hZ (ow hw 118 rfl) (ow hw 117 rfl) (by decide) (by decide)) (g := (mkF m 217 #[ci p0, ci p1, cj q2, cs, ci p3, cr x5, ci 0, ci lv_, cj q8_, cs, cr si_, cj g_, cs, ci 4, ci cap_, ci 1, cu, cu, cu, cu, cu] [(.int 1), (.ref x5)])) rfl (by rw [hml]; rfl) (argsL := [(.ref x5), (.int 1)]) (rest := []) (lenOf pdx_3 rfl) rfl (by show 2 * 0 + _ ≤ _; exact Nat.le_of_eq rfl) (hb hby at_217) (fun _ _ => ⟨rfl, e167q, (by decide : 8 + 0 ≤ _), (by decide : 48 + 0 ≤ _)⟩)
     dsimp only [Pt.U, Pt.locs, Pt.cells, Pt.slots] at X169 l169 y169 z169 st169 hQ169
     subst l169 y169 z169
     obtain ⟨r169, rfl, N169q, e169q, hr169⟩ := hQ169
     have N169 := Fr.app N167 N169q
     refine Ends.go st169 ?_
     rcases hr169 with ⟨rfl, hP169⟩ | ⟨rfl, hP169⟩
     ·show Ends _ _ _ _ T169 (mkF m 220 #[ci p0, ci p1, cj q2, cs, ci p3, cr x5, ci 0, ci lv_, cj q8_, cs, cr si_, cj g_, cs, ci 4, ci cap_, ci 1, cu, cu, cu, cu, cu] [(.int 1)]) _ _ _
      refine win X169 hx hby at_220 ((if0 _ _).trans (feq (by decide : ¬ ((1 : Int32) = (0 : Int32)))).1) ?_
      show Ends _ _ _ _ T169 (mkF m 223 #[ci p0, ci p1, cj q2, cs, ci p3, cr x5, ci 0, ci lv_, cj q8_, cs, cr si_, cj g_, cs, ci 4, ci cap_, ci 1, cu, cu, cu, cu, cu] []) _ _ _
      refine wic X169 hx hby at_223 ?_
      refine wgo (pc := 224) (pc' := 228) X169 hx hby at_224 (by decide) (by decide) ?_
      refine wst X169 hx hby at_228 (l' := #[ci p0, ci p1, cj q2, cs, ci p3, cr x5, ci 0, ci lv_, cj q8_, cs, cr si_, cj g_, cs, ci 4, ci cap_, ci 1, ci 1, cu, cu, cu, cu]) rfl ?_
      refine wil X169 hx hby at_230 rfl ?_
      refine win X169 hx hby at_232 ((if0 _ _).trans (feq (by decide : ¬ ((1 : Int32) = (0 : Int32)))).1) ?_
      show Ends _ _ _ _ T169 (mkF m 235 #[ci p0, ci p1, cj q2, cs, ci p3, cr x5, ci 0, ci lv_, cj q8_, cs, cr si_, cj g_, cs, ci 4, ci cap_, ci 1, ci 1, cu, cu, cu, cu] []) _ _ _
      refine wil X169 hx hby at_235 rfl ?_
      refine wic X169 hx hby at_237 ?_
      by_cases hc238_170 : cap_ < (3 : Int32)
      ·refine wcy (pc := 238) (pc' := 257) X169 hx hby at_238 (tlt hc238_170).1 (by decide) (by decide) ?_
       refine wic X169 hx hby at_257 ?_
       refine wst X169 hx hby at_258 (l' := #[ci p0, ci p1, cj q2, cs, ci p3, cr x5, ci 0, ci lv_, cj q8_, cs, cr si_, cj g_, cs, ci 4, ci cap_, ci 1, ci 1, ci 0, cu, cu, cu]) rfl ?_
       show Ends _ _ _ _ T169 (mkF m 260 #[ci p0, ci p1, cj q2, cs, ci p3, cr x5, ci 0, ci lv_, cj q8_, cs, cr si_, cj g_, cs, ci 4, ci cap_, ci 1, ci 1, ci 0, cu, cu, cu] []) _ _ _
       refine wil X169 hx hby at_260 rfl ?_
       refine wiy (pc := 262) (pc' := 287) X169 hx hby at_262 ((if0 _ _).trans (teq (by decide : (0 : Int32) = (0 : Int32))).1) (by decide) (by decide) ?_
       refine wic X169 hx hby at_287 ?_
       refine wst X169 hx hby at_288 (l' := #[ci p0, ci p1, cj q2, cs, ci p3, cr x5, ci 0, ci lv_, cj q8_, cs, cr si_, cj g_, cs, ci 4, ci cap_, ci 1, ci 1, ci 0, ci 0, cu, cu]) rfl ?_
       obtain ⟨rfl, hasc_⟩ : n_ = 2 ∧ ((pl_ = 1 ∧ (c0_ < (128 : Int32) ∧ c1_ < (128 : Int32))) ∨ (pl_ = 0 ∧ ¬ (c0_ < (128 : Int32) ∧ c1_ < (128 : Int32)))) := hR.elim (fun d => d.2.1.elim (fun z => absurd z hc180_166) (fun z => absurd hP167 z)) (fun o1 => o1.elim (fun d => d.2.2.1.elim (fun z => absurd z hc208_168) (fun z => absurd hP169 z)) (fun o2 => o2.elim (fun d => ⟨d.1, d.2.2.2.2⟩) (fun o3 => o3.elim (fun d => absurd d.2.2.2.1.1 (Classical.not_not.mpr hc238_170)) (fun d => absurd d.2.2.2.1.1 (Classical.not_not.mpr hc238_170)))))
       obtain rfl : g_ = (2 : Int64) := hg.trans (by decide)
       obtain rfl : p_ = (2 : Int32) := hp.trans (by decide)
       exact J290_0_2 _ _ _ x5 kx5 si_ lv_ cap_ pl_ q8_ X169 e169q O6 N169 K6 g_si_ sz_si_ E4 V6 Fb Fp Fa Fd hasc_
      ·refine wcn X169 hx hby at_238 (flt hc238_170).1 ?_
       show Ends _ _ _ _ T169 (mkF m 241 #[ci p0, ci p1, cj q2, cs, ci p3, cr x5, ci 0, ci lv_, cj q8_, cs, cr si_, cj g_, cs, ci 4, ci cap_, ci 1, ci 1, cu, cu, cu, cu] []) _ _ _
       refine wal X169 hx hby at_241 rfl rfl ?_
       refine wil X169 hx hby at_243 rfl ?_
       refine wic X169 hx hby at_245 ?_
       refine wia X169 hx hby at_246 ?_
       obtain ⟨_, _, ⟨T171, L171, k171, n171⟩, -, X171, ⟨Lc171, hQ171, l171, y171, z171⟩, st171⟩ := Jvm.LawKit.callS X169 hx (y := ym6) hown (mvT hZ (ow hw 115 rfl)) (mvT hZ (ow hw 116 rfl)) (mvT hZ (ow hw 117 rfl)) (mvT hZ (ow hw 118 rfl)) (by decide) (own_backOf (W := 0) (rm_plainAt_2 l Z a0 hw [] n0 h6 O6 x5 kx5 c0_ c1_ c2_ c3_ V6) hZ (ow hw 118 rfl) (ow hw 117 rfl) (by decide) (by decide)) (g := (mkF m 247 #[ci p0, ci p1, cj q2, cs, ci p3, cr x5, ci 0, ci lv_, cj q8_, cs, cr si_, cj g_, cs, ci 4, ci cap_, ci 1, ci 1, cu, cu, cu, cu] [(.int 2), (.ref x5)])) rfl (by rw [hml]; rfl) (argsL := [(.ref x5), (.int 2)]) (rest := []) (lenOf pdx_3 rfl) rfl (by show 2 * 0 + _ ≤ _; exact Nat.le_of_eq rfl) (hb hby at_247) (fun _ _ => ⟨rfl, e169q, (by decide : 8 + 0 ≤ _), (by decide : 48 + 0 ≤ _)⟩)
       dsimp only [Pt.U, Pt.locs, Pt.cells, Pt.slots] at X171 l171 y171 z171 st171 hQ171
       subst l171 y171 z171
       obtain ⟨r171, rfl, N171q, e171q, hr171⟩ := hQ171
       have N171 := Fr.app N169 N171q
       refine Ends.go st171 ?_
       show Ends _ _ _ _ T171 (mkF m 250 #[ci p0, ci p1, cj q2, cs, ci p3, cr x5, ci 0, ci lv_, cj q8_, cs, cr si_, cj g_, cs, ci 4, ci cap_, ci 1, ci 1, cu, cu, cu, cu] [(.int r171)]) _ _ _
       rcases hr171 with ⟨rfl, hP171⟩ | ⟨rfl, hP171⟩
       ·show Ends _ _ _ _ T171 (mkF m 250 #[ci p0, ci p1, cj q2, cs, ci p3, cr x5, ci 0, ci lv_, cj q8_, cs, cr si_, cj g_, cs, ci 4, ci cap_, ci 1, ci 1, cu, cu, cu, cu] [(.int 1)]) _ _ _
        refine win X171 hx hby at_250 ((if0 _ _).trans (feq (by decide : ¬ ((1 : Int32) = (0 : Int32)))).1) ?_
        refine wic X171 hx hby at_253 ?_
        refine wgo (pc := 254) (pc' := 258) X171 hx hby at_254 (by decide) (by decide) ?_
        refine wst X171 hx hby at_258 (l' := #[ci p0, ci p1, cj q2, cs, ci p3, cr x5, ci 0, ci lv_, cj q8_, cs, cr si_, cj g_, cs, ci 4, ci cap_, ci 1, ci 1, ci 1, cu, cu, cu]) rfl ?_
        show Ends _ _ _ _ T171 (mkF m 260 #[ci p0, ci p1, cj q2, cs, ci p3, cr x5, ci 0, ci lv_, cj q8_, cs, cr si_, cj g_, cs, ci 4, ci cap_, ci 1, ci 1, ci 1, cu, cu, cu] []) _ _ _
        refine wil X171 hx hby at_260 rfl ?_
        refine win X171 hx hby at_262 ((if0 _ _).trans (feq (by decide : ¬ ((1 : Int32) = (0 : Int32)))).1) ?_
        refine wil X171 hx hby at_265 rfl ?_
        refine wic X171 hx hby at_267 ?_
        by_cases hc268_172 : cap_ < (4 : Int32)
        ·refine wcy (pc := 268) (pc' := 287) X171 hx hby at_268 (tlt hc268_172).1 (by decide) (by decide) ?_
         show Ends _ _ _ _ T171 (mkF m 287 #[ci p0, ci p1, cj q2, cs, ci p3, cr x5, ci 0, ci lv_, cj q8_, cs, cr si_, cj g_, cs, ci 4, ci cap_, ci 1, ci 1, ci 1, cu, cu, cu] []) _ _ _
         refine wic X171 hx hby at_287 ?_
         refine wst X171 hx hby at_288 (l' := #[ci p0, ci p1, cj q2, cs, ci p3, cr x5, ci 0, ci lv_, cj q8_, cs, cr si_, cj g_, cs, ci 4, ci cap_, ci 1, ci 1, ci 1, ci 0, cu, cu]) rfl ?_
         obtain ⟨rfl, hasc_⟩ : n_ = 3 ∧ ((pl_ = 1 ∧ (c0_ < (128 : Int32) ∧ c1_ < (128 : Int32) ∧ c2_ < (128 : Int32))) ∨ (pl_ = 0 ∧ ¬ (c0_ < (128 : Int32) ∧ c1_ < (128 : Int32) ∧ c2_ < (128 : Int32)))) := hR.elim (fun d => d.2.1.elim (fun z => absurd z hc180_166) (fun z => absurd hP167 z)) (fun o1 => o1.elim (fun d => d.2.2.1.elim (fun z => absurd z hc208_168) (fun z => absurd hP169 z)) (fun o2 => o2.elim (fun d => d.2.2.2.1.elim (fun z => absurd z hc238_170) (fun z => absurd hP171 z)) (fun o3 => o3.elim (fun d => ⟨d.1, d.2.2.2.2.2⟩) (fun d => absurd d.2.2.2.2.1.1 (Classical.not_not.mpr hc268_172)))))
         obtain rfl : g_ = (3 : Int64) := hg.trans (by decide)
         obtain rfl : p_ = (3 : Int32) := hp.trans (by decide)
         exact J290_0_3 _ _ _ x5 kx5 si_ lv_ cap_ pl_ q8_ X171 e171q O6 N171 K6 g_si_ sz_si_ E4 V6 Fb Fp Fa Fd hasc_
        ·refine wcn X171 hx hby at_268 (flt hc268_172).1 ?_
         refine wal X171 hx hby at_271 rfl rfl ?_
         refine wil X171 hx hby at_273 rfl ?_
         show Ends _ _ _ _ T171 (mkF m 275 #[ci p0, ci p1, cj q2, cs, ci p3, cr x5, ci 0, ci lv_, cj q8_, cs, cr si_, cj g_, cs, ci 4, ci cap_, ci 1, ci 1, ci 1, cu, cu, cu] [(.int 0), (.ref x5)]) _ _ _
         refine wic X171 hx hby at_275 ?_
         refine wia X171 hx hby at_276 ?_
         obtain ⟨_, _, ⟨T173, L173, k173, n173⟩, -, X173, ⟨Lc173, hQ173, l173, y173, z173⟩, st173⟩ := Jvm.LawKit.callS X171 hx (y := ym6) hown (mvT hZ (ow hw 115 rfl)) (mvT hZ (ow hw 116 rfl)) (mvT hZ (ow hw 117 rfl)) (mvT hZ (ow hw 118 rfl)) (by decide) (own_backOf (W := 0) (rm_plainAt_3 l Z a0 hw [] n0 h6 O6 x5 kx5 c0_ c1_ c2_ c3_ V6) hZ (ow hw 118 rfl) (ow hw 117 rfl) (by decide) (by decide)) (g := (mkF m 277 #[ci p0, ci p1, cj q2, cs, ci p3, cr x5, ci 0, ci lv_, cj q8_, cs, cr si_, cj g_, cs, ci 4, ci cap_, ci 1, ci 1, ci 1, cu, cu, cu] [(.int 3), (.ref x5)])) rfl (by rw [hml]; rfl) (argsL := [(.ref x5), (.int 3)]) (rest := []) (lenOf pdx_3 rfl) rfl (by show 2 * 0 + _ ≤ _; exact Nat.le_of_eq rfl) (hb hby at_277) (fun _ _ => ⟨rfl, e171q, (by decide : 8 + 0 ≤ _), (by decide : 48 + 0 ≤ _)⟩)
         dsimp only [Pt.U, Pt.locs, Pt.cells, Pt.slots] at X173 l173 y173 z173 st173 hQ173
         subst l173 y173 z173
         obtain ⟨r173, rfl, N173q, e173q, hr173⟩ := hQ173
         have N173 := Fr.app N171 N173q
         refine Ends.go st173 ?_
         rcases hr173 with ⟨rfl, hP173⟩ | ⟨rfl, hP173⟩
         ·show Ends _ _ _ _ T173 (mkF m 280 #[ci p0, ci p1, cj q2, cs, ci p3, cr x5, ci 0, ci lv_, cj q8_, cs, cr si_, cj g_, cs, ci 4, ci cap_, ci 1, ci 1, ci 1, cu, cu, cu] [(.int 1)]) _ _ _
          refine win X173 hx hby at_280 ((if0 _ _).trans (feq (by decide : ¬ ((1 : Int32) = (0 : Int32)))).1) ?_
          show Ends _ _ _ _ T173 (mkF m 283 #[ci p0, ci p1, cj q2, cs, ci p3, cr x5, ci 0, ci lv_, cj q8_, cs, cr si_, cj g_, cs, ci 4, ci cap_, ci 1, ci 1, ci 1, cu, cu, cu] []) _ _ _
          refine wic X173 hx hby at_283 ?_
          refine wgo (pc := 284) (pc' := 288) X173 hx hby at_284 (by decide) (by decide) ?_
          refine wst X173 hx hby at_288 (l' := #[ci p0, ci p1, cj q2, cs, ci p3, cr x5, ci 0, ci lv_, cj q8_, cs, cr si_, cj g_, cs, ci 4, ci cap_, ci 1, ci 1, ci 1, ci 1, cu, cu]) rfl ?_
          obtain ⟨rfl, hasc_⟩ : n_ = 4 ∧ ((pl_ = 1 ∧ (c0_ < (128 : Int32) ∧ c1_ < (128 : Int32) ∧ c2_ < (128 : Int32) ∧ c3_ < (128 : Int32))) ∨ (pl_ = 0 ∧ ¬ (c0_ < (128 : Int32) ∧ c1_ < (128 : Int32) ∧ c2_ < (128 : Int32) ∧ c3_ < (128 : Int32)))) := hR.elim (fun d => d.2.1.elim (fun z => absurd z hc180_166) (fun z => absurd hP167 z)) (fun o1 => o1.elim (fun d => d.2.2.1.elim (fun z => absurd z hc208_168) (fun z => absurd hP169 z)) (fun o2 => o2.elim (fun d => d.2.2.2.1.elim (fun z => absurd z hc238_170) (fun z => absurd hP171 z)) (fun o3 => o3.elim (fun d => d.2.2.2.2.1.elim (fun z => absurd z hc268_172) (fun z => absurd hP173 z)) (fun d => ⟨d.1, d.2.2.2.2.2⟩))))
          obtain rfl : g_ = (4 : Int64) := hg.trans (by decide)
          obtain rfl : p_ = (4 : Int32) := hp.trans (by decide)
          exact J290_0_4 _ _ _ x5 kx5 si_ lv_ cap_ pl_ q8_ X173 e173q O6 N173 K6 g_si_ sz_si_ E4 V6 Fb Fp Fa Fd hasc_
         ·show Ends _ _ _ _ T173 (mkF m 280 #[ci p0, ci p1, cj q2, cs, ci p3, cr x5, ci 0, ci lv_, cj q8_, cs, cr si_, cj g_, cs, ci 4, ci cap_, ci 1, ci 1, ci 1, cu, cu, cu] [(.int 0)]) _ _ _
          refine wiy (pc := 280) (pc' := 287) X173 hx hby at_280 ((if0 _ _).trans (teq (by decide : (0 : Int32) = (0 : Int32))).1) (by decide) (by decide) ?_
          show Ends _ _ _ _ T173 (mkF m 287 #[ci p0, ci p1, cj q2, cs, ci p3, cr x5, ci 0, ci lv_, cj q8_, cs, cr si_, cj g_, cs, ci 4, ci cap_, ci 1, ci 1, ci 1, cu, cu, cu] []) _ _ _
          refine wic X173 hx hby at_287 ?_
          refine wst X173 hx hby at_288 (l' := #[ci p0, ci p1, cj q2, cs, ci p3, cr x5, ci 0, ci lv_, cj q8_, cs, cr si_, cj g_, cs, ci 4, ci cap_, ci 1, ci 1, ci 1, ci 0, cu, cu]) rfl ?_
          obtain ⟨rfl, hasc_⟩ : n_ = 3 ∧ ((pl_ = 1 ∧ (c0_ < (128 : Int32) ∧ c1_ < (128 : Int32) ∧ c2_ < (128 : Int32))) ∨ (pl_ = 0 ∧ ¬ (c0_ < (128 : Int32) ∧ c1_ < (128 : Int32) ∧ c2_ < (128 : Int32)))) := hR.elim (fun d => d.2.1.elim (fun z => absurd z hc180_166) (fun z => absurd hP167 z)) (fun o1 => o1.elim (fun d => d.2.2.1.elim (fun z => absurd z hc208_168) (fun z => absurd hP169 z)) (fun o2 => o2.elim (fun d => d.2.2.2.1.elim (fun z => absurd z hc238_170) (fun z => absurd hP171 z)) (fun o3 => o3.elim (fun d => ⟨d.1, d.2.2.2.2.2⟩) (fun d => absurd d.2.2.2.2.1.2 hP173))))
          obtain rfl : g_ = (3 : Int64) := hg.trans (by decide)
          obtain rfl : p_ = (3 : Int32) := hp.trans (by decide)
          exact J290_0_3 _ _ _ x5 kx5 si_ lv_ cap_ pl_ q8_ X173 e173q O6 N173 K6 g_si_ sz_si_ E4 V6 Fb Fp Fa Fd hasc_
       ·show Ends _ _ _ _ T171 (mkF m 250 #[ci p0, ci p1, cj q2, cs, ci p3, cr x5, ci 0, ci lv_, cj q8_, cs, cr si_, cj g_, cs, ci 4, ci cap_, ci 1, ci 1, cu, cu, cu, cu] [(.int 0)]) _ _ _
        refine wiy (pc := 250) (pc' := 257) X171 hx hby at_250 ((if0 _ _).trans (teq (by decide : (0 : Int32) = (0 : Int32))).1) (by decide) (by decide) ?_
        refine wic X171 hx hby at_257 ?_
        show Ends _ _ _ _ T171 (mkF m 258 #[ci p0, ci p1, cj q2, cs, ci p3, cr x5, ci 0, ci lv_, cj q8_, cs, cr si_, cj g_, cs, ci 4, ci cap_, ci 1, ci 1, cu, cu, cu, cu] [(.int 0)]) _ _ _
        refine wst X171 hx hby at_258 (l' := #[ci p0, ci p1, cj q2, cs, ci p3, cr x5, ci 0, ci lv_, cj q8_, cs, cr si_, cj g_, cs, ci 4, ci cap_, ci 1, ci 1, ci 0, cu, cu, cu]) rfl ?_
        refine wil X171 hx hby at_260 rfl ?_
        refine wiy (pc := 262) (pc' := 287) X171 hx hby at_262 ((if0 _ _).trans (teq (by decide : (0 : Int32) = (0 : Int32))).1) (by decide) (by decide) ?_
        refine wic X171 hx hby at_287 ?_
        refine wst X171 hx hby at_288 (l' := #[ci p0, ci p1, cj q2, cs, ci p3, cr x5, ci 0, ci lv_, cj q8_, cs, cr si_, cj g_, cs, ci 4, ci cap_, ci 1, ci 1, ci 0, ci 0, cu, cu]) rfl ?_
        show Ends _ _ _ _ T171 (mkF m 290 #[ci p0, ci p1, cj q2, cs, ci p3, cr x5, ci 0, ci lv_, cj q8_, cs, cr si_, cj g_, cs, ci 4, ci cap_, ci 1, ci 1, ci 0, ci 0, cu, cu] []) _ _ _
        obtain ⟨rfl, hasc_⟩ : n_ = 2 ∧ ((pl_ = 1 ∧ (c0_ < (128 : Int32) ∧ c1_ < (128 : Int32))) ∨ (pl_ = 0 ∧ ¬ (c0_ < (128 : Int32) ∧ c1_ < (128 : Int32)))) := hR.elim (fun d => d.2.1.elim (fun z => absurd z hc180_166) (fun z => absurd hP167 z)) (fun o1 => o1.elim (fun d => d.2.2.1.elim (fun z => absurd z hc208_168) (fun z => absurd hP169 z)) (fun o2 => o2.elim (fun d => ⟨d.1, d.2.2.2.2⟩) (fun o3 => o3.elim (fun d => absurd d.2.2.2.1.2 hP171) (fun d => absurd d.2.2.2.1.2 hP171))))
        obtain rfl : g_ = (2 : Int64) := hg.trans (by decide)
        obtain rfl : p_ = (2 : Int32) := hp.trans (by decide)
        exact J290_0_2 _ _ _ x5 kx5 si_ lv_ cap_ pl_ q8_ X171 e171q O6 N171 K6 g_si_ sz_si_ E4 V6 Fb Fp Fa Fd hasc_
     ·show Ends _ _ _ _ T169 (mkF m 220 #[ci p0, ci p1, cj q2, cs, ci p3, cr x5, ci 0, ci lv_, cj q8_, cs, cr si_, cj g_, cs, ci 4, ci cap_, ci 1, cu, cu, cu, cu, cu] [(.int 0)]) _ _ _
      refine wiy (pc := 220) (pc' := 227) X169 hx hby at_220 ((if0 _ _).trans (teq (by decide : (0 : Int32) = (0 : Int32))).1) (by decide) (by decide) ?_
      refine wic X169 hx hby at_227 ?_
      refine wst X169 hx hby at_228 (l' := #[ci p0, ci p1, cj q2, cs, ci p3, cr x5, ci 0, ci lv_, cj q8_, cs, cr si_, cj g_, cs, ci 4, ci cap_, ci 1, ci 0, cu, cu, cu, cu]) rfl ?_
      refine wil X169 hx hby at_230 rfl ?_
      show Ends _ _ _ _ T169 (mkF m 232 #[ci p0, ci p1, cj q2, cs, ci p3, cr x5, ci 0, ci lv_, cj q8_, cs, cr si_, cj g_, cs, ci 4, ci cap_, ci 1, ci 0, cu, cu, cu, cu] [(.int 0)]) _ _ _
      refine wiy (pc := 232) (pc' := 257) X169 hx hby at_232 ((if0 _ _).trans (teq (by decide : (0 : Int32) = (0 : Int32))).1) (by decide) (by decide) ?_
      refine wic X169 hx hby at_257 ?_
      refine wst X169 hx hby at_258 (l' := #[ci p0, ci p1, cj q2, cs, ci p3, cr x5, ci 0, ci lv_, cj q8_, cs, cr si_, cj g_, cs, ci 4, ci cap_, ci 1, ci 0, ci 0, cu, cu, cu]) rfl ?_
      refine wil X169 hx hby at_260 rfl ?_
      refine wiy (pc := 262) (pc' := 287) X169 hx hby at_262 ((if0 _ _).trans (teq (by decide : (0 : Int32) = (0 : Int32))).1) (by decide) (by decide) ?_
      show Ends _ _ _ _ T169 (mkF m 287 #[ci p0, ci p1, cj q2, cs, ci p3, cr x5, ci 0, ci lv_, cj q8_, cs, cr si_, cj g_, cs, ci 4, ci cap_, ci 1, ci 0, ci 0, cu, cu, cu] []) _ _ _
      refine wic X169 hx hby at_287 ?_
      refine wst X169 hx hby at_288 (l' := #[ci p0, ci p1, cj q2, cs, ci p3, cr x5, ci 0, ci lv_, cj q8_, cs, cr si_, cj g_, cs, ci 4, ci cap_, ci 1, ci 0, ci 0, ci 0, cu, cu]) rfl ?_
      obtain ⟨rfl, hasc_⟩ : n_ = 1 ∧ ((pl_ = 1 ∧ (c0_ < (128 : Int32))) ∨ (pl_ = 0 ∧ ¬ (c0_ < (128 : Int32)))) := hR.elim (fun d => d.2.1.elim (fun z => absurd z hc180_166) (fun z => absurd hP167 z)) (fun o1 => o1.elim (fun d => ⟨d.1, d.2.2.2⟩) (fun o2 => o2.elim (fun d => absurd d.2.2.1.2 hP169) (fun o3 => o3.elim (fun d => absurd d.2.2.1.2 hP169) (fun d => absurd d.2.2.1.2 hP169))))
      obtain rfl : g_ = (1 : Int64) := hg.trans (by decide)
      obtain rfl : p_ = (1 : Int32) := hp.trans (by decide)
      exact J290_0_1 _ _ _ x5 kx5 si_ lv_ cap_ pl_ q8_ X169 e169q O6 N169 K6 g_si_ sz_si_ E4 V6 Fb Fp Fa Fd hasc_
   ·show Ends _ _ _ _ T167 (mkF m 190 #[ci p0, ci p1, cj q2, cs, ci p3, cr x5, ci 0, ci lv_, cj q8_, cs, cr si_, cj g_, cs, ci 4, ci cap_, cu, cu, cu, cu, cu, cu] [(.int 0)]) _ _ _
    refine wiy (pc := 190) (pc' := 197) X167 hx hby at_190 ((if0 _ _).trans (teq (by decide : (0 : Int32) = (0 : Int32))).1) (by decide) (by decide) ?_
    refine wic X167 hx hby at_197 ?_
    show Ends _ _ _ _ T167 (mkF m 198 #[ci p0, ci p1, cj q2, cs, ci p3, cr x5, ci 0, ci lv_, cj q8_, cs, cr si_, cj g_, cs, ci 4, ci cap_, cu, cu, cu, cu, cu, cu] [(.int 0)]) _ _ _
    refine wst X167 hx hby at_198 (l' := #[ci p0, ci p1, cj q2, cs, ci p3, cr x5, ci 0, ci lv_, cj q8_, cs, cr si_, cj g_, cs, ci 4, ci cap_, ci 0, cu, cu, cu, cu, cu]) rfl ?_
    refine wil X167 hx hby at_200 rfl ?_
    refine wiy (pc := 202) (pc' := 227) X167 hx hby at_202 ((if0 _ _).trans (teq (by decide : (0 : Int32) = (0 : Int32))).1) (by decide) (by decide) ?_
    refine wic X167 hx hby at_227 ?_
    refine wst X167 hx hby at_228 (l' := #[ci p0, ci p1, cj q2, cs, ci p3, cr x5, ci 0, ci lv_, cj q8_, cs, cr si_, cj g_, cs, ci 4, ci cap_, ci 0, ci 0, cu, cu, cu, cu]) rfl ?_
    show Ends _ _ _ _ T167 (mkF m 230 #[ci p0, ci p1, cj q2, cs, ci p3, cr x5, ci 0, ci lv_, cj q8_, cs, cr si_, cj g_, cs, ci 4, ci cap_, ci 0, ci 0, cu, cu, cu, cu] []) _ _ _
    refine wil X167 hx hby at_230 rfl ?_
    refine wiy (pc := 232) (pc' := 257) X167 hx hby at_232 ((if0 _ _).trans (teq (by decide : (0 : Int32) = (0 : Int32))).1) (by decide) (by decide) ?_
    refine wic X167 hx hby at_257 ?_
    refine wst X167 hx hby at_258 (l' := #[ci p0, ci p1, cj q2, cs, ci p3, cr x5, ci 0, ci lv_, cj q8_, cs, cr si_, cj g_, cs, ci 4, ci cap_, ci 0, ci 0, ci 0, cu, cu, cu]) rfl ?_
    refine wil X167 hx hby at_260 rfl ?_
    show Ends _ _ _ _ T167 (mkF m 262 #[ci p0, ci p1, cj q2, cs, ci p3, cr x5, ci 0, ci lv_, cj q8_, cs, cr si_, cj g_, cs, ci 4, ci cap_, ci 0, ci 0, ci 0, cu, cu, cu] [(.int 0)]) _ _ _
    refine wiy (pc := 262) (pc' := 287) X167 hx hby at_262 ((if0 _ _).trans (teq (by decide : (0 : Int32) = (0 : Int32))).1) (by decide) (by decide) ?_
    refine wic X167 hx hby at_287 ?_
    refine wst X167 hx hby at_288 (l' := #[ci p0, ci p1, cj q2, cs, ci p3, cr x5, ci 0, ci lv_, cj q8_, cs, cr si_, cj g_, cs, ci 4, ci cap_, ci 0, ci 0, ci 0, ci 0, cu, cu]) rfl ?_
    obtain ⟨rfl, hasc_⟩ : n_ = 0 ∧ ((pl_ = 1 ∧ (True)) ∨ (pl_ = 0 ∧ ¬ (True))) := hR.elim (fun d => ⟨d.1, d.2.2⟩) (fun o1 => o1.elim (fun d => absurd d.2.1.2 hP167) (fun o2 => o2.elim (fun d => absurd d.2.1.2 hP167) (fun o3 => o3.elim (fun d => absurd d.2.1.2 hP167) (fun d => absurd d.2.1.2 hP167))))
    obtain rfl : g_ = (0 : Int64) := hg.trans (by decide)
    obtain rfl : p_ = (0 : Int32) := hp.trans (by decide)
    exact J290_0_0 _ _ _ x5 kx5 si_ lv_ cap_ pl_ q8_ X167 e167q O6 N167 K6 g_si_ sz_si_ E4 V6 Fb Fp Fa Fd hasc_
 have J177_1 : ∀ (T6 : State) (h6 : Heap) (lcs : List Loc) (x5 : Addr) (kx5 : ClassId) (si_ : Addr) (lv_ : Int32) (cap_ : Int32) (pl_ : Int32) (n_ : Int32) (p_ : Int32) (q8_ : Int64) (g_ : Int64) (X6 : Stand p l e room_1 s m #[(.int p0), (.int p1), (.long q2), (.int p3)] below meth c T6 lcs 8 48) (eT6 : T6.heap = h6) (O6 : Old Z n0 h6) (N6 : Fr n0 lcs) (K6 : Keep h0 h6 []) (g_si_ : n0 ≤ si_) (sz_si_ : h0.size ≤ si_) (E4 : Exa Z h6 si_ cSI) (V6 : Arv Z h6 x5 kx5 .char (4 : Int32) [(.int c0_), (.int c1_), (.int c2_), (.int c3_)] (.int 0)) (Fb : Fld Z h6 si_ cSI "base" "I" (.int 0)) (Fp : Fld Z h6 si_ cSI "position" "I" (.int p_)) (Fa : Fld Z h6 si_ cSI "ascii" "Z" (.int pl_)) (Fd : Fld Z h6 si_ "com/example/ratatoskr/ratatoskr/core/internal/Input" "decoded" "Lcom/example/ratatoskr/ratatoskr/core/internal/DecodedChars;" .null) (hg : g_ = n_.toInt64) (hp : p_ = (1 : Int32) + n_) (hcb : cap_.toInt ≤ 3) (hR : (n_ = 0 ∧ (cap_ < 1 ∨ ¬ own_pl c1_) ∧ ((pl_ = 1 ∧ (True)) ∨ (pl_ = 0 ∧ ¬ (True)))) ∨ (n_ = 1 ∧ (¬ cap_ < 1 ∧ own_pl c1_) ∧ (cap_ < 2 ∨ ¬ own_pl c2_) ∧ ((pl_ = 1 ∧ (c1_ < (128 : Int32))) ∨ (pl_ = 0 ∧ ¬ (c1_ < (128 : Int32))))) ∨ (n_ = 2 ∧ (¬ cap_ < 1 ∧ own_pl c1_) ∧ (¬ cap_ < 2 ∧ own_pl c2_) ∧ (cap_ < 3 ∨ ¬ own_pl c3_) ∧ ((pl_ = 1 ∧ (c1_ < (128 : Int32) ∧ c2_ < (128 : Int32))) ∨ (pl_ = 0 ∧ ¬ (c1_ < (128 : Int32) ∧ c2_ < (128 : Int32))))) ∨ (n_ = 3 ∧ (¬ cap_ < 1 ∧ own_pl c1_) ∧ (¬ cap_ < 2 ∧ own_pl c2_) ∧ (¬ cap_ < 3 ∧ own_pl c3_) ∧ ((pl_ = 1 ∧ (c1_ < (128 : Int32) ∧ c2_ < (128 : Int32) ∧ c3_ < (128 : Int32))) ∨ (pl_ = 0 ∧ ¬ (c1_ < (128 : Int32) ∧ c2_ < (128 : Int32) ∧ c3_ < (128 : Int32)))))), Ends p e below s T6 (mkF m 177 #[ci p0, ci p1, cj q2, cs, ci p3, cr x5, ci 1, ci lv_, cj q8_, cs, cr si_, cj g_, cs, ci 3, ci cap_, cu, cu, cu, cu, cu, cu] []) room_1.cells room_1.slots (fun v h L => v = some (.int 1) ∧ Fr n0 L) := by
  intro T6 h6 lcs x5 kx5 si_ lv_ cap_ pl_ n_ p_ q8_ g_ X6 eT6 O6 N6 K6 g_si_ sz_si_ E4 V6 Fb Fp Fa Fd hg hp hcb hR
  show Ends _ _ _ _ T6 (mkF m 177 #[ci p0, ci p1, cj q2, cs, ci p3, cr x5, ci 1, ci lv_, cj q8_, cs, cr si_, cj g_, cs, ci 3, ci cap_, cu, cu, cu, cu, cu, cu] []) _ _ _
  refine wil X6 hx hby at_177 rfl ?_
  show Ends _ _ _ _ T6 (mkF m 179 #[ci p0, ci p1, cj q2, cs, ci p3, cr x5, ci 1, ci lv_, cj q8_, cs, cr si_, cj g_, cs, ci 3, ci cap_, cu, cu, cu, cu, cu, cu] [(.int cap_)]) _ _ _
  refine wic X6 hx hby at_179 ?_
  by_cases hc180_174 : cap_ < (1 : Int32)
  ·refine wcy (pc := 180) (pc' := 197) X6 hx hby at_180 (tlt hc180_174).1 (by decide) (by decide) ?_
   refine wic X6 hx hby at_197 ?_
   refine wst X6 hx hby at_198 (l' := #[ci p0, ci p1, cj q2, cs, ci p3, cr x5, ci 1, ci lv_, cj q8_, cs, cr si_, cj g_, cs, ci 3, ci cap_, ci 0, cu, cu, cu, cu, cu]) rfl ?_
   refine wil X6 hx hby at_200 rfl ?_
   show Ends _ _ _ _ T6 (mkF m 202 #[ci p0, ci p1, cj q2, cs, ci p3, cr x5, ci 1, ci lv_, cj q8_, cs, cr si_, cj g_, cs, ci 3, ci cap_, ci 0, cu, cu, cu, cu, cu] [(.int 0)]) _ _ _
   refine wiy (pc := 202) (pc' := 227) X6 hx hby at_202 ((if0 _ _).trans (teq (by decide : (0 : Int32) = (0 : Int32))).1) (by decide) (by decide) ?_
   refine wic X6 hx hby at_227 ?_
   refine wst X6 hx hby at_228 (l' := #[ci p0, ci p1, cj q2, cs, ci p3, cr x5, ci 1, ci lv_, cj q8_, cs, cr si_, cj g_, cs, ci 3, ci cap_, ci 0, ci 0, cu, cu, cu, cu]) rfl ?_
   refine wil X6 hx hby at_230 rfl ?_
   refine wiy (pc := 232) (pc' := 257) X6 hx hby at_232 ((if0 _ _).trans (teq (by decide : (0 : Int32) = (0 : Int32))).1) (by decide) (by decide) ?_
   show Ends _ _ _ _ T6 (mkF m 257 #[ci p0, ci p1, cj q2, cs, ci p3, cr x5, ci 1, ci lv_, cj q8_, cs, cr si_, cj g_, cs, ci 3, ci cap_, ci 0, ci 0, cu, cu, cu, cu] []) _ _ _
   refine wic X6 hx hby at_257 ?_
   refine wst X6 hx hby at_258 (l' := #[ci p0, ci p1, cj q2, cs, ci p3, cr x5, ci 1, ci lv_, cj q8_, cs, cr si_, cj g_, cs, ci 3, ci cap_, ci 0, ci 0, ci 0, cu, cu, cu]) rfl ?_
   refine wil X6 hx hby at_260 rfl ?_
   refine wiy (pc := 262) (pc' := 287) X6 hx hby at_262 ((if0 _ _).trans (teq (by decide : (0 : Int32) = (0 : Int32))).1) (by decide) (by decide) ?_
   refine wic X6 hx hby at_287 ?_
   show Ends _ _ _ _ T6 (mkF m 288 #[ci p0, ci p1, cj q2, cs, ci p3, cr x5, ci 1, ci lv_, cj q8_, cs, cr si_, cj g_, cs, ci 3, ci cap_, ci 0, ci 0, ci 0, cu, cu, cu] [(.int 0)]) _ _ _
   refine wst X6 hx hby at_288 (l' := #[ci p0, ci p1, cj q2, cs, ci p3, cr x5, ci 1, ci lv_, cj q8_, cs, cr si_, cj g_, cs, ci 3, ci cap_, ci 0, ci 0, ci 0, ci 0, cu, cu]) rfl ?_
   obtain ⟨rfl, hasc_⟩ : n_ = 0 ∧ ((pl_ = 1 ∧ (True)) ∨ (pl_ = 0 ∧ ¬ (True))) := hR.elim (fun d => ⟨d.1, d.2.2⟩) (fun o1 => o1.elim (fun d => absurd d.2.1.1 (Classical.not_not.mpr hc180_174)) (fun o2 => o2.elim (fun d => absurd d.2.1.1 (Classical.not_not.mpr hc180_174)) (fun d => absurd d.2.1.1 (Classical.not_not.mpr hc180_174))))
   obtain rfl : g_ = (0 : Int64) := hg.trans (by decide)
   obtain rfl : p_ = (1 : Int32) := hp.trans (by decide)
   exact J290_1_0 _ _ _ x5 kx5 si_ lv_ cap_ pl_ q8_ X6 eT6 O6 N6 K6 g_si_ sz_si_ E4 V6 Fb Fp Fa Fd hasc_
  ·refine wcn X6 hx hby at_180 (flt hc180_174).1 ?_
   refine wal X6 hx hby at_183 rfl rfl ?_
   refine wil X6 hx hby at_185 rfl ?_
   obtain ⟨_, _, ⟨T175, L175, k175, n175⟩, -, X175, ⟨Lc175, hQ175, l175, y175, z175⟩, st175⟩ := Jvm.LawKit.callS X6 hx (y := ym6) hown (mvT hZ (ow hw 115 rfl)) (mvT hZ (ow hw 116 rfl)) (mvT hZ (ow hw 117 rfl)) (mvT hZ (ow hw 118 rfl)) (by decide) (own_backOf (W := 0) (rm_plainAt_1 l Z a0 hw [] n0 h6 O6 x5 kx5 c0_ c1_ c2_ c3_ V6) hZ (ow hw 118 rfl) (ow hw 117 rfl) (by decide) (by decide)) (g := (mkF m 187 #[ci p0, ci p1, cj q2, cs, ci p3, cr x5, ci 1, ci lv_, cj q8_, cs, cr si_, cj g_, cs, ci 3, ci cap_, cu, cu, cu, cu, cu, cu] [(.int 1), (.ref x5)])) rfl (by rw [hml]; rfl) (argsL := [(.ref x5), (.int 1)]) (rest := []) (lenOf pdx_3 rfl) rfl (by show 2 * 0 + _ ≤ _; exact Nat.le_of_eq rfl) (hb hby at_187) (fun _ _ => ⟨rfl, eT6, (by decide : 8 + 0 ≤ _), (by decide : 48 + 0 ≤ _)⟩)
   dsimp only [Pt.U, Pt.locs, Pt.cells, Pt.slots] at X175 l175 y175 z175 st175 hQ175
   subst l175 y175 z175
   obtain ⟨r175, rfl, N175q, e175q, hr175⟩ := hQ175
   have N175 := Fr.app N6 N175q
   refine Ends.go st175 ?_
   show Ends _ _ _ _ T175 (mkF m 190 #[ci p0, ci p1, cj q2, cs, ci p3, cr x5, ci 1, ci lv_, cj q8_, cs, cr si_, cj g_, cs, ci 3, ci cap_, cu, cu, cu, cu, cu, cu] [(.int r175)]) _ _ _
   rcases hr175 with ⟨rfl, hP175⟩ | ⟨rfl, hP175⟩
   ·show Ends _ _ _ _ T175 (mkF m 190 #[ci p0, ci p1, cj q2, cs, ci p3, cr x5, ci 1, ci lv_, cj q8_, cs, cr si_, cj g_, cs, ci 3, ci cap_, cu, cu, cu, cu, cu, cu] [(.int 1)]) _ _ _
    refine win X175 hx hby at_190 ((if0 _ _).trans (feq (by decide : ¬ ((1 : Int32) = (0 : Int32)))).1) ?_
    refine wic X175 hx hby at_193 ?_
    refine wgo (pc := 194) (pc' := 198) X175 hx hby at_194 (by decide) (by decide) ?_
    refine wst X175 hx hby at_198 (l' := #[ci p0, ci p1, cj q2, cs, ci p3, cr x5, ci 1, ci lv_, cj q8_, cs, cr si_, cj g_, cs, ci 3, ci cap_, ci 1, cu, cu, cu, cu, cu]) rfl ?_
    show Ends _ _ _ _ T175 (mkF m 200 #[ci p0, ci p1, cj q2, cs, ci p3, cr x5, ci 1, ci lv_, cj q8_, cs, cr si_, cj g_, cs, ci 3, ci cap_, ci 1, cu, cu, cu, cu, cu] []) _ _ _
    refine wil X175 hx hby at_200 rfl ?_
    refine win X175 hx hby at_202 ((if0 _ _).trans (feq (by decide : ¬ ((1 : Int32) = (0 : Int32)))).1) ?_
    refine wil X175 hx hby at_205 rfl ?_
    refine wic X175 hx hby at_207 ?_
    by_cases hc208_176 : cap_ < (2 : Int32)
    ·refine wcy (pc := 208) (pc' := 227) X175 hx hby at_208 (tlt hc208_176).1 (by decide) (by decide) ?_
     show Ends _ _ _ _ T175 (mkF m 227 #[ci p0, ci p1, cj q2, cs, ci p3, cr x5, ci 1, ci lv_, cj q8_, cs, cr si_, cj g_, cs, ci 3, ci cap_, ci 1, cu, cu, cu, cu, cu] []) _ _ _
     refine wic X175 hx hby at_227 ?_
     refine wst X175 hx hby at_228 (l' := #[ci p0, ci p1, cj q2, cs, ci p3, cr x5, ci 1, ci lv_, cj q8_, cs, cr si_, cj g_, cs, ci 3, ci cap_, ci 1, ci 0, cu, cu, cu, cu]) rfl ?_
     refine wil X175 hx hby at_230 rfl ?_
     refine wiy (pc := 232) (pc' := 257) X175 hx hby at_232 ((if0 _ _).trans (teq (by decide : (0 : Int32) = (0 : Int32))).1) (by decide) (by decide) ?_
     refine wic X175 hx hby at_257 ?_
     show Ends _ _ _ _ T175 (mkF m 258 #[ci p0, ci p1, cj q2, cs, ci p3, cr x5, ci 1, ci lv_, cj q8_, cs, cr si_, cj g_, cs, ci 3, ci cap_, ci 1, ci 0, cu, cu, cu, cu] [(.int 0)]) _ _ _
     refine wst X175 hx hby at_258 (l' := #[ci p0, ci p1, cj q2, cs, ci p3, cr x5, ci 1, ci lv_, cj q8_, cs, cr si_, cj g_, cs, ci 3, ci cap_, ci 1, ci 0, ci 0, cu, cu, cu]) rfl ?_
     refine wil X175 hx hby at_260 rfl ?_
     refine wiy (pc := 262) (pc' := 287) X175 hx hby at_262 ((if0 _ _).trans (teq (by decide : (0 : Int32) = (0 : Int32))).1) (by decide) (by decide) ?_
     refine wic X175 hx hby at_287 ?_
     refine wst X175 hx hby at_288 (l' := #[ci p0, ci p1, cj q2, cs, ci p3, cr x5, ci 1, ci lv_, cj q8_, cs, cr si_, cj g_, cs, ci 3, ci cap_, ci 1, ci 0, ci 0, ci 0, cu, cu]) rfl ?_
     show Ends _ _ _ _ T175 (mkF m 290 #[ci p0, ci p1, cj q2, cs, ci p3, cr x5, ci 1, ci lv_, cj q8_, cs, cr si_, cj g_, cs, ci 3, ci cap_, ci 1, ci 0, ci 0, ci 0, cu, cu] []) _ _ _
     obtain ⟨rfl, hasc_⟩ : n_ = 1 ∧ ((pl_ = 1 ∧ (c1_ < (128 : Int32))) ∨ (pl_ = 0 ∧ ¬ (c1_ < (128 : Int32)))) := hR.elim (fun d => d.2.1.elim (fun z => absurd z hc180_174) (fun z => absurd hP175 z)) (fun o1 => o1.elim (fun d => ⟨d.1, d.2.2.2⟩) (fun o2 => o2.elim (fun d => absurd d.2.2.1.1 (Classical.not_not.mpr hc208_176)) (fun d => absurd d.2.2.1.1 (Classical.not_not.mpr hc208_176))))
     obtain rfl : g_ = (1 : Int64) := hg.trans (by decide)
     obtain rfl : p_ = (2 : Int32) := hp.trans (by decide)
     exact J290_1_1 _ _ _ x5 kx5 si_ lv_ cap_ pl_ q8_ X175 e175q O6 N175 K6 g_si_ sz_si_ E4 V6 Fb Fp Fa Fd hasc_
    ·refine wcn X175 hx hby at_208 (flt hc208_176).1 ?_
     refine wal X175 hx hby at_211 rfl rfl ?_
     refine wil X175 hx hby at_213 rfl ?_
     refine wic X175 hx hby at_215 ?_
     refine wia X175 hx hby at_216 ?_
     show Ends _ _ _ _ T175 (mkF m 217 #[ci p0, ci p1, cj q2, cs, ci p3, cr x5, ci 1, ci lv_, cj q8_, cs, cr si_, cj g_, cs, ci 3, ci cap_, ci 1, cu, cu, cu, cu, cu] [(.int 2), (.ref x5)]) _ _ _
     obtain ⟨_, _, ⟨T177, L177, k177, n177⟩, -, X177, ⟨Lc177, hQ177, l177, y177, z177⟩, st177⟩ := Jvm.LawKit.callS X175 hx (y := ym6) hown (mvT hZ (ow hw 115 rfl)) (mvT hZ (ow hw 116 rfl)) (mvT hZ (ow hw 117 rfl)) (mvT hZ (ow hw 118 rfl)) (by decide) (own_backOf (W := 0) (rm_plainAt_2 l Z a0 hw [] n0 h6 O6 x5 kx5 c0_ c1_ c2_ c3_ V6) hZ (ow hw 118 rfl) (ow hw 117 rfl) (by decide) (by decide)) (g := (mkF m 217 #[ci p0, ci p1, cj q2, cs, ci p3, cr x5, ci 1, ci lv_, cj q8_, cs, cr si_, cj g_, cs, ci 3, ci cap_, ci 1, cu, cu, cu, cu, cu] [(.int 2), (.ref x5)])) rfl (by rw [hml]; rfl) (argsL := [(.ref x5), (.int 2)]) (rest := []) (lenOf pdx_3 rfl) rfl (by show 2 * 0 + _ ≤ _; exact Nat.le_of_eq rfl) (hb hby at_217) (fun _ _ => ⟨rfl, e175q, (by decide : 8 + 0 ≤ _), (by decide : 48 + 0 ≤ _)⟩)
     dsimp only [Pt.U, Pt.locs, Pt.cells, Pt.slots] at X177 l177 y177 z177 st177 hQ177
     subst l177 y177 z177
     obtain ⟨r177, rfl, N177q, e177q, hr177⟩ := hQ177
     have N177 := Fr.app N175 N177q
     refine Ends.go st177 ?_
     rcases hr177 with ⟨rfl, hP177⟩ | ⟨rfl, hP177⟩
     ·show Ends _ _ _ _ T177 (mkF m 220 #[ci p0, ci p1, cj q2, cs, ci p3, cr x5, ci 1, ci lv_, cj q8_, cs, cr si_, cj g_, cs, ci 3, ci cap_, ci 1, cu, cu, cu, cu, cu] [(.int 1)]) _ _ _
      refine win X177 hx hby at_220 ((if0 _ _).trans (feq (by decide : ¬ ((1 : Int32) = (0 : Int32)))).1) ?_
      refine wic X177 hx hby at_223 ?_
      refine wgo (pc := 224) (pc' := 228) X177 hx hby at_224 (by decide) (by decide) ?_
      show Ends _ _ _ _ T177 (mkF m 228 #[ci p0, ci p1, cj q2, cs, ci p3, cr x5, ci 1, ci lv_, cj q8_, cs, cr si_, cj g_, cs, ci 3, ci cap_, ci 1, cu, cu, cu, cu, cu] [(.int 1)]) _ _ _
      refine wst X177 hx hby at_228 (l' := #[ci p0, ci p1, cj q2, cs, ci p3, cr x5, ci 1, ci lv_, cj q8_, cs, cr si_, cj g_, cs, ci 3, ci cap_, ci 1, ci 1, cu, cu, cu, cu]) rfl ?_
      refine wil X177 hx hby at_230 rfl ?_
      refine win X177 hx hby at_232 ((if0 _ _).trans (feq (by decide : ¬ ((1 : Int32) = (0 : Int32)))).1) ?_
      refine wil X177 hx hby at_235 rfl ?_
      refine wic X177 hx hby at_237 ?_
      show Ends _ _ _ _ T177 (mkF m 238 #[ci p0, ci p1, cj q2, cs, ci p3, cr x5, ci 1, ci lv_, cj q8_, cs, cr si_, cj g_, cs, ci 3, ci cap_, ci 1, ci 1, cu, cu, cu, cu] [(.int 3), (.int cap_)]) _ _ _
      by_cases hc238_178 : cap_ < (3 : Int32)
      ·refine wcy (pc := 238) (pc' := 257) X177 hx hby at_238 (tlt hc238_178).1 (by decide) (by decide) ?_
       refine wic X177 hx hby at_257 ?_
       refine wst X177 hx hby at_258 (l' := #[ci p0, ci p1, cj q2, cs, ci p3, cr x5, ci 1, ci lv_, cj q8_, cs, cr si_, cj g_, cs, ci 3, ci cap_, ci 1, ci 1, ci 0, cu, cu, cu]) rfl ?_
       refine wil X177 hx hby at_260 rfl ?_
       refine wiy (pc := 262) (pc' := 287) X177 hx hby at_262 ((if0 _ _).trans (teq (by decide : (0 : Int32) = (0 : Int32))).1) (by decide) (by decide) ?_
       show Ends _ _ _ _ T177 (mkF m 287 #[ci p0, ci p1, cj q2, cs, ci p3, cr x5, ci 1, ci lv_, cj q8_, cs, cr si_, cj g_, cs, ci 3, ci cap_, ci 1, ci 1, ci 0, cu, cu, cu] []) _ _ _
       refine wic X177 hx hby at_287 ?_
       refine wst X177 hx hby at_288 (l' := #[ci p0, ci p1, cj q2, cs, ci p3, cr x5, ci 1, ci lv_, cj q8_, cs, cr si_, cj g_, cs, ci 3, ci cap_, ci 1, ci 1, ci 0, ci 0, cu, cu]) rfl ?_
       obtain ⟨rfl, hasc_⟩ : n_ = 2 ∧ ((pl_ = 1 ∧ (c1_ < (128 : Int32) ∧ c2_ < (128 : Int32))) ∨ (pl_ = 0 ∧ ¬ (c1_ < (128 : Int32) ∧ c2_ < (128 : Int32)))) := hR.elim (fun d => d.2.1.elim (fun z => absurd z hc180_174) (fun z => absurd hP175 z)) (fun o1 => o1.elim (fun d => d.2.2.1.elim (fun z => absurd z hc208_176) (fun z => absurd hP177 z)) (fun o2 => o2.elim (fun d => ⟨d.1, d.2.2.2.2⟩) (fun d => absurd d.2.2.2.1.1 (Classical.not_not.mpr hc238_178))))
       obtain rfl : g_ = (2 : Int64) := hg.trans (by decide)
       obtain rfl : p_ = (3 : Int32) := hp.trans (by decide)
       exact J290_1_2 _ _ _ x5 kx5 si_ lv_ cap_ pl_ q8_ X177 e177q O6 N177 K6 g_si_ sz_si_ E4 V6 Fb Fp Fa Fd hasc_
      ·refine wcn X177 hx hby at_238 (flt hc238_178).1 ?_
       refine wal X177 hx hby at_241 rfl rfl ?_
       refine wil X177 hx hby at_243 rfl ?_
       show Ends _ _ _ _ T177 (mkF m 245 #[ci p0, ci p1, cj q2, cs, ci p3, cr x5, ci 1, ci lv_, cj q8_, cs, cr si_, cj g_, cs, ci 3, ci cap_, ci 1, ci 1, cu, cu, cu, cu] [(.int 1), (.ref x5)]) _ _ _
       refine wic X177 hx hby at_245 ?_
       refine wia X177 hx hby at_246 ?_
       obtain ⟨_, _, ⟨T179, L179, k179, n179⟩, -, X179, ⟨Lc179, hQ179, l179, y179, z179⟩, st179⟩ := Jvm.LawKit.callS X177 hx (y := ym6) hown (mvT hZ (ow hw 115 rfl)) (mvT hZ (ow hw 116 rfl)) (mvT hZ (ow hw 117 rfl)) (mvT hZ (ow hw 118 rfl)) (by decide) (own_backOf (W := 0) (rm_plainAt_3 l Z a0 hw [] n0 h6 O6 x5 kx5 c0_ c1_ c2_ c3_ V6) hZ (ow hw 118 rfl) (ow hw 117 rfl) (by decide) (by decide)) (g := (mkF m 247 #[ci p0, ci p1, cj q2, cs, ci p3, cr x5, ci 1, ci lv_, cj q8_, cs, cr si_, cj g_, cs, ci 3, ci cap_, ci 1, ci 1, cu, cu, cu, cu] [(.int 3), (.ref x5)])) rfl (by rw [hml]; rfl) (argsL := [(.ref x5), (.int 3)]) (rest := []) (lenOf pdx_3 rfl) rfl (by show 2 * 0 + _ ≤ _; exact Nat.le_of_eq rfl) (hb hby at_247) (fun _ _ => ⟨rfl, e177q, (by decide : 8 + 0 ≤ _), (by decide : 48 + 0 ≤ _)⟩)
       dsimp only [Pt.U, Pt.locs, Pt.cells, Pt.slots] at X179 l179 y179 z179 st179 hQ179
       subst l179 y179 z179
       obtain ⟨r179, rfl, N179q, e179q, hr179⟩ := hQ179
       have N179 := Fr.app N177 N179q
       refine Ends.go st179 ?_
       rcases hr179 with ⟨rfl, hP179⟩ | ⟨rfl, hP179⟩
       ·show Ends _ _ _ _ T179 (mkF m 250 #[ci p0, ci p1, cj q2, cs, ci p3, cr x5, ci 1, ci lv_, cj q8_, cs, cr si_, cj g_, cs, ci 3, ci cap_, ci 1, ci 1, cu, cu, cu, cu] [(.int 1)]) _ _ _
        refine win X179 hx hby at_250 ((if0 _ _).trans (feq (by decide : ¬ ((1 : Int32) = (0 : Int32)))).1) ?_
        show Ends _ _ _ _ T179 (mkF m 253 #[ci p0, ci p1, cj q2, cs, ci p3, cr x5, ci 1, ci lv_, cj q8_, cs, cr si_, cj g_, cs, ci 3, ci cap_, ci 1, ci 1, cu, cu, cu, cu] []) _ _ _
        refine wic X179 hx hby at_253 ?_
        refine wgo (pc := 254) (pc' := 258) X179 hx hby at_254 (by decide) (by decide) ?_
        refine wst X179 hx hby at_258 (l' := #[ci p0, ci p1, cj q2, cs, ci p3, cr x5, ci 1, ci lv_, cj q8_, cs, cr si_, cj g_, cs, ci 3, ci cap_, ci 1, ci 1, ci 1, cu, cu, cu]) rfl ?_
        refine wil X179 hx hby at_260 rfl ?_
        refine win X179 hx hby at_262 ((if0 _ _).trans (feq (by decide : ¬ ((1 : Int32) = (0 : Int32)))).1) ?_
        show Ends _ _ _ _ T179 (mkF m 265 #[ci p0, ci p1, cj q2, cs, ci p3, cr x5, ci 1, ci lv_, cj q8_, cs, cr si_, cj g_, cs, ci 3, ci cap_, ci 1, ci 1, ci 1, cu, cu, cu] []) _ _ _
        refine wil X179 hx hby at_265 rfl ?_
        refine wic X179 hx hby at_267 ?_
        refine wcy (pc := 268) (pc' := 287) X179 hx hby at_268 (tlt ((own_caplt hcb (by decide)) : cap_ < (4 : Int32))).1 (by decide) (by decide) ?_
        refine wic X179 hx hby at_287 ?_
        refine wst X179 hx hby at_288 (l' := #[ci p0, ci p1, cj q2, cs, ci p3, cr x5, ci 1, ci lv_, cj q8_, cs, cr si_, cj g_, cs, ci 3, ci cap_, ci 1, ci 1, ci 1, ci 0, cu, cu]) rfl ?_
        show Ends _ _ _ _ T179 (mkF m 290 #[ci p0, ci p1, cj q2, cs, ci p3, cr x5, ci 1, ci lv_, cj q8_, cs, cr si_, cj g_, cs, ci 3, ci cap_, ci 1, ci 1, ci 1, ci 0, cu, cu] []) _ _ _
        obtain ⟨rfl, hasc_⟩ : n_ = 3 ∧ ((pl_ = 1 ∧ (c1_ < (128 : Int32) ∧ c2_ < (128 : Int32) ∧ c3_ < (128 : Int32))) ∨ (pl_ = 0 ∧ ¬ (c1_ < (128 : Int32) ∧ c2_ < (128 : Int32) ∧ c3_ < (128 : Int32)))) := hR.elim (fun d => d.2.1.elim (fun z => absurd z hc180_174) (fun z => absurd hP175 z)) (fun o1 => o1.elim (fun d => d.2.2.1.elim (fun z => absurd z hc208_176) (fun z => absurd hP177 z)) (fun o2 => o2.elim (fun d => d.2.2.2.1.elim (fun z => absurd z hc238_178) (fun z => absurd hP179 z)) (fun d => ⟨d.1, d.2.2.2.2⟩)))
        obtain rfl : g_ = (3 : Int64) := hg.trans (by decide)
        obtain rfl : p_ = (4 : Int32) := hp.trans (by decide)
        exact J290_1_3 _ _ _ x5 kx5 si_ lv_ cap_ pl_ q8_ X179 e179q O6 N179 K6 g_si_ sz_si_ E4 V6 Fb Fp Fa Fd hasc_
       ·show Ends _ _ _ _ T179 (mkF m 250 #[ci p0, ci p1, cj q2, cs, ci p3, cr x5, ci 1, ci lv_, cj q8_, cs, cr si_, cj g_, cs, ci 3, ci cap_, ci 1, ci 1, cu, cu, cu, cu] [(.int 0)]) _ _ _
        refine wiy (pc := 250) (pc' := 257) X179 hx hby at_250 ((if0 _ _).trans (teq (by decide : (0 : Int32) = (0 : Int32))).1) (by decide) (by decide) ?_
        refine wic X179 hx hby at_257 ?_
        refine wst X179 hx hby at_258 (l' := #[ci p0, ci p1, cj q2, cs, ci p3, cr x5, ci 1, ci lv_, cj q8_, cs, cr si_, cj g_, cs, ci 3, ci cap_, ci 1, ci 1, ci 0, cu, cu, cu]) rfl ?_
        refine wil X179 hx hby at_260 rfl ?_
        show Ends _ _ _ _ T179 (mkF m 262 #[ci p0, ci p1, cj q2, cs, ci p3, cr x5, ci 1, ci lv_, cj q8_, cs, cr si_, cj g_, cs, ci 3, ci cap_, ci 1, ci 1, ci 0, cu, cu, cu] [(.int 0)]) _ _ _
        refine wiy (pc := 262) (pc' := 287) X179 hx hby at_262 ((if0 _ _).trans (teq (by decide : (0 : Int32) = (0 : Int32))).1) (by decide) (by decide) ?_
        refine wic X179 hx hby at_287 ?_
        refine wst X179 hx hby at_288 (l' := #[ci p0, ci p1, cj q2, cs, ci p3, cr x5, ci 1, ci lv_, cj q8_, cs, cr si_, cj g_, cs, ci 3, ci cap_, ci 1, ci 1, ci 0, ci 0, cu, cu]) rfl ?_
        obtain ⟨rfl, hasc_⟩ : n_ = 2 ∧ ((pl_ = 1 ∧ (c1_ < (128 : Int32) ∧ c2_ < (128 : Int32))) ∨ (pl_ = 0 ∧ ¬ (c1_ < (128 : Int32) ∧ c2_ < (128 : Int32)))) := hR.elim (fun d => d.2.1.elim (fun z => absurd z hc180_174) (fun z => absurd hP175 z)) (fun o1 => o1.elim (fun d => d.2.2.1.elim (fun z => absurd z hc208_176) (fun z => absurd hP177 z)) (fun o2 => o2.elim (fun d => ⟨d.1, d.2.2.2.2⟩) (fun d => absurd d.2.2.2.1.2 hP179)))
        obtain rfl : g_ = (2 : Int64) := hg.trans (by decide)
        obtain rfl : p_ = (3 : Int32) := hp.trans (by decide)
        exact J290_1_2 _ _ _ x5 kx5 si_ lv_ cap_ pl_ q8_ X179 e179q O6 N179 K6 g_si_ sz_si_ E4 V6 Fb Fp Fa Fd hasc_
     ·show Ends _ _ _ _ T177 (mkF m 220 #[ci p0, ci p1, cj q2, cs, ci p3, cr x5, ci 1, ci lv_, cj q8_, cs, cr si_, cj g_, cs, ci 3, ci cap_, ci 1, cu, cu, cu, cu, cu] [(.int 0)]) _ _ _
      refine wiy (pc := 220) (pc' := 227) X177 hx hby at_220 ((if0 _ _).trans (teq (by decide : (0 : Int32) = (0 : Int32))).1) (by decide) (by decide) ?_
      show Ends _ _ _ _ T177 (mkF m 227 #[ci p0, ci p1, cj q2, cs, ci p3, cr x5, ci 1, ci lv_, cj q8_, cs, cr si_, cj g_, cs, ci 3, ci cap_, ci 1, cu, cu, cu, cu, cu] []) _ _ _
      refine wic X177 hx hby at_227 ?_
      refine wst X177 hx hby at_228 (l' := #[ci p0, ci p1, cj q2, cs, ci p3, cr x5, ci 1, ci lv_, cj q8_, cs, cr si_, cj g_, cs, ci 3, ci cap_, ci 1, ci 0, cu, cu, cu, cu]) rfl ?_
      refine wil X177 hx hby at_230 rfl ?_
      refine wiy (pc := 232) (pc' := 257) X177 hx hby at_232 ((if0 _ _).trans (teq (by decide : (0 : Int32) = (0 : Int32))).1) (by decide) (by decide) ?_
      refine wic X177 hx hby at_257 ?_
      show Ends _ _ _ _ T177 (mkF m 258 #[ci p0, ci p1, cj q2, cs, ci p3, cr x5, ci 1, ci lv_, cj q8_, cs, cr si_, cj g_, cs, ci 3, ci cap_, ci 1, ci 0, cu, cu, cu, cu] [(.int 0)]) _ _ _
      refine wst X177 hx hby at_258 (l' := #[ci p0, ci p1, cj q2, cs, ci p3, cr x5, ci 1, ci lv_, cj q8_, cs, cr si_, cj g_, cs, ci 3, ci cap_, ci 1, ci 0, ci 0, cu, cu, cu]) rfl ?_
      refine wil X177 hx hby at_260 rfl ?_
      refine wiy (pc := 262) (pc' := 287) X177 hx hby at_262 ((if0 _ _).trans (teq (by decide : (0 : Int32) = (0 : Int32))).1) (by decide) (by decide) ?_
      refine wic X177 hx hby at_287 ?_
      refine wst X177 hx hby at_288 (l' := #[ci p0, ci p1, cj q2, cs, ci p3, cr x5, ci 1, ci lv_, cj q8_, cs, cr si_, cj g_, cs, ci 3, ci cap_, ci 1, ci 0, ci 0, ci 0, cu, cu]) rfl ?_
      show Ends _ _ _ _ T177 (mkF m 290 #[ci p0, ci p1, cj q2, cs, ci p3, cr x5, ci 1, ci lv_, cj q8_, cs, cr si_, cj g_, cs, ci 3, ci cap_, ci 1, ci 0, ci 0, ci 0, cu, cu] []) _ _ _
      obtain ⟨rfl, hasc_⟩ : n_ = 1 ∧ ((pl_ = 1 ∧ (c1_ < (128 : Int32))) ∨ (pl_ = 0 ∧ ¬ (c1_ < (128 : Int32)))) := hR.elim (fun d => d.2.1.elim (fun z => absurd z hc180_174) (fun z => absurd hP175 z)) (fun o1 => o1.elim (fun d => ⟨d.1, d.2.2.2⟩) (fun o2 => o2.elim (fun d => absurd d.2.2.1.2 hP177) (fun d => absurd d.2.2.1.2 hP177)))
      obtain rfl : g_ = (1 : Int64) := hg.trans (by decide)
      obtain rfl : p_ = (2 : Int32) := hp.trans (by decide)
      exact J290_1_1 _ _ _ x5 kx5 si_ lv_ cap_ pl_ q8_ X177 e177q O6 N177 K6 g_si_ sz_si_ E4 V6 Fb Fp Fa Fd hasc_
   ·show Ends _ _ _ _ T175 (mkF m 190 #[ci p0, ci p1, cj q2, cs, ci p3, cr x5, ci 1, ci lv_, cj q8_, cs, cr si_, cj g_, cs, ci 3, ci cap_, cu, cu, cu, cu, cu, cu] [(.int 0)]) _ _ _
    refine wiy (pc := 190) (pc' := 197) X175 hx hby at_190 ((if0 _ _).trans (teq (by decide : (0 : Int32) = (0 : Int32))).1) (by decide) (by decide) ?_
    refine wic X175 hx hby at_197 ?_
    refine wst X175 hx hby at_198 (l' := #[ci p0, ci p1, cj q2, cs, ci p3, cr x5, ci 1, ci lv_, cj q8_, cs, cr si_, cj g_, cs, ci 3, ci cap_, ci 0, cu, cu, cu, cu, cu]) rfl ?_
    refine wil X175 hx hby at_200 rfl ?_
    show Ends _ _ _ _ T175 (mkF m 202 #[ci p0, ci p1, cj q2, cs, ci p3, cr x5, ci 1, ci lv_, cj q8_, cs, cr si_, cj g_, cs, ci 3, ci cap_, ci 0, cu, cu, cu, cu, cu] [(.int 0)]) _ _ _
    refine wiy (pc := 202) (pc' := 227) X175 hx hby at_202 ((if0 _ _).trans (teq (by decide : (0 : Int32) = (0 : Int32))).1) (by decide) (by decide) ?_
    refine wic X175 hx hby at_227 ?_
    refine wst X175 hx hby at_228 (l' := #[ci p0, ci p1, cj q2, cs, ci p3, cr x5, ci 1, ci lv_, cj q8_, cs, cr si_, cj g_, cs, ci 3, ci cap_, ci 0, ci 0, cu, cu, cu, cu]) rfl ?_
    refine wil X175 hx hby at_230 rfl ?_
    refine wiy (pc := 232) (pc' := 257) X175 hx hby at_232 ((if0 _ _).trans (teq (by decide : (0 : Int32) = (0 : Int32))).1) (by decide) (by decide) ?_
    show Ends _ _ _ _ T175 (mkF m 257 #[ci p0, ci p1, cj q2, cs, ci p3, cr x5, ci 1, ci lv_, cj q8_, cs, cr si_, cj g_, cs, ci 3, ci cap_, ci 0, ci 0, cu, cu, cu, cu] []) _ _ _
    refine wic X175 hx hby at_257 ?_
    refine wst X175 hx hby at_258 (l' := #[ci p0, ci p1, cj q2, cs, ci p3, cr x5, ci 1, ci lv_, cj q8_, cs, cr si_, cj g_, cs, ci 3, ci cap_, ci 0, ci 0, ci 0, cu, cu, cu]) rfl ?_
    refine wil X175 hx hby at_260 rfl ?_
    refine wiy (pc := 262) (pc' := 287) X175 hx hby at_262 ((if0 _ _).trans (teq (by decide : (0 : Int32) = (0 : Int32))).1) (by decide) (by decide) ?_
    refine wic X175 hx hby at_287 ?_
    show Ends _ _ _ _ T175 (mkF m 288 #[ci p0, ci p1, cj q2, cs, ci p3, cr x5, ci 1, ci lv_, cj q8_, cs, cr si_, cj g_, cs, ci 3, ci cap_, ci 0, ci 0, ci 0, cu, cu, cu] [(.int 0)]) _ _ _
    refine wst X175 hx hby at_288 (l' := #[ci p0, ci p1, cj q2, cs, ci p3, cr x5, ci 1, ci lv_, cj q8_, cs, cr si_, cj g_, cs, ci 3, ci cap_, ci 0, ci 0, ci 0, ci 0, cu, cu]) rfl ?_
    obtain ⟨rfl, hasc_⟩ : n_ = 0 ∧ ((pl_ = 1 ∧ (True)) ∨ (pl_ = 0 ∧ ¬ (True))) := hR.elim (fun d => ⟨d.1, d.2.2⟩) (fun o1 => o1.elim (fun d => absurd d.2.1.2 hP175) (fun o2 => o2.elim (fun d => absurd d.2.1.2 hP175) (fun d => absurd d.2.1.2 hP175)))
    obtain rfl : g_ = (0 : Int64) := hg.trans (by decide)
    obtain rfl : p_ = (1 : Int32) := hp.trans (by decide)
    exact J290_1_0 _ _ _ x5 kx5 si_ lv_ cap_ pl_ q8_ X175 e175q O6 N175 K6 g_si_ sz_si_ E4 V6 Fb Fp Fa Fd hasc_
 have J177_2 : ∀ (T6 : State) (h6 : Heap) (lcs : List Loc) (x5 : Addr) (kx5 : ClassId) (si_ : Addr) (lv_ : Int32) (cap_ : Int32) (pl_ : Int32) (n_ : Int32) (p_ : Int32) (q8_ : Int64) (g_ : Int64) (X6 : Stand p l e room_1 s m #[(.int p0), (.int p1), (.long q2), (.int p3)] below meth c T6 lcs 8 48) (eT6 : T6.heap = h6) (O6 : Old Z n0 h6) (N6 : Fr n0 lcs) (K6 : Keep h0 h6 []) (g_si_ : n0 ≤ si_) (sz_si_ : h0.size ≤ si_) (E4 : Exa Z h6 si_ cSI) (V6 : Arv Z h6 x5 kx5 .char (4 : Int32) [(.int c0_), (.int c1_), (.int c2_), (.int c3_)] (.int 0)) (Fb : Fld Z h6 si_ cSI "base" "I" (.int 0)) (Fp : Fld Z h6 si_ cSI "position" "I" (.int p_)) (Fa : Fld Z h6 si_ cSI "ascii" "Z" (.int pl_)) (Fd : Fld Z h6 si_ "com/example/ratatoskr/ratatoskr/core/internal/Input" "decoded" "Lcom/example/ratatoskr/ratatoskr/core/internal/DecodedChars;" .null) (hg : g_ = n_.toInt64) (hp : p_ = (2 : Int32) + n_) (hcb : cap_.toInt ≤ 2) (hR : (n_ = 0 ∧ (cap_ < 1 ∨ ¬ own_pl c2_) ∧ ((pl_ = 1 ∧ (True)) ∨ (pl_ = 0 ∧ ¬ (True)))) ∨ (n_ = 1 ∧ (¬ cap_ < 1 ∧ own_pl c2_) ∧ (cap_ < 2 ∨ ¬ own_pl c3_) ∧ ((pl_ = 1 ∧ (c2_ < (128 : Int32))) ∨ (pl_ = 0 ∧ ¬ (c2_ < (128 : Int32))))) ∨ (n_ = 2 ∧ (¬ cap_ < 1 ∧ own_pl c2_) ∧ (¬ cap_ < 2 ∧ own_pl c3_) ∧ ((pl_ = 1 ∧ (c2_ < (128 : Int32) ∧ c3_ < (128 : Int32))) ∨ (pl_ = 0 ∧ ¬ (c2_ < (128 : Int32) ∧ c3_ < (128 : Int32)))))), Ends p e below s T6 (mkF m 177 #[ci p0, ci p1, cj q2, cs, ci p3, cr x5, ci 2, ci lv_, cj q8_, cs, cr si_, cj g_, cs, ci 2, ci cap_, cu, cu, cu, cu, cu, cu] []) room_1.cells room_1.slots (fun v h L => v = some (.int 1) ∧ Fr n0 L) := by
  intro T6 h6 lcs x5 kx5 si_ lv_ cap_ pl_ n_ p_ q8_ g_ X6 eT6 O6 N6 K6 g_si_ sz_si_ E4 V6 Fb Fp Fa Fd hg hp hcb hR
  show Ends _ _ _ _ T6 (mkF m 177 #[ci p0, ci p1, cj q2, cs, ci p3, cr x5, ci 2, ci lv_, cj q8_, cs, cr si_, cj g_, cs, ci 2, ci cap_, cu, cu, cu, cu, cu, cu] []) _ _ _
  refine wil X6 hx hby at_177 rfl ?_
  refine wic X6 hx hby at_179 ?_
  by_cases hc180_180 : cap_ < (1 : Int32)
  ·refine wcy (pc := 180) (pc' := 197) X6 hx hby at_180 (tlt hc180_180).1 (by decide) (by decide) ?_
   show Ends _ _ _ _ T6 (mkF m 197 #[ci p0, ci p1, cj q2, cs, ci p3, cr x5, ci 2, ci lv_, cj q8_, cs, cr si_, cj g_, cs, ci 2, ci cap_, cu, cu, cu, cu, cu, cu] []) _ _ _
   refine wic X6 hx hby at_197 ?_
   refine wst X6 hx hby at_198 (l' := #[ci p0, ci p1, cj q2, cs, ci p3, cr x5, ci 2, ci lv_, cj q8_, cs, cr si_, cj g_, cs, ci 2, ci cap_, ci 0, cu, cu, cu, cu, cu]) rfl ?_
   refine wil X6 hx hby at_200 rfl ?_
   refine wiy (pc := 202) (pc' := 227) X6 hx hby at_202 ((if0 _ _).trans (teq (by decide : (0 : Int32) = (0 : Int32))).1) (by decide) (by decide) ?_
   refine wic X6 hx hby at_227 ?_
   show Ends _ _ _ _ T6 (mkF m 228 #[ci p0, ci p1, cj q2, cs, ci p3, cr x5, ci 2, ci lv_, cj q8_, cs, cr si_, cj g_, cs, ci 2, ci cap_, ci 0, cu, cu, cu, cu, cu] [(.int 0)]) _ _ _
   refine wst X6 hx hby at_228 (l' := #[ci p0, ci p1, cj q2, cs, ci p3, cr x5, ci 2, ci lv_, cj q8_, cs, cr si_, cj g_, cs, ci 2, ci cap_, ci 0, ci 0, cu, cu, cu, cu]) rfl ?_
   refine wil X6 hx hby at_230 rfl ?_
   refine wiy (pc := 232) (pc' := 257) X6 hx hby at_232 ((if0 _ _).trans (teq (by decide : (0 : Int32) = (0 : Int32))).1) (by decide) (by decide) ?_
   refine wic X6 hx hby at_257 ?_
   refine wst X6 hx hby at_258 (l' := #[ci p0, ci p1, cj q2, cs, ci p3, cr x5, ci 2, ci lv_, cj q8_, cs, cr si_, cj g_, cs, ci 2, ci cap_, ci 0, ci 0, ci 0, cu, cu, cu]) rfl ?_
   show Ends _ _ _ _ T6 (mkF m 260 #[ci p0, ci p1, cj q2, cs, ci p3, cr x5, ci 2, ci lv_, cj q8_, cs, cr si_, cj g_, cs, ci 2, ci cap_, ci 0, ci 0, ci 0, cu, cu, cu] []) _ _ _
   refine wil X6 hx hby at_260 rfl ?_
   refine wiy (pc := 262) (pc' := 287) X6 hx hby at_262 ((if0 _ _).trans (teq (by decide : (0 : Int32) = (0 : Int32))).1) (by decide) (by decide) ?_
   refine wic X6 hx hby at_287 ?_
   refine wst X6 hx hby at_288 (l' := #[ci p0, ci p1, cj q2, cs, ci p3, cr x5, ci 2, ci lv_, cj q8_, cs, cr si_, cj g_, cs, ci 2, ci cap_, ci 0, ci 0, ci 0, ci 0, cu, cu]) rfl ?_
   obtain ⟨rfl, hasc_⟩ : n_ = 0 ∧ ((pl_ = 1 ∧ (True)) ∨ (pl_ = 0 ∧ ¬ (True))) := hR.elim (fun d => ⟨d.1, d.2.2⟩) (fun o1 => o1.elim (fun d => absurd d.2.1.1 (Classical.not_not.mpr hc180_180)) (fun d => absurd d.2.1.1 (Classical.not_not.mpr hc180_180)))
   obtain rfl : g_ = (0 : Int64) := hg.trans (by decide)
   obtain rfl : p_ = (2 : Int32) := hp.trans (by decide)
   exact J290_2_0 _ _ _ x5 kx5 si_ lv_ cap_ pl_ q8_ X6 eT6 O6 N6 K6 g_si_ sz_si_ E4 V6 Fb Fp Fa Fd hasc_
  ·refine wcn X6 hx hby at_180 (flt hc180_180).1 ?_
   show Ends _ _ _ _ T6 (mkF m 183 #[ci p0, ci p1, cj q2, cs, ci p3, cr x5, ci 2, ci lv_, cj q8_, cs, cr si_, cj g_, cs, ci 2, ci cap_, cu, cu, cu, cu, cu, cu] []) _ _ _
   refine wal X6 hx hby at_183 rfl rfl ?_
   refine wil X6 hx hby at_185 rfl ?_
   obtain ⟨_, _, ⟨T181, L181, k181, n181⟩, -, X181, ⟨Lc181, hQ181, l181, y181, z181⟩, st181⟩ := Jvm.LawKit.callS X6 hx (y := ym6) hown (mvT hZ (ow hw 115 rfl)) (mvT hZ (ow hw 116 rfl)) (mvT hZ (ow hw 117 rfl)) (mvT hZ (ow hw 118 rfl)) (by decide) (own_backOf (W := 0) (rm_plainAt_2 l Z a0 hw [] n0 h6 O6 x5 kx5 c0_ c1_ c2_ c3_ V6) hZ (ow hw 118 rfl) (ow hw 117 rfl) (by decide) (by decide)) (g := (mkF m 187 #[ci p0, ci p1, cj q2, cs, ci p3, cr x5, ci 2, ci lv_, cj q8_, cs, cr si_, cj g_, cs, ci 2, ci cap_, cu, cu, cu, cu, cu, cu] [(.int 2), (.ref x5)])) rfl (by rw [hml]; rfl) (argsL := [(.ref x5), (.int 2)]) (rest := []) (lenOf pdx_3 rfl) rfl (by show 2 * 0 + _ ≤ _; exact Nat.le_of_eq rfl) (hb hby at_187) (fun _ _ => ⟨rfl, eT6, (by decide : 8 + 0 ≤ _), (by decide : 48 + 0 ≤ _)⟩)
   dsimp only [Pt.U, Pt.locs, Pt.cells, Pt.slots] at X181 l181 y181 z181 st181 hQ181
   subst l181 y181 z181
   obtain ⟨r181, rfl, N181q, e181q, hr181⟩ := hQ181
   have N181 := Fr.app N6 N181q
   refine Ends.go st181 ?_
   rcases hr181 with ⟨rfl, hP181⟩ | ⟨rfl, hP181⟩
   ·show Ends _ _ _ _ T181 (mkF m 190 #[ci p0, ci p1, cj q2, cs, ci p3, cr x5, ci 2, ci lv_, cj q8_, cs, cr si_, cj g_, cs, ci 2, ci cap_, cu, cu, cu, cu, cu, cu] [(.int 1)]) _ _ _
    refine win X181 hx hby at_190 ((if0 _ _).trans (feq (by decide : ¬ ((1 : Int32) = (0 : Int32)))).1) ?_
    show Ends _ _ _ _ T181 (mkF m 193 #[ci p0, ci p1, cj q2, cs, ci p3, cr x5, ci 2, ci lv_, cj q8_, cs, cr si_, cj g_, cs, ci 2, ci cap_, cu, cu, cu, cu, cu, cu] []) _ _ _
    refine wic X181 hx hby at_193 ?_
    refine wgo (pc := 194) (pc' := 198) X181 hx hby at_194 (by decide) (by decide) ?_
    refine wst X181 hx hby at_198 (l' := #[ci p0, ci p1, cj q2, cs, ci p3, cr x5, ci 2, ci lv_, cj q8_, cs, cr si_, cj g_, cs, ci 2, ci cap_, ci 1, cu, cu, cu, cu, cu]) rfl ?_
    refine wil X181 hx hby at_200 rfl ?_
    refine win X181 hx hby at_202 ((if0 _ _).trans (feq (by decide : ¬ ((1 : Int32) = (0 : Int32)))).1) ?_
    show Ends _ _ _ _ T181 (mkF m 205 #[ci p0, ci p1, cj q2, cs, ci p3, cr x5, ci 2, ci lv_, cj q8_, cs, cr si_, cj g_, cs, ci 2, ci cap_, ci 1, cu, cu, cu, cu, cu] []) _ _ _
    refine wil X181 hx hby at_205 rfl ?_
    refine wic X181 hx hby at_207 ?_
    by_cases hc208_182 : cap_ < (2 : Int32)
    ·refine wcy (pc := 208) (pc' := 227) X181 hx hby at_208 (tlt hc208_182).1 (by decide) (by decide) ?_
     refine wic X181 hx hby at_227 ?_
     refine wst X181 hx hby at_228 (l' := #[ci p0, ci p1, cj q2, cs, ci p3, cr x5, ci 2, ci lv_, cj q8_, cs, cr si_, cj g_, cs, ci 2, ci cap_, ci 1, ci 0, cu, cu, cu, cu]) rfl ?_
     show Ends _ _ _ _ T181 (mkF m 230 #[ci p0, ci p1, cj q2, cs, ci p3, cr x5, ci 2, ci lv_, cj q8_, cs, cr si_, cj g_, cs, ci 2, ci cap_, ci 1, ci 0, cu, cu, cu, cu] []) _ _ _
     refine wil X181 hx hby at_230 rfl ?_
     refine wiy (pc := 232) (pc' := 257) X181 hx hby at_232 ((if0 _ _).trans (teq (by decide : (0 : Int32) = (0 : Int32))).1) (by decide) (by decide) ?_
     refine wic X181 hx hby at_257 ?_
     refine wst X181 hx hby at_258 (l' := #[ci p0, ci p1, cj q2, cs, ci p3, cr x5, ci 2, ci lv_, cj q8_, cs, cr si_, cj g_, cs, ci 2, ci cap_, ci 1, ci 0, ci 0, cu, cu, cu]) rfl ?_
     refine wil X181 hx hby at_260 rfl ?_
     show Ends _ _ _ _ T181 (mkF m 262 #[ci p0, ci p1, cj q2, cs, ci p3, cr x5, ci 2, ci lv_, cj q8_, cs, cr si_, cj g_, cs, ci 2, ci cap_, ci 1, ci 0, ci 0, cu, cu, cu] [(.int 0)]) _ _ _
     refine wiy (pc := 262) (pc' := 287) X181 hx hby at_262 ((if0 _ _).trans (teq (by decide : (0 : Int32) = (0 : Int32))).1) (by decide) (by decide) ?_
     refine wic X181 hx hby at_287 ?_
     refine wst X181 hx hby at_288 (l' := #[ci p0, ci p1, cj q2, cs, ci p3, cr x5, ci 2, ci lv_, cj q8_, cs, cr si_, cj g_, cs, ci 2, ci cap_, ci 1, ci 0, ci 0, ci 0, cu, cu]) rfl ?_
     obtain ⟨rfl, hasc_⟩ : n_ = 1 ∧ ((pl_ = 1 ∧ (c2_ < (128 : Int32))) ∨ (pl_ = 0 ∧ ¬ (c2_ < (128 : Int32)))) := hR.elim (fun d => d.2.1.elim (fun z => absurd z hc180_180) (fun z => absurd hP181 z)) (fun o1 => o1.elim (fun d => ⟨d.1, d.2.2.2⟩) (fun d => absurd d.2.2.1.1 (Classical.not_not.mpr hc208_182)))
     obtain rfl : g_ = (1 : Int64) := hg.trans (by decide)
     obtain rfl : p_ = (3 : Int32) := hp.trans (by decide)
     exact J290_2_1 _ _ _ x5 kx5 si_ lv_ cap_ pl_ q8_ X181 e181q O6 N181 K6 g_si_ sz_si_ E4 V6 Fb Fp Fa Fd hasc_
    ·refine wcn X181 hx hby at_208 (flt hc208_182).1 ?_
     refine wal X181 hx hby at_211 rfl rfl ?_
     show Ends _ _ _ _ T181 (mkF m 213 #[ci p0, ci p1, cj q2, cs, ci p3, cr x5, ci 2, ci lv_, cj q8_, cs, cr si_, cj g_, cs, ci 2, ci cap_, ci 1, cu, cu, cu, cu, cu] [(.ref x5)]) _ _ _
     refine wil X181 hx hby at_213 rfl ?_
     refine wic X181 hx hby at_215 ?_
     refine wia X181 hx hby at_216 ?_
     obtain ⟨_, _, ⟨T183, L183, k183, n183⟩, -, X183, ⟨Lc183, hQ183, l183, y183, z183⟩, st183⟩ := Jvm.LawKit.callS X181 hx (y := ym6) hown (mvT hZ (ow hw 115 rfl)) (mvT hZ (ow hw 116 rfl)) (mvT hZ (ow hw 117 rfl)) (mvT hZ (ow hw 118 rfl)) (by decide) (own_backOf (W := 0) (rm_plainAt_3 l Z a0 hw [] n0 h6 O6 x5 kx5 c0_ c1_ c2_ c3_ V6) hZ (ow hw 118 rfl) (ow hw 117 rfl) (by decide) (by decide)) (g := (mkF m 217 #[ci p0, ci p1, cj q2, cs, ci p3, cr x5, ci 2, ci lv_, cj q8_, cs, cr si_, cj g_, cs, ci 2, ci cap_, ci 1, cu, cu, cu, cu, cu] [(.int 3), (.ref x5)])) rfl (by rw [hml]; rfl) (argsL := [(.ref x5), (.int 3)]) (rest := []) (lenOf pdx_3 rfl) rfl (by show 2 * 0 + _ ≤ _; exact Nat.le_of_eq rfl) (hb hby at_217) (fun _ _ => ⟨rfl, e181q, (by decide : 8 + 0 ≤ _), (by decide : 48 + 0 ≤ _)⟩)
     dsimp only [Pt.U, Pt.locs, Pt.cells, Pt.slots] at X183 l183 y183 z183 st183 hQ183
     subst l183 y183 z183
     obtain ⟨r183, rfl, N183q, e183q, hr183⟩ := hQ183
     have N183 := Fr.app N181 N183q
     refine Ends.go st183 ?_
     rcases hr183 with ⟨rfl, hP183⟩ | ⟨rfl, hP183⟩
     ·show Ends _ _ _ _ T183 (mkF m 220 #[ci p0, ci p1, cj q2, cs, ci p3, cr x5, ci 2, ci lv_, cj q8_, cs, cr si_, cj g_, cs, ci 2, ci cap_, ci 1, cu, cu, cu, cu, cu] [(.int 1)]) _ _ _
      refine win X183 hx hby at_220 ((if0 _ _).trans (feq (by decide : ¬ ((1 : Int32) = (0 : Int32)))).1) ?_
      refine wic X183 hx hby at_223 ?_
      refine wgo (pc := 224) (pc' := 228) X183 hx hby at_224 (by decide) (by decide) ?_
      refine wst X183 hx hby at_228 (l' := #[ci p0, ci p1, cj q2, cs, ci p3, cr x5, ci 2, ci lv_, cj q8_, cs, cr si_, cj g_, cs, ci 2, ci cap_, ci 1, ci 1, cu, cu, cu, cu]) rfl ?_
      refine wil X183 hx hby at_230 rfl ?_
      show Ends _ _ _ _ T183 (mkF m 232 #[ci p0, ci p1, cj q2, cs, ci p3, cr x5, ci 2, ci lv_, cj q8_, cs, cr si_, cj g_, cs, ci 2, ci cap_, ci 1, ci 1, cu, cu, cu, cu] [(.int 1)]) _ _ _
      refine win X183 hx hby at_232 ((if0 _ _).trans (feq (by decide : ¬ ((1 : Int32) = (0 : Int32)))).1) ?_
      refine wil X183 hx hby at_235 rfl ?_
      refine wic X183 hx hby at_237 ?_
      refine wcy (pc := 238) (pc' := 257) X183 hx hby at_238 (tlt ((own_caplt hcb (by decide)) : cap_ < (3 : Int32))).1 (by decide) (by decide) ?_
      refine wic X183 hx hby at_257 ?_
      show Ends _ _ _ _ T183 (mkF m 258 #[ci p0, ci p1, cj q2, cs, ci p3, cr x5, ci 2, ci lv_, cj q8_, cs, cr si_, cj g_, cs, ci 2, ci cap_, ci 1, ci 1, cu, cu, cu, cu] [(.int 0)]) _ _ _
      refine wst X183 hx hby at_258 (l' := #[ci p0, ci p1, cj q2, cs, ci p3, cr x5, ci 2, ci lv_, cj q8_, cs, cr si_, cj g_, cs, ci 2, ci cap_, ci 1, ci 1, ci 0, cu, cu, cu]) rfl ?_
      refine wil X183 hx hby at_260 rfl ?_
      refine wiy (pc := 262) (pc' := 287) X183 hx hby at_262 ((if0 _ _).trans (teq (by decide : (0 : Int32) = (0 : Int32))).1) (by decide) (by decide) ?_
      refine wic X183 hx hby at_287 ?_
      refine wst X183 hx hby at_288 (l' := #[ci p0, ci p1, cj q2, cs, ci p3, cr x5, ci 2, ci lv_, cj q8_, cs, cr si_, cj g_, cs, ci 2, ci cap_, ci 1, ci 1, ci 0, ci 0, cu, cu]) rfl ?_
      show Ends _ _ _ _ T183 (mkF m 290 #[ci p0, ci p1, cj q2, cs, ci p3, cr x5, ci 2, ci lv_, cj q8_, cs, cr si_, cj g_, cs, ci 2, ci cap_, ci 1, ci 1, ci 0, ci 0, cu, cu] []) _ _ _
      obtain ⟨rfl, hasc_⟩ : n_ = 2 ∧ ((pl_ = 1 ∧ (c2_ < (128 : Int32) ∧ c3_ < (128 : Int32))) ∨ (pl_ = 0 ∧ ¬ (c2_ < (128 : Int32) ∧ c3_ < (128 : Int32)))) := hR.elim (fun d => d.2.1.elim (fun z => absurd z hc180_180) (fun z => absurd hP181 z)) (fun o1 => o1.elim (fun d => d.2.2.1.elim (fun z => absurd z hc208_182) (fun z => absurd hP183 z)) (fun d => ⟨d.1, d.2.2.2⟩))
      obtain rfl : g_ = (2 : Int64) := hg.trans (by decide)
      obtain rfl : p_ = (4 : Int32) := hp.trans (by decide)
      exact J290_2_2 _ _ _ x5 kx5 si_ lv_ cap_ pl_ q8_ X183 e183q O6 N183 K6 g_si_ sz_si_ E4 V6 Fb Fp Fa Fd hasc_
     ·show Ends _ _ _ _ T183 (mkF m 220 #[ci p0, ci p1, cj q2, cs, ci p3, cr x5, ci 2, ci lv_, cj q8_, cs, cr si_, cj g_, cs, ci 2, ci cap_, ci 1, cu, cu, cu, cu, cu] [(.int 0)]) _ _ _
      refine wiy (pc := 220) (pc' := 227) X183 hx hby at_220 ((if0 _ _).trans (teq (by decide : (0 : Int32) = (0 : Int32))).1) (by decide) (by decide) ?_
      refine wic X183 hx hby at_227 ?_
      refine wst X183 hx hby at_228 (l' := #[ci p0, ci p1, cj q2, cs, ci p3, cr x5, ci 2, ci lv_, cj q8_, cs, cr si_, cj g_, cs, ci 2, ci cap_, ci 1, ci 0, cu, cu, cu, cu]) rfl ?_
      refine wil X183 hx hby at_230 rfl ?_
      show Ends _ _ _ _ T183 (mkF m 232 #[ci p0, ci p1, cj q2, cs, ci p3, cr x5, ci 2, ci lv_, cj q8_, cs, cr si_, cj g_, cs, ci 2, ci cap_, ci 1, ci 0, cu, cu, cu, cu] [(.int 0)]) _ _ _
      refine wiy (pc := 232) (pc' := 257) X183 hx hby at_232 ((if0 _ _).trans (teq (by decide : (0 : Int32) = (0 : Int32))).1) (by decide) (by decide) ?_
      refine wic X183 hx hby at_257 ?_
      refine wst X183 hx hby at_258 (l' := #[ci p0, ci p1, cj q2, cs, ci p3, cr x5, ci 2, ci lv_, cj q8_, cs, cr si_, cj g_, cs, ci 2, ci cap_, ci 1, ci 0, ci 0, cu, cu, cu]) rfl ?_
      refine wil X183 hx hby at_260 rfl ?_
      refine wiy (pc := 262) (pc' := 287) X183 hx hby at_262 ((if0 _ _).trans (teq (by decide : (0 : Int32) = (0 : Int32))).1) (by decide) (by decide) ?_
      show Ends _ _ _ _ T183 (mkF m 287 #[ci p0, ci p1, cj q2, cs, ci p3, cr x5, ci 2, ci lv_, cj q8_, cs, cr si_, cj g_, cs, ci 2, ci cap_, ci 1, ci 0, ci 0, cu, cu, cu] []) _ _ _
      refine wic X183 hx hby at_287 ?_
      refine wst X183 hx hby at_288 (l' := #[ci p0, ci p1, cj q2, cs, ci p3, cr x5, ci 2, ci lv_, cj q8_, cs, cr si_, cj g_, cs, ci 2, ci cap_, ci 1, ci 0, ci 0, ci 0, cu, cu]) rfl ?_
      obtain ⟨rfl, hasc_⟩ : n_ = 1 ∧ ((pl_ = 1 ∧ (c2_ < (128 : Int32))) ∨ (pl_ = 0 ∧ ¬ (c2_ < (128 : Int32)))) := hR.elim (fun d => d.2.1.elim (fun z => absurd z hc180_180) (fun z => absurd hP181 z)) (fun o1 => o1.elim (fun d => ⟨d.1, d.2.2.2⟩) (fun d => absurd d.2.2.1.2 hP183))
      obtain rfl : g_ = (1 : Int64) := hg.trans (by decide)
      obtain rfl : p_ = (3 : Int32) := hp.trans (by decide)
      exact J290_2_1 _ _ _ x5 kx5 si_ lv_ cap_ pl_ q8_ X183 e183q O6 N183 K6 g_si_ sz_si_ E4 V6 Fb Fp Fa Fd hasc_
   ·show Ends _ _ _ _ T181 (mkF m 190 #[ci p0, ci p1, cj q2, cs, ci p3, cr x5, ci 2, ci lv_, cj q8_, cs, cr si_, cj g_, cs, ci 2, ci cap_, cu, cu, cu, cu, cu, cu] [(.int 0)]) _ _ _
    refine wiy (pc := 190) (pc' := 197) X181 hx hby at_190 ((if0 _ _).trans (teq (by decide : (0 : Int32) = (0 : Int32))).1) (by decide) (by decide) ?_
    refine wic X181 hx hby at_197 ?_
    show Ends _ _ _ _ T181 (mkF m 198 #[ci p0, ci p1, cj q2, cs, ci p3, cr x5, ci 2, ci lv_, cj q8_, cs, cr si_, cj g_, cs, ci 2, ci cap_, cu, cu, cu, cu, cu, cu] [(.int 0)]) _ _ _
    refine wst X181 hx hby at_198 (l' := #[ci p0, ci p1, cj q2, cs, ci p3, cr x5, ci 2, ci lv_, cj q8_, cs, cr si_, cj g_, cs, ci 2, ci cap_, ci 0, cu, cu, cu, cu, cu]) rfl ?_
    refine wil X181 hx hby at_200 rfl ?_
    refine wiy (pc := 202) (pc' := 227) X181 hx hby at_202 ((if0 _ _).trans (teq (by decide : (0 : Int32) = (0 : Int32))).1) (by decide) (by decide) ?_
    refine wic X181 hx hby at_227 ?_
    refine wst X181 hx hby at_228 (l' := #[ci p0, ci p1, cj q2, cs, ci p3, cr x5, ci 2, ci lv_, cj q8_, cs, cr si_, cj g_, cs, ci 2, ci cap_, ci 0, ci 0, cu, cu, cu, cu]) rfl ?_
    show Ends _ _ _ _ T181 (mkF m 230 #[ci p0, ci p1, cj q2, cs, ci p3, cr x5, ci 2, ci lv_, cj q8_, cs, cr si_, cj g_, cs, ci 2, ci cap_, ci 0, ci 0, cu, cu, cu, cu] []) _ _ _
    refine wil X181 hx hby at_230 rfl ?_
    refine wiy (pc := 232) (pc' := 257) X181 hx hby at_232 ((if0 _ _).trans (teq (by decide : (0 : Int32) = (0 : Int32))).1) (by decide) (by decide) ?_
    refine wic X181 hx hby at_257 ?_
    refine wst X181 hx hby at_258 (l' := #[ci p0, ci p1, cj q2, cs, ci p3, cr x5, ci 2, ci lv_, cj q8_, cs, cr si_, cj g_, cs, ci 2, ci cap_, ci 0, ci 0, ci 0, cu, cu, cu]) rfl ?_
    refine wil X181 hx hby at_260 rfl ?_
    show Ends _ _ _ _ T181 (mkF m 262 #[ci p0, ci p1, cj q2, cs, ci p3, cr x5, ci 2, ci lv_, cj q8_, cs, cr si_, cj g_, cs, ci 2, ci cap_, ci 0, ci 0, ci 0, cu, cu, cu] [(.int 0)]) _ _ _
    refine wiy (pc := 262) (pc' := 287) X181 hx hby at_262 ((if0 _ _).trans (teq (by decide : (0 : Int32) = (0 : Int32))).1) (by decide) (by decide) ?_
    refine wic X181 hx hby at_287 ?_
    refine wst X181 hx hby at_288 (l' := #[ci p0, ci p1, cj q2, cs, ci p3, cr x5, ci 2, ci lv_, cj q8_, cs, cr si_, cj g_, cs, ci 2, ci cap_, ci 0, ci 0, ci 0, ci 0, cu, cu]) rfl ?_
    obtain ⟨rfl, hasc_⟩ : n_ = 0 ∧ ((pl_ = 1 ∧ (True)) ∨ (pl_ = 0 ∧ ¬ (True))) := hR.elim (fun d => ⟨d.1, d.2.2⟩) (fun o1 => o1.elim (fun d => absurd d.2.1.2 hP181) (fun d => absurd d.2.1.2 hP181))
    obtain rfl : g_ = (0 : Int64) := hg.trans (by decide)
    obtain rfl : p_ = (2 : Int32) := hp.trans (by decide)
    exact J290_2_0 _ _ _ x5 kx5 si_ lv_ cap_ pl_ q8_ X181 e181q O6 N181 K6 g_si_ sz_si_ E4 V6 Fb Fp Fa Fd hasc_
 have J177_3 : ∀ (T6 : State) (h6 : Heap) (lcs : List Loc) (x5 : Addr) (kx5 : ClassId) (si_ : Addr) (lv_ : Int32) (cap_ : Int32) (pl_ : Int32) (n_ : Int32) (p_ : Int32) (q8_ : Int64) (g_ : Int64) (X6 : Stand p l e room_1 s m #[(.int p0), (.int p1), (.long q2), (.int p3)] below meth c T6 lcs 8 48) (eT6 : T6.heap = h6) (O6 : Old Z n0 h6) (N6 : Fr n0 lcs) (K6 : Keep h0 h6 []) (g_si_ : n0 ≤ si_) (sz_si_ : h0.size ≤ si_) (E4 : Exa Z h6 si_ cSI) (V6 : Arv Z h6 x5 kx5 .char (4 : Int32) [(.int c0_), (.int c1_), (.int c2_), (.int c3_)] (.int 0)) (Fb : Fld Z h6 si_ cSI "base" "I" (.int 0)) (Fp : Fld Z h6 si_ cSI "position" "I" (.int p_)) (Fa : Fld Z h6 si_ cSI "ascii" "Z" (.int pl_)) (Fd : Fld Z h6 si_ "com/example/ratatoskr/ratatoskr/core/internal/Input" "decoded" "Lcom/example/ratatoskr/ratatoskr/core/internal/DecodedChars;" .null) (hg : g_ = n_.toInt64) (hp : p_ = (3 : Int32) + n_) (hcb : cap_.toInt ≤ 1) (hR : (n_ = 0 ∧ (cap_ < 1 ∨ ¬ own_pl c3_) ∧ ((pl_ = 1 ∧ (True)) ∨ (pl_ = 0 ∧ ¬ (True)))) ∨ (n_ = 1 ∧ (¬ cap_ < 1 ∧ own_pl c3_) ∧ ((pl_ = 1 ∧ (c3_ < (128 : Int32))) ∨ (pl_ = 0 ∧ ¬ (c3_ < (128 : Int32)))))), Ends p e below s T6 (mkF m 177 #[ci p0, ci p1, cj q2, cs, ci p3, cr x5, ci 3, ci lv_, cj q8_, cs, cr si_, cj g_, cs, ci 1, ci cap_, cu, cu, cu, cu, cu, cu] []) room_1.cells room_1.slots (fun v h L => v = some (.int 1) ∧ Fr n0 L) := by
  intro T6 h6 lcs x5 kx5 si_ lv_ cap_ pl_ n_ p_ q8_ g_ X6 eT6 O6 N6 K6 g_si_ sz_si_ E4 V6 Fb Fp Fa Fd hg hp hcb hR
  show Ends _ _ _ _ T6 (mkF m 177 #[ci p0, ci p1, cj q2, cs, ci p3, cr x5, ci 3, ci lv_, cj q8_, cs, cr si_, cj g_, cs, ci 1, ci cap_, cu, cu, cu, cu, cu, cu] []) _ _ _
  refine wil X6 hx hby at_177 rfl ?_
  show Ends _ _ _ _ T6 (mkF m 179 #[ci p0, ci p1, cj q2, cs, ci p3, cr x5, ci 3, ci lv_, cj q8_, cs, cr si_, cj g_, cs, ci 1, ci cap_, cu, cu, cu, cu, cu, cu] [(.int cap_)]) _ _ _
  refine wic X6 hx hby at_179 ?_
  by_cases hc180_184 : cap_ < (1 : Int32)
  ·refine wcy (pc := 180) (pc' := 197) X6 hx hby at_180 (tlt hc180_184).1 (by decide) (by decide) ?_
   refine wic X6 hx hby at_197 ?_
   refine wst X6 hx hby at_198 (l' := #[ci p0, ci p1, cj q2, cs, ci p3, cr x5, ci 3, ci lv_, cj q8_, cs, cr si_, cj g_, cs, ci 1, ci cap_, ci 0, cu, cu, cu, cu, cu]) rfl ?_
   refine wil X6 hx hby at_200 rfl ?_
   show Ends _ _ _ _ T6 (mkF m 202 #[ci p0, ci p1, cj q2, cs, ci p3, cr x5, ci 3, ci lv_, cj q8_, cs, cr si_, cj g_, cs, ci 1, ci cap_, ci 0, cu, cu, cu, cu, cu] [(.int 0)]) _ _ _
   refine wiy (pc := 202) (pc' := 227) X6 hx hby at_202 ((if0 _ _).trans (teq (by decide : (0 : Int32) = (0 : Int32))).1) (by decide) (by decide) ?_
   refine wic X6 hx hby at_227 ?_
   refine wst X6 hx hby at_228 (l' := #[ci p0, ci p1, cj q2, cs, ci p3, cr x5, ci 3, ci lv_, cj q8_, cs, cr si_, cj g_, cs, ci 1, ci cap_, ci 0, ci 0, cu, cu, cu, cu]) rfl ?_
   refine wil X6 hx hby at_230 rfl ?_
   refine wiy (pc := 232) (pc' := 257) X6 hx hby at_232 ((if0 _ _).trans (teq (by decide : (0 : Int32) = (0 : Int32))).1) (by decide) (by decide) ?_
   show Ends _ _ _ _ T6 (mkF m 257 #[ci p0, ci p1, cj q2, cs, ci p3, cr x5, ci 3, ci lv_, cj q8_, cs, cr si_, cj g_, cs, ci 1, ci cap_, ci 0, ci 0, cu, cu, cu, cu] []) _ _ _
   refine wic X6 hx hby at_257 ?_
   refine wst X6 hx hby at_258 (l' := #[ci p0, ci p1, cj q2, cs, ci p3, cr x5, ci 3, ci lv_, cj q8_, cs, cr si_, cj g_, cs, ci 1, ci cap_, ci 0, ci 0, ci 0, cu, cu, cu]) rfl ?_
   refine wil X6 hx hby at_260 rfl ?_
   refine wiy (pc := 262) (pc' := 287) X6 hx hby at_262 ((if0 _ _).trans (teq (by decide : (0 : Int32) = (0 : Int32))).1) (by decide) (by decide) ?_
   refine wic X6 hx hby at_287 ?_
   show Ends _ _ _ _ T6 (mkF m 288 #[ci p0, ci p1, cj q2, cs, ci p3, cr x5, ci 3, ci lv_, cj q8_, cs, cr si_, cj g_, cs, ci 1, ci cap_, ci 0, ci 0, ci 0, cu, cu, cu] [(.int 0)]) _ _ _
   refine wst X6 hx hby at_288 (l' := #[ci p0, ci p1, cj q2, cs, ci p3, cr x5, ci 3, ci lv_, cj q8_, cs, cr si_, cj g_, cs, ci 1, ci cap_, ci 0, ci 0, ci 0, ci 0, cu, cu]) rfl ?_
   obtain ⟨rfl, hasc_⟩ : n_ = 0 ∧ ((pl_ = 1 ∧ (True)) ∨ (pl_ = 0 ∧ ¬ (True))) := hR.elim (fun d => ⟨d.1, d.2.2⟩) (fun d => absurd d.2.1.1 (Classical.not_not.mpr hc180_184))
   obtain rfl : g_ = (0 : Int64) := hg.trans (by decide)
   obtain rfl : p_ = (3 : Int32) := hp.trans (by decide)
   exact J290_3_0 _ _ _ x5 kx5 si_ lv_ cap_ pl_ q8_ X6 eT6 O6 N6 K6 g_si_ sz_si_ E4 V6 Fb Fp Fa Fd hasc_
  ·refine wcn X6 hx hby at_180 (flt hc180_184).1 ?_
   refine wal X6 hx hby at_183 rfl rfl ?_
   refine wil X6 hx hby at_185 rfl ?_
   obtain ⟨_, _, ⟨T185, L185, k185, n185⟩, -, X185, ⟨Lc185, hQ185, l185, y185, z185⟩, st185⟩ := Jvm.LawKit.callS X6 hx (y := ym6) hown (mvT hZ (ow hw 115 rfl)) (mvT hZ (ow hw 116 rfl)) (mvT hZ (ow hw 117 rfl)) (mvT hZ (ow hw 118 rfl)) (by decide) (own_backOf (W := 0) (rm_plainAt_3 l Z a0 hw [] n0 h6 O6 x5 kx5 c0_ c1_ c2_ c3_ V6) hZ (ow hw 118 rfl) (ow hw 117 rfl) (by decide) (by decide)) (g := (mkF m 187 #[ci p0, ci p1, cj q2, cs, ci p3, cr x5, ci 3, ci lv_, cj q8_, cs, cr si_, cj g_, cs, ci 1, ci cap_, cu, cu, cu, cu, cu, cu] [(.int 3), (.ref x5)])) rfl (by rw [hml]; rfl) (argsL := [(.ref x5), (.int 3)]) (rest := []) (lenOf pdx_3 rfl) rfl (by show 2 * 0 + _ ≤ _; exact Nat.le_of_eq rfl) (hb hby at_187) (fun _ _ => ⟨rfl, eT6, (by decide : 8 + 0 ≤ _), (by decide : 48 + 0 ≤ _)⟩)
   dsimp only [Pt.U, Pt.locs, Pt.cells, Pt.slots] at X185 l185 y185 z185 st185 hQ185
   subst l185 y185 z185
   obtain ⟨r185, rfl, N185q, e185q, hr185⟩ := hQ185
   have N185 := Fr.app N6 N185q
   refine Ends.go st185 ?_
   show Ends _ _ _ _ T185 (mkF m 190 #[ci p0, ci p1, cj q2, cs, ci p3, cr x5, ci 3, ci lv_, cj q8_, cs, cr si_, cj g_, cs, ci 1, ci cap_, cu, cu, cu, cu, cu, cu] [(.int r185)]) _ _ _
   rcases hr185 with ⟨rfl, hP185⟩ | ⟨rfl, hP185⟩
   ·show Ends _ _ _ _ T185 (mkF m 190 #[ci p0, ci p1, cj q2, cs, ci p3, cr x5, ci 3, ci lv_, cj q8_, cs, cr si_, cj g_, cs, ci 1, ci cap_, cu, cu, cu, cu, cu, cu] [(.int 1)]) _ _ _
    refine win X185 hx hby at_190 ((if0 _ _).trans (feq (by decide : ¬ ((1 : Int32) = (0 : Int32)))).1) ?_
    refine wic X185 hx hby at_193 ?_
    refine wgo (pc := 194) (pc' := 198) X185 hx hby at_194 (by decide) (by decide) ?_
    refine wst X185 hx hby at_198 (l' := #[ci p0, ci p1, cj q2, cs, ci p3, cr x5, ci 3, ci lv_, cj q8_, cs, cr si_, cj g_, cs, ci 1, ci cap_, ci 1, cu, cu, cu, cu, cu]) rfl ?_
    show Ends _ _ _ _ T185 (mkF m 200 #[ci p0, ci p1, cj q2, cs, ci p3, cr x5, ci 3, ci lv_, cj q8_, cs, cr si_, cj g_, cs, ci 1, ci cap_, ci 1, cu, cu, cu, cu, cu] []) _ _ _
    refine wil X185 hx hby at_200 rfl ?_
    refine win X185 hx hby at_202 ((if0 _ _).trans (feq (by decide : ¬ ((1 : Int32) = (0 : Int32)))).1) ?_
    refine wil X185 hx hby at_205 rfl ?_
    refine wic X185 hx hby at_207 ?_
    refine wcy (pc := 208) (pc' := 227) X185 hx hby at_208 (tlt ((own_caplt hcb (by decide)) : cap_ < (2 : Int32))).1 (by decide) (by decide) ?_
    show Ends _ _ _ _ T185 (mkF m 227 #[ci p0, ci p1, cj q2, cs, ci p3, cr x5, ci 3, ci lv_, cj q8_, cs, cr si_, cj g_, cs, ci 1, ci cap_, ci 1, cu, cu, cu, cu, cu] []) _ _ _
    refine wic X185 hx hby at_227 ?_
    refine wst X185 hx hby at_228 (l' := #[ci p0, ci p1, cj q2, cs, ci p3, cr x5, ci 3, ci lv_, cj q8_, cs, cr si_, cj g_, cs, ci 1, ci cap_, ci 1, ci 0, cu, cu, cu, cu]) rfl ?_
    refine wil X185 hx hby at_230 rfl ?_
    refine wiy (pc := 232) (pc' := 257) X185 hx hby at_232 ((if0 _ _).trans (teq (by decide : (0 : Int32) = (0 : Int32))).1) (by decide) (by decide) ?_
    refine wic X185 hx hby at_257 ?_
    show Ends _ _ _ _ T185 (mkF m 258 #[ci p0, ci p1, cj q2, cs, ci p3, cr x5, ci 3, ci lv_, cj q8_, cs, cr si_, cj g_, cs, ci 1, ci cap_, ci 1, ci 0, cu, cu, cu, cu] [(.int 0)]) _ _ _
    refine wst X185 hx hby at_258 (l' := #[ci p0, ci p1, cj q2, cs, ci p3, cr x5, ci 3, ci lv_, cj q8_, cs, cr si_, cj g_, cs, ci 1, ci cap_, ci 1, ci 0, ci 0, cu, cu, cu]) rfl ?_
    refine wil X185 hx hby at_260 rfl ?_
    refine wiy (pc := 262) (pc' := 287) X185 hx hby at_262 ((if0 _ _).trans (teq (by decide : (0 : Int32) = (0 : Int32))).1) (by decide) (by decide) ?_
    refine wic X185 hx hby at_287 ?_
    refine wst X185 hx hby at_288 (l' := #[ci p0, ci p1, cj q2, cs, ci p3, cr x5, ci 3, ci lv_, cj q8_, cs, cr si_, cj g_, cs, ci 1, ci cap_, ci 1, ci 0, ci 0, ci 0, cu, cu]) rfl ?_
    show Ends _ _ _ _ T185 (mkF m 290 #[ci p0, ci p1, cj q2, cs, ci p3, cr x5, ci 3, ci lv_, cj q8_, cs, cr si_, cj g_, cs, ci 1, ci cap_, ci 1, ci 0, ci 0, ci 0, cu, cu] []) _ _ _
    obtain ⟨rfl, hasc_⟩ : n_ = 1 ∧ ((pl_ = 1 ∧ (c3_ < (128 : Int32))) ∨ (pl_ = 0 ∧ ¬ (c3_ < (128 : Int32)))) := hR.elim (fun d => d.2.1.elim (fun z => absurd z hc180_184) (fun z => absurd hP185 z)) (fun d => ⟨d.1, d.2.2⟩)
    obtain rfl : g_ = (1 : Int64) := hg.trans (by decide)
    obtain rfl : p_ = (4 : Int32) := hp.trans (by decide)
    exact J290_3_1 _ _ _ x5 kx5 si_ lv_ cap_ pl_ q8_ X185 e185q O6 N185 K6 g_si_ sz_si_ E4 V6 Fb Fp Fa Fd hasc_
   ·show Ends _ _ _ _ T185 (mkF m 190 #[ci p0, ci p1, cj q2, cs, ci p3, cr x5, ci 3, ci lv_, cj q8_, cs, cr si_, cj g_, cs, ci 1, ci cap_, cu, cu, cu, cu, cu, cu] [(.int 0)]) _ _ _
    refine wiy (pc := 190) (pc' := 197) X185 hx hby at_190 ((if0 _ _).trans (teq (by decide : (0 : Int32) = (0 : Int32))).1) (by decide) (by decide) ?_
    refine wic X185 hx hby at_197 ?_
    refine wst X185 hx hby at_198 (l' := #[ci p0, ci p1, cj q2, cs, ci p3, cr x5, ci 3, ci lv_, cj q8_, cs, cr si_, cj g_, cs, ci 1, ci cap_, ci 0, cu, cu, cu, cu, cu]) rfl ?_
    refine wil X185 hx hby at_200 rfl ?_
    show Ends _ _ _ _ T185 (mkF m 202 #[ci p0, ci p1, cj q2, cs, ci p3, cr x5, ci 3, ci lv_, cj q8_, cs, cr si_, cj g_, cs, ci 1, ci cap_, ci 0, cu, cu, cu, cu, cu] [(.int 0)]) _ _ _
    refine wiy (pc := 202) (pc' := 227) X185 hx hby at_202 ((if0 _ _).trans (teq (by decide : (0 : Int32) = (0 : Int32))).1) (by decide) (by decide) ?_
    refine wic X185 hx hby at_227 ?_
    refine wst X185 hx hby at_228 (l' := #[ci p0, ci p1, cj q2, cs, ci p3, cr x5, ci 3, ci lv_, cj q8_, cs, cr si_, cj g_, cs, ci 1, ci cap_, ci 0, ci 0, cu, cu, cu, cu]) rfl ?_
    refine wil X185 hx hby at_230 rfl ?_
    refine wiy (pc := 232) (pc' := 257) X185 hx hby at_232 ((if0 _ _).trans (teq (by decide : (0 : Int32) = (0 : Int32))).1) (by decide) (by decide) ?_
    show Ends _ _ _ _ T185 (mkF m 257 #[ci p0, ci p1, cj q2, cs, ci p3, cr x5, ci 3, ci lv_, cj q8_, cs, cr si_, cj g_, cs, ci 1, ci cap_, ci 0, ci 0, cu, cu, cu, cu] []) _ _ _
    refine wic X185 hx hby at_257 ?_
    refine wst X185 hx hby at_258 (l' := #[ci p0, ci p1, cj q2, cs, ci p3, cr x5, ci 3, ci lv_, cj q8_, cs, cr si_, cj g_, cs, ci 1, ci cap_, ci 0, ci 0, ci 0, cu, cu, cu]) rfl ?_
    refine wil X185 hx hby at_260 rfl ?_
    refine wiy (pc := 262) (pc' := 287) X185 hx hby at_262 ((if0 _ _).trans (teq (by decide : (0 : Int32) = (0 : Int32))).1) (by decide) (by decide) ?_
    refine wic X185 hx hby at_287 ?_
    show Ends _ _ _ _ T185 (mkF m 288 #[ci p0, ci p1, cj q2, cs, ci p3, cr x5, ci 3, ci lv_, cj q8_, cs, cr si_, cj g_, cs, ci 1, ci cap_, ci 0, ci 0, ci 0, cu, cu, cu] [(.int 0)]) _ _ _
    refine wst X185 hx hby at_288 (l' := #[ci p0, ci p1, cj q2, cs, ci p3, cr x5, ci 3, ci lv_, cj q8_, cs, cr si_, cj g_, cs, ci 1, ci cap_, ci 0, ci 0, ci 0, ci 0, cu, cu]) rfl ?_
    obtain ⟨rfl, hasc_⟩ : n_ = 0 ∧ ((pl_ = 1 ∧ (True)) ∨ (pl_ = 0 ∧ ¬ (True))) := hR.elim (fun d => ⟨d.1, d.2.2⟩) (fun d => absurd d.2.1.2 hP185)
    obtain rfl : g_ = (0 : Int64) := hg.trans (by decide)
    obtain rfl : p_ = (3 : Int32) := hp.trans (by decide)
    exact J290_3_0 _ _ _ x5 kx5 si_ lv_ cap_ pl_ q8_ X185 e185q O6 N185 K6 g_si_ sz_si_ E4 V6 Fb Fp Fa Fd hasc_
 have J177_4 : ∀ (T6 : State) (h6 : Heap) (lcs : List Loc) (x5 : Addr) (kx5 : ClassId) (si_ : Addr) (lv_ : Int32) (cap_ : Int32) (pl_ : Int32) (n_ : Int32) (p_ : Int32) (q8_ : Int64) (g_ : Int64) (X6 : Stand p l e room_1 s m #[(.int p0), (.int p1), (.long q2), (.int p3)] below meth c T6 lcs 8 48) (eT6 : T6.heap = h6) (O6 : Old Z n0 h6) (N6 : Fr n0 lcs) (K6 : Keep h0 h6 []) (g_si_ : n0 ≤ si_) (sz_si_ : h0.size ≤ si_) (E4 : Exa Z h6 si_ cSI) (V6 : Arv Z h6 x5 kx5 .char (4 : Int32) [(.int c0_), (.int c1_), (.int c2_), (.int c3_)] (.int 0)) (Fb : Fld Z h6 si_ cSI "base" "I" (.int 0)) (Fp : Fld Z h6 si_ cSI "position" "I" (.int p_)) (Fa : Fld Z h6 si_ cSI "ascii" "Z" (.int pl_)) (Fd : Fld Z h6 si_ "com/example/ratatoskr/ratatoskr/core/internal/Input" "decoded" "Lcom/example/ratatoskr/ratatoskr/core/internal/DecodedChars;" .null) (hg : g_ = n_.toInt64) (hp : p_ = (4 : Int32) + n_) (hcb : cap_.toInt ≤ 0) (hR : (n_ = 0 ∧ ((pl_ = 1 ∧ (True)) ∨ (pl_ = 0 ∧ ¬ (True))))), Ends p e below s T6 (mkF m 177 #[ci p0, ci p1, cj q2, cs, ci p3, cr x5, ci 4, ci lv_, cj q8_, cs, cr si_, cj g_, cs, ci 0, ci cap_, cu, cu, cu, cu, cu, cu] []) room_1.cells room_1.slots (fun v h L => v = some (.int 1) ∧ Fr n0 L) := by
  intro T6 h6 lcs x5 kx5 si_ lv_ cap_ pl_ n_ p_ q8_ g_ X6 eT6 O6 N6 K6 g_si_ sz_si_ E4 V6 Fb Fp Fa Fd hg hp hcb hR
  show Ends _ _ _ _ T6 (mkF m 177 #[ci p0, ci p1, cj q2, cs, ci p3, cr x5, ci 4, ci lv_, cj q8_, cs, cr si_, cj g_, cs, ci 0, ci cap_, cu, cu, cu, cu, cu, cu] []) _ _ _
  refine wil X6 hx hby at_177 rfl ?_
  refine wic X6 hx hby at_179 ?_
  refine wcy (pc := 180) (pc' := 197) X6 hx hby at_180 (tlt ((own_caplt hcb (by decide)) : cap_ < (1 : Int32))).1 (by decide) (by decide) ?_
  show Ends _ _ _ _ T6 (mkF m 197 #[ci p0, ci p1, cj q2, cs, ci p3, cr x5, ci 4, ci lv_, cj q8_, cs, cr si_, cj g_, cs, ci 0, ci cap_, cu, cu, cu, cu, cu, cu] []) _ _ _
  refine wic X6 hx hby at_197 ?_
  refine wst X6 hx hby at_198 (l' := #[ci p0, ci p1, cj q2, cs, ci p3, cr x5, ci 4, ci lv_, cj q8_, cs, cr si_, cj g_, cs, ci 0, ci cap_, ci 0, cu, cu, cu, cu, cu]) rfl ?_
  refine wil X6 hx hby at_200 rfl ?_
  refine wiy (pc := 202) (pc' := 227) X6 hx hby at_202 ((if0 _ _).trans (teq (by decide : (0 : Int32) = (0 : Int32))).1) (by decide) (by decide) ?_
  refine wic X6 hx hby at_227 ?_
  show Ends _ _ _ _ T6 (mkF m 228 #[ci p0, ci p1, cj q2, cs, ci p3, cr x5, ci 4, ci lv_, cj q8_, cs, cr si_, cj g_, cs, ci 0, ci cap_, ci 0, cu, cu, cu, cu, cu] [(.int 0)]) _ _ _
  refine wst X6 hx hby at_228 (l' := #[ci p0, ci p1, cj q2, cs, ci p3, cr x5, ci 4, ci lv_, cj q8_, cs, cr si_, cj g_, cs, ci 0, ci cap_, ci 0, ci 0, cu, cu, cu, cu]) rfl ?_
  refine wil X6 hx hby at_230 rfl ?_
  refine wiy (pc := 232) (pc' := 257) X6 hx hby at_232 ((if0 _ _).trans (teq (by decide : (0 : Int32) = (0 : Int32))).1) (by decide) (by decide) ?_
  refine wic X6 hx hby at_257 ?_
  refine wst X6 hx hby at_258 (l' := #[ci p0, ci p1, cj q2, cs, ci p3, cr x5, ci 4, ci lv_, cj q8_, cs, cr si_, cj g_, cs, ci 0, ci cap_, ci 0, ci 0, ci 0, cu, cu, cu]) rfl ?_
  show Ends _ _ _ _ T6 (mkF m 260 #[ci p0, ci p1, cj q2, cs, ci p3, cr x5, ci 4, ci lv_, cj q8_, cs, cr si_, cj g_, cs, ci 0, ci cap_, ci 0, ci 0, ci 0, cu, cu, cu] []) _ _ _
  refine wil X6 hx hby at_260 rfl ?_
  refine wiy (pc := 262) (pc' := 287) X6 hx hby at_262 ((if0 _ _).trans (teq (by decide : (0 : Int32) = (0 : Int32))).1) (by decide) (by decide) ?_
  refine wic X6 hx hby at_287 ?_
  refine wst X6 hx hby at_288 (l' := #[ci p0, ci p1, cj q2, cs, ci p3, cr x5, ci 4, ci lv_, cj q8_, cs, cr si_, cj g_, cs, ci 0, ci cap_, ci 0, ci 0, ci 0, ci 0, cu, cu]) rfl ?_
  obtain ⟨rfl, hasc_⟩ : n_ = 0 ∧ ((pl_ = 1 ∧ (True)) ∨ (pl_ = 0 ∧ ¬ (True))) := (fun d => ⟨d.1, d.2⟩) hR
  obtain rfl : g_ = (0 : Int64) := hg.trans (by decide)
  obtain rfl : p_ = (4 : Int32) := hp.trans (by decide)
  exact J290_4_0 _ _ _ x5 kx5 si_ lv_ cap_ pl_ q8_ X6 eT6 O6 N6 K6 g_si_ sz_si_ E4 V6 Fb Fp Fa Fd hasc_
 have J92 : ∀ (T4 : State) (h4 : Heap) (lcs : List Loc) (x5 : Addr) (kx5 : ClassId) (si_ : Addr) (xa_ : Addr) (kxa_ : ClassId) (k_ : Int32) (lv_ : Int32) (q8_ : Int64) (X4 : Stand p l e room_1 s m #[(.int p0), (.int p1), (.long q2), (.int p3)] below meth c T4 lcs 8 48) (eT4 : T4.heap = h4) (O4 : Old Z n0 h4) (N4 : Fr n0 lcs) (K4 : Keep h0 h4 []) (g_si_ : n0 ≤ si_) (sz_si_ : h0.size ≤ si_) (E4 : Exa Z h4 si_ cSI) (hox : si_ ≠ xa_) (hox5 : si_ ≠ x5) (Fl : Fld Z h4 si_ cSI "limit" "I" (.int 4)) (Fp : Fld Z h4 si_ cSI "position" "I" (.int 0)) (Fb : Fld Z h4 si_ cSI "base" "I" (.int 0)) (Fc : Fld Z h4 si_ cSI "chars" "[C" (.ref xa_)) (Fa : Fld Z h4 si_ cSI "ascii" "Z" (.int 0)) (Fm : Fld Z h4 si_ cSI "mark" "I" (.int 0)) (Fd : Fld Z h4 si_ "com/example/ratatoskr/ratatoskr/core/internal/Input" "decoded" "Lcom/example/ratatoskr/ratatoskr/core/internal/DecodedChars;" .null) (Vx : Arv Z h4 xa_ kxa_ .char (4 : Int32) [(.int c0_), (.int c1_), (.int c2_), (.int c3_)] (.int 0)) (V5 : Arv Z h4 x5 kx5 .char (4 : Int32) [(.int c0_), (.int c1_), (.int c2_), (.int c3_)] (.int 0)) (hk : k_ = 0 ∨ k_ = 1 ∨ k_ = 2 ∨ k_ = 3 ∨ k_ = 4) (hq8 : 0 ≤ q8_.toInt), Ends p e below s T4 (mkF m 92 #[ci p0, ci p1, cj q2, cs, ci p3, cr x5, ci k_, ci lv_, cj q8_, cs, cr si_, cu, cu, cu, cu, cu, cu, cu, cu, cu, cu] []) room_1.cells room_1.slots (fun v h L => v = some (.int 1) ∧ Fr n0 L) := by
  intro T4 h4 lcs x5 kx5 si_ xa_ kxa_ k_ lv_ q8_ X4 eT4 O4 N4 K4 g_si_ sz_si_ E4 hox hox5 Fl Fp Fb Fc Fa Fm Fd Vx V5 hk hq8
  show Ends _ _ _ _ T4 (mkF m 92 #[ci p0, ci p1, cj q2, cs, ci p3, cr x5, ci k_, ci lv_, cj q8_, cs, cr si_, cu, cu, cu, cu, cu, cu, cu, cu, cu, cu] []) _ _ _
  refine wil X4 hx hby at_92 rfl ?_
  refine wic X4 hx hby at_94 ?_
  by_cases hc95_186 : k_ < (1 : Int32)
  ·refine wcy (pc := 95) (pc' := 103) X4 hx hby at_95 (tlt hc95_186).1 (by decide) (by decide) ?_
   obtain rfl : k_ = 0 := by
    revert hc95_186
    rcases hk with rfl | rfl | rfl | rfl | rfl <;> decide
   show Ends _ _ _ _ T4 (mkF m 103 #[ci p0, ci p1, cj q2, cs, ci p3, cr x5, ci 0, ci lv_, cj q8_, cs, cr si_, cu, cu, cu, cu, cu, cu, cu, cu, cu, cu] []) _ _ _
   refine wil X4 hx hby at_103 rfl ?_
   show Ends _ _ _ _ T4 (mkF m 105 #[ci p0, ci p1, cj q2, cs, ci p3, cr x5, ci 0, ci lv_, cj q8_, cs, cr si_, cu, cu, cu, cu, cu, cu, cu, cu, cu, cu] [(.int 0)]) _ _ _
   refine wic X4 hx hby at_105 ?_
   refine wcy (pc := 106) (pc' := 114) X4 hx hby at_106 (tlt (by decide : (0 : Int32) < (2 : Int32))).1 (by decide) (by decide) ?_
   refine wil X4 hx hby at_114 rfl ?_
   refine wic X4 hx hby at_116 ?_
   refine wcy (pc := 117) (pc' := 125) X4 hx hby at_117 (tlt (by decide : (0 : Int32) < (3 : Int32))).1 (by decide) (by decide) ?_
   show Ends _ _ _ _ T4 (mkF m 125 #[ci p0, ci p1, cj q2, cs, ci p3, cr x5, ci 0, ci lv_, cj q8_, cs, cr si_, cu, cu, cu, cu, cu, cu, cu, cu, cu, cu] []) _ _ _
   refine wil X4 hx hby at_125 rfl ?_
   refine wic X4 hx hby at_127 ?_
   refine wcy (pc := 128) (pc' := 136) X4 hx hby at_128 (tlt (by decide : (0 : Int32) < (4 : Int32))).1 (by decide) (by decide) ?_
   refine wal X4 hx hby at_136 rfl rfl ?_
   obtain ⟨cq192, kq192, q192a, q192b, q192c⟩ := isOf hZ eT4 E4
   obtain ⟨_, _, ⟨T192, L192, k192, n192⟩, -, X192, ⟨Lc192, hQ192, l192, y192, z192⟩, st192⟩ := X4.virtualBack hx (y := ym14) (z := ym14) hown (mvT hZ (ow hw 97 rfl)) (mvT hZ (ow hw 98 rfl)) (notFace_of_selects (args := #[]) (mvT hZ (ow hw 100 rfl))) (mvT hZ (ow hw 100 rfl)) (mvT hZ (ow hw 99 rfl)) (by decide) (own_backOf (W := 0) (rx20_187 l Z a0 hw [] n0 h4 O4  si_ xa_ Fb Fp E4 Fm Fa Fl Fc Fd g_si_) hZ (ow hw 101 rfl) (ow hw 6 rfl) (by decide) (by decide)) q192a q192c (g := (mkF m 138 #[ci p0, ci p1, cj q2, cs, ci p3, cr x5, ci 0, ci lv_, cj q8_, cs, cr si_, cu, cu, cu, cu, cu, cu, cu, cu, cu, cu] [(.ref si_)])) rfl (by rw [hml]; rfl) (Steps.refl _) (argsL := []) (rest := []) (lenOf pdx_4 rfl) rfl (by show 2 * 0 + _ ≤ _; exact Nat.le_of_eq rfl) (hb hby at_138) (fun _ _ => ⟨rfl, eT4, (by decide : 8 + 0 ≤ _), (by decide : 48 + 0 ≤ _)⟩)
   dsimp only [Pt.U, Pt.locs, Pt.cells, Pt.slots] at X192 l192 y192 z192 st192 hQ192
   subst l192 y192 z192
   obtain ⟨rfl, N192q, K192c, Y192_0, Y192_1, Y192_2, Y192_3, Y192_4, Y192_5, Y192_6⟩ := hQ192
   have N192 := Fr.app N4 N192q
   refine Ends.go (fun _ k => st192.trans k) ?_
   obtain ⟨h192, e192⟩ : ∃ z, T192.heap = z := ⟨_, rfl⟩
   rw [e192] at K192c Y192_0 Y192_1 Y192_2 Y192_3 Y192_4 Y192_5 Y192_6
   have K192 := K4.trans K192c (allS (Or.inr sz_si_) all0)
   have O192 := O4.keep K192c (allS g_si_ all0)
   show Ends _ _ _ _ T192 (mkF m 141 #[ci p0, ci p1, cj q2, cs, ci p3, cr x5, ci 0, ci lv_, cj q8_, cs, cr si_, cu, cu, cu, cu, cu, cu, cu, cu, cu, cu] []) _ _ _
   refine wal X192 hx hby at_141 rfl rfl ?_
   refine .go (fun _ => XS.lload X192.here hx rfl (hb hby at_143) rfl) ?_
   refine wil X192 hx hby at_145 rfl ?_
   obtain ⟨cq193, kq193, q193a, q193b, q193c⟩ := isOf hZ e192 (E4.keep K192c)
   obtain ⟨_, _, ⟨T193, L193, k193, n193⟩, -, X193, ⟨Lc193, hQ193, l193, y193, z193⟩, st193⟩ := X192.virtualBack hx (y := ym8) (z := ym8) hown (mvT hZ (ow hw 110 rfl)) (mvT hZ (ow hw 111 rfl)) (notFace_of_selects (args := #[]) (mvT hZ (ow hw 113 rfl))) (mvT hZ (ow hw 113 rfl)) (mvT hZ (ow hw 112 rfl)) (by decide) (own_backOf (W := 0) (rmS l Z a0 hw [] n0 h192 O192 si_ xa_ kxa_ lv_ (0 : Int32) q8_ c0_ c1_ c2_ c3_ g_si_ hox (E4.keep K192c) Y192_4 Y192_1 Y192_0 Y192_5 Y192_3 Y192_6 (Vx.keep K192c (ninS (Ne.symm hox) nin0)) (by decide) hq8 hc0_ hc1_ hc2_ hc3_) hZ (ow hw 114 rfl) (ow hw 6 rfl) (by decide) (by decide)) q193a q193c (g := (mkF m 147 #[ci p0, ci p1, cj q2, cs, ci p3, cr x5, ci 0, ci lv_, cj q8_, cs, cr si_, cu, cu, cu, cu, cu, cu, cu, cu, cu, cu] [(.int lv_), (.long q8_), (.ref si_)])) rfl (by rw [hml]; rfl) (Steps.refl _) (argsL := [(.long q8_), (.int lv_)]) (rest := []) (lenOf pdx_5 rfl) rfl (by show 2 * 0 + _ ≤ _; exact Nat.le_of_eq rfl) (hb hby at_147) (fun _ _ => ⟨rfl, e192, (by decide : 8 + 0 ≤ _), (by decide : 48 + 0 ≤ _)⟩)
   dsimp only [Pt.U, Pt.locs, Pt.cells, Pt.slots] at X193 l193 y193 z193 st193 hQ193
   subst l193 y193 z193
   obtain ⟨n193, g193, p193, pl193, rfl, N193q, K193c, hg193, hp193, Eq193, Fb193, Fp193, Fa193, Fd193, hR193⟩ := hQ193
   have N193 := Fr.app N192 N193q
   refine Ends.go (fun _ k => st193.trans k) ?_
   obtain ⟨h193, e193⟩ : ∃ z, T193.heap = z := ⟨_, rfl⟩
   rw [e193] at K193c Eq193 Fb193 Fp193 Fa193 Fd193
   have K193 := K192.trans K193c (allS (Or.inr sz_si_) all0)
   have O193 := O192.keep K193c (allS g_si_ all0)
   refine .go (fun _ => XS.lstore X193.here hx rfl (hb hby at_150) rfl (l' := #[ci p0, ci p1, cj q2, cs, ci p3, cr x5, ci 0, ci lv_, cj q8_, cs, cr si_, cj g193, cs, cu, cu, cu, cu, cu, cu, cu, cu]) rfl) ?_
   show Ends _ _ _ _ T193 (mkF m 152 #[ci p0, ci p1, cj q2, cs, ci p3, cr x5, ci 0, ci lv_, cj q8_, cs, cr si_, cj g193, cs, cu, cu, cu, cu, cu, cu, cu, cu] []) _ _ _
   refine wic X193 hx hby at_152 ?_
   refine wil X193 hx hby at_153 rfl ?_
   refine wis X193 hx hby at_155 ?_
   refine wst X193 hx hby at_156 (l' := #[ci p0, ci p1, cj q2, cs, ci p3, cr x5, ci 0, ci lv_, cj q8_, cs, cr si_, cj g193, cs, ci 4, cu, cu, cu, cu, cu, cu, cu]) rfl ?_
   refine .go (fun _ => XS.lload X193.here hx rfl (hb hby at_158) rfl) ?_
   show Ends _ _ _ _ T193 (mkF m 160 #[ci p0, ci p1, cj q2, cs, ci p3, cr x5, ci 0, ci lv_, cj q8_, cs, cr si_, cj g193, cs, ci 4, cu, cu, cu, cu, cu, cu, cu] [(.long q8_)]) _ _ _
   refine wil X193 hx hby at_160 rfl ?_
   refine .go (fun _ => XS.i2l X193.here hx rfl (hb hby at_162) rfl) ?_
   refine .go (fun _ => XS.lcmp X193.here hx rfl (hb hby at_163) rfl) ?_
   by_cases hc164_194 : (lcmpW q8_ (4 : Int64)) < (0 : Int32)
   ·refine wiy (pc := 164) (pc' := 172) X193 hx hby at_164 ((if0 _ _).trans (tlt hc164_194).1) (by decide) (by decide) ?_
    refine .go (fun _ => XS.lload X193.here hx rfl (hb hby at_172) rfl) ?_
    show Ends _ _ _ _ T193 (mkF m 174 #[ci p0, ci p1, cj q2, cs, ci p3, cr x5, ci 0, ci lv_, cj q8_, cs, cr si_, cj g193, cs, ci 4, cu, cu, cu, cu, cu, cu, cu] [(.long q8_)]) _ _ _
    refine .go (fun _ => XS.l2i X193.here hx rfl (hb hby at_174) rfl) ?_
    refine wst X193 hx hby at_175 (l' := #[ci p0, ci p1, cj q2, cs, ci p3, cr x5, ci 0, ci lv_, cj q8_, cs, cr si_, cj g193, cs, ci 4, ci (q8_.toInt32), cu, cu, cu, cu, cu, cu]) rfl ?_
    have hce : own_cap (0 : Int32) q8_ = (q8_.toInt32) := own_capt (by decide) hc164_194
    have hcb := own_capm (k := (0 : Int32)) (m := 4) (by decide) (by decide) hq8
    rw [hce] at hcb hR193
    exact J177_0 _ _ _ x5 kx5 si_ lv_ (q8_.toInt32) pl193 n193 p193 q8_ g193 X193 e193 O193 N193 K193 g_si_ sz_si_ Eq193 ((V5.keep K192c (ninS (Ne.symm hox5) nin0)).keep K193c (ninS (Ne.symm hox5) nin0)) Fb193 Fp193 Fa193 Fd193 hg193 hp193 hcb ((own_run_0 c0_ c1_ c2_ c3_ _ _ _).mp hR193)
   ·refine win X193 hx hby at_164 ((if0 _ _).trans (flt hc164_194).1) ?_
    refine wil X193 hx hby at_167 rfl ?_
    refine wgo (pc := 169) (pc' := 175) X193 hx hby at_169 (by decide) (by decide) ?_
    show Ends _ _ _ _ T193 (mkF m 175 #[ci p0, ci p1, cj q2, cs, ci p3, cr x5, ci 0, ci lv_, cj q8_, cs, cr si_, cj g193, cs, ci 4, cu, cu, cu, cu, cu, cu, cu] [(.int 4)]) _ _ _
    refine wst X193 hx hby at_175 (l' := #[ci p0, ci p1, cj q2, cs, ci p3, cr x5, ci 0, ci lv_, cj q8_, cs, cr si_, cj g193, cs, ci 4, ci 4, cu, cu, cu, cu, cu, cu]) rfl ?_
    have hce : own_cap (0 : Int32) q8_ = (4 : Int32) := own_capf (by decide) (by decide) hc164_194
    have hcb := own_capm (k := (0 : Int32)) (m := 4) (by decide) (by decide) hq8
    rw [hce] at hcb hR193
    exact J177_0 _ _ _ x5 kx5 si_ lv_ (4 : Int32) pl193 n193 p193 q8_ g193 X193 e193 O193 N193 K193 g_si_ sz_si_ Eq193 ((V5.keep K192c (ninS (Ne.symm hox5) nin0)).keep K193c (ninS (Ne.symm hox5) nin0)) Fb193 Fp193 Fa193 Fd193 hg193 hp193 hcb ((own_run_0 c0_ c1_ c2_ c3_ _ _ _).mp hR193)
  ·refine wcn X4 hx hby at_95 (flt hc95_186).1 ?_
   refine wal X4 hx hby at_98 rfl rfl ?_
   obtain ⟨cq198, kq198, q198a, q198b, q198c⟩ := isOf hZ eT4 E4
   obtain ⟨_, _, ⟨T198, L198, k198, n198⟩, -, X198, ⟨Lc198, hQ198, l198, y198, z198⟩, st198⟩ := X4.virtualBack hx (y := ym15) (z := ym15) hown (mvT hZ (ow hw 140 rfl)) (mvT hZ (ow hw 141 rfl)) (notFace_of_selects (args := #[]) (mvT hZ (ow hw 143 rfl))) (mvT hZ (ow hw 143 rfl)) (mvT hZ (ow hw 142 rfl)) (by decide) (own_backOf (W := 0) (rx27_195 l Z a0 hw [] n0 h4 O4  si_ xa_ Fp E4 Fl Fb Fc Fa Fm Fd g_si_) hZ (ow hw 144 rfl) (ow hw 6 rfl) (by decide) (by decide)) q198a q198c (g := (mkF m 100 #[ci p0, ci p1, cj q2, cs, ci p3, cr x5, ci k_, ci lv_, cj q8_, cs, cr si_, cu, cu, cu, cu, cu, cu, cu, cu, cu, cu] [(.ref si_)])) rfl (by rw [hml]; rfl) (Steps.refl _) (argsL := []) (rest := []) (lenOf pdx_4 rfl) rfl (by show 2 * 0 + _ ≤ _; exact Nat.le_of_eq rfl) (hb hby at_100) (fun _ _ => ⟨rfl, eT4, (by decide : 8 + 0 ≤ _), (by decide : 48 + 0 ≤ _)⟩)
   dsimp only [Pt.U, Pt.locs, Pt.cells, Pt.slots] at X198 l198 y198 z198 st198 hQ198
   subst l198 y198 z198
   obtain ⟨rfl, N198q, K198c, Y198_0, Y198_1, Y198_2, Y198_3, Y198_4, Y198_5, Y198_6⟩ := hQ198
   have N198 := Fr.app N4 N198q
   refine Ends.go (fun _ k => st198.trans k) ?_
   obtain ⟨h198, e198⟩ : ∃ z, T198.heap = z := ⟨_, rfl⟩
   rw [e198] at K198c Y198_0 Y198_1 Y198_2 Y198_3 Y198_4 Y198_5 Y198_6
   have K198 := K4.trans K198c (allS (Or.inr sz_si_) all0)
   have O198 := O4.keep K198c (allS g_si_ all0)
   refine wil X198 hx hby at_103 rfl ?_
   show Ends _ _ _ _ T198 (mkF m 105 #[ci p0, ci p1, cj q2, cs, ci p3, cr x5, ci k_, ci lv_, cj q8_, cs, cr si_, cu, cu, cu, cu, cu, cu, cu, cu, cu, cu] [(.int k_)]) _ _ _
   refine wic X198 hx hby at_105 ?_
   by_cases hc106_199 : k_ < (2 : Int32)
   ·refine wcy (pc := 106) (pc' := 114) X198 hx hby at_106 (tlt hc106_199).1 (by decide) (by decide) ?_
    obtain rfl : k_ = 1 := by
     revert hc95_186 hc106_199
     rcases hk with rfl | rfl | rfl | rfl | rfl <;> decide
    show Ends _ _ _ _ T198 (mkF m 114 #[ci p0, ci p1, cj q2, cs, ci p3, cr x5, ci 1, ci lv_, cj q8_, cs, cr si_, cu, cu, cu, cu, cu, cu, cu, cu, cu, cu] []) _ _ _
    refine wil X198 hx hby at_114 rfl ?_
    refine wic X198 hx hby at_116 ?_
    show Ends _ _ _ _ T198 (mkF m 117 #[ci p0, ci p1, cj q2, cs, ci p3, cr x5, ci 1, ci lv_, cj q8_, cs, cr si_, cu, cu, cu, cu, cu, cu, cu, cu, cu, cu] [(.int 3), (.int 1)]) _ _ _
    refine wcy (pc := 117) (pc' := 125) X198 hx hby at_117 (tlt (by decide : (1 : Int32) < (3 : Int32))).1 (by decide) (by decide) ?_
    refine wil X198 hx hby at_125 rfl ?_
    refine wic X198 hx hby at_127 ?_
    refine wcy (pc := 128) (pc' := 136) X198 hx hby at_128 (tlt (by decide : (1 : Int32) < (4 : Int32))).1 (by decide) (by decide) ?_
    refine wal X198 hx hby at_136 rfl rfl ?_
    show Ends _ _ _ _ T198 (mkF m 138 #[ci p0, ci p1, cj q2, cs, ci p3, cr x5, ci 1, ci lv_, cj q8_, cs, cr si_, cu, cu, cu, cu, cu, cu, cu, cu, cu, cu] [(.ref si_)]) _ _ _
    obtain ⟨cq205, kq205, q205a, q205b, q205c⟩ := isOf hZ e198 (E4.keep K198c)
    obtain ⟨_, _, ⟨T205, L205, k205, n205⟩, -, X205, ⟨Lc205, hQ205, l205, y205, z205⟩, st205⟩ := X198.virtualBack hx (y := ym14) (z := ym14) hown (mvT hZ (ow hw 97 rfl)) (mvT hZ (ow hw 98 rfl)) (notFace_of_selects (args := #[]) (mvT hZ (ow hw 100 rfl))) (mvT hZ (ow hw 100 rfl)) (mvT hZ (ow hw 99 rfl)) (by decide) (own_backOf (W := 0) (rx20_200 l Z a0 hw [] n0 h198 O198  si_ xa_ Y198_2 Y198_0 (E4.keep K198c) Y198_5 Y198_4 Y198_1 Y198_3 Y198_6 g_si_) hZ (ow hw 101 rfl) (ow hw 6 rfl) (by decide) (by decide)) q205a q205c (g := (mkF m 138 #[ci p0, ci p1, cj q2, cs, ci p3, cr x5, ci 1, ci lv_, cj q8_, cs, cr si_, cu, cu, cu, cu, cu, cu, cu, cu, cu, cu] [(.ref si_)])) rfl (by rw [hml]; rfl) (Steps.refl _) (argsL := []) (rest := []) (lenOf pdx_4 rfl) rfl (by show 2 * 0 + _ ≤ _; exact Nat.le_of_eq rfl) (hb hby at_138) (fun _ _ => ⟨rfl, e198, (by decide : 8 + 0 ≤ _), (by decide : 48 + 0 ≤ _)⟩)
    dsimp only [Pt.U, Pt.locs, Pt.cells, Pt.slots] at X205 l205 y205 z205 st205 hQ205
    subst l205 y205 z205
    obtain ⟨rfl, N205q, K205c, Y205_0, Y205_1, Y205_2, Y205_3, Y205_4, Y205_5, Y205_6⟩ := hQ205
    have N205 := Fr.app N198 N205q
    refine Ends.go (fun _ k => st205.trans k) ?_
    obtain ⟨h205, e205⟩ : ∃ z, T205.heap = z := ⟨_, rfl⟩
    rw [e205] at K205c Y205_0 Y205_1 Y205_2 Y205_3 Y205_4 Y205_5 Y205_6
    have K205 := K198.trans K205c (allS (Or.inr sz_si_) all0)
    have O205 := O198.keep K205c (allS g_si_ all0)
    refine wal X205 hx hby at_141 rfl rfl ?_
    refine .go (fun _ => XS.lload X205.here hx rfl (hb hby at_143) rfl) ?_
    refine wil X205 hx hby at_145 rfl ?_
    obtain ⟨cq206, kq206, q206a, q206b, q206c⟩ := isOf hZ e205 ((E4.keep K198c).keep K205c)
    obtain ⟨_, _, ⟨T206, L206, k206, n206⟩, -, X206, ⟨Lc206, hQ206, l206, y206, z206⟩, st206⟩ := X205.virtualBack hx (y := ym8) (z := ym8) hown (mvT hZ (ow hw 110 rfl)) (mvT hZ (ow hw 111 rfl)) (notFace_of_selects (args := #[]) (mvT hZ (ow hw 113 rfl))) (mvT hZ (ow hw 113 rfl)) (mvT hZ (ow hw 112 rfl)) (by decide) (own_backOf (W := 0) (rmS l Z a0 hw [] n0 h205 O205 si_ xa_ kxa_ lv_ (1 : Int32) q8_ c0_ c1_ c2_ c3_ g_si_ hox ((E4.keep K198c).keep K205c) Y205_4 Y205_1 Y205_0 Y205_5 Y205_3 Y205_6 ((Vx.keep K198c (ninS (Ne.symm hox) nin0)).keep K205c (ninS (Ne.symm hox) nin0)) (by decide) hq8 hc0_ hc1_ hc2_ hc3_) hZ (ow hw 114 rfl) (ow hw 6 rfl) (by decide) (by decide)) q206a q206c (g := (mkF m 147 #[ci p0, ci p1, cj q2, cs, ci p3, cr x5, ci 1, ci lv_, cj q8_, cs, cr si_, cu, cu, cu, cu, cu, cu, cu, cu, cu, cu] [(.int lv_), (.long q8_), (.ref si_)])) rfl (by rw [hml]; rfl) (Steps.refl _) (argsL := [(.long q8_), (.int lv_)]) (rest := []) (lenOf pdx_5 rfl) rfl (by show 2 * 0 + _ ≤ _; exact Nat.le_of_eq rfl) (hb hby at_147) (fun _ _ => ⟨rfl, e205, (by decide : 8 + 0 ≤ _), (by decide : 48 + 0 ≤ _)⟩)
    dsimp only [Pt.U, Pt.locs, Pt.cells, Pt.slots] at X206 l206 y206 z206 st206 hQ206
    subst l206 y206 z206
    obtain ⟨n206, g206, p206, pl206, rfl, N206q, K206c, hg206, hp206, Eq206, Fb206, Fp206, Fa206, Fd206, hR206⟩ := hQ206
    have N206 := Fr.app N205 N206q
    refine Ends.go (fun _ k => st206.trans k) ?_
    obtain ⟨h206, e206⟩ : ∃ z, T206.heap = z := ⟨_, rfl⟩
    rw [e206] at K206c Eq206 Fb206 Fp206 Fa206 Fd206
    have K206 := K205.trans K206c (allS (Or.inr sz_si_) all0)
    have O206 := O205.keep K206c (allS g_si_ all0)
    show Ends _ _ _ _ T206 (mkF m 150 #[ci p0, ci p1, cj q2, cs, ci p3, cr x5, ci 1, ci lv_, cj q8_, cs, cr si_, cu, cu, cu, cu, cu, cu, cu, cu, cu, cu] [(.long g206)]) _ _ _
    refine .go (fun _ => XS.lstore X206.here hx rfl (hb hby at_150) rfl (l' := #[ci p0, ci p1, cj q2, cs, ci p3, cr x5, ci 1, ci lv_, cj q8_, cs, cr si_, cj g206, cs, cu, cu, cu, cu, cu, cu, cu, cu]) rfl) ?_
    refine wic X206 hx hby at_152 ?_
    refine wil X206 hx hby at_153 rfl ?_
    refine wis X206 hx hby at_155 ?_
    refine wst X206 hx hby at_156 (l' := #[ci p0, ci p1, cj q2, cs, ci p3, cr x5, ci 1, ci lv_, cj q8_, cs, cr si_, cj g206, cs, ci 3, cu, cu, cu, cu, cu, cu, cu]) rfl ?_
    show Ends _ _ _ _ T206 (mkF m 158 #[ci p0, ci p1, cj q2, cs, ci p3, cr x5, ci 1, ci lv_, cj q8_, cs, cr si_, cj g206, cs, ci 3, cu, cu, cu, cu, cu, cu, cu] []) _ _ _
    refine .go (fun _ => XS.lload X206.here hx rfl (hb hby at_158) rfl) ?_
    refine wil X206 hx hby at_160 rfl ?_
    refine .go (fun _ => XS.i2l X206.here hx rfl (hb hby at_162) rfl) ?_
    refine .go (fun _ => XS.lcmp X206.here hx rfl (hb hby at_163) rfl) ?_
    by_cases hc164_207 : (lcmpW q8_ (3 : Int64)) < (0 : Int32)
    ·refine wiy (pc := 164) (pc' := 172) X206 hx hby at_164 ((if0 _ _).trans (tlt hc164_207).1) (by decide) (by decide) ?_
     show Ends _ _ _ _ T206 (mkF m 172 #[ci p0, ci p1, cj q2, cs, ci p3, cr x5, ci 1, ci lv_, cj q8_, cs, cr si_, cj g206, cs, ci 3, cu, cu, cu, cu, cu, cu, cu] []) _ _ _
     refine .go (fun _ => XS.lload X206.here hx rfl (hb hby at_172) rfl) ?_
     refine .go (fun _ => XS.l2i X206.here hx rfl (hb hby at_174) rfl) ?_
     refine wst X206 hx hby at_175 (l' := #[ci p0, ci p1, cj q2, cs, ci p3, cr x5, ci 1, ci lv_, cj q8_, cs, cr si_, cj g206, cs, ci 3, ci (q8_.toInt32), cu, cu, cu, cu, cu, cu]) rfl ?_
     have hce : own_cap (1 : Int32) q8_ = (q8_.toInt32) := own_capt (by decide) hc164_207
     have hcb := own_capm (k := (1 : Int32)) (m := 3) (by decide) (by decide) hq8
     rw [hce] at hcb hR206
     exact J177_1 _ _ _ x5 kx5 si_ lv_ (q8_.toInt32) pl206 n206 p206 q8_ g206 X206 e206 O206 N206 K206 g_si_ sz_si_ Eq206 (((V5.keep K198c (ninS (Ne.symm hox5) nin0)).keep K205c (ninS (Ne.symm hox5) nin0)).keep K206c (ninS (Ne.symm hox5) nin0)) Fb206 Fp206 Fa206 Fd206 hg206 hp206 hcb ((own_run_1 c0_ c1_ c2_ c3_ _ _ _).mp hR206)
    ·refine win X206 hx hby at_164 ((if0 _ _).trans (flt hc164_207).1) ?_
     refine wil X206 hx hby at_167 rfl ?_
     show Ends _ _ _ _ T206 (mkF m 169 #[ci p0, ci p1, cj q2, cs, ci p3, cr x5, ci 1, ci lv_, cj q8_, cs, cr si_, cj g206, cs, ci 3, cu, cu, cu, cu, cu, cu, cu] [(.int 3)]) _ _ _
     refine wgo (pc := 169) (pc' := 175) X206 hx hby at_169 (by decide) (by decide) ?_
     refine wst X206 hx hby at_175 (l' := #[ci p0, ci p1, cj q2, cs, ci p3, cr x5, ci 1, ci lv_, cj q8_, cs, cr si_, cj g206, cs, ci 3, ci 3, cu, cu, cu, cu, cu, cu]) rfl ?_
     have hce : own_cap (1 : Int32) q8_ = (3 : Int32) := own_capf (by decide) (by decide) hc164_207
     have hcb := own_capm (k := (1 : Int32)) (m := 3) (by decide) (by decide) hq8
     rw [hce] at hcb hR206
     exact J177_1 _ _ _ x5 kx5 si_ lv_ (3 : Int32) pl206 n206 p206 q8_ g206 X206 e206 O206 N206 K206 g_si_ sz_si_ Eq206 (((V5.keep K198c (ninS (Ne.symm hox5) nin0)).keep K205c (ninS (Ne.symm hox5) nin0)).keep K206c (ninS (Ne.symm hox5) nin0)) Fb206 Fp206 Fa206 Fd206 hg206 hp206 hcb ((own_run_1 c0_ c1_ c2_ c3_ _ _ _).mp hR206)
   ·refine wcn X198 hx hby at_106 (flt hc106_199).1 ?_
    refine wal X198 hx hby at_109 rfl rfl ?_
    obtain ⟨cq211, kq211, q211a, q211b, q211c⟩ := isOf hZ e198 (E4.keep K198c)
    obtain ⟨_, _, ⟨T211, L211, k211, n211⟩, -, X211, ⟨Lc211, hQ211, l211, y211, z211⟩, st211⟩ := X198.virtualBack hx (y := ym15) (z := ym15) hown (mvT hZ (ow hw 140 rfl)) (mvT hZ (ow hw 141 rfl)) (notFace_of_selects (args := #[]) (mvT hZ (ow hw 143 rfl))) (mvT hZ (ow hw 143 rfl)) (mvT hZ (ow hw 142 rfl)) (by decide) (own_backOf (W := 0) (rx27_208 l Z a0 hw [] n0 h198 O198  si_ xa_ Y198_0 (E4.keep K198c) Y198_1 Y198_2 Y198_3 Y198_4 Y198_5 Y198_6 g_si_) hZ (ow hw 144 rfl) (ow hw 6 rfl) (by decide) (by decide)) q211a q211c (g := (mkF m 111 #[ci p0, ci p1, cj q2, cs, ci p3, cr x5, ci k_, ci lv_, cj q8_, cs, cr si_, cu, cu, cu, cu, cu, cu, cu, cu, cu, cu] [(.ref si_)])) rfl (by rw [hml]; rfl) (Steps.refl _) (argsL := []) (rest := []) (lenOf pdx_4 rfl) rfl (by show 2 * 0 + _ ≤ _; exact Nat.le_of_eq rfl) (hb hby at_111) (fun _ _ => ⟨rfl, e198, (by decide : 8 + 0 ≤ _), (by decide : 48 + 0 ≤ _)⟩)
    dsimp only [Pt.U, Pt.locs, Pt.cells, Pt.slots] at X211 l211 y211 z211 st211 hQ211
    subst l211 y211 z211
    obtain ⟨rfl, N211q, K211c, Y211_0, Y211_1, Y211_2, Y211_3, Y211_4, Y211_5, Y211_6⟩ := hQ211
    have N211 := Fr.app N198 N211q
    refine Ends.go (fun _ k => st211.trans k) ?_
    obtain ⟨h211, e211⟩ : ∃ z, T211.heap = z := ⟨_, rfl⟩
    rw [e211] at K211c Y211_0 Y211_1 Y211_2 Y211_3 Y211_4 Y211_5 Y211_6
    have K211 := K198.trans K211c (allS (Or.inr sz_si_) all0)
    have O211 := O198.keep K211c (allS g_si_ all0)
    show Ends _ _ _ _ T211 (mkF m 114 #[ci p0, ci p1, cj q2, cs, ci p3, cr x5, ci k_, ci lv_, cj q8_, cs, cr si_, cu, cu, cu, cu, cu, cu, cu, cu, cu, cu] []) _ _ _
    refine wil X211 hx hby at_114 rfl ?_
    refine wic X211 hx hby at_116 ?_
    by_cases hc117_212 : k_ < (3 : Int32)
    ·refine wcy (pc := 117) (pc' := 125) X211 hx hby at_117 (tlt hc117_212).1 (by decide) (by decide) ?_
     obtain rfl : k_ = 2 := by
      revert hc95_186 hc106_199 hc117_212
      rcases hk with rfl | rfl | rfl | rfl | rfl <;> decide
     show Ends _ _ _ _ T211 (mkF m 125 #[ci p0, ci p1, cj q2, cs, ci p3, cr x5, ci 2, ci lv_, cj q8_, cs, cr si_, cu, cu, cu, cu, cu, cu, cu, cu, cu, cu] []) _ _ _
     refine wil X211 hx hby at_125 rfl ?_
     show Ends _ _ _ _ T211 (mkF m 127 #[ci p0, ci p1, cj q2, cs, ci p3, cr x5, ci 2, ci lv_, cj q8_, cs, cr si_, cu, cu, cu, cu, cu, cu, cu, cu, cu, cu] [(.int 2)]) _ _ _
     refine wic X211 hx hby at_127 ?_
     refine wcy (pc := 128) (pc' := 136) X211 hx hby at_128 (tlt (by decide : (2 : Int32) < (4 : Int32))).1 (by decide) (by decide) ?_
     refine wal X211 hx hby at_136 rfl rfl ?_
     obtain ⟨cq218, kq218, q218a, q218b, q218c⟩ := isOf hZ e211 ((E4.keep K198c).keep K211c)
     obtain ⟨_, _, ⟨T218, L218, k218, n218⟩, -, X218, ⟨Lc218, hQ218, l218, y218, z218⟩, st218⟩ := X211.virtualBack hx (y := ym14) (z := ym14) hown (mvT hZ (ow hw 97 rfl)) (mvT hZ (ow hw 98 rfl)) (notFace_of_selects (args := #[]) (mvT hZ (ow hw 100 rfl))) (mvT hZ (ow hw 100 rfl)) (mvT hZ (ow hw 99 rfl)) (by decide) (own_backOf (W := 0) (rx20_213 l Z a0 hw [] n0 h211 O211  si_ xa_ Y211_2 Y211_0 ((E4.keep K198c).keep K211c) Y211_5 Y211_4 Y211_1 Y211_3 Y211_6 g_si_) hZ (ow hw 101 rfl) (ow hw 6 rfl) (by decide) (by decide)) q218a q218c (g := (mkF m 138 #[ci p0, ci p1, cj q2, cs, ci p3, cr x5, ci 2, ci lv_, cj q8_, cs, cr si_, cu, cu, cu, cu, cu, cu, cu, cu, cu, cu] [(.ref si_)])) rfl (by rw [hml]; rfl) (Steps.refl _) (argsL := []) (rest := []) (lenOf pdx_4 rfl) rfl (by show 2 * 0 + _ ≤ _; exact Nat.le_of_eq rfl) (hb hby at_138) (fun _ _ => ⟨rfl, e211, (by decide : 8 + 0 ≤ _), (by decide : 48 + 0 ≤ _)⟩)
     dsimp only [Pt.U, Pt.locs, Pt.cells, Pt.slots] at X218 l218 y218 z218 st218 hQ218
     subst l218 y218 z218
     obtain ⟨rfl, N218q, K218c, Y218_0, Y218_1, Y218_2, Y218_3, Y218_4, Y218_5, Y218_6⟩ := hQ218
     have N218 := Fr.app N211 N218q
     refine Ends.go (fun _ k => st218.trans k) ?_
     obtain ⟨h218, e218⟩ : ∃ z, T218.heap = z := ⟨_, rfl⟩
     rw [e218] at K218c Y218_0 Y218_1 Y218_2 Y218_3 Y218_4 Y218_5 Y218_6
     have K218 := K211.trans K218c (allS (Or.inr sz_si_) all0)
     have O218 := O211.keep K218c (allS g_si_ all0)
     refine wal X218 hx hby at_141 rfl rfl ?_
     show Ends _ _ _ _ T218 (mkF m 143 #[ci p0, ci p1, cj q2, cs, ci p3, cr x5, ci 2, ci lv_, cj q8_, cs, cr si_, cu, cu, cu, cu, cu, cu, cu, cu, cu, cu] [(.ref si_)]) _ _ _
     refine .go (fun _ => XS.lload X218.here hx rfl (hb hby at_143) rfl) ?_
     refine wil X218 hx hby at_145 rfl ?_
     obtain ⟨cq219, kq219, q219a, q219b, q219c⟩ := isOf hZ e218 (((E4.keep K198c).keep K211c).keep K218c)
     obtain ⟨_, _, ⟨T219, L219, k219, n219⟩, -, X219, ⟨Lc219, hQ219, l219, y219, z219⟩, st219⟩ := X218.virtualBack hx (y := ym8) (z := ym8) hown (mvT hZ (ow hw 110 rfl)) (mvT hZ (ow hw 111 rfl)) (notFace_of_selects (args := #[]) (mvT hZ (ow hw 113 rfl))) (mvT hZ (ow hw 113 rfl)) (mvT hZ (ow hw 112 rfl)) (by decide) (own_backOf (W := 0) (rmS l Z a0 hw [] n0 h218 O218 si_ xa_ kxa_ lv_ (2 : Int32) q8_ c0_ c1_ c2_ c3_ g_si_ hox (((E4.keep K198c).keep K211c).keep K218c) Y218_4 Y218_1 Y218_0 Y218_5 Y218_3 Y218_6 (((Vx.keep K198c (ninS (Ne.symm hox) nin0)).keep K211c (ninS (Ne.symm hox) nin0)).keep K218c (ninS (Ne.symm hox) nin0)) (by decide) hq8 hc0_ hc1_ hc2_ hc3_) hZ (ow hw 114 rfl) (ow hw 6 rfl) (by decide) (by decide)) q219a q219c (g := (mkF m 147 #[ci p0, ci p1, cj q2, cs, ci p3, cr x5, ci 2, ci lv_, cj q8_, cs, cr si_, cu, cu, cu, cu, cu, cu, cu, cu, cu, cu] [(.int lv_), (.long q8_), (.ref si_)])) rfl (by rw [hml]; rfl) (Steps.refl _) (argsL := [(.long q8_), (.int lv_)]) (rest := []) (lenOf pdx_5 rfl) rfl (by show 2 * 0 + _ ≤ _; exact Nat.le_of_eq rfl) (hb hby at_147) (fun _ _ => ⟨rfl, e218, (by decide : 8 + 0 ≤ _), (by decide : 48 + 0 ≤ _)⟩)
     dsimp only [Pt.U, Pt.locs, Pt.cells, Pt.slots] at X219 l219 y219 z219 st219 hQ219
     subst l219 y219 z219
     obtain ⟨n219, g219, p219, pl219, rfl, N219q, K219c, hg219, hp219, Eq219, Fb219, Fp219, Fa219, Fd219, hR219⟩ := hQ219
     have N219 := Fr.app N218 N219q
     refine Ends.go (fun _ k => st219.trans k) ?_
     obtain ⟨h219, e219⟩ : ∃ z, T219.heap = z := ⟨_, rfl⟩
     rw [e219] at K219c Eq219 Fb219 Fp219 Fa219 Fd219
     have K219 := K218.trans K219c (allS (Or.inr sz_si_) all0)
     have O219 := O218.keep K219c (allS g_si_ all0)
     refine .go (fun _ => XS.lstore X219.here hx rfl (hb hby at_150) rfl (l' := #[ci p0, ci p1, cj q2, cs, ci p3, cr x5, ci 2, ci lv_, cj q8_, cs, cr si_, cj g219, cs, cu, cu, cu, cu, cu, cu, cu, cu]) rfl) ?_
     refine wic X219 hx hby at_152 ?_
     show Ends _ _ _ _ T219 (mkF m 153 #[ci p0, ci p1, cj q2, cs, ci p3, cr x5, ci 2, ci lv_, cj q8_, cs, cr si_, cj g219, cs, cu, cu, cu, cu, cu, cu, cu, cu] [(.int 4)]) _ _ _
     refine wil X219 hx hby at_153 rfl ?_
     refine wis X219 hx hby at_155 ?_
     refine wst X219 hx hby at_156 (l' := #[ci p0, ci p1, cj q2, cs, ci p3, cr x5, ci 2, ci lv_, cj q8_, cs, cr si_, cj g219, cs, ci 2, cu, cu, cu, cu, cu, cu, cu]) rfl ?_
     refine .go (fun _ => XS.lload X219.here hx rfl (hb hby at_158) rfl) ?_
     refine wil X219 hx hby at_160 rfl ?_
     show Ends _ _ _ _ T219 (mkF m 162 #[ci p0, ci p1, cj q2, cs, ci p3, cr x5, ci 2, ci lv_, cj q8_, cs, cr si_, cj g219, cs, ci 2, cu, cu, cu, cu, cu, cu, cu] [(.int 2), (.long q8_)]) _ _ _
     refine .go (fun _ => XS.i2l X219.here hx rfl (hb hby at_162) rfl) ?_
     refine .go (fun _ => XS.lcmp X219.here hx rfl (hb hby at_163) rfl) ?_
     by_cases hc164_220 : (lcmpW q8_ (2 : Int64)) < (0 : Int32)
     ·refine wiy (pc := 164) (pc' := 172) X219 hx hby at_164 ((if0 _ _).trans (tlt hc164_220).1) (by decide) (by decide) ?_
      refine .go (fun _ => XS.lload X219.here hx rfl (hb hby at_172) rfl) ?_
      refine .go (fun _ => XS.l2i X219.here hx rfl (hb hby at_174) rfl) ?_
      show Ends _ _ _ _ T219 (mkF m 175 #[ci p0, ci p1, cj q2, cs, ci p3, cr x5, ci 2, ci lv_, cj q8_, cs, cr si_, cj g219, cs, ci 2, cu, cu, cu, cu, cu, cu, cu] [(.int (q8_.toInt32))]) _ _ _
      refine wst X219 hx hby at_175 (l' := #[ci p0, ci p1, cj q2, cs, ci p3, cr x5, ci 2, ci lv_, cj q8_, cs, cr si_, cj g219, cs, ci 2, ci (q8_.toInt32), cu, cu, cu, cu, cu, cu]) rfl ?_
      have hce : own_cap (2 : Int32) q8_ = (q8_.toInt32) := own_capt (by decide) hc164_220
      have hcb := own_capm (k := (2 : Int32)) (m := 2) (by decide) (by decide) hq8
      rw [hce] at hcb hR219
      exact J177_2 _ _ _ x5 kx5 si_ lv_ (q8_.toInt32) pl219 n219 p219 q8_ g219 X219 e219 O219 N219 K219 g_si_ sz_si_ Eq219 ((((V5.keep K198c (ninS (Ne.symm hox5) nin0)).keep K211c (ninS (Ne.symm hox5) nin0)).keep K218c (ninS (Ne.symm hox5) nin0)).keep K219c (ninS (Ne.symm hox5) nin0)) Fb219 Fp219 Fa219 Fd219 hg219 hp219 hcb ((own_run_2 c0_ c1_ c2_ c3_ _ _ _).mp hR219)
     ·refine win X219 hx hby at_164 ((if0 _ _).trans (flt hc164_220).1) ?_
      refine wil X219 hx hby at_167 rfl ?_
      refine wgo (pc := 169) (pc' := 175) X219 hx hby at_169 (by decide) (by decide) ?_
      refine wst X219 hx hby at_175 (l' := #[ci p0, ci p1, cj q2, cs, ci p3, cr x5, ci 2, ci lv_, cj q8_, cs, cr si_, cj g219, cs, ci 2, ci 2, cu, cu, cu, cu, cu, cu]) rfl ?_
      show Ends _ _ _ _ T219 (mkF m 177 #[ci p0, ci p1, cj q2, cs, ci p3, cr x5, ci 2, ci lv_, cj q8_, cs, cr si_, cj g219, cs, ci 2, ci 2, cu, cu, cu, cu, cu, cu] []) _ _ _
      have hce : own_cap (2 : Int32) q8_ = (2 : Int32) := own_capf (by decide) (by decide) hc164_220
      have hcb := own_capm (k := (2 : Int32)) (m := 2) (by decide) (by decide) hq8
      rw [hce] at hcb hR219
      exact J177_2 _ _ _ x5 kx5 si_ lv_ (2 : Int32) pl219 n219 p219 q8_ g219 X219 e219 O219 N219 K219 g_si_ sz_si_ Eq219 ((((V5.keep K198c (ninS (Ne.symm hox5) nin0)).keep K211c (ninS (Ne.symm hox5) nin0)).keep K218c (ninS (Ne.symm hox5) nin0)).keep K219c (ninS (Ne.symm hox5) nin0)) Fb219 Fp219 Fa219 Fd219 hg219 hp219 hcb ((own_run_2 c0_ c1_ c2_ c3_ _ _ _).mp hR219)
    ·refine wcn X211 hx hby at_117 (flt hc117_212).1 ?_
     refine wal X211 hx hby at_120 rfl rfl ?_
     obtain ⟨cq224, kq224, q224a, q224b, q224c⟩ := isOf hZ e211 ((E4.keep K198c).keep K211c)
     obtain ⟨_, _, ⟨T224, L224, k224, n224⟩, -, X224, ⟨Lc224, hQ224, l224, y224, z224⟩, st224⟩ := X211.virtualBack hx (y := ym15) (z := ym15) hown (mvT hZ (ow hw 140 rfl)) (mvT hZ (ow hw 141 rfl)) (notFace_of_selects (args := #[]) (mvT hZ (ow hw 143 rfl))) (mvT hZ (ow hw 143 rfl)) (mvT hZ (ow hw 142 rfl)) (by decide) (own_backOf (W := 0) (rx27_221 l Z a0 hw [] n0 h211 O211  si_ xa_ Y211_0 ((E4.keep K198c).keep K211c) Y211_1 Y211_2 Y211_3 Y211_4 Y211_5 Y211_6 g_si_) hZ (ow hw 144 rfl) (ow hw 6 rfl) (by decide) (by decide)) q224a q224c (g := (mkF m 122 #[ci p0, ci p1, cj q2, cs, ci p3, cr x5, ci k_, ci lv_, cj q8_, cs, cr si_, cu, cu, cu, cu, cu, cu, cu, cu, cu, cu] [(.ref si_)])) rfl (by rw [hml]; rfl) (Steps.refl _) (argsL := []) (rest := []) (lenOf pdx_4 rfl) rfl (by show 2 * 0 + _ ≤ _; exact Nat.le_of_eq rfl) (hb hby at_122) (fun _ _ => ⟨rfl, e211, (by decide : 8 + 0 ≤ _), (by decide : 48 + 0 ≤ _)⟩)
     dsimp only [Pt.U, Pt.locs, Pt.cells, Pt.slots] at X224 l224 y224 z224 st224 hQ224
     subst l224 y224 z224
     obtain ⟨rfl, N224q, K224c, Y224_0, Y224_1, Y224_2, Y224_3, Y224_4, Y224_5, Y224_6⟩ := hQ224
     have N224 := Fr.app N211 N224q
     refine Ends.go (fun _ k => st224.trans k) ?_
     obtain ⟨h224, e224⟩ : ∃ z, T224.heap = z := ⟨_, rfl⟩
     rw [e224] at K224c Y224_0 Y224_1 Y224_2 Y224_3 Y224_4 Y224_5 Y224_6
     have K224 := K211.trans K224c (allS (Or.inr sz_si_) all0)
     have O224 := O211.keep K224c (allS g_si_ all0)
     refine wil X224 hx hby at_125 rfl ?_
     refine wic X224 hx hby at_127 ?_
     show Ends _ _ _ _ T224 (mkF m 128 #[ci p0, ci p1, cj q2, cs, ci p3, cr x5, ci k_, ci lv_, cj q8_, cs, cr si_, cu, cu, cu, cu, cu, cu, cu, cu, cu, cu] [(.int 4), (.int k_)]) _ _ _
     by_cases hc128_225 : k_ < (4 : Int32)
     ·refine wcy (pc := 128) (pc' := 136) X224 hx hby at_128 (tlt hc128_225).1 (by decide) (by decide) ?_
      obtain rfl : k_ = 3 := by
       revert hc95_186 hc106_199 hc117_212 hc128_225
       rcases hk with rfl | rfl | rfl | rfl | rfl <;> decide
      show Ends _ _ _ _ T224 (mkF m 136 #[ci p0, ci p1, cj q2, cs, ci p3, cr x5, ci 3, ci lv_, cj q8_, cs, cr si_, cu, cu, cu, cu, cu, cu, cu, cu, cu, cu] []) _ _ _
      refine wal X224 hx hby at_136 rfl rfl ?_
      obtain ⟨cq231, kq231, q231a, q231b, q231c⟩ := isOf hZ e224 (((E4.keep K198c).keep K211c).keep K224c)
      obtain ⟨_, _, ⟨T231, L231, k231, n231⟩, -, X231, ⟨Lc231, hQ231, l231, y231, z231⟩, st231⟩ := X224.virtualBack hx (y := ym14) (z := ym14) hown (mvT hZ (ow hw 97 rfl)) (mvT hZ (ow hw 98 rfl)) (notFace_of_selects (args := #[]) (mvT hZ (ow hw 100 rfl))) (mvT hZ (ow hw 100 rfl)) (mvT hZ (ow hw 99 rfl)) (by decide) (own_backOf (W := 0) (rx20_226 l Z a0 hw [] n0 h224 O224  si_ xa_ Y224_2 Y224_0 (((E4.keep K198c).keep K211c).keep K224c) Y224_5 Y224_4 Y224_1 Y224_3 Y224_6 g_si_) hZ (ow hw 101 rfl) (ow hw 6 rfl) (by decide) (by decide)) q231a q231c (g := (mkF m 138 #[ci p0, ci p1, cj q2, cs, ci p3, cr x5, ci 3, ci lv_, cj q8_, cs, cr si_, cu, cu, cu, cu, cu, cu, cu, cu, cu, cu] [(.ref si_)])) rfl (by rw [hml]; rfl) (Steps.refl _) (argsL := []) (rest := []) (lenOf pdx_4 rfl) rfl (by show 2 * 0 + _ ≤ _; exact Nat.le_of_eq rfl) (hb hby at_138) (fun _ _ => ⟨rfl, e224, (by decide : 8 + 0 ≤ _), (by decide : 48 + 0 ≤ _)⟩)
      dsimp only [Pt.U, Pt.locs, Pt.cells, Pt.slots] at X231 l231 y231 z231 st231 hQ231
      subst l231 y231 z231
      obtain ⟨rfl, N231q, K231c, Y231_0, Y231_1, Y231_2, Y231_3, Y231_4, Y231_5, Y231_6⟩ := hQ231
      have N231 := Fr.app N224 N231q
      refine Ends.go (fun _ k => st231.trans k) ?_
      obtain ⟨h231, e231⟩ : ∃ z, T231.heap = z := ⟨_, rfl⟩
      rw [e231] at K231c Y231_0 Y231_1 Y231_2 Y231_3 Y231_4 Y231_5 Y231_6
      have K231 := K224.trans K231c (allS (Or.inr sz_si_) all0)
      have O231 := O224.keep K231c (allS g_si_ all0)
      refine wal X231 hx hby at_141 rfl rfl ?_
      show Ends _ _ _ _ T231 (mkF m 143 #[ci p0, ci p1, cj q2, cs, ci p3, cr x5, ci 3, ci lv_, cj q8_, cs, cr si_, cu, cu, cu, cu, cu, cu, cu, cu, cu, cu] [(.ref si_)]) _ _ _
      refine .go (fun _ => XS.lload X231.here hx rfl (hb hby at_143) rfl) ?_
      refine wil X231 hx hby at_145 rfl ?_
      obtain ⟨cq232, kq232, q232a, q232b, q232c⟩ := isOf hZ e231 ((((E4.keep K198c).keep K211c).keep K224c).keep K231c)
      obtain ⟨_, _, ⟨T232, L232, k232, n232⟩, -, X232, ⟨Lc232, hQ232, l232, y232, z232⟩, st232⟩ := X231.virtualBack hx (y := ym8) (z := ym8) hown (mvT hZ (ow hw 110 rfl)) (mvT hZ (ow hw 111 rfl)) (notFace_of_selects (args := #[]) (mvT hZ (ow hw 113 rfl))) (mvT hZ (ow hw 113 rfl)) (mvT hZ (ow hw 112 rfl)) (by decide) (own_backOf (W := 0) (rmS l Z a0 hw [] n0 h231 O231 si_ xa_ kxa_ lv_ (3 : Int32) q8_ c0_ c1_ c2_ c3_ g_si_ hox ((((E4.keep K198c).keep K211c).keep K224c).keep K231c) Y231_4 Y231_1 Y231_0 Y231_5 Y231_3 Y231_6 ((((Vx.keep K198c (ninS (Ne.symm hox) nin0)).keep K211c (ninS (Ne.symm hox) nin0)).keep K224c (ninS (Ne.symm hox) nin0)).keep K231c (ninS (Ne.symm hox) nin0)) (by decide) hq8 hc0_ hc1_ hc2_ hc3_) hZ (ow hw 114 rfl) (ow hw 6 rfl) (by decide) (by decide)) q232a q232c (g := (mkF m 147 #[ci p0, ci p1, cj q2, cs, ci p3, cr x5, ci 3, ci lv_, cj q8_, cs, cr si_, cu, cu, cu, cu, cu, cu, cu, cu, cu, cu] [(.int lv_), (.long q8_), (.ref si_)])) rfl (by rw [hml]; rfl) (Steps.refl _) (argsL := [(.long q8_), (.int lv_)]) (rest := []) (lenOf pdx_5 rfl) rfl (by show 2 * 0 + _ ≤ _; exact Nat.le_of_eq rfl) (hb hby at_147) (fun _ _ => ⟨rfl, e231, (by decide : 8 + 0 ≤ _), (by decide : 48 + 0 ≤ _)⟩)
      dsimp only [Pt.U, Pt.locs, Pt.cells, Pt.slots] at X232 l232 y232 z232 st232 hQ232
      subst l232 y232 z232
      obtain ⟨n232, g232, p232, pl232, rfl, N232q, K232c, hg232, hp232, Eq232, Fb232, Fp232, Fa232, Fd232, hR232⟩ := hQ232
      have N232 := Fr.app N231 N232q
      refine Ends.go (fun _ k => st232.trans k) ?_
      obtain ⟨h232, e232⟩ : ∃ z, T232.heap = z := ⟨_, rfl⟩
      rw [e232] at K232c Eq232 Fb232 Fp232 Fa232 Fd232
      have K232 := K231.trans K232c (allS (Or.inr sz_si_) all0)
      have O232 := O231.keep K232c (allS g_si_ all0)
      refine .go (fun _ => XS.lstore X232.here hx rfl (hb hby at_150) rfl (l' := #[ci p0, ci p1, cj q2, cs, ci p3, cr x5, ci 3, ci lv_, cj q8_, cs, cr si_, cj g232, cs, cu, cu, cu, cu, cu, cu, cu, cu]) rfl) ?_
      refine wic X232 hx hby at_152 ?_
      show Ends _ _ _ _ T232 (mkF m 153 #[ci p0, ci p1, cj q2, cs, ci p3, cr x5, ci 3, ci lv_, cj q8_, cs, cr si_, cj g232, cs, cu, cu, cu, cu, cu, cu, cu, cu] [(.int 4)]) _ _ _
      refine wil X232 hx hby at_153 rfl ?_
      refine wis X232 hx hby at_155 ?_
      refine wst X232 hx hby at_156 (l' := #[ci p0, ci p1, cj q2, cs, ci p3, cr x5, ci 3, ci lv_, cj q8_, cs, cr si_, cj g232, cs, ci 1, cu, cu, cu, cu, cu, cu, cu]) rfl ?_
      refine .go (fun _ => XS.lload X232.here hx rfl (hb hby at_158) rfl) ?_
      refine wil X232 hx hby at_160 rfl ?_
      show Ends _ _ _ _ T232 (mkF m 162 #[ci p0, ci p1, cj q2, cs, ci p3, cr x5, ci 3, ci lv_, cj q8_, cs, cr si_, cj g232, cs, ci 1, cu, cu, cu, cu, cu, cu, cu] [(.int 1), (.long q8_)]) _ _ _
      refine .go (fun _ => XS.i2l X232.here hx rfl (hb hby at_162) rfl) ?_
      refine .go (fun _ => XS.lcmp X232.here hx rfl (hb hby at_163) rfl) ?_
      by_cases hc164_233 : (lcmpW q8_ (1 : Int64)) < (0 : Int32)
      ·refine wiy (pc := 164) (pc' := 172) X232 hx hby at_164 ((if0 _ _).trans (tlt hc164_233).1) (by decide) (by decide) ?_
       refine .go (fun _ => XS.lload X232.here hx rfl (hb hby at_172) rfl) ?_
       refine .go (fun _ => XS.l2i X232.here hx rfl (hb hby at_174) rfl) ?_
       show Ends _ _ _ _ T232 (mkF m 175 #[ci p0, ci p1, cj q2, cs, ci p3, cr x5, ci 3, ci lv_, cj q8_, cs, cr si_, cj g232, cs, ci 1, cu, cu, cu, cu, cu, cu, cu] [(.int (q8_.toInt32))]) _ _ _
       refine wst X232 hx hby at_175 (l' := #[ci p0, ci p1, cj q2, cs, ci p3, cr x5, ci 3, ci lv_, cj q8_, cs, cr si_, cj g232, cs, ci 1, ci (q8_.toInt32), cu, cu, cu, cu, cu, cu]) rfl ?_
       have hce : own_cap (3 : Int32) q8_ = (q8_.toInt32) := own_capt (by decide) hc164_233
       have hcb := own_capm (k := (3 : Int32)) (m := 1) (by decide) (by decide) hq8
       rw [hce] at hcb hR232
       exact J177_3 _ _ _ x5 kx5 si_ lv_ (q8_.toInt32) pl232 n232 p232 q8_ g232 X232 e232 O232 N232 K232 g_si_ sz_si_ Eq232 (((((V5.keep K198c (ninS (Ne.symm hox5) nin0)).keep K211c (ninS (Ne.symm hox5) nin0)).keep K224c (ninS (Ne.symm hox5) nin0)).keep K231c (ninS (Ne.symm hox5) nin0)).keep K232c (ninS (Ne.symm hox5) nin0)) Fb232 Fp232 Fa232 Fd232 hg232 hp232 hcb ((own_run_3 c0_ c1_ c2_ c3_ _ _ _).mp hR232)
      ·refine win X232 hx hby at_164 ((if0 _ _).trans (flt hc164_233).1) ?_
       refine wil X232 hx hby at_167 rfl ?_
       refine wgo (pc := 169) (pc' := 175) X232 hx hby at_169 (by decide) (by decide) ?_
       refine wst X232 hx hby at_175 (l' := #[ci p0, ci p1, cj q2, cs, ci p3, cr x5, ci 3, ci lv_, cj q8_, cs, cr si_, cj g232, cs, ci 1, ci 1, cu, cu, cu, cu, cu, cu]) rfl ?_
       show Ends _ _ _ _ T232 (mkF m 177 #[ci p0, ci p1, cj q2, cs, ci p3, cr x5, ci 3, ci lv_, cj q8_, cs, cr si_, cj g232, cs, ci 1, ci 1, cu, cu, cu, cu, cu, cu] []) _ _ _
       have hce : own_cap (3 : Int32) q8_ = (1 : Int32) := own_capf (by decide) (by decide) hc164_233
       have hcb := own_capm (k := (3 : Int32)) (m := 1) (by decide) (by decide) hq8
       rw [hce] at hcb hR232
       exact J177_3 _ _ _ x5 kx5 si_ lv_ (1 : Int32) pl232 n232 p232 q8_ g232 X232 e232 O232 N232 K232 g_si_ sz_si_ Eq232 (((((V5.keep K198c (ninS (Ne.symm hox5) nin0)).keep K211c (ninS (Ne.symm hox5) nin0)).keep K224c (ninS (Ne.symm hox5) nin0)).keep K231c (ninS (Ne.symm hox5) nin0)).keep K232c (ninS (Ne.symm hox5) nin0)) Fb232 Fp232 Fa232 Fd232 hg232 hp232 hcb ((own_run_3 c0_ c1_ c2_ c3_ _ _ _).mp hR232)
     ·refine wcn X224 hx hby at_128 (flt hc128_225).1 ?_
      obtain rfl : k_ = 4 := by
       revert hc95_186 hc106_199 hc117_212 hc128_225
       rcases hk with rfl | rfl | rfl | rfl | rfl <;> decide
      show Ends _ _ _ _ T224 (mkF m 131 #[ci p0, ci p1, cj q2, cs, ci p3, cr x5, ci 4, ci lv_, cj q8_, cs, cr si_, cu, cu, cu, cu, cu, cu, cu, cu, cu, cu] []) _ _ _
      refine wal X224 hx hby at_131 rfl rfl ?_
      obtain ⟨cq237, kq237, q237a, q237b, q237c⟩ := isOf hZ e224 (((E4.keep K198c).keep K211c).keep K224c)
      obtain ⟨_, _, ⟨T237, L237, k237, n237⟩, -, X237, ⟨Lc237, hQ237, l237, y237, z237⟩, st237⟩ := X224.virtualBack hx (y := ym15) (z := ym15) hown (mvT hZ (ow hw 140 rfl)) (mvT hZ (ow hw 141 rfl)) (notFace_of_selects (args := #[]) (mvT hZ (ow hw 143 rfl))) (mvT hZ (ow hw 143 rfl)) (mvT hZ (ow hw 142 rfl)) (by decide) (own_backOf (W := 0) (rx27_234 l Z a0 hw [] n0 h224 O224  si_ xa_ Y224_0 (((E4.keep K198c).keep K211c).keep K224c) Y224_1 Y224_2 Y224_3 Y224_4 Y224_5 Y224_6 g_si_) hZ (ow hw 144 rfl) (ow hw 6 rfl) (by decide) (by decide)) q237a q237c (g := (mkF m 133 #[ci p0, ci p1, cj q2, cs, ci p3, cr x5, ci 4, ci lv_, cj q8_, cs, cr si_, cu, cu, cu, cu, cu, cu, cu, cu, cu, cu] [(.ref si_)])) rfl (by rw [hml]; rfl) (Steps.refl _) (argsL := []) (rest := []) (lenOf pdx_4 rfl) rfl (by show 2 * 0 + _ ≤ _; exact Nat.le_of_eq rfl) (hb hby at_133) (fun _ _ => ⟨rfl, e224, (by decide : 8 + 0 ≤ _), (by decide : 48 + 0 ≤ _)⟩)
      dsimp only [Pt.U, Pt.locs, Pt.cells, Pt.slots] at X237 l237 y237 z237 st237 hQ237
      subst l237 y237 z237
      obtain ⟨rfl, N237q, K237c, Y237_0, Y237_1, Y237_2, Y237_3, Y237_4, Y237_5, Y237_6⟩ := hQ237
      have N237 := Fr.app N224 N237q
      refine Ends.go (fun _ k => st237.trans k) ?_
      obtain ⟨h237, e237⟩ : ∃ z, T237.heap = z := ⟨_, rfl⟩
      rw [e237] at K237c Y237_0 Y237_1 Y237_2 Y237_3 Y237_4 Y237_5 Y237_6
      have K237 := K224.trans K237c (allS (Or.inr sz_si_) all0)
      have O237 := O224.keep K237c (allS g_si_ all0)
      refine wal X237 hx hby at_136 rfl rfl ?_
      show Ends _ _ _ _ T237 (mkF m 138 #[ci p0, ci p1, cj q2, cs, ci p3, cr x5, ci 4, ci lv_, cj q8_, cs, cr si_, cu, cu, cu, cu, cu, cu, cu, cu, cu, cu] [(.ref si_)]) _ _ _
      obtain ⟨cq243, kq243, q243a, q243b, q243c⟩ := isOf hZ e237 ((((E4.keep K198c).keep K211c).keep K224c).keep K237c)
      obtain ⟨_, _, ⟨T243, L243, k243, n243⟩, -, X243, ⟨Lc243, hQ243, l243, y243, z243⟩, st243⟩ := X237.virtualBack hx (y := ym14) (z := ym14) hown (mvT hZ (ow hw 97 rfl)) (mvT hZ (ow hw 98 rfl)) (notFace_of_selects (args := #[]) (mvT hZ (ow hw 100 rfl))) (mvT hZ (ow hw 100 rfl)) (mvT hZ (ow hw 99 rfl)) (by decide) (own_backOf (W := 0) (rx20_238 l Z a0 hw [] n0 h237 O237  si_ xa_ Y237_2 Y237_0 ((((E4.keep K198c).keep K211c).keep K224c).keep K237c) Y237_5 Y237_4 Y237_1 Y237_3 Y237_6 g_si_) hZ (ow hw 101 rfl) (ow hw 6 rfl) (by decide) (by decide)) q243a q243c (g := (mkF m 138 #[ci p0, ci p1, cj q2, cs, ci p3, cr x5, ci 4, ci lv_, cj q8_, cs, cr si_, cu, cu, cu, cu, cu, cu, cu, cu, cu, cu] [(.ref si_)])) rfl (by rw [hml]; rfl) (Steps.refl _) (argsL := []) (rest := []) (lenOf pdx_4 rfl) rfl (by show 2 * 0 + _ ≤ _; exact Nat.le_of_eq rfl) (hb hby at_138) (fun _ _ => ⟨rfl, e237, (by decide : 8 + 0 ≤ _), (by decide : 48 + 0 ≤ _)⟩)
      dsimp only [Pt.U, Pt.locs, Pt.cells, Pt.slots] at X243 l243 y243 z243 st243 hQ243
      subst l243 y243 z243
      obtain ⟨rfl, N243q, K243c, Y243_0, Y243_1, Y243_2, Y243_3, Y243_4, Y243_5, Y243_6⟩ := hQ243
      have N243 := Fr.app N237 N243q
      refine Ends.go (fun _ k => st243.trans k) ?_
      obtain ⟨h243, e243⟩ : ∃ z, T243.heap = z := ⟨_, rfl⟩
      rw [e243] at K243c Y243_0 Y243_1 Y243_2 Y243_3 Y243_4 Y243_5 Y243_6
      have K243 := K237.trans K243c (allS (Or.inr sz_si_) all0)
      have O243 := O237.keep K243c (allS g_si_ all0)
      refine wal X243 hx hby at_141 rfl rfl ?_
      refine .go (fun _ => XS.lload X243.here hx rfl (hb hby at_143) rfl) ?_
      refine wil X243 hx hby at_145 rfl ?_
      obtain ⟨cq244, kq244, q244a, q244b, q244c⟩ := isOf hZ e243 (((((E4.keep K198c).keep K211c).keep K224c).keep K237c).keep K243c)
      obtain ⟨_, _, ⟨T244, L244, k244, n244⟩, -, X244, ⟨Lc244, hQ244, l244, y244, z244⟩, st244⟩ := X243.virtualBack hx (y := ym8) (z := ym8) hown (mvT hZ (ow hw 110 rfl)) (mvT hZ (ow hw 111 rfl)) (notFace_of_selects (args := #[]) (mvT hZ (ow hw 113 rfl))) (mvT hZ (ow hw 113 rfl)) (mvT hZ (ow hw 112 rfl)) (by decide) (own_backOf (W := 0) (rmS l Z a0 hw [] n0 h243 O243 si_ xa_ kxa_ lv_ (4 : Int32) q8_ c0_ c1_ c2_ c3_ g_si_ hox (((((E4.keep K198c).keep K211c).keep K224c).keep K237c).keep K243c) Y243_4 Y243_1 Y243_0 Y243_5 Y243_3 Y243_6 (((((Vx.keep K198c (ninS (Ne.symm hox) nin0)).keep K211c (ninS (Ne.symm hox) nin0)).keep K224c (ninS (Ne.symm hox) nin0)).keep K237c (ninS (Ne.symm hox) nin0)).keep K243c (ninS (Ne.symm hox) nin0)) (by decide) hq8 hc0_ hc1_ hc2_ hc3_) hZ (ow hw 114 rfl) (ow hw 6 rfl) (by decide) (by decide)) q244a q244c (g := (mkF m 147 #[ci p0, ci p1, cj q2, cs, ci p3, cr x5, ci 4, ci lv_, cj q8_, cs, cr si_, cu, cu, cu, cu, cu, cu, cu, cu, cu, cu] [(.int lv_), (.long q8_), (.ref si_)])) rfl (by rw [hml]; rfl) (Steps.refl _) (argsL := [(.long q8_), (.int lv_)]) (rest := []) (lenOf pdx_5 rfl) rfl (by show 2 * 0 + _ ≤ _; exact Nat.le_of_eq rfl) (hb hby at_147) (fun _ _ => ⟨rfl, e243, (by decide : 8 + 0 ≤ _), (by decide : 48 + 0 ≤ _)⟩)
      dsimp only [Pt.U, Pt.locs, Pt.cells, Pt.slots] at X244 l244 y244 z244 st244 hQ244
      subst l244 y244 z244
      obtain ⟨n244, g244, p244, pl244, rfl, N244q, K244c, hg244, hp244, Eq244, Fb244, Fp244, Fa244, Fd244, hR244⟩ := hQ244
      have N244 := Fr.app N243 N244q
      refine Ends.go (fun _ k => st244.trans k) ?_
      obtain ⟨h244, e244⟩ : ∃ z, T244.heap = z := ⟨_, rfl⟩
      rw [e244] at K244c Eq244 Fb244 Fp244 Fa244 Fd244
      have K244 := K243.trans K244c (allS (Or.inr sz_si_) all0)
      have O244 := O243.keep K244c (allS g_si_ all0)
      show Ends _ _ _ _ T244 (mkF m 150 #[ci p0, ci p1, cj q2, cs, ci p3, cr x5, ci 4, ci lv_, cj q8_, cs, cr si_, cu, cu, cu, cu, cu, cu, cu, cu, cu, cu] [(.long g244)]) _ _ _
      refine .go (fun _ => XS.lstore X244.here hx rfl (hb hby at_150) rfl (l' := #[ci p0, ci p1, cj q2, cs, ci p3, cr x5, ci 4, ci lv_, cj q8_, cs, cr si_, cj g244, cs, cu, cu, cu, cu, cu, cu, cu, cu]) rfl) ?_
      refine wic X244 hx hby at_152 ?_
      refine wil X244 hx hby at_153 rfl ?_
      refine wis X244 hx hby at_155 ?_
      refine wst X244 hx hby at_156 (l' := #[ci p0, ci p1, cj q2, cs, ci p3, cr x5, ci 4, ci lv_, cj q8_, cs, cr si_, cj g244, cs, ci 0, cu, cu, cu, cu, cu, cu, cu]) rfl ?_
      show Ends _ _ _ _ T244 (mkF m 158 #[ci p0, ci p1, cj q2, cs, ci p3, cr x5, ci 4, ci lv_, cj q8_, cs, cr si_, cj g244, cs, ci 0, cu, cu, cu, cu, cu, cu, cu] []) _ _ _
      refine .go (fun _ => XS.lload X244.here hx rfl (hb hby at_158) rfl) ?_
      refine wil X244 hx hby at_160 rfl ?_
      refine .go (fun _ => XS.i2l X244.here hx rfl (hb hby at_162) rfl) ?_
      refine .go (fun _ => XS.lcmp X244.here hx rfl (hb hby at_163) rfl) ?_
      by_cases hc164_245 : (lcmpW q8_ (0 : Int64)) < (0 : Int32)
      ·refine wiy (pc := 164) (pc' := 172) X244 hx hby at_164 ((if0 _ _).trans (tlt hc164_245).1) (by decide) (by decide) ?_
       show Ends _ _ _ _ T244 (mkF m 172 #[ci p0, ci p1, cj q2, cs, ci p3, cr x5, ci 4, ci lv_, cj q8_, cs, cr si_, cj g244, cs, ci 0, cu, cu, cu, cu, cu, cu, cu] []) _ _ _
       refine .go (fun _ => XS.lload X244.here hx rfl (hb hby at_172) rfl) ?_
       refine .go (fun _ => XS.l2i X244.here hx rfl (hb hby at_174) rfl) ?_
       refine wst X244 hx hby at_175 (l' := #[ci p0, ci p1, cj q2, cs, ci p3, cr x5, ci 4, ci lv_, cj q8_, cs, cr si_, cj g244, cs, ci 0, ci (q8_.toInt32), cu, cu, cu, cu, cu, cu]) rfl ?_
       have hce : own_cap (4 : Int32) q8_ = (q8_.toInt32) := own_capt (by decide) hc164_245
       have hcb := own_capm (k := (4 : Int32)) (m := 0) (by decide) (by decide) hq8
       rw [hce] at hcb hR244
       exact J177_4 _ _ _ x5 kx5 si_ lv_ (q8_.toInt32) pl244 n244 p244 q8_ g244 X244 e244 O244 N244 K244 g_si_ sz_si_ Eq244 ((((((V5.keep K198c (ninS (Ne.symm hox5) nin0)).keep K211c (ninS (Ne.symm hox5) nin0)).keep K224c (ninS (Ne.symm hox5) nin0)).keep K237c (ninS (Ne.symm hox5) nin0)).keep K243c (ninS (Ne.symm hox5) nin0)).keep K244c (ninS (Ne.symm hox5) nin0)) Fb244 Fp244 Fa244 Fd244 hg244 hp244 hcb ((own_run_4 c0_ c1_ c2_ c3_ _ _ _).mp hR244)
      ·refine win X244 hx hby at_164 ((if0 _ _).trans (flt hc164_245).1) ?_
       refine wil X244 hx hby at_167 rfl ?_
       show Ends _ _ _ _ T244 (mkF m 169 #[ci p0, ci p1, cj q2, cs, ci p3, cr x5, ci 4, ci lv_, cj q8_, cs, cr si_, cj g244, cs, ci 0, cu, cu, cu, cu, cu, cu, cu] [(.int 0)]) _ _ _
       refine wgo (pc := 169) (pc' := 175) X244 hx hby at_169 (by decide) (by decide) ?_
       refine wst X244 hx hby at_175 (l' := #[ci p0, ci p1, cj q2, cs, ci p3, cr x5, ci 4, ci lv_, cj q8_, cs, cr si_, cj g244, cs, ci 0, ci 0, cu, cu, cu, cu, cu, cu]) rfl ?_
       have hce : own_cap (4 : Int32) q8_ = (0 : Int32) := own_capf (by decide) (by decide) hc164_245
       have hcb := own_capm (k := (4 : Int32)) (m := 0) (by decide) (by decide) hq8
       rw [hce] at hcb hR244
       exact J177_4 _ _ _ x5 kx5 si_ lv_ (0 : Int32) pl244 n244 p244 q8_ g244 X244 e244 O244 N244 K244 g_si_ sz_si_ Eq244 ((((((V5.keep K198c (ninS (Ne.symm hox5) nin0)).keep K211c (ninS (Ne.symm hox5) nin0)).keep K224c (ninS (Ne.symm hox5) nin0)).keep K237c (ninS (Ne.symm hox5) nin0)).keep K243c (ninS (Ne.symm hox5) nin0)).keep K244c (ninS (Ne.symm hox5) nin0)) Fb244 Fp244 Fa244 Fd244 hg244 hp244 hcb ((own_run_4 c0_ c1_ c2_ c3_ _ _ _).mp hR244)
 have J67 : ∀ (T3 : State) (h3 : Heap) (lcs : List Loc) (x5 : Addr) (kx5 : ClassId) (k_ : Int32) (lv_ : Int32) (X3 : Stand p l e room_1 s m #[(.int p0), (.int p1), (.long q2), (.int p3)] below meth c T3 lcs 1 4) (eT3 : T3.heap = h3) (O3 : Old Z n0 h3) (N3 : Fr n0 lcs) (K3 : Keep h0 h3 []) (V3 : Arv Z h3 x5 kx5 .char (4 : Int32) [(.int c0_), (.int c1_), (.int c2_), (.int c3_)] (.int 0)) (hk : k_ = 0 ∨ k_ = 1 ∨ k_ = 2 ∨ k_ = 3 ∨ k_ = 4), Ends p e below s T3 (mkF m 67 #[ci p0, ci p1, cj q2, cs, ci p3, cr x5, ci k_, ci lv_, cu, cu, cu, cu, cu, cu, cu, cu, cu, cu, cu, cu, cu] []) room_1.cells room_1.slots (fun v h L => v = some (.int 1) ∧ Fr n0 L) := by
  intro T3 h3 lcs x5 kx5 k_ lv_ X3 eT3 O3 N3 K3 V3 hk
  show Ends _ _ _ _ T3 (mkF m 67 #[ci p0, ci p1, cj q2, cs, ci p3, cr x5, ci k_, ci lv_, cu, cu, cu, cu, cu, cu, cu, cu, cu, cu, cu, cu, cu] []) _ _ _
  refine .go (fun _ => XS.lloadN X3.here hx rfl (hb hby at_67) rfl) ?_
  refine Ends.go (X3.ldc2Long hx hown (mvT hZ (ow hw 3 rfl)) (g := (mkF m 68 #[ci p0, ci p1, cj q2, cs, ci p3, cr x5, ci k_, ci lv_, cu, cu, cu, cu, cu, cu, cu, cu, cu, cu, cu, cu, cu] [(.long q2)])) rfl (hb hby at_68)) ?_
  show Ends _ _ _ _ T3 (mkF m 71 #[ci p0, ci p1, cj q2, cs, ci p3, cr x5, ci k_, ci lv_, cu, cu, cu, cu, cu, cu, cu, cu, cu, cu, cu, cu, cu] [(.long (9223372036854775807 : Int64)), (.long q2)]) _ _ _
  refine .go (fun _ => XS.land X3.here hx rfl (hb hby at_71) rfl) ?_
  show Ends _ _ _ _ T3 (mkF m 72 #[ci p0, ci p1, cj q2, cs, ci p3, cr x5, ci k_, ci lv_, cu, cu, cu, cu, cu, cu, cu, cu, cu, cu, cu, cu, cu] [(.long (q2 &&& (9223372036854775807 : Int64)))]) _ _ _
  generalize hqg : (q2 &&& (9223372036854775807 : Int64)) = q8_
  have hq8 := own_q8 hqg
  show Ends _ _ _ _ T3 (mkF m 72 #[ci p0, ci p1, cj q2, cs, ci p3, cr x5, ci k_, ci lv_, cu, cu, cu, cu, cu, cu, cu, cu, cu, cu, cu, cu, cu] [(.long q8_)]) _ _ _
  refine .go (fun _ => XS.lstore X3.here hx rfl (hb hby at_72) rfl (l' := #[ci p0, ci p1, cj q2, cs, ci p3, cr x5, ci k_, ci lv_, cj q8_, cs, cu, cu, cu, cu, cu, cu, cu, cu, cu, cu, cu]) rfl) ?_
  obtain ⟨T246, h246, X246, e246, E246, A246, D246, -, st246⟩ := newO X3 hx hZ hown (ow hw 4 rfl) (ow hw 5 rfl) (ow hw 6 rfl) eT3 (g := (mkF m 74 #[ci p0, ci p1, cj q2, cs, ci p3, cr x5, ci k_, ci lv_, cj q8_, cs, cu, cu, cu, cu, cu, cu, cu, cu, cu, cu, cu] [])) rfl (hb hby at_74) (by decide) (by decide)
  obtain ⟨b246, g246⟩ : ∃ z, z = h3.size := ⟨_, rfl⟩
  rw [← g246] at A246 D246 st246
  refine Ends.go st246 ?_
  have g_b246 : n0 ≤ b246 := Nat.le_trans (own_old_le O3) (Nat.le_of_eq g246.symm)
  have sz_b246 : h0.size ≤ b246 := Nat.le_trans K3.1 (Nat.le_of_eq g246.symm)
  have K246 := K3.ext E246
  have O246 := O3.ext E246
  have F_text_b246 : Fld Z h246 b246 cSI "text" "Ljava/lang/String;" .null := D246 (Or.inr (ow hw 46 rfl)) (ty := (.object "java/lang/String")) (by decide)
  have F_chars_b246 : Fld Z h246 b246 cSI "chars" "[C" .null := D246 (Or.inr (ow hw 62 rfl)) (ty := (.array .char)) (by decide)
  have F_limit_b246 : Fld Z h246 b246 cSI "limit" "I" (.int 0) := D246 (Or.inl (ow hw 64 rfl)) (ty := .int) (by decide)
  have F_base_b246 : Fld Z h246 b246 cSI "base" "I" (.int 0) := D246 (Or.inl (ow hw 103 rfl)) (ty := .int) (by decide)
  have F_position_b246 : Fld Z h246 b246 cSI "position" "I" (.int 0) := D246 (Or.inl (ow hw 105 rfl)) (ty := .int) (by decide)
  have F_mark_b246 : Fld Z h246 b246 cSI "mark" "I" (.int 0) := D246 (Or.inl (ow hw 107 rfl)) (ty := .int) (by decide)
  have F_ascii_b246 : Fld Z h246 b246 cSI "ascii" "Z" (.int 0) := D246 (Or.inl (ow hw 109 rfl)) (ty := .boolean) (by decide)
  have F_decoded_b246 : Fld Z h246 b246 "com/example/ratatoskr/ratatoskr/core/internal/Input" "decoded" "Lcom/example/ratatoskr/ratatoskr/core/internal/DecodedChars;" .null := D246 (Or.inl (ow hw 139 rfl)) (ty := (.object "com/example/ratatoskr/ratatoskr/core/internal/DecodedChars")) (by decide)
  show Ends _ _ _ _ T246 (mkF m 77 #[ci p0, ci p1, cj q2, cs, ci p3, cr x5, ci k_, ci lv_, cj q8_, cs, cu, cu, cu, cu, cu, cu, cu, cu, cu, cu, cu] [(.ref b246)]) _ _ _
  refine wdu X246 hx hby at_77 rfl ?_
  obtain ⟨T247, h247, X247, e247, E247, A247, D247, -, st247⟩ := newO X246 hx hZ hown (ow hw 7 rfl) (ow hw 8 rfl) (ow hw 9 rfl) e246 (g := (mkF m 78 #[ci p0, ci p1, cj q2, cs, ci p3, cr x5, ci k_, ci lv_, cj q8_, cs, cu, cu, cu, cu, cu, cu, cu, cu, cu, cu, cu] [(.ref b246), (.ref b246)])) rfl (hb hby at_78) (by decide) (by decide)
  obtain ⟨b247, g247⟩ : ∃ z, z = h246.size := ⟨_, rfl⟩
  rw [← g247] at A247 D247 st247
  refine Ends.go st247 ?_
  have g_b247 : n0 ≤ b247 := Nat.le_trans (own_old_le O246) (Nat.le_of_eq g247.symm)
  have sz_b247 : h0.size ≤ b247 := Nat.le_trans K246.1 (Nat.le_of_eq g247.symm)
  have K247 := K246.ext E247
  have O247 := O246.ext E247
  have F_coder_b247 : Fld Z h247 b247 "java/lang/String" "coder" "B" (.int 0) := D247 (Or.inr (ow hw 33 rfl)) (ty := .byte) (by decide)
  have F_value_b247 : Fld Z h247 b247 "java/lang/String" "value" "[B" .null := D247 (Or.inr (ow hw 35 rfl)) (ty := (.array .byte)) (by decide)
  refine wdu X247 hx hby at_81 rfl ?_
  refine wal X247 hx hby at_82 rfl rfl ?_
  rcases Classical.em (own_lat c0_ c1_ c2_ c3_) with hlat_ | hbig_
  ·obtain ⟨hk0_, hk1_, hk2_, hk3_⟩ := id hlat_
   obtain ⟨_, _, ⟨T276, L276, k276, n276⟩, -, X276, ⟨Lc276, hQ276, l276, y276, z276⟩, st276⟩ := X247.specialBack hx (y := ym19) rfl hown (mvT hZ (ow hw 10 rfl)) (mvT hZ (ow hw 11 rfl)) (mvT hZ (ow hw 12 rfl)) (by decide) (own_backOf (W := 3) (rx1_248 l Z a0 hw [] n0 h247 O247 G1 G3 GF b247 x5 kx5 c0_ c1_ c2_ c3_ ((V3.ext E246).ext E247) A247 F_coder_b247 F_value_b247 g_b247 hk0_ hk1_ hk2_ hk3_) hZ (ow hw 12 rfl) (ow hw 9 rfl) (by decide) (by decide)) (g := (mkF m 84 #[ci p0, ci p1, cj q2, cs, ci p3, cr x5, ci k_, ci lv_, cj q8_, cs, cu, cu, cu, cu, cu, cu, cu, cu, cu, cu, cu] [(.ref x5), (.ref b247), (.ref b247), (.ref b246), (.ref b246)])) rfl (by rw [hml]; rfl) (Steps.refl _) (a := b247) (argsL := [(.ref x5)]) (rest := [(.ref b247), (.ref b246), (.ref b246)]) (lenOf pdx_10 rfl) rfl (by show 2 * 0 + _ ≤ _; exact Nat.le_of_eq rfl) (hb hby at_84) (fun _ _ => ⟨rfl, e247, (by decide : 3 + 1 ≤ _), (by decide : 20 + 4 ≤ _)⟩)
   dsimp only [Pt.U, Pt.locs, Pt.cells, Pt.slots] at X276 l276 y276 z276 st276 hQ276
   subst l276 y276 z276
   obtain ⟨b277, k278, rfl, N276q, K276c, hb276_b277, Y276_0, Y276_1, Y276_2⟩ := hQ276
   have N276 := Fr.app N3 N276q
   refine Ends.go (fun _ k => st276.trans k) ?_
   have g_b277 : n0 ≤ b277 := Nat.le_trans (own_old_le O247) hb276_b277
   have sz_b277 : h0.size ≤ b277 := Nat.le_trans K247.1 hb276_b277
   obtain ⟨h276, e276⟩ : ∃ z, T276.heap = z := ⟨_, rfl⟩
   rw [e276] at K276c Y276_0 Y276_1 Y276_2
   have K276 := K247.trans K276c (allS (Or.inr sz_b247) all0)
   have O276 := O247.keep K276c (allS g_b247 all0)
   show Ends _ _ _ _ T276 (mkF m 87 #[ci p0, ci p1, cj q2, cs, ci p3, cr x5, ci k_, ci lv_, cj q8_, cs, cu, cu, cu, cu, cu, cu, cu, cu, cu, cu, cu] [(.ref b247), (.ref b246), (.ref b246)]) _ _ _
   have ne_b246_b247 : b246 ≠ b247 := Nat.ne_of_lt (Nat.lt_of_lt_of_le A246.lt (Nat.le_of_eq g247.symm))
   have ne_b246_b277 : b246 ≠ b277 := Nat.ne_of_lt (Nat.lt_of_lt_of_le (A246.ext E247).lt hb276_b277)
   obtain ⟨_, _, ⟨T324, L324, k324, n324⟩, -, X324, ⟨Lc324, hQ324, l324, y324, z324⟩, st324⟩ := X276.specialBack hx (y := ym28) rfl hown (mvT hZ (ow hw 36 rfl)) (mvT hZ (ow hw 37 rfl)) (mvT hZ (ow hw 38 rfl)) (by decide) (own_backOf (W := 1) (rx7_279 l Z a0 hw [] n0 h276 O276 G1 G3 GF b246 b247 b277 k278 c0_ c1_ c2_ c3_ ((A246.ext E247).keep K276c) ((F_text_b246.ext E247).keep K276c (ninS ne_b246_b247 nin0)) Y276_2 Y276_0 Y276_1 (A247.keep K276c) ((F_chars_b246.ext E247).keep K276c (ninS ne_b246_b247 nin0)) ((F_limit_b246.ext E247).keep K276c (ninS ne_b246_b247 nin0)) ((F_base_b246.ext E247).keep K276c (ninS ne_b246_b247 nin0)) ((F_position_b246.ext E247).keep K276c (ninS ne_b246_b247 nin0)) ((F_mark_b246.ext E247).keep K276c (ninS ne_b246_b247 nin0)) ((F_ascii_b246.ext E247).keep K276c (ninS ne_b246_b247 nin0)) ((F_decoded_b246.ext E247).keep K276c (ninS ne_b246_b247 nin0)) (Ne.symm ne_b246_b247) (Ne.symm ne_b246_b277) g_b246) hZ (ow hw 38 rfl) (ow hw 6 rfl) (by decide) (by decide)) (g := (mkF m 87 #[ci p0, ci p1, cj q2, cs, ci p3, cr x5, ci k_, ci lv_, cj q8_, cs, cu, cu, cu, cu, cu, cu, cu, cu, cu, cu, cu] [(.ref b247), (.ref b246), (.ref b246)])) rfl (by rw [hml]; rfl) (Steps.refl _) (a := b246) (argsL := [(.ref b247)]) (rest := [(.ref b246)]) (lenOf pdx_19 rfl) rfl (by show 2 * 0 + _ ≤ _; exact Nat.le_of_eq rfl) (hb hby at_87) (fun _ _ => ⟨rfl, e276, (by decide : 4 + 1 ≤ _), (by decide : 24 + 4 ≤ _)⟩)
   dsimp only [Pt.U, Pt.locs, Pt.cells, Pt.slots] at X324 l324 y324 z324 st324 hQ324
   subst l324 y324 z324
   obtain ⟨b325, k326, rfl, N324q, K324c, hb324_b325, Y324_0, Y324_1, Y324_2, Y324_3, Y324_4, Y324_5, Y324_6, Y324_7, Y324_8⟩ := hQ324
   have N324 := Fr.app N276 N324q
   refine Ends.go (fun _ k => st324.trans k) ?_
   have g_b325 : n0 ≤ b325 := Nat.le_trans (own_old_le O276) hb324_b325
   have sz_b325 : h0.size ≤ b325 := Nat.le_trans K276.1 hb324_b325
   obtain ⟨h324, e324⟩ : ∃ z, T324.heap = z := ⟨_, rfl⟩
   rw [e324] at K324c Y324_0 Y324_1 Y324_2 Y324_3 Y324_4 Y324_5 Y324_6 Y324_7 Y324_8
   have K324 := K276.trans K324c (allS (Or.inr sz_b246) all0)
   have O324 := O276.keep K324c (allS g_b246 all0)
   refine was X324 hx hby at_90 (l' := #[ci p0, ci p1, cj q2, cs, ci p3, cr x5, ci k_, ci lv_, cj q8_, cs, cr b246, cu, cu, cu, cu, cu, cu, cu, cu, cu, cu]) rfl rfl ?_
   have Vl327 := Y324_3
   rw [own_l1 hc0_ hk0_, own_l1 hc1_ hk1_, own_l1 hc2_ hk2_, own_l1 hc3_ hk3_] at Vl327
   have ne_b246_b325 : b246 ≠ b325 := Nat.ne_of_lt (Nat.lt_of_lt_of_le ((A246.ext E247).keep K276c).lt hb324_b325)
   have ne_x5_b246 : x5 ≠ b246 := Nat.ne_of_lt (Nat.lt_of_lt_of_le V3.lt (Nat.le_of_eq g246.symm))
   have ne_x5_b247 : x5 ≠ b247 := Nat.ne_of_lt (Nat.lt_of_lt_of_le (V3.ext E246).lt (Nat.le_of_eq g247.symm))
   exact J92 _ _ _ x5 kx5 b246 b325 _ k_ lv_ q8_ (own_mono X324 (by decide) (by decide)) e324 O324 N324 K324 g_b246 sz_b246 (((A246.ext E247).keep K276c).keep K324c) ne_b246_b325 (Ne.symm ne_x5_b246) Y324_2 Y324_5 Y324_4 Y324_1 Y324_7 Y324_6 Y324_8 Vl327 ((((V3.ext E246).ext E247).keep K276c (ninS ne_x5_b247 nin0)).keep K324c (ninS ne_x5_b246 nin0)) hk hq8
  ·obtain ⟨_, _, ⟨T393, L393, k393, n393⟩, -, X393, ⟨Lc393, hQ393, l393, y393, z393⟩, st393⟩ := X247.specialBack hx (y := ym19) rfl hown (mvT hZ (ow hw 10 rfl)) (mvT hZ (ow hw 11 rfl)) (mvT hZ (ow hw 12 rfl)) (by decide) (own_backOf (W := 3) (rx1_328 l Z a0 hw [] n0 h247 O247 G1 G3 GF b247 x5 kx5 c0_ c1_ c2_ c3_ ((V3.ext E246).ext E247) A247 F_coder_b247 F_value_b247 g_b247 hbig_ hc0_ hc1_ hc2_ hc3_) hZ (ow hw 12 rfl) (ow hw 9 rfl) (by decide) (by decide)) (g := (mkF m 84 #[ci p0, ci p1, cj q2, cs, ci p3, cr x5, ci k_, ci lv_, cj q8_, cs, cu, cu, cu, cu, cu, cu, cu, cu, cu, cu, cu] [(.ref x5), (.ref b247), (.ref b247), (.ref b246), (.ref b246)])) rfl (by rw [hml]; rfl) (Steps.refl _) (a := b247) (argsL := [(.ref x5)]) (rest := [(.ref b247), (.ref b246), (.ref b246)]) (lenOf pdx_10 rfl) rfl (by show 2 * 0 + _ ≤ _; exact Nat.le_of_eq rfl) (hb hby at_84) (fun _ _ => ⟨rfl, e247, (by decide : 3 + 2 ≤ _), (by decide : 20 + 12 ≤ _)⟩)
   dsimp only [Pt.U, Pt.locs, Pt.cells, Pt.slots] at X393 l393 y393 z393 st393 hQ393
   subst l393 y393 z393
   obtain ⟨b394, b395, k396, rfl, N393q, K393c, hb393_b394, hb393_b395, Y393_0, Y393_1, Y393_2⟩ := hQ393
   have N393 := Fr.app N3 N393q
   refine Ends.go (fun _ k => st393.trans k) ?_
   have g_b394 : n0 ≤ b394 := Nat.le_trans (own_old_le O247) hb393_b394
   have sz_b394 : h0.size ≤ b394 := Nat.le_trans K247.1 hb393_b394
   have g_b395 : n0 ≤ b395 := Nat.le_trans (own_old_le O247) hb393_b395
   have sz_b395 : h0.size ≤ b395 := Nat.le_trans K247.1 hb393_b395
   obtain ⟨h393, e393⟩ : ∃ z, T393.heap = z := ⟨_, rfl⟩
   rw [e393] at K393c Y393_0 Y393_1 Y393_2
   have K393 := K247.trans K393c (allS (Or.inr sz_b247) all0)
   have O393 := O247.keep K393c (allS g_b247 all0)
   have ne_b246_b247 : b246 ≠ b247 := Nat.ne_of_lt (Nat.lt_of_lt_of_le A246.lt (Nat.le_of_eq g247.symm))
   have ne_b246_b395 : b246 ≠ b395 := Nat.ne_of_lt (Nat.lt_of_lt_of_le (A246.ext E247).lt hb393_b395)
   obtain ⟨_, _, ⟨T443, L443, k443, n443⟩, -, X443, ⟨Lc443, hQ443, l443, y443, z443⟩, st443⟩ := X393.specialBack hx (y := ym28) rfl hown (mvT hZ (ow hw 36 rfl)) (mvT hZ (ow hw 37 rfl)) (mvT hZ (ow hw 38 rfl)) (by decide) (own_backOf (W := 1) (rx7_397 l Z a0 hw [] n0 h393 O393 G1 G3 GF b246 b247 b395 k396 c0_ c1_ c2_ c3_ ((A246.ext E247).keep K393c) ((F_text_b246.ext E247).keep K393c (ninS ne_b246_b247 nin0)) Y393_2 Y393_0 Y393_1 (A247.keep K393c) ((F_chars_b246.ext E247).keep K393c (ninS ne_b246_b247 nin0)) ((F_limit_b246.ext E247).keep K393c (ninS ne_b246_b247 nin0)) ((F_base_b246.ext E247).keep K393c (ninS ne_b246_b247 nin0)) ((F_position_b246.ext E247).keep K393c (ninS ne_b246_b247 nin0)) ((F_mark_b246.ext E247).keep K393c (ninS ne_b246_b247 nin0)) ((F_ascii_b246.ext E247).keep K393c (ninS ne_b246_b247 nin0)) ((F_decoded_b246.ext E247).keep K393c (ninS ne_b246_b247 nin0)) (Ne.symm ne_b246_b247) (Ne.symm ne_b246_b395) g_b246 hc0_ hc1_ hc2_ hc3_) hZ (ow hw 38 rfl) (ow hw 6 rfl) (by decide) (by decide)) (g := (mkF m 87 #[ci p0, ci p1, cj q2, cs, ci p3, cr x5, ci k_, ci lv_, cj q8_, cs, cu, cu, cu, cu, cu, cu, cu, cu, cu, cu, cu] [(.ref b247), (.ref b246), (.ref b246)])) rfl (by rw [hml]; rfl) (Steps.refl _) (a := b246) (argsL := [(.ref b247)]) (rest := [(.ref b246)]) (lenOf pdx_19 rfl) rfl (by show 2 * 0 + _ ≤ _; exact Nat.le_of_eq rfl) (hb hby at_87) (fun _ _ => ⟨rfl, e393, (by decide : 5 + 1 ≤ _), (by decide : 32 + 4 ≤ _)⟩)
   dsimp only [Pt.U, Pt.locs, Pt.cells, Pt.slots] at X443 l443 y443 z443 st443 hQ443
   subst l443 y443 z443
   obtain ⟨b444, k445, rfl, N443q, K443c, hb443_b444, Y443_0, Y443_1, Y443_2, Y443_3, Y443_4, Y443_5, Y443_6, Y443_7, Y443_8⟩ := hQ443
   have N443 := Fr.app N393 N443q
   refine Ends.go (fun _ k => st443.trans k) ?_
   have g_b444 : n0 ≤ b444 := Nat.le_trans (own_old_le O393) hb443_b444
   have sz_b444 : h0.size ≤ b444 := Nat.le_trans K393.1 hb443_b444
   obtain ⟨h443, e443⟩ : ∃ z, T443.heap = z := ⟨_, rfl⟩
   rw [e443] at K443c Y443_0 Y443_1 Y443_2 Y443_3 Y443_4 Y443_5 Y443_6 Y443_7 Y443_8
   have K443 := K393.trans K443c (allS (Or.inr sz_b246) all0)
   have O443 := O393.keep K443c (allS g_b246 all0)
   refine was X443 hx hby at_90 (l' := #[ci p0, ci p1, cj q2, cs, ci p3, cr x5, ci k_, ci lv_, cj q8_, cs, cr b246, cu, cu, cu, cu, cu, cu, cu, cu, cu, cu]) rfl rfl ?_
   show Ends _ _ _ _ T443 (mkF m 92 #[ci p0, ci p1, cj q2, cs, ci p3, cr x5, ci k_, ci lv_, cj q8_, cs, cr b246, cu, cu, cu, cu, cu, cu, cu, cu, cu, cu] []) _ _ _
   have ne_b246_b444 : b246 ≠ b444 := Nat.ne_of_lt (Nat.lt_of_lt_of_le ((A246.ext E247).keep K393c).lt hb443_b444)
   have ne_x5_b246 : x5 ≠ b246 := Nat.ne_of_lt (Nat.lt_of_lt_of_le V3.lt (Nat.le_of_eq g246.symm))
   have ne_x5_b247 : x5 ≠ b247 := Nat.ne_of_lt (Nat.lt_of_lt_of_le (V3.ext E246).lt (Nat.le_of_eq g247.symm))
   exact J92 _ _ _ x5 kx5 b246 b444 _ k_ lv_ q8_ (own_mono X443 (by decide) (by decide)) e443 O443 N443 K443 g_b246 sz_b246 (((A246.ext E247).keep K393c).keep K443c) ne_b246_b444 (Ne.symm ne_x5_b246) Y443_2 Y443_5 Y443_4 Y443_1 Y443_7 Y443_6 Y443_8 Y443_3 ((((V3.ext E246).ext E247).keep K393c (ninS ne_x5_b247 nin0)).keep K443c (ninS ne_x5_b246 nin0)) hk hq8
 show Ends _ _ _ _ T130 (mkF m 50 #[ci p0, ci p1, cj q2, cs, ci p3, cr b126, ci k_, cu, cu, cu, cu, cu, cu, cu, cu, cu, cu, cu, cu, cu, cu] []) _ _ _
 refine wil X130 hx hby at_50 rfl ?_
 refine wbp X130 hx hby at_52 ?_
 refine .go (fun _ => XS.iushr X130.here hx rfl (hb hby at_54) rfl) ?_
 refine wic X130 hx hby at_55 ?_
 show Ends _ _ _ _ T130 (mkF m 56 #[ci p0, ci p1, cj q2, cs, ci p3, cr b126, ci k_, cu, cu, cu, cu, cu, cu, cu, cu, cu, cu, cu, cu, cu, cu] [(.int 1), (.int ((p3.toUInt32 >>> ((31 : Int32) &&& 31).toUInt32).toInt32))]) _ _ _
 refine wan X130 hx hby at_56 ?_
 by_cases hc57_446 : (((p3.toUInt32 >>> ((31 : Int32) &&& 31).toUInt32).toInt32) &&& (1 : Int32)) = (0 : Int32)
 ·refine wiy (pc := 57) (pc' := 64) X130 hx hby at_57 ((if0 _ _).trans (teq hc57_446).1) (by decide) (by decide) ?_
  refine wic X130 hx hby at_64 ?_
  refine wst X130 hx hby at_65 (l' := #[ci p0, ci p1, cj q2, cs, ci p3, cr b126, ci k_, ci 0, cu, cu, cu, cu, cu, cu, cu, cu, cu, cu, cu, cu, cu]) rfl ?_
  exact J67 _ _ _ b126 _ k_ (0 : Int32) X130 e130 O130 N130 K130 V130 hk
 ·refine win X130 hx hby at_57 ((if0 _ _).trans (feq hc57_446).1) ?_
  show Ends _ _ _ _ T130 (mkF m 60 #[ci p0, ci p1, cj q2, cs, ci p3, cr b126, ci k_, cu, cu, cu, cu, cu, cu, cu, cu, cu, cu, cu, cu, cu, cu] []) _ _ _
  refine wic X130 hx hby at_60 ?_
  refine wgo (pc := 61) (pc' := 65) X130 hx hby at_61 (by decide) (by decide) ?_
  refine wst X130 hx hby at_65 (l' := #[ci p0, ci p1, cj q2, cs, ci p3, cr b126, ci k_, ci 1, cu, cu, cu, cu, cu, cu, cu, cu, cu, cu, cu, cu, cu]) rfl ?_
  exact J67 _ _ _ b126 _ k_ (1 : Int32) X130 e130 O130 N130 K130 V130 hk
set_option maxRecDepth 65536 in
set_option maxHeartbeats 40000000 in
theorem comes_1 {Post : Tables → Env → Array Value → State → Outcome → State → Prop} (hpost : ∀ tb e args s v u, (limb_1_1.after args s (.returned v) u = true ∧ limb_1_2.after args s (.returned v) u = true ∧ True) → FrameEnd s (.returned v) u (Jvm.fieldLocs frame_1_writes args s ++ Jvm.arrayLocs frame_1_arrays args s ++ Jvm.staticLocs frame_1_statics s) 24 192 → Post tb e args s (.returned v) u) :
  ArmFor flags0 classFile x code maxLocals ret World_1 tables_1 room_1 Calls_1 rest_1 Pre_1 Post := by
 intro l hfl _ _ p e ha hc hk s m args below hf hA hF happ hP
 obtain ⟨hcalls, hrest, hpre⟩ := hP
 obtain ⟨-, -, -, hnamed, -, -, -, hat⟩ := (Spec.applies_iff hf).mp happ
 obtain ⟨hg, hn⟩ := and_e (Cond.before_iff.mp (show (Jvm.Cond.and given_1 narrow_1).before args s = true from hpre))
 obtain ⟨g0a, g0b⟩ := and_e hg
 obtain ⟨g1a, g1b⟩ := and_e g0b
 obtain ⟨g2a, g2b⟩ := and_e g1b
 obtain ⟨g3a, g3b⟩ := and_e g2b
 obtain ⟨w0, w1, w2, w3, rfl⟩ : ∃ w0 w1 w2 w3 : Value, args = #[w0, w1, w2, w3] := by
  have hs : args.size = 4 := by simpa [Cond.value, given_1] using g0a
  obtain ⟨L⟩ := args
  match L, hs with
  | [w0, w1, w2, w3], _ => exact ⟨w0, w1, w2, w3, rfl⟩
 have hw := fun d (hd : d ∈ tables_1) => atoms_spec (ws := Jvm.Cond.code x code maxLocals ret :: tables_1) hat d (List.mem_cons_of_mem _ hd)
 have hfit : Fit s := fun {y c} hc i hi => by
  obtain ⟨ha, rfl⟩ := Array.getElem?_eq_some_iff.mp hc
  have q := List.all_eq_true.mp ((Array.all_eq_true_iff_forall_mem.mp hF) _ (Array.getElem_mem ha)) i (List.mem_range.mpr hi)
  simpa [Array.getElem?_eq_getElem hi] using q
 obtain ⟨hsets, hown0⟩ := atoms_of _ (rest_1_c_eq ▸ (show rest_1_c.before _ s = true from hrest))
 have hr0 := Cond.before_iff.mp hown0
 obtain ⟨i0, ei0⟩ := is_v g1a
 obtain rfl : w0 = (.int i0) := Option.some.inj ei0
 obtain ⟨i1, ei1⟩ := is_v g2a
 obtain rfl : w1 = (.int i1) := Option.some.inj ei1
 obtain ⟨i2, ei2⟩ := isL_v g3a
 obtain rfl : w2 = (.long i2) := Option.some.inj ei2
 obtain ⟨i3, ei3⟩ := is_v g3b
 obtain rfl : w3 = (.int i3) := Option.some.inj ei3
 obtain ⟨G1, ev1⟩ := is_v (Cond.before_iff.mp (hsets _ (List.mem_of_getElem? (i := 1) rfl)))
 have SCS := Sta.start ev1 (Or.inl (hsets _ (List.mem_of_getElem? (i := 0) rfl)))
 have P5 : ¬ G1 = (0 : Int32) := gotF (Cond.eq_ints ev1 rfl) (not_v (Cond.before_iff.mp (hsets _ (List.mem_of_getElem? (i := 2) rfl))))
 obtain ⟨G3, ev3, RG3⟩ := isR_v (Cond.before_iff.mp (hsets _ (List.mem_of_getElem? (i := 8) rfl)))
 have SSF := Sta.start ev3 (Or.inl (hsets _ (List.mem_of_getElem? (i := 7) rfl)))
 have SAD := Sta.start (own_eqI (Cond.before_iff.mp (hsets _ (List.mem_of_getElem? (i := 12) rfl)))) (Or.inl (hsets _ (List.mem_of_getElem? (i := 11) rfl)))
 have SHI := Sta.start (own_eqI (Cond.before_iff.mp (hsets _ (List.mem_of_getElem? (i := 15) rfl)))) (Or.inl (hsets _ (List.mem_of_getElem? (i := 14) rfl)))
 have SLO := Sta.start (own_eqI (Cond.before_iff.mp (hsets _ (List.mem_of_getElem? (i := 18) rfl)))) (Or.inl (hsets _ (List.mem_of_getElem? (i := 17) rfl)))
 obtain ⟨n, o, h1, h2, h3, _, L, rfl, ⟨rfl, N⟩, hq⟩ := rm0 l s _ hw tables_1 s.heap.size s.heap (Old.start s) i0 i1 i2 i3 G1 G3 ⟨SCS, P5, SAD, SHI, SLO, SSF, RG3⟩ p e ha hc hk s m _ below hf ((Spec.applies_iff_loose hf).mp happ).1 ⟨rfl, State.Warmed39.refl s, rfl⟩ trivial
 refine ⟨n, _, h1, h2, h3, hpost _ _ _ _ _ _ ⟨Cond.after_iff.mpr rfl, Cond.after_iff.mpr (eq_i res_at (Term.int_eval (1)) rfl), trivial⟩ ⟨hq.1, hq.2.1, (hq.2.2.sift fun y hy => Or.inr (N y hy)).mono (by decide) (by decide)⟩⟩
theorem main_1_1 : Claimed_1_1 := comes_1 fun _ _ _ _ _ _ h hF => ⟨h.1, hF⟩
theorem main_1_2 : Claimed_1_2 := comes_1 fun _ _ _ _ _ _ h hF => ⟨h.2.1, hF⟩
end Jvm.Pilot.@@N@@
namespace Jvm.Pilot.@@N@@
open Jvm Jvm.ClassFile Sem Op Lib Jvm.Free Jvm.Stand Jvm.Pilot.@@N@@.Jvm.D
/-! MADE BY PROGRAM (witnessworld.py) out of the Statement's table words and the real class files: 22 classes; the members and pool entries that the words name. The judged class is class 1, her method 4. -/
namespace start1
open Jvm.ClassFile
def u (s : String) : CpInfo := .utf8 (stringToUtf16 s)
/-- a pool by its gaps: so many unusable entries, then the entry; so many at the end -/
def gap : Nat → List CpInfo → List CpInfo
  | 0, r => r
  | n + 1, r => .unusable :: gap n r
def poolList (es : List (Nat × CpInfo)) (last : Nat) : List CpInfo := es.foldr (fun e r => gap e.1 (e.2 :: r)) (gap last [])
def pool (es : List (Nat × CpInfo)) (last : Nat) : Array CpInfo := ⟨poolList es last⟩
def fileOf (pool : Array CpInfo) (this : Nat) (attrs : Array Attribute := #[]) (ms : Array MethodInfo := #[]) (fl : Nat := 33) (sup : Nat := 0) (ifs : Array Nat := #[]) (fds : Array FieldInfo := #[]) : ClassFile where
  minorVersion := 0
  majorVersion := 65
  constantPool := pool
  accessFlags := fl
  thisClass := this
  superClass := sup
  interfaces := ifs
  fields := fds
  methods := ms
  attributes := attrs
def plain (name : String) (sup : Option ClassId) : Class where
  name := name
  kind := .ordinary
  loader := none
  accessFlags := 33
  super := sup
  interfaces := #[]
  cf := none
  fields := #[]
  methods := #[]
  instanceTypes := #[]
  staticTypes := #[]
  resolved := #[]
  callSites := []
  init := .initialized
  statics := none
  mirror := none

def pool0 : Array CpInfo := pool [(5, u "<init>"), (0, u "()V"), (1, .class_ 10), (1, u "java/lang/Object")] 113

def k0c0 : Code := { maxStack := 0, maxLocals := 1, code := object_method_1_code, exceptionTable := #[], attributes := #[] }
def k0m0 : Method := { name := "<init>", desc := "()V", sig := { parameters := [], returnType := none }, accessFlags := 1, code := some k0c0 }
/-- java/lang/Object -/
def k0 : Class := { plain "java/lang/Object" none with
  accessFlags := 33
  interfaces := #[]
  cf := some (fileOf pool0 8 #[] #[{ accessFlags := 1, nameIndex := 5, descriptorIndex := 6, attributes := #[] }] 33 0 #[] #[])
  fields := #[]
  methods := #[k0m0]
  instanceTypes := #[]
  staticTypes := #[]
  resolved := Array.replicate 124 none
  statics := none }

def pool1 : Array CpInfo := pool [(2, .class_ 4), (1, u "java/lang/Object"), (0, u "<init>"), (0, u "()V"), (0, .methodref 8 9), (0, .class_ 10), (0, .nameAndType 11 12), (0, u "com/example/ratatoskr/ratatoskr/core/internal/StringInputSkipPlainRunPinLaw"), (0, u "plain"), (0, u "(C)Z"), (0, .integer 65535), (0, .integer 2147483647), (2, .long 9223372036854775807), (1, .class_ 20), (0, u "com/example/ratatoskr/ratatoskr/core/internal/StringInput"), (0, .class_ 22), (0, u "java/lang/String"), (0, .methodref 21 24), (0, .nameAndType 5 25), (0, u "([C)V"), (0, .methodref 19 27), (0, .nameAndType 5 28), (0, u "(Ljava/lang/String;)V"), (0, .methodref 19 30), (0, .nameAndType 31 6), (0, u "skip"), (0, .methodref 19 33), (0, .nameAndType 34 6), (0, u "mark"), (0, .methodref 19 36), (0, .nameAndType 37 38), (0, u "skipPlainRun"), (0, u "(JZ)J"), (0, .methodref 8 40), (0, .nameAndType 41 42), (0, u "plainAt"), (0, u "([CI)Z"), (0, .methodref 8 44), (0, .nameAndType 45 42), (0, u "asciiAt"), (0, .methodref 19 47), (0, .nameAndType 48 49), (0, u "offset"), (0, u "()J"), (0, .methodref 19 51), (0, .nameAndType 52 53), (0, u "markedIsPlain"), (0, u "()Z"), (3, u "law"), (0, u "(IIJI)Z")] 4

def k1m0 : Method := { name := "<init>", desc := "()V", sig := { parameters := [], returnType := none }, accessFlags := 2, code := none }
def k1c1 : Code := { maxStack := 2, maxLocals := 1, code := method_2_code, exceptionTable := #[], attributes := #[] }
def k1m1 : Method := { name := "plain", desc := "(C)Z", sig := { parameters := [.char], returnType := some .boolean }, accessFlags := 10, code := some k1c1 }
def k1c2 : Code := { maxStack := 2, maxLocals := 2, code := method_3_code, exceptionTable := #[], attributes := #[] }
def k1m2 : Method := { name := "plainAt", desc := "([CI)Z", sig := { parameters := [(.array .char), .int], returnType := some .boolean }, accessFlags := 10, code := some k1c2 }
def k1c3 : Code := { maxStack := 2, maxLocals := 2, code := method_4_code, exceptionTable := #[], attributes := #[] }
def k1m3 : Method := { name := "asciiAt", desc := "([CI)Z", sig := { parameters := [(.array .char), .int], returnType := some .boolean }, accessFlags := 10, code := some k1c3 }
def k1c4 : Code := { maxStack := 5, maxLocals := 21, code := code, exceptionTable := #[], attributes := #[] }
def k1m4 : Method := { name := "law", desc := "(IIJI)Z", sig := { parameters := [.int, .int, .long, .int], returnType := some .boolean }, accessFlags := 9, code := some k1c4 }
/-- com/example/ratatoskr/ratatoskr/core/internal/StringInputSkipPlainRunPinLaw -/
def k1 : Class := { plain "com/example/ratatoskr/ratatoskr/core/internal/StringInputSkipPlainRunPinLaw" (some 0) with
  accessFlags := 49
  interfaces := #[]
  cf := some (fileOf pool1 8 #[] #[{ accessFlags := 2, nameIndex := 5, descriptorIndex := 6, attributes := #[] }, { accessFlags := 10, nameIndex := 11, descriptorIndex := 12, attributes := #[] }, { accessFlags := 10, nameIndex := 41, descriptorIndex := 42, attributes := #[] }, { accessFlags := 10, nameIndex := 45, descriptorIndex := 42, attributes := #[] }, { accessFlags := 9, nameIndex := 57, descriptorIndex := 58, attributes := #[] }] 49 2 #[] #[])
  fields := #[]
  methods := #[k1m0, k1m1, k1m2, k1m3, k1m4]
  instanceTypes := #[]
  staticTypes := #[]
  resolved := Array.replicate 63 none
  statics := none }

def pool2 : Array CpInfo := pool [(3, .methodref 4 5), (0, .class_ 6), (0, .nameAndType 7 8), (0, u "java/lang/Object"), (0, u "<init>"), (0, u "()V"), (0, .class_ 10), (0, u "com/example/ratatoskr/ratatoskr/core/internal/Input"), (4, u "takenSignificand"), (0, u "J"), (2, u "takenLayout"), (0, u "I"), (9, u "hasDecoded"), (0, u "()Z"), (9, u "keepsNames"), (0, u "Z"), (8, u "names"), (0, u "Lcom/example/ratatoskr/ratatoskr/core/internal/NameCache;"), (5, u "decoded"), (10, .fieldref 9 70), (0, .nameAndType 58 71), (0, u "Lcom/example/ratatoskr/ratatoskr/core/internal/DecodedChars;"), (30, u "NOT_TAKEN"), (1, u "MARKED"), (2, u "TAKEN")] 59

def k2c0 : Code := { maxStack := 1, maxLocals := 1, code := prog_74_method_1_code, exceptionTable := #[], attributes := #[] }
def k2m0 : Method := { name := "<init>", desc := "()V", sig := { parameters := [], returnType := none }, accessFlags := 0, code := some k2c0 }
def k2c1 : Code := { maxStack := 1, maxLocals := 1, code := prog_74_method_30_code, exceptionTable := #[], attributes := #[] }
def k2m1 : Method := { name := "hasDecoded", desc := "()Z", sig := { parameters := [], returnType := some .boolean }, accessFlags := 16, code := some k2c1 }
/-- com/example/ratatoskr/ratatoskr/core/internal/Input -/
def k2 : Class := { plain "com/example/ratatoskr/ratatoskr/core/internal/Input" (some 0) with
  accessFlags := 1056
  interfaces := #[]
  cf := some (fileOf pool2 9 #[] #[{ accessFlags := 0, nameIndex := 7, descriptorIndex := 8, attributes := #[] }, { accessFlags := 16, nameIndex := 30, descriptorIndex := 31, attributes := #[] }] 1056 4 #[] #[{ accessFlags := 24, nameIndex := 102, descriptorIndex := 16, attributes := #[] }, { accessFlags := 24, nameIndex := 104, descriptorIndex := 16, attributes := #[] }, { accessFlags := 24, nameIndex := 107, descriptorIndex := 16, attributes := #[] }, { accessFlags := 0, nameIndex := 15, descriptorIndex := 16, attributes := #[] }, { accessFlags := 0, nameIndex := 19, descriptorIndex := 20, attributes := #[] }, { accessFlags := 2, nameIndex := 58, descriptorIndex := 71, attributes := #[] }, { accessFlags := 2, nameIndex := 41, descriptorIndex := 42, attributes := #[] }, { accessFlags := 2, nameIndex := 51, descriptorIndex := 52, attributes := #[] }])
  fields := #[{ name := "NOT_TAKEN", type := .long, accessFlags := 24, slot := 0, constantValue := 0 }, { name := "MARKED", type := .long, accessFlags := 24, slot := 1, constantValue := 0 }, { name := "TAKEN", type := .long, accessFlags := 24, slot := 2, constantValue := 0 }, { name := "takenSignificand", type := .long, accessFlags := 0, slot := 0, constantValue := 0 }, { name := "takenLayout", type := .int, accessFlags := 0, slot := 1, constantValue := 0 }, { name := "decoded", type := (.object "com/example/ratatoskr/ratatoskr/core/internal/DecodedChars"), accessFlags := 2, slot := 2, constantValue := 0 }, { name := "keepsNames", type := .boolean, accessFlags := 2, slot := 3, constantValue := 0 }, { name := "names", type := (.object "com/example/ratatoskr/ratatoskr/core/internal/NameCache"), accessFlags := 2, slot := 4, constantValue := 0 }]
  methods := #[k2m0, k2m1]
  instanceTypes := #[.long, .int, (.object "com/example/ratatoskr/ratatoskr/core/internal/DecodedChars"), .boolean, (.object "com/example/ratatoskr/ratatoskr/core/internal/NameCache")]
  staticTypes := #[.long, .long, .long]
  resolved := Array.replicate 167 none
  statics := none }

def pool3 : Array CpInfo := pool [(1, .methodref 2 3), (0, .class_ 4), (0, .nameAndType 5 6), (0, u "com/example/ratatoskr/ratatoskr/core/internal/Input"), (0, u "<init>"), (0, u "()V"), (0, .fieldref 8 9), (0, .class_ 10), (0, .nameAndType 11 12), (0, u "com/example/ratatoskr/ratatoskr/core/internal/StringInput"), (0, u "text"), (0, u "Ljava/lang/String;"), (0, .methodref 14 15), (0, .class_ 16), (0, .nameAndType 17 18), (0, u "java/lang/String"), (0, u "length"), (0, u "()I"), (0, .methodref 20 21), (0, .class_ 22), (0, .nameAndType 23 24), (0, u "java/lang/Math"), (0, u "min"), (0, u "(II)I"), (0, .fieldref 8 26), (0, .nameAndType 27 28), (0, u "chars"), (0, u "[C"), (0, .fieldref 8 30), (0, .nameAndType 31 32), (0, u "limit"), (0, u "I"), (0, .methodref 14 34), (0, .nameAndType 35 36), (0, u "getChars"), (0, u "(II[CI)V"), (0, .fieldref 8 38), (0, .nameAndType 39 32), (0, u "position"), (3, u "()Z"), (0, .fieldref 8 45), (0, .nameAndType 46 47), (0, u "ascii"), (0, u "Z"), (0, .fieldref 8 49), (0, .nameAndType 50 32), (0, u "base"), (32, u "mark"), (26, .fieldref 8 111), (0, .nameAndType 83 32), (52, .methodref 8 165), (0, .nameAndType 166 43), (0, u "hasDecoded"), (17, u "WINDOW"), (2, u "(Ljava/lang/String;)V"), (3, u "skip"), (1, u "skipPlainRun"), (0, u "(JZ)J"), (12, u "markedIsPlain"), (0, u "offset"), (0, u "()J")] 6

def k3c0 : Code := { maxStack := 5, maxLocals := 2, code := prog_85_method_1_code, exceptionTable := #[], attributes := #[] }
def k3m0 : Method := { name := "<init>", desc := "(Ljava/lang/String;)V", sig := { parameters := [(.object "java/lang/String")], returnType := none }, accessFlags := 0, code := some k3c0 }
def k3c1 : Code := { maxStack := 3, maxLocals := 1, code := prog_85_method_3_code, exceptionTable := #[], attributes := #[] }
def k3m1 : Method := { name := "skip", desc := "()V", sig := { parameters := [], returnType := none }, accessFlags := 0, code := some k3c1 }
def k3c2 : Code := { maxStack := 4, maxLocals := 10, code := prog_85_method_6_code, exceptionTable := #[], attributes := #[] }
def k3m2 : Method := { name := "skipPlainRun", desc := "(JZ)J", sig := { parameters := [.long, .boolean], returnType := some .long }, accessFlags := 0, code := some k3c2 }
def k3c3 : Code := { maxStack := 1, maxLocals := 1, code := prog_85_method_18_code, exceptionTable := #[], attributes := #[] }
def k3m3 : Method := { name := "markedIsPlain", desc := "()Z", sig := { parameters := [], returnType := some .boolean }, accessFlags := 0, code := some k3c3 }
def k3c4 : Code := { maxStack := 2, maxLocals := 1, code := prog_85_method_19_code, exceptionTable := #[], attributes := #[] }
def k3m4 : Method := { name := "offset", desc := "()J", sig := { parameters := [], returnType := some .long }, accessFlags := 0, code := some k3c4 }
def k3c5 : Code := { maxStack := 3, maxLocals := 1, code := prog_85_method_21_code, exceptionTable := #[], attributes := #[] }
def k3m5 : Method := { name := "mark", desc := "()V", sig := { parameters := [], returnType := none }, accessFlags := 0, code := some k3c5 }
/-- com/example/ratatoskr/ratatoskr/core/internal/StringInput -/
def k3 : Class := { plain "com/example/ratatoskr/ratatoskr/core/internal/StringInput" (some 2) with
  accessFlags := 48
  interfaces := #[]
  cf := some (fileOf pool3 8 #[] #[{ accessFlags := 0, nameIndex := 5, descriptorIndex := 187, attributes := #[] }, { accessFlags := 0, nameIndex := 191, descriptorIndex := 6, attributes := #[] }, { accessFlags := 0, nameIndex := 193, descriptorIndex := 194, attributes := #[] }, { accessFlags := 0, nameIndex := 207, descriptorIndex := 43, attributes := #[] }, { accessFlags := 0, nameIndex := 208, descriptorIndex := 209, attributes := #[] }, { accessFlags := 0, nameIndex := 83, descriptorIndex := 6, attributes := #[] }] 48 2 #[] #[{ accessFlags := 24, nameIndex := 184, descriptorIndex := 32, attributes := #[] }, { accessFlags := 18, nameIndex := 11, descriptorIndex := 12, attributes := #[] }, { accessFlags := 18, nameIndex := 27, descriptorIndex := 28, attributes := #[] }, { accessFlags := 2, nameIndex := 50, descriptorIndex := 32, attributes := #[] }, { accessFlags := 2, nameIndex := 31, descriptorIndex := 32, attributes := #[] }, { accessFlags := 2, nameIndex := 39, descriptorIndex := 32, attributes := #[] }, { accessFlags := 2, nameIndex := 83, descriptorIndex := 32, attributes := #[] }, { accessFlags := 2, nameIndex := 46, descriptorIndex := 47, attributes := #[] }])
  fields := #[{ name := "WINDOW", type := .int, accessFlags := 24, slot := 0, constantValue := 0 }, { name := "text", type := (.object "java/lang/String"), accessFlags := 18, slot := 5, constantValue := 0 }, { name := "chars", type := (.array .char), accessFlags := 18, slot := 6, constantValue := 0 }, { name := "base", type := .int, accessFlags := 2, slot := 7, constantValue := 0 }, { name := "limit", type := .int, accessFlags := 2, slot := 8, constantValue := 0 }, { name := "position", type := .int, accessFlags := 2, slot := 9, constantValue := 0 }, { name := "mark", type := .int, accessFlags := 2, slot := 10, constantValue := 0 }, { name := "ascii", type := .boolean, accessFlags := 2, slot := 11, constantValue := 0 }]
  methods := #[k3m0, k3m1, k3m2, k3m3, k3m4, k3m5]
  instanceTypes := #[.long, .int, (.object "com/example/ratatoskr/ratatoskr/core/internal/DecodedChars"), .boolean, (.object "com/example/ratatoskr/ratatoskr/core/internal/NameCache"), (.object "java/lang/String"), (.array .char), .int, .int, .int, .int, .boolean]
  staticTypes := #[.int]
  resolved := Array.replicate 216 none
  statics := none }

def pool4 : Array CpInfo := pool [(1, .class_ 2), (0, u "java/io/Serializable"), (0, .class_ 4), (0, u "java/lang/Object")] 2

/-- java/io/Serializable -/
def k4 : Class := { plain "java/io/Serializable" (some 0) with
  accessFlags := 1537
  interfaces := #[]
  cf := some (fileOf pool4 1 #[] #[] 1537 3 #[] #[])
  fields := #[]
  methods := #[]
  instanceTypes := #[]
  staticTypes := #[]
  resolved := Array.replicate 7 none
  statics := none }

def pool5 : Array CpInfo := pool [(1, .class_ 2), (0, u "java/lang/Comparable"), (0, .class_ 4), (0, u "java/lang/Object")] 7

/-- java/lang/Comparable -/
def k5 : Class := { plain "java/lang/Comparable" (some 0) with
  accessFlags := 1537
  interfaces := #[]
  cf := some (fileOf pool5 1 #[] #[] 1537 3 #[] #[])
  fields := #[]
  methods := #[]
  instanceTypes := #[]
  staticTypes := #[]
  resolved := Array.replicate 12 none
  statics := none }

def pool6 : Array CpInfo := pool [(2, .class_ 4), (1, u "java/lang/CharSequence"), (42, .class_ 48), (0, u "java/lang/CharSequence$1CodePointIterator"), (10, .class_ 60), (0, u "java/lang/CharSequence$1CharIterator"), (5, .class_ 67), (0, u "java/lang/Object")] 63

/-- java/lang/CharSequence -/
def k6 : Class := { plain "java/lang/CharSequence" (some 0) with
  accessFlags := 1537
  interfaces := #[]
  cf := some (fileOf pool6 2 #[.nestMembers #[47, 59]] #[] 1537 66 #[] #[])
  fields := #[]
  methods := #[]
  instanceTypes := #[]
  staticTypes := #[]
  resolved := Array.replicate 131 none
  statics := none }

def pool7 : Array CpInfo := pool [(1, .class_ 2), (0, u "java/lang/constant/Constable"), (0, .class_ 4), (0, u "java/lang/Object")] 6

/-- java/lang/constant/Constable -/
def k7 : Class := { plain "java/lang/constant/Constable" (some 0) with
  accessFlags := 1537
  interfaces := #[]
  cf := some (fileOf pool7 1 #[] #[] 1537 3 #[] #[])
  fields := #[]
  methods := #[]
  instanceTypes := #[]
  staticTypes := #[]
  resolved := Array.replicate 11 none
  statics := none }

def pool8 : Array CpInfo := pool [(1, .class_ 2), (0, u "java/lang/constant/ConstantDesc"), (0, .class_ 4), (0, u "java/lang/Object")] 32

/-- java/lang/constant/ConstantDesc -/
def k8 : Class := { plain "java/lang/constant/ConstantDesc" (some 0) with
  accessFlags := 1537
  interfaces := #[]
  cf := some (fileOf pool8 1 #[] #[] 1537 3 #[] #[])
  fields := #[]
  methods := #[]
  instanceTypes := #[]
  staticTypes := #[]
  resolved := Array.replicate 37 none
  statics := none }

def pool9 : Array CpInfo := pool [(1, .methodref 2 3), (0, .class_ 4), (0, .nameAndType 5 6), (0, u "java/lang/Object"), (0, u "<init>"), (0, u "()V"), (2, .fieldref 10 11), (0, .class_ 12), (0, .nameAndType 13 14), (0, u "java/lang/String"), (0, u "value"), (0, u "[B"), (0, .fieldref 10 16), (0, .nameAndType 17 18), (0, u "coder"), (0, u "B"), (2, u "hash"), (0, u "I"), (2, u "hashIsZero"), (0, u "Z"), (0, .methodref 10 28), (0, .nameAndType 5 29), (0, u "([CIILjava/lang/Void;)V"), (4, .methodref 10 35), (0, .nameAndType 36 37), (0, u "checkBoundsOffCount"), (0, u "(III)I"), (0, .fieldref 10 39), (0, .nameAndType 40 26), (0, u "COMPACT_STRINGS"), (1, .class_ 44), (1, u "java/lang/StringUTF16"), (0, u "compress"), (1, .methodref 42 48), (0, .nameAndType 49 50), (0, u "coderFromArrayLen"), (0, u "([BI)B"), (56, .class_ 109), (1, u "java/lang/StringLatin1"), (32, u "()Z"), (34, .methodref 42 178), (0, .nameAndType 45 179), (0, u "([CII)[B"), (154, u "()I"), (0, .methodref 10 336), (0, .nameAndType 17 337), (0, u "()B"), (154, .methodref 10 493), (0, .nameAndType 494 142), (0, u "isLatin1"), (10, .methodref 10 506), (0, .nameAndType 507 334), (0, u "length"), (5, u "checkFromToIndex"), (7, .methodref 10 522), (0, .nameAndType 523 524), (0, u "checkBoundsBeginEnd"), (0, u "(III)V"), (0, .methodref 107 526), (0, .nameAndType 527 528), (0, u "getChars"), (0, u "([BII[CI)V"), (0, .methodref 42 526), (45, .class_ 576), (0, u "java/lang/CharSequence"), (22, u "CASE_INSENSITIVE_ORDER"), (0, u "Ljava/util/Comparator;"), (409, u "([C)V"), (42, .fieldref 1054 1055), (0, .class_ 1056), (0, .nameAndType 1057 1058), (0, u "jdk/internal/util/Preconditions"), (0, u "SIOOBE_FORMATTER"), (0, u "Ljava/util/function/BiFunction;"), (3, .methodref 1054 1063), (0, .nameAndType 513 1064), (0, u "(IIILjava/util/function/BiFunction;)I"), (0, .methodref 1054 1066), (0, .nameAndType 1067 1064), (0, u "checkFromIndexSize"), (33, u "serialPersistentFields"), (0, u "[Ljava/io/ObjectStreamField;"), (0, .class_ 1104), (0, u "java/lang/String$CaseInsensitiveComparator"), (1, .class_ 1107), (0, u "java/io/Serializable"), (0, .class_ 1109), (0, u "java/lang/Comparable"), (0, .class_ 1111), (0, u "java/lang/constant/Constable"), (0, .class_ 1113), (0, u "java/lang/constant/ConstantDesc"), (2, u "serialVersionUID"), (0, u "J"), (3, u "REPL"), (0, u "C"), (2, u "LATIN1"), (1, u "UTF16"), (112, u "(II[CI)V")] 210

def k9m0 : Method := { name := "<init>", desc := "()V", sig := { parameters := [], returnType := none }, accessFlags := 1, code := none }
def k9c1 : Code := { maxStack := 5, maxLocals := 2, code := jdk_42_method_3_code, exceptionTable := #[], attributes := #[] }
def k9m1 : Method := { name := "<init>", desc := "([C)V", sig := { parameters := [(.array .char)], returnType := none }, accessFlags := 1, code := some k9c1 }
def k9c2 : Code := { maxStack := 2, maxLocals := 1, code := jdk_42_method_54_code, exceptionTable := #[], attributes := #[] }
def k9m2 : Method := { name := "length", desc := "()I", sig := { parameters := [], returnType := some .int }, accessFlags := 1, code := some k9c2 }
def k9c3 : Code := { maxStack := 5, maxLocals := 5, code := jdk_42_method_61_code, exceptionTable := #[], attributes := #[] }
def k9m3 : Method := { name := "getChars", desc := "(II[CI)V", sig := { parameters := [.int, .int, (.array .char), .int], returnType := none }, accessFlags := 1, code := some k9c3 }
def k9c4 : Code := { maxStack := 4, maxLocals := 6, code := jdk_42_method_149_code, exceptionTable := #[], attributes := #[] }
def k9m4 : Method := { name := "<init>", desc := "([CIILjava/lang/Void;)V", sig := { parameters := [(.array .char), .int, .int, (.object "java/lang/Void")], returnType := none }, accessFlags := 2, code := some k9c4 }
def k9c5 : Code := { maxStack := 1, maxLocals := 1, code := jdk_42_method_152_code, exceptionTable := #[], attributes := #[] }
def k9m5 : Method := { name := "coder", desc := "()B", sig := { parameters := [], returnType := some .byte }, accessFlags := 0, code := some k9c5 }
def k9c6 : Code := { maxStack := 1, maxLocals := 1, code := jdk_42_method_154_code, exceptionTable := #[], attributes := #[] }
def k9m6 : Method := { name := "isLatin1", desc := "()Z", sig := { parameters := [], returnType := some .boolean }, accessFlags := 0, code := some k9c6 }
def k9c7 : Code := { maxStack := 4, maxLocals := 3, code := jdk_42_method_157_code, exceptionTable := #[], attributes := #[] }
def k9m7 : Method := { name := "checkBoundsOffCount", desc := "(III)I", sig := { parameters := [.int, .int, .int], returnType := some .int }, accessFlags := 8, code := some k9c7 }
def k9c8 : Code := { maxStack := 4, maxLocals := 3, code := jdk_42_method_158_code, exceptionTable := #[], attributes := #[] }
def k9m8 : Method := { name := "checkBoundsBeginEnd", desc := "(III)V", sig := { parameters := [.int, .int, .int], returnType := none }, accessFlags := 8, code := some k9c8 }
/-- java/lang/String -/
def k9 : Class := { plain "java/lang/String" (some 0) with
  accessFlags := 49
  interfaces := #[4, 5, 6, 7, 8]
  cf := some (fileOf pool9 10 #[.nestMembers #[1103]] #[{ accessFlags := 1, nameIndex := 5, descriptorIndex := 6, attributes := #[] }, { accessFlags := 1, nameIndex := 5, descriptorIndex := 1010, attributes := #[] }, { accessFlags := 1, nameIndex := 507, descriptorIndex := 334, attributes := #[] }, { accessFlags := 1, nameIndex := 527, descriptorIndex := 1240, attributes := #[] }, { accessFlags := 2, nameIndex := 5, descriptorIndex := 29, attributes := #[] }, { accessFlags := 0, nameIndex := 17, descriptorIndex := 337, attributes := #[] }, { accessFlags := 0, nameIndex := 494, descriptorIndex := 142, attributes := #[] }, { accessFlags := 8, nameIndex := 36, descriptorIndex := 37, attributes := #[] }, { accessFlags := 8, nameIndex := 523, descriptorIndex := 524, attributes := #[] }] 49 2 #[1106, 1108, 575, 1110, 1112] #[{ accessFlags := 18, nameIndex := 13, descriptorIndex := 14, attributes := #[] }, { accessFlags := 18, nameIndex := 17, descriptorIndex := 18, attributes := #[] }, { accessFlags := 2, nameIndex := 21, descriptorIndex := 22, attributes := #[] }, { accessFlags := 2, nameIndex := 25, descriptorIndex := 26, attributes := #[] }, { accessFlags := 26, nameIndex := 1116, descriptorIndex := 1117, attributes := #[] }, { accessFlags := 24, nameIndex := 40, descriptorIndex := 26, attributes := #[] }, { accessFlags := 26, nameIndex := 1101, descriptorIndex := 1102, attributes := #[] }, { accessFlags := 26, nameIndex := 1121, descriptorIndex := 1122, attributes := #[] }, { accessFlags := 25, nameIndex := 599, descriptorIndex := 600, attributes := #[] }, { accessFlags := 24, nameIndex := 1125, descriptorIndex := 18, attributes := #[] }, { accessFlags := 24, nameIndex := 1127, descriptorIndex := 18, attributes := #[] }])
  fields := #[{ name := "value", type := (.array .byte), accessFlags := 18, slot := 0, constantValue := 0 }, { name := "coder", type := .byte, accessFlags := 18, slot := 1, constantValue := 0 }, { name := "hash", type := .int, accessFlags := 2, slot := 2, constantValue := 0 }, { name := "hashIsZero", type := .boolean, accessFlags := 2, slot := 3, constantValue := 0 }, { name := "serialVersionUID", type := .long, accessFlags := 26, slot := 0, constantValue := 0 }, { name := "COMPACT_STRINGS", type := .boolean, accessFlags := 24, slot := 1, constantValue := 0 }, { name := "serialPersistentFields", type := (.array (.object "java/io/ObjectStreamField")), accessFlags := 26, slot := 2, constantValue := 0 }, { name := "REPL", type := .char, accessFlags := 26, slot := 3, constantValue := 0 }, { name := "CASE_INSENSITIVE_ORDER", type := (.object "java/util/Comparator"), accessFlags := 25, slot := 4, constantValue := 0 }, { name := "LATIN1", type := .byte, accessFlags := 24, slot := 5, constantValue := 0 }, { name := "UTF16", type := .byte, accessFlags := 24, slot := 6, constantValue := 0 }]
  methods := #[k9m0, k9m1, k9m2, k9m3, k9m4, k9m5, k9m6, k9m7, k9m8]
  instanceTypes := #[(.array .byte), .byte, .int, .boolean]
  staticTypes := #[.long, .boolean, (.array (.object "java/io/ObjectStreamField")), .char, (.object "java/util/Comparator"), .byte, .byte]
  resolved := Array.replicate 1451 none
  statics := some 0 }

def pool10 : Array CpInfo := pool [(3, .class_ 4), (0, u "java/lang/String"), (1, .class_ 8), (1, u "java/lang/Object"), (0, u "<init>"), (0, u "()V"), (0, .methodref 12 13), (0, .class_ 14), (0, .nameAndType 15 16), (0, u "java/lang/StringUTF16"), (0, u "newBytesLength"), (0, u "(I)I"), (3, .integer 1073741823), (23, .fieldref 12 45), (0, .nameAndType 46 47), (0, u "$assertionsDisabled"), (0, u "Z"), (0, .methodref 12 49), (0, .nameAndType 50 51), (0, u "length"), (0, u "([B)I"), (7, .fieldref 12 60), (0, .nameAndType 61 62), (0, u "HI_BYTE_SHIFT"), (0, u "I"), (0, .fieldref 12 64), (0, .nameAndType 65 62), (0, u "LO_BYTE_SHIFT"), (5, .methodref 12 72), (0, .nameAndType 73 74), (0, u "getChar"), (0, u "([BI)C"), (24, u "(II[B)V"), (5, u "getChars"), (0, u "([BII[CI)V"), (0, .methodref 12 108), (0, .nameAndType 109 110), (0, u "newBytesFor"), (0, u "(I)[B"), (0, .methodref 12 112), (0, .nameAndType 113 114), (0, u "putChar"), (0, u "([BII)V"), (0, .methodref 12 116), (0, .nameAndType 117 118), (0, u "compress"), (0, u "([CI[BII)I"), (0, .methodref 12 120), (0, .nameAndType 121 122), (0, u "toBytes"), (0, u "([CII)[B"), (50, .methodref 12 174), (0, .nameAndType 175 99), (0, u "checkBoundsOffCount"), (85, u "coderFromArrayLen"), (0, u "([BI)B"), (18, u "(III)I"), (87, .class_ 371), (1, u "java/lang/StringUTF16$LinesSpliterator"), (47, .methodref 3 420), (0, .nameAndType 175 281), (9, u "MAX_LENGTH"), (196, .class_ 628), (0, u "java/lang/StringUTF16$CodePointsSpliterator"), (0, .class_ 630), (0, u "java/lang/StringUTF16$CharsSpliterator")] 4

def k10m0 : Method := { name := "<init>", desc := "()V", sig := { parameters := [], returnType := none }, accessFlags := 0, code := none }
def k10c1 : Code := { maxStack := 1, maxLocals := 1, code := jdk_52_method_2_code, exceptionTable := #[], attributes := #[] }
def k10m1 : Method := { name := "newBytesFor", desc := "(I)[B", sig := { parameters := [.int], returnType := some (.array .byte) }, accessFlags := 9, code := some k10c1 }
def k10c2 : Code := { maxStack := 4, maxLocals := 1, code := jdk_52_method_3_code, exceptionTable := #[], attributes := #[] }
def k10m2 : Method := { name := "newBytesLength", desc := "(I)I", sig := { parameters := [.int], returnType := some .int }, accessFlags := 9, code := some k10c2 }
def k10c3 : Code := { maxStack := 4, maxLocals := 3, code := jdk_52_method_4_code, exceptionTable := #[], attributes := #[] }
def k10m3 : Method := { name := "putChar", desc := "([BII)V", sig := { parameters := [(.array .byte), .int, .int], returnType := none }, accessFlags := 8, code := some k10c3 }
def k10c4 : Code := { maxStack := 3, maxLocals := 2, code := jdk_52_method_5_code, exceptionTable := #[], attributes := #[] }
def k10m4 : Method := { name := "getChar", desc := "([BI)C", sig := { parameters := [(.array .byte), .int], returnType := some .char }, accessFlags := 8, code := some k10c4 }
def k10c5 : Code := { maxStack := 2, maxLocals := 1, code := jdk_52_method_6_code, exceptionTable := #[], attributes := #[] }
def k10m5 : Method := { name := "length", desc := "([B)I", sig := { parameters := [(.array .byte)], returnType := some .int }, accessFlags := 9, code := some k10c5 }
def k10c6 : Code := { maxStack := 4, maxLocals := 5, code := jdk_52_method_14_code, exceptionTable := #[], attributes := #[] }
def k10m6 : Method := { name := "toBytes", desc := "([CII)[B", sig := { parameters := [(.array .char), .int, .int], returnType := some (.array .byte) }, accessFlags := 9, code := some k10c6 }
def k10c7 : Code := { maxStack := 2, maxLocals := 2, code := jdk_52_method_15_code, exceptionTable := #[], attributes := #[] }
def k10m7 : Method := { name := "coderFromArrayLen", desc := "([BI)B", sig := { parameters := [(.array .byte), .int], returnType := some .byte }, accessFlags := 8, code := some k10c7 }
def k10c8 : Code := { maxStack := 5, maxLocals := 6, code := jdk_52_method_16_code, exceptionTable := #[], attributes := #[] }
def k10m8 : Method := { name := "compress", desc := "([CII)[B", sig := { parameters := [(.array .char), .int, .int], returnType := some (.array .byte) }, accessFlags := 9, code := some k10c8 }
def k10c9 : Code := { maxStack := 3, maxLocals := 7, code := jdk_52_method_21_code, exceptionTable := #[], attributes := #[] }
def k10m9 : Method := { name := "compress", desc := "([CI[BII)I", sig := { parameters := [(.array .char), .int, (.array .byte), .int, .int], returnType := some .int }, accessFlags := 9, code := some k10c9 }
def k10c10 : Code := { maxStack := 4, maxLocals := 6, code := jdk_52_method_26_code, exceptionTable := #[], attributes := #[] }
def k10m10 : Method := { name := "getChars", desc := "([BII[CI)V", sig := { parameters := [(.array .byte), .int, .int, (.array .char), .int], returnType := none }, accessFlags := 9, code := some k10c10 }
def k10c11 : Code := { maxStack := 3, maxLocals := 3, code := jdk_52_method_94_code, exceptionTable := #[], attributes := #[] }
def k10m11 : Method := { name := "checkBoundsOffCount", desc := "(II[B)V", sig := { parameters := [.int, .int, (.array .byte)], returnType := none }, accessFlags := 9, code := some k10c11 }
/-- java/lang/StringUTF16 -/
def k10 : Class := { plain "java/lang/StringUTF16" (some 0) with
  accessFlags := 48
  interfaces := #[]
  cf := some (fileOf pool10 12 #[.nestMembers #[627, 629, 369]] #[{ accessFlags := 0, nameIndex := 9, descriptorIndex := 10, attributes := #[] }, { accessFlags := 9, nameIndex := 109, descriptorIndex := 110, attributes := #[] }, { accessFlags := 9, nameIndex := 15, descriptorIndex := 16, attributes := #[] }, { accessFlags := 8, nameIndex := 113, descriptorIndex := 114, attributes := #[] }, { accessFlags := 8, nameIndex := 73, descriptorIndex := 74, attributes := #[] }, { accessFlags := 9, nameIndex := 50, descriptorIndex := 51, attributes := #[] }, { accessFlags := 9, nameIndex := 121, descriptorIndex := 122, attributes := #[] }, { accessFlags := 8, nameIndex := 261, descriptorIndex := 262, attributes := #[] }, { accessFlags := 9, nameIndex := 117, descriptorIndex := 122, attributes := #[] }, { accessFlags := 9, nameIndex := 117, descriptorIndex := 118, attributes := #[] }, { accessFlags := 9, nameIndex := 105, descriptorIndex := 106, attributes := #[] }, { accessFlags := 9, nameIndex := 175, descriptorIndex := 99, attributes := #[] }] 48 6 #[] #[{ accessFlags := 26, nameIndex := 61, descriptorIndex := 62, attributes := #[] }, { accessFlags := 26, nameIndex := 65, descriptorIndex := 62, attributes := #[] }, { accessFlags := 24, nameIndex := 430, descriptorIndex := 62, attributes := #[] }, { accessFlags := 4120, nameIndex := 46, descriptorIndex := 47, attributes := #[] }])
  fields := #[{ name := "HI_BYTE_SHIFT", type := .int, accessFlags := 26, slot := 0, constantValue := 0 }, { name := "LO_BYTE_SHIFT", type := .int, accessFlags := 26, slot := 1, constantValue := 0 }, { name := "MAX_LENGTH", type := .int, accessFlags := 24, slot := 2, constantValue := 0 }, { name := "$assertionsDisabled", type := .boolean, accessFlags := 4120, slot := 3, constantValue := 0 }]
  methods := #[k10m0, k10m1, k10m2, k10m3, k10m4, k10m5, k10m6, k10m7, k10m8, k10m9, k10m10, k10m11]
  instanceTypes := #[]
  staticTypes := #[.int, .int, .int, .boolean]
  resolved := Array.replicate 635 none
  statics := some 1 }

def pool11 : Array CpInfo := pool [(1, .class_ 2), (0, u "java/lang/Math"), (1, .class_ 6), (1, u "java/lang/Object"), (0, u "<init>"), (0, u "()V"), (89, .class_ 100), (1, u "java/lang/Math$RandomNumberGeneratorHolder"), (71, u "negativeZeroFloatBits"), (0, u "J"), (2, u "negativeZeroDoubleBits"), (24, u "min"), (43, u "$assertionsDisabled"), (0, u "Z"), (88, u "(II)I"), (2, u "twoToTheDoubleScaleDown"), (0, u "D"), (4, u "twoToTheDoubleScaleUp"), (9, u "E"), (3, u "PI"), (2, u "TAU"), (2, u "DEGREES_TO_RADIANS"), (0, u "RADIANS_TO_DEGREES")] 94

def k11m0 : Method := { name := "<init>", desc := "()V", sig := { parameters := [], returnType := none }, accessFlags := 2, code := none }
def k11c1 : Code := { maxStack := 2, maxLocals := 2, code := jdk_29_method_69_code, exceptionTable := #[], attributes := #[] }
def k11m1 : Method := { name := "min", desc := "(II)I", sig := { parameters := [.int, .int], returnType := some .int }, accessFlags := 9, code := some k11c1 }
/-- java/lang/Math -/
def k11 : Class := { plain "java/lang/Math" (some 0) with
  accessFlags := 49
  interfaces := #[]
  cf := some (fileOf pool11 1 #[.nestMembers #[98]] #[{ accessFlags := 2, nameIndex := 7, descriptorIndex := 8, attributes := #[] }, { accessFlags := 9, nameIndex := 201, descriptorIndex := 335, attributes := #[] }] 49 4 #[] #[{ accessFlags := 25, nameIndex := 354, descriptorIndex := 339, attributes := #[] }, { accessFlags := 25, nameIndex := 358, descriptorIndex := 339, attributes := #[] }, { accessFlags := 25, nameIndex := 361, descriptorIndex := 339, attributes := #[] }, { accessFlags := 26, nameIndex := 364, descriptorIndex := 339, attributes := #[] }, { accessFlags := 26, nameIndex := 365, descriptorIndex := 339, attributes := #[] }, { accessFlags := 26, nameIndex := 172, descriptorIndex := 173, attributes := #[] }, { accessFlags := 26, nameIndex := 176, descriptorIndex := 173, attributes := #[] }, { accessFlags := 8, nameIndex := 344, descriptorIndex := 339, attributes := #[] }, { accessFlags := 8, nameIndex := 338, descriptorIndex := 339, attributes := #[] }, { accessFlags := 4120, nameIndex := 245, descriptorIndex := 246, attributes := #[] }])
  fields := #[{ name := "E", type := .double, accessFlags := 25, slot := 0, constantValue := 0 }, { name := "PI", type := .double, accessFlags := 25, slot := 1, constantValue := 0 }, { name := "TAU", type := .double, accessFlags := 25, slot := 2, constantValue := 0 }, { name := "DEGREES_TO_RADIANS", type := .double, accessFlags := 26, slot := 3, constantValue := 0 }, { name := "RADIANS_TO_DEGREES", type := .double, accessFlags := 26, slot := 4, constantValue := 0 }, { name := "negativeZeroFloatBits", type := .long, accessFlags := 26, slot := 5, constantValue := 0 }, { name := "negativeZeroDoubleBits", type := .long, accessFlags := 26, slot := 6, constantValue := 0 }, { name := "twoToTheDoubleScaleUp", type := .double, accessFlags := 8, slot := 7, constantValue := 0 }, { name := "twoToTheDoubleScaleDown", type := .double, accessFlags := 8, slot := 8, constantValue := 0 }, { name := "$assertionsDisabled", type := .boolean, accessFlags := 4120, slot := 9, constantValue := 0 }]
  methods := #[k11m0, k11m1]
  instanceTypes := #[]
  staticTypes := #[.double, .double, .double, .double, .double, .long, .long, .double, .double, .boolean]
  resolved := Array.replicate 460 none
  statics := none }

def pool12 : Array CpInfo := pool [(2, .class_ 4), (1, u "java/lang/Object"), (0, u "<init>"), (0, u "()V"), (17, .class_ 26), (1, u "jdk/internal/util/Preconditions"), (20, u "checkFromToIndex"), (1, u "checkFromIndexSize"), (5, .class_ 56), (0, u "jdk/internal/util/Preconditions$4"), (57, .class_ 115), (0, u "jdk/internal/util/Preconditions$1"), (7, u "SIOOBE_FORMATTER"), (0, u "Ljava/util/function/BiFunction;"), (0, .class_ 126), (0, u "jdk/internal/util/Preconditions$2"), (3, u "AIOOBE_FORMATTER"), (0, .class_ 132), (0, u "jdk/internal/util/Preconditions$3"), (3, u "IOOBE_FORMATTER"), (46, u "(IIILjava/util/function/BiFunction;)I")] 10

def k12m0 : Method := { name := "<init>", desc := "()V", sig := { parameters := [], returnType := none }, accessFlags := 1, code := none }
def k12c1 : Code := { maxStack := 4, maxLocals := 4, code := jdk_41_method_12_code, exceptionTable := #[], attributes := #[] }
def k12m1 : Method := { name := "checkFromToIndex", desc := "(IIILjava/util/function/BiFunction;)I", sig := { parameters := [.int, .int, .int, (.object "java/util/function/BiFunction")], returnType := some .int }, accessFlags := 9, code := some k12c1 }
def k12c2 : Code := { maxStack := 4, maxLocals := 4, code := jdk_41_method_13_code, exceptionTable := #[], attributes := #[] }
def k12m2 : Method := { name := "checkFromIndexSize", desc := "(IIILjava/util/function/BiFunction;)I", sig := { parameters := [.int, .int, .int, (.object "java/util/function/BiFunction")], returnType := some .int }, accessFlags := 9, code := some k12c2 }
/-- jdk/internal/util/Preconditions -/
def k12 : Class := { plain "jdk/internal/util/Preconditions" (some 0) with
  accessFlags := 33
  interfaces := #[]
  cf := some (fileOf pool12 24 #[.nestMembers #[55, 131, 125, 114]] #[{ accessFlags := 1, nameIndex := 5, descriptorIndex := 6, attributes := #[] }, { accessFlags := 9, nameIndex := 47, descriptorIndex := 183, attributes := #[] }, { accessFlags := 9, nameIndex := 49, descriptorIndex := 183, attributes := #[] }] 33 2 #[] #[{ accessFlags := 25, nameIndex := 123, descriptorIndex := 124, attributes := #[] }, { accessFlags := 25, nameIndex := 130, descriptorIndex := 124, attributes := #[] }, { accessFlags := 25, nameIndex := 136, descriptorIndex := 124, attributes := #[] }])
  fields := #[{ name := "SIOOBE_FORMATTER", type := (.object "java/util/function/BiFunction"), accessFlags := 25, slot := 0, constantValue := 0 }, { name := "AIOOBE_FORMATTER", type := (.object "java/util/function/BiFunction"), accessFlags := 25, slot := 1, constantValue := 0 }, { name := "IOOBE_FORMATTER", type := (.object "java/util/function/BiFunction"), accessFlags := 25, slot := 2, constantValue := 0 }]
  methods := #[k12m0, k12m1, k12m2]
  instanceTypes := #[]
  staticTypes := #[(.object "java/util/function/BiFunction"), (.object "java/util/function/BiFunction"), (.object "java/util/function/BiFunction")]
  resolved := Array.replicate 194 none
  statics := some 2 }

def pool13 : Array CpInfo := pool [(4, .class_ 6), (1, u "java/lang/Object"), (0, u "<init>"), (0, u "()V"), (4, .methodref 14 15), (0, .class_ 16), (0, .nameAndType 17 18), (0, u "java/lang/StringLatin1"), (0, u "inflate"), (0, u "([BI[CII)V"), (102, u "$assertionsDisabled"), (0, u "Z"), (98, .class_ 223), (1, u "java/lang/StringLatin1$LinesSpliterator"), (50, u "getChars"), (0, u "([BII[CI)V"), (114, .class_ 391), (0, u "java/lang/StringLatin1$CharsSpliterator")] 3

def k13m0 : Method := { name := "<init>", desc := "()V", sig := { parameters := [], returnType := none }, accessFlags := 0, code := none }
def k13c1 : Code := { maxStack := 6, maxLocals := 5, code := jdk_43_method_11_code, exceptionTable := #[], attributes := #[] }
def k13m1 : Method := { name := "getChars", desc := "([BII[CI)V", sig := { parameters := [(.array .byte), .int, .int, (.array .char), .int], returnType := none }, accessFlags := 9, code := some k13c1 }
def k13c2 : Code := { maxStack := 4, maxLocals := 6, code := jdk_43_method_49_code, exceptionTable := #[], attributes := #[] }
def k13m2 : Method := { name := "inflate", desc := "([BI[CII)V", sig := { parameters := [(.array .byte), .int, (.array .char), .int, .int], returnType := none }, accessFlags := 9, code := some k13c2 }
/-- java/lang/StringLatin1 -/
def k13 : Class := { plain "java/lang/StringLatin1" (some 0) with
  accessFlags := 48
  interfaces := #[]
  cf := some (fileOf pool13 14 #[.nestMembers #[390, 221]] #[{ accessFlags := 0, nameIndex := 7, descriptorIndex := 8, attributes := #[] }, { accessFlags := 9, nameIndex := 274, descriptorIndex := 275, attributes := #[] }, { accessFlags := 9, nameIndex := 17, descriptorIndex := 18, attributes := #[] }] 48 4 #[] #[{ accessFlags := 4120, nameIndex := 121, descriptorIndex := 122, attributes := #[] }])
  fields := #[{ name := "$assertionsDisabled", type := .boolean, accessFlags := 4120, slot := 0, constantValue := 0 }]
  methods := #[k13m0, k13m1, k13m2]
  instanceTypes := #[]
  staticTypes := #[.boolean]
  resolved := Array.replicate 395 none
  statics := none }

def pool14 : Array CpInfo := pool [(9, u "<init>"), (6, .class_ 18), (1, u "java/lang/Object"), (0, u "()V"), (1, .class_ 23), (1, u "jdk/internal/util/ArraysSupport"), (0, u "LOG2_ARRAY_LONG_INDEX_SCALE"), (0, u "I"), (2, u "U"), (0, u "Ljdk/internal/misc/Unsafe;"), (8, u "BIG_ENDIAN"), (0, u "Z"), (8, u "LOG2_BYTE_BIT_SIZE"), (4, u "LOG2_ARRAY_INT_INDEX_SCALE"), (54, u "JLA"), (0, u "Ljdk/internal/access/JavaLangAccess;"), (11, u "LOG2_ARRAY_BOOLEAN_INDEX_SCALE"), (9, u "LOG2_ARRAY_BYTE_INDEX_SCALE"), (5, u "LOG2_ARRAY_CHAR_INDEX_SCALE"), (5, u "LOG2_ARRAY_SHORT_INDEX_SCALE"), (18, u "LOG2_ARRAY_FLOAT_INDEX_SCALE"), (24, u "LOG2_ARRAY_DOUBLE_INDEX_SCALE"), (89, u "T_BOOLEAN"), (2, u "T_CHAR"), (1, u "T_FLOAT"), (1, u "T_DOUBLE"), (1, u "T_BYTE"), (1, u "T_SHORT"), (1, u "T_INT"), (1, u "T_LONG"), (1, u "SOFT_MAX_ARRAY_LENGTH")] 83

def k14m0 : Method := { name := "<init>", desc := "()V", sig := { parameters := [], returnType := none }, accessFlags := 2, code := none }
/-- jdk/internal/util/ArraysSupport -/
def k14 : Class := { plain "jdk/internal/util/ArraysSupport" (some 0) with
  accessFlags := 33
  interfaces := #[]
  cf := some (fileOf pool14 21 #[] #[{ accessFlags := 2, nameIndex := 9, descriptorIndex := 19, attributes := #[] }] 33 16 #[] #[{ accessFlags := 24, nameIndex := 28, descriptorIndex := 29, attributes := #[] }, { accessFlags := 26, nameIndex := 38, descriptorIndex := 39, attributes := #[] }, { accessFlags := 25, nameIndex := 121, descriptorIndex := 25, attributes := #[] }, { accessFlags := 25, nameIndex := 131, descriptorIndex := 25, attributes := #[] }, { accessFlags := 25, nameIndex := 137, descriptorIndex := 25, attributes := #[] }, { accessFlags := 25, nameIndex := 143, descriptorIndex := 25, attributes := #[] }, { accessFlags := 25, nameIndex := 53, descriptorIndex := 25, attributes := #[] }, { accessFlags := 25, nameIndex := 24, descriptorIndex := 25, attributes := #[] }, { accessFlags := 25, nameIndex := 162, descriptorIndex := 25, attributes := #[] }, { accessFlags := 25, nameIndex := 187, descriptorIndex := 25, attributes := #[] }, { accessFlags := 26, nameIndex := 48, descriptorIndex := 25, attributes := #[] }, { accessFlags := 25, nameIndex := 277, descriptorIndex := 25, attributes := #[] }, { accessFlags := 25, nameIndex := 280, descriptorIndex := 25, attributes := #[] }, { accessFlags := 25, nameIndex := 282, descriptorIndex := 25, attributes := #[] }, { accessFlags := 25, nameIndex := 284, descriptorIndex := 25, attributes := #[] }, { accessFlags := 25, nameIndex := 286, descriptorIndex := 25, attributes := #[] }, { accessFlags := 25, nameIndex := 288, descriptorIndex := 25, attributes := #[] }, { accessFlags := 25, nameIndex := 290, descriptorIndex := 25, attributes := #[] }, { accessFlags := 25, nameIndex := 292, descriptorIndex := 25, attributes := #[] }, { accessFlags := 26, nameIndex := 108, descriptorIndex := 109, attributes := #[] }, { accessFlags := 25, nameIndex := 294, descriptorIndex := 25, attributes := #[] }])
  fields := #[{ name := "U", type := (.object "jdk/internal/misc/Unsafe"), accessFlags := 24, slot := 0, constantValue := 0 }, { name := "BIG_ENDIAN", type := .boolean, accessFlags := 26, slot := 1, constantValue := 0 }, { name := "LOG2_ARRAY_BOOLEAN_INDEX_SCALE", type := .int, accessFlags := 25, slot := 2, constantValue := 0 }, { name := "LOG2_ARRAY_BYTE_INDEX_SCALE", type := .int, accessFlags := 25, slot := 3, constantValue := 0 }, { name := "LOG2_ARRAY_CHAR_INDEX_SCALE", type := .int, accessFlags := 25, slot := 4, constantValue := 0 }, { name := "LOG2_ARRAY_SHORT_INDEX_SCALE", type := .int, accessFlags := 25, slot := 5, constantValue := 0 }, { name := "LOG2_ARRAY_INT_INDEX_SCALE", type := .int, accessFlags := 25, slot := 6, constantValue := 0 }, { name := "LOG2_ARRAY_LONG_INDEX_SCALE", type := .int, accessFlags := 25, slot := 7, constantValue := 0 }, { name := "LOG2_ARRAY_FLOAT_INDEX_SCALE", type := .int, accessFlags := 25, slot := 8, constantValue := 0 }, { name := "LOG2_ARRAY_DOUBLE_INDEX_SCALE", type := .int, accessFlags := 25, slot := 9, constantValue := 0 }, { name := "LOG2_BYTE_BIT_SIZE", type := .int, accessFlags := 26, slot := 10, constantValue := 0 }, { name := "T_BOOLEAN", type := .int, accessFlags := 25, slot := 11, constantValue := 0 }, { name := "T_CHAR", type := .int, accessFlags := 25, slot := 12, constantValue := 0 }, { name := "T_FLOAT", type := .int, accessFlags := 25, slot := 13, constantValue := 0 }, { name := "T_DOUBLE", type := .int, accessFlags := 25, slot := 14, constantValue := 0 }, { name := "T_BYTE", type := .int, accessFlags := 25, slot := 15, constantValue := 0 }, { name := "T_SHORT", type := .int, accessFlags := 25, slot := 16, constantValue := 0 }, { name := "T_INT", type := .int, accessFlags := 25, slot := 17, constantValue := 0 }, { name := "T_LONG", type := .int, accessFlags := 25, slot := 18, constantValue := 0 }, { name := "JLA", type := (.object "jdk/internal/access/JavaLangAccess"), accessFlags := 26, slot := 19, constantValue := 0 }, { name := "SOFT_MAX_ARRAY_LENGTH", type := .int, accessFlags := 25, slot := 20, constantValue := 0 }]
  methods := #[k14m0]
  instanceTypes := #[]
  staticTypes := #[(.object "jdk/internal/misc/Unsafe"), .boolean, .int, .int, .int, .int, .int, .int, .int, .int, .int, .int, .int, .int, .int, .int, .int, .int, .int, (.object "jdk/internal/access/JavaLangAccess"), .int]
  resolved := Array.replicate 378 none
  statics := none }

def pool15 : Array CpInfo := pool [(1, u "java/lang/Cloneable"), (0, .class_ 1), (0, u "java/lang/Object"), (0, .class_ 3)] 3

/-- java/lang/Cloneable -/
def k15 : Class := { plain "java/lang/Cloneable" (some 0) with
  accessFlags := 1537
  interfaces := #[]
  cf := some (fileOf pool15 2 #[] #[] 1537 4 #[] #[])
  fields := #[]
  methods := #[]
  instanceTypes := #[]
  staticTypes := #[]
  resolved := Array.replicate 8 none
  statics := none }

/-- the primitive byte -/
def k16 : Class := { plain "byte" none with kind := .primitive 'B', accessFlags := 0x411 }
/-- [B -/
def k17 : Class := { plain "[B" (some 0) with kind := .array 16 .byte, interfaces := #[15, 4], accessFlags := 1041 }

/-- the primitive char -/
def k18 : Class := { plain "char" none with kind := .primitive 'C', accessFlags := 0x411 }
/-- [C -/
def k19 : Class := { plain "[C" (some 0) with kind := .array 18 .char, interfaces := #[15, 4], accessFlags := 1041 }

/-- the primitive int -/
def k20 : Class := { plain "int" none with kind := .primitive 'I', accessFlags := 0x411 }
/-- [I -/
def k21 : Class := { plain "[I" (some 0) with kind := .array 20 .int, interfaces := #[15, 4], accessFlags := 1041 }

def heap : Heap := #[{ cls := 9, slots := #[.long 0, .int 1, .null, .int 0, .null, .int 0, .int 0], vm := .statics 9 },
  { cls := 10, slots := #[.int 0, .int 8, .int 0, .int 1], vm := .statics 10 },
  { cls := 12, slots := #[.null, .null, .null], vm := .statics 12 }]
def classes : Array Class := #[k0, k1, k2, k3, k4, k5, k6, k7, k8, k9, k10, k11, k12, k13, k14, k15, k16, k17, k18, k19, k20, k21]
def interned : List (Array UInt16 × Addr) := []
def slotsUsed : Nat := 14
def theMethod : MethodId := ⟨1, 4⟩
def args0 : Array Value := #[.int 5, .int 3, .long 7, .int 2]
def aboutOver (below : List Frame) : State where
  vm := { classes := classes, interned := interned.toArray }
  heap := heap
  slotsUsed := slotsUsed
  threads := #[{ frames := .invoking theMethod args0 :: below }]
def below0 : List Frame := [.native { method := ⟨0, 0⟩, args := #[] }]
def about1 : State := aboutOver below0
def p0 : Program := .bare "" "" ""
def e0 : Env := launch0.env 0 0 0
theorem w_frames : about1.frames = Frame.invoking theMethod args0 :: below0 := rfl
set_option maxRecDepth 65536 in
theorem w_args : argsFit about1.vm theMethod args0 = true := by decide +kernel
set_option maxRecDepth 65536 in
theorem w_heap : heapFits about1 = true := by decide +kernel
set_option maxRecDepth 65536 in
theorem w_runnable : about1.curStatus? = some .runnable := by decide +kernel
set_option maxRecDepth 65536 in
theorem w_alone : about1.alone = true := by decide +kernel
set_option maxRecDepth 65536 in
theorem w_named : about1.methodNamed? x = some theMethod := by decide +kernel
set_option maxRecDepth 65536 in
theorem w_hears : about1.hears theMethod below0 = true := by decide +kernel
set_option maxRecDepth 65536 in
theorem w_ripe : about1.ripe theMethod args0 below0 = true := by decide +kernel
theorem w_running : about1.status = .running := rfl
set_option maxRecDepth 65536 in
theorem w_room : about1.hasRoom e0.platform room_1 = true :=
  launch0.hasRoom_least _ room_1 (by decide +kernel) (by decide +kernel) (by decide +kernel) (by decide +kernel) (by decide +kernel) (by decide +kernel)
theorem allAtoms_all (ts : List Jvm.Cond) (a : Array Jvm.Value) (st : Jvm.State) : (allAtoms ts).before a st = ts.all (fun c => c.before a st) := by
  induction ts with
  | nil => rfl
  | cons c t ih =>
    show (Jvm.Cond.and c (allAtoms t)).before a st = _
    rw [Jvm.Cond.before_and, ih, List.all_cons]
def words1 : List Jvm.Cond := Jvm.Cond.code x code maxLocals ret :: tables_1
/-- a 'code' word, met by the world's own term for the bytes: nothing is compared byte by byte -/
theorem code_word {y : MethodName} {bytes : ByteArray} {mx : Nat} {rt : Option FieldType} {a : Array Value} {s : State} {m : MethodId} {meth : Method} {c : Code} (h1 : s.methodNamed? y = some m) (h2 : s.vm.method? m = some meth) (h3 : meth.code = some c) (h4 : c.code = bytes)
    (h5 : (c.maxLocals == mx && c.exceptionTable.isEmpty && decide (c.maxStack ≤ mostOperands) && decide (meth.sig.returnType = rt) && !meth.locks && decide (parseMethodDescriptor y.desc = some meth.sig)) = true) : (Jvm.Cond.code y bytes mx rt).before a s = true := by
  simp only [Bool.and_eq_true, beq_iff_eq, Bool.not_eq_true', decide_eq_true_eq] at h5
  obtain ⟨⟨⟨⟨⟨g1, g2⟩, g3⟩, g4⟩, g5⟩, g6⟩ := h5
  simp [Cond.before, Cond.holds, Cond.value, h1, h2, h3, h4, g1, g2, g3, g4, g5, g6]
def isCode : Jvm.Cond → Bool
  | .code _ _ _ _ => true
  | _ => false
theorem all_split {L : List Jvm.Cond} {P : Jvm.Cond → Bool} (h1 : L.all (fun c => isCode c || P c) = true) (h2 : ∀ c ∈ L.filter isCode, P c = true) : L.all P = true := by
  refine List.all_eq_true.mpr fun c hc => ?_
  have h := List.all_eq_true.mp h1 c hc
  rcases Bool.eq_false_or_eq_true (isCode c) with hi | hi
  · exact h2 c (List.mem_filter.mpr ⟨hc, hi⟩)
  · simpa [hi] using h
set_option maxRecDepth 65536 in
theorem w_c0 : (Jvm.Cond.code x code maxLocals ret).before args0 about1 = true := code_word (m := ⟨1, 4⟩) (meth := k1m4) (c := k1c4) (by decide +kernel) rfl rfl rfl (by decide +kernel)
set_option maxRecDepth 65536 in
theorem w_c1 : (Jvm.Cond.code ({ cls := "java/lang/String", name := "<init>", desc := "([C)V" } : Jvm.MethodName) jdk_42_method_3_code (2 : Nat) (Option.none : Option Jvm.ClassFile.FieldType)).before args0 about1 = true := code_word (m := ⟨9, 1⟩) (meth := k9m1) (c := k9c1) (by decide +kernel) rfl rfl rfl (by decide +kernel)
set_option maxRecDepth 65536 in
theorem w_c2 : (Jvm.Cond.code ({ cls := "java/lang/String", name := "<init>", desc := "([CIILjava/lang/Void;)V" } : Jvm.MethodName) jdk_42_method_149_code (6 : Nat) (Option.none : Option Jvm.ClassFile.FieldType)).before args0 about1 = true := code_word (m := ⟨9, 4⟩) (meth := k9m4) (c := k9c4) (by decide +kernel) rfl rfl rfl (by decide +kernel)
set_option maxRecDepth 65536 in
theorem w_c3 : (Jvm.Cond.code ({ cls := "java/lang/Object", name := "<init>", desc := "()V" } : Jvm.MethodName) object_method_1_code (1 : Nat) (Option.none : Option Jvm.ClassFile.FieldType)).before args0 about1 = true := code_word (m := ⟨0, 0⟩) (meth := k0m0) (c := k0c0) (by decide +kernel) rfl rfl rfl (by decide +kernel)
set_option maxRecDepth 65536 in
theorem w_c4 : (Jvm.Cond.code ({ cls := "java/lang/StringUTF16", name := "compress", desc := "([CII)[B" } : Jvm.MethodName) jdk_52_method_16_code (6 : Nat) (Option.some (Jvm.ClassFile.FieldType.array Jvm.ClassFile.FieldType.byte))).before args0 about1 = true := code_word (m := ⟨10, 8⟩) (meth := k10m8) (c := k10c8) (by decide +kernel) rfl rfl rfl (by decide +kernel)
set_option maxRecDepth 65536 in
theorem w_c5 : (Jvm.Cond.code ({ cls := "java/lang/StringUTF16", name := "compress", desc := "([CI[BII)I" } : Jvm.MethodName) jdk_52_method_21_code (7 : Nat) (Option.some Jvm.ClassFile.FieldType.int)).before args0 about1 = true := code_word (m := ⟨10, 9⟩) (meth := k10m9) (c := k10c9) (by decide +kernel) rfl rfl rfl (by decide +kernel)
set_option maxRecDepth 65536 in
theorem w_c6 : (Jvm.Cond.code ({ cls := "java/lang/StringUTF16", name := "coderFromArrayLen", desc := "([BI)B" } : Jvm.MethodName) jdk_52_method_15_code (2 : Nat) (Option.some Jvm.ClassFile.FieldType.byte)).before args0 about1 = true := code_word (m := ⟨10, 7⟩) (meth := k10m7) (c := k10c7) (by decide +kernel) rfl rfl rfl (by decide +kernel)
set_option maxRecDepth 65536 in
theorem w_c7 : (Jvm.Cond.code ({ cls := "com/example/ratatoskr/ratatoskr/core/internal/StringInput", name := "<init>", desc := "(Ljava/lang/String;)V" } : Jvm.MethodName) prog_85_method_1_code (2 : Nat) (Option.none : Option Jvm.ClassFile.FieldType)).before args0 about1 = true := code_word (m := ⟨3, 0⟩) (meth := k3m0) (c := k3c0) (by decide +kernel) rfl rfl rfl (by decide +kernel)
set_option maxRecDepth 65536 in
theorem w_c8 : (Jvm.Cond.code ({ cls := "com/example/ratatoskr/ratatoskr/core/internal/Input", name := "<init>", desc := "()V" } : Jvm.MethodName) prog_74_method_1_code (1 : Nat) (Option.none : Option Jvm.ClassFile.FieldType)).before args0 about1 = true := code_word (m := ⟨2, 0⟩) (meth := k2m0) (c := k2c0) (by decide +kernel) rfl rfl rfl (by decide +kernel)
set_option maxRecDepth 65536 in
theorem w_c9 : (Jvm.Cond.code ({ cls := "java/lang/String", name := "length", desc := "()I" } : Jvm.MethodName) jdk_42_method_54_code (1 : Nat) (Option.some Jvm.ClassFile.FieldType.int)).before args0 about1 = true := code_word (m := ⟨9, 2⟩) (meth := k9m2) (c := k9c2) (by decide +kernel) rfl rfl rfl (by decide +kernel)
set_option maxRecDepth 65536 in
theorem w_c10 : (Jvm.Cond.code ({ cls := "java/lang/String", name := "coder", desc := "()B" } : Jvm.MethodName) jdk_42_method_152_code (1 : Nat) (Option.some Jvm.ClassFile.FieldType.byte)).before args0 about1 = true := code_word (m := ⟨9, 5⟩) (meth := k9m5) (c := k9c5) (by decide +kernel) rfl rfl rfl (by decide +kernel)
set_option maxRecDepth 65536 in
theorem w_c11 : (Jvm.Cond.code ({ cls := "java/lang/Math", name := "min", desc := "(II)I" } : Jvm.MethodName) jdk_29_method_69_code (2 : Nat) (Option.some Jvm.ClassFile.FieldType.int)).before args0 about1 = true := code_word (m := ⟨11, 1⟩) (meth := k11m1) (c := k11c1) (by decide +kernel) rfl rfl rfl (by decide +kernel)
set_option maxRecDepth 65536 in
theorem w_c12 : (Jvm.Cond.code ({ cls := "java/lang/String", name := "getChars", desc := "(II[CI)V" } : Jvm.MethodName) jdk_42_method_61_code (5 : Nat) (Option.none : Option Jvm.ClassFile.FieldType)).before args0 about1 = true := code_word (m := ⟨9, 3⟩) (meth := k9m3) (c := k9c3) (by decide +kernel) rfl rfl rfl (by decide +kernel)
set_option maxRecDepth 65536 in
theorem w_c13 : (Jvm.Cond.code ({ cls := "java/lang/String", name := "checkBoundsBeginEnd", desc := "(III)V" } : Jvm.MethodName) jdk_42_method_158_code (3 : Nat) (Option.none : Option Jvm.ClassFile.FieldType)).before args0 about1 = true := code_word (m := ⟨9, 8⟩) (meth := k9m8) (c := k9c8) (by decide +kernel) rfl rfl rfl (by decide +kernel)
set_option maxRecDepth 65536 in
theorem w_c14 : (Jvm.Cond.code ({ cls := "jdk/internal/util/Preconditions", name := "checkFromToIndex", desc := "(IIILjava/util/function/BiFunction;)I" } : Jvm.MethodName) jdk_41_method_12_code (4 : Nat) (Option.some Jvm.ClassFile.FieldType.int)).before args0 about1 = true := code_word (m := ⟨12, 1⟩) (meth := k12m1) (c := k12c1) (by decide +kernel) rfl rfl rfl (by decide +kernel)
set_option maxRecDepth 65536 in
theorem w_c15 : (Jvm.Cond.code ({ cls := "java/lang/String", name := "checkBoundsOffCount", desc := "(III)I" } : Jvm.MethodName) jdk_42_method_157_code (3 : Nat) (Option.some Jvm.ClassFile.FieldType.int)).before args0 about1 = true := code_word (m := ⟨9, 7⟩) (meth := k9m7) (c := k9c7) (by decide +kernel) rfl rfl rfl (by decide +kernel)
set_option maxRecDepth 65536 in
theorem w_c16 : (Jvm.Cond.code ({ cls := "jdk/internal/util/Preconditions", name := "checkFromIndexSize", desc := "(IIILjava/util/function/BiFunction;)I" } : Jvm.MethodName) jdk_41_method_13_code (4 : Nat) (Option.some Jvm.ClassFile.FieldType.int)).before args0 about1 = true := code_word (m := ⟨12, 2⟩) (meth := k12m2) (c := k12c2) (by decide +kernel) rfl rfl rfl (by decide +kernel)
set_option maxRecDepth 65536 in
theorem w_c17 : (Jvm.Cond.code ({ cls := "java/lang/String", name := "isLatin1", desc := "()Z" } : Jvm.MethodName) jdk_42_method_154_code (1 : Nat) (Option.some Jvm.ClassFile.FieldType.boolean)).before args0 about1 = true := code_word (m := ⟨9, 6⟩) (meth := k9m6) (c := k9c6) (by decide +kernel) rfl rfl rfl (by decide +kernel)
set_option maxRecDepth 65536 in
theorem w_c18 : (Jvm.Cond.code ({ cls := "java/lang/StringLatin1", name := "getChars", desc := "([BII[CI)V" } : Jvm.MethodName) jdk_43_method_11_code (5 : Nat) (Option.none : Option Jvm.ClassFile.FieldType)).before args0 about1 = true := code_word (m := ⟨13, 1⟩) (meth := k13m1) (c := k13c1) (by decide +kernel) rfl rfl rfl (by decide +kernel)
set_option maxRecDepth 65536 in
theorem w_c19 : (Jvm.Cond.code ({ cls := "java/lang/StringLatin1", name := "inflate", desc := "([BI[CII)V" } : Jvm.MethodName) jdk_43_method_49_code (6 : Nat) (Option.none : Option Jvm.ClassFile.FieldType)).before args0 about1 = true := code_word (m := ⟨13, 2⟩) (meth := k13m2) (c := k13c2) (by decide +kernel) rfl rfl rfl (by decide +kernel)
set_option maxRecDepth 65536 in
theorem w_c20 : (Jvm.Cond.code ({ cls := "com/example/ratatoskr/ratatoskr/core/internal/StringInput", name := "mark", desc := "()V" } : Jvm.MethodName) prog_85_method_21_code (1 : Nat) (Option.none : Option Jvm.ClassFile.FieldType)).before args0 about1 = true := code_word (m := ⟨3, 5⟩) (meth := k3m5) (c := k3c5) (by decide +kernel) rfl rfl rfl (by decide +kernel)
set_option maxRecDepth 65536 in
theorem w_c21 : (Jvm.Cond.code ({ cls := "com/example/ratatoskr/ratatoskr/core/internal/StringInput", name := "skipPlainRun", desc := "(JZ)J" } : Jvm.MethodName) prog_85_method_6_code (10 : Nat) (Option.some Jvm.ClassFile.FieldType.long)).before args0 about1 = true := code_word (m := ⟨3, 2⟩) (meth := k3m2) (c := k3c2) (by decide +kernel) rfl rfl rfl (by decide +kernel)
set_option maxRecDepth 65536 in
theorem w_c22 : (Jvm.Cond.code ({ cls := "com/example/ratatoskr/ratatoskr/core/internal/StringInputSkipPlainRunPinLaw", name := "plainAt", desc := "([CI)Z" } : Jvm.MethodName) method_3_code (2 : Nat) (Option.some Jvm.ClassFile.FieldType.boolean)).before args0 about1 = true := code_word (m := ⟨1, 2⟩) (meth := k1m2) (c := k1c2) (by decide +kernel) rfl rfl rfl (by decide +kernel)
set_option maxRecDepth 65536 in
theorem w_c23 : (Jvm.Cond.code ({ cls := "com/example/ratatoskr/ratatoskr/core/internal/StringInputSkipPlainRunPinLaw", name := "plain", desc := "(C)Z" } : Jvm.MethodName) method_2_code (1 : Nat) (Option.some Jvm.ClassFile.FieldType.boolean)).before args0 about1 = true := code_word (m := ⟨1, 1⟩) (meth := k1m1) (c := k1c1) (by decide +kernel) rfl rfl rfl (by decide +kernel)
set_option maxRecDepth 65536 in
theorem w_c24 : (Jvm.Cond.code ({ cls := "com/example/ratatoskr/ratatoskr/core/internal/StringInput", name := "offset", desc := "()J" } : Jvm.MethodName) prog_85_method_19_code (1 : Nat) (Option.some Jvm.ClassFile.FieldType.long)).before args0 about1 = true := code_word (m := ⟨3, 4⟩) (meth := k3m4) (c := k3c4) (by decide +kernel) rfl rfl rfl (by decide +kernel)
set_option maxRecDepth 65536 in
theorem w_c25 : (Jvm.Cond.code ({ cls := "com/example/ratatoskr/ratatoskr/core/internal/StringInput", name := "markedIsPlain", desc := "()Z" } : Jvm.MethodName) prog_85_method_18_code (1 : Nat) (Option.some Jvm.ClassFile.FieldType.boolean)).before args0 about1 = true := code_word (m := ⟨3, 3⟩) (meth := k3m3) (c := k3c3) (by decide +kernel) rfl rfl rfl (by decide +kernel)
set_option maxRecDepth 65536 in
theorem w_c26 : (Jvm.Cond.code ({ cls := "com/example/ratatoskr/ratatoskr/core/internal/Input", name := "hasDecoded", desc := "()Z" } : Jvm.MethodName) prog_74_method_30_code (1 : Nat) (Option.some Jvm.ClassFile.FieldType.boolean)).before args0 about1 = true := code_word (m := ⟨2, 1⟩) (meth := k2m1) (c := k2c1) (by decide +kernel) rfl rfl rfl (by decide +kernel)
set_option maxRecDepth 65536 in
theorem w_c27 : (Jvm.Cond.code ({ cls := "com/example/ratatoskr/ratatoskr/core/internal/StringInput", name := "skip", desc := "()V" } : Jvm.MethodName) prog_85_method_3_code (1 : Nat) (Option.none : Option Jvm.ClassFile.FieldType)).before args0 about1 = true := code_word (m := ⟨3, 1⟩) (meth := k3m1) (c := k3c1) (by decide +kernel) rfl rfl rfl (by decide +kernel)
set_option maxRecDepth 65536 in
theorem w_c28 : (Jvm.Cond.code ({ cls := "java/lang/StringUTF16", name := "toBytes", desc := "([CII)[B" } : Jvm.MethodName) jdk_52_method_14_code (5 : Nat) (Option.some (Jvm.ClassFile.FieldType.array Jvm.ClassFile.FieldType.byte))).before args0 about1 = true := code_word (m := ⟨10, 6⟩) (meth := k10m6) (c := k10c6) (by decide +kernel) rfl rfl rfl (by decide +kernel)
set_option maxRecDepth 65536 in
theorem w_c29 : (Jvm.Cond.code ({ cls := "java/lang/StringUTF16", name := "newBytesFor", desc := "(I)[B" } : Jvm.MethodName) jdk_52_method_2_code (1 : Nat) (Option.some (Jvm.ClassFile.FieldType.array Jvm.ClassFile.FieldType.byte))).before args0 about1 = true := code_word (m := ⟨10, 1⟩) (meth := k10m1) (c := k10c1) (by decide +kernel) rfl rfl rfl (by decide +kernel)
set_option maxRecDepth 65536 in
theorem w_c30 : (Jvm.Cond.code ({ cls := "java/lang/StringUTF16", name := "newBytesLength", desc := "(I)I" } : Jvm.MethodName) jdk_52_method_3_code (1 : Nat) (Option.some Jvm.ClassFile.FieldType.int)).before args0 about1 = true := code_word (m := ⟨10, 2⟩) (meth := k10m2) (c := k10c2) (by decide +kernel) rfl rfl rfl (by decide +kernel)
set_option maxRecDepth 65536 in
theorem w_c31 : (Jvm.Cond.code ({ cls := "java/lang/StringUTF16", name := "putChar", desc := "([BII)V" } : Jvm.MethodName) jdk_52_method_4_code (3 : Nat) (Option.none : Option Jvm.ClassFile.FieldType)).before args0 about1 = true := code_word (m := ⟨10, 3⟩) (meth := k10m3) (c := k10c3) (by decide +kernel) rfl rfl rfl (by decide +kernel)
set_option maxRecDepth 65536 in
theorem w_c32 : (Jvm.Cond.code ({ cls := "java/lang/StringUTF16", name := "getChar", desc := "([BI)C" } : Jvm.MethodName) jdk_52_method_5_code (2 : Nat) (Option.some Jvm.ClassFile.FieldType.char)).before args0 about1 = true := code_word (m := ⟨10, 4⟩) (meth := k10m4) (c := k10c4) (by decide +kernel) rfl rfl rfl (by decide +kernel)
set_option maxRecDepth 65536 in
theorem w_c33 : (Jvm.Cond.code ({ cls := "java/lang/StringUTF16", name := "getChars", desc := "([BII[CI)V" } : Jvm.MethodName) jdk_52_method_26_code (6 : Nat) (Option.none : Option Jvm.ClassFile.FieldType)).before args0 about1 = true := code_word (m := ⟨10, 10⟩) (meth := k10m10) (c := k10c10) (by decide +kernel) rfl rfl rfl (by decide +kernel)
set_option maxRecDepth 65536 in
theorem w_c34 : (Jvm.Cond.code ({ cls := "java/lang/StringUTF16", name := "checkBoundsOffCount", desc := "(II[B)V" } : Jvm.MethodName) jdk_52_method_94_code (3 : Nat) (Option.none : Option Jvm.ClassFile.FieldType)).before args0 about1 = true := code_word (m := ⟨10, 11⟩) (meth := k10m11) (c := k10c11) (by decide +kernel) rfl rfl rfl (by decide +kernel)
set_option maxRecDepth 65536 in
theorem w_c35 : (Jvm.Cond.code ({ cls := "java/lang/StringUTF16", name := "length", desc := "([B)I" } : Jvm.MethodName) jdk_52_method_6_code (1 : Nat) (Option.some Jvm.ClassFile.FieldType.int)).before args0 about1 = true := code_word (m := ⟨10, 5⟩) (meth := k10m5) (c := k10c5) (by decide +kernel) rfl rfl rfl (by decide +kernel)
set_option maxRecDepth 65536 in
theorem w_c36 : (Jvm.Cond.code ({ cls := "com/example/ratatoskr/ratatoskr/core/internal/StringInputSkipPlainRunPinLaw", name := "asciiAt", desc := "([CI)Z" } : Jvm.MethodName) method_4_code (2 : Nat) (Option.some Jvm.ClassFile.FieldType.boolean)).before args0 about1 = true := code_word (m := ⟨1, 3⟩) (meth := k1m3) (c := k1c3) (by decide +kernel) rfl rfl rfl (by decide +kernel)
def codes1 : List Jvm.Cond := [Jvm.Cond.code x code maxLocals ret, Jvm.Cond.code ({ cls := "java/lang/String", name := "<init>", desc := "([C)V" } : Jvm.MethodName) jdk_42_method_3_code (2 : Nat) (Option.none : Option Jvm.ClassFile.FieldType), Jvm.Cond.code ({ cls := "java/lang/String", name := "<init>", desc := "([CIILjava/lang/Void;)V" } : Jvm.MethodName) jdk_42_method_149_code (6 : Nat) (Option.none : Option Jvm.ClassFile.FieldType), Jvm.Cond.code ({ cls := "java/lang/Object", name := "<init>", desc := "()V" } : Jvm.MethodName) object_method_1_code (1 : Nat) (Option.none : Option Jvm.ClassFile.FieldType), Jvm.Cond.code ({ cls := "java/lang/StringUTF16", name := "compress", desc := "([CII)[B" } : Jvm.MethodName) jdk_52_method_16_code (6 : Nat) (Option.some (Jvm.ClassFile.FieldType.array Jvm.ClassFile.FieldType.byte)), Jvm.Cond.code ({ cls := "java/lang/StringUTF16", name := "compress", desc := "([CI[BII)I" } : Jvm.MethodName) jdk_52_method_21_code (7 : Nat) (Option.some Jvm.ClassFile.FieldType.int), Jvm.Cond.code ({ cls := "java/lang/StringUTF16", name := "coderFromArrayLen", desc := "([BI)B" } : Jvm.MethodName) jdk_52_method_15_code (2 : Nat) (Option.some Jvm.ClassFile.FieldType.byte), Jvm.Cond.code ({ cls := "com/example/ratatoskr/ratatoskr/core/internal/StringInput", name := "<init>", desc := "(Ljava/lang/String;)V" } : Jvm.MethodName) prog_85_method_1_code (2 : Nat) (Option.none : Option Jvm.ClassFile.FieldType), Jvm.Cond.code ({ cls := "com/example/ratatoskr/ratatoskr/core/internal/Input", name := "<init>", desc := "()V" } : Jvm.MethodName) prog_74_method_1_code (1 : Nat) (Option.none : Option Jvm.ClassFile.FieldType), Jvm.Cond.code ({ cls := "java/lang/String", name := "length", desc := "()I" } : Jvm.MethodName) jdk_42_method_54_code (1 : Nat) (Option.some Jvm.ClassFile.FieldType.int), Jvm.Cond.code ({ cls := "java/lang/String", name := "coder", desc := "()B" } : Jvm.MethodName) jdk_42_method_152_code (1 : Nat) (Option.some Jvm.ClassFile.FieldType.byte), Jvm.Cond.code ({ cls := "java/lang/Math", name := "min", desc := "(II)I" } : Jvm.MethodName) jdk_29_method_69_code (2 : Nat) (Option.some Jvm.ClassFile.FieldType.int), Jvm.Cond.code ({ cls := "java/lang/String", name := "getChars", desc := "(II[CI)V" } : Jvm.MethodName) jdk_42_method_61_code (5 : Nat) (Option.none : Option Jvm.ClassFile.FieldType), Jvm.Cond.code ({ cls := "java/lang/String", name := "checkBoundsBeginEnd", desc := "(III)V" } : Jvm.MethodName) jdk_42_method_158_code (3 : Nat) (Option.none : Option Jvm.ClassFile.FieldType), Jvm.Cond.code ({ cls := "jdk/internal/util/Preconditions", name := "checkFromToIndex", desc := "(IIILjava/util/function/BiFunction;)I" } : Jvm.MethodName) jdk_41_method_12_code (4 : Nat) (Option.some Jvm.ClassFile.FieldType.int), Jvm.Cond.code ({ cls := "java/lang/String", name := "checkBoundsOffCount", desc := "(III)I" } : Jvm.MethodName) jdk_42_method_157_code (3 : Nat) (Option.some Jvm.ClassFile.FieldType.int), Jvm.Cond.code ({ cls := "jdk/internal/util/Preconditions", name := "checkFromIndexSize", desc := "(IIILjava/util/function/BiFunction;)I" } : Jvm.MethodName) jdk_41_method_13_code (4 : Nat) (Option.some Jvm.ClassFile.FieldType.int), Jvm.Cond.code ({ cls := "java/lang/String", name := "isLatin1", desc := "()Z" } : Jvm.MethodName) jdk_42_method_154_code (1 : Nat) (Option.some Jvm.ClassFile.FieldType.boolean), Jvm.Cond.code ({ cls := "java/lang/StringLatin1", name := "getChars", desc := "([BII[CI)V" } : Jvm.MethodName) jdk_43_method_11_code (5 : Nat) (Option.none : Option Jvm.ClassFile.FieldType), Jvm.Cond.code ({ cls := "java/lang/StringLatin1", name := "inflate", desc := "([BI[CII)V" } : Jvm.MethodName) jdk_43_method_49_code (6 : Nat) (Option.none : Option Jvm.ClassFile.FieldType), Jvm.Cond.code ({ cls := "com/example/ratatoskr/ratatoskr/core/internal/StringInput", name := "mark", desc := "()V" } : Jvm.MethodName) prog_85_method_21_code (1 : Nat) (Option.none : Option Jvm.ClassFile.FieldType), Jvm.Cond.code ({ cls := "com/example/ratatoskr/ratatoskr/core/internal/StringInput", name := "skipPlainRun", desc := "(JZ)J" } : Jvm.MethodName) prog_85_method_6_code (10 : Nat) (Option.some Jvm.ClassFile.FieldType.long), Jvm.Cond.code ({ cls := "com/example/ratatoskr/ratatoskr/core/internal/StringInputSkipPlainRunPinLaw", name := "plainAt", desc := "([CI)Z" } : Jvm.MethodName) method_3_code (2 : Nat) (Option.some Jvm.ClassFile.FieldType.boolean), Jvm.Cond.code ({ cls := "com/example/ratatoskr/ratatoskr/core/internal/StringInputSkipPlainRunPinLaw", name := "plain", desc := "(C)Z" } : Jvm.MethodName) method_2_code (1 : Nat) (Option.some Jvm.ClassFile.FieldType.boolean), Jvm.Cond.code ({ cls := "com/example/ratatoskr/ratatoskr/core/internal/StringInput", name := "offset", desc := "()J" } : Jvm.MethodName) prog_85_method_19_code (1 : Nat) (Option.some Jvm.ClassFile.FieldType.long), Jvm.Cond.code ({ cls := "com/example/ratatoskr/ratatoskr/core/internal/StringInput", name := "markedIsPlain", desc := "()Z" } : Jvm.MethodName) prog_85_method_18_code (1 : Nat) (Option.some Jvm.ClassFile.FieldType.boolean), Jvm.Cond.code ({ cls := "com/example/ratatoskr/ratatoskr/core/internal/Input", name := "hasDecoded", desc := "()Z" } : Jvm.MethodName) prog_74_method_30_code (1 : Nat) (Option.some Jvm.ClassFile.FieldType.boolean), Jvm.Cond.code ({ cls := "com/example/ratatoskr/ratatoskr/core/internal/StringInput", name := "skip", desc := "()V" } : Jvm.MethodName) prog_85_method_3_code (1 : Nat) (Option.none : Option Jvm.ClassFile.FieldType), Jvm.Cond.code ({ cls := "java/lang/StringUTF16", name := "toBytes", desc := "([CII)[B" } : Jvm.MethodName) jdk_52_method_14_code (5 : Nat) (Option.some (Jvm.ClassFile.FieldType.array Jvm.ClassFile.FieldType.byte)), Jvm.Cond.code ({ cls := "java/lang/StringUTF16", name := "newBytesFor", desc := "(I)[B" } : Jvm.MethodName) jdk_52_method_2_code (1 : Nat) (Option.some (Jvm.ClassFile.FieldType.array Jvm.ClassFile.FieldType.byte)), Jvm.Cond.code ({ cls := "java/lang/StringUTF16", name := "newBytesLength", desc := "(I)I" } : Jvm.MethodName) jdk_52_method_3_code (1 : Nat) (Option.some Jvm.ClassFile.FieldType.int), Jvm.Cond.code ({ cls := "java/lang/StringUTF16", name := "putChar", desc := "([BII)V" } : Jvm.MethodName) jdk_52_method_4_code (3 : Nat) (Option.none : Option Jvm.ClassFile.FieldType), Jvm.Cond.code ({ cls := "java/lang/StringUTF16", name := "getChar", desc := "([BI)C" } : Jvm.MethodName) jdk_52_method_5_code (2 : Nat) (Option.some Jvm.ClassFile.FieldType.char), Jvm.Cond.code ({ cls := "java/lang/StringUTF16", name := "getChars", desc := "([BII[CI)V" } : Jvm.MethodName) jdk_52_method_26_code (6 : Nat) (Option.none : Option Jvm.ClassFile.FieldType), Jvm.Cond.code ({ cls := "java/lang/StringUTF16", name := "checkBoundsOffCount", desc := "(II[B)V" } : Jvm.MethodName) jdk_52_method_94_code (3 : Nat) (Option.none : Option Jvm.ClassFile.FieldType), Jvm.Cond.code ({ cls := "java/lang/StringUTF16", name := "length", desc := "([B)I" } : Jvm.MethodName) jdk_52_method_6_code (1 : Nat) (Option.some Jvm.ClassFile.FieldType.int), Jvm.Cond.code ({ cls := "com/example/ratatoskr/ratatoskr/core/internal/StringInputSkipPlainRunPinLaw", name := "asciiAt", desc := "([CI)Z" } : Jvm.MethodName) method_4_code (2 : Nat) (Option.some Jvm.ClassFile.FieldType.boolean)]
set_option maxRecDepth 65536 in
theorem codes_eq : words1.filter isCode = codes1 := rfl
theorem w_codes : ∀ c ∈ words1.filter isCode, c.before args0 about1 = true := by
  rw [codes_eq]
  intro c hc
  simp only [codes1, List.mem_cons, List.not_mem_nil, or_false] at hc
  rcases hc with rfl | rfl | rfl | rfl | rfl | rfl | rfl | rfl | rfl | rfl | rfl | rfl | rfl | rfl | rfl | rfl | rfl | rfl | rfl | rfl | rfl | rfl | rfl | rfl | rfl | rfl | rfl | rfl | rfl | rfl | rfl | rfl | rfl | rfl | rfl | rfl | rfl
  · exact w_c0
  · exact w_c1
  · exact w_c2
  · exact w_c3
  · exact w_c4
  · exact w_c5
  · exact w_c6
  · exact w_c7
  · exact w_c8
  · exact w_c9
  · exact w_c10
  · exact w_c11
  · exact w_c12
  · exact w_c13
  · exact w_c14
  · exact w_c15
  · exact w_c16
  · exact w_c17
  · exact w_c18
  · exact w_c19
  · exact w_c20
  · exact w_c21
  · exact w_c22
  · exact w_c23
  · exact w_c24
  · exact w_c25
  · exact w_c26
  · exact w_c27
  · exact w_c28
  · exact w_c29
  · exact w_c30
  · exact w_c31
  · exact w_c32
  · exact w_c33
  · exact w_c34
  · exact w_c35
  · exact w_c36
set_option maxRecDepth 65536 in
theorem w_t1 : (words1.take 24).all (fun c => isCode c || c.before args0 about1) = true := by decide +kernel
set_option maxRecDepth 65536 in
theorem w_t2 : ((words1.drop 24).take 24).all (fun c => isCode c || c.before args0 about1) = true := by decide +kernel
set_option maxRecDepth 65536 in
theorem w_t3 : (((words1.drop 24).drop 24).take 24).all (fun c => isCode c || c.before args0 about1) = true := by decide +kernel
set_option maxRecDepth 65536 in
theorem w_t4 : ((((words1.drop 24).drop 24).drop 24).take 24).all (fun c => isCode c || c.before args0 about1) = true := by decide +kernel
set_option maxRecDepth 65536 in
theorem w_t5 : (((((words1.drop 24).drop 24).drop 24).drop 24).take 24).all (fun c => isCode c || c.before args0 about1) = true := by decide +kernel
set_option maxRecDepth 65536 in
theorem w_t6 : ((((((words1.drop 24).drop 24).drop 24).drop 24).drop 24).take 24).all (fun c => isCode c || c.before args0 about1) = true := by decide +kernel
set_option maxRecDepth 65536 in
theorem w_t7 : (((((((words1.drop 24).drop 24).drop 24).drop 24).drop 24).drop 24).take 24).all (fun c => isCode c || c.before args0 about1) = true := by decide +kernel
set_option maxRecDepth 65536 in
theorem w_t8 : (((((((words1.drop 24).drop 24).drop 24).drop 24).drop 24).drop 24).drop 24).all (fun c => isCode c || c.before args0 about1) = true := by decide +kernel
theorem w_tables : (allAtoms (Jvm.Cond.code x code maxLocals ret :: tables_1)).before args0 about1 = true := by
  rw [allAtoms_all]
  show words1.all (fun c => c.before args0 about1) = true
  refine all_split ?_ w_codes
  rw [← List.take_append_drop 24 words1, List.all_append, w_t1, ← List.take_append_drop 24 (words1.drop 24), List.all_append, w_t2, ← List.take_append_drop 24 ((words1.drop 24).drop 24), List.all_append, w_t3, ← List.take_append_drop 24 (((words1.drop 24).drop 24).drop 24), List.all_append, w_t4, ← List.take_append_drop 24 ((((words1.drop 24).drop 24).drop 24).drop 24), List.all_append, w_t5, ← List.take_append_drop 24 (((((words1.drop 24).drop 24).drop 24).drop 24).drop 24), List.all_append, w_t6, ← List.take_append_drop 24 ((((((words1.drop 24).drop 24).drop 24).drop 24).drop 24).drop 24), List.all_append, w_t7, w_t8]
  rfl
set_option maxRecDepth 65536 in
theorem w_rest : rest_1_c.before args0 about1 = true := by decide +kernel
set_option maxRecDepth 65536 in
theorem w_case : (Jvm.Cond.and given_1 narrow_1).before args0 about1 = true := by decide +kernel
theorem w_applies : (headSpec (Jvm.Cond.code x code maxLocals ret :: tables_1) room_1).applies x e0.platform about1 = true :=
  (Spec.applies_iff w_frames).mpr ⟨w_running, w_runnable, w_alone, w_named, w_hears, w_ripe, w_room, w_tables⟩
theorem atStart : AtStart classFile x code maxLocals ret World_1 tables_1 room_1 Calls_1 rest_1 Pre_1 launch0 p0 e0 about1 theMethod args0 below0 :=
  ⟨lists_1, trivial, launch0.admits_env _ _ _, launch0.least_env, fairChoices_fair.cas, fairChoices_fair.clock, w_frames, w_args, w_heap, w_applies, trivial, w_rest, w_case⟩
end start1
theorem witness_1 : WitnessClaimed_1 := ⟨start1.p0, start1.e0, start1.about1, start1.theMethod, start1.args0, start1.below0, start1.atStart⟩
end Jvm.Pilot.@@N@@
