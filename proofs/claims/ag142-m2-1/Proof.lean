import JvmDerived
import JvmDerived.Pilot.@@N@@Statement
import JvmDerived.Pilot.@@N@@Code
set_option linter.unusedVariables false
set_option linter.unusedSimpArgs false
namespace Jvm.Pilot.@@N@@
open Jvm Jvm.ClassFile Sem Op Lib Jvm.Free Jvm.Stand Jvm.LawKit Jvm.RoadKit Bundle Jvm.Pilot.@@N@@.Jvm.D

abbrev ci (x : Int32) : Slot := .val (.int x)
abbrev cj (x : Int64) : Slot := .val (.long x)
abbrev cr (x : Addr) : Slot := .val (.ref x)
abbrev cs : Slot := .second
abbrev cu : Slot := .unset
abbrev cSI : String := "com/example/ratatoskr/ratatoskr/core/internal/StringInput"
abbrev cU16 : String := "java/lang/StringUTF16"
abbrev ym0 : MethodName := ⟨"com/example/ratatoskr/ratatoskr/core/internal/StringInputSkipWordPinLaw", "pick", "(IIJIJ)C"⟩
abbrev ym1 : MethodName := ⟨"java/lang/StringUTF16", "compress", "([CI[BII)I"⟩
abbrev ym2 : MethodName := ⟨"jdk/internal/util/Preconditions", "checkFromToIndex", "(IIILjava/util/function/BiFunction;)I"⟩
abbrev ym3 : MethodName := ⟨"java/lang/String", "checkBoundsBeginEnd", "(III)V"⟩
abbrev ym4 : MethodName := ⟨"jdk/internal/util/Preconditions", "checkFromIndexSize", "(IIILjava/util/function/BiFunction;)I"⟩
abbrev ym5 : MethodName := ⟨"java/lang/String", "checkBoundsOffCount", "(III)I"⟩
abbrev ym6 : MethodName := ⟨"com/example/ratatoskr/ratatoskr/core/internal/StringInput", "skipWord", "(JI)Z"⟩
abbrev ym7 : MethodName := ⟨"java/lang/StringUTF16", "getChar", "([BI)C"⟩
abbrev ym8 : MethodName := ⟨"com/example/ratatoskr/ratatoskr/core/internal/StringInput", "offset", "()J"⟩
abbrev ym9 : MethodName := ⟨"com/example/ratatoskr/ratatoskr/core/internal/StringInput", "skip", "()V"⟩
abbrev ym10 : MethodName := ⟨"java/lang/StringUTF16", "compress", "([CII)[B"⟩
abbrev ym11 : MethodName := ⟨"java/lang/StringUTF16", "coderFromArrayLen", "([BI)B"⟩
abbrev ym12 : MethodName := ⟨"java/lang/String", "<init>", "([CIILjava/lang/Void;)V"⟩
abbrev ym13 : MethodName := ⟨"java/lang/String", "<init>", "([C)V"⟩
abbrev ym14 : MethodName := ⟨"com/example/ratatoskr/ratatoskr/core/internal/Input", "<init>", "()V"⟩
abbrev ym15 : MethodName := ⟨"java/lang/String", "coder", "()B"⟩
abbrev ym16 : MethodName := ⟨"java/lang/String", "length", "()I"⟩
abbrev ym17 : MethodName := ⟨"java/lang/Math", "min", "(II)I"⟩
abbrev ym18 : MethodName := ⟨"java/lang/String", "isLatin1", "()Z"⟩
abbrev ym19 : MethodName := ⟨"java/lang/StringLatin1", "inflate", "([BI[CII)V"⟩
abbrev ym20 : MethodName := ⟨"java/lang/StringLatin1", "getChars", "([BII[CI)V"⟩
abbrev ym21 : MethodName := ⟨"java/lang/String", "getChars", "(II[CI)V"⟩
abbrev ym22 : MethodName := ⟨"com/example/ratatoskr/ratatoskr/core/internal/StringInput", "<init>", "(Ljava/lang/String;)V"⟩
abbrev ym23 : MethodName := ⟨"java/lang/StringUTF16", "newBytesLength", "(I)I"⟩
abbrev ym24 : MethodName := ⟨"java/lang/StringUTF16", "newBytesFor", "(I)[B"⟩
abbrev ym25 : MethodName := ⟨"java/lang/StringUTF16", "putChar", "([BII)V"⟩
abbrev ym26 : MethodName := ⟨"java/lang/StringUTF16", "toBytes", "([CII)[B"⟩
abbrev ym27 : MethodName := ⟨"java/lang/StringUTF16", "length", "([B)I"⟩
abbrev ym28 : MethodName := ⟨"java/lang/StringUTF16", "checkBoundsOffCount", "(II[B)V"⟩
abbrev ym29 : MethodName := ⟨"java/lang/StringUTF16", "getChars", "([BII[CI)V"⟩
section OwnEnds
variable {p : Program} {l : Launch} {e : Env} {R : Room} {s : State} {m : MethodId} {args : Array Value} {below : List Frame} {meth : Method} {c : Code} {T : State} {locs : List Loc} {cells slots : Nat}
/-- from here the body comes to its end, returns, and leaves what Q says -/
def Ends (p : Program) (e : Env) (below : List Frame) (s T : State) (g : JFrame) (kc ks : Nat) (Q : Option Value → Heap → List Loc → Prop) : Prop :=
 ∃ s₂ o, Steps p.tables e below (T.setTop g) s₂ ∧ s₂.status = .running ∧ Ended s₂ below o ∧ ∃ v L, o = .returned v ∧ Q v s₂.heap L ∧ FrameEnd s o s₂ L kc ks
theorem Ends.go {T' : State} {g g' : JFrame} {kc ks : Nat} {Q : Option Value → Heap → List Loc → Prop} (h : ∀ target, Steps p.tables e below (T'.setTop g') target → Steps p.tables e below (T.setTop g) target) (k : Ends p e below s T' g' kc ks Q) : Ends p e below s T g kc ks Q := by
 obtain ⟨s₂, o, h1, h2⟩ := k
 exact ⟨s₂, o, h _ h1, h2⟩
theorem Ends.ret (X : Stand p l e R s m args below meth c T locs cells slots) (hx : p.tables.exec = Jvm.exec) (hlocks : meth.locks = false) {pc : Nat} {Ls : Array Slot} {w : Value} {t : FieldType} {i : Instr} {rest : List Value} (hret : meth.sig.returnType = some t) (hn : narrow t w = w)
  (hi : (i = .ireturn ∧ (t = .int ∨ t = .boolean ∨ t = .byte ∨ t = .char ∨ t = .short) ∧ ∃ z, w = .int z) ∨ (i = .lreturn ∧ t = .long ∧ ∃ z, w = .long z) ∨ (i = .dreturn ∧ t = .double ∧ ∃ z, w = .double z) ∨ (i = .freturn ∧ t = .float ∧ ∃ z, w = .float z) ∨ (i = .areturn ∧ t.isReference = true ∧ w.isRef = true))
  (hd : decode c.code pc = .ok (i, 1)) {kc ks : Nat} {Q : Option Value → Heap → List Loc → Prop} (hc : cells ≤ kc) (hs : slots ≤ ks) (hq : Q (some w) T.heap locs) : Ends p e below s T (mkF m pc Ls (w :: rest)) kc ks Q := by
 obtain ⟨fs, hr, hrun, hended, hW, hsame⟩ := X.leave (v := some w) (fun h => by rw [hret] at h; cases h) hlocks
 exact ⟨_, _, retOut X hx hret hn hi hd hr, hrun, hended, _, _, rfl, hq, ⟨_, rfl⟩, hW, hsame.mono hc hs⟩
theorem Ends.retZ (X : Stand p l e R s m args below meth c T locs cells slots) (hx : p.tables.exec = Jvm.exec) (hlocks : meth.locks = false) {pc : Nat} {Ls : Array Slot} {z : Int32} {t : FieldType} {rest : List Value} (hret : meth.sig.returnType = some t) (ht : t = .boolean ∨ t = .byte ∨ t = .char ∨ t = .short)
  (hd : decode c.code pc = .ok (.ireturn, 1)) {kc ks : Nat} {Q : Option Value → Heap → List Loc → Prop} (hc : cells ≤ kc) (hs : slots ≤ ks) (hq : Q (some (.int (nar t z))) T.heap locs) : Ends p e below s T (mkF m pc Ls (.int z :: rest)) kc ks Q := by
 obtain ⟨fs, hr, hrun, hended, hW, hsame⟩ := X.leave (v := some (.int (nar t z))) (fun h => by rw [hret] at h; cases h) hlocks
 exact ⟨_, _, retN X hx hret ht hd hr, hrun, hended, _, _, rfl, hq, ⟨_, rfl⟩, hW, hsame.mono hc hs⟩
theorem Ends.retV (X : Stand p l e R s m args below meth c T locs cells slots) (hx : p.tables.exec = Jvm.exec) (hlocks : meth.locks = false) {pc : Nat} {Ls : Array Slot} (hret : meth.sig.returnType = none)
  (hd : decode c.code pc = .ok (.return_, 1)) {kc ks : Nat} {Q : Option Value → Heap → List Loc → Prop} (hc : cells ≤ kc) (hs : slots ≤ ks) (hq : Q none T.heap locs) : Ends p e below s T (mkF m pc Ls []) kc ks Q := by
 obtain ⟨fs, hr, hrun, hended, hW, hsame⟩ := X.leave (v := none) (fun _ => rfl) hlocks
 exact ⟨_, _, X.returnOut hx hret hd hr, hrun, hended, _, _, rfl, hq, ⟨_, rfl⟩, hW, hsame.mono hc hs⟩
theorem own_mono (X : Stand p l e R s m args below meth c T locs cells slots) {kc ks : Nat} (hc : cells ≤ kc) (hs : slots ≤ ks) : Stand p l e R s m args below meth c T locs kc ks := { X with same := X.same.mono hc hs }
theorem wil {kc ks : Nat} {Q : Option Value → Heap → List Loc → Prop} {pc : Nat} {L : Array Slot} {S : List Value} {B : ByteArray} {k : Nat} {v : Int32} (X : Stand p l e R s m args below meth c T locs cells slots) (hx : p.tables.exec = Jvm.exec) (hby : c.code = B) (hd : decode B pc = .ok (.iload k, 2)) (hl : L[k]? = some (.val (.int v))) (q : Ends p e below s T (mkF m (pc + 2) L (.int v :: S)) kc ks Q) : Ends p e below s T (mkF m pc L S) kc ks Q := Ends.go (fun _ k => XS.iload X.here hx rfl (hb hby hd) hl k) q
theorem wilN {kc ks : Nat} {Q : Option Value → Heap → List Loc → Prop} {pc : Nat} {L : Array Slot} {S : List Value} {B : ByteArray} {k : Fin 4} {v : Int32} (X : Stand p l e R s m args below meth c T locs cells slots) (hx : p.tables.exec = Jvm.exec) (hby : c.code = B) (hd : decode B pc = .ok (.iload_n k, 1)) (hl : L[k.val]? = some (.val (.int v))) (q : Ends p e below s T (mkF m (pc + 1) L (.int v :: S)) kc ks Q) : Ends p e below s T (mkF m pc L S) kc ks Q := Ends.go (fun _ k => XS.iloadN X.here hx rfl (hb hby hd) hl k) q
theorem wal {kc ks : Nat} {Q : Option Value → Heap → List Loc → Prop} {pc : Nat} {L : Array Slot} {S : List Value} {B : ByteArray} {k : Nat} {v : Value} (X : Stand p l e R s m args below meth c T locs cells slots) (hx : p.tables.exec = Jvm.exec) (hby : c.code = B) (hd : decode B pc = .ok (.aload k, 2)) (hl : L[k]? = some (.val v)) (hv : v.isRef = true) (q : Ends p e below s T (mkF m (pc + 2) L (v :: S)) kc ks Q) : Ends p e below s T (mkF m pc L S) kc ks Q := Ends.go (fun _ k => XS.aload X.here hx rfl (hb hby hd) hl hv k) q
theorem walN {kc ks : Nat} {Q : Option Value → Heap → List Loc → Prop} {pc : Nat} {L : Array Slot} {S : List Value} {B : ByteArray} {k : Fin 4} {v : Value} (X : Stand p l e R s m args below meth c T locs cells slots) (hx : p.tables.exec = Jvm.exec) (hby : c.code = B) (hd : decode B pc = .ok (.aload_n k, 1)) (hl : L[k.val]? = some (.val v)) (hv : v.isRef = true) (q : Ends p e below s T (mkF m (pc + 1) L (v :: S)) kc ks Q) : Ends p e below s T (mkF m pc L S) kc ks Q := Ends.go (fun _ k => XS.aloadN X.here hx rfl (hb hby hd) hl hv k) q
theorem wic {kc ks : Nat} {Q : Option Value → Heap → List Loc → Prop} {pc : Nat} {L : Array Slot} {S : List Value} {B : ByteArray} {i : Int} (X : Stand p l e R s m args below meth c T locs cells slots) (hx : p.tables.exec = Jvm.exec) (hby : c.code = B) (hd : decode B pc = .ok (.iconst i, 1)) (q : Ends p e below s T (mkF m (pc + 1) L (.int (Int32.ofInt i) :: S)) kc ks Q) : Ends p e below s T (mkF m pc L S) kc ks Q := Ends.go (fun _ k => XS.iconst X.here hx rfl (hb hby hd)  k) q
theorem wbp {kc ks : Nat} {Q : Option Value → Heap → List Loc → Prop} {pc : Nat} {L : Array Slot} {S : List Value} {B : ByteArray} {i : Int} (X : Stand p l e R s m args below meth c T locs cells slots) (hx : p.tables.exec = Jvm.exec) (hby : c.code = B) (hd : decode B pc = .ok (.bipush i, 2)) (q : Ends p e below s T (mkF m (pc + 2) L (.int (Int8.ofInt i).toInt32 :: S)) kc ks Q) : Ends p e below s T (mkF m pc L S) kc ks Q := Ends.go (fun _ k => XS.bipush X.here hx rfl (hb hby hd)  k) q
theorem wsp {kc ks : Nat} {Q : Option Value → Heap → List Loc → Prop} {pc : Nat} {L : Array Slot} {S : List Value} {B : ByteArray} {i : Int} (X : Stand p l e R s m args below meth c T locs cells slots) (hx : p.tables.exec = Jvm.exec) (hby : c.code = B) (hd : decode B pc = .ok (.sipush i, 3)) (q : Ends p e below s T (mkF m (pc + 3) L (.int (Int16.ofInt i).toInt32 :: S)) kc ks Q) : Ends p e below s T (mkF m pc L S) kc ks Q := Ends.go (fun _ k => XS.sipush X.here hx rfl (hb hby hd)  k) q
theorem wia {kc ks : Nat} {Q : Option Value → Heap → List Loc → Prop} {pc : Nat} {L : Array Slot} {S : List Value} {B : ByteArray} {x y : Int32} (X : Stand p l e R s m args below meth c T locs cells slots) (hx : p.tables.exec = Jvm.exec) (hby : c.code = B) (hd : decode B pc = .ok (.iadd, 1)) (q : Ends p e below s T (mkF m (pc + 1) L (.int (x + y) :: S)) kc ks Q) : Ends p e below s T (mkF m pc L (.int y :: .int x :: S)) kc ks Q := Ends.go (fun _ k => XS.iadd X.here hx rfl (hb hby hd) rfl k) q
theorem wis {kc ks : Nat} {Q : Option Value → Heap → List Loc → Prop} {pc : Nat} {L : Array Slot} {S : List Value} {B : ByteArray} {x y : Int32} (X : Stand p l e R s m args below meth c T locs cells slots) (hx : p.tables.exec = Jvm.exec) (hby : c.code = B) (hd : decode B pc = .ok (.isub, 1)) (q : Ends p e below s T (mkF m (pc + 1) L (.int (x - y) :: S)) kc ks Q) : Ends p e below s T (mkF m pc L (.int y :: .int x :: S)) kc ks Q := Ends.go (fun _ k => XS.isub X.here hx rfl (hb hby hd) rfl k) q
theorem wst {kc ks : Nat} {Q : Option Value → Heap → List Loc → Prop} {pc : Nat} {L : Array Slot} {S : List Value} {B : ByteArray} {k : Nat} {x : Int32} {l' : Array Slot} (X : Stand p l e R s m args below meth c T locs cells slots) (hx : p.tables.exec = Jvm.exec) (hby : c.code = B) (hd : decode B pc = .ok (.istore k, 2)) (hl : storeLocals L k (.int x) = some l') (q : Ends p e below s T (mkF m (pc + 2) l' S) kc ks Q) : Ends p e below s T (mkF m pc L (.int x :: S)) kc ks Q := Ends.go (fun _ k => XS.istore X.here hx rfl (hb hby hd) rfl hl k) q
theorem wstN {kc ks : Nat} {Q : Option Value → Heap → List Loc → Prop} {pc : Nat} {L : Array Slot} {S : List Value} {B : ByteArray} {k : Fin 4} {x : Int32} {l' : Array Slot} (X : Stand p l e R s m args below meth c T locs cells slots) (hx : p.tables.exec = Jvm.exec) (hby : c.code = B) (hd : decode B pc = .ok (.istore_n k, 1)) (hl : storeLocals L k.val (.int x) = some l') (q : Ends p e below s T (mkF m (pc + 1) l' S) kc ks Q) : Ends p e below s T (mkF m pc L (.int x :: S)) kc ks Q := Ends.go (fun _ k => XS.istoreN X.here hx rfl (hb hby hd) rfl hl k) q
theorem was {kc ks : Nat} {Q : Option Value → Heap → List Loc → Prop} {pc : Nat} {L : Array Slot} {S : List Value} {B : ByteArray} {k : Nat} {x : Value} {l' : Array Slot} (X : Stand p l e R s m args below meth c T locs cells slots) (hx : p.tables.exec = Jvm.exec) (hby : c.code = B) (hd : decode B pc = .ok (.astore k, 2)) (hv : x.isRef = true) (hl : storeLocals L k x = some l') (q : Ends p e below s T (mkF m (pc + 2) l' S) kc ks Q) : Ends p e below s T (mkF m pc L (x :: S)) kc ks Q := Ends.go (fun _ k => XS.astore X.here hx rfl (hb hby hd) rfl hv hl k) q
theorem wasN {kc ks : Nat} {Q : Option Value → Heap → List Loc → Prop} {pc : Nat} {L : Array Slot} {S : List Value} {B : ByteArray} {k : Fin 4} {x : Value} {l' : Array Slot} (X : Stand p l e R s m args below meth c T locs cells slots) (hx : p.tables.exec = Jvm.exec) (hby : c.code = B) (hd : decode B pc = .ok (.astore_n k, 1)) (hv : x.isRef = true) (hl : storeLocals L k.val x = some l') (q : Ends p e below s T (mkF m (pc + 1) l' S) kc ks Q) : Ends p e below s T (mkF m pc L (x :: S)) kc ks Q := Ends.go (fun _ k => XS.astoreN X.here hx rfl (hb hby hd) rfl hv hl k) q
theorem wii {kc ks : Nat} {Q : Option Value → Heap → List Loc → Prop} {pc : Nat} {L : Array Slot} {S : List Value} {B : ByteArray} {k : Nat} {cst : Int} {x : Int32} {l' : Array Slot} (X : Stand p l e R s m args below meth c T locs cells slots) (hx : p.tables.exec = Jvm.exec) (hby : c.code = B) (hd : decode B pc = .ok (.iinc k cst, 3)) (hl : L[k]? = some (.val (.int x))) (hl' : storeLocals L k (.int (x + Int32.ofInt cst)) = some l') (q : Ends p e below s T (mkF m (pc + 3) l' S) kc ks Q) : Ends p e below s T (mkF m pc L S) kc ks Q := Ends.go (fun _ k => XS.iinc X.here hx rfl (hb hby hd) hl hl' k) q
theorem wgo {kc ks : Nat} {Q : Option Value → Heap → List Loc → Prop} {pc : Nat} {L : Array Slot} {S : List Value} {B : ByteArray} {o : Int} {pc' : Nat} (X : Stand p l e R s m args below meth c T locs cells slots) (hx : p.tables.exec = Jvm.exec) (hby : c.code = B) (hd : decode B pc = .ok (.goto o, 3)) (ho : 0 ≤ (pc : Int) + o) (hp : ((pc : Int) + o).toNat = pc') (q : Ends p e below s T (mkF m pc' L S) kc ks Q) : Ends p e below s T (mkF m pc L S) kc ks Q := Ends.go (fun _ k => XS.goto X.here hx rfl rfl (hb hby hd) ho hp k) q
theorem wcy {kc ks : Nat} {Q : Option Value → Heap → List Loc → Prop} {pc : Nat} {L : Array Slot} {S : List Value} {B : ByteArray} {cd : ClassFile.Cond} {x y : Int32} {o : Int} {pc' : Nat} (X : Stand p l e R s m args below meth c T locs cells slots) (hx : p.tables.exec = Jvm.exec) (hby : c.code = B) (hd : decode B pc = .ok (.if_icmp cd o, 3)) (hc : if_icmp.holds cd x y = true) (ho : 0 ≤ (pc : Int) + o) (hp : ((pc : Int) + o).toNat = pc') (q : Ends p e below s T (mkF m pc' L S) kc ks Q) : Ends p e below s T (mkF m pc L (.int y :: .int x :: S)) kc ks Q := Ends.go (fun _ k => XS.icmpYes X.here hx rfl rfl (hb hby hd) rfl hc ho hp k) q
theorem wcn {kc ks : Nat} {Q : Option Value → Heap → List Loc → Prop} {pc : Nat} {L : Array Slot} {S : List Value} {B : ByteArray} {cd : ClassFile.Cond} {x y : Int32} {o : Int} (X : Stand p l e R s m args below meth c T locs cells slots) (hx : p.tables.exec = Jvm.exec) (hby : c.code = B) (hd : decode B pc = .ok (.if_icmp cd o, 3)) (hc : if_icmp.holds cd x y = false) (q : Ends p e below s T (mkF m (pc + 3) L S) kc ks Q) : Ends p e below s T (mkF m pc L (.int y :: .int x :: S)) kc ks Q := Ends.go (fun _ k => XS.icmpNo X.here hx rfl (hb hby hd) rfl hc k) q
theorem wiy {kc ks : Nat} {Q : Option Value → Heap → List Loc → Prop} {pc : Nat} {L : Array Slot} {S : List Value} {B : ByteArray} {cd : ClassFile.Cond} {x : Int32} {o : Int} {pc' : Nat} (X : Stand p l e R s m args below meth c T locs cells slots) (hx : p.tables.exec = Jvm.exec) (hby : c.code = B) (hd : decode B pc = .ok (.ifCond cd o, 3)) (hc : ifCond.holds cd x = true) (ho : 0 ≤ (pc : Int) + o) (hp : ((pc : Int) + o).toNat = pc') (q : Ends p e below s T (mkF m pc' L S) kc ks Q) : Ends p e below s T (mkF m pc L (.int x :: S)) kc ks Q := Ends.go (fun _ k => XS.ifYes X.here hx rfl rfl (hb hby hd) rfl hc ho hp k) q
theorem win {kc ks : Nat} {Q : Option Value → Heap → List Loc → Prop} {pc : Nat} {L : Array Slot} {S : List Value} {B : ByteArray} {cd : ClassFile.Cond} {x : Int32} {o : Int} (X : Stand p l e R s m args below meth c T locs cells slots) (hx : p.tables.exec = Jvm.exec) (hby : c.code = B) (hd : decode B pc = .ok (.ifCond cd o, 3)) (hc : ifCond.holds cd x = false) (q : Ends p e below s T (mkF m (pc + 3) L S) kc ks Q) : Ends p e below s T (mkF m pc L (.int x :: S)) kc ks Q := Ends.go (fun _ k => XS.ifNo X.here hx rfl (hb hby hd) rfl hc k) q
theorem wan {kc ks : Nat} {Q : Option Value → Heap → List Loc → Prop} {pc : Nat} {L : Array Slot} {S : List Value} {B : ByteArray} {x y : Int32} (X : Stand p l e R s m args below meth c T locs cells slots) (hx : p.tables.exec = Jvm.exec) (hby : c.code = B) (hd : decode B pc = .ok (.iand, 1)) (q : Ends p e below s T (mkF m (pc + 1) L (.int (x &&& y) :: S)) kc ks Q) : Ends p e below s T (mkF m pc L (.int y :: .int x :: S)) kc ks Q := Ends.go (fun _ k => XS.iand X.here hx rfl (hb hby hd) rfl k) q
theorem wdu {kc ks : Nat} {Q : Option Value → Heap → List Loc → Prop} {pc : Nat} {L : Array Slot} {S : List Value} {B : ByteArray} {x : Value} (X : Stand p l e R s m args below meth c T locs cells slots) (hx : p.tables.exec = Jvm.exec) (hby : c.code = B) (hd : decode B pc = .ok (.dup, 1)) (hv : x.category = 1) (q : Ends p e below s T (mkF m (pc + 1) L (x :: x :: S)) kc ks Q) : Ends p e below s T (mkF m pc L (x :: S)) kc ks Q := Ends.go (fun _ k => XS.dup X.here hx rfl (hb hby hd) rfl hv k) q
end OwnEnds
abbrev Meets1 (l : Launch) (y : MethodName) (bytes : ByteArray) (ml : Nat) (rt : Option FieldType) (ws : List Jvm.Cond) (rm : Room) (av : Array Value) (Z : State) (h0 : Heap) (Q : Option Value → Heap → List Loc → Prop) : Prop :=
 MetFree l y (head1 (Jvm.Cond.code y bytes ml rt :: ws) rm) (fun a U => a = av ∧ Z.Warmed39 U.vm ∧ U.heap = h0) (fun _ _ _ _ _ => True) (fun _ U o U' => ∃ v L, o = .returned v ∧ Q v U'.heap L ∧ FrameEnd U o U' L rm.cells rm.slots)
theorem own_backOf {p : Program} {l : Launch} {e : Env} {R : Room} {s : State} {args : Array Value} {below : List Frame} {Z : State} {a0 : Array Value} {h : Heap} {y : MethodName} {bytes : ByteArray} {maxL : Nat} {ret : Option FieldType} {rm : Room} {len W : Nat} {as' : Array Value} {Q : Option Value → Heap → List Loc → Prop}
  (hM : Meets1 l y bytes maxL ret [] rm as' Z h Q) (hZ : Z.Warmed39 s.vm) (wc : (Jvm.Cond.code y bytes maxL ret).before a0 Z = true) (wz : (Jvm.Cond.initialized y.cls).before a0 Z = true) (hf : rm.frames + 1 ≤ R.frames) (hl : W + (maxL + 11) + rm.locals ≤ R.locals) :
  Back l R p e below s args y len W (fun A a => a = as' ∧ A.U.heap = h ∧ A.cells + rm.cells ≤ R.cells ∧ A.slots + rm.slots ≤ R.slots)
   (fun A _ v B => ∃ L, Q v B.U.heap L ∧ B.locs = A.locs ++ L ∧ B.cells = A.cells + rm.cells ∧ B.slots = A.slots + rm.slots) := backOf (Q := Q) hM hZ wc wz hf hl
theorem ow {Z : State} {a0 : Array Value} (hw : ∀ d ∈ tables_1, d.before a0 Z = true) {d : Jvm.Cond} (i : Nat) (h : tables_1[i]? = some d) : d.before a0 Z = true := hw d (List.mem_of_getElem? h)
theorem own_old_le {Z : State} {n0 : Nat} {h : Heap} (O : Old Z n0 h) : n0 ≤ h.size := O.1 ▸ O.2.1
theorem own_eqI {args : Array Value} {s : State} {t : Term} {k : Int32} (h : (Jvm.Cond.eq t (.int k)).value args s none s [] = some true) : t.eval args s none [] s = some (.int k) := by
 cases ht : t.eval args s none [] s with
 | none => simp [Cond.value, ht] at h
 | some x => cases x <;> simp_all [Cond.value, Term.eval]

theorem own_narb {r : Int32} : nar .byte (r.toInt8.toInt32) = r.toInt8.toInt32 := by
 have a1 := c_i2b r
 have a2 := c_i2b r.toInt8.toInt32
 exact Int32.toInt_inj.mp (by show r.toInt8.toInt32.toInt8.toInt32.toInt = r.toInt8.toInt32.toInt; omega)
theorem own_narc {c : Int32} (h : 0 ≤ c.toInt ∧ c.toInt < 65536) : nar .char c = c := by
 have a1 := c_i2c c
 exact Int32.toInt_inj.mp (by show c.toUInt32.toUInt16.toUInt32.toInt32.toInt = c.toInt; omega)
theorem own_narrng (x : Int32) : 0 ≤ (nar .char x).toInt ∧ (nar .char x).toInt < 65536 := (c_i2c x).2
theorem own_u16 {c : Int32} (h : 0 ≤ c.toInt ∧ c.toInt < 65536) : nar .char ((((((c >>> ((0 : Int32) &&& 31)).toInt8.toInt32) &&& (255 : Int32)) <<< ((0 : Int32) &&& 31)) ||| ((((c >>> ((8 : Int32) &&& 31)).toInt8.toInt32) &&& (255 : Int32)) <<< ((8 : Int32) &&& 31))).toUInt32.toUInt16.toUInt32.toInt32) = c := by
 have a1 := c_ishr c 0 0 (by decide)
 have a2 := c_ishr c 8 8 (by decide)
 generalize hu : c >>> ((0 : Int32) &&& 31) = u at *
 generalize hv : c >>> ((8 : Int32) &&& 31) = v at *
 have b1 := c_i2b u
 have b2 := c_i2b v
 generalize u.toInt8.toInt32 = u1 at *
 generalize v.toInt8.toInt32 = v1 at *
 have d1 : (u1 &&& (255 : Int32)).toInt = u1.toInt % ((2 ^ 8 : Nat) : Int) := c_mask u1 255 8 (by decide) (by decide)
 have d2 : (v1 &&& (255 : Int32)).toInt = v1.toInt % ((2 ^ 8 : Nat) : Int) := c_mask v1 255 8 (by decide) (by decide)
 generalize u1 &&& (255 : Int32) = u2 at *
 generalize v1 &&& (255 : Int32) = v2 at *
 have e1 := c_ishl u2 0 0 (by decide)
 have e2 := c_ishl v2 8 8 (by decide)
 generalize u2 <<< ((0 : Int32) &&& 31) = u3 at *
 generalize v2 <<< ((8 : Int32) &&& 31) = v3 at *
 have r1 := rng32 u3; have r2 := rng32 v3
 have f1 := c_or' u3 v3 8 (by decide) 256 (by decide) (by omega) (by omega) (by omega)
 generalize u3 ||| v3 = w at *
 have r3 := rng32 w
 have g1 := c_i2c w
 generalize w.toUInt32.toUInt16.toUInt32.toInt32 = w1 at *
 have g2 := c_i2c w1
 exact Int32.toInt_inj.mp (by show w1.toUInt32.toUInt16.toUInt32.toInt32.toInt = c.toInt; omega)
theorem own_len45 (p1 len_ : Int32) (h : ((4 : Int32) + (p1 &&& (1 : Int32))) = len_) : len_ = 4 ∨ len_ = 5 := by
 have a1 : 0 ≤ (p1 &&& (1 : Int32)).toInt ∧ (p1 &&& (1 : Int32)).toInt ≤ 1 := c_and p1 1 (by decide)
 subst h
 generalize p1 &&& (1 : Int32) = x at *
 have : x = 0 ∨ x = 1 := by
  rcases (by omega : x.toInt = 0 ∨ x.toInt = 1) with q | q
  ·exact Or.inl (Int32.toInt_inj.mp (q.trans (by decide)))
  ·exact Or.inr (Int32.toInt_inj.mp (q.trans (by decide)))
 rcases this with rfl | rfl
 ·exact Or.inl (by decide)
 ·exact Or.inr (by decide)
theorem own_at (p1 at_ : Int32) (h : ((((p1.toUInt32 >>> ((1 : Int32) &&& 31).toUInt32).toInt32) &&& (7 : Int32)) % (7 : Int32)) = at_) : at_ = 0 ∨ at_ = 1 ∨ at_ = 2 ∨ at_ = 3 ∨ at_ = 4 ∨ at_ = 5 ∨ at_ = 6 := by
 generalize (p1.toUInt32 >>> ((1 : Int32) &&& 31).toUInt32).toInt32 = y at h
 have a1 : 0 ≤ (y &&& (7 : Int32)).toInt ∧ (y &&& (7 : Int32)).toInt ≤ 7 := c_and y 7 (by decide)
 generalize y &&& (7 : Int32) = x at *
 have : x = 0 ∨ x = 1 ∨ x = 2 ∨ x = 3 ∨ x = 4 ∨ x = 5 ∨ x = 6 ∨ x = 7 := by
  have q1 : ∀ k : Int32, x.toInt = k.toInt → x = k := fun k q => Int32.toInt_inj.mp q
  have : x.toInt = 0 ∨ x.toInt = 1 ∨ x.toInt = 2 ∨ x.toInt = 3 ∨ x.toInt = 4 ∨ x.toInt = 5 ∨ x.toInt = 6 ∨ x.toInt = 7 := by omega
  rcases this with q | q | q | q | q | q | q | q
  ·exact Or.inl (q1 0 q)
  ·exact Or.inr (Or.inl (q1 1 q))
  ·exact Or.inr (Or.inr (Or.inl (q1 2 q)))
  ·exact Or.inr (Or.inr (Or.inr (Or.inl (q1 3 q))))
  ·exact Or.inr (Or.inr (Or.inr (Or.inr (Or.inl (q1 4 q)))))
  ·exact Or.inr (Or.inr (Or.inr (Or.inr (Or.inr (Or.inl (q1 5 q))))))
  ·exact Or.inr (Or.inr (Or.inr (Or.inr (Or.inr (Or.inr (Or.inl (q1 6 q)))))))
  ·exact Or.inr (Or.inr (Or.inr (Or.inr (Or.inr (Or.inr (Or.inr (q1 7 q)))))))
 subst h
 rcases this with rfl | rfl | rfl | rfl | rfl | rfl | rfl | rfl <;> decide
theorem own_small {c k : Int32} {q0 : Int64} (h : c = (((((q0.toUInt64 >>> (k &&& 0x3f).toInt64.toUInt64).toInt64) &&& (255 : Int64)).toInt32).toUInt32.toUInt16.toUInt32.toInt32)) : c < 256 := by
 subst h
 generalize (q0.toUInt64 >>> (k &&& 0x3f).toInt64.toUInt64).toInt64 = u
 have d1 : (u &&& (255 : Int64)).toInt = u.toInt % ((2 ^ 8 : Nat) : Int) := c_maskL u 255 8 (by decide) (by decide)
 generalize u &&& (255 : Int64) = v at *
 have e1 := c_l2i v
 generalize v.toInt32 = w at *
 have r1 := rng32 w
 have f1 := c_i2c w
 exact Int32.lt_iff_toInt_lt.mpr (by show w.toUInt32.toUInt16.toUInt32.toInt32.toInt < 256; omega)
theorem own_byte (q0 : Int64) (k : Int32) (n : Nat) (hk : k.toBitVec.toNat % 64 = n) (h0 : 0 < n) : (((((q0.toUInt64 >>> (k &&& 0x3f).toInt64.toUInt64).toInt64) &&& (255 : Int64)).toInt32).toUInt32.toUInt16.toUInt32.toInt32).toInt = (q0.toInt % 18446744073709551616) / ((2 ^ n : Nat) : Int) % 256 := by
 have a1 := c_lushr q0 k n hk h0
 generalize (q0.toUInt64 >>> (k &&& 0x3f).toInt64.toUInt64).toInt64 = u at *
 have d1 : (u &&& (255 : Int64)).toInt = u.toInt % ((2 ^ 8 : Nat) : Int) := c_maskL u 255 8 (by decide) (by decide)
 generalize u &&& (255 : Int64) = v at *
 have e1 := c_l2i v
 generalize v.toInt32 = w at *
 have r1 := rng32 w
 have f1 := c_i2c w
 rw [← a1]
 generalize w.toUInt32.toUInt16.toUInt32.toInt32 = x at *
 omega
theorem own_hm (n m : Nat) : n &&& (m <<< 8) = ((n >>> 8) &&& m) <<< 8 := by
 apply Nat.eq_of_testBit_eq
 intro i
 rw [Nat.testBit_and, Nat.testBit_shiftLeft, Nat.testBit_shiftLeft, Nat.testBit_and, Nat.testBit_shiftRight]
 by_cases h : 8 ≤ i
 ·rw [show 8 + (i - 8) = i by omega]
  cases n.testBit i <;> simp
 ·simp [h]
theorem own_maskH (x m : Int64) (k : Nat) (hk : k ≤ 48) (hm : m.toBitVec.toNat = (2 ^ k - 1) <<< 8) : (x &&& m).toInt = (x.toInt % 18446744073709551616) / 256 % ((2 ^ k : Nat) : Int) * 256 := by
 have h1 : (x &&& m).toBitVec.toNat = x.toBitVec.toNat / 256 % 2 ^ k * 256 := by
  show (x.toBitVec &&& m.toBitVec).toNat = _
  rw [BitVec.toNat_and, hm, own_hm, Nat.and_two_pow_sub_one_eq_mod, Nat.shiftLeft_eq, Nat.shiftRight_eq_div_pow]
 have h2 := x.toBitVec.isLt
 have h4 : 2 ^ k ≤ 2 ^ 48 := Nat.pow_le_pow_right (by decide) hk
 have h5 : x.toBitVec.toNat / 256 % 2 ^ k < 2 ^ k := Nat.mod_lt _ (Nat.two_pow_pos k)
 have h6 : x.toInt % 18446744073709551616 = (x.toBitVec.toNat : Int) := by
  show x.toBitVec.toInt % _ = _
  rw [BitVec.toInt_eq_toNat_cond]
  split <;> omega
 rw [h6]
 show (x &&& m).toBitVec.toInt = _
 rw [BitVec.toInt_eq_toNat_cond, h1]
 generalize x.toBitVec.toNat = n at *
 have h7 : ((n / 256 % 2 ^ k : Nat) : Int) = (n : Int) / 256 % ((2 ^ k : Nat) : Int) := by rw [Int.natCast_emod, Int.natCast_ediv]; rfl
 rw [← h7]
 generalize n / 256 % 2 ^ k = z at *
 split <;> omega
theorem own_got4 {y13 y14 y15 : Int32} {q0 : Int64} (b13 : 0 ≤ y13.toInt ∧ y13.toInt < 65536) (s13 : y13 < 256) (b14 : 0 ≤ y14.toInt ∧ y14.toInt < 65536) (s14 : y14 < 256) (b15 : 0 ≤ y15.toInt ∧ y15.toInt < 65536) (s15 : y15 < 256) :
  (((((y13.toInt64) <<< ((8 : Int32) &&& 0x3f).toInt64) ||| ((y14.toInt64) <<< ((16 : Int32) &&& 0x3f).toInt64)) ||| ((y15.toInt64) <<< ((24 : Int32) &&& 0x3f).toInt64)) ||| (0 : Int64)) = (q0 &&& (4294967040 : Int64)) ↔
  (y13 = (((((q0.toUInt64 >>> ((8 : Int32) &&& 0x3f).toInt64.toUInt64).toInt64) &&& (255 : Int64)).toInt32).toUInt32.toUInt16.toUInt32.toInt32) ∧ y14 = (((((q0.toUInt64 >>> ((16 : Int32) &&& 0x3f).toInt64.toUInt64).toInt64) &&& (255 : Int64)).toInt32).toUInt32.toUInt16.toUInt32.toInt32) ∧ y15 = (((((q0.toUInt64 >>> ((24 : Int32) &&& 0x3f).toInt64.toUInt64).toInt64) &&& (255 : Int64)).toInt32).toUInt32.toUInt16.toUInt32.toInt32)) := by
 rw [Int64.or_zero, ← Int64.toInt_inj, own_maskH q0 4294967040 24 (by decide) (by decide), ← Int32.toInt_inj (x := y13), ← Int32.toInt_inj (x := y14), ← Int32.toInt_inj (x := y15), own_byte q0 8 8 (by decide) (by decide), own_byte q0 16 16 (by decide) (by decide), own_byte q0 24 24 (by decide) (by decide)]
 have s13 : y13.toInt < 256 := Int32.lt_iff_toInt_lt.mp s13
 have s14 : y14.toInt < 256 := Int32.lt_iff_toInt_lt.mp s14
 have s15 : y15.toInt < 256 := Int32.lt_iff_toInt_lt.mp s15
 have c1 := c_i2l y13; have c2 := c_i2l y14; have c3 := c_i2l y15
 have e1 := c_lshl y13.toInt64 8 8 (by decide)
 have e2 := c_lshl y14.toInt64 16 16 (by decide)
 have e3 := c_lshl y15.toInt64 24 24 (by decide)
 generalize y13.toInt64 <<< ((8 : Int32) &&& 0x3f).toInt64 = u1 at *
 generalize y14.toInt64 <<< ((16 : Int32) &&& 0x3f).toInt64 = u2 at *
 generalize y15.toInt64 <<< ((24 : Int32) &&& 0x3f).toInt64 = u3 at *
 have r1 := rng64 u1; have r2 := rng64 u2; have r3 := rng64 u3
 have f1 := c_orL' u1 u2 16 (by decide) 65536 (by decide) (by omega) (by omega) (by omega)
 generalize u1 ||| u2 = u4 at *
 have r4 := rng64 u4
 have f2 := c_orL' u4 u3 24 (by decide) 16777216 (by decide) (by omega) (by omega) (by omega)
 generalize u4 ||| u3 = u5 at *
 have r5 := rng64 u5
 generalize q0.toInt % 18446744073709551616 = N at *
 have g1 : u5.toInt = y13.toInt * 256 + y14.toInt * 65536 + y15.toInt * 16777216 := by omega
 rw [g1]
 have p1 : ((2 ^ 8 : Nat) : Int) = 256 := by decide
 have p2 : ((2 ^ 16 : Nat) : Int) = 65536 := by decide
 have p3 : ((2 ^ 24 : Nat) : Int) = 16777216 := by decide
 rw [p1, p2, p3]
 clear e1 e2 e3 f1 f2 r1 r2 r3 r4 r5 c1 c2 c3 g1 p1 p2 p3
 omega
theorem own_got5 {y13 y14 y15 y16 : Int32} {q0 : Int64} (b13 : 0 ≤ y13.toInt ∧ y13.toInt < 65536) (s13 : y13 < 256) (b14 : 0 ≤ y14.toInt ∧ y14.toInt < 65536) (s14 : y14 < 256) (b15 : 0 ≤ y15.toInt ∧ y15.toInt < 65536) (s15 : y15 < 256) (b16 : 0 ≤ y16.toInt ∧ y16.toInt < 65536) (s16 : y16 < 256) :
  (((((y13.toInt64) <<< ((8 : Int32) &&& 0x3f).toInt64) ||| ((y14.toInt64) <<< ((16 : Int32) &&& 0x3f).toInt64)) ||| ((y15.toInt64) <<< ((24 : Int32) &&& 0x3f).toInt64)) ||| ((y16.toInt64) <<< ((32 : Int32) &&& 0x3f).toInt64)) = (q0 &&& (1099511627520 : Int64)) ↔
  (y13 = (((((q0.toUInt64 >>> ((8 : Int32) &&& 0x3f).toInt64.toUInt64).toInt64) &&& (255 : Int64)).toInt32).toUInt32.toUInt16.toUInt32.toInt32) ∧ y14 = (((((q0.toUInt64 >>> ((16 : Int32) &&& 0x3f).toInt64.toUInt64).toInt64) &&& (255 : Int64)).toInt32).toUInt32.toUInt16.toUInt32.toInt32) ∧ y15 = (((((q0.toUInt64 >>> ((24 : Int32) &&& 0x3f).toInt64.toUInt64).toInt64) &&& (255 : Int64)).toInt32).toUInt32.toUInt16.toUInt32.toInt32) ∧ y16 = (((((q0.toUInt64 >>> ((32 : Int32) &&& 0x3f).toInt64.toUInt64).toInt64) &&& (255 : Int64)).toInt32).toUInt32.toUInt16.toUInt32.toInt32)) := by
 rw [← Int64.toInt_inj, own_maskH q0 1099511627520 32 (by decide) (by decide), ← Int32.toInt_inj (x := y13), ← Int32.toInt_inj (x := y14), ← Int32.toInt_inj (x := y15), ← Int32.toInt_inj (x := y16), own_byte q0 8 8 (by decide) (by decide), own_byte q0 16 16 (by decide) (by decide), own_byte q0 24 24 (by decide) (by decide), own_byte q0 32 32 (by decide) (by decide)]
 have s13 : y13.toInt < 256 := Int32.lt_iff_toInt_lt.mp s13
 have s14 : y14.toInt < 256 := Int32.lt_iff_toInt_lt.mp s14
 have s15 : y15.toInt < 256 := Int32.lt_iff_toInt_lt.mp s15
 have s16 : y16.toInt < 256 := Int32.lt_iff_toInt_lt.mp s16
 have c1 := c_i2l y13; have c2 := c_i2l y14; have c3 := c_i2l y15; have c4 := c_i2l y16
 have e1 := c_lshl y13.toInt64 8 8 (by decide)
 have e2 := c_lshl y14.toInt64 16 16 (by decide)
 have e3 := c_lshl y15.toInt64 24 24 (by decide)
 have e4 := c_lshl y16.toInt64 32 32 (by decide)
 generalize y13.toInt64 <<< ((8 : Int32) &&& 0x3f).toInt64 = u1 at *
 generalize y14.toInt64 <<< ((16 : Int32) &&& 0x3f).toInt64 = u2 at *
 generalize y15.toInt64 <<< ((24 : Int32) &&& 0x3f).toInt64 = u3 at *
 generalize y16.toInt64 <<< ((32 : Int32) &&& 0x3f).toInt64 = u6 at *
 have r1 := rng64 u1; have r2 := rng64 u2; have r3 := rng64 u3; have r6 := rng64 u6
 have f1 := c_orL' u1 u2 16 (by decide) 65536 (by decide) (by omega) (by omega) (by omega)
 generalize u1 ||| u2 = u4 at *
 have r4 := rng64 u4
 have f2 := c_orL' u4 u3 24 (by decide) 16777216 (by decide) (by omega) (by omega) (by omega)
 generalize u4 ||| u3 = u5 at *
 have r5 := rng64 u5
 have f3 := c_orL' u5 u6 32 (by decide) 4294967296 (by decide) (by omega) (by omega) (by omega)
 generalize u5 ||| u6 = u7 at *
 have r7 := rng64 u7
 generalize q0.toInt % 18446744073709551616 = N at *
 have g1 : u7.toInt = y13.toInt * 256 + y14.toInt * 65536 + y15.toInt * 16777216 + y16.toInt * 4294967296 := by omega
 rw [g1]
 have p1 : ((2 ^ 8 : Nat) : Int) = 256 := by decide
 have p2 : ((2 ^ 16 : Nat) : Int) = 65536 := by decide
 have p3 : ((2 ^ 24 : Nat) : Int) = 16777216 := by decide
 have p4 : ((2 ^ 32 : Nat) : Int) = 4294967296 := by decide
 rw [p1, p2, p3, p4]
 clear e1 e2 e3 e4 f1 f2 f3 r1 r2 r3 r4 r5 r6 r7 c1 c2 c3 c4 g1 p1 p2 p3 p4
 omega
theorem own_l1 {c : Int32} (h : 0 ≤ c.toInt ∧ c.toInt < 65536) (hk : ¬ (255 : Int32) < c) : nar .char (((c.toInt8.toInt32) &&& (255 : Int32)).toUInt32.toUInt16.toUInt32.toInt32) = c := by
 have hk' : ¬ (255 : Int) < c.toInt := fun q => hk (Int32.lt_iff_toInt_lt.mpr q)
 have b1 := c_i2b c
 generalize c.toInt8.toInt32 = u1 at *
 have d1 : (u1 &&& (255 : Int32)).toInt = u1.toInt % ((2 ^ 8 : Nat) : Int) := c_mask u1 255 8 (by decide) (by decide)
 generalize u1 &&& (255 : Int32) = u2 at *
 have g1 := c_i2c u2
 generalize u2.toUInt32.toUInt16.toUInt32.toInt32 = w1 at *
 have g2 := c_i2c w1
 exact Int32.toInt_inj.mp (by show w1.toUInt32.toUInt16.toUInt32.toInt32.toInt = c.toInt; omega)
theorem own_ex1 {x : Int32} {P : Prop} (h : (x = 1 ∧ P) ∨ (x = 0 ∧ ¬ P)) (hP : P) : x = 1 := h.elim (fun q => q.1) (fun q => absurd hP q.2)
theorem own_ex0 {x : Int32} {P : Prop} (h : (x = 1 ∧ P) ∨ (x = 0 ∧ ¬ P)) (hP : ¬ P) : x = 0 := h.elim (fun q => absurd q.2 hP) (fun q => q.1)
theorem own_off {x : Int32} : ((0 : Int32) + x).toInt64 = x.toInt64 := by rw [Int32.zero_add]
def own_spec (c0_ c1_ c2_ c3_ c4_ c5_ c6_ : Int32) (q0 : Int64) (at_ len_ : Int32) : Prop :=
 if len_ = 4 then (if at_ = 0 then (c1_ = (((((q0.toUInt64 >>> ((8 : Int32) &&& 0x3f).toInt64.toUInt64).toInt64) &&& (255 : Int64)).toInt32).toUInt32.toUInt16.toUInt32.toInt32) ∧ c2_ = (((((q0.toUInt64 >>> ((16 : Int32) &&& 0x3f).toInt64.toUInt64).toInt64) &&& (255 : Int64)).toInt32).toUInt32.toUInt16.toUInt32.toInt32) ∧ c3_ = (((((q0.toUInt64 >>> ((24 : Int32) &&& 0x3f).toInt64.toUInt64).toInt64) &&& (255 : Int64)).toInt32).toUInt32.toUInt16.toUInt32.toInt32)) else if at_ = 1 then (c2_ = (((((q0.toUInt64 >>> ((8 : Int32) &&& 0x3f).toInt64.toUInt64).toInt64) &&& (255 : Int64)).toInt32).toUInt32.toUInt16.toUInt32.toInt32) ∧ c3_ = (((((q0.toUInt64 >>> ((16 : Int32) &&& 0x3f).toInt64.toUInt64).toInt64) &&& (255 : Int64)).toInt32).toUInt32.toUInt16.toUInt32.toInt32) ∧ c4_ = (((((q0.toUInt64 >>> ((24 : Int32) &&& 0x3f).toInt64.toUInt64).toInt64) &&& (255 : Int64)).toInt32).toUInt32.toUInt16.toUInt32.toInt32)) else if at_ = 2 then (c3_ = (((((q0.toUInt64 >>> ((8 : Int32) &&& 0x3f).toInt64.toUInt64).toInt64) &&& (255 : Int64)).toInt32).toUInt32.toUInt16.toUInt32.toInt32) ∧ c4_ = (((((q0.toUInt64 >>> ((16 : Int32) &&& 0x3f).toInt64.toUInt64).toInt64) &&& (255 : Int64)).toInt32).toUInt32.toUInt16.toUInt32.toInt32) ∧ c5_ = (((((q0.toUInt64 >>> ((24 : Int32) &&& 0x3f).toInt64.toUInt64).toInt64) &&& (255 : Int64)).toInt32).toUInt32.toUInt16.toUInt32.toInt32)) else if at_ = 3 then (c4_ = (((((q0.toUInt64 >>> ((8 : Int32) &&& 0x3f).toInt64.toUInt64).toInt64) &&& (255 : Int64)).toInt32).toUInt32.toUInt16.toUInt32.toInt32) ∧ c5_ = (((((q0.toUInt64 >>> ((16 : Int32) &&& 0x3f).toInt64.toUInt64).toInt64) &&& (255 : Int64)).toInt32).toUInt32.toUInt16.toUInt32.toInt32) ∧ c6_ = (((((q0.toUInt64 >>> ((24 : Int32) &&& 0x3f).toInt64.toUInt64).toInt64) &&& (255 : Int64)).toInt32).toUInt32.toUInt16.toUInt32.toInt32)) else if at_ = 4 then (False) else if at_ = 5 then (False) else (False)) else (if at_ = 0 then (c1_ = (((((q0.toUInt64 >>> ((8 : Int32) &&& 0x3f).toInt64.toUInt64).toInt64) &&& (255 : Int64)).toInt32).toUInt32.toUInt16.toUInt32.toInt32) ∧ c2_ = (((((q0.toUInt64 >>> ((16 : Int32) &&& 0x3f).toInt64.toUInt64).toInt64) &&& (255 : Int64)).toInt32).toUInt32.toUInt16.toUInt32.toInt32) ∧ c3_ = (((((q0.toUInt64 >>> ((24 : Int32) &&& 0x3f).toInt64.toUInt64).toInt64) &&& (255 : Int64)).toInt32).toUInt32.toUInt16.toUInt32.toInt32) ∧ c4_ = (((((q0.toUInt64 >>> ((32 : Int32) &&& 0x3f).toInt64.toUInt64).toInt64) &&& (255 : Int64)).toInt32).toUInt32.toUInt16.toUInt32.toInt32)) else if at_ = 1 then (c2_ = (((((q0.toUInt64 >>> ((8 : Int32) &&& 0x3f).toInt64.toUInt64).toInt64) &&& (255 : Int64)).toInt32).toUInt32.toUInt16.toUInt32.toInt32) ∧ c3_ = (((((q0.toUInt64 >>> ((16 : Int32) &&& 0x3f).toInt64.toUInt64).toInt64) &&& (255 : Int64)).toInt32).toUInt32.toUInt16.toUInt32.toInt32) ∧ c4_ = (((((q0.toUInt64 >>> ((24 : Int32) &&& 0x3f).toInt64.toUInt64).toInt64) &&& (255 : Int64)).toInt32).toUInt32.toUInt16.toUInt32.toInt32) ∧ c5_ = (((((q0.toUInt64 >>> ((32 : Int32) &&& 0x3f).toInt64.toUInt64).toInt64) &&& (255 : Int64)).toInt32).toUInt32.toUInt16.toUInt32.toInt32)) else if at_ = 2 then (c3_ = (((((q0.toUInt64 >>> ((8 : Int32) &&& 0x3f).toInt64.toUInt64).toInt64) &&& (255 : Int64)).toInt32).toUInt32.toUInt16.toUInt32.toInt32) ∧ c4_ = (((((q0.toUInt64 >>> ((16 : Int32) &&& 0x3f).toInt64.toUInt64).toInt64) &&& (255 : Int64)).toInt32).toUInt32.toUInt16.toUInt32.toInt32) ∧ c5_ = (((((q0.toUInt64 >>> ((24 : Int32) &&& 0x3f).toInt64.toUInt64).toInt64) &&& (255 : Int64)).toInt32).toUInt32.toUInt16.toUInt32.toInt32) ∧ c6_ = (((((q0.toUInt64 >>> ((32 : Int32) &&& 0x3f).toInt64.toUInt64).toInt64) &&& (255 : Int64)).toInt32).toUInt32.toUInt16.toUInt32.toInt32)) else if at_ = 3 then (False) else if at_ = 4 then (False) else if at_ = 5 then (False) else (False))
theorem own_spec_0_4 (c0_ c1_ c2_ c3_ c4_ c5_ c6_ : Int32) (q0 : Int64) : own_spec c0_ c1_ c2_ c3_ c4_ c5_ c6_ q0 0 4 ↔ (c1_ = (((((q0.toUInt64 >>> ((8 : Int32) &&& 0x3f).toInt64.toUInt64).toInt64) &&& (255 : Int64)).toInt32).toUInt32.toUInt16.toUInt32.toInt32) ∧ c2_ = (((((q0.toUInt64 >>> ((16 : Int32) &&& 0x3f).toInt64.toUInt64).toInt64) &&& (255 : Int64)).toInt32).toUInt32.toUInt16.toUInt32.toInt32) ∧ c3_ = (((((q0.toUInt64 >>> ((24 : Int32) &&& 0x3f).toInt64.toUInt64).toInt64) &&& (255 : Int64)).toInt32).toUInt32.toUInt16.toUInt32.toInt32)) := by
 unfold own_spec
 simp
theorem own_spec_1_4 (c0_ c1_ c2_ c3_ c4_ c5_ c6_ : Int32) (q0 : Int64) : own_spec c0_ c1_ c2_ c3_ c4_ c5_ c6_ q0 1 4 ↔ (c2_ = (((((q0.toUInt64 >>> ((8 : Int32) &&& 0x3f).toInt64.toUInt64).toInt64) &&& (255 : Int64)).toInt32).toUInt32.toUInt16.toUInt32.toInt32) ∧ c3_ = (((((q0.toUInt64 >>> ((16 : Int32) &&& 0x3f).toInt64.toUInt64).toInt64) &&& (255 : Int64)).toInt32).toUInt32.toUInt16.toUInt32.toInt32) ∧ c4_ = (((((q0.toUInt64 >>> ((24 : Int32) &&& 0x3f).toInt64.toUInt64).toInt64) &&& (255 : Int64)).toInt32).toUInt32.toUInt16.toUInt32.toInt32)) := by
 unfold own_spec
 simp
theorem own_spec_2_4 (c0_ c1_ c2_ c3_ c4_ c5_ c6_ : Int32) (q0 : Int64) : own_spec c0_ c1_ c2_ c3_ c4_ c5_ c6_ q0 2 4 ↔ (c3_ = (((((q0.toUInt64 >>> ((8 : Int32) &&& 0x3f).toInt64.toUInt64).toInt64) &&& (255 : Int64)).toInt32).toUInt32.toUInt16.toUInt32.toInt32) ∧ c4_ = (((((q0.toUInt64 >>> ((16 : Int32) &&& 0x3f).toInt64.toUInt64).toInt64) &&& (255 : Int64)).toInt32).toUInt32.toUInt16.toUInt32.toInt32) ∧ c5_ = (((((q0.toUInt64 >>> ((24 : Int32) &&& 0x3f).toInt64.toUInt64).toInt64) &&& (255 : Int64)).toInt32).toUInt32.toUInt16.toUInt32.toInt32)) := by
 unfold own_spec
 simp
theorem own_spec_3_4 (c0_ c1_ c2_ c3_ c4_ c5_ c6_ : Int32) (q0 : Int64) : own_spec c0_ c1_ c2_ c3_ c4_ c5_ c6_ q0 3 4 ↔ (c4_ = (((((q0.toUInt64 >>> ((8 : Int32) &&& 0x3f).toInt64.toUInt64).toInt64) &&& (255 : Int64)).toInt32).toUInt32.toUInt16.toUInt32.toInt32) ∧ c5_ = (((((q0.toUInt64 >>> ((16 : Int32) &&& 0x3f).toInt64.toUInt64).toInt64) &&& (255 : Int64)).toInt32).toUInt32.toUInt16.toUInt32.toInt32) ∧ c6_ = (((((q0.toUInt64 >>> ((24 : Int32) &&& 0x3f).toInt64.toUInt64).toInt64) &&& (255 : Int64)).toInt32).toUInt32.toUInt16.toUInt32.toInt32)) := by
 unfold own_spec
 simp
theorem own_spec_4_4 (c0_ c1_ c2_ c3_ c4_ c5_ c6_ : Int32) (q0 : Int64) : own_spec c0_ c1_ c2_ c3_ c4_ c5_ c6_ q0 4 4 ↔ (False) := by
 unfold own_spec
 simp
theorem own_spec_5_4 (c0_ c1_ c2_ c3_ c4_ c5_ c6_ : Int32) (q0 : Int64) : own_spec c0_ c1_ c2_ c3_ c4_ c5_ c6_ q0 5 4 ↔ (False) := by
 unfold own_spec
 simp
theorem own_spec_6_4 (c0_ c1_ c2_ c3_ c4_ c5_ c6_ : Int32) (q0 : Int64) : own_spec c0_ c1_ c2_ c3_ c4_ c5_ c6_ q0 6 4 ↔ (False) := by
 unfold own_spec
 simp
theorem own_spec_0_5 (c0_ c1_ c2_ c3_ c4_ c5_ c6_ : Int32) (q0 : Int64) : own_spec c0_ c1_ c2_ c3_ c4_ c5_ c6_ q0 0 5 ↔ (c1_ = (((((q0.toUInt64 >>> ((8 : Int32) &&& 0x3f).toInt64.toUInt64).toInt64) &&& (255 : Int64)).toInt32).toUInt32.toUInt16.toUInt32.toInt32) ∧ c2_ = (((((q0.toUInt64 >>> ((16 : Int32) &&& 0x3f).toInt64.toUInt64).toInt64) &&& (255 : Int64)).toInt32).toUInt32.toUInt16.toUInt32.toInt32) ∧ c3_ = (((((q0.toUInt64 >>> ((24 : Int32) &&& 0x3f).toInt64.toUInt64).toInt64) &&& (255 : Int64)).toInt32).toUInt32.toUInt16.toUInt32.toInt32) ∧ c4_ = (((((q0.toUInt64 >>> ((32 : Int32) &&& 0x3f).toInt64.toUInt64).toInt64) &&& (255 : Int64)).toInt32).toUInt32.toUInt16.toUInt32.toInt32)) := by
 unfold own_spec
 simp
theorem own_spec_1_5 (c0_ c1_ c2_ c3_ c4_ c5_ c6_ : Int32) (q0 : Int64) : own_spec c0_ c1_ c2_ c3_ c4_ c5_ c6_ q0 1 5 ↔ (c2_ = (((((q0.toUInt64 >>> ((8 : Int32) &&& 0x3f).toInt64.toUInt64).toInt64) &&& (255 : Int64)).toInt32).toUInt32.toUInt16.toUInt32.toInt32) ∧ c3_ = (((((q0.toUInt64 >>> ((16 : Int32) &&& 0x3f).toInt64.toUInt64).toInt64) &&& (255 : Int64)).toInt32).toUInt32.toUInt16.toUInt32.toInt32) ∧ c4_ = (((((q0.toUInt64 >>> ((24 : Int32) &&& 0x3f).toInt64.toUInt64).toInt64) &&& (255 : Int64)).toInt32).toUInt32.toUInt16.toUInt32.toInt32) ∧ c5_ = (((((q0.toUInt64 >>> ((32 : Int32) &&& 0x3f).toInt64.toUInt64).toInt64) &&& (255 : Int64)).toInt32).toUInt32.toUInt16.toUInt32.toInt32)) := by
 unfold own_spec
 simp
theorem own_spec_2_5 (c0_ c1_ c2_ c3_ c4_ c5_ c6_ : Int32) (q0 : Int64) : own_spec c0_ c1_ c2_ c3_ c4_ c5_ c6_ q0 2 5 ↔ (c3_ = (((((q0.toUInt64 >>> ((8 : Int32) &&& 0x3f).toInt64.toUInt64).toInt64) &&& (255 : Int64)).toInt32).toUInt32.toUInt16.toUInt32.toInt32) ∧ c4_ = (((((q0.toUInt64 >>> ((16 : Int32) &&& 0x3f).toInt64.toUInt64).toInt64) &&& (255 : Int64)).toInt32).toUInt32.toUInt16.toUInt32.toInt32) ∧ c5_ = (((((q0.toUInt64 >>> ((24 : Int32) &&& 0x3f).toInt64.toUInt64).toInt64) &&& (255 : Int64)).toInt32).toUInt32.toUInt16.toUInt32.toInt32) ∧ c6_ = (((((q0.toUInt64 >>> ((32 : Int32) &&& 0x3f).toInt64.toUInt64).toInt64) &&& (255 : Int64)).toInt32).toUInt32.toUInt16.toUInt32.toInt32)) := by
 unfold own_spec
 simp
theorem own_spec_3_5 (c0_ c1_ c2_ c3_ c4_ c5_ c6_ : Int32) (q0 : Int64) : own_spec c0_ c1_ c2_ c3_ c4_ c5_ c6_ q0 3 5 ↔ (False) := by
 unfold own_spec
 simp
theorem own_spec_4_5 (c0_ c1_ c2_ c3_ c4_ c5_ c6_ : Int32) (q0 : Int64) : own_spec c0_ c1_ c2_ c3_ c4_ c5_ c6_ q0 4 5 ↔ (False) := by
 unfold own_spec
 simp
theorem own_spec_5_5 (c0_ c1_ c2_ c3_ c4_ c5_ c6_ : Int32) (q0 : Int64) : own_spec c0_ c1_ c2_ c3_ c4_ c5_ c6_ q0 5 5 ↔ (False) := by
 unfold own_spec
 simp
theorem own_spec_6_5 (c0_ c1_ c2_ c3_ c4_ c5_ c6_ : Int32) (q0 : Int64) : own_spec c0_ c1_ c2_ c3_ c4_ c5_ c6_ q0 6 5 ↔ (False) := by
 unfold own_spec
 simp
def own_in7 (x : Int32) : Prop := x = 0 ∨ x = 1 ∨ x = 2 ∨ x = 3 ∨ x = 4 ∨ x = 5 ∨ x = 6
def own_sel (c0_ c1_ c2_ c3_ c4_ c5_ c6_ x : Int32) : Int32 := if x = 0 then c0_ else if x = 1 then c1_ else if x = 2 then c2_ else if x = 3 then c3_ else if x = 4 then c4_ else if x = 5 then c5_ else c6_
theorem own_ix7 {x : Int32} (h : own_in7 x) : ¬ x = 7 := by
 rcases h with rfl | rfl | rfl | rfl | rfl | rfl | rfl <;> decide
def own_lat (c0_ c1_ c2_ c3_ c4_ c5_ c6_ : Int32) : Prop := ¬ (255 : Int32) < c0_ ∧ ¬ (255 : Int32) < c1_ ∧ ¬ (255 : Int32) < c2_ ∧ ¬ (255 : Int32) < c3_ ∧ ¬ (255 : Int32) < c4_ ∧ ¬ (255 : Int32) < c5_ ∧ ¬ (255 : Int32) < c6_
def GlobF (Z : State) (G1 : Int32) (G3 : Value) : Prop := Sta Z Z.heap "java/lang/String" "COMPACT_STRINGS" "Z" (.int G1) ∧ ¬ G1 = (0 : Int32) ∧ Sta Z Z.heap "java/lang/StringUTF16" "$assertionsDisabled" "Z" (.int 1) ∧
 Sta Z Z.heap "java/lang/StringUTF16" "HI_BYTE_SHIFT" "I" (.int 0) ∧ Sta Z Z.heap "java/lang/StringUTF16" "LO_BYTE_SHIFT" "I" (.int 8) ∧ Sta Z Z.heap "jdk/internal/util/Preconditions" "SIOOBE_FORMATTER" "Ljava/util/function/BiFunction;" G3 ∧ G3.isRef = true
theorem d1_0 : decode method_2_code 0 = .ok (.iload_n 0, 1) := by decide +kernel
theorem d1_1 : decode method_2_code 1 = .ok (.iload_n 1, 1) := by decide +kernel
theorem d1_2 : decode method_2_code 2 = .ok (.isub, 1) := by decide +kernel
theorem d1_3 : decode method_2_code 3 = .ok (.istore 7, 2) := by decide +kernel
theorem d1_5 : decode method_2_code 5 = .ok (.iload 4, 2) := by decide +kernel
theorem d1_7 : decode method_2_code 7 = .ok (.iload_n 0, 1) := by decide +kernel
theorem d1_8 : decode method_2_code 8 = .ok (.iushr, 1) := by decide +kernel
theorem d1_9 : decode method_2_code 9 = .ok (.iconst 1, 1) := by decide +kernel
theorem d1_10 : decode method_2_code 10 = .ok (.iand, 1) := by decide +kernel
theorem d1_11 : decode method_2_code 11 = .ok (.ifCond .eq 29, 3) := by decide +kernel
theorem d1_14 : decode method_2_code 14 = .ok (.iload 7, 2) := by decide +kernel
theorem d1_16 : decode method_2_code 16 = .ok (.iconst 1, 1) := by decide +kernel
theorem d1_17 : decode method_2_code 17 = .ok (.if_icmp .lt 23, 3) := by decide +kernel
theorem d1_20 : decode method_2_code 20 = .ok (.iload 7, 2) := by decide +kernel
theorem d1_22 : decode method_2_code 22 = .ok (.iconst 4, 1) := by decide +kernel
theorem d1_23 : decode method_2_code 23 = .ok (.if_icmp .gt 17, 3) := by decide +kernel
theorem d1_26 : decode method_2_code 26 = .ok (.lload_n 2, 1) := by decide +kernel
theorem d1_27 : decode method_2_code 27 = .ok (.bipush 8, 2) := by decide +kernel
theorem d1_29 : decode method_2_code 29 = .ok (.iload 7, 2) := by decide +kernel
theorem d1_31 : decode method_2_code 31 = .ok (.imul, 1) := by decide +kernel
theorem d1_32 : decode method_2_code 32 = .ok (.lushr, 1) := by decide +kernel
theorem d1_33 : decode method_2_code 33 = .ok (.ldc2_w 7, 3) := by decide +kernel
theorem d1_36 : decode method_2_code 36 = .ok (.land, 1) := by decide +kernel
theorem d1_37 : decode method_2_code 37 = .ok (.l2i, 1) := by decide +kernel
theorem d1_38 : decode method_2_code 38 = .ok (.i2c, 1) := by decide +kernel
theorem d1_39 : decode method_2_code 39 = .ok (.ireturn, 1) := by decide +kernel
theorem d1_40 : decode method_2_code 40 = .ok (.lload 5, 2) := by decide +kernel
theorem d1_42 : decode method_2_code 42 = .ok (.l2i, 1) := by decide +kernel
theorem d1_43 : decode method_2_code 43 = .ok (.i2c, 1) := by decide +kernel
theorem d1_44 : decode method_2_code 44 = .ok (.ireturn, 1) := by decide +kernel
theorem pn1 : plainName "com/example/ratatoskr/ratatoskr/core/internal/StringInputSkipWordPinLaw" = true := by first | (simp [plainName, overriddenIn]; done) | decide +kernel
theorem ef1 (m : MethodId) (p0 : Int32) (p1 : Int32) (q2 : Int64) (p3 : Int32) (q4 : Int64) : entryFrame m #[(.int p0), (.int p1), (.long q2), (.int p3), (.long q4)] 8 = mkF m 0 #[.val (.int p0), .val (.int p1), .val (.long q2), .second, .val (.int p3), .val (.long q4), .second, .unset] [] := by first | (simp [entryFrame, mkF, argsToLocals, Value.category]; done) | rfl
set_option maxRecDepth 65536 in
set_option maxHeartbeats 40000000 in
theorem rmP (l : Launch) (Z : State) (a0 : Array Value) (hw : ∀ d ∈ tables_1, d.before a0 Z = true) (ws : List Jvm.Cond) (n0 : Nat) (h0 : Heap) (O0 : Old Z n0 h0) (p0 : Int32) (p1 : Int32) (q2 : Int64) (p3 : Int32) (q4 : Int64)  :
  Meets1 l ym0 method_2_code 8 (some .char) ws ({ frames := 0, cells := 0, slots := 0, locals := 0 } : Room) #[(.int p0), (.int p1), (.long q2), (.int p3), (.long q4)] Z h0 (fun v h L => ∃ r : Int32, v = some (.int r) ∧ Fr n0 L ∧ h = h0 ∧ 0 ≤ r.toInt ∧ r.toInt < 65536) := by
 refine MetFree.of_bodySF (plainFor_of_name pn1) hisR ?_
 intro p e s m args below meth c s₁ Bd hml0 hP hK
 obtain ⟨rfl, hZ, hh⟩ := hP
 have hx := Bd.exec
 have hby := Bd.bytes
 have hml : c.maxLocals = 8 := hml0
 have hown : s.vm.findClass "com/example/ratatoskr/ratatoskr/core/internal/StringInputSkipWordPinLaw" = some m.cls := findClass_of_methodNamed Bd.named
 have hnm := (name_of_methodNamed Bd.named Bd.method).1
 have X0 : Stand p l e ({ frames := 0, cells := 0, slots := 0, locals := 0 } : Room) s m #[(.int p0), (.int p1), (.long q2), (.int p3), (.long q4)] below meth c s₁ [] 0 0 := Stand.of_body Bd
 have e0 : s₁.heap = h0 := by rw [← hh, Bd.state]; rfl
 have N0 := Fr.nil n0
 have Z0 := own_old_le O0
 show Ends _ _ _ _ s₁ (entryFrame m #[(.int p0), (.int p1), (.long q2), (.int p3), (.long q4)] 8) ({ frames := 0, cells := 0, slots := 0, locals := 0 } : Room).cells ({ frames := 0, cells := 0, slots := 0, locals := 0 } : Room).slots (fun v h L => ∃ r : Int32, v = some (.int r) ∧ Fr n0 L ∧ h = h0 ∧ 0 ≤ r.toInt ∧ r.toInt < 65536)
 refine Ends.go (fun _ k => castTop (ef1 m p0 p1 q2 p3 q4) k) ?_
 have K0 := Keep.refl h0 []
 refine wilN X0 hx hby d1_0 rfl ?_
 refine wilN X0 hx hby d1_1 rfl ?_
 refine wis X0 hx hby d1_2 ?_
 refine wst X0 hx hby d1_3 (l' := #[ci p0, ci p1, cj q2, cs, ci p3, cj q4, cs, ci (p0 - p1)]) rfl ?_
 show Ends _ _ _ _ s₁ (mkF m 5 #[ci p0, ci p1, cj q2, cs, ci p3, cj q4, cs, ci (p0 - p1)] []) _ _ _
 refine wil X0 hx hby d1_5 rfl ?_
 refine wilN X0 hx hby d1_7 rfl ?_
 refine .go (fun _ => XS.iushr X0.here hx rfl (hb hby d1_8) rfl) ?_
 refine wic X0 hx hby d1_9 ?_
 refine wan X0 hx hby d1_10 ?_
 show Ends _ _ _ _ s₁ (mkF m 11 #[ci p0, ci p1, cj q2, cs, ci p3, cj q4, cs, ci (p0 - p1)] [(.int (((p3.toUInt32 >>> (p0 &&& 31).toUInt32).toInt32) &&& (1 : Int32)))]) _ _ _
 by_cases hc11_1 : (((p3.toUInt32 >>> (p0 &&& 31).toUInt32).toInt32) &&& (1 : Int32)) = (0 : Int32)
 ·refine wiy (pc := 11) (pc' := 40) X0 hx hby d1_11 ((if0 _ _).trans (teq hc11_1).1) (by decide) (by decide) ?_
  refine .go (fun _ => XS.lload X0.here hx rfl (hb hby d1_40) rfl) ?_
  refine .go (fun _ => XS.l2i X0.here hx rfl (hb hby d1_42) rfl) ?_
  refine .go (fun _ => XS.i2c X0.here hx rfl (hb hby d1_43) rfl) ?_
  refine Ends.retZ X0 hx Bd.notSynchronized (t := .char) Bd.returns (by simp) (hb hby d1_44) (by decide) (by decide) ?_
  exact ⟨_, rfl, N0, e0, own_narrng _⟩
 ·refine win X0 hx hby d1_11 ((if0 _ _).trans (feq hc11_1).1) ?_
  show Ends _ _ _ _ s₁ (mkF m 14 #[ci p0, ci p1, cj q2, cs, ci p3, cj q4, cs, ci (p0 - p1)] []) _ _ _
  refine wil X0 hx hby d1_14 rfl ?_
  refine wic X0 hx hby d1_16 ?_
  by_cases hc17_2 : (p0 - p1) < (1 : Int32)
  ·refine wcy (pc := 17) (pc' := 40) X0 hx hby d1_17 (tlt hc17_2).1 (by decide) (by decide) ?_
   refine .go (fun _ => XS.lload X0.here hx rfl (hb hby d1_40) rfl) ?_
   refine .go (fun _ => XS.l2i X0.here hx rfl (hb hby d1_42) rfl) ?_
   show Ends _ _ _ _ s₁ (mkF m 43 #[ci p0, ci p1, cj q2, cs, ci p3, cj q4, cs, ci (p0 - p1)] [(.int (q4.toInt32))]) _ _ _
   refine .go (fun _ => XS.i2c X0.here hx rfl (hb hby d1_43) rfl) ?_
   refine Ends.retZ X0 hx Bd.notSynchronized (t := .char) Bd.returns (by simp) (hb hby d1_44) (by decide) (by decide) ?_
   exact ⟨_, rfl, N0, e0, own_narrng _⟩
  ·refine wcn X0 hx hby d1_17 (flt hc17_2).1 ?_
   refine wil X0 hx hby d1_20 rfl ?_
   refine wic X0 hx hby d1_22 ?_
   by_cases hc23_3 : (4 : Int32) < (p0 - p1)
   ·refine wcy (pc := 23) (pc' := 40) X0 hx hby d1_23 (tlt hc23_3).2.2.1 (by decide) (by decide) ?_
    show Ends _ _ _ _ s₁ (mkF m 40 #[ci p0, ci p1, cj q2, cs, ci p3, cj q4, cs, ci (p0 - p1)] []) _ _ _
    refine .go (fun _ => XS.lload X0.here hx rfl (hb hby d1_40) rfl) ?_
    refine .go (fun _ => XS.l2i X0.here hx rfl (hb hby d1_42) rfl) ?_
    refine .go (fun _ => XS.i2c X0.here hx rfl (hb hby d1_43) rfl) ?_
    refine Ends.retZ X0 hx Bd.notSynchronized (t := .char) Bd.returns (by simp) (hb hby d1_44) (by decide) (by decide) ?_
    exact ⟨_, rfl, N0, e0, own_narrng _⟩
   ·refine wcn X0 hx hby d1_23 (flt hc23_3).2.2.1 ?_
    refine .go (fun _ => XS.lloadN X0.here hx rfl (hb hby d1_26) rfl) ?_
    show Ends _ _ _ _ s₁ (mkF m 27 #[ci p0, ci p1, cj q2, cs, ci p3, cj q4, cs, ci (p0 - p1)] [(.long q2)]) _ _ _
    refine wbp X0 hx hby d1_27 ?_
    refine wil X0 hx hby d1_29 rfl ?_
    refine .go (fun _ => XS.imul X0.here hx rfl (hb hby d1_31) rfl) ?_
    refine .go (fun _ => XS.lushr X0.here hx rfl (hb hby d1_32) rfl) ?_
    refine Ends.go (X0.ldc2Long hx hown (mvT hZ (ow hw 141 rfl)) (g := (mkF m 33 #[ci p0, ci p1, cj q2, cs, ci p3, cj q4, cs, ci (p0 - p1)] [(.long ((q2.toUInt64 >>> (((8 : Int32) * (p0 - p1)) &&& 0x3f).toInt64.toUInt64).toInt64))])) rfl (hb hby d1_33)) ?_
    show Ends _ _ _ _ s₁ (mkF m 36 #[ci p0, ci p1, cj q2, cs, ci p3, cj q4, cs, ci (p0 - p1)] [(.long (255 : Int64)), (.long ((q2.toUInt64 >>> (((8 : Int32) * (p0 - p1)) &&& 0x3f).toInt64.toUInt64).toInt64))]) _ _ _
    refine .go (fun _ => XS.land X0.here hx rfl (hb hby d1_36) rfl) ?_
    refine .go (fun _ => XS.l2i X0.here hx rfl (hb hby d1_37) rfl) ?_
    refine .go (fun _ => XS.i2c X0.here hx rfl (hb hby d1_38) rfl) ?_
    refine Ends.retZ X0 hx Bd.notSynchronized (t := .char) Bd.returns (by simp) (hb hby d1_39) (by decide) (by decide) ?_
    exact ⟨_, rfl, N0, e0, own_narrng _⟩
theorem d6_0 : decode jdk_52_method_21_code 0 = .ok (.iconst 0, 1) := by decide +kernel
theorem d6_1 : decode jdk_52_method_21_code 1 = .ok (.istore 5, 2) := by decide +kernel
theorem d6_3 : decode jdk_52_method_21_code 3 = .ok (.iload 5, 2) := by decide +kernel
theorem d6_5 : decode jdk_52_method_21_code 5 = .ok (.iload 4, 2) := by decide +kernel
theorem d6_7 : decode jdk_52_method_21_code 7 = .ok (.if_icmp .ge 37, 3) := by decide +kernel
theorem d6_10 : decode jdk_52_method_21_code 10 = .ok (.aload_n 0, 1) := by decide +kernel
theorem d6_11 : decode jdk_52_method_21_code 11 = .ok (.iload_n 1, 1) := by decide +kernel
theorem d6_12 : decode jdk_52_method_21_code 12 = .ok (.caload, 1) := by decide +kernel
theorem d6_13 : decode jdk_52_method_21_code 13 = .ok (.istore 6, 2) := by decide +kernel
theorem d6_15 : decode jdk_52_method_21_code 15 = .ok (.iload 6, 2) := by decide +kernel
theorem d6_17 : decode jdk_52_method_21_code 17 = .ok (.sipush 255, 3) := by decide +kernel
theorem d6_20 : decode jdk_52_method_21_code 20 = .ok (.if_icmp .le 6, 3) := by decide +kernel
theorem d6_23 : decode jdk_52_method_21_code 23 = .ok (.iload 5, 2) := by decide +kernel
theorem d6_25 : decode jdk_52_method_21_code 25 = .ok (.ireturn, 1) := by decide +kernel
theorem d6_26 : decode jdk_52_method_21_code 26 = .ok (.aload_n 2, 1) := by decide +kernel
theorem d6_27 : decode jdk_52_method_21_code 27 = .ok (.iload_n 3, 1) := by decide +kernel
theorem d6_28 : decode jdk_52_method_21_code 28 = .ok (.iload 6, 2) := by decide +kernel
theorem d6_30 : decode jdk_52_method_21_code 30 = .ok (.i2b, 1) := by decide +kernel
theorem d6_31 : decode jdk_52_method_21_code 31 = .ok (.bastore, 1) := by decide +kernel
theorem d6_32 : decode jdk_52_method_21_code 32 = .ok (.iinc 1 1, 3) := by decide +kernel
theorem d6_35 : decode jdk_52_method_21_code 35 = .ok (.iinc 3 1, 3) := by decide +kernel
theorem d6_38 : decode jdk_52_method_21_code 38 = .ok (.iinc 5 1, 3) := by decide +kernel
theorem d6_41 : decode jdk_52_method_21_code 41 = .ok (.goto (-38), 3) := by decide +kernel
theorem d6_44 : decode jdk_52_method_21_code 44 = .ok (.iload 4, 2) := by decide +kernel
theorem d6_46 : decode jdk_52_method_21_code 46 = .ok (.ireturn, 1) := by decide +kernel
theorem pn6 : plainName "java/lang/StringUTF16" = true := by first | (simp [plainName, overriddenIn]; done) | decide +kernel
theorem ef6_ririi (m : MethodId) (x0 : Addr) (x1 : Int32) (x2 : Addr) (x3 : Int32) (x4 : Int32) : entryFrame m #[(.ref x0), (.int x1), (.ref x2), (.int x3), (.int x4)] 7 = mkF m 0 #[.val (.ref x0), .val (.int x1), .val (.ref x2), .val (.int x3), .val (.int x4), .unset, .unset] [] := by first | (simp [entryFrame, mkF, argsToLocals, Value.category]; done) | rfl
set_option maxRecDepth 65536 in
set_option maxHeartbeats 40000000 in
theorem rmC (l : Launch) (Z : State) (a0 : Array Value) (hw : ∀ d ∈ tables_1, d.before a0 Z = true) (ws : List Jvm.Cond) (n0 : Nat) (h0 : Heap) (O0 : Old Z n0 h0)  (x0_ b0_ : Addr) (kx_ kb_ : ClassId) (c0_ c1_ c2_ c3_ c4_ c5_ c6_ : Int32) (g_b0_ : n0 ≤ b0_) (hox : x0_ ≠ b0_) (Vx : Arv Z h0 x0_ kx_ .char (7 : Int32) [(.int c0_), (.int c1_), (.int c2_), (.int c3_), (.int c4_), (.int c5_), (.int c6_)] (.int 0)) (Vb : Arv Z h0 b0_ kb_ .byte (7 : Int32) [(.int 0), (.int 0), (.int 0), (.int 0), (.int 0), (.int 0), (.int 0)] (.int 0)) (hbig_ : ¬ (own_lat c0_ c1_ c2_ c3_ c4_ c5_ c6_)) :
  Meets1 l ym1 jdk_52_method_21_code 7 (some .int) ws ({ frames := 0, cells := 0, slots := 0, locals := 0 } : Room) #[(.ref x0_), (.int 0), (.ref b0_), (.int 0), (.int 7)] Z h0 (fun v h L => ∃ ix_ : Int32, v = some (.int ix_) ∧ Fr n0 L ∧ Keep h0 h [b0_] ∧ own_in7 ix_ ∧ (255 : Int32) < own_sel c0_ c1_ c2_ c3_ c4_ c5_ c6_ ix_) := by
 refine MetFree.of_bodySF (plainFor_of_name pn6) hisR ?_
 intro p e s m args below meth c s₁ Bd hml0 hP hK
 obtain ⟨rfl, hZ, hh⟩ := hP
 have hx := Bd.exec
 have hby := Bd.bytes
 have hml : c.maxLocals = 7 := hml0
 have hown : s.vm.findClass "java/lang/StringUTF16" = some m.cls := findClass_of_methodNamed Bd.named
 have hnm := (name_of_methodNamed Bd.named Bd.method).1
 have X0 : Stand p l e ({ frames := 0, cells := 0, slots := 0, locals := 0 } : Room) s m #[(.ref x0_), (.int 0), (.ref b0_), (.int 0), (.int 7)] below meth c s₁ [] 0 0 := Stand.of_body Bd
 have e0 : s₁.heap = h0 := by rw [← hh, Bd.state]; rfl
 have N0 := Fr.nil n0
 have Z0 := own_old_le O0
 show Ends _ _ _ _ s₁ (entryFrame m #[(.ref x0_), (.int 0), (.ref b0_), (.int 0), (.int 7)] 7) ({ frames := 0, cells := 0, slots := 0, locals := 0 } : Room).cells ({ frames := 0, cells := 0, slots := 0, locals := 0 } : Room).slots (fun v h L => ∃ ix_ : Int32, v = some (.int ix_) ∧ Fr n0 L ∧ Keep h0 h [b0_] ∧ own_in7 ix_ ∧ (255 : Int32) < own_sel c0_ c1_ c2_ c3_ c4_ c5_ c6_ ix_)
 refine Ends.go (fun _ k => castTop (ef6_ririi m x0_ (0 : Int32) b0_ (0 : Int32) (7 : Int32)) k) ?_
 have K0 := Keep.refl h0 [b0_]
 refine wic X0 hx hby d6_0 ?_
 refine wst X0 hx hby d6_1 (l' := #[cr x0_, ci 0, cr b0_, ci 0, ci 7, ci 0, cu]) rfl ?_
 refine wil X0 hx hby d6_3 rfl ?_
 refine wil X0 hx hby d6_5 rfl ?_
 show Ends _ _ _ _ s₁ (mkF m 7 #[cr x0_, ci 0, cr b0_, ci 0, ci 7, ci 0, cu] [(.int 7), (.int 0)]) _ _ _
 refine wcn X0 hx hby d6_7 (tlt (by decide : (0 : Int32) < (7 : Int32))).2.1 ?_
 refine walN X0 hx hby d6_10 rfl rfl ?_
 refine wilN X0 hx hby d6_11 rfl ?_
 obtain ⟨cl1, Ar1, q1, S1, M1, H1, G1⟩ := id Vx
 have hin1 := inb_of (j := (0 : Int32)) S1 ⟨by decide, by decide⟩
 refine Ends.go (X0.caload hx (j := (0 : Int32)) (v := (.int c0_)) (by rw [e0]; exact Ar1.1) (State.isArrayOf_alike hZ.alike Ar1.2.1) Ar1.2.2 hin1 (H1.at hin1 rfl) (g := (mkF m 12 #[cr x0_, ci 0, cr b0_, ci 0, ci 7, ci 0, cu] [(.int 0), (.ref x0_)])) rfl rfl (hb hby d6_12)) ?_
 refine wst X0 hx hby d6_13 (l' := #[cr x0_, ci 0, cr b0_, ci 0, ci 7, ci 0, ci c0_]) rfl ?_
 show Ends _ _ _ _ s₁ (mkF m 15 #[cr x0_, ci 0, cr b0_, ci 0, ci 7, ci 0, ci c0_] []) _ _ _
 refine wil X0 hx hby d6_15 rfl ?_
 refine wsp X0 hx hby d6_17 ?_
 by_cases hc20_2 : (255 : Int32) < c0_
 ·refine wcn X0 hx hby d6_20 (tlt hc20_2).2.2.2 ?_
  refine wil X0 hx hby d6_23 rfl ?_
  refine Ends.ret X0 hx Bd.notSynchronized (t := .int) Bd.returns rfl (Or.inl ⟨rfl, by simp, _, rfl⟩) (hb hby d6_25) (by decide) (by decide) ?_
  rw [e0]
  exact ⟨(0 : Int32), rfl, N0, K0, by unfold own_in7; decide, hc20_2⟩
 ·refine wcy (pc := 20) (pc' := 26) X0 hx hby d6_20 (flt hc20_2).2.2.2 (by decide) (by decide) ?_
  show Ends _ _ _ _ s₁ (mkF m 26 #[cr x0_, ci 0, cr b0_, ci 0, ci 7, ci 0, ci c0_] []) _ _ _
  refine walN X0 hx hby d6_26 rfl rfl ?_
  refine wilN X0 hx hby d6_27 rfl ?_
  refine wil X0 hx hby d6_28 rfl ?_
  refine .go (fun _ => XS.i2b X0.here hx rfl (hb hby d6_30) rfl) ?_
  obtain ⟨cl3, Ar3, q3, S3, M3, H3, G3⟩ := id Vb
  have hin3 := inb_of (j := (0 : Int32)) S3 ⟨by decide, by decide⟩
  obtain ⟨T3, h3, X3, e3, W3, st3⟩ := stB X0 hx hZ e0 Ar3 (j := (0 : Int32)) hin3 (g := (mkF m 31 #[cr x0_, ci 0, cr b0_, ci 0, ci 7, ci 0, ci c0_] [(.int (c0_.toInt8.toInt32)), (.int 0), (.ref b0_)])) rfl rfl (hb hby d6_31)
  refine Ends.go st3 ?_
  have V3 : Arv Z h3 b0_ kb_ .byte (7 : Int32) [(.int (nar .byte (c0_.toInt8.toInt32))), (.int 0), (.int 0), (.int 0), (.int 0), (.int 0), (.int 0)] (.int 0) := Arv.set Ar3 q3 S3 M3 H3 G3 (fits_nar_byte _) W3 0 rfl (Nat.le_of_ble_eq_true rfl)
  rw [own_narb] at V3
  have K3 := K0.wr W3 (Or.inl (List.mem_of_getElem? (i := 0) rfl))
  have O3 := O0.wr W3 g_b0_
  have N3 := Fr.snoc X3 N0 g_b0_
  show Ends _ _ _ _ T3 (mkF m 32 #[cr x0_, ci 0, cr b0_, ci 0, ci 7, ci 0, ci c0_] []) _ _ _
  refine wii X3 hx hby d6_32 (l' := #[cr x0_, ci 1, cr b0_, ci 0, ci 7, ci 0, ci c0_]) rfl rfl ?_
  refine wii X3 hx hby d6_35 (l' := #[cr x0_, ci 1, cr b0_, ci 1, ci 7, ci 0, ci c0_]) rfl rfl ?_
  refine wii X3 hx hby d6_38 (l' := #[cr x0_, ci 1, cr b0_, ci 1, ci 7, ci 1, ci c0_]) rfl rfl ?_
  refine wgo (pc := 41) (pc' := 3) X3 hx hby d6_41 (by decide) (by decide) ?_
  refine wil X3 hx hby d6_3 rfl ?_
  show Ends _ _ _ _ T3 (mkF m 5 #[cr x0_, ci 1, cr b0_, ci 1, ci 7, ci 1, ci c0_] [(.int 1)]) _ _ _
  refine wil X3 hx hby d6_5 rfl ?_
  refine wcn X3 hx hby d6_7 (tlt (by decide : (1 : Int32) < (7 : Int32))).2.1 ?_
  refine walN X3 hx hby d6_10 rfl rfl ?_
  refine wilN X3 hx hby d6_11 rfl ?_
  obtain ⟨cl4, Ar4, q4, S4, M4, H4, G4⟩ := id (Vx.other W3 hox)
  have hin4 := inb_of (j := (1 : Int32)) S4 ⟨by decide, by decide⟩
  refine Ends.go (X3.caload hx (j := (1 : Int32)) (v := (.int c1_)) (by rw [e3]; exact Ar4.1) (State.isArrayOf_alike hZ.alike Ar4.2.1) Ar4.2.2 hin4 (H4.at hin4 rfl) (g := (mkF m 12 #[cr x0_, ci 1, cr b0_, ci 1, ci 7, ci 1, ci c0_] [(.int 1), (.ref x0_)])) rfl rfl (hb hby d6_12)) ?_
  show Ends _ _ _ _ T3 (mkF m 13 #[cr x0_, ci 1, cr b0_, ci 1, ci 7, ci 1, ci c0_] [(.int c1_)]) _ _ _
  refine wst X3 hx hby d6_13 (l' := #[cr x0_, ci 1, cr b0_, ci 1, ci 7, ci 1, ci c1_]) rfl ?_
  refine wil X3 hx hby d6_15 rfl ?_
  refine wsp X3 hx hby d6_17 ?_
  by_cases hc20_5 : (255 : Int32) < c1_
  ·refine wcn X3 hx hby d6_20 (tlt hc20_5).2.2.2 ?_
   refine wil X3 hx hby d6_23 rfl ?_
   show Ends _ _ _ _ T3 (mkF m 25 #[cr x0_, ci 1, cr b0_, ci 1, ci 7, ci 1, ci c1_] [(.int 1)]) _ _ _
   refine Ends.ret X3 hx Bd.notSynchronized (t := .int) Bd.returns rfl (Or.inl ⟨rfl, by simp, _, rfl⟩) (hb hby d6_25) (by decide) (by decide) ?_
   rw [e3]
   exact ⟨(1 : Int32), rfl, N3, K3, by unfold own_in7; decide, hc20_5⟩
  ·refine wcy (pc := 20) (pc' := 26) X3 hx hby d6_20 (flt hc20_5).2.2.2 (by decide) (by decide) ?_
   refine walN X3 hx hby d6_26 rfl rfl ?_
   refine wilN X3 hx hby d6_27 rfl ?_
   refine wil X3 hx hby d6_28 rfl ?_
   refine .go (fun _ => XS.i2b X3.here hx rfl (hb hby d6_30) rfl) ?_
   show Ends _ _ _ _ T3 (mkF m 31 #[cr x0_, ci 1, cr b0_, ci 1, ci 7, ci 1, ci c1_] [(.int (c1_.toInt8.toInt32)), (.int 1), (.ref b0_)]) _ _ _
   obtain ⟨cl6, Ar6, q6, S6, M6, H6, G6⟩ := id V3
   have hin6 := inb_of (j := (1 : Int32)) S6 ⟨by decide, by decide⟩
   obtain ⟨T6, h6, X6, e6, W6, st6⟩ := stB X3 hx hZ e3 Ar6 (j := (1 : Int32)) hin6 (g := (mkF m 31 #[cr x0_, ci 1, cr b0_, ci 1, ci 7, ci 1, ci c1_] [(.int (c1_.toInt8.toInt32)), (.int 1), (.ref b0_)])) rfl rfl (hb hby d6_31)
   refine Ends.go st6 ?_
   have V6 : Arv Z h6 b0_ kb_ .byte (7 : Int32) [(.int (c0_.toInt8.toInt32)), (.int (nar .byte (c1_.toInt8.toInt32))), (.int 0), (.int 0), (.int 0), (.int 0), (.int 0)] (.int 0) := Arv.set Ar6 q6 S6 M6 H6 G6 (fits_nar_byte _) W6 1 rfl (Nat.le_of_ble_eq_true rfl)
   rw [own_narb] at V6
   have K6 := K3.wr W6 (Or.inl (List.mem_of_getElem? (i := 0) rfl))
   have O6 := O3.wr W6 g_b0_
   have N6 := Fr.snoc X6 N3 g_b0_
   refine wii X6 hx hby d6_32 (l' := #[cr x0_, ci 2, cr b0_, ci 1, ci 7, ci 1, ci c1_]) rfl rfl ?_
   refine wii X6 hx hby d6_35 (l' := #[cr x0_, ci 2, cr b0_, ci 2, ci 7, ci 1, ci c1_]) rfl rfl ?_
   refine wii X6 hx hby d6_38 (l' := #[cr x0_, ci 2, cr b0_, ci 2, ci 7, ci 2, ci c1_]) rfl rfl ?_
   refine wgo (pc := 41) (pc' := 3) X6 hx hby d6_41 (by decide) (by decide) ?_
   show Ends _ _ _ _ T6 (mkF m 3 #[cr x0_, ci 2, cr b0_, ci 2, ci 7, ci 2, ci c1_] []) _ _ _
   refine wil X6 hx hby d6_3 rfl ?_
   refine wil X6 hx hby d6_5 rfl ?_
   refine wcn X6 hx hby d6_7 (tlt (by decide : (2 : Int32) < (7 : Int32))).2.1 ?_
   refine walN X6 hx hby d6_10 rfl rfl ?_
   refine wilN X6 hx hby d6_11 rfl ?_
   show Ends _ _ _ _ T6 (mkF m 12 #[cr x0_, ci 2, cr b0_, ci 2, ci 7, ci 2, ci c1_] [(.int 2), (.ref x0_)]) _ _ _
   obtain ⟨cl7, Ar7, q7, S7, M7, H7, G7⟩ := id ((Vx.other W3 hox).other W6 hox)
   have hin7 := inb_of (j := (2 : Int32)) S7 ⟨by decide, by decide⟩
   refine Ends.go (X6.caload hx (j := (2 : Int32)) (v := (.int c2_)) (by rw [e6]; exact Ar7.1) (State.isArrayOf_alike hZ.alike Ar7.2.1) Ar7.2.2 hin7 (H7.at hin7 rfl) (g := (mkF m 12 #[cr x0_, ci 2, cr b0_, ci 2, ci 7, ci 2, ci c1_] [(.int 2), (.ref x0_)])) rfl rfl (hb hby d6_12)) ?_
   refine wst X6 hx hby d6_13 (l' := #[cr x0_, ci 2, cr b0_, ci 2, ci 7, ci 2, ci c2_]) rfl ?_
   refine wil X6 hx hby d6_15 rfl ?_
   refine wsp X6 hx hby d6_17 ?_
   by_cases hc20_8 : (255 : Int32) < c2_
   ·refine wcn X6 hx hby d6_20 (tlt hc20_8).2.2.2 ?_
    show Ends _ _ _ _ T6 (mkF m 23 #[cr x0_, ci 2, cr b0_, ci 2, ci 7, ci 2, ci c2_] []) _ _ _
    refine wil X6 hx hby d6_23 rfl ?_
    refine Ends.ret X6 hx Bd.notSynchronized (t := .int) Bd.returns rfl (Or.inl ⟨rfl, by simp, _, rfl⟩) (hb hby d6_25) (by decide) (by decide) ?_
    rw [e6]
    exact ⟨(2 : Int32), rfl, N6, K6, by unfold own_in7; decide, hc20_8⟩
   ·refine wcy (pc := 20) (pc' := 26) X6 hx hby d6_20 (flt hc20_8).2.2.2 (by decide) (by decide) ?_
    refine walN X6 hx hby d6_26 rfl rfl ?_
    refine wilN X6 hx hby d6_27 rfl ?_
    refine wil X6 hx hby d6_28 rfl ?_
    show Ends _ _ _ _ T6 (mkF m 30 #[cr x0_, ci 2, cr b0_, ci 2, ci 7, ci 2, ci c2_] [(.int c2_), (.int 2), (.ref b0_)]) _ _ _
    refine .go (fun _ => XS.i2b X6.here hx rfl (hb hby d6_30) rfl) ?_
    obtain ⟨cl9, Ar9, q9, S9, M9, H9, G9⟩ := id V6
    have hin9 := inb_of (j := (2 : Int32)) S9 ⟨by decide, by decide⟩
    obtain ⟨T9, h9, X9, e9, W9, st9⟩ := stB X6 hx hZ e6 Ar9 (j := (2 : Int32)) hin9 (g := (mkF m 31 #[cr x0_, ci 2, cr b0_, ci 2, ci 7, ci 2, ci c2_] [(.int (c2_.toInt8.toInt32)), (.int 2), (.ref b0_)])) rfl rfl (hb hby d6_31)
    refine Ends.go st9 ?_
    have V9 : Arv Z h9 b0_ kb_ .byte (7 : Int32) [(.int (c0_.toInt8.toInt32)), (.int (c1_.toInt8.toInt32)), (.int (nar .byte (c2_.toInt8.toInt32))), (.int 0), (.int 0), (.int 0), (.int 0)] (.int 0) := Arv.set Ar9 q9 S9 M9 H9 G9 (fits_nar_byte _) W9 2 rfl (Nat.le_of_ble_eq_true rfl)
    rw [own_narb] at V9
    have K9 := K6.wr W9 (Or.inl (List.mem_of_getElem? (i := 0) rfl))
    have O9 := O6.wr W9 g_b0_
    have N9 := Fr.snoc X9 N6 g_b0_
    refine wii X9 hx hby d6_32 (l' := #[cr x0_, ci 3, cr b0_, ci 2, ci 7, ci 2, ci c2_]) rfl rfl ?_
    refine wii X9 hx hby d6_35 (l' := #[cr x0_, ci 3, cr b0_, ci 3, ci 7, ci 2, ci c2_]) rfl rfl ?_
    refine wii X9 hx hby d6_38 (l' := #[cr x0_, ci 3, cr b0_, ci 3, ci 7, ci 3, ci c2_]) rfl rfl ?_
    show Ends _ _ _ _ T9 (mkF m 41 #[cr x0_, ci 3, cr b0_, ci 3, ci 7, ci 3, ci c2_] []) _ _ _
    refine wgo (pc := 41) (pc' := 3) X9 hx hby d6_41 (by decide) (by decide) ?_
    refine wil X9 hx hby d6_3 rfl ?_
    refine wil X9 hx hby d6_5 rfl ?_
    refine wcn X9 hx hby d6_7 (tlt (by decide : (3 : Int32) < (7 : Int32))).2.1 ?_
    refine walN X9 hx hby d6_10 rfl rfl ?_
    show Ends _ _ _ _ T9 (mkF m 11 #[cr x0_, ci 3, cr b0_, ci 3, ci 7, ci 3, ci c2_] [(.ref x0_)]) _ _ _
    refine wilN X9 hx hby d6_11 rfl ?_
    obtain ⟨cl10, Ar10, q10, S10, M10, H10, G10⟩ := id (((Vx.other W3 hox).other W6 hox).other W9 hox)
    have hin10 := inb_of (j := (3 : Int32)) S10 ⟨by decide, by decide⟩
    refine Ends.go (X9.caload hx (j := (3 : Int32)) (v := (.int c3_)) (by rw [e9]; exact Ar10.1) (State.isArrayOf_alike hZ.alike Ar10.2.1) Ar10.2.2 hin10 (H10.at hin10 rfl) (g := (mkF m 12 #[cr x0_, ci 3, cr b0_, ci 3, ci 7, ci 3, ci c2_] [(.int 3), (.ref x0_)])) rfl rfl (hb hby d6_12)) ?_
    refine wst X9 hx hby d6_13 (l' := #[cr x0_, ci 3, cr b0_, ci 3, ci 7, ci 3, ci c3_]) rfl ?_
    refine wil X9 hx hby d6_15 rfl ?_
    refine wsp X9 hx hby d6_17 ?_
    show Ends _ _ _ _ T9 (mkF m 20 #[cr x0_, ci 3, cr b0_, ci 3, ci 7, ci 3, ci c3_] [(.int 255), (.int c3_)]) _ _ _
    by_cases hc20_11 : (255 : Int32) < c3_
    ·refine wcn X9 hx hby d6_20 (tlt hc20_11).2.2.2 ?_
     refine wil X9 hx hby d6_23 rfl ?_
     refine Ends.ret X9 hx Bd.notSynchronized (t := .int) Bd.returns rfl (Or.inl ⟨rfl, by simp, _, rfl⟩) (hb hby d6_25) (by decide) (by decide) ?_
     rw [e9]
     exact ⟨(3 : Int32), rfl, N9, K9, by unfold own_in7; decide, hc20_11⟩
    ·refine wcy (pc := 20) (pc' := 26) X9 hx hby d6_20 (flt hc20_11).2.2.2 (by decide) (by decide) ?_
     refine walN X9 hx hby d6_26 rfl rfl ?_
     refine wilN X9 hx hby d6_27 rfl ?_
     show Ends _ _ _ _ T9 (mkF m 28 #[cr x0_, ci 3, cr b0_, ci 3, ci 7, ci 3, ci c3_] [(.int 3), (.ref b0_)]) _ _ _
     refine wil X9 hx hby d6_28 rfl ?_
     refine .go (fun _ => XS.i2b X9.here hx rfl (hb hby d6_30) rfl) ?_
     obtain ⟨cl12, Ar12, q12, S12, M12, H12, G12⟩ := id V9
     have hin12 := inb_of (j := (3 : Int32)) S12 ⟨by decide, by decide⟩
     obtain ⟨T12, h12, X12, e12, W12, st12⟩ := stB X9 hx hZ e9 Ar12 (j := (3 : Int32)) hin12 (g := (mkF m 31 #[cr x0_, ci 3, cr b0_, ci 3, ci 7, ci 3, ci c3_] [(.int (c3_.toInt8.toInt32)), (.int 3), (.ref b0_)])) rfl rfl (hb hby d6_31)
     refine Ends.go st12 ?_
     have V12 : Arv Z h12 b0_ kb_ .byte (7 : Int32) [(.int (c0_.toInt8.toInt32)), (.int (c1_.toInt8.toInt32)), (.int (c2_.toInt8.toInt32)), (.int (nar .byte (c3_.toInt8.toInt32))), (.int 0), (.int 0), (.int 0)] (.int 0) := Arv.set Ar12 q12 S12 M12 H12 G12 (fits_nar_byte _) W12 3 rfl (Nat.le_of_ble_eq_true rfl)
     rw [own_narb] at V12
     have K12 := K9.wr W12 (Or.inl (List.mem_of_getElem? (i := 0) rfl))
     have O12 := O9.wr W12 g_b0_
     have N12 := Fr.snoc X12 N9 g_b0_
     refine wii X12 hx hby d6_32 (l' := #[cr x0_, ci 4, cr b0_, ci 3, ci 7, ci 3, ci c3_]) rfl rfl ?_
     refine wii X12 hx hby d6_35 (l' := #[cr x0_, ci 4, cr b0_, ci 4, ci 7, ci 3, ci c3_]) rfl rfl ?_
     show Ends _ _ _ _ T12 (mkF m 38 #[cr x0_, ci 4, cr b0_, ci 4, ci 7, ci 3, ci c3_] []) _ _ _
     refine wii X12 hx hby d6_38 (l' := #[cr x0_, ci 4, cr b0_, ci 4, ci 7, ci 4, ci c3_]) rfl rfl ?_
     refine wgo (pc := 41) (pc' := 3) X12 hx hby d6_41 (by decide) (by decide) ?_
     refine wil X12 hx hby d6_3 rfl ?_
     refine wil X12 hx hby d6_5 rfl ?_
     refine wcn X12 hx hby d6_7 (tlt (by decide : (4 : Int32) < (7 : Int32))).2.1 ?_
     show Ends _ _ _ _ T12 (mkF m 10 #[cr x0_, ci 4, cr b0_, ci 4, ci 7, ci 4, ci c3_] []) _ _ _
     refine walN X12 hx hby d6_10 rfl rfl ?_
     refine wilN X12 hx hby d6_11 rfl ?_
     obtain ⟨cl13, Ar13, q13, S13, M13, H13, G13⟩ := id ((((Vx.other W3 hox).other W6 hox).other W9 hox).other W12 hox)
     have hin13 := inb_of (j := (4 : Int32)) S13 ⟨by decide, by decide⟩
     refine Ends.go (X12.caload hx (j := (4 : Int32)) (v := (.int c4_)) (by rw [e12]; exact Ar13.1) (State.isArrayOf_alike hZ.alike Ar13.2.1) Ar13.2.2 hin13 (H13.at hin13 rfl) (g := (mkF m 12 #[cr x0_, ci 4, cr b0_, ci 4, ci 7, ci 4, ci c3_] [(.int 4), (.ref x0_)])) rfl rfl (hb hby d6_12)) ?_
     refine wst X12 hx hby d6_13 (l' := #[cr x0_, ci 4, cr b0_, ci 4, ci 7, ci 4, ci c4_]) rfl ?_
     refine wil X12 hx hby d6_15 rfl ?_
     show Ends _ _ _ _ T12 (mkF m 17 #[cr x0_, ci 4, cr b0_, ci 4, ci 7, ci 4, ci c4_] [(.int c4_)]) _ _ _
     refine wsp X12 hx hby d6_17 ?_
     by_cases hc20_14 : (255 : Int32) < c4_
     ·refine wcn X12 hx hby d6_20 (tlt hc20_14).2.2.2 ?_
      refine wil X12 hx hby d6_23 rfl ?_
      refine Ends.ret X12 hx Bd.notSynchronized (t := .int) Bd.returns rfl (Or.inl ⟨rfl, by simp, _, rfl⟩) (hb hby d6_25) (by decide) (by decide) ?_
      rw [e12]
      exact ⟨(4 : Int32), rfl, N12, K12, by unfold own_in7; decide, hc20_14⟩
     ·refine wcy (pc := 20) (pc' := 26) X12 hx hby d6_20 (flt hc20_14).2.2.2 (by decide) (by decide) ?_
      refine walN X12 hx hby d6_26 rfl rfl ?_
      show Ends _ _ _ _ T12 (mkF m 27 #[cr x0_, ci 4, cr b0_, ci 4, ci 7, ci 4, ci c4_] [(.ref b0_)]) _ _ _
      refine wilN X12 hx hby d6_27 rfl ?_
      refine wil X12 hx hby d6_28 rfl ?_
      refine .go (fun _ => XS.i2b X12.here hx rfl (hb hby d6_30) rfl) ?_
      obtain ⟨cl15, Ar15, q15, S15, M15, H15, G15⟩ := id V12
      have hin15 := inb_of (j := (4 : Int32)) S15 ⟨by decide, by decide⟩
      obtain ⟨T15, h15, X15, e15, W15, st15⟩ := stB X12 hx hZ e12 Ar15 (j := (4 : Int32)) hin15 (g := (mkF m 31 #[cr x0_, ci 4, cr b0_, ci 4, ci 7, ci 4, ci c4_] [(.int (c4_.toInt8.toInt32)), (.int 4), (.ref b0_)])) rfl rfl (hb hby d6_31)
      refine Ends.go st15 ?_
      have V15 : Arv Z h15 b0_ kb_ .byte (7 : Int32) [(.int (c0_.toInt8.toInt32)), (.int (c1_.toInt8.toInt32)), (.int (c2_.toInt8.toInt32)), (.int (c3_.toInt8.toInt32)), (.int (nar .byte (c4_.toInt8.toInt32))), (.int 0), (.int 0)] (.int 0) := Arv.set Ar15 q15 S15 M15 H15 G15 (fits_nar_byte _) W15 4 rfl (Nat.le_of_ble_eq_true rfl)
      rw [own_narb] at V15
      have K15 := K12.wr W15 (Or.inl (List.mem_of_getElem? (i := 0) rfl))
      have O15 := O12.wr W15 g_b0_
      have N15 := Fr.snoc X15 N12 g_b0_
      refine wii X15 hx hby d6_32 (l' := #[cr x0_, ci 5, cr b0_, ci 4, ci 7, ci 4, ci c4_]) rfl rfl ?_
      show Ends _ _ _ _ T15 (mkF m 35 #[cr x0_, ci 5, cr b0_, ci 4, ci 7, ci 4, ci c4_] []) _ _ _
      refine wii X15 hx hby d6_35 (l' := #[cr x0_, ci 5, cr b0_, ci 5, ci 7, ci 4, ci c4_]) rfl rfl ?_
      refine wii X15 hx hby d6_38 (l' := #[cr x0_, ci 5, cr b0_, ci 5, ci 7, ci 5, ci c4_]) rfl rfl ?_
      refine wgo (pc := 41) (pc' := 3) X15 hx hby d6_41 (by decide) (by decide) ?_
      refine wil X15 hx hby d6_3 rfl ?_
      refine wil X15 hx hby d6_5 rfl ?_
      show Ends _ _ _ _ T15 (mkF m 7 #[cr x0_, ci 5, cr b0_, ci 5, ci 7, ci 5, ci c4_] [(.int 7), (.int 5)]) _ _ _
      refine wcn X15 hx hby d6_7 (tlt (by decide : (5 : Int32) < (7 : Int32))).2.1 ?_
      refine walN X15 hx hby d6_10 rfl rfl ?_
      refine wilN X15 hx hby d6_11 rfl ?_
      obtain ⟨cl16, Ar16, q16, S16, M16, H16, G16⟩ := id (((((Vx.other W3 hox).other W6 hox).other W9 hox).other W12 hox).other W15 hox)
      have hin16 := inb_of (j := (5 : Int32)) S16 ⟨by decide, by decide⟩
      refine Ends.go (X15.caload hx (j := (5 : Int32)) (v := (.int c5_)) (by rw [e15]; exact Ar16.1) (State.isArrayOf_alike hZ.alike Ar16.2.1) Ar16.2.2 hin16 (H16.at hin16 rfl) (g := (mkF m 12 #[cr x0_, ci 5, cr b0_, ci 5, ci 7, ci 5, ci c4_] [(.int 5), (.ref x0_)])) rfl rfl (hb hby d6_12)) ?_
      refine wst X15 hx hby d6_13 (l' := #[cr x0_, ci 5, cr b0_, ci 5, ci 7, ci 5, ci c5_]) rfl ?_
      show Ends _ _ _ _ T15 (mkF m 15 #[cr x0_, ci 5, cr b0_, ci 5, ci 7, ci 5, ci c5_] []) _ _ _
      refine wil X15 hx hby d6_15 rfl ?_
      refine wsp X15 hx hby d6_17 ?_
      by_cases hc20_17 : (255 : Int32) < c5_
      ·refine wcn X15 hx hby d6_20 (tlt hc20_17).2.2.2 ?_
       refine wil X15 hx hby d6_23 rfl ?_
       refine Ends.ret X15 hx Bd.notSynchronized (t := .int) Bd.returns rfl (Or.inl ⟨rfl, by simp, _, rfl⟩) (hb hby d6_25) (by decide) (by decide) ?_
       rw [e15]
       exact ⟨(5 : Int32), rfl, N15, K15, by unfold own_in7; decide, hc20_17⟩
      ·refine wcy (pc := 20) (pc' := 26) X15 hx hby d6_20 (flt hc20_17).2.2.2 (by decide) (by decide) ?_
       show Ends _ _ _ _ T15 (mkF m 26 #[cr x0_, ci 5, cr b0_, ci 5, ci 7, ci 5, ci c5_] []) _ _ _
       refine walN X15 hx hby d6_26 rfl rfl ?_
       refine wilN X15 hx hby d6_27 rfl ?_
       refine wil X15 hx hby d6_28 rfl ?_
       refine .go (fun _ => XS.i2b X15.here hx rfl (hb hby d6_30) rfl) ?_
       obtain ⟨cl18, Ar18, q18, S18, M18, H18, G18⟩ := id V15
       have hin18 := inb_of (j := (5 : Int32)) S18 ⟨by decide, by decide⟩
       obtain ⟨T18, h18, X18, e18, W18, st18⟩ := stB X15 hx hZ e15 Ar18 (j := (5 : Int32)) hin18 (g := (mkF m 31 #[cr x0_, ci 5, cr b0_, ci 5, ci 7, ci 5, ci c5_] [(.int (c5_.toInt8.toInt32)), (.int 5), (.ref b0_)])) rfl rfl (hb hby d6_31)
       refine Ends.go st18 ?_
       have V18 : Arv Z h18 b0_ kb_ .byte (7 : Int32) [(.int (c0_.toInt8.toInt32)), (.int (c1_.toInt8.toInt32)), (.int (c2_.toInt8.toInt32)), (.int (c3_.toInt8.toInt32)), (.int (c4_.toInt8.toInt32)), (.int (nar .byte (c5_.toInt8.toInt32))), (.int 0)] (.int 0) := Arv.set Ar18 q18 S18 M18 H18 G18 (fits_nar_byte _) W18 5 rfl (Nat.le_of_ble_eq_true rfl)
       rw [own_narb] at V18
       have K18 := K15.wr W18 (Or.inl (List.mem_of_getElem? (i := 0) rfl))
       have O18 := O15.wr W18 g_b0_
       have N18 := Fr.snoc X18 N15 g_b0_
       show Ends _ _ _ _ T18 (mkF m 32 #[cr x0_, ci 5, cr b0_, ci 5, ci 7, ci 5, ci c5_] []) _ _ _
       refine wii X18 hx hby d6_32 (l' := #[cr x0_, ci 6, cr b0_, ci 5, ci 7, ci 5, ci c5_]) rfl rfl ?_
       refine wii X18 hx hby d6_35 (l' := #[cr x0_, ci 6, cr b0_, ci 6, ci 7, ci 5, ci c5_]) rfl rfl ?_
       refine wii X18 hx hby d6_38 (l' := #[cr x0_, ci 6, cr b0_, ci 6, ci 7, ci 6, ci c5_]) rfl rfl ?_
       refine wgo (pc := 41) (pc' := 3) X18 hx hby d6_41 (by decide) (by decide) ?_
       refine wil X18 hx hby d6_3 rfl ?_
       show Ends _ _ _ _ T18 (mkF m 5 #[cr x0_, ci 6, cr b0_, ci 6, ci 7, ci 6, ci c5_] [(.int 6)]) _ _ _
       refine wil X18 hx hby d6_5 rfl ?_
       refine wcn X18 hx hby d6_7 (tlt (by decide : (6 : Int32) < (7 : Int32))).2.1 ?_
       refine walN X18 hx hby d6_10 rfl rfl ?_
       refine wilN X18 hx hby d6_11 rfl ?_
       obtain ⟨cl19, Ar19, q19, S19, M19, H19, G19⟩ := id ((((((Vx.other W3 hox).other W6 hox).other W9 hox).other W12 hox).other W15 hox).other W18 hox)
       have hin19 := inb_of (j := (6 : Int32)) S19 ⟨by decide, by decide⟩
       refine Ends.go (X18.caload hx (j := (6 : Int32)) (v := (.int c6_)) (by rw [e18]; exact Ar19.1) (State.isArrayOf_alike hZ.alike Ar19.2.1) Ar19.2.2 hin19 (H19.at hin19 rfl) (g := (mkF m 12 #[cr x0_, ci 6, cr b0_, ci 6, ci 7, ci 6, ci c5_] [(.int 6), (.ref x0_)])) rfl rfl (hb hby d6_12)) ?_
       show Ends _ _ _ _ T18 (mkF m 13 #[cr x0_, ci 6, cr b0_, ci 6, ci 7, ci 6, ci c5_] [(.int c6_)]) _ _ _
       refine wst X18 hx hby d6_13 (l' := #[cr x0_, ci 6, cr b0_, ci 6, ci 7, ci 6, ci c6_]) rfl ?_
       refine wil X18 hx hby d6_15 rfl ?_
       refine wsp X18 hx hby d6_17 ?_
       by_cases hc20_20 : (255 : Int32) < c6_
       ·refine wcn X18 hx hby d6_20 (tlt hc20_20).2.2.2 ?_
        refine wil X18 hx hby d6_23 rfl ?_
        show Ends _ _ _ _ T18 (mkF m 25 #[cr x0_, ci 6, cr b0_, ci 6, ci 7, ci 6, ci c6_] [(.int 6)]) _ _ _
        refine Ends.ret X18 hx Bd.notSynchronized (t := .int) Bd.returns rfl (Or.inl ⟨rfl, by simp, _, rfl⟩) (hb hby d6_25) (by decide) (by decide) ?_
        rw [e18]
        exact ⟨(6 : Int32), rfl, N18, K18, by unfold own_in7; decide, hc20_20⟩
       ·refine wcy (pc := 20) (pc' := 26) X18 hx hby d6_20 (flt hc20_20).2.2.2 (by decide) (by decide) ?_
        refine walN X18 hx hby d6_26 rfl rfl ?_
        refine wilN X18 hx hby d6_27 rfl ?_
        refine wil X18 hx hby d6_28 rfl ?_
        refine .go (fun _ => XS.i2b X18.here hx rfl (hb hby d6_30) rfl) ?_
        show Ends _ _ _ _ T18 (mkF m 31 #[cr x0_, ci 6, cr b0_, ci 6, ci 7, ci 6, ci c6_] [(.int (c6_.toInt8.toInt32)), (.int 6), (.ref b0_)]) _ _ _
        obtain ⟨cl21, Ar21, q21, S21, M21, H21, G21⟩ := id V18
        have hin21 := inb_of (j := (6 : Int32)) S21 ⟨by decide, by decide⟩
        obtain ⟨T21, h21, X21, e21, W21, st21⟩ := stB X18 hx hZ e18 Ar21 (j := (6 : Int32)) hin21 (g := (mkF m 31 #[cr x0_, ci 6, cr b0_, ci 6, ci 7, ci 6, ci c6_] [(.int (c6_.toInt8.toInt32)), (.int 6), (.ref b0_)])) rfl rfl (hb hby d6_31)
        refine Ends.go st21 ?_
        have V21 : Arv Z h21 b0_ kb_ .byte (7 : Int32) [(.int (c0_.toInt8.toInt32)), (.int (c1_.toInt8.toInt32)), (.int (c2_.toInt8.toInt32)), (.int (c3_.toInt8.toInt32)), (.int (c4_.toInt8.toInt32)), (.int (c5_.toInt8.toInt32)), (.int (nar .byte (c6_.toInt8.toInt32)))] (.int 0) := Arv.set Ar21 q21 S21 M21 H21 G21 (fits_nar_byte _) W21 6 rfl (Nat.le_of_ble_eq_true rfl)
        rw [own_narb] at V21
        have K21 := K18.wr W21 (Or.inl (List.mem_of_getElem? (i := 0) rfl))
        have O21 := O18.wr W21 g_b0_
        have N21 := Fr.snoc X21 N18 g_b0_
        refine wii X21 hx hby d6_32 (l' := #[cr x0_, ci 7, cr b0_, ci 6, ci 7, ci 6, ci c6_]) rfl rfl ?_
        refine wii X21 hx hby d6_35 (l' := #[cr x0_, ci 7, cr b0_, ci 7, ci 7, ci 6, ci c6_]) rfl rfl ?_
        refine wii X21 hx hby d6_38 (l' := #[cr x0_, ci 7, cr b0_, ci 7, ci 7, ci 7, ci c6_]) rfl rfl ?_
        refine wgo (pc := 41) (pc' := 3) X21 hx hby d6_41 (by decide) (by decide) ?_
        show Ends _ _ _ _ T21 (mkF m 3 #[cr x0_, ci 7, cr b0_, ci 7, ci 7, ci 7, ci c6_] []) _ _ _
        refine wil X21 hx hby d6_3 rfl ?_
        refine wil X21 hx hby d6_5 rfl ?_
        refine wcy (pc := 7) (pc' := 44) X21 hx hby d6_7 (flt (by decide : ¬ ((7 : Int32) < (7 : Int32)))).2.1 (by decide) (by decide) ?_
        refine wil X21 hx hby d6_44 rfl ?_
        exact absurd (⟨hc20_2, hc20_5, hc20_8, hc20_11, hc20_14, hc20_17, hc20_20⟩ : own_lat c0_ c1_ c2_ c3_ c4_ c5_ c6_) hbig_
theorem dqn20_0 : decode jdk_41_method_12_code 0 = .ok (.iload_n 0, 1) := by decide +kernel
theorem dqn20_1 : decode jdk_41_method_12_code 1 = .ok (.ifCond .lt 13, 3) := by decide +kernel
theorem dqn20_4 : decode jdk_41_method_12_code 4 = .ok (.iload_n 0, 1) := by decide +kernel
theorem dqn20_5 : decode jdk_41_method_12_code 5 = .ok (.iload_n 1, 1) := by decide +kernel
theorem dqn20_6 : decode jdk_41_method_12_code 6 = .ok (.if_icmp .gt 8, 3) := by decide +kernel
theorem dqn20_9 : decode jdk_41_method_12_code 9 = .ok (.iload_n 1, 1) := by decide +kernel
theorem dqn20_10 : decode jdk_41_method_12_code 10 = .ok (.iload_n 2, 1) := by decide +kernel
theorem dqn20_11 : decode jdk_41_method_12_code 11 = .ok (.if_icmp .le 11, 3) := by decide +kernel
theorem dqn20_22 : decode jdk_41_method_12_code 22 = .ok (.iload_n 0, 1) := by decide +kernel
theorem dqn20_23 : decode jdk_41_method_12_code 23 = .ok (.ireturn, 1) := by decide +kernel
theorem pnqn20 : plainName "jdk/internal/util/Preconditions" = true := by first | (simp [plainName, overriddenIn]; done) | decide +kernel
theorem efqn20 (m : MethodId) (p0 : Int32) (p1 : Int32) (p2 : Int32) : entryFrame m #[(.int p0), (.int p1), (.int p2), .null] 4 = mkF m 0 #[.val (.int p0), .val (.int p1), .val (.int p2), .val .null] [] := by first | (simp [entryFrame, mkF, argsToLocals, Value.category]; done) | rfl
set_option maxRecDepth 65536 in
set_option maxHeartbeats 40000000 in
theorem rm_checkFromToIndex_n (l : Launch) (Z : State) (a0 : Array Value) (hw : ∀ d ∈ tables_1, d.before a0 Z = true) (ws : List Jvm.Cond) (n0 : Nat) (h0 : Heap) (O0 : Old Z n0 h0) (p0 : Int32) (p1 : Int32) (p2 : Int32) (ha : ¬ p0 < 0) (hb' : ¬ p1 < p0) (hc' : ¬ p2 < p1) :
  Meets1 l ym2 jdk_41_method_12_code 4 (some .int) ws ({ frames := 0, cells := 0, slots := 0, locals := 0 } : Room) #[(.int p0), (.int p1), (.int p2), .null] Z h0 (fun v h L => v = some (.int p0) ∧ Fr n0 L ∧ h = h0) := by
 refine MetFree.of_bodySF (plainFor_of_name pnqn20) hisR ?_
 intro p e s m args below meth c s₁ Bd hml0 hP hK
 obtain ⟨rfl, hZ, hh⟩ := hP
 have hx := Bd.exec
 have hby := Bd.bytes
 have hml : c.maxLocals = 4 := hml0
 have hown : s.vm.findClass "jdk/internal/util/Preconditions" = some m.cls := findClass_of_methodNamed Bd.named
 have hnm := (name_of_methodNamed Bd.named Bd.method).1
 have X0 : Stand p l e ({ frames := 0, cells := 0, slots := 0, locals := 0 } : Room) s m #[(.int p0), (.int p1), (.int p2), .null] below meth c s₁ [] 0 0 := Stand.of_body Bd
 have e0 : s₁.heap = h0 := by rw [← hh, Bd.state]; rfl
 have N0 := Fr.nil n0
 have Z0 := own_old_le O0
 show Ends _ _ _ _ s₁ (entryFrame m #[(.int p0), (.int p1), (.int p2), .null] 4) ({ frames := 0, cells := 0, slots := 0, locals := 0 } : Room).cells ({ frames := 0, cells := 0, slots := 0, locals := 0 } : Room).slots (fun v h L => v = some (.int p0) ∧ Fr n0 L ∧ h = h0)
 refine Ends.go (fun _ k => castTop (efqn20 m p0 p1 p2) k) ?_
 have K0 := Keep.refl h0 []
 refine wilN X0 hx hby dqn20_0 rfl ?_
 refine win X0 hx hby dqn20_1 ((if0 _ _).trans (flt (ha : ¬ (p0 < (0 : Int32)))).1) ?_
 refine wilN X0 hx hby dqn20_4 rfl ?_
 refine wilN X0 hx hby dqn20_5 rfl ?_
 show Ends _ _ _ _ s₁ (mkF m 6 #[ci p0, ci p1, ci p2, .val .null] [(.int p1), (.int p0)]) _ _ _
 refine wcn X0 hx hby dqn20_6 (flt (hb' : ¬ (p1 < p0))).2.2.1 ?_
 refine wilN X0 hx hby dqn20_9 rfl ?_
 refine wilN X0 hx hby dqn20_10 rfl ?_
 refine wcy (pc := 11) (pc' := 22) X0 hx hby dqn20_11 (flt (hc' : ¬ (p2 < p1))).2.2.2 (by decide) (by decide) ?_
 refine wilN X0 hx hby dqn20_22 rfl ?_
 show Ends _ _ _ _ s₁ (mkF m 23 #[ci p0, ci p1, ci p2, .val .null] [(.int p0)]) _ _ _
 refine Ends.ret X0 hx Bd.notSynchronized (t := .int) Bd.returns rfl (Or.inl ⟨rfl, by simp, _, rfl⟩) (hb hby dqn20_23) (by decide) (by decide) ?_
 exact ⟨rfl, N0, e0⟩
theorem dqr20_0 : decode jdk_41_method_12_code 0 = .ok (.iload_n 0, 1) := by decide +kernel
theorem dqr20_1 : decode jdk_41_method_12_code 1 = .ok (.ifCond .lt 13, 3) := by decide +kernel
theorem dqr20_4 : decode jdk_41_method_12_code 4 = .ok (.iload_n 0, 1) := by decide +kernel
theorem dqr20_5 : decode jdk_41_method_12_code 5 = .ok (.iload_n 1, 1) := by decide +kernel
theorem dqr20_6 : decode jdk_41_method_12_code 6 = .ok (.if_icmp .gt 8, 3) := by decide +kernel
theorem dqr20_9 : decode jdk_41_method_12_code 9 = .ok (.iload_n 1, 1) := by decide +kernel
theorem dqr20_10 : decode jdk_41_method_12_code 10 = .ok (.iload_n 2, 1) := by decide +kernel
theorem dqr20_11 : decode jdk_41_method_12_code 11 = .ok (.if_icmp .le 11, 3) := by decide +kernel
theorem dqr20_22 : decode jdk_41_method_12_code 22 = .ok (.iload_n 0, 1) := by decide +kernel
theorem dqr20_23 : decode jdk_41_method_12_code 23 = .ok (.ireturn, 1) := by decide +kernel
theorem pnqr20 : plainName "jdk/internal/util/Preconditions" = true := by first | (simp [plainName, overriddenIn]; done) | decide +kernel
theorem efqr20 (m : MethodId) (p0 : Int32) (p1 : Int32) (p2 : Int32) (o3 : Addr) : entryFrame m #[(.int p0), (.int p1), (.int p2), (.ref o3)] 4 = mkF m 0 #[.val (.int p0), .val (.int p1), .val (.int p2), .val (.ref o3)] [] := by first | (simp [entryFrame, mkF, argsToLocals, Value.category]; done) | rfl
set_option maxRecDepth 65536 in
set_option maxHeartbeats 40000000 in
theorem rm_checkFromToIndex_r (l : Launch) (Z : State) (a0 : Array Value) (hw : ∀ d ∈ tables_1, d.before a0 Z = true) (ws : List Jvm.Cond) (n0 : Nat) (h0 : Heap) (O0 : Old Z n0 h0) (p0 : Int32) (p1 : Int32) (p2 : Int32) (o3 : Addr) (ha : ¬ p0 < 0) (hb' : ¬ p1 < p0) (hc' : ¬ p2 < p1) :
  Meets1 l ym2 jdk_41_method_12_code 4 (some .int) ws ({ frames := 0, cells := 0, slots := 0, locals := 0 } : Room) #[(.int p0), (.int p1), (.int p2), (.ref o3)] Z h0 (fun v h L => v = some (.int p0) ∧ Fr n0 L ∧ h = h0) := by
 refine MetFree.of_bodySF (plainFor_of_name pnqr20) hisR ?_
 intro p e s m args below meth c s₁ Bd hml0 hP hK
 obtain ⟨rfl, hZ, hh⟩ := hP
 have hx := Bd.exec
 have hby := Bd.bytes
 have hml : c.maxLocals = 4 := hml0
 have hown : s.vm.findClass "jdk/internal/util/Preconditions" = some m.cls := findClass_of_methodNamed Bd.named
 have hnm := (name_of_methodNamed Bd.named Bd.method).1
 have X0 : Stand p l e ({ frames := 0, cells := 0, slots := 0, locals := 0 } : Room) s m #[(.int p0), (.int p1), (.int p2), (.ref o3)] below meth c s₁ [] 0 0 := Stand.of_body Bd
 have e0 : s₁.heap = h0 := by rw [← hh, Bd.state]; rfl
 have N0 := Fr.nil n0
 have Z0 := own_old_le O0
 show Ends _ _ _ _ s₁ (entryFrame m #[(.int p0), (.int p1), (.int p2), (.ref o3)] 4) ({ frames := 0, cells := 0, slots := 0, locals := 0 } : Room).cells ({ frames := 0, cells := 0, slots := 0, locals := 0 } : Room).slots (fun v h L => v = some (.int p0) ∧ Fr n0 L ∧ h = h0)
 refine Ends.go (fun _ k => castTop (efqr20 m p0 p1 p2 o3) k) ?_
 have K0 := Keep.refl h0 []
 refine wilN X0 hx hby dqr20_0 rfl ?_
 refine win X0 hx hby dqr20_1 ((if0 _ _).trans (flt (ha : ¬ (p0 < (0 : Int32)))).1) ?_
 refine wilN X0 hx hby dqr20_4 rfl ?_
 refine wilN X0 hx hby dqr20_5 rfl ?_
 show Ends _ _ _ _ s₁ (mkF m 6 #[ci p0, ci p1, ci p2, cr o3] [(.int p1), (.int p0)]) _ _ _
 refine wcn X0 hx hby dqr20_6 (flt (hb' : ¬ (p1 < p0))).2.2.1 ?_
 refine wilN X0 hx hby dqr20_9 rfl ?_
 refine wilN X0 hx hby dqr20_10 rfl ?_
 refine wcy (pc := 11) (pc' := 22) X0 hx hby dqr20_11 (flt (hc' : ¬ (p2 < p1))).2.2.2 (by decide) (by decide) ?_
 refine wilN X0 hx hby dqr20_22 rfl ?_
 show Ends _ _ _ _ s₁ (mkF m 23 #[ci p0, ci p1, ci p2, cr o3] [(.int p0)]) _ _ _
 refine Ends.ret X0 hx Bd.notSynchronized (t := .int) Bd.returns rfl (Or.inl ⟨rfl, by simp, _, rfl⟩) (hb hby dqr20_23) (by decide) (by decide) ?_
 exact ⟨rfl, N0, e0⟩
theorem dq19_0 : decode jdk_42_method_158_code 0 = .ok (.iload_n 0, 1) := by decide +kernel
theorem dq19_1 : decode jdk_42_method_158_code 1 = .ok (.iload_n 1, 1) := by decide +kernel
theorem dq19_2 : decode jdk_42_method_158_code 2 = .ok (.iload_n 2, 1) := by decide +kernel
theorem dq19_3 : decode jdk_42_method_158_code 3 = .ok (.getstatic 1053, 3) := by decide +kernel
theorem dq19_6 : decode jdk_42_method_158_code 6 = .ok (.invokestatic 1062, 3) := by decide +kernel
theorem dq19_9 : decode jdk_42_method_158_code 9 = .ok (.pop, 1) := by decide +kernel
theorem dq19_10 : decode jdk_42_method_158_code 10 = .ok (.return_, 1) := by decide +kernel
theorem pnq19 : plainName "java/lang/String" = true := by first | (simp [plainName, overriddenIn]; done) | decide +kernel
theorem pdq19_0 : parseMethodDescriptor "(IIILjava/util/function/BiFunction;)I" = some ⟨[.int, .int, .int, (.object "java/util/function/BiFunction")], some .int⟩ := by decide +kernel
theorem efq19 (m : MethodId) (p0 : Int32) (p1 : Int32) (p2 : Int32) : entryFrame m #[(.int p0), (.int p1), (.int p2)] 3 = mkF m 0 #[.val (.int p0), .val (.int p1), .val (.int p2)] [] := by first | (simp [entryFrame, mkF, argsToLocals, Value.category]; done) | rfl
set_option maxRecDepth 65536 in
set_option maxHeartbeats 40000000 in
theorem rm_checkBoundsBeginEnd (l : Launch) (Z : State) (a0 : Array Value) (hw : ∀ d ∈ tables_1, d.before a0 Z = true) (ws : List Jvm.Cond) (n0 : Nat) (h0 : Heap) (O0 : Old Z n0 h0) (p0 : Int32) (p1 : Int32) (p2 : Int32) (G1 : Int32) (G3 : Value) (GF : GlobF Z G1 G3) (ha : ¬ p0 < 0) (hb' : ¬ p1 < p0) (hc' : ¬ p2 < p1) :
  Meets1 l ym3 jdk_42_method_158_code 3 none ws ({ frames := 1, cells := 0, slots := 0, locals := 15 } : Room) #[(.int p0), (.int p1), (.int p2)] Z h0 (fun v h L => v = none ∧ Fr n0 L ∧ h = h0) := by
 refine MetFree.of_bodySF (plainFor_of_name pnq19) hisR ?_
 intro p e s m args below meth c s₁ Bd hml0 hP hK
 obtain ⟨rfl, hZ, hh⟩ := hP
 have hx := Bd.exec
 have hby := Bd.bytes
 have hml : c.maxLocals = 3 := hml0
 have hown : s.vm.findClass "java/lang/String" = some m.cls := findClass_of_methodNamed Bd.named
 have hnm := (name_of_methodNamed Bd.named Bd.method).1
 have X0 : Stand p l e ({ frames := 1, cells := 0, slots := 0, locals := 15 } : Room) s m #[(.int p0), (.int p1), (.int p2)] below meth c s₁ [] 0 0 := Stand.of_body Bd
 have e0 : s₁.heap = h0 := by rw [← hh, Bd.state]; rfl
 have N0 := Fr.nil n0
 have Z0 := own_old_le O0
 show Ends _ _ _ _ s₁ (entryFrame m #[(.int p0), (.int p1), (.int p2)] 3) ({ frames := 1, cells := 0, slots := 0, locals := 15 } : Room).cells ({ frames := 1, cells := 0, slots := 0, locals := 15 } : Room).slots (fun v h L => v = none ∧ Fr n0 L ∧ h = h0)
 refine Ends.go (fun _ k => castTop (efq19 m p0 p1 p2) k) ?_
 have K0 := Keep.refl h0 []
 obtain ⟨SCS, P5, SAD, SHI, SLO, SSF, RG3⟩ := id GF
 rcases ref_cases RG3 with rfl | ⟨fm, rfl⟩
 ·show Ends _ _ _ _ s₁ (mkF m 0 #[ci p0, ci p1, ci p2] []) _ _ _
  refine wilN X0 hx hby dq19_0 rfl ?_
  refine wilN X0 hx hby dq19_1 rfl ?_
  refine wilN X0 hx hby dq19_2 rfl ?_
  obtain ⟨T1, X1, e1, st1⟩ := getS2 X0 hx hZ hown (host := "") (Or.inl (ow hw 95 rfl)) Via.refl e0 (SSF.ext O0.2) (g := (mkF m 3 #[ci p0, ci p1, ci p2] [(.int p2), (.int p1), (.int p0)])) rfl (hb hby dq19_3)
  refine Ends.go st1 ?_
  show Ends _ _ _ _ T1 (mkF m 6 #[ci p0, ci p1, ci p2] [.null, (.int p2), (.int p1), (.int p0)]) _ _ _
  obtain ⟨_, _, ⟨T2, L2, k2, n2⟩, -, X2, ⟨Lc2, hQ2, l2, y2, z2⟩, st2⟩ := Jvm.LawKit.callS X1 hx (y := ym2) hown (mvT hZ (ow hw 97 rfl)) (mvT hZ (ow hw 98 rfl)) (mvT hZ (ow hw 96 rfl)) (mvT hZ (ow hw 99 rfl)) (by decide) (own_backOf (W := 0) (rm_checkFromToIndex_n l Z a0 hw [] n0 h0 O0 p0 p1 p2 ha hb' hc') hZ (ow hw 99 rfl) (ow hw 96 rfl) (by decide) (by decide)) (g := (mkF m 6 #[ci p0, ci p1, ci p2] [.null, (.int p2), (.int p1), (.int p0)])) rfl (by rw [hml]; rfl) (argsL := [(.int p0), (.int p1), (.int p2), .null]) (rest := []) (lenOf pdq19_0 rfl) rfl (by show 2 * 0 + _ ≤ _; exact Nat.le_of_eq rfl) (hb hby dq19_6) (fun _ _ => ⟨rfl, e1, (by decide : 0 + 0 ≤ _), (by decide : 0 + 0 ≤ _)⟩)
  dsimp only [Pt.U, Pt.locs, Pt.cells, Pt.slots] at X2 l2 y2 z2 st2 hQ2
  subst l2 y2 z2
  obtain ⟨rfl, N2q, e2q⟩ := hQ2
  have N2 := Fr.app N0 N2q
  refine Ends.go st2 ?_
  refine .go (fun _ => XS.pop X2.here hx rfl (hb hby dq19_9) rfl rfl) ?_
  refine Ends.retV X2 hx Bd.notSynchronized Bd.returns (hb hby dq19_10) (by decide) (by decide) ?_
  exact ⟨rfl, N2, e2q⟩
 ·show Ends _ _ _ _ s₁ (mkF m 0 #[ci p0, ci p1, ci p2] []) _ _ _
  refine wilN X0 hx hby dq19_0 rfl ?_
  refine wilN X0 hx hby dq19_1 rfl ?_
  show Ends _ _ _ _ s₁ (mkF m 2 #[ci p0, ci p1, ci p2] [(.int p1), (.int p0)]) _ _ _
  refine wilN X0 hx hby dq19_2 rfl ?_
  obtain ⟨T3, X3, e3, st3⟩ := getS2 X0 hx hZ hown (host := "") (Or.inl (ow hw 95 rfl)) Via.refl e0 (SSF.ext O0.2) (g := (mkF m 3 #[ci p0, ci p1, ci p2] [(.int p2), (.int p1), (.int p0)])) rfl (hb hby dq19_3)
  refine Ends.go st3 ?_
  obtain ⟨_, _, ⟨T4, L4, k4, n4⟩, -, X4, ⟨Lc4, hQ4, l4, y4, z4⟩, st4⟩ := Jvm.LawKit.callS X3 hx (y := ym2) hown (mvT hZ (ow hw 97 rfl)) (mvT hZ (ow hw 98 rfl)) (mvT hZ (ow hw 96 rfl)) (mvT hZ (ow hw 99 rfl)) (by decide) (own_backOf (W := 0) (rm_checkFromToIndex_r l Z a0 hw [] n0 h0 O0 p0 p1 p2 fm ha hb' hc') hZ (ow hw 99 rfl) (ow hw 96 rfl) (by decide) (by decide)) (g := (mkF m 6 #[ci p0, ci p1, ci p2] [(.ref fm), (.int p2), (.int p1), (.int p0)])) rfl (by rw [hml]; rfl) (argsL := [(.int p0), (.int p1), (.int p2), (.ref fm)]) (rest := []) (lenOf pdq19_0 rfl) rfl (by show 2 * 0 + _ ≤ _; exact Nat.le_of_eq rfl) (hb hby dq19_6) (fun _ _ => ⟨rfl, e3, (by decide : 0 + 0 ≤ _), (by decide : 0 + 0 ≤ _)⟩)
  dsimp only [Pt.U, Pt.locs, Pt.cells, Pt.slots] at X4 l4 y4 z4 st4 hQ4
  subst l4 y4 z4
  obtain ⟨rfl, N4q, e4q⟩ := hQ4
  have N4 := Fr.app N0 N4q
  refine Ends.go st4 ?_
  refine .go (fun _ => XS.pop X4.here hx rfl (hb hby dq19_9) rfl rfl) ?_
  refine Ends.retV X4 hx Bd.notSynchronized Bd.returns (hb hby dq19_10) (by decide) (by decide) ?_
  exact ⟨rfl, N4, e4q⟩
theorem dqn22_0 : decode jdk_41_method_13_code 0 = .ok (.iload_n 2, 1) := by decide +kernel
theorem dqn22_1 : decode jdk_41_method_13_code 1 = .ok (.iload_n 0, 1) := by decide +kernel
theorem dqn22_2 : decode jdk_41_method_13_code 2 = .ok (.ior, 1) := by decide +kernel
theorem dqn22_3 : decode jdk_41_method_13_code 3 = .ok (.iload_n 1, 1) := by decide +kernel
theorem dqn22_4 : decode jdk_41_method_13_code 4 = .ok (.ior, 1) := by decide +kernel
theorem dqn22_5 : decode jdk_41_method_13_code 5 = .ok (.ifCond .lt 10, 3) := by decide +kernel
theorem dqn22_8 : decode jdk_41_method_13_code 8 = .ok (.iload_n 1, 1) := by decide +kernel
theorem dqn22_9 : decode jdk_41_method_13_code 9 = .ok (.iload_n 2, 1) := by decide +kernel
theorem dqn22_10 : decode jdk_41_method_13_code 10 = .ok (.iload_n 0, 1) := by decide +kernel
theorem dqn22_11 : decode jdk_41_method_13_code 11 = .ok (.isub, 1) := by decide +kernel
theorem dqn22_12 : decode jdk_41_method_13_code 12 = .ok (.if_icmp .le 11, 3) := by decide +kernel
theorem dqn22_23 : decode jdk_41_method_13_code 23 = .ok (.iload_n 0, 1) := by decide +kernel
theorem dqn22_24 : decode jdk_41_method_13_code 24 = .ok (.ireturn, 1) := by decide +kernel
theorem pnqn22 : plainName "jdk/internal/util/Preconditions" = true := by first | (simp [plainName, overriddenIn]; done) | decide +kernel
theorem efqn22 (m : MethodId) (p0 : Int32) (p1 : Int32) (p2 : Int32) : entryFrame m #[(.int p0), (.int p1), (.int p2), .null] 4 = mkF m 0 #[.val (.int p0), .val (.int p1), .val (.int p2), .val .null] [] := by first | (simp [entryFrame, mkF, argsToLocals, Value.category]; done) | rfl
set_option maxRecDepth 65536 in
set_option maxHeartbeats 40000000 in
theorem rm_checkFromIndexSize_n (l : Launch) (Z : State) (a0 : Array Value) (hw : ∀ d ∈ tables_1, d.before a0 Z = true) (ws : List Jvm.Cond) (n0 : Nat) (h0 : Heap) (O0 : Old Z n0 h0) (p0 : Int32) (p1 : Int32) (p2 : Int32) (ha : ¬ ((p2 ||| p0) ||| p1) < 0) (hb' : ¬ (p2 - p0) < p1) :
  Meets1 l ym4 jdk_41_method_13_code 4 (some .int) ws ({ frames := 0, cells := 0, slots := 0, locals := 0 } : Room) #[(.int p0), (.int p1), (.int p2), .null] Z h0 (fun v h L => v = some (.int p0) ∧ Fr n0 L ∧ h = h0) := by
 refine MetFree.of_bodySF (plainFor_of_name pnqn22) hisR ?_
 intro p e s m args below meth c s₁ Bd hml0 hP hK
 obtain ⟨rfl, hZ, hh⟩ := hP
 have hx := Bd.exec
 have hby := Bd.bytes
 have hml : c.maxLocals = 4 := hml0
 have hown : s.vm.findClass "jdk/internal/util/Preconditions" = some m.cls := findClass_of_methodNamed Bd.named
 have hnm := (name_of_methodNamed Bd.named Bd.method).1
 have X0 : Stand p l e ({ frames := 0, cells := 0, slots := 0, locals := 0 } : Room) s m #[(.int p0), (.int p1), (.int p2), .null] below meth c s₁ [] 0 0 := Stand.of_body Bd
 have e0 : s₁.heap = h0 := by rw [← hh, Bd.state]; rfl
 have N0 := Fr.nil n0
 have Z0 := own_old_le O0
 show Ends _ _ _ _ s₁ (entryFrame m #[(.int p0), (.int p1), (.int p2), .null] 4) ({ frames := 0, cells := 0, slots := 0, locals := 0 } : Room).cells ({ frames := 0, cells := 0, slots := 0, locals := 0 } : Room).slots (fun v h L => v = some (.int p0) ∧ Fr n0 L ∧ h = h0)
 refine Ends.go (fun _ k => castTop (efqn22 m p0 p1 p2) k) ?_
 have K0 := Keep.refl h0 []
 refine wilN X0 hx hby dqn22_0 rfl ?_
 refine wilN X0 hx hby dqn22_1 rfl ?_
 refine .go (fun _ => XS.ior X0.here hx rfl (hb hby dqn22_2) rfl) ?_
 refine wilN X0 hx hby dqn22_3 rfl ?_
 show Ends _ _ _ _ s₁ (mkF m 4 #[ci p0, ci p1, ci p2, .val .null] [(.int p1), (.int (p2 ||| p0))]) _ _ _
 refine .go (fun _ => XS.ior X0.here hx rfl (hb hby dqn22_4) rfl) ?_
 refine win X0 hx hby dqn22_5 ((if0 _ _).trans (flt (ha : ¬ (((p2 ||| p0) ||| p1) < (0 : Int32)))).1) ?_
 refine wilN X0 hx hby dqn22_8 rfl ?_
 refine wilN X0 hx hby dqn22_9 rfl ?_
 refine wilN X0 hx hby dqn22_10 rfl ?_
 show Ends _ _ _ _ s₁ (mkF m 11 #[ci p0, ci p1, ci p2, .val .null] [(.int p0), (.int p2), (.int p1)]) _ _ _
 refine wis X0 hx hby dqn22_11 ?_
 refine wcy (pc := 12) (pc' := 23) X0 hx hby dqn22_12 (flt (hb' : ¬ ((p2 - p0) < p1))).2.2.2 (by decide) (by decide) ?_
 refine wilN X0 hx hby dqn22_23 rfl ?_
 refine Ends.ret X0 hx Bd.notSynchronized (t := .int) Bd.returns rfl (Or.inl ⟨rfl, by simp, _, rfl⟩) (hb hby dqn22_24) (by decide) (by decide) ?_
 exact ⟨rfl, N0, e0⟩
theorem dqr22_0 : decode jdk_41_method_13_code 0 = .ok (.iload_n 2, 1) := by decide +kernel
theorem dqr22_1 : decode jdk_41_method_13_code 1 = .ok (.iload_n 0, 1) := by decide +kernel
theorem dqr22_2 : decode jdk_41_method_13_code 2 = .ok (.ior, 1) := by decide +kernel
theorem dqr22_3 : decode jdk_41_method_13_code 3 = .ok (.iload_n 1, 1) := by decide +kernel
theorem dqr22_4 : decode jdk_41_method_13_code 4 = .ok (.ior, 1) := by decide +kernel
theorem dqr22_5 : decode jdk_41_method_13_code 5 = .ok (.ifCond .lt 10, 3) := by decide +kernel
theorem dqr22_8 : decode jdk_41_method_13_code 8 = .ok (.iload_n 1, 1) := by decide +kernel
theorem dqr22_9 : decode jdk_41_method_13_code 9 = .ok (.iload_n 2, 1) := by decide +kernel
theorem dqr22_10 : decode jdk_41_method_13_code 10 = .ok (.iload_n 0, 1) := by decide +kernel
theorem dqr22_11 : decode jdk_41_method_13_code 11 = .ok (.isub, 1) := by decide +kernel
theorem dqr22_12 : decode jdk_41_method_13_code 12 = .ok (.if_icmp .le 11, 3) := by decide +kernel
theorem dqr22_23 : decode jdk_41_method_13_code 23 = .ok (.iload_n 0, 1) := by decide +kernel
theorem dqr22_24 : decode jdk_41_method_13_code 24 = .ok (.ireturn, 1) := by decide +kernel
theorem pnqr22 : plainName "jdk/internal/util/Preconditions" = true := by first | (simp [plainName, overriddenIn]; done) | decide +kernel
theorem efqr22 (m : MethodId) (p0 : Int32) (p1 : Int32) (p2 : Int32) (o3 : Addr) : entryFrame m #[(.int p0), (.int p1), (.int p2), (.ref o3)] 4 = mkF m 0 #[.val (.int p0), .val (.int p1), .val (.int p2), .val (.ref o3)] [] := by first | (simp [entryFrame, mkF, argsToLocals, Value.category]; done) | rfl
set_option maxRecDepth 65536 in
set_option maxHeartbeats 40000000 in
theorem rm_checkFromIndexSize_r (l : Launch) (Z : State) (a0 : Array Value) (hw : ∀ d ∈ tables_1, d.before a0 Z = true) (ws : List Jvm.Cond) (n0 : Nat) (h0 : Heap) (O0 : Old Z n0 h0) (p0 : Int32) (p1 : Int32) (p2 : Int32) (o3 : Addr) (ha : ¬ ((p2 ||| p0) ||| p1) < 0) (hb' : ¬ (p2 - p0) < p1) :
  Meets1 l ym4 jdk_41_method_13_code 4 (some .int) ws ({ frames := 0, cells := 0, slots := 0, locals := 0 } : Room) #[(.int p0), (.int p1), (.int p2), (.ref o3)] Z h0 (fun v h L => v = some (.int p0) ∧ Fr n0 L ∧ h = h0) := by
 refine MetFree.of_bodySF (plainFor_of_name pnqr22) hisR ?_
 intro p e s m args below meth c s₁ Bd hml0 hP hK
 obtain ⟨rfl, hZ, hh⟩ := hP
 have hx := Bd.exec
 have hby := Bd.bytes
 have hml : c.maxLocals = 4 := hml0
 have hown : s.vm.findClass "jdk/internal/util/Preconditions" = some m.cls := findClass_of_methodNamed Bd.named
 have hnm := (name_of_methodNamed Bd.named Bd.method).1
 have X0 : Stand p l e ({ frames := 0, cells := 0, slots := 0, locals := 0 } : Room) s m #[(.int p0), (.int p1), (.int p2), (.ref o3)] below meth c s₁ [] 0 0 := Stand.of_body Bd
 have e0 : s₁.heap = h0 := by rw [← hh, Bd.state]; rfl
 have N0 := Fr.nil n0
 have Z0 := own_old_le O0
 show Ends _ _ _ _ s₁ (entryFrame m #[(.int p0), (.int p1), (.int p2), (.ref o3)] 4) ({ frames := 0, cells := 0, slots := 0, locals := 0 } : Room).cells ({ frames := 0, cells := 0, slots := 0, locals := 0 } : Room).slots (fun v h L => v = some (.int p0) ∧ Fr n0 L ∧ h = h0)
 refine Ends.go (fun _ k => castTop (efqr22 m p0 p1 p2 o3) k) ?_
 have K0 := Keep.refl h0 []
 refine wilN X0 hx hby dqr22_0 rfl ?_
 refine wilN X0 hx hby dqr22_1 rfl ?_
 refine .go (fun _ => XS.ior X0.here hx rfl (hb hby dqr22_2) rfl) ?_
 refine wilN X0 hx hby dqr22_3 rfl ?_
 show Ends _ _ _ _ s₁ (mkF m 4 #[ci p0, ci p1, ci p2, cr o3] [(.int p1), (.int (p2 ||| p0))]) _ _ _
 refine .go (fun _ => XS.ior X0.here hx rfl (hb hby dqr22_4) rfl) ?_
 refine win X0 hx hby dqr22_5 ((if0 _ _).trans (flt (ha : ¬ (((p2 ||| p0) ||| p1) < (0 : Int32)))).1) ?_
 refine wilN X0 hx hby dqr22_8 rfl ?_
 refine wilN X0 hx hby dqr22_9 rfl ?_
 refine wilN X0 hx hby dqr22_10 rfl ?_
 show Ends _ _ _ _ s₁ (mkF m 11 #[ci p0, ci p1, ci p2, cr o3] [(.int p0), (.int p2), (.int p1)]) _ _ _
 refine wis X0 hx hby dqr22_11 ?_
 refine wcy (pc := 12) (pc' := 23) X0 hx hby dqr22_12 (flt (hb' : ¬ ((p2 - p0) < p1))).2.2.2 (by decide) (by decide) ?_
 refine wilN X0 hx hby dqr22_23 rfl ?_
 refine Ends.ret X0 hx Bd.notSynchronized (t := .int) Bd.returns rfl (Or.inl ⟨rfl, by simp, _, rfl⟩) (hb hby dqr22_24) (by decide) (by decide) ?_
 exact ⟨rfl, N0, e0⟩
theorem dq21_0 : decode jdk_42_method_157_code 0 = .ok (.iload_n 0, 1) := by decide +kernel
theorem dq21_1 : decode jdk_42_method_157_code 1 = .ok (.iload_n 1, 1) := by decide +kernel
theorem dq21_2 : decode jdk_42_method_157_code 2 = .ok (.iload_n 2, 1) := by decide +kernel
theorem dq21_3 : decode jdk_42_method_157_code 3 = .ok (.getstatic 1053, 3) := by decide +kernel
theorem dq21_6 : decode jdk_42_method_157_code 6 = .ok (.invokestatic 1065, 3) := by decide +kernel
theorem dq21_9 : decode jdk_42_method_157_code 9 = .ok (.ireturn, 1) := by decide +kernel
theorem pnq21 : plainName "java/lang/String" = true := by first | (simp [plainName, overriddenIn]; done) | decide +kernel
theorem pdq21_0 : parseMethodDescriptor "(IIILjava/util/function/BiFunction;)I" = some ⟨[.int, .int, .int, (.object "java/util/function/BiFunction")], some .int⟩ := by decide +kernel
theorem efq21 (m : MethodId) (p0 : Int32) (p1 : Int32) (p2 : Int32) : entryFrame m #[(.int p0), (.int p1), (.int p2)] 3 = mkF m 0 #[.val (.int p0), .val (.int p1), .val (.int p2)] [] := by first | (simp [entryFrame, mkF, argsToLocals, Value.category]; done) | rfl
set_option maxRecDepth 65536 in
set_option maxHeartbeats 40000000 in
theorem rm_checkBoundsOffCount (l : Launch) (Z : State) (a0 : Array Value) (hw : ∀ d ∈ tables_1, d.before a0 Z = true) (ws : List Jvm.Cond) (n0 : Nat) (h0 : Heap) (O0 : Old Z n0 h0) (p0 : Int32) (p1 : Int32) (p2 : Int32) (G1 : Int32) (G3 : Value) (GF : GlobF Z G1 G3) (ha : ¬ ((p2 ||| p0) ||| p1) < 0) (hb' : ¬ (p2 - p0) < p1) :
  Meets1 l ym5 jdk_42_method_157_code 3 (some .int) ws ({ frames := 1, cells := 0, slots := 0, locals := 15 } : Room) #[(.int p0), (.int p1), (.int p2)] Z h0 (fun v h L => v = some (.int p0) ∧ Fr n0 L ∧ h = h0) := by
 refine MetFree.of_bodySF (plainFor_of_name pnq21) hisR ?_
 intro p e s m args below meth c s₁ Bd hml0 hP hK
 obtain ⟨rfl, hZ, hh⟩ := hP
 have hx := Bd.exec
 have hby := Bd.bytes
 have hml : c.maxLocals = 3 := hml0
 have hown : s.vm.findClass "java/lang/String" = some m.cls := findClass_of_methodNamed Bd.named
 have hnm := (name_of_methodNamed Bd.named Bd.method).1
 have X0 : Stand p l e ({ frames := 1, cells := 0, slots := 0, locals := 15 } : Room) s m #[(.int p0), (.int p1), (.int p2)] below meth c s₁ [] 0 0 := Stand.of_body Bd
 have e0 : s₁.heap = h0 := by rw [← hh, Bd.state]; rfl
 have N0 := Fr.nil n0
 have Z0 := own_old_le O0
 show Ends _ _ _ _ s₁ (entryFrame m #[(.int p0), (.int p1), (.int p2)] 3) ({ frames := 1, cells := 0, slots := 0, locals := 15 } : Room).cells ({ frames := 1, cells := 0, slots := 0, locals := 15 } : Room).slots (fun v h L => v = some (.int p0) ∧ Fr n0 L ∧ h = h0)
 refine Ends.go (fun _ k => castTop (efq21 m p0 p1 p2) k) ?_
 have K0 := Keep.refl h0 []
 obtain ⟨SCS, P5, SAD, SHI, SLO, SSF, RG3⟩ := id GF
 rcases ref_cases RG3 with rfl | ⟨fm, rfl⟩
 ·show Ends _ _ _ _ s₁ (mkF m 0 #[ci p0, ci p1, ci p2] []) _ _ _
  refine wilN X0 hx hby dq21_0 rfl ?_
  refine wilN X0 hx hby dq21_1 rfl ?_
  refine wilN X0 hx hby dq21_2 rfl ?_
  obtain ⟨T1, X1, e1, st1⟩ := getS2 X0 hx hZ hown (host := "") (Or.inl (ow hw 95 rfl)) Via.refl e0 (SSF.ext O0.2) (g := (mkF m 3 #[ci p0, ci p1, ci p2] [(.int p2), (.int p1), (.int p0)])) rfl (hb hby dq21_3)
  refine Ends.go st1 ?_
  show Ends _ _ _ _ T1 (mkF m 6 #[ci p0, ci p1, ci p2] [.null, (.int p2), (.int p1), (.int p0)]) _ _ _
  obtain ⟨_, _, ⟨T2, L2, k2, n2⟩, -, X2, ⟨Lc2, hQ2, l2, y2, z2⟩, st2⟩ := Jvm.LawKit.callS X1 hx (y := ym4) hown (mvT hZ (ow hw 103 rfl)) (mvT hZ (ow hw 104 rfl)) (mvT hZ (ow hw 96 rfl)) (mvT hZ (ow hw 105 rfl)) (by decide) (own_backOf (W := 0) (rm_checkFromIndexSize_n l Z a0 hw [] n0 h0 O0 p0 p1 p2 ha hb') hZ (ow hw 105 rfl) (ow hw 96 rfl) (by decide) (by decide)) (g := (mkF m 6 #[ci p0, ci p1, ci p2] [.null, (.int p2), (.int p1), (.int p0)])) rfl (by rw [hml]; rfl) (argsL := [(.int p0), (.int p1), (.int p2), .null]) (rest := []) (lenOf pdq21_0 rfl) rfl (by show 2 * 0 + _ ≤ _; exact Nat.le_of_eq rfl) (hb hby dq21_6) (fun _ _ => ⟨rfl, e1, (by decide : 0 + 0 ≤ _), (by decide : 0 + 0 ≤ _)⟩)
  dsimp only [Pt.U, Pt.locs, Pt.cells, Pt.slots] at X2 l2 y2 z2 st2 hQ2
  subst l2 y2 z2
  obtain ⟨rfl, N2q, e2q⟩ := hQ2
  have N2 := Fr.app N0 N2q
  refine Ends.go st2 ?_
  refine Ends.ret X2 hx Bd.notSynchronized (t := .int) Bd.returns rfl (Or.inl ⟨rfl, by simp, _, rfl⟩) (hb hby dq21_9) (by decide) (by decide) ?_
  exact ⟨rfl, N2, e2q⟩
 ·show Ends _ _ _ _ s₁ (mkF m 0 #[ci p0, ci p1, ci p2] []) _ _ _
  refine wilN X0 hx hby dq21_0 rfl ?_
  refine wilN X0 hx hby dq21_1 rfl ?_
  refine wilN X0 hx hby dq21_2 rfl ?_
  show Ends _ _ _ _ s₁ (mkF m 3 #[ci p0, ci p1, ci p2] [(.int p2), (.int p1), (.int p0)]) _ _ _
  obtain ⟨T3, X3, e3, st3⟩ := getS2 X0 hx hZ hown (host := "") (Or.inl (ow hw 95 rfl)) Via.refl e0 (SSF.ext O0.2) (g := (mkF m 3 #[ci p0, ci p1, ci p2] [(.int p2), (.int p1), (.int p0)])) rfl (hb hby dq21_3)
  refine Ends.go st3 ?_
  obtain ⟨_, _, ⟨T4, L4, k4, n4⟩, -, X4, ⟨Lc4, hQ4, l4, y4, z4⟩, st4⟩ := Jvm.LawKit.callS X3 hx (y := ym4) hown (mvT hZ (ow hw 103 rfl)) (mvT hZ (ow hw 104 rfl)) (mvT hZ (ow hw 96 rfl)) (mvT hZ (ow hw 105 rfl)) (by decide) (own_backOf (W := 0) (rm_checkFromIndexSize_r l Z a0 hw [] n0 h0 O0 p0 p1 p2 fm ha hb') hZ (ow hw 105 rfl) (ow hw 96 rfl) (by decide) (by decide)) (g := (mkF m 6 #[ci p0, ci p1, ci p2] [(.ref fm), (.int p2), (.int p1), (.int p0)])) rfl (by rw [hml]; rfl) (argsL := [(.int p0), (.int p1), (.int p2), (.ref fm)]) (rest := []) (lenOf pdq21_0 rfl) rfl (by show 2 * 0 + _ ≤ _; exact Nat.le_of_eq rfl) (hb hby dq21_6) (fun _ _ => ⟨rfl, e3, (by decide : 0 + 0 ≤ _), (by decide : 0 + 0 ≤ _)⟩)
  dsimp only [Pt.U, Pt.locs, Pt.cells, Pt.slots] at X4 l4 y4 z4 st4 hQ4
  subst l4 y4 z4
  obtain ⟨rfl, N4q, e4q⟩ := hQ4
  have N4 := Fr.app N0 N4q
  refine Ends.go st4 ?_
  refine Ends.ret X4 hx Bd.notSynchronized (t := .int) Bd.returns rfl (Or.inl ⟨rfl, by simp, _, rfl⟩) (hb hby dq21_9) (by decide) (by decide) ?_
  exact ⟨rfl, N4, e4q⟩
theorem d28_0 : decode prog_85_method_12_code 0 = .ok (.aload_n 0, 1) := by decide +kernel
theorem d28_1 : decode prog_85_method_12_code 1 = .ok (.getfield 37, 3) := by decide +kernel
theorem d28_4 : decode prog_85_method_12_code 4 = .ok (.istore 4, 2) := by decide +kernel
theorem d28_6 : decode prog_85_method_12_code 6 = .ok (.aload_n 0, 1) := by decide +kernel
theorem d28_7 : decode prog_85_method_12_code 7 = .ok (.getfield 25, 3) := by decide +kernel
theorem d28_10 : decode prog_85_method_12_code 10 = .ok (.astore 5, 2) := by decide +kernel
theorem d28_12 : decode prog_85_method_12_code 12 = .ok (.aload_n 0, 1) := by decide +kernel
theorem d28_13 : decode prog_85_method_12_code 13 = .ok (.getfield 29, 3) := by decide +kernel
theorem d28_16 : decode prog_85_method_12_code 16 = .ok (.iload 4, 2) := by decide +kernel
theorem d28_18 : decode prog_85_method_12_code 18 = .ok (.isub, 1) := by decide +kernel
theorem d28_19 : decode prog_85_method_12_code 19 = .ok (.iload_n 3, 1) := by decide +kernel
theorem d28_20 : decode prog_85_method_12_code 20 = .ok (.if_icmp .lt 92, 3) := by decide +kernel
theorem d28_23 : decode prog_85_method_12_code 23 = .ok (.aload 5, 2) := by decide +kernel
theorem d28_25 : decode prog_85_method_12_code 25 = .ok (.iload 4, 2) := by decide +kernel
theorem d28_27 : decode prog_85_method_12_code 27 = .ok (.iconst 1, 1) := by decide +kernel
theorem d28_28 : decode prog_85_method_12_code 28 = .ok (.iadd, 1) := by decide +kernel
theorem d28_29 : decode prog_85_method_12_code 29 = .ok (.caload, 1) := by decide +kernel
theorem d28_30 : decode prog_85_method_12_code 30 = .ok (.lload_n 1, 1) := by decide +kernel
theorem d28_31 : decode prog_85_method_12_code 31 = .ok (.bipush 8, 2) := by decide +kernel
theorem d28_33 : decode prog_85_method_12_code 33 = .ok (.lushr, 1) := by decide +kernel
theorem d28_34 : decode prog_85_method_12_code 34 = .ok (.ldc2_w 123, 3) := by decide +kernel
theorem d28_37 : decode prog_85_method_12_code 37 = .ok (.land, 1) := by decide +kernel
theorem d28_38 : decode prog_85_method_12_code 38 = .ok (.l2i, 1) := by decide +kernel
theorem d28_39 : decode prog_85_method_12_code 39 = .ok (.i2c, 1) := by decide +kernel
theorem d28_40 : decode prog_85_method_12_code 40 = .ok (.if_icmp .ne 72, 3) := by decide +kernel
theorem d28_43 : decode prog_85_method_12_code 43 = .ok (.aload 5, 2) := by decide +kernel
theorem d28_45 : decode prog_85_method_12_code 45 = .ok (.iload 4, 2) := by decide +kernel
theorem d28_47 : decode prog_85_method_12_code 47 = .ok (.iconst 2, 1) := by decide +kernel
theorem d28_48 : decode prog_85_method_12_code 48 = .ok (.iadd, 1) := by decide +kernel
theorem d28_49 : decode prog_85_method_12_code 49 = .ok (.caload, 1) := by decide +kernel
theorem d28_50 : decode prog_85_method_12_code 50 = .ok (.lload_n 1, 1) := by decide +kernel
theorem d28_51 : decode prog_85_method_12_code 51 = .ok (.bipush 16, 2) := by decide +kernel
theorem d28_53 : decode prog_85_method_12_code 53 = .ok (.lushr, 1) := by decide +kernel
theorem d28_54 : decode prog_85_method_12_code 54 = .ok (.ldc2_w 123, 3) := by decide +kernel
theorem d28_57 : decode prog_85_method_12_code 57 = .ok (.land, 1) := by decide +kernel
theorem d28_58 : decode prog_85_method_12_code 58 = .ok (.l2i, 1) := by decide +kernel
theorem d28_59 : decode prog_85_method_12_code 59 = .ok (.i2c, 1) := by decide +kernel
theorem d28_60 : decode prog_85_method_12_code 60 = .ok (.if_icmp .ne 52, 3) := by decide +kernel
theorem d28_63 : decode prog_85_method_12_code 63 = .ok (.aload 5, 2) := by decide +kernel
theorem d28_65 : decode prog_85_method_12_code 65 = .ok (.iload 4, 2) := by decide +kernel
theorem d28_67 : decode prog_85_method_12_code 67 = .ok (.iconst 3, 1) := by decide +kernel
theorem d28_68 : decode prog_85_method_12_code 68 = .ok (.iadd, 1) := by decide +kernel
theorem d28_69 : decode prog_85_method_12_code 69 = .ok (.caload, 1) := by decide +kernel
theorem d28_70 : decode prog_85_method_12_code 70 = .ok (.lload_n 1, 1) := by decide +kernel
theorem d28_71 : decode prog_85_method_12_code 71 = .ok (.bipush 24, 2) := by decide +kernel
theorem d28_73 : decode prog_85_method_12_code 73 = .ok (.lushr, 1) := by decide +kernel
theorem d28_74 : decode prog_85_method_12_code 74 = .ok (.ldc2_w 123, 3) := by decide +kernel
theorem d28_77 : decode prog_85_method_12_code 77 = .ok (.land, 1) := by decide +kernel
theorem d28_78 : decode prog_85_method_12_code 78 = .ok (.l2i, 1) := by decide +kernel
theorem d28_79 : decode prog_85_method_12_code 79 = .ok (.i2c, 1) := by decide +kernel
theorem d28_80 : decode prog_85_method_12_code 80 = .ok (.if_icmp .ne 32, 3) := by decide +kernel
theorem d28_83 : decode prog_85_method_12_code 83 = .ok (.iload_n 3, 1) := by decide +kernel
theorem d28_84 : decode prog_85_method_12_code 84 = .ok (.iconst 4, 1) := by decide +kernel
theorem d28_85 : decode prog_85_method_12_code 85 = .ok (.if_icmp .eq 23, 3) := by decide +kernel
theorem d28_108 : decode prog_85_method_12_code 108 = .ok (.iconst 1, 1) := by decide +kernel
theorem d28_109 : decode prog_85_method_12_code 109 = .ok (.goto 4, 3) := by decide +kernel
theorem d28_112 : decode prog_85_method_12_code 112 = .ok (.iconst 0, 1) := by decide +kernel
theorem d28_113 : decode prog_85_method_12_code 113 = .ok (.istore 6, 2) := by decide +kernel
theorem d28_115 : decode prog_85_method_12_code 115 = .ok (.iload 6, 2) := by decide +kernel
theorem d28_117 : decode prog_85_method_12_code 117 = .ok (.ifCond .eq 11, 3) := by decide +kernel
theorem d28_120 : decode prog_85_method_12_code 120 = .ok (.aload_n 0, 1) := by decide +kernel
theorem d28_121 : decode prog_85_method_12_code 121 = .ok (.iload 4, 2) := by decide +kernel
theorem d28_123 : decode prog_85_method_12_code 123 = .ok (.iload_n 3, 1) := by decide +kernel
theorem d28_124 : decode prog_85_method_12_code 124 = .ok (.iadd, 1) := by decide +kernel
theorem d28_125 : decode prog_85_method_12_code 125 = .ok (.putfield 37, 3) := by decide +kernel
theorem d28_128 : decode prog_85_method_12_code 128 = .ok (.iload 6, 2) := by decide +kernel
theorem d28_130 : decode prog_85_method_12_code 130 = .ok (.ireturn, 1) := by decide +kernel
theorem pn28 : plainName "com/example/ratatoskr/ratatoskr/core/internal/StringInput" = true := by first | (simp [plainName, overriddenIn]; done) | decide +kernel
theorem ef28_rji (m : MethodId) (x0 : Addr) (x1 : Int64) (x2 : Int32) : entryFrame m #[(.ref x0), (.long x1), (.int x2)] 7 = mkF m 0 #[.val (.ref x0), .val (.long x1), .second, .val (.int x2), .unset, .unset, .unset] [] := by first | (simp [entryFrame, mkF, argsToLocals, Value.category]; done) | rfl
set_option maxRecDepth 65536 in
set_option maxHeartbeats 40000000 in
theorem rmW_0_4 (l : Launch) (Z : State) (a0 : Array Value) (hw : ∀ d ∈ tables_1, d.before a0 Z = true) (ws : List Jvm.Cond) (n0 : Nat) (h0 : Heap) (O0 : Old Z n0 h0)  (o0 xa_ : Addr) (kxa_ : ClassId) (q0 : Int64) (c0_ c1_ c2_ c3_ c4_ c5_ c6_ : Int32) (g_o0 : n0 ≤ o0) (hox : o0 ≠ xa_) (E0 : Exa Z h0 o0 cSI) (Fl : Fld Z h0 o0 cSI "limit" "I" (.int 7)) (Fp : Fld Z h0 o0 cSI "position" "I" (.int 0)) (Fb : Fld Z h0 o0 cSI "base" "I" (.int 0)) (Fc : Fld Z h0 o0 cSI "chars" "[C" (.ref xa_)) (Vx : Arv Z h0 xa_ kxa_ .char (7 : Int32) [(.int c0_), (.int c1_), (.int c2_), (.int c3_), (.int c4_), (.int c5_), (.int c6_)] (.int 0)) :
  Meets1 l ym6 prog_85_method_12_code 7 (some .boolean) ws ({ frames := 0, cells := 0, slots := 0, locals := 0 } : Room) #[(.ref o0), (.long q0), (.int 4)] Z h0 (fun v h L => ∃ r : Int32, v = some (.int r) ∧ Fr n0 L ∧ Keep h0 h [o0] ∧ Exa Z h o0 cSI ∧ Fld Z h o0 cSI "base" "I" (.int 0) ∧ ((r = 1 ∧ own_spec c0_ c1_ c2_ c3_ c4_ c5_ c6_ q0 0 4 ∧ Fld Z h o0 cSI "position" "I" (.int 4)) ∨ (r = 0 ∧ ¬ own_spec c0_ c1_ c2_ c3_ c4_ c5_ c6_ q0 0 4 ∧ Fld Z h o0 cSI "position" "I" (.int 0)))) := by
 refine MetFree.of_bodySF (plainFor_of_name pn28) hisR ?_
 intro p e s m args below meth c s₁ Bd hml0 hP hK
 obtain ⟨rfl, hZ, hh⟩ := hP
 have hx := Bd.exec
 have hby := Bd.bytes
 have hml : c.maxLocals = 7 := hml0
 have hown : s.vm.findClass "com/example/ratatoskr/ratatoskr/core/internal/StringInput" = some m.cls := findClass_of_methodNamed Bd.named
 have hnm := (name_of_methodNamed Bd.named Bd.method).1
 have X0 : Stand p l e ({ frames := 0, cells := 0, slots := 0, locals := 0 } : Room) s m #[(.ref o0), (.long q0), (.int 4)] below meth c s₁ [] 0 0 := Stand.of_body Bd
 have e0 : s₁.heap = h0 := by rw [← hh, Bd.state]; rfl
 have N0 := Fr.nil n0
 have Z0 := own_old_le O0
 show Ends _ _ _ _ s₁ (entryFrame m #[(.ref o0), (.long q0), (.int 4)] 7) ({ frames := 0, cells := 0, slots := 0, locals := 0 } : Room).cells ({ frames := 0, cells := 0, slots := 0, locals := 0 } : Room).slots (fun v h L => ∃ r : Int32, v = some (.int r) ∧ Fr n0 L ∧ Keep h0 h [o0] ∧ Exa Z h o0 cSI ∧ Fld Z h o0 cSI "base" "I" (.int 0) ∧ ((r = 1 ∧ own_spec c0_ c1_ c2_ c3_ c4_ c5_ c6_ q0 0 4 ∧ Fld Z h o0 cSI "position" "I" (.int 4)) ∨ (r = 0 ∧ ¬ own_spec c0_ c1_ c2_ c3_ c4_ c5_ c6_ q0 0 4 ∧ Fld Z h o0 cSI "position" "I" (.int 0))))
 refine Ends.go (fun _ k => castTop (ef28_rji m o0 q0 (4 : Int32)) k) ?_
 have K0 := Keep.refl h0 [o0]
 refine walN X0 hx hby d28_0 rfl rfl ?_
 obtain ⟨T64, X64, e64, st64⟩ := getF X0 hx hZ hown (host := "") (Or.inl (ow hw 126 rfl)) Via.refl e0 Fp (g := (mkF m 1 #[cr o0, cj q0, cs, ci 4, cu, cu, cu] [(.ref o0)])) rfl rfl (hb hby d28_1)
 refine Ends.go st64 ?_
 refine wst X64 hx hby d28_4 (l' := #[cr o0, cj q0, cs, ci 4, ci 0, cu, cu]) rfl ?_
 refine walN X64 hx hby d28_6 rfl rfl ?_
 show Ends _ _ _ _ T64 (mkF m 7 #[cr o0, cj q0, cs, ci 4, ci 0, cu, cu] [(.ref o0)]) _ _ _
 obtain ⟨T65, X65, e65, st65⟩ := getF X64 hx hZ hown (host := "") (Or.inl (ow hw 82 rfl)) Via.refl e64 Fc (g := (mkF m 7 #[cr o0, cj q0, cs, ci 4, ci 0, cu, cu] [(.ref o0)])) rfl rfl (hb hby d28_7)
 refine Ends.go st65 ?_
 refine was X65 hx hby d28_10 (l' := #[cr o0, cj q0, cs, ci 4, ci 0, cr xa_, cu]) rfl rfl ?_
 refine walN X65 hx hby d28_12 rfl rfl ?_
 obtain ⟨T66, X66, e66, st66⟩ := getF X65 hx hZ hown (host := "") (Or.inl (ow hw 84 rfl)) Via.refl e65 Fl (g := (mkF m 13 #[cr o0, cj q0, cs, ci 4, ci 0, cr xa_, cu] [(.ref o0)])) rfl rfl (hb hby d28_13)
 refine Ends.go st66 ?_
 refine wil X66 hx hby d28_16 rfl ?_
 show Ends _ _ _ _ T66 (mkF m 18 #[cr o0, cj q0, cs, ci 4, ci 0, cr xa_, cu] [(.int 0), (.int 7)]) _ _ _
 refine wis X66 hx hby d28_18 ?_
 refine wilN X66 hx hby d28_19 rfl ?_
 refine wcn X66 hx hby d28_20 (flt (by decide : ¬ ((7 : Int32) < (4 : Int32)))).1 ?_
 refine wal X66 hx hby d28_23 rfl rfl ?_
 refine wil X66 hx hby d28_25 rfl ?_
 show Ends _ _ _ _ T66 (mkF m 27 #[cr o0, cj q0, cs, ci 4, ci 0, cr xa_, cu] [(.int 0), (.ref xa_)]) _ _ _
 refine wic X66 hx hby d28_27 ?_
 refine wia X66 hx hby d28_28 ?_
 obtain ⟨cl67, Ar67, q67, S67, M67, H67, G67⟩ := id Vx
 have hin67 := inb_of (j := (1 : Int32)) S67 ⟨by decide, by decide⟩
 refine Ends.go (X66.caload hx (j := (1 : Int32)) (v := (.int c1_)) (by rw [e66]; exact Ar67.1) (State.isArrayOf_alike hZ.alike Ar67.2.1) Ar67.2.2 hin67 (H67.at hin67 rfl) (g := (mkF m 29 #[cr o0, cj q0, cs, ci 4, ci 0, cr xa_, cu] [(.int 1), (.ref xa_)])) rfl rfl (hb hby d28_29)) ?_
 refine .go (fun _ => XS.lloadN X66.here hx rfl (hb hby d28_30) rfl) ?_
 refine wbp X66 hx hby d28_31 ?_
 show Ends _ _ _ _ T66 (mkF m 33 #[cr o0, cj q0, cs, ci 4, ci 0, cr xa_, cu] [(.int 8), (.long q0), (.int c1_)]) _ _ _
 refine .go (fun _ => XS.lushr X66.here hx rfl (hb hby d28_33) rfl) ?_
 refine Ends.go (X66.ldc2Long hx hown (mvT hZ (ow hw 133 rfl)) (g := (mkF m 34 #[cr o0, cj q0, cs, ci 4, ci 0, cr xa_, cu] [(.long ((q0.toUInt64 >>> ((8 : Int32) &&& 0x3f).toInt64.toUInt64).toInt64)), (.int c1_)])) rfl (hb hby d28_34)) ?_
 refine .go (fun _ => XS.land X66.here hx rfl (hb hby d28_37) rfl) ?_
 refine .go (fun _ => XS.l2i X66.here hx rfl (hb hby d28_38) rfl) ?_
 refine .go (fun _ => XS.i2c X66.here hx rfl (hb hby d28_39) rfl) ?_
 show Ends _ _ _ _ T66 (mkF m 40 #[cr o0, cj q0, cs, ci 4, ci 0, cr xa_, cu] [(.int (((((q0.toUInt64 >>> ((8 : Int32) &&& 0x3f).toInt64.toUInt64).toInt64) &&& (255 : Int64)).toInt32).toUInt32.toUInt16.toUInt32.toInt32)), (.int c1_)]) _ _ _
 by_cases hc40_68 : c1_ = (((((q0.toUInt64 >>> ((8 : Int32) &&& 0x3f).toInt64.toUInt64).toInt64) &&& (255 : Int64)).toInt32).toUInt32.toUInt16.toUInt32.toInt32)
 ·refine wcn X66 hx hby d28_40 (teq hc40_68).2 ?_
  refine wal X66 hx hby d28_43 rfl rfl ?_
  refine wil X66 hx hby d28_45 rfl ?_
  refine wic X66 hx hby d28_47 ?_
  refine wia X66 hx hby d28_48 ?_
  show Ends _ _ _ _ T66 (mkF m 49 #[cr o0, cj q0, cs, ci 4, ci 0, cr xa_, cu] [(.int 2), (.ref xa_)]) _ _ _
  obtain ⟨cl69, Ar69, q69, S69, M69, H69, G69⟩ := id Vx
  have hin69 := inb_of (j := (2 : Int32)) S69 ⟨by decide, by decide⟩
  refine Ends.go (X66.caload hx (j := (2 : Int32)) (v := (.int c2_)) (by rw [e66]; exact Ar69.1) (State.isArrayOf_alike hZ.alike Ar69.2.1) Ar69.2.2 hin69 (H69.at hin69 rfl) (g := (mkF m 49 #[cr o0, cj q0, cs, ci 4, ci 0, cr xa_, cu] [(.int 2), (.ref xa_)])) rfl rfl (hb hby d28_49)) ?_
  refine .go (fun _ => XS.lloadN X66.here hx rfl (hb hby d28_50) rfl) ?_
  refine wbp X66 hx hby d28_51 ?_
  refine .go (fun _ => XS.lushr X66.here hx rfl (hb hby d28_53) rfl) ?_
  refine Ends.go (X66.ldc2Long hx hown (mvT hZ (ow hw 133 rfl)) (g := (mkF m 54 #[cr o0, cj q0, cs, ci 4, ci 0, cr xa_, cu] [(.long ((q0.toUInt64 >>> ((16 : Int32) &&& 0x3f).toInt64.toUInt64).toInt64)), (.int c2_)])) rfl (hb hby d28_54)) ?_
  show Ends _ _ _ _ T66 (mkF m 57 #[cr o0, cj q0, cs, ci 4, ci 0, cr xa_, cu] [(.long (255 : Int64)), (.long ((q0.toUInt64 >>> ((16 : Int32) &&& 0x3f).toInt64.toUInt64).toInt64)), (.int c2_)]) _ _ _
  refine .go (fun _ => XS.land X66.here hx rfl (hb hby d28_57) rfl) ?_
  refine .go (fun _ => XS.l2i X66.here hx rfl (hb hby d28_58) rfl) ?_
  refine .go (fun _ => XS.i2c X66.here hx rfl (hb hby d28_59) rfl) ?_
  by_cases hc60_70 : c2_ = (((((q0.toUInt64 >>> ((16 : Int32) &&& 0x3f).toInt64.toUInt64).toInt64) &&& (255 : Int64)).toInt32).toUInt32.toUInt16.toUInt32.toInt32)
  ·refine wcn X66 hx hby d28_60 (teq hc60_70).2 ?_
   refine wal X66 hx hby d28_63 rfl rfl ?_
   show Ends _ _ _ _ T66 (mkF m 65 #[cr o0, cj q0, cs, ci 4, ci 0, cr xa_, cu] [(.ref xa_)]) _ _ _
   refine wil X66 hx hby d28_65 rfl ?_
   refine wic X66 hx hby d28_67 ?_
   refine wia X66 hx hby d28_68 ?_
   obtain ⟨cl71, Ar71, q71, S71, M71, H71, G71⟩ := id Vx
   have hin71 := inb_of (j := (3 : Int32)) S71 ⟨by decide, by decide⟩
   refine Ends.go (X66.caload hx (j := (3 : Int32)) (v := (.int c3_)) (by rw [e66]; exact Ar71.1) (State.isArrayOf_alike hZ.alike Ar71.2.1) Ar71.2.2 hin71 (H71.at hin71 rfl) (g := (mkF m 69 #[cr o0, cj q0, cs, ci 4, ci 0, cr xa_, cu] [(.int 3), (.ref xa_)])) rfl rfl (hb hby d28_69)) ?_
   refine .go (fun _ => XS.lloadN X66.here hx rfl (hb hby d28_70) rfl) ?_
   show Ends _ _ _ _ T66 (mkF m 71 #[cr o0, cj q0, cs, ci 4, ci 0, cr xa_, cu] [(.long q0), (.int c3_)]) _ _ _
   refine wbp X66 hx hby d28_71 ?_
   refine .go (fun _ => XS.lushr X66.here hx rfl (hb hby d28_73) rfl) ?_
   refine Ends.go (X66.ldc2Long hx hown (mvT hZ (ow hw 133 rfl)) (g := (mkF m 74 #[cr o0, cj q0, cs, ci 4, ci 0, cr xa_, cu] [(.long ((q0.toUInt64 >>> ((24 : Int32) &&& 0x3f).toInt64.toUInt64).toInt64)), (.int c3_)])) rfl (hb hby d28_74)) ?_
   refine .go (fun _ => XS.land X66.here hx rfl (hb hby d28_77) rfl) ?_
   refine .go (fun _ => XS.l2i X66.here hx rfl (hb hby d28_78) rfl) ?_
   show Ends _ _ _ _ T66 (mkF m 79 #[cr o0, cj q0, cs, ci 4, ci 0, cr xa_, cu] [(.int ((((q0.toUInt64 >>> ((24 : Int32) &&& 0x3f).toInt64.toUInt64).toInt64) &&& (255 : Int64)).toInt32)), (.int c3_)]) _ _ _
   refine .go (fun _ => XS.i2c X66.here hx rfl (hb hby d28_79) rfl) ?_
   by_cases hc80_72 : c3_ = (((((q0.toUInt64 >>> ((24 : Int32) &&& 0x3f).toInt64.toUInt64).toInt64) &&& (255 : Int64)).toInt32).toUInt32.toUInt16.toUInt32.toInt32)
   ·refine wcn X66 hx hby d28_80 (teq hc80_72).2 ?_
    refine wilN X66 hx hby d28_83 rfl ?_
    refine wic X66 hx hby d28_84 ?_
    refine wcy (pc := 85) (pc' := 108) X66 hx hby d28_85 (teq (by decide : (4 : Int32) = (4 : Int32))).1 (by decide) (by decide) ?_
    show Ends _ _ _ _ T66 (mkF m 108 #[cr o0, cj q0, cs, ci 4, ci 0, cr xa_, cu] []) _ _ _
    refine wic X66 hx hby d28_108 ?_
    refine wgo (pc := 109) (pc' := 113) X66 hx hby d28_109 (by decide) (by decide) ?_
    refine wst X66 hx hby d28_113 (l' := #[cr o0, cj q0, cs, ci 4, ci 0, cr xa_, ci 1]) rfl ?_
    refine wil X66 hx hby d28_115 rfl ?_
    refine win X66 hx hby d28_117 ((if0 _ _).trans (feq (by decide : ¬ ((1 : Int32) = (0 : Int32)))).1) ?_
    show Ends _ _ _ _ T66 (mkF m 120 #[cr o0, cj q0, cs, ci 4, ci 0, cr xa_, ci 1] []) _ _ _
    refine walN X66 hx hby d28_120 rfl rfl ?_
    refine wil X66 hx hby d28_121 rfl ?_
    refine wilN X66 hx hby d28_123 rfl ?_
    refine wia X66 hx hby d28_124 ?_
    obtain ⟨T73, h73, X73, e73, W73, st73⟩ := putF X66 hx hZ hown (host := "") (Or.inl (ow hw 126 rfl)) Via.refl e66 Fp E0 (Or.inl (ow hw 127 rfl)) (ow hw 7 rfl) (ty := .int) (by decide) rfl rfl (g := (mkF m 125 #[cr o0, cj q0, cs, ci 4, ci 0, cr xa_, ci 1] [(.int 4), (.ref o0)])) rfl rfl (hb hby d28_125)
    refine Ends.go st73 ?_
    have Fw73 := Fp.same W73
    have K73 := K0.wr W73 (Or.inl (List.mem_of_getElem? (i := 0) rfl))
    have O73 := O0.wr W73 g_o0
    have N73 := Fr.snoc X73 N0 g_o0
    show Ends _ _ _ _ T73 (mkF m 128 #[cr o0, cj q0, cs, ci 4, ci 0, cr xa_, ci 1] []) _ _ _
    refine wil X73 hx hby d28_128 rfl ?_
    refine Ends.retZ X73 hx Bd.notSynchronized (t := .boolean) Bd.returns (by simp) (hb hby d28_130) (by decide) (by decide) ?_
    rw [e73]
    exact ⟨1, rfl, N73, K73, (E0.wr W73), (Fb.other W73 (Or.inr (slot_ne (Or.inl (ow hw 140 rfl)) (Or.inl (ow hw 127 rfl)) (by decide) (t := .int) (t' := .int) (by decide) (by decide)))), Or.inl ⟨rfl, (own_spec_0_4 c0_ c1_ c2_ c3_ c4_ c5_ c6_ q0).mpr ⟨hc40_68, hc60_70, hc80_72⟩, Fw73⟩⟩
   ·refine wcy (pc := 80) (pc' := 112) X66 hx hby d28_80 (feq hc80_72).2 (by decide) (by decide) ?_
    refine wic X66 hx hby d28_112 ?_
    refine wst X66 hx hby d28_113 (l' := #[cr o0, cj q0, cs, ci 4, ci 0, cr xa_, ci 0]) rfl ?_
    refine wil X66 hx hby d28_115 rfl ?_
    show Ends _ _ _ _ T66 (mkF m 117 #[cr o0, cj q0, cs, ci 4, ci 0, cr xa_, ci 0] [(.int 0)]) _ _ _
    refine wiy (pc := 117) (pc' := 128) X66 hx hby d28_117 ((if0 _ _).trans (teq (by decide : (0 : Int32) = (0 : Int32))).1) (by decide) (by decide) ?_
    refine wil X66 hx hby d28_128 rfl ?_
    refine Ends.retZ X66 hx Bd.notSynchronized (t := .boolean) Bd.returns (by simp) (hb hby d28_130) (by decide) (by decide) ?_
    rw [e66]
    exact ⟨0, rfl, N0, K0, E0, Fb, Or.inr ⟨rfl, fun q => hc80_72 ((own_spec_0_4 c0_ c1_ c2_ c3_ c4_ c5_ c6_ q0).mp q).2.2, Fp⟩⟩
  ·refine wcy (pc := 60) (pc' := 112) X66 hx hby d28_60 (feq hc60_70).2 (by decide) (by decide) ?_
   refine wic X66 hx hby d28_112 ?_
   refine wst X66 hx hby d28_113 (l' := #[cr o0, cj q0, cs, ci 4, ci 0, cr xa_, ci 0]) rfl ?_
   show Ends _ _ _ _ T66 (mkF m 115 #[cr o0, cj q0, cs, ci 4, ci 0, cr xa_, ci 0] []) _ _ _
   refine wil X66 hx hby d28_115 rfl ?_
   refine wiy (pc := 117) (pc' := 128) X66 hx hby d28_117 ((if0 _ _).trans (teq (by decide : (0 : Int32) = (0 : Int32))).1) (by decide) (by decide) ?_
   refine wil X66 hx hby d28_128 rfl ?_
   refine Ends.retZ X66 hx Bd.notSynchronized (t := .boolean) Bd.returns (by simp) (hb hby d28_130) (by decide) (by decide) ?_
   rw [e66]
   exact ⟨0, rfl, N0, K0, E0, Fb, Or.inr ⟨rfl, fun q => hc60_70 ((own_spec_0_4 c0_ c1_ c2_ c3_ c4_ c5_ c6_ q0).mp q).2.1, Fp⟩⟩
 ·refine wcy (pc := 40) (pc' := 112) X66 hx hby d28_40 (feq hc40_68).2 (by decide) (by decide) ?_
  refine wic X66 hx hby d28_112 ?_
  show Ends _ _ _ _ T66 (mkF m 113 #[cr o0, cj q0, cs, ci 4, ci 0, cr xa_, cu] [(.int 0)]) _ _ _
  refine wst X66 hx hby d28_113 (l' := #[cr o0, cj q0, cs, ci 4, ci 0, cr xa_, ci 0]) rfl ?_
  refine wil X66 hx hby d28_115 rfl ?_
  refine wiy (pc := 117) (pc' := 128) X66 hx hby d28_117 ((if0 _ _).trans (teq (by decide : (0 : Int32) = (0 : Int32))).1) (by decide) (by decide) ?_
  refine wil X66 hx hby d28_128 rfl ?_
  refine Ends.retZ X66 hx Bd.notSynchronized (t := .boolean) Bd.returns (by simp) (hb hby d28_130) (by decide) (by decide) ?_
  rw [e66]
  exact ⟨0, rfl, N0, K0, E0, Fb, Or.inr ⟨rfl, fun q => hc40_68 ((own_spec_0_4 c0_ c1_ c2_ c3_ c4_ c5_ c6_ q0).mp q).1, Fp⟩⟩
set_option maxRecDepth 65536 in
set_option maxHeartbeats 40000000 in
theorem rmW_1_4 (l : Launch) (Z : State) (a0 : Array Value) (hw : ∀ d ∈ tables_1, d.before a0 Z = true) (ws : List Jvm.Cond) (n0 : Nat) (h0 : Heap) (O0 : Old Z n0 h0)  (o0 xa_ : Addr) (kxa_ : ClassId) (q0 : Int64) (c0_ c1_ c2_ c3_ c4_ c5_ c6_ : Int32) (g_o0 : n0 ≤ o0) (hox : o0 ≠ xa_) (E0 : Exa Z h0 o0 cSI) (Fl : Fld Z h0 o0 cSI "limit" "I" (.int 7)) (Fp : Fld Z h0 o0 cSI "position" "I" (.int 1)) (Fb : Fld Z h0 o0 cSI "base" "I" (.int 0)) (Fc : Fld Z h0 o0 cSI "chars" "[C" (.ref xa_)) (Vx : Arv Z h0 xa_ kxa_ .char (7 : Int32) [(.int c0_), (.int c1_), (.int c2_), (.int c3_), (.int c4_), (.int c5_), (.int c6_)] (.int 0)) :
  Meets1 l ym6 prog_85_method_12_code 7 (some .boolean) ws ({ frames := 0, cells := 0, slots := 0, locals := 0 } : Room) #[(.ref o0), (.long q0), (.int 4)] Z h0 (fun v h L => ∃ r : Int32, v = some (.int r) ∧ Fr n0 L ∧ Keep h0 h [o0] ∧ Exa Z h o0 cSI ∧ Fld Z h o0 cSI "base" "I" (.int 0) ∧ ((r = 1 ∧ own_spec c0_ c1_ c2_ c3_ c4_ c5_ c6_ q0 1 4 ∧ Fld Z h o0 cSI "position" "I" (.int 5)) ∨ (r = 0 ∧ ¬ own_spec c0_ c1_ c2_ c3_ c4_ c5_ c6_ q0 1 4 ∧ Fld Z h o0 cSI "position" "I" (.int 1)))) := by
 refine MetFree.of_bodySF (plainFor_of_name pn28) hisR ?_
 intro p e s m args below meth c s₁ Bd hml0 hP hK
 obtain ⟨rfl, hZ, hh⟩ := hP
 have hx := Bd.exec
 have hby := Bd.bytes
 have hml : c.maxLocals = 7 := hml0
 have hown : s.vm.findClass "com/example/ratatoskr/ratatoskr/core/internal/StringInput" = some m.cls := findClass_of_methodNamed Bd.named
 have hnm := (name_of_methodNamed Bd.named Bd.method).1
 have X0 : Stand p l e ({ frames := 0, cells := 0, slots := 0, locals := 0 } : Room) s m #[(.ref o0), (.long q0), (.int 4)] below meth c s₁ [] 0 0 := Stand.of_body Bd
 have e0 : s₁.heap = h0 := by rw [← hh, Bd.state]; rfl
 have N0 := Fr.nil n0
 have Z0 := own_old_le O0
 show Ends _ _ _ _ s₁ (entryFrame m #[(.ref o0), (.long q0), (.int 4)] 7) ({ frames := 0, cells := 0, slots := 0, locals := 0 } : Room).cells ({ frames := 0, cells := 0, slots := 0, locals := 0 } : Room).slots (fun v h L => ∃ r : Int32, v = some (.int r) ∧ Fr n0 L ∧ Keep h0 h [o0] ∧ Exa Z h o0 cSI ∧ Fld Z h o0 cSI "base" "I" (.int 0) ∧ ((r = 1 ∧ own_spec c0_ c1_ c2_ c3_ c4_ c5_ c6_ q0 1 4 ∧ Fld Z h o0 cSI "position" "I" (.int 5)) ∨ (r = 0 ∧ ¬ own_spec c0_ c1_ c2_ c3_ c4_ c5_ c6_ q0 1 4 ∧ Fld Z h o0 cSI "position" "I" (.int 1))))
 refine Ends.go (fun _ k => castTop (ef28_rji m o0 q0 (4 : Int32)) k) ?_
 have K0 := Keep.refl h0 [o0]
 refine walN X0 hx hby d28_0 rfl rfl ?_
 obtain ⟨T74, X74, e74, st74⟩ := getF X0 hx hZ hown (host := "") (Or.inl (ow hw 126 rfl)) Via.refl e0 Fp (g := (mkF m 1 #[cr o0, cj q0, cs, ci 4, cu, cu, cu] [(.ref o0)])) rfl rfl (hb hby d28_1)
 refine Ends.go st74 ?_
 refine wst X74 hx hby d28_4 (l' := #[cr o0, cj q0, cs, ci 4, ci 1, cu, cu]) rfl ?_
 refine walN X74 hx hby d28_6 rfl rfl ?_
 show Ends _ _ _ _ T74 (mkF m 7 #[cr o0, cj q0, cs, ci 4, ci 1, cu, cu] [(.ref o0)]) _ _ _
 obtain ⟨T75, X75, e75, st75⟩ := getF X74 hx hZ hown (host := "") (Or.inl (ow hw 82 rfl)) Via.refl e74 Fc (g := (mkF m 7 #[cr o0, cj q0, cs, ci 4, ci 1, cu, cu] [(.ref o0)])) rfl rfl (hb hby d28_7)
 refine Ends.go st75 ?_
 refine was X75 hx hby d28_10 (l' := #[cr o0, cj q0, cs, ci 4, ci 1, cr xa_, cu]) rfl rfl ?_
 refine walN X75 hx hby d28_12 rfl rfl ?_
 obtain ⟨T76, X76, e76, st76⟩ := getF X75 hx hZ hown (host := "") (Or.inl (ow hw 84 rfl)) Via.refl e75 Fl (g := (mkF m 13 #[cr o0, cj q0, cs, ci 4, ci 1, cr xa_, cu] [(.ref o0)])) rfl rfl (hb hby d28_13)
 refine Ends.go st76 ?_
 refine wil X76 hx hby d28_16 rfl ?_
 show Ends _ _ _ _ T76 (mkF m 18 #[cr o0, cj q0, cs, ci 4, ci 1, cr xa_, cu] [(.int 1), (.int 7)]) _ _ _
 refine wis X76 hx hby d28_18 ?_
 refine wilN X76 hx hby d28_19 rfl ?_
 refine wcn X76 hx hby d28_20 (flt (by decide : ¬ ((6 : Int32) < (4 : Int32)))).1 ?_
 refine wal X76 hx hby d28_23 rfl rfl ?_
 refine wil X76 hx hby d28_25 rfl ?_
 show Ends _ _ _ _ T76 (mkF m 27 #[cr o0, cj q0, cs, ci 4, ci 1, cr xa_, cu] [(.int 1), (.ref xa_)]) _ _ _
 refine wic X76 hx hby d28_27 ?_
 refine wia X76 hx hby d28_28 ?_
 obtain ⟨cl77, Ar77, q77, S77, M77, H77, G77⟩ := id Vx
 have hin77 := inb_of (j := (2 : Int32)) S77 ⟨by decide, by decide⟩
 refine Ends.go (X76.caload hx (j := (2 : Int32)) (v := (.int c2_)) (by rw [e76]; exact Ar77.1) (State.isArrayOf_alike hZ.alike Ar77.2.1) Ar77.2.2 hin77 (H77.at hin77 rfl) (g := (mkF m 29 #[cr o0, cj q0, cs, ci 4, ci 1, cr xa_, cu] [(.int 2), (.ref xa_)])) rfl rfl (hb hby d28_29)) ?_
 refine .go (fun _ => XS.lloadN X76.here hx rfl (hb hby d28_30) rfl) ?_
 refine wbp X76 hx hby d28_31 ?_
 show Ends _ _ _ _ T76 (mkF m 33 #[cr o0, cj q0, cs, ci 4, ci 1, cr xa_, cu] [(.int 8), (.long q0), (.int c2_)]) _ _ _
 refine .go (fun _ => XS.lushr X76.here hx rfl (hb hby d28_33) rfl) ?_
 refine Ends.go (X76.ldc2Long hx hown (mvT hZ (ow hw 133 rfl)) (g := (mkF m 34 #[cr o0, cj q0, cs, ci 4, ci 1, cr xa_, cu] [(.long ((q0.toUInt64 >>> ((8 : Int32) &&& 0x3f).toInt64.toUInt64).toInt64)), (.int c2_)])) rfl (hb hby d28_34)) ?_
 refine .go (fun _ => XS.land X76.here hx rfl (hb hby d28_37) rfl) ?_
 refine .go (fun _ => XS.l2i X76.here hx rfl (hb hby d28_38) rfl) ?_
 refine .go (fun _ => XS.i2c X76.here hx rfl (hb hby d28_39) rfl) ?_
 show Ends _ _ _ _ T76 (mkF m 40 #[cr o0, cj q0, cs, ci 4, ci 1, cr xa_, cu] [(.int (((((q0.toUInt64 >>> ((8 : Int32) &&& 0x3f).toInt64.toUInt64).toInt64) &&& (255 : Int64)).toInt32).toUInt32.toUInt16.toUInt32.toInt32)), (.int c2_)]) _ _ _
 by_cases hc40_78 : c2_ = (((((q0.toUInt64 >>> ((8 : Int32) &&& 0x3f).toInt64.toUInt64).toInt64) &&& (255 : Int64)).toInt32).toUInt32.toUInt16.toUInt32.toInt32)
 ·refine wcn X76 hx hby d28_40 (teq hc40_78).2 ?_
  refine wal X76 hx hby d28_43 rfl rfl ?_
  refine wil X76 hx hby d28_45 rfl ?_
  refine wic X76 hx hby d28_47 ?_
  refine wia X76 hx hby d28_48 ?_
  show Ends _ _ _ _ T76 (mkF m 49 #[cr o0, cj q0, cs, ci 4, ci 1, cr xa_, cu] [(.int 3), (.ref xa_)]) _ _ _
  obtain ⟨cl79, Ar79, q79, S79, M79, H79, G79⟩ := id Vx
  have hin79 := inb_of (j := (3 : Int32)) S79 ⟨by decide, by decide⟩
  refine Ends.go (X76.caload hx (j := (3 : Int32)) (v := (.int c3_)) (by rw [e76]; exact Ar79.1) (State.isArrayOf_alike hZ.alike Ar79.2.1) Ar79.2.2 hin79 (H79.at hin79 rfl) (g := (mkF m 49 #[cr o0, cj q0, cs, ci 4, ci 1, cr xa_, cu] [(.int 3), (.ref xa_)])) rfl rfl (hb hby d28_49)) ?_
  refine .go (fun _ => XS.lloadN X76.here hx rfl (hb hby d28_50) rfl) ?_
  refine wbp X76 hx hby d28_51 ?_
  refine .go (fun _ => XS.lushr X76.here hx rfl (hb hby d28_53) rfl) ?_
  refine Ends.go (X76.ldc2Long hx hown (mvT hZ (ow hw 133 rfl)) (g := (mkF m 54 #[cr o0, cj q0, cs, ci 4, ci 1, cr xa_, cu] [(.long ((q0.toUInt64 >>> ((16 : Int32) &&& 0x3f).toInt64.toUInt64).toInt64)), (.int c3_)])) rfl (hb hby d28_54)) ?_
  show Ends _ _ _ _ T76 (mkF m 57 #[cr o0, cj q0, cs, ci 4, ci 1, cr xa_, cu] [(.long (255 : Int64)), (.long ((q0.toUInt64 >>> ((16 : Int32) &&& 0x3f).toInt64.toUInt64).toInt64)), (.int c3_)]) _ _ _
  refine .go (fun _ => XS.land X76.here hx rfl (hb hby d28_57) rfl) ?_
  refine .go (fun _ => XS.l2i X76.here hx rfl (hb hby d28_58) rfl) ?_
  refine .go (fun _ => XS.i2c X76.here hx rfl (hb hby d28_59) rfl) ?_
  by_cases hc60_80 : c3_ = (((((q0.toUInt64 >>> ((16 : Int32) &&& 0x3f).toInt64.toUInt64).toInt64) &&& (255 : Int64)).toInt32).toUInt32.toUInt16.toUInt32.toInt32)
  ·refine wcn X76 hx hby d28_60 (teq hc60_80).2 ?_
   refine wal X76 hx hby d28_63 rfl rfl ?_
   show Ends _ _ _ _ T76 (mkF m 65 #[cr o0, cj q0, cs, ci 4, ci 1, cr xa_, cu] [(.ref xa_)]) _ _ _
   refine wil X76 hx hby d28_65 rfl ?_
   refine wic X76 hx hby d28_67 ?_
   refine wia X76 hx hby d28_68 ?_
   obtain ⟨cl81, Ar81, q81, S81, M81, H81, G81⟩ := id Vx
   have hin81 := inb_of (j := (4 : Int32)) S81 ⟨by decide, by decide⟩
   refine Ends.go (X76.caload hx (j := (4 : Int32)) (v := (.int c4_)) (by rw [e76]; exact Ar81.1) (State.isArrayOf_alike hZ.alike Ar81.2.1) Ar81.2.2 hin81 (H81.at hin81 rfl) (g := (mkF m 69 #[cr o0, cj q0, cs, ci 4, ci 1, cr xa_, cu] [(.int 4), (.ref xa_)])) rfl rfl (hb hby d28_69)) ?_
   refine .go (fun _ => XS.lloadN X76.here hx rfl (hb hby d28_70) rfl) ?_
   show Ends _ _ _ _ T76 (mkF m 71 #[cr o0, cj q0, cs, ci 4, ci 1, cr xa_, cu] [(.long q0), (.int c4_)]) _ _ _
   refine wbp X76 hx hby d28_71 ?_
   refine .go (fun _ => XS.lushr X76.here hx rfl (hb hby d28_73) rfl) ?_
   refine Ends.go (X76.ldc2Long hx hown (mvT hZ (ow hw 133 rfl)) (g := (mkF m 74 #[cr o0, cj q0, cs, ci 4, ci 1, cr xa_, cu] [(.long ((q0.toUInt64 >>> ((24 : Int32) &&& 0x3f).toInt64.toUInt64).toInt64)), (.int c4_)])) rfl (hb hby d28_74)) ?_
   refine .go (fun _ => XS.land X76.here hx rfl (hb hby d28_77) rfl) ?_
   refine .go (fun _ => XS.l2i X76.here hx rfl (hb hby d28_78) rfl) ?_
   show Ends _ _ _ _ T76 (mkF m 79 #[cr o0, cj q0, cs, ci 4, ci 1, cr xa_, cu] [(.int ((((q0.toUInt64 >>> ((24 : Int32) &&& 0x3f).toInt64.toUInt64).toInt64) &&& (255 : Int64)).toInt32)), (.int c4_)]) _ _ _
   refine .go (fun _ => XS.i2c X76.here hx rfl (hb hby d28_79) rfl) ?_
   by_cases hc80_82 : c4_ = (((((q0.toUInt64 >>> ((24 : Int32) &&& 0x3f).toInt64.toUInt64).toInt64) &&& (255 : Int64)).toInt32).toUInt32.toUInt16.toUInt32.toInt32)
   ·refine wcn X76 hx hby d28_80 (teq hc80_82).2 ?_
    refine wilN X76 hx hby d28_83 rfl ?_
    refine wic X76 hx hby d28_84 ?_
    refine wcy (pc := 85) (pc' := 108) X76 hx hby d28_85 (teq (by decide : (4 : Int32) = (4 : Int32))).1 (by decide) (by decide) ?_
    show Ends _ _ _ _ T76 (mkF m 108 #[cr o0, cj q0, cs, ci 4, ci 1, cr xa_, cu] []) _ _ _
    refine wic X76 hx hby d28_108 ?_
    refine wgo (pc := 109) (pc' := 113) X76 hx hby d28_109 (by decide) (by decide) ?_
    refine wst X76 hx hby d28_113 (l' := #[cr o0, cj q0, cs, ci 4, ci 1, cr xa_, ci 1]) rfl ?_
    refine wil X76 hx hby d28_115 rfl ?_
    refine win X76 hx hby d28_117 ((if0 _ _).trans (feq (by decide : ¬ ((1 : Int32) = (0 : Int32)))).1) ?_
    show Ends _ _ _ _ T76 (mkF m 120 #[cr o0, cj q0, cs, ci 4, ci 1, cr xa_, ci 1] []) _ _ _
    refine walN X76 hx hby d28_120 rfl rfl ?_
    refine wil X76 hx hby d28_121 rfl ?_
    refine wilN X76 hx hby d28_123 rfl ?_
    refine wia X76 hx hby d28_124 ?_
    obtain ⟨T83, h83, X83, e83, W83, st83⟩ := putF X76 hx hZ hown (host := "") (Or.inl (ow hw 126 rfl)) Via.refl e76 Fp E0 (Or.inl (ow hw 127 rfl)) (ow hw 7 rfl) (ty := .int) (by decide) rfl rfl (g := (mkF m 125 #[cr o0, cj q0, cs, ci 4, ci 1, cr xa_, ci 1] [(.int 5), (.ref o0)])) rfl rfl (hb hby d28_125)
    refine Ends.go st83 ?_
    have Fw83 := Fp.same W83
    have K83 := K0.wr W83 (Or.inl (List.mem_of_getElem? (i := 0) rfl))
    have O83 := O0.wr W83 g_o0
    have N83 := Fr.snoc X83 N0 g_o0
    show Ends _ _ _ _ T83 (mkF m 128 #[cr o0, cj q0, cs, ci 4, ci 1, cr xa_, ci 1] []) _ _ _
    refine wil X83 hx hby d28_128 rfl ?_
    refine Ends.retZ X83 hx Bd.notSynchronized (t := .boolean) Bd.returns (by simp) (hb hby d28_130) (by decide) (by decide) ?_
    rw [e83]
    exact ⟨1, rfl, N83, K83, (E0.wr W83), (Fb.other W83 (Or.inr (slot_ne (Or.inl (ow hw 140 rfl)) (Or.inl (ow hw 127 rfl)) (by decide) (t := .int) (t' := .int) (by decide) (by decide)))), Or.inl ⟨rfl, (own_spec_1_4 c0_ c1_ c2_ c3_ c4_ c5_ c6_ q0).mpr ⟨hc40_78, hc60_80, hc80_82⟩, Fw83⟩⟩
   ·refine wcy (pc := 80) (pc' := 112) X76 hx hby d28_80 (feq hc80_82).2 (by decide) (by decide) ?_
    refine wic X76 hx hby d28_112 ?_
    refine wst X76 hx hby d28_113 (l' := #[cr o0, cj q0, cs, ci 4, ci 1, cr xa_, ci 0]) rfl ?_
    refine wil X76 hx hby d28_115 rfl ?_
    show Ends _ _ _ _ T76 (mkF m 117 #[cr o0, cj q0, cs, ci 4, ci 1, cr xa_, ci 0] [(.int 0)]) _ _ _
    refine wiy (pc := 117) (pc' := 128) X76 hx hby d28_117 ((if0 _ _).trans (teq (by decide : (0 : Int32) = (0 : Int32))).1) (by decide) (by decide) ?_
    refine wil X76 hx hby d28_128 rfl ?_
    refine Ends.retZ X76 hx Bd.notSynchronized (t := .boolean) Bd.returns (by simp) (hb hby d28_130) (by decide) (by decide) ?_
    rw [e76]
    exact ⟨0, rfl, N0, K0, E0, Fb, Or.inr ⟨rfl, fun q => hc80_82 ((own_spec_1_4 c0_ c1_ c2_ c3_ c4_ c5_ c6_ q0).mp q).2.2, Fp⟩⟩
  ·refine wcy (pc := 60) (pc' := 112) X76 hx hby d28_60 (feq hc60_80).2 (by decide) (by decide) ?_
   refine wic X76 hx hby d28_112 ?_
   refine wst X76 hx hby d28_113 (l' := #[cr o0, cj q0, cs, ci 4, ci 1, cr xa_, ci 0]) rfl ?_
   show Ends _ _ _ _ T76 (mkF m 115 #[cr o0, cj q0, cs, ci 4, ci 1, cr xa_, ci 0] []) _ _ _
   refine wil X76 hx hby d28_115 rfl ?_
   refine wiy (pc := 117) (pc' := 128) X76 hx hby d28_117 ((if0 _ _).trans (teq (by decide : (0 : Int32) = (0 : Int32))).1) (by decide) (by decide) ?_
   refine wil X76 hx hby d28_128 rfl ?_
   refine Ends.retZ X76 hx Bd.notSynchronized (t := .boolean) Bd.returns (by simp) (hb hby d28_130) (by decide) (by decide) ?_
   rw [e76]
   exact ⟨0, rfl, N0, K0, E0, Fb, Or.inr ⟨rfl, fun q => hc60_80 ((own_spec_1_4 c0_ c1_ c2_ c3_ c4_ c5_ c6_ q0).mp q).2.1, Fp⟩⟩
 ·refine wcy (pc := 40) (pc' := 112) X76 hx hby d28_40 (feq hc40_78).2 (by decide) (by decide) ?_
  refine wic X76 hx hby d28_112 ?_
  show Ends _ _ _ _ T76 (mkF m 113 #[cr o0, cj q0, cs, ci 4, ci 1, cr xa_, cu] [(.int 0)]) _ _ _
  refine wst X76 hx hby d28_113 (l' := #[cr o0, cj q0, cs, ci 4, ci 1, cr xa_, ci 0]) rfl ?_
  refine wil X76 hx hby d28_115 rfl ?_
  refine wiy (pc := 117) (pc' := 128) X76 hx hby d28_117 ((if0 _ _).trans (teq (by decide : (0 : Int32) = (0 : Int32))).1) (by decide) (by decide) ?_
  refine wil X76 hx hby d28_128 rfl ?_
  refine Ends.retZ X76 hx Bd.notSynchronized (t := .boolean) Bd.returns (by simp) (hb hby d28_130) (by decide) (by decide) ?_
  rw [e76]
  exact ⟨0, rfl, N0, K0, E0, Fb, Or.inr ⟨rfl, fun q => hc40_78 ((own_spec_1_4 c0_ c1_ c2_ c3_ c4_ c5_ c6_ q0).mp q).1, Fp⟩⟩
set_option maxRecDepth 65536 in
set_option maxHeartbeats 40000000 in
theorem rmW_2_4 (l : Launch) (Z : State) (a0 : Array Value) (hw : ∀ d ∈ tables_1, d.before a0 Z = true) (ws : List Jvm.Cond) (n0 : Nat) (h0 : Heap) (O0 : Old Z n0 h0)  (o0 xa_ : Addr) (kxa_ : ClassId) (q0 : Int64) (c0_ c1_ c2_ c3_ c4_ c5_ c6_ : Int32) (g_o0 : n0 ≤ o0) (hox : o0 ≠ xa_) (E0 : Exa Z h0 o0 cSI) (Fl : Fld Z h0 o0 cSI "limit" "I" (.int 7)) (Fp : Fld Z h0 o0 cSI "position" "I" (.int 2)) (Fb : Fld Z h0 o0 cSI "base" "I" (.int 0)) (Fc : Fld Z h0 o0 cSI "chars" "[C" (.ref xa_)) (Vx : Arv Z h0 xa_ kxa_ .char (7 : Int32) [(.int c0_), (.int c1_), (.int c2_), (.int c3_), (.int c4_), (.int c5_), (.int c6_)] (.int 0)) :
  Meets1 l ym6 prog_85_method_12_code 7 (some .boolean) ws ({ frames := 0, cells := 0, slots := 0, locals := 0 } : Room) #[(.ref o0), (.long q0), (.int 4)] Z h0 (fun v h L => ∃ r : Int32, v = some (.int r) ∧ Fr n0 L ∧ Keep h0 h [o0] ∧ Exa Z h o0 cSI ∧ Fld Z h o0 cSI "base" "I" (.int 0) ∧ ((r = 1 ∧ own_spec c0_ c1_ c2_ c3_ c4_ c5_ c6_ q0 2 4 ∧ Fld Z h o0 cSI "position" "I" (.int 6)) ∨ (r = 0 ∧ ¬ own_spec c0_ c1_ c2_ c3_ c4_ c5_ c6_ q0 2 4 ∧ Fld Z h o0 cSI "position" "I" (.int 2)))) := by
 refine MetFree.of_bodySF (plainFor_of_name pn28) hisR ?_
 intro p e s m args below meth c s₁ Bd hml0 hP hK
 obtain ⟨rfl, hZ, hh⟩ := hP
 have hx := Bd.exec
 have hby := Bd.bytes
 have hml : c.maxLocals = 7 := hml0
 have hown : s.vm.findClass "com/example/ratatoskr/ratatoskr/core/internal/StringInput" = some m.cls := findClass_of_methodNamed Bd.named
 have hnm := (name_of_methodNamed Bd.named Bd.method).1
 have X0 : Stand p l e ({ frames := 0, cells := 0, slots := 0, locals := 0 } : Room) s m #[(.ref o0), (.long q0), (.int 4)] below meth c s₁ [] 0 0 := Stand.of_body Bd
 have e0 : s₁.heap = h0 := by rw [← hh, Bd.state]; rfl
 have N0 := Fr.nil n0
 have Z0 := own_old_le O0
 show Ends _ _ _ _ s₁ (entryFrame m #[(.ref o0), (.long q0), (.int 4)] 7) ({ frames := 0, cells := 0, slots := 0, locals := 0 } : Room).cells ({ frames := 0, cells := 0, slots := 0, locals := 0 } : Room).slots (fun v h L => ∃ r : Int32, v = some (.int r) ∧ Fr n0 L ∧ Keep h0 h [o0] ∧ Exa Z h o0 cSI ∧ Fld Z h o0 cSI "base" "I" (.int 0) ∧ ((r = 1 ∧ own_spec c0_ c1_ c2_ c3_ c4_ c5_ c6_ q0 2 4 ∧ Fld Z h o0 cSI "position" "I" (.int 6)) ∨ (r = 0 ∧ ¬ own_spec c0_ c1_ c2_ c3_ c4_ c5_ c6_ q0 2 4 ∧ Fld Z h o0 cSI "position" "I" (.int 2))))
 refine Ends.go (fun _ k => castTop (ef28_rji m o0 q0 (4 : Int32)) k) ?_
 have K0 := Keep.refl h0 [o0]
 refine walN X0 hx hby d28_0 rfl rfl ?_
 obtain ⟨T84, X84, e84, st84⟩ := getF X0 hx hZ hown (host := "") (Or.inl (ow hw 126 rfl)) Via.refl e0 Fp (g := (mkF m 1 #[cr o0, cj q0, cs, ci 4, cu, cu, cu] [(.ref o0)])) rfl rfl (hb hby d28_1)
 refine Ends.go st84 ?_
 refine wst X84 hx hby d28_4 (l' := #[cr o0, cj q0, cs, ci 4, ci 2, cu, cu]) rfl ?_
 refine walN X84 hx hby d28_6 rfl rfl ?_
 show Ends _ _ _ _ T84 (mkF m 7 #[cr o0, cj q0, cs, ci 4, ci 2, cu, cu] [(.ref o0)]) _ _ _
 obtain ⟨T85, X85, e85, st85⟩ := getF X84 hx hZ hown (host := "") (Or.inl (ow hw 82 rfl)) Via.refl e84 Fc (g := (mkF m 7 #[cr o0, cj q0, cs, ci 4, ci 2, cu, cu] [(.ref o0)])) rfl rfl (hb hby d28_7)
 refine Ends.go st85 ?_
 refine was X85 hx hby d28_10 (l' := #[cr o0, cj q0, cs, ci 4, ci 2, cr xa_, cu]) rfl rfl ?_
 refine walN X85 hx hby d28_12 rfl rfl ?_
 obtain ⟨T86, X86, e86, st86⟩ := getF X85 hx hZ hown (host := "") (Or.inl (ow hw 84 rfl)) Via.refl e85 Fl (g := (mkF m 13 #[cr o0, cj q0, cs, ci 4, ci 2, cr xa_, cu] [(.ref o0)])) rfl rfl (hb hby d28_13)
 refine Ends.go st86 ?_
 refine wil X86 hx hby d28_16 rfl ?_
 show Ends _ _ _ _ T86 (mkF m 18 #[cr o0, cj q0, cs, ci 4, ci 2, cr xa_, cu] [(.int 2), (.int 7)]) _ _ _
 refine wis X86 hx hby d28_18 ?_
 refine wilN X86 hx hby d28_19 rfl ?_
 refine wcn X86 hx hby d28_20 (flt (by decide : ¬ ((5 : Int32) < (4 : Int32)))).1 ?_
 refine wal X86 hx hby d28_23 rfl rfl ?_
 refine wil X86 hx hby d28_25 rfl ?_
 show Ends _ _ _ _ T86 (mkF m 27 #[cr o0, cj q0, cs, ci 4, ci 2, cr xa_, cu] [(.int 2), (.ref xa_)]) _ _ _
 refine wic X86 hx hby d28_27 ?_
 refine wia X86 hx hby d28_28 ?_
 obtain ⟨cl87, Ar87, q87, S87, M87, H87, G87⟩ := id Vx
 have hin87 := inb_of (j := (3 : Int32)) S87 ⟨by decide, by decide⟩
 refine Ends.go (X86.caload hx (j := (3 : Int32)) (v := (.int c3_)) (by rw [e86]; exact Ar87.1) (State.isArrayOf_alike hZ.alike Ar87.2.1) Ar87.2.2 hin87 (H87.at hin87 rfl) (g := (mkF m 29 #[cr o0, cj q0, cs, ci 4, ci 2, cr xa_, cu] [(.int 3), (.ref xa_)])) rfl rfl (hb hby d28_29)) ?_
 refine .go (fun _ => XS.lloadN X86.here hx rfl (hb hby d28_30) rfl) ?_
 refine wbp X86 hx hby d28_31 ?_
 show Ends _ _ _ _ T86 (mkF m 33 #[cr o0, cj q0, cs, ci 4, ci 2, cr xa_, cu] [(.int 8), (.long q0), (.int c3_)]) _ _ _
 refine .go (fun _ => XS.lushr X86.here hx rfl (hb hby d28_33) rfl) ?_
 refine Ends.go (X86.ldc2Long hx hown (mvT hZ (ow hw 133 rfl)) (g := (mkF m 34 #[cr o0, cj q0, cs, ci 4, ci 2, cr xa_, cu] [(.long ((q0.toUInt64 >>> ((8 : Int32) &&& 0x3f).toInt64.toUInt64).toInt64)), (.int c3_)])) rfl (hb hby d28_34)) ?_
 refine .go (fun _ => XS.land X86.here hx rfl (hb hby d28_37) rfl) ?_
 refine .go (fun _ => XS.l2i X86.here hx rfl (hb hby d28_38) rfl) ?_
 refine .go (fun _ => XS.i2c X86.here hx rfl (hb hby d28_39) rfl) ?_
 show Ends _ _ _ _ T86 (mkF m 40 #[cr o0, cj q0, cs, ci 4, ci 2, cr xa_, cu] [(.int (((((q0.toUInt64 >>> ((8 : Int32) &&& 0x3f).toInt64.toUInt64).toInt64) &&& (255 : Int64)).toInt32).toUInt32.toUInt16.toUInt32.toInt32)), (.int c3_)]) _ _ _
 by_cases hc40_88 : c3_ = (((((q0.toUInt64 >>> ((8 : Int32) &&& 0x3f).toInt64.toUInt64).toInt64) &&& (255 : Int64)).toInt32).toUInt32.toUInt16.toUInt32.toInt32)
 ·refine wcn X86 hx hby d28_40 (teq hc40_88).2 ?_
  refine wal X86 hx hby d28_43 rfl rfl ?_
  refine wil X86 hx hby d28_45 rfl ?_
  refine wic X86 hx hby d28_47 ?_
  refine wia X86 hx hby d28_48 ?_
  show Ends _ _ _ _ T86 (mkF m 49 #[cr o0, cj q0, cs, ci 4, ci 2, cr xa_, cu] [(.int 4), (.ref xa_)]) _ _ _
  obtain ⟨cl89, Ar89, q89, S89, M89, H89, G89⟩ := id Vx
  have hin89 := inb_of (j := (4 : Int32)) S89 ⟨by decide, by decide⟩
  refine Ends.go (X86.caload hx (j := (4 : Int32)) (v := (.int c4_)) (by rw [e86]; exact Ar89.1) (State.isArrayOf_alike hZ.alike Ar89.2.1) Ar89.2.2 hin89 (H89.at hin89 rfl) (g := (mkF m 49 #[cr o0, cj q0, cs, ci 4, ci 2, cr xa_, cu] [(.int 4), (.ref xa_)])) rfl rfl (hb hby d28_49)) ?_
  refine .go (fun _ => XS.lloadN X86.here hx rfl (hb hby d28_50) rfl) ?_
  refine wbp X86 hx hby d28_51 ?_
  refine .go (fun _ => XS.lushr X86.here hx rfl (hb hby d28_53) rfl) ?_
  refine Ends.go (X86.ldc2Long hx hown (mvT hZ (ow hw 133 rfl)) (g := (mkF m 54 #[cr o0, cj q0, cs, ci 4, ci 2, cr xa_, cu] [(.long ((q0.toUInt64 >>> ((16 : Int32) &&& 0x3f).toInt64.toUInt64).toInt64)), (.int c4_)])) rfl (hb hby d28_54)) ?_
  show Ends _ _ _ _ T86 (mkF m 57 #[cr o0, cj q0, cs, ci 4, ci 2, cr xa_, cu] [(.long (255 : Int64)), (.long ((q0.toUInt64 >>> ((16 : Int32) &&& 0x3f).toInt64.toUInt64).toInt64)), (.int c4_)]) _ _ _
  refine .go (fun _ => XS.land X86.here hx rfl (hb hby d28_57) rfl) ?_
  refine .go (fun _ => XS.l2i X86.here hx rfl (hb hby d28_58) rfl) ?_
  refine .go (fun _ => XS.i2c X86.here hx rfl (hb hby d28_59) rfl) ?_
  by_cases hc60_90 : c4_ = (((((q0.toUInt64 >>> ((16 : Int32) &&& 0x3f).toInt64.toUInt64).toInt64) &&& (255 : Int64)).toInt32).toUInt32.toUInt16.toUInt32.toInt32)
  ·refine wcn X86 hx hby d28_60 (teq hc60_90).2 ?_
   refine wal X86 hx hby d28_63 rfl rfl ?_
   show Ends _ _ _ _ T86 (mkF m 65 #[cr o0, cj q0, cs, ci 4, ci 2, cr xa_, cu] [(.ref xa_)]) _ _ _
   refine wil X86 hx hby d28_65 rfl ?_
   refine wic X86 hx hby d28_67 ?_
   refine wia X86 hx hby d28_68 ?_
   obtain ⟨cl91, Ar91, q91, S91, M91, H91, G91⟩ := id Vx
   have hin91 := inb_of (j := (5 : Int32)) S91 ⟨by decide, by decide⟩
   refine Ends.go (X86.caload hx (j := (5 : Int32)) (v := (.int c5_)) (by rw [e86]; exact Ar91.1) (State.isArrayOf_alike hZ.alike Ar91.2.1) Ar91.2.2 hin91 (H91.at hin91 rfl) (g := (mkF m 69 #[cr o0, cj q0, cs, ci 4, ci 2, cr xa_, cu] [(.int 5), (.ref xa_)])) rfl rfl (hb hby d28_69)) ?_
   refine .go (fun _ => XS.lloadN X86.here hx rfl (hb hby d28_70) rfl) ?_
   show Ends _ _ _ _ T86 (mkF m 71 #[cr o0, cj q0, cs, ci 4, ci 2, cr xa_, cu] [(.long q0), (.int c5_)]) _ _ _
   refine wbp X86 hx hby d28_71 ?_
   refine .go (fun _ => XS.lushr X86.here hx rfl (hb hby d28_73) rfl) ?_
   refine Ends.go (X86.ldc2Long hx hown (mvT hZ (ow hw 133 rfl)) (g := (mkF m 74 #[cr o0, cj q0, cs, ci 4, ci 2, cr xa_, cu] [(.long ((q0.toUInt64 >>> ((24 : Int32) &&& 0x3f).toInt64.toUInt64).toInt64)), (.int c5_)])) rfl (hb hby d28_74)) ?_
   refine .go (fun _ => XS.land X86.here hx rfl (hb hby d28_77) rfl) ?_
   refine .go (fun _ => XS.l2i X86.here hx rfl (hb hby d28_78) rfl) ?_
   show Ends _ _ _ _ T86 (mkF m 79 #[cr o0, cj q0, cs, ci 4, ci 2, cr xa_, cu] [(.int ((((q0.toUInt64 >>> ((24 : Int32) &&& 0x3f).toInt64.toUInt64).toInt64) &&& (255 : Int64)).toInt32)), (.int c5_)]) _ _ _
   refine .go (fun _ => XS.i2c X86.here hx rfl (hb hby d28_79) rfl) ?_
   by_cases hc80_92 : c5_ = (((((q0.toUInt64 >>> ((24 : Int32) &&& 0x3f).toInt64.toUInt64).toInt64) &&& (255 : Int64)).toInt32).toUInt32.toUInt16.toUInt32.toInt32)
   ·refine wcn X86 hx hby d28_80 (teq hc80_92).2 ?_
    refine wilN X86 hx hby d28_83 rfl ?_
    refine wic X86 hx hby d28_84 ?_
    refine wcy (pc := 85) (pc' := 108) X86 hx hby d28_85 (teq (by decide : (4 : Int32) = (4 : Int32))).1 (by decide) (by decide) ?_
    show Ends _ _ _ _ T86 (mkF m 108 #[cr o0, cj q0, cs, ci 4, ci 2, cr xa_, cu] []) _ _ _
    refine wic X86 hx hby d28_108 ?_
    refine wgo (pc := 109) (pc' := 113) X86 hx hby d28_109 (by decide) (by decide) ?_
    refine wst X86 hx hby d28_113 (l' := #[cr o0, cj q0, cs, ci 4, ci 2, cr xa_, ci 1]) rfl ?_
    refine wil X86 hx hby d28_115 rfl ?_
    refine win X86 hx hby d28_117 ((if0 _ _).trans (feq (by decide : ¬ ((1 : Int32) = (0 : Int32)))).1) ?_
    show Ends _ _ _ _ T86 (mkF m 120 #[cr o0, cj q0, cs, ci 4, ci 2, cr xa_, ci 1] []) _ _ _
    refine walN X86 hx hby d28_120 rfl rfl ?_
    refine wil X86 hx hby d28_121 rfl ?_
    refine wilN X86 hx hby d28_123 rfl ?_
    refine wia X86 hx hby d28_124 ?_
    obtain ⟨T93, h93, X93, e93, W93, st93⟩ := putF X86 hx hZ hown (host := "") (Or.inl (ow hw 126 rfl)) Via.refl e86 Fp E0 (Or.inl (ow hw 127 rfl)) (ow hw 7 rfl) (ty := .int) (by decide) rfl rfl (g := (mkF m 125 #[cr o0, cj q0, cs, ci 4, ci 2, cr xa_, ci 1] [(.int 6), (.ref o0)])) rfl rfl (hb hby d28_125)
    refine Ends.go st93 ?_
    have Fw93 := Fp.same W93
    have K93 := K0.wr W93 (Or.inl (List.mem_of_getElem? (i := 0) rfl))
    have O93 := O0.wr W93 g_o0
    have N93 := Fr.snoc X93 N0 g_o0
    show Ends _ _ _ _ T93 (mkF m 128 #[cr o0, cj q0, cs, ci 4, ci 2, cr xa_, ci 1] []) _ _ _
    refine wil X93 hx hby d28_128 rfl ?_
    refine Ends.retZ X93 hx Bd.notSynchronized (t := .boolean) Bd.returns (by simp) (hb hby d28_130) (by decide) (by decide) ?_
    rw [e93]
    exact ⟨1, rfl, N93, K93, (E0.wr W93), (Fb.other W93 (Or.inr (slot_ne (Or.inl (ow hw 140 rfl)) (Or.inl (ow hw 127 rfl)) (by decide) (t := .int) (t' := .int) (by decide) (by decide)))), Or.inl ⟨rfl, (own_spec_2_4 c0_ c1_ c2_ c3_ c4_ c5_ c6_ q0).mpr ⟨hc40_88, hc60_90, hc80_92⟩, Fw93⟩⟩
   ·refine wcy (pc := 80) (pc' := 112) X86 hx hby d28_80 (feq hc80_92).2 (by decide) (by decide) ?_
    refine wic X86 hx hby d28_112 ?_
    refine wst X86 hx hby d28_113 (l' := #[cr o0, cj q0, cs, ci 4, ci 2, cr xa_, ci 0]) rfl ?_
    refine wil X86 hx hby d28_115 rfl ?_
    show Ends _ _ _ _ T86 (mkF m 117 #[cr o0, cj q0, cs, ci 4, ci 2, cr xa_, ci 0] [(.int 0)]) _ _ _
    refine wiy (pc := 117) (pc' := 128) X86 hx hby d28_117 ((if0 _ _).trans (teq (by decide : (0 : Int32) = (0 : Int32))).1) (by decide) (by decide) ?_
    refine wil X86 hx hby d28_128 rfl ?_
    refine Ends.retZ X86 hx Bd.notSynchronized (t := .boolean) Bd.returns (by simp) (hb hby d28_130) (by decide) (by decide) ?_
    rw [e86]
    exact ⟨0, rfl, N0, K0, E0, Fb, Or.inr ⟨rfl, fun q => hc80_92 ((own_spec_2_4 c0_ c1_ c2_ c3_ c4_ c5_ c6_ q0).mp q).2.2, Fp⟩⟩
  ·refine wcy (pc := 60) (pc' := 112) X86 hx hby d28_60 (feq hc60_90).2 (by decide) (by decide) ?_
   refine wic X86 hx hby d28_112 ?_
   refine wst X86 hx hby d28_113 (l' := #[cr o0, cj q0, cs, ci 4, ci 2, cr xa_, ci 0]) rfl ?_
   show Ends _ _ _ _ T86 (mkF m 115 #[cr o0, cj q0, cs, ci 4, ci 2, cr xa_, ci 0] []) _ _ _
   refine wil X86 hx hby d28_115 rfl ?_
   refine wiy (pc := 117) (pc' := 128) X86 hx hby d28_117 ((if0 _ _).trans (teq (by decide : (0 : Int32) = (0 : Int32))).1) (by decide) (by decide) ?_
   refine wil X86 hx hby d28_128 rfl ?_
   refine Ends.retZ X86 hx Bd.notSynchronized (t := .boolean) Bd.returns (by simp) (hb hby d28_130) (by decide) (by decide) ?_
   rw [e86]
   exact ⟨0, rfl, N0, K0, E0, Fb, Or.inr ⟨rfl, fun q => hc60_90 ((own_spec_2_4 c0_ c1_ c2_ c3_ c4_ c5_ c6_ q0).mp q).2.1, Fp⟩⟩
 ·refine wcy (pc := 40) (pc' := 112) X86 hx hby d28_40 (feq hc40_88).2 (by decide) (by decide) ?_
  refine wic X86 hx hby d28_112 ?_
  show Ends _ _ _ _ T86 (mkF m 113 #[cr o0, cj q0, cs, ci 4, ci 2, cr xa_, cu] [(.int 0)]) _ _ _
  refine wst X86 hx hby d28_113 (l' := #[cr o0, cj q0, cs, ci 4, ci 2, cr xa_, ci 0]) rfl ?_
  refine wil X86 hx hby d28_115 rfl ?_
  refine wiy (pc := 117) (pc' := 128) X86 hx hby d28_117 ((if0 _ _).trans (teq (by decide : (0 : Int32) = (0 : Int32))).1) (by decide) (by decide) ?_
  refine wil X86 hx hby d28_128 rfl ?_
  refine Ends.retZ X86 hx Bd.notSynchronized (t := .boolean) Bd.returns (by simp) (hb hby d28_130) (by decide) (by decide) ?_
  rw [e86]
  exact ⟨0, rfl, N0, K0, E0, Fb, Or.inr ⟨rfl, fun q => hc40_88 ((own_spec_2_4 c0_ c1_ c2_ c3_ c4_ c5_ c6_ q0).mp q).1, Fp⟩⟩
set_option maxRecDepth 65536 in
set_option maxHeartbeats 40000000 in
theorem rmW_3_4 (l : Launch) (Z : State) (a0 : Array Value) (hw : ∀ d ∈ tables_1, d.before a0 Z = true) (ws : List Jvm.Cond) (n0 : Nat) (h0 : Heap) (O0 : Old Z n0 h0)  (o0 xa_ : Addr) (kxa_ : ClassId) (q0 : Int64) (c0_ c1_ c2_ c3_ c4_ c5_ c6_ : Int32) (g_o0 : n0 ≤ o0) (hox : o0 ≠ xa_) (E0 : Exa Z h0 o0 cSI) (Fl : Fld Z h0 o0 cSI "limit" "I" (.int 7)) (Fp : Fld Z h0 o0 cSI "position" "I" (.int 3)) (Fb : Fld Z h0 o0 cSI "base" "I" (.int 0)) (Fc : Fld Z h0 o0 cSI "chars" "[C" (.ref xa_)) (Vx : Arv Z h0 xa_ kxa_ .char (7 : Int32) [(.int c0_), (.int c1_), (.int c2_), (.int c3_), (.int c4_), (.int c5_), (.int c6_)] (.int 0)) :
  Meets1 l ym6 prog_85_method_12_code 7 (some .boolean) ws ({ frames := 0, cells := 0, slots := 0, locals := 0 } : Room) #[(.ref o0), (.long q0), (.int 4)] Z h0 (fun v h L => ∃ r : Int32, v = some (.int r) ∧ Fr n0 L ∧ Keep h0 h [o0] ∧ Exa Z h o0 cSI ∧ Fld Z h o0 cSI "base" "I" (.int 0) ∧ ((r = 1 ∧ own_spec c0_ c1_ c2_ c3_ c4_ c5_ c6_ q0 3 4 ∧ Fld Z h o0 cSI "position" "I" (.int 7)) ∨ (r = 0 ∧ ¬ own_spec c0_ c1_ c2_ c3_ c4_ c5_ c6_ q0 3 4 ∧ Fld Z h o0 cSI "position" "I" (.int 3)))) := by
 refine MetFree.of_bodySF (plainFor_of_name pn28) hisR ?_
 intro p e s m args below meth c s₁ Bd hml0 hP hK
 obtain ⟨rfl, hZ, hh⟩ := hP
 have hx := Bd.exec
 have hby := Bd.bytes
 have hml : c.maxLocals = 7 := hml0
 have hown : s.vm.findClass "com/example/ratatoskr/ratatoskr/core/internal/StringInput" = some m.cls := findClass_of_methodNamed Bd.named
 have hnm := (name_of_methodNamed Bd.named Bd.method).1
 have X0 : Stand p l e ({ frames := 0, cells := 0, slots := 0, locals := 0 } : Room) s m #[(.ref o0), (.long q0), (.int 4)] below meth c s₁ [] 0 0 := Stand.of_body Bd
 have e0 : s₁.heap = h0 := by rw [← hh, Bd.state]; rfl
 have N0 := Fr.nil n0
 have Z0 := own_old_le O0
 show Ends _ _ _ _ s₁ (entryFrame m #[(.ref o0), (.long q0), (.int 4)] 7) ({ frames := 0, cells := 0, slots := 0, locals := 0 } : Room).cells ({ frames := 0, cells := 0, slots := 0, locals := 0 } : Room).slots (fun v h L => ∃ r : Int32, v = some (.int r) ∧ Fr n0 L ∧ Keep h0 h [o0] ∧ Exa Z h o0 cSI ∧ Fld Z h o0 cSI "base" "I" (.int 0) ∧ ((r = 1 ∧ own_spec c0_ c1_ c2_ c3_ c4_ c5_ c6_ q0 3 4 ∧ Fld Z h o0 cSI "position" "I" (.int 7)) ∨ (r = 0 ∧ ¬ own_spec c0_ c1_ c2_ c3_ c4_ c5_ c6_ q0 3 4 ∧ Fld Z h o0 cSI "position" "I" (.int 3))))
 refine Ends.go (fun _ k => castTop (ef28_rji m o0 q0 (4 : Int32)) k) ?_
 have K0 := Keep.refl h0 [o0]
 refine walN X0 hx hby d28_0 rfl rfl ?_
 obtain ⟨T94, X94, e94, st94⟩ := getF X0 hx hZ hown (host := "") (Or.inl (ow hw 126 rfl)) Via.refl e0 Fp (g := (mkF m 1 #[cr o0, cj q0, cs, ci 4, cu, cu, cu] [(.ref o0)])) rfl rfl (hb hby d28_1)
 refine Ends.go st94 ?_
 refine wst X94 hx hby d28_4 (l' := #[cr o0, cj q0, cs, ci 4, ci 3, cu, cu]) rfl ?_
 refine walN X94 hx hby d28_6 rfl rfl ?_
 show Ends _ _ _ _ T94 (mkF m 7 #[cr o0, cj q0, cs, ci 4, ci 3, cu, cu] [(.ref o0)]) _ _ _
 obtain ⟨T95, X95, e95, st95⟩ := getF X94 hx hZ hown (host := "") (Or.inl (ow hw 82 rfl)) Via.refl e94 Fc (g := (mkF m 7 #[cr o0, cj q0, cs, ci 4, ci 3, cu, cu] [(.ref o0)])) rfl rfl (hb hby d28_7)
 refine Ends.go st95 ?_
 refine was X95 hx hby d28_10 (l' := #[cr o0, cj q0, cs, ci 4, ci 3, cr xa_, cu]) rfl rfl ?_
 refine walN X95 hx hby d28_12 rfl rfl ?_
 obtain ⟨T96, X96, e96, st96⟩ := getF X95 hx hZ hown (host := "") (Or.inl (ow hw 84 rfl)) Via.refl e95 Fl (g := (mkF m 13 #[cr o0, cj q0, cs, ci 4, ci 3, cr xa_, cu] [(.ref o0)])) rfl rfl (hb hby d28_13)
 refine Ends.go st96 ?_
 refine wil X96 hx hby d28_16 rfl ?_
 show Ends _ _ _ _ T96 (mkF m 18 #[cr o0, cj q0, cs, ci 4, ci 3, cr xa_, cu] [(.int 3), (.int 7)]) _ _ _
 refine wis X96 hx hby d28_18 ?_
 refine wilN X96 hx hby d28_19 rfl ?_
 refine wcn X96 hx hby d28_20 (flt (by decide : ¬ ((4 : Int32) < (4 : Int32)))).1 ?_
 refine wal X96 hx hby d28_23 rfl rfl ?_
 refine wil X96 hx hby d28_25 rfl ?_
 show Ends _ _ _ _ T96 (mkF m 27 #[cr o0, cj q0, cs, ci 4, ci 3, cr xa_, cu] [(.int 3), (.ref xa_)]) _ _ _
 refine wic X96 hx hby d28_27 ?_
 refine wia X96 hx hby d28_28 ?_
 obtain ⟨cl97, Ar97, q97, S97, M97, H97, G97⟩ := id Vx
 have hin97 := inb_of (j := (4 : Int32)) S97 ⟨by decide, by decide⟩
 refine Ends.go (X96.caload hx (j := (4 : Int32)) (v := (.int c4_)) (by rw [e96]; exact Ar97.1) (State.isArrayOf_alike hZ.alike Ar97.2.1) Ar97.2.2 hin97 (H97.at hin97 rfl) (g := (mkF m 29 #[cr o0, cj q0, cs, ci 4, ci 3, cr xa_, cu] [(.int 4), (.ref xa_)])) rfl rfl (hb hby d28_29)) ?_
 refine .go (fun _ => XS.lloadN X96.here hx rfl (hb hby d28_30) rfl) ?_
 refine wbp X96 hx hby d28_31 ?_
 show Ends _ _ _ _ T96 (mkF m 33 #[cr o0, cj q0, cs, ci 4, ci 3, cr xa_, cu] [(.int 8), (.long q0), (.int c4_)]) _ _ _
 refine .go (fun _ => XS.lushr X96.here hx rfl (hb hby d28_33) rfl) ?_
 refine Ends.go (X96.ldc2Long hx hown (mvT hZ (ow hw 133 rfl)) (g := (mkF m 34 #[cr o0, cj q0, cs, ci 4, ci 3, cr xa_, cu] [(.long ((q0.toUInt64 >>> ((8 : Int32) &&& 0x3f).toInt64.toUInt64).toInt64)), (.int c4_)])) rfl (hb hby d28_34)) ?_
 refine .go (fun _ => XS.land X96.here hx rfl (hb hby d28_37) rfl) ?_
 refine .go (fun _ => XS.l2i X96.here hx rfl (hb hby d28_38) rfl) ?_
 refine .go (fun _ => XS.i2c X96.here hx rfl (hb hby d28_39) rfl) ?_
 show Ends _ _ _ _ T96 (mkF m 40 #[cr o0, cj q0, cs, ci 4, ci 3, cr xa_, cu] [(.int (((((q0.toUInt64 >>> ((8 : Int32) &&& 0x3f).toInt64.toUInt64).toInt64) &&& (255 : Int64)).toInt32).toUInt32.toUInt16.toUInt32.toInt32)), (.int c4_)]) _ _ _
 by_cases hc40_98 : c4_ = (((((q0.toUInt64 >>> ((8 : Int32) &&& 0x3f).toInt64.toUInt64).toInt64) &&& (255 : Int64)).toInt32).toUInt32.toUInt16.toUInt32.toInt32)
 ·refine wcn X96 hx hby d28_40 (teq hc40_98).2 ?_
  refine wal X96 hx hby d28_43 rfl rfl ?_
  refine wil X96 hx hby d28_45 rfl ?_
  refine wic X96 hx hby d28_47 ?_
  refine wia X96 hx hby d28_48 ?_
  show Ends _ _ _ _ T96 (mkF m 49 #[cr o0, cj q0, cs, ci 4, ci 3, cr xa_, cu] [(.int 5), (.ref xa_)]) _ _ _
  obtain ⟨cl99, Ar99, q99, S99, M99, H99, G99⟩ := id Vx
  have hin99 := inb_of (j := (5 : Int32)) S99 ⟨by decide, by decide⟩
  refine Ends.go (X96.caload hx (j := (5 : Int32)) (v := (.int c5_)) (by rw [e96]; exact Ar99.1) (State.isArrayOf_alike hZ.alike Ar99.2.1) Ar99.2.2 hin99 (H99.at hin99 rfl) (g := (mkF m 49 #[cr o0, cj q0, cs, ci 4, ci 3, cr xa_, cu] [(.int 5), (.ref xa_)])) rfl rfl (hb hby d28_49)) ?_
  refine .go (fun _ => XS.lloadN X96.here hx rfl (hb hby d28_50) rfl) ?_
  refine wbp X96 hx hby d28_51 ?_
  refine .go (fun _ => XS.lushr X96.here hx rfl (hb hby d28_53) rfl) ?_
  refine Ends.go (X96.ldc2Long hx hown (mvT hZ (ow hw 133 rfl)) (g := (mkF m 54 #[cr o0, cj q0, cs, ci 4, ci 3, cr xa_, cu] [(.long ((q0.toUInt64 >>> ((16 : Int32) &&& 0x3f).toInt64.toUInt64).toInt64)), (.int c5_)])) rfl (hb hby d28_54)) ?_
  show Ends _ _ _ _ T96 (mkF m 57 #[cr o0, cj q0, cs, ci 4, ci 3, cr xa_, cu] [(.long (255 : Int64)), (.long ((q0.toUInt64 >>> ((16 : Int32) &&& 0x3f).toInt64.toUInt64).toInt64)), (.int c5_)]) _ _ _
  refine .go (fun _ => XS.land X96.here hx rfl (hb hby d28_57) rfl) ?_
  refine .go (fun _ => XS.l2i X96.here hx rfl (hb hby d28_58) rfl) ?_
  refine .go (fun _ => XS.i2c X96.here hx rfl (hb hby d28_59) rfl) ?_
  by_cases hc60_100 : c5_ = (((((q0.toUInt64 >>> ((16 : Int32) &&& 0x3f).toInt64.toUInt64).toInt64) &&& (255 : Int64)).toInt32).toUInt32.toUInt16.toUInt32.toInt32)
  ·refine wcn X96 hx hby d28_60 (teq hc60_100).2 ?_
   refine wal X96 hx hby d28_63 rfl rfl ?_
   show Ends _ _ _ _ T96 (mkF m 65 #[cr o0, cj q0, cs, ci 4, ci 3, cr xa_, cu] [(.ref xa_)]) _ _ _
   refine wil X96 hx hby d28_65 rfl ?_
   refine wic X96 hx hby d28_67 ?_
   refine wia X96 hx hby d28_68 ?_
   obtain ⟨cl101, Ar101, q101, S101, M101, H101, G101⟩ := id Vx
   have hin101 := inb_of (j := (6 : Int32)) S101 ⟨by decide, by decide⟩
   refine Ends.go (X96.caload hx (j := (6 : Int32)) (v := (.int c6_)) (by rw [e96]; exact Ar101.1) (State.isArrayOf_alike hZ.alike Ar101.2.1) Ar101.2.2 hin101 (H101.at hin101 rfl) (g := (mkF m 69 #[cr o0, cj q0, cs, ci 4, ci 3, cr xa_, cu] [(.int 6), (.ref xa_)])) rfl rfl (hb hby d28_69)) ?_
   refine .go (fun _ => XS.lloadN X96.here hx rfl (hb hby d28_70) rfl) ?_
   show Ends _ _ _ _ T96 (mkF m 71 #[cr o0, cj q0, cs, ci 4, ci 3, cr xa_, cu] [(.long q0), (.int c6_)]) _ _ _
   refine wbp X96 hx hby d28_71 ?_
   refine .go (fun _ => XS.lushr X96.here hx rfl (hb hby d28_73) rfl) ?_
   refine Ends.go (X96.ldc2Long hx hown (mvT hZ (ow hw 133 rfl)) (g := (mkF m 74 #[cr o0, cj q0, cs, ci 4, ci 3, cr xa_, cu] [(.long ((q0.toUInt64 >>> ((24 : Int32) &&& 0x3f).toInt64.toUInt64).toInt64)), (.int c6_)])) rfl (hb hby d28_74)) ?_
   refine .go (fun _ => XS.land X96.here hx rfl (hb hby d28_77) rfl) ?_
   refine .go (fun _ => XS.l2i X96.here hx rfl (hb hby d28_78) rfl) ?_
   show Ends _ _ _ _ T96 (mkF m 79 #[cr o0, cj q0, cs, ci 4, ci 3, cr xa_, cu] [(.int ((((q0.toUInt64 >>> ((24 : Int32) &&& 0x3f).toInt64.toUInt64).toInt64) &&& (255 : Int64)).toInt32)), (.int c6_)]) _ _ _
   refine .go (fun _ => XS.i2c X96.here hx rfl (hb hby d28_79) rfl) ?_
   by_cases hc80_102 : c6_ = (((((q0.toUInt64 >>> ((24 : Int32) &&& 0x3f).toInt64.toUInt64).toInt64) &&& (255 : Int64)).toInt32).toUInt32.toUInt16.toUInt32.toInt32)
   ·refine wcn X96 hx hby d28_80 (teq hc80_102).2 ?_
    refine wilN X96 hx hby d28_83 rfl ?_
    refine wic X96 hx hby d28_84 ?_
    refine wcy (pc := 85) (pc' := 108) X96 hx hby d28_85 (teq (by decide : (4 : Int32) = (4 : Int32))).1 (by decide) (by decide) ?_
    show Ends _ _ _ _ T96 (mkF m 108 #[cr o0, cj q0, cs, ci 4, ci 3, cr xa_, cu] []) _ _ _
    refine wic X96 hx hby d28_108 ?_
    refine wgo (pc := 109) (pc' := 113) X96 hx hby d28_109 (by decide) (by decide) ?_
    refine wst X96 hx hby d28_113 (l' := #[cr o0, cj q0, cs, ci 4, ci 3, cr xa_, ci 1]) rfl ?_
    refine wil X96 hx hby d28_115 rfl ?_
    refine win X96 hx hby d28_117 ((if0 _ _).trans (feq (by decide : ¬ ((1 : Int32) = (0 : Int32)))).1) ?_
    show Ends _ _ _ _ T96 (mkF m 120 #[cr o0, cj q0, cs, ci 4, ci 3, cr xa_, ci 1] []) _ _ _
    refine walN X96 hx hby d28_120 rfl rfl ?_
    refine wil X96 hx hby d28_121 rfl ?_
    refine wilN X96 hx hby d28_123 rfl ?_
    refine wia X96 hx hby d28_124 ?_
    obtain ⟨T103, h103, X103, e103, W103, st103⟩ := putF X96 hx hZ hown (host := "") (Or.inl (ow hw 126 rfl)) Via.refl e96 Fp E0 (Or.inl (ow hw 127 rfl)) (ow hw 7 rfl) (ty := .int) (by decide) rfl rfl (g := (mkF m 125 #[cr o0, cj q0, cs, ci 4, ci 3, cr xa_, ci 1] [(.int 7), (.ref o0)])) rfl rfl (hb hby d28_125)
    refine Ends.go st103 ?_
    have Fw103 := Fp.same W103
    have K103 := K0.wr W103 (Or.inl (List.mem_of_getElem? (i := 0) rfl))
    have O103 := O0.wr W103 g_o0
    have N103 := Fr.snoc X103 N0 g_o0
    show Ends _ _ _ _ T103 (mkF m 128 #[cr o0, cj q0, cs, ci 4, ci 3, cr xa_, ci 1] []) _ _ _
    refine wil X103 hx hby d28_128 rfl ?_
    refine Ends.retZ X103 hx Bd.notSynchronized (t := .boolean) Bd.returns (by simp) (hb hby d28_130) (by decide) (by decide) ?_
    rw [e103]
    exact ⟨1, rfl, N103, K103, (E0.wr W103), (Fb.other W103 (Or.inr (slot_ne (Or.inl (ow hw 140 rfl)) (Or.inl (ow hw 127 rfl)) (by decide) (t := .int) (t' := .int) (by decide) (by decide)))), Or.inl ⟨rfl, (own_spec_3_4 c0_ c1_ c2_ c3_ c4_ c5_ c6_ q0).mpr ⟨hc40_98, hc60_100, hc80_102⟩, Fw103⟩⟩
   ·refine wcy (pc := 80) (pc' := 112) X96 hx hby d28_80 (feq hc80_102).2 (by decide) (by decide) ?_
    refine wic X96 hx hby d28_112 ?_
    refine wst X96 hx hby d28_113 (l' := #[cr o0, cj q0, cs, ci 4, ci 3, cr xa_, ci 0]) rfl ?_
    refine wil X96 hx hby d28_115 rfl ?_
    show Ends _ _ _ _ T96 (mkF m 117 #[cr o0, cj q0, cs, ci 4, ci 3, cr xa_, ci 0] [(.int 0)]) _ _ _
    refine wiy (pc := 117) (pc' := 128) X96 hx hby d28_117 ((if0 _ _).trans (teq (by decide : (0 : Int32) = (0 : Int32))).1) (by decide) (by decide) ?_
    refine wil X96 hx hby d28_128 rfl ?_
    refine Ends.retZ X96 hx Bd.notSynchronized (t := .boolean) Bd.returns (by simp) (hb hby d28_130) (by decide) (by decide) ?_
    rw [e96]
    exact ⟨0, rfl, N0, K0, E0, Fb, Or.inr ⟨rfl, fun q => hc80_102 ((own_spec_3_4 c0_ c1_ c2_ c3_ c4_ c5_ c6_ q0).mp q).2.2, Fp⟩⟩
  ·refine wcy (pc := 60) (pc' := 112) X96 hx hby d28_60 (feq hc60_100).2 (by decide) (by decide) ?_
   refine wic X96 hx hby d28_112 ?_
   refine wst X96 hx hby d28_113 (l' := #[cr o0, cj q0, cs, ci 4, ci 3, cr xa_, ci 0]) rfl ?_
   show Ends _ _ _ _ T96 (mkF m 115 #[cr o0, cj q0, cs, ci 4, ci 3, cr xa_, ci 0] []) _ _ _
   refine wil X96 hx hby d28_115 rfl ?_
   refine wiy (pc := 117) (pc' := 128) X96 hx hby d28_117 ((if0 _ _).trans (teq (by decide : (0 : Int32) = (0 : Int32))).1) (by decide) (by decide) ?_
   refine wil X96 hx hby d28_128 rfl ?_
   refine Ends.retZ X96 hx Bd.notSynchronized (t := .boolean) Bd.returns (by simp) (hb hby d28_130) (by decide) (by decide) ?_
   rw [e96]
   exact ⟨0, rfl, N0, K0, E0, Fb, Or.inr ⟨rfl, fun q => hc60_100 ((own_spec_3_4 c0_ c1_ c2_ c3_ c4_ c5_ c6_ q0).mp q).2.1, Fp⟩⟩
 ·refine wcy (pc := 40) (pc' := 112) X96 hx hby d28_40 (feq hc40_98).2 (by decide) (by decide) ?_
  refine wic X96 hx hby d28_112 ?_
  show Ends _ _ _ _ T96 (mkF m 113 #[cr o0, cj q0, cs, ci 4, ci 3, cr xa_, cu] [(.int 0)]) _ _ _
  refine wst X96 hx hby d28_113 (l' := #[cr o0, cj q0, cs, ci 4, ci 3, cr xa_, ci 0]) rfl ?_
  refine wil X96 hx hby d28_115 rfl ?_
  refine wiy (pc := 117) (pc' := 128) X96 hx hby d28_117 ((if0 _ _).trans (teq (by decide : (0 : Int32) = (0 : Int32))).1) (by decide) (by decide) ?_
  refine wil X96 hx hby d28_128 rfl ?_
  refine Ends.retZ X96 hx Bd.notSynchronized (t := .boolean) Bd.returns (by simp) (hb hby d28_130) (by decide) (by decide) ?_
  rw [e96]
  exact ⟨0, rfl, N0, K0, E0, Fb, Or.inr ⟨rfl, fun q => hc40_98 ((own_spec_3_4 c0_ c1_ c2_ c3_ c4_ c5_ c6_ q0).mp q).1, Fp⟩⟩
set_option maxRecDepth 65536 in
set_option maxHeartbeats 40000000 in
theorem rmW_4_4 (l : Launch) (Z : State) (a0 : Array Value) (hw : ∀ d ∈ tables_1, d.before a0 Z = true) (ws : List Jvm.Cond) (n0 : Nat) (h0 : Heap) (O0 : Old Z n0 h0)  (o0 xa_ : Addr) (kxa_ : ClassId) (q0 : Int64) (c0_ c1_ c2_ c3_ c4_ c5_ c6_ : Int32) (g_o0 : n0 ≤ o0) (hox : o0 ≠ xa_) (E0 : Exa Z h0 o0 cSI) (Fl : Fld Z h0 o0 cSI "limit" "I" (.int 7)) (Fp : Fld Z h0 o0 cSI "position" "I" (.int 4)) (Fb : Fld Z h0 o0 cSI "base" "I" (.int 0)) (Fc : Fld Z h0 o0 cSI "chars" "[C" (.ref xa_)) (Vx : Arv Z h0 xa_ kxa_ .char (7 : Int32) [(.int c0_), (.int c1_), (.int c2_), (.int c3_), (.int c4_), (.int c5_), (.int c6_)] (.int 0)) :
  Meets1 l ym6 prog_85_method_12_code 7 (some .boolean) ws ({ frames := 0, cells := 0, slots := 0, locals := 0 } : Room) #[(.ref o0), (.long q0), (.int 4)] Z h0 (fun v h L => ∃ r : Int32, v = some (.int r) ∧ Fr n0 L ∧ Keep h0 h [o0] ∧ Exa Z h o0 cSI ∧ Fld Z h o0 cSI "base" "I" (.int 0) ∧ ((r = 1 ∧ own_spec c0_ c1_ c2_ c3_ c4_ c5_ c6_ q0 4 4 ∧ Fld Z h o0 cSI "position" "I" (.int 8)) ∨ (r = 0 ∧ ¬ own_spec c0_ c1_ c2_ c3_ c4_ c5_ c6_ q0 4 4 ∧ Fld Z h o0 cSI "position" "I" (.int 4)))) := by
 refine MetFree.of_bodySF (plainFor_of_name pn28) hisR ?_
 intro p e s m args below meth c s₁ Bd hml0 hP hK
 obtain ⟨rfl, hZ, hh⟩ := hP
 have hx := Bd.exec
 have hby := Bd.bytes
 have hml : c.maxLocals = 7 := hml0
 have hown : s.vm.findClass "com/example/ratatoskr/ratatoskr/core/internal/StringInput" = some m.cls := findClass_of_methodNamed Bd.named
 have hnm := (name_of_methodNamed Bd.named Bd.method).1
 have X0 : Stand p l e ({ frames := 0, cells := 0, slots := 0, locals := 0 } : Room) s m #[(.ref o0), (.long q0), (.int 4)] below meth c s₁ [] 0 0 := Stand.of_body Bd
 have e0 : s₁.heap = h0 := by rw [← hh, Bd.state]; rfl
 have N0 := Fr.nil n0
 have Z0 := own_old_le O0
 show Ends _ _ _ _ s₁ (entryFrame m #[(.ref o0), (.long q0), (.int 4)] 7) ({ frames := 0, cells := 0, slots := 0, locals := 0 } : Room).cells ({ frames := 0, cells := 0, slots := 0, locals := 0 } : Room).slots (fun v h L => ∃ r : Int32, v = some (.int r) ∧ Fr n0 L ∧ Keep h0 h [o0] ∧ Exa Z h o0 cSI ∧ Fld Z h o0 cSI "base" "I" (.int 0) ∧ ((r = 1 ∧ own_spec c0_ c1_ c2_ c3_ c4_ c5_ c6_ q0 4 4 ∧ Fld Z h o0 cSI "position" "I" (.int 8)) ∨ (r = 0 ∧ ¬ own_spec c0_ c1_ c2_ c3_ c4_ c5_ c6_ q0 4 4 ∧ Fld Z h o0 cSI "position" "I" (.int 4))))
 refine Ends.go (fun _ k => castTop (ef28_rji m o0 q0 (4 : Int32)) k) ?_
 have K0 := Keep.refl h0 [o0]
 refine walN X0 hx hby d28_0 rfl rfl ?_
 obtain ⟨T104, X104, e104, st104⟩ := getF X0 hx hZ hown (host := "") (Or.inl (ow hw 126 rfl)) Via.refl e0 Fp (g := (mkF m 1 #[cr o0, cj q0, cs, ci 4, cu, cu, cu] [(.ref o0)])) rfl rfl (hb hby d28_1)
 refine Ends.go st104 ?_
 refine wst X104 hx hby d28_4 (l' := #[cr o0, cj q0, cs, ci 4, ci 4, cu, cu]) rfl ?_
 refine walN X104 hx hby d28_6 rfl rfl ?_
 show Ends _ _ _ _ T104 (mkF m 7 #[cr o0, cj q0, cs, ci 4, ci 4, cu, cu] [(.ref o0)]) _ _ _
 obtain ⟨T105, X105, e105, st105⟩ := getF X104 hx hZ hown (host := "") (Or.inl (ow hw 82 rfl)) Via.refl e104 Fc (g := (mkF m 7 #[cr o0, cj q0, cs, ci 4, ci 4, cu, cu] [(.ref o0)])) rfl rfl (hb hby d28_7)
 refine Ends.go st105 ?_
 refine was X105 hx hby d28_10 (l' := #[cr o0, cj q0, cs, ci 4, ci 4, cr xa_, cu]) rfl rfl ?_
 refine walN X105 hx hby d28_12 rfl rfl ?_
 obtain ⟨T106, X106, e106, st106⟩ := getF X105 hx hZ hown (host := "") (Or.inl (ow hw 84 rfl)) Via.refl e105 Fl (g := (mkF m 13 #[cr o0, cj q0, cs, ci 4, ci 4, cr xa_, cu] [(.ref o0)])) rfl rfl (hb hby d28_13)
 refine Ends.go st106 ?_
 refine wil X106 hx hby d28_16 rfl ?_
 show Ends _ _ _ _ T106 (mkF m 18 #[cr o0, cj q0, cs, ci 4, ci 4, cr xa_, cu] [(.int 4), (.int 7)]) _ _ _
 refine wis X106 hx hby d28_18 ?_
 refine wilN X106 hx hby d28_19 rfl ?_
 refine wcy (pc := 20) (pc' := 112) X106 hx hby d28_20 (tlt (by decide : (3 : Int32) < (4 : Int32))).1 (by decide) (by decide) ?_
 refine wic X106 hx hby d28_112 ?_
 refine wst X106 hx hby d28_113 (l' := #[cr o0, cj q0, cs, ci 4, ci 4, cr xa_, ci 0]) rfl ?_
 show Ends _ _ _ _ T106 (mkF m 115 #[cr o0, cj q0, cs, ci 4, ci 4, cr xa_, ci 0] []) _ _ _
 refine wil X106 hx hby d28_115 rfl ?_
 refine wiy (pc := 117) (pc' := 128) X106 hx hby d28_117 ((if0 _ _).trans (teq (by decide : (0 : Int32) = (0 : Int32))).1) (by decide) (by decide) ?_
 refine wil X106 hx hby d28_128 rfl ?_
 refine Ends.retZ X106 hx Bd.notSynchronized (t := .boolean) Bd.returns (by simp) (hb hby d28_130) (by decide) (by decide) ?_
 rw [e106]
 exact ⟨0, rfl, N0, K0, E0, Fb, Or.inr ⟨rfl, fun q => (own_spec_4_4 c0_ c1_ c2_ c3_ c4_ c5_ c6_ q0).mp q, Fp⟩⟩
set_option maxRecDepth 65536 in
set_option maxHeartbeats 40000000 in
theorem rmW_5_4 (l : Launch) (Z : State) (a0 : Array Value) (hw : ∀ d ∈ tables_1, d.before a0 Z = true) (ws : List Jvm.Cond) (n0 : Nat) (h0 : Heap) (O0 : Old Z n0 h0)  (o0 xa_ : Addr) (kxa_ : ClassId) (q0 : Int64) (c0_ c1_ c2_ c3_ c4_ c5_ c6_ : Int32) (g_o0 : n0 ≤ o0) (hox : o0 ≠ xa_) (E0 : Exa Z h0 o0 cSI) (Fl : Fld Z h0 o0 cSI "limit" "I" (.int 7)) (Fp : Fld Z h0 o0 cSI "position" "I" (.int 5)) (Fb : Fld Z h0 o0 cSI "base" "I" (.int 0)) (Fc : Fld Z h0 o0 cSI "chars" "[C" (.ref xa_)) (Vx : Arv Z h0 xa_ kxa_ .char (7 : Int32) [(.int c0_), (.int c1_), (.int c2_), (.int c3_), (.int c4_), (.int c5_), (.int c6_)] (.int 0)) :
  Meets1 l ym6 prog_85_method_12_code 7 (some .boolean) ws ({ frames := 0, cells := 0, slots := 0, locals := 0 } : Room) #[(.ref o0), (.long q0), (.int 4)] Z h0 (fun v h L => ∃ r : Int32, v = some (.int r) ∧ Fr n0 L ∧ Keep h0 h [o0] ∧ Exa Z h o0 cSI ∧ Fld Z h o0 cSI "base" "I" (.int 0) ∧ ((r = 1 ∧ own_spec c0_ c1_ c2_ c3_ c4_ c5_ c6_ q0 5 4 ∧ Fld Z h o0 cSI "position" "I" (.int 9)) ∨ (r = 0 ∧ ¬ own_spec c0_ c1_ c2_ c3_ c4_ c5_ c6_ q0 5 4 ∧ Fld Z h o0 cSI "position" "I" (.int 5)))) := by
 refine MetFree.of_bodySF (plainFor_of_name pn28) hisR ?_
 intro p e s m args below meth c s₁ Bd hml0 hP hK
 obtain ⟨rfl, hZ, hh⟩ := hP
 have hx := Bd.exec
 have hby := Bd.bytes
 have hml : c.maxLocals = 7 := hml0
 have hown : s.vm.findClass "com/example/ratatoskr/ratatoskr/core/internal/StringInput" = some m.cls := findClass_of_methodNamed Bd.named
 have hnm := (name_of_methodNamed Bd.named Bd.method).1
 have X0 : Stand p l e ({ frames := 0, cells := 0, slots := 0, locals := 0 } : Room) s m #[(.ref o0), (.long q0), (.int 4)] below meth c s₁ [] 0 0 := Stand.of_body Bd
 have e0 : s₁.heap = h0 := by rw [← hh, Bd.state]; rfl
 have N0 := Fr.nil n0
 have Z0 := own_old_le O0
 show Ends _ _ _ _ s₁ (entryFrame m #[(.ref o0), (.long q0), (.int 4)] 7) ({ frames := 0, cells := 0, slots := 0, locals := 0 } : Room).cells ({ frames := 0, cells := 0, slots := 0, locals := 0 } : Room).slots (fun v h L => ∃ r : Int32, v = some (.int r) ∧ Fr n0 L ∧ Keep h0 h [o0] ∧ Exa Z h o0 cSI ∧ Fld Z h o0 cSI "base" "I" (.int 0) ∧ ((r = 1 ∧ own_spec c0_ c1_ c2_ c3_ c4_ c5_ c6_ q0 5 4 ∧ Fld Z h o0 cSI "position" "I" (.int 9)) ∨ (r = 0 ∧ ¬ own_spec c0_ c1_ c2_ c3_ c4_ c5_ c6_ q0 5 4 ∧ Fld Z h o0 cSI "position" "I" (.int 5))))
 refine Ends.go (fun _ k => castTop (ef28_rji m o0 q0 (4 : Int32)) k) ?_
 have K0 := Keep.refl h0 [o0]
 refine walN X0 hx hby d28_0 rfl rfl ?_
 obtain ⟨T107, X107, e107, st107⟩ := getF X0 hx hZ hown (host := "") (Or.inl (ow hw 126 rfl)) Via.refl e0 Fp (g := (mkF m 1 #[cr o0, cj q0, cs, ci 4, cu, cu, cu] [(.ref o0)])) rfl rfl (hb hby d28_1)
 refine Ends.go st107 ?_
 refine wst X107 hx hby d28_4 (l' := #[cr o0, cj q0, cs, ci 4, ci 5, cu, cu]) rfl ?_
 refine walN X107 hx hby d28_6 rfl rfl ?_
 show Ends _ _ _ _ T107 (mkF m 7 #[cr o0, cj q0, cs, ci 4, ci 5, cu, cu] [(.ref o0)]) _ _ _
 obtain ⟨T108, X108, e108, st108⟩ := getF X107 hx hZ hown (host := "") (Or.inl (ow hw 82 rfl)) Via.refl e107 Fc (g := (mkF m 7 #[cr o0, cj q0, cs, ci 4, ci 5, cu, cu] [(.ref o0)])) rfl rfl (hb hby d28_7)
 refine Ends.go st108 ?_
 refine was X108 hx hby d28_10 (l' := #[cr o0, cj q0, cs, ci 4, ci 5, cr xa_, cu]) rfl rfl ?_
 refine walN X108 hx hby d28_12 rfl rfl ?_
 obtain ⟨T109, X109, e109, st109⟩ := getF X108 hx hZ hown (host := "") (Or.inl (ow hw 84 rfl)) Via.refl e108 Fl (g := (mkF m 13 #[cr o0, cj q0, cs, ci 4, ci 5, cr xa_, cu] [(.ref o0)])) rfl rfl (hb hby d28_13)
 refine Ends.go st109 ?_
 refine wil X109 hx hby d28_16 rfl ?_
 show Ends _ _ _ _ T109 (mkF m 18 #[cr o0, cj q0, cs, ci 4, ci 5, cr xa_, cu] [(.int 5), (.int 7)]) _ _ _
 refine wis X109 hx hby d28_18 ?_
 refine wilN X109 hx hby d28_19 rfl ?_
 refine wcy (pc := 20) (pc' := 112) X109 hx hby d28_20 (tlt (by decide : (2 : Int32) < (4 : Int32))).1 (by decide) (by decide) ?_
 refine wic X109 hx hby d28_112 ?_
 refine wst X109 hx hby d28_113 (l' := #[cr o0, cj q0, cs, ci 4, ci 5, cr xa_, ci 0]) rfl ?_
 show Ends _ _ _ _ T109 (mkF m 115 #[cr o0, cj q0, cs, ci 4, ci 5, cr xa_, ci 0] []) _ _ _
 refine wil X109 hx hby d28_115 rfl ?_
 refine wiy (pc := 117) (pc' := 128) X109 hx hby d28_117 ((if0 _ _).trans (teq (by decide : (0 : Int32) = (0 : Int32))).1) (by decide) (by decide) ?_
 refine wil X109 hx hby d28_128 rfl ?_
 refine Ends.retZ X109 hx Bd.notSynchronized (t := .boolean) Bd.returns (by simp) (hb hby d28_130) (by decide) (by decide) ?_
 rw [e109]
 exact ⟨0, rfl, N0, K0, E0, Fb, Or.inr ⟨rfl, fun q => (own_spec_5_4 c0_ c1_ c2_ c3_ c4_ c5_ c6_ q0).mp q, Fp⟩⟩
set_option maxRecDepth 65536 in
set_option maxHeartbeats 40000000 in
theorem rmW_6_4 (l : Launch) (Z : State) (a0 : Array Value) (hw : ∀ d ∈ tables_1, d.before a0 Z = true) (ws : List Jvm.Cond) (n0 : Nat) (h0 : Heap) (O0 : Old Z n0 h0)  (o0 xa_ : Addr) (kxa_ : ClassId) (q0 : Int64) (c0_ c1_ c2_ c3_ c4_ c5_ c6_ : Int32) (g_o0 : n0 ≤ o0) (hox : o0 ≠ xa_) (E0 : Exa Z h0 o0 cSI) (Fl : Fld Z h0 o0 cSI "limit" "I" (.int 7)) (Fp : Fld Z h0 o0 cSI "position" "I" (.int 6)) (Fb : Fld Z h0 o0 cSI "base" "I" (.int 0)) (Fc : Fld Z h0 o0 cSI "chars" "[C" (.ref xa_)) (Vx : Arv Z h0 xa_ kxa_ .char (7 : Int32) [(.int c0_), (.int c1_), (.int c2_), (.int c3_), (.int c4_), (.int c5_), (.int c6_)] (.int 0)) :
  Meets1 l ym6 prog_85_method_12_code 7 (some .boolean) ws ({ frames := 0, cells := 0, slots := 0, locals := 0 } : Room) #[(.ref o0), (.long q0), (.int 4)] Z h0 (fun v h L => ∃ r : Int32, v = some (.int r) ∧ Fr n0 L ∧ Keep h0 h [o0] ∧ Exa Z h o0 cSI ∧ Fld Z h o0 cSI "base" "I" (.int 0) ∧ ((r = 1 ∧ own_spec c0_ c1_ c2_ c3_ c4_ c5_ c6_ q0 6 4 ∧ Fld Z h o0 cSI "position" "I" (.int 10)) ∨ (r = 0 ∧ ¬ own_spec c0_ c1_ c2_ c3_ c4_ c5_ c6_ q0 6 4 ∧ Fld Z h o0 cSI "position" "I" (.int 6)))) := by
 refine MetFree.of_bodySF (plainFor_of_name pn28) hisR ?_
 intro p e s m args below meth c s₁ Bd hml0 hP hK
 obtain ⟨rfl, hZ, hh⟩ := hP
 have hx := Bd.exec
 have hby := Bd.bytes
 have hml : c.maxLocals = 7 := hml0
 have hown : s.vm.findClass "com/example/ratatoskr/ratatoskr/core/internal/StringInput" = some m.cls := findClass_of_methodNamed Bd.named
 have hnm := (name_of_methodNamed Bd.named Bd.method).1
 have X0 : Stand p l e ({ frames := 0, cells := 0, slots := 0, locals := 0 } : Room) s m #[(.ref o0), (.long q0), (.int 4)] below meth c s₁ [] 0 0 := Stand.of_body Bd
 have e0 : s₁.heap = h0 := by rw [← hh, Bd.state]; rfl
 have N0 := Fr.nil n0
 have Z0 := own_old_le O0
 show Ends _ _ _ _ s₁ (entryFrame m #[(.ref o0), (.long q0), (.int 4)] 7) ({ frames := 0, cells := 0, slots := 0, locals := 0 } : Room).cells ({ frames := 0, cells := 0, slots := 0, locals := 0 } : Room).slots (fun v h L => ∃ r : Int32, v = some (.int r) ∧ Fr n0 L ∧ Keep h0 h [o0] ∧ Exa Z h o0 cSI ∧ Fld Z h o0 cSI "base" "I" (.int 0) ∧ ((r = 1 ∧ own_spec c0_ c1_ c2_ c3_ c4_ c5_ c6_ q0 6 4 ∧ Fld Z h o0 cSI "position" "I" (.int 10)) ∨ (r = 0 ∧ ¬ own_spec c0_ c1_ c2_ c3_ c4_ c5_ c6_ q0 6 4 ∧ Fld Z h o0 cSI "position" "I" (.int 6))))
 refine Ends.go (fun _ k => castTop (ef28_rji m o0 q0 (4 : Int32)) k) ?_
 have K0 := Keep.refl h0 [o0]
 refine walN X0 hx hby d28_0 rfl rfl ?_
 obtain ⟨T110, X110, e110, st110⟩ := getF X0 hx hZ hown (host := "") (Or.inl (ow hw 126 rfl)) Via.refl e0 Fp (g := (mkF m 1 #[cr o0, cj q0, cs, ci 4, cu, cu, cu] [(.ref o0)])) rfl rfl (hb hby d28_1)
 refine Ends.go st110 ?_
 refine wst X110 hx hby d28_4 (l' := #[cr o0, cj q0, cs, ci 4, ci 6, cu, cu]) rfl ?_
 refine walN X110 hx hby d28_6 rfl rfl ?_
 show Ends _ _ _ _ T110 (mkF m 7 #[cr o0, cj q0, cs, ci 4, ci 6, cu, cu] [(.ref o0)]) _ _ _
 obtain ⟨T111, X111, e111, st111⟩ := getF X110 hx hZ hown (host := "") (Or.inl (ow hw 82 rfl)) Via.refl e110 Fc (g := (mkF m 7 #[cr o0, cj q0, cs, ci 4, ci 6, cu, cu] [(.ref o0)])) rfl rfl (hb hby d28_7)
 refine Ends.go st111 ?_
 refine was X111 hx hby d28_10 (l' := #[cr o0, cj q0, cs, ci 4, ci 6, cr xa_, cu]) rfl rfl ?_
 refine walN X111 hx hby d28_12 rfl rfl ?_
 obtain ⟨T112, X112, e112, st112⟩ := getF X111 hx hZ hown (host := "") (Or.inl (ow hw 84 rfl)) Via.refl e111 Fl (g := (mkF m 13 #[cr o0, cj q0, cs, ci 4, ci 6, cr xa_, cu] [(.ref o0)])) rfl rfl (hb hby d28_13)
 refine Ends.go st112 ?_
 refine wil X112 hx hby d28_16 rfl ?_
 show Ends _ _ _ _ T112 (mkF m 18 #[cr o0, cj q0, cs, ci 4, ci 6, cr xa_, cu] [(.int 6), (.int 7)]) _ _ _
 refine wis X112 hx hby d28_18 ?_
 refine wilN X112 hx hby d28_19 rfl ?_
 refine wcy (pc := 20) (pc' := 112) X112 hx hby d28_20 (tlt (by decide : (1 : Int32) < (4 : Int32))).1 (by decide) (by decide) ?_
 refine wic X112 hx hby d28_112 ?_
 refine wst X112 hx hby d28_113 (l' := #[cr o0, cj q0, cs, ci 4, ci 6, cr xa_, ci 0]) rfl ?_
 show Ends _ _ _ _ T112 (mkF m 115 #[cr o0, cj q0, cs, ci 4, ci 6, cr xa_, ci 0] []) _ _ _
 refine wil X112 hx hby d28_115 rfl ?_
 refine wiy (pc := 117) (pc' := 128) X112 hx hby d28_117 ((if0 _ _).trans (teq (by decide : (0 : Int32) = (0 : Int32))).1) (by decide) (by decide) ?_
 refine wil X112 hx hby d28_128 rfl ?_
 refine Ends.retZ X112 hx Bd.notSynchronized (t := .boolean) Bd.returns (by simp) (hb hby d28_130) (by decide) (by decide) ?_
 rw [e112]
 exact ⟨0, rfl, N0, K0, E0, Fb, Or.inr ⟨rfl, fun q => (own_spec_6_4 c0_ c1_ c2_ c3_ c4_ c5_ c6_ q0).mp q, Fp⟩⟩
theorem d28_88 : decode prog_85_method_12_code 88 = .ok (.aload 5, 2) := by decide +kernel
theorem d28_90 : decode prog_85_method_12_code 90 = .ok (.iload 4, 2) := by decide +kernel
theorem d28_92 : decode prog_85_method_12_code 92 = .ok (.iconst 4, 1) := by decide +kernel
theorem d28_93 : decode prog_85_method_12_code 93 = .ok (.iadd, 1) := by decide +kernel
theorem d28_94 : decode prog_85_method_12_code 94 = .ok (.caload, 1) := by decide +kernel
theorem d28_95 : decode prog_85_method_12_code 95 = .ok (.lload_n 1, 1) := by decide +kernel
theorem d28_96 : decode prog_85_method_12_code 96 = .ok (.bipush 32, 2) := by decide +kernel
theorem d28_98 : decode prog_85_method_12_code 98 = .ok (.lushr, 1) := by decide +kernel
theorem d28_99 : decode prog_85_method_12_code 99 = .ok (.ldc2_w 123, 3) := by decide +kernel
theorem d28_102 : decode prog_85_method_12_code 102 = .ok (.land, 1) := by decide +kernel
theorem d28_103 : decode prog_85_method_12_code 103 = .ok (.l2i, 1) := by decide +kernel
theorem d28_104 : decode prog_85_method_12_code 104 = .ok (.i2c, 1) := by decide +kernel
theorem d28_105 : decode prog_85_method_12_code 105 = .ok (.if_icmp .ne 7, 3) := by decide +kernel
set_option maxRecDepth 65536 in
set_option maxHeartbeats 40000000 in
theorem rmW_0_5 (l : Launch) (Z : State) (a0 : Array Value) (hw : ∀ d ∈ tables_1, d.before a0 Z = true) (ws : List Jvm.Cond) (n0 : Nat) (h0 : Heap) (O0 : Old Z n0 h0)  (o0 xa_ : Addr) (kxa_ : ClassId) (q0 : Int64) (c0_ c1_ c2_ c3_ c4_ c5_ c6_ : Int32) (g_o0 : n0 ≤ o0) (hox : o0 ≠ xa_) (E0 : Exa Z h0 o0 cSI) (Fl : Fld Z h0 o0 cSI "limit" "I" (.int 7)) (Fp : Fld Z h0 o0 cSI "position" "I" (.int 0)) (Fb : Fld Z h0 o0 cSI "base" "I" (.int 0)) (Fc : Fld Z h0 o0 cSI "chars" "[C" (.ref xa_)) (Vx : Arv Z h0 xa_ kxa_ .char (7 : Int32) [(.int c0_), (.int c1_), (.int c2_), (.int c3_), (.int c4_), (.int c5_), (.int c6_)] (.int 0)) :
  Meets1 l ym6 prog_85_method_12_code 7 (some .boolean) ws ({ frames := 0, cells := 0, slots := 0, locals := 0 } : Room) #[(.ref o0), (.long q0), (.int 5)] Z h0 (fun v h L => ∃ r : Int32, v = some (.int r) ∧ Fr n0 L ∧ Keep h0 h [o0] ∧ Exa Z h o0 cSI ∧ Fld Z h o0 cSI "base" "I" (.int 0) ∧ ((r = 1 ∧ own_spec c0_ c1_ c2_ c3_ c4_ c5_ c6_ q0 0 5 ∧ Fld Z h o0 cSI "position" "I" (.int 5)) ∨ (r = 0 ∧ ¬ own_spec c0_ c1_ c2_ c3_ c4_ c5_ c6_ q0 0 5 ∧ Fld Z h o0 cSI "position" "I" (.int 0)))) := by
 refine MetFree.of_bodySF (plainFor_of_name pn28) hisR ?_
 intro p e s m args below meth c s₁ Bd hml0 hP hK
 obtain ⟨rfl, hZ, hh⟩ := hP
 have hx := Bd.exec
 have hby := Bd.bytes
 have hml : c.maxLocals = 7 := hml0
 have hown : s.vm.findClass "com/example/ratatoskr/ratatoskr/core/internal/StringInput" = some m.cls := findClass_of_methodNamed Bd.named
 have hnm := (name_of_methodNamed Bd.named Bd.method).1
 have X0 : Stand p l e ({ frames := 0, cells := 0, slots := 0, locals := 0 } : Room) s m #[(.ref o0), (.long q0), (.int 5)] below meth c s₁ [] 0 0 := Stand.of_body Bd
 have e0 : s₁.heap = h0 := by rw [← hh, Bd.state]; rfl
 have N0 := Fr.nil n0
 have Z0 := own_old_le O0
 show Ends _ _ _ _ s₁ (entryFrame m #[(.ref o0), (.long q0), (.int 5)] 7) ({ frames := 0, cells := 0, slots := 0, locals := 0 } : Room).cells ({ frames := 0, cells := 0, slots := 0, locals := 0 } : Room).slots (fun v h L => ∃ r : Int32, v = some (.int r) ∧ Fr n0 L ∧ Keep h0 h [o0] ∧ Exa Z h o0 cSI ∧ Fld Z h o0 cSI "base" "I" (.int 0) ∧ ((r = 1 ∧ own_spec c0_ c1_ c2_ c3_ c4_ c5_ c6_ q0 0 5 ∧ Fld Z h o0 cSI "position" "I" (.int 5)) ∨ (r = 0 ∧ ¬ own_spec c0_ c1_ c2_ c3_ c4_ c5_ c6_ q0 0 5 ∧ Fld Z h o0 cSI "position" "I" (.int 0))))
 refine Ends.go (fun _ k => castTop (ef28_rji m o0 q0 (5 : Int32)) k) ?_
 have K0 := Keep.refl h0 [o0]
 refine walN X0 hx hby d28_0 rfl rfl ?_
 obtain ⟨T113, X113, e113, st113⟩ := getF X0 hx hZ hown (host := "") (Or.inl (ow hw 126 rfl)) Via.refl e0 Fp (g := (mkF m 1 #[cr o0, cj q0, cs, ci 5, cu, cu, cu] [(.ref o0)])) rfl rfl (hb hby d28_1)
 refine Ends.go st113 ?_
 refine wst X113 hx hby d28_4 (l' := #[cr o0, cj q0, cs, ci 5, ci 0, cu, cu]) rfl ?_
 refine walN X113 hx hby d28_6 rfl rfl ?_
 show Ends _ _ _ _ T113 (mkF m 7 #[cr o0, cj q0, cs, ci 5, ci 0, cu, cu] [(.ref o0)]) _ _ _
 obtain ⟨T114, X114, e114, st114⟩ := getF X113 hx hZ hown (host := "") (Or.inl (ow hw 82 rfl)) Via.refl e113 Fc (g := (mkF m 7 #[cr o0, cj q0, cs, ci 5, ci 0, cu, cu] [(.ref o0)])) rfl rfl (hb hby d28_7)
 refine Ends.go st114 ?_
 refine was X114 hx hby d28_10 (l' := #[cr o0, cj q0, cs, ci 5, ci 0, cr xa_, cu]) rfl rfl ?_
 refine walN X114 hx hby d28_12 rfl rfl ?_
 obtain ⟨T115, X115, e115, st115⟩ := getF X114 hx hZ hown (host := "") (Or.inl (ow hw 84 rfl)) Via.refl e114 Fl (g := (mkF m 13 #[cr o0, cj q0, cs, ci 5, ci 0, cr xa_, cu] [(.ref o0)])) rfl rfl (hb hby d28_13)
 refine Ends.go st115 ?_
 refine wil X115 hx hby d28_16 rfl ?_
 show Ends _ _ _ _ T115 (mkF m 18 #[cr o0, cj q0, cs, ci 5, ci 0, cr xa_, cu] [(.int 0), (.int 7)]) _ _ _
 refine wis X115 hx hby d28_18 ?_
 refine wilN X115 hx hby d28_19 rfl ?_
 refine wcn X115 hx hby d28_20 (flt (by decide : ¬ ((7 : Int32) < (5 : Int32)))).1 ?_
 refine wal X115 hx hby d28_23 rfl rfl ?_
 refine wil X115 hx hby d28_25 rfl ?_
 show Ends _ _ _ _ T115 (mkF m 27 #[cr o0, cj q0, cs, ci 5, ci 0, cr xa_, cu] [(.int 0), (.ref xa_)]) _ _ _
 refine wic X115 hx hby d28_27 ?_
 refine wia X115 hx hby d28_28 ?_
 obtain ⟨cl116, Ar116, q116, S116, M116, H116, G116⟩ := id Vx
 have hin116 := inb_of (j := (1 : Int32)) S116 ⟨by decide, by decide⟩
 refine Ends.go (X115.caload hx (j := (1 : Int32)) (v := (.int c1_)) (by rw [e115]; exact Ar116.1) (State.isArrayOf_alike hZ.alike Ar116.2.1) Ar116.2.2 hin116 (H116.at hin116 rfl) (g := (mkF m 29 #[cr o0, cj q0, cs, ci 5, ci 0, cr xa_, cu] [(.int 1), (.ref xa_)])) rfl rfl (hb hby d28_29)) ?_
 refine .go (fun _ => XS.lloadN X115.here hx rfl (hb hby d28_30) rfl) ?_
 refine wbp X115 hx hby d28_31 ?_
 show Ends _ _ _ _ T115 (mkF m 33 #[cr o0, cj q0, cs, ci 5, ci 0, cr xa_, cu] [(.int 8), (.long q0), (.int c1_)]) _ _ _
 refine .go (fun _ => XS.lushr X115.here hx rfl (hb hby d28_33) rfl) ?_
 refine Ends.go (X115.ldc2Long hx hown (mvT hZ (ow hw 133 rfl)) (g := (mkF m 34 #[cr o0, cj q0, cs, ci 5, ci 0, cr xa_, cu] [(.long ((q0.toUInt64 >>> ((8 : Int32) &&& 0x3f).toInt64.toUInt64).toInt64)), (.int c1_)])) rfl (hb hby d28_34)) ?_
 refine .go (fun _ => XS.land X115.here hx rfl (hb hby d28_37) rfl) ?_
 refine .go (fun _ => XS.l2i X115.here hx rfl (hb hby d28_38) rfl) ?_
 refine .go (fun _ => XS.i2c X115.here hx rfl (hb hby d28_39) rfl) ?_
 show Ends _ _ _ _ T115 (mkF m 40 #[cr o0, cj q0, cs, ci 5, ci 0, cr xa_, cu] [(.int (((((q0.toUInt64 >>> ((8 : Int32) &&& 0x3f).toInt64.toUInt64).toInt64) &&& (255 : Int64)).toInt32).toUInt32.toUInt16.toUInt32.toInt32)), (.int c1_)]) _ _ _
 by_cases hc40_117 : c1_ = (((((q0.toUInt64 >>> ((8 : Int32) &&& 0x3f).toInt64.toUInt64).toInt64) &&& (255 : Int64)).toInt32).toUInt32.toUInt16.toUInt32.toInt32)
 ·refine wcn X115 hx hby d28_40 (teq hc40_117).2 ?_
  refine wal X115 hx hby d28_43 rfl rfl ?_
  refine wil X115 hx hby d28_45 rfl ?_
  refine wic X115 hx hby d28_47 ?_
  refine wia X115 hx hby d28_48 ?_
  show Ends _ _ _ _ T115 (mkF m 49 #[cr o0, cj q0, cs, ci 5, ci 0, cr xa_, cu] [(.int 2), (.ref xa_)]) _ _ _
  obtain ⟨cl118, Ar118, q118, S118, M118, H118, G118⟩ := id Vx
  have hin118 := inb_of (j := (2 : Int32)) S118 ⟨by decide, by decide⟩
  refine Ends.go (X115.caload hx (j := (2 : Int32)) (v := (.int c2_)) (by rw [e115]; exact Ar118.1) (State.isArrayOf_alike hZ.alike Ar118.2.1) Ar118.2.2 hin118 (H118.at hin118 rfl) (g := (mkF m 49 #[cr o0, cj q0, cs, ci 5, ci 0, cr xa_, cu] [(.int 2), (.ref xa_)])) rfl rfl (hb hby d28_49)) ?_
  refine .go (fun _ => XS.lloadN X115.here hx rfl (hb hby d28_50) rfl) ?_
  refine wbp X115 hx hby d28_51 ?_
  refine .go (fun _ => XS.lushr X115.here hx rfl (hb hby d28_53) rfl) ?_
  refine Ends.go (X115.ldc2Long hx hown (mvT hZ (ow hw 133 rfl)) (g := (mkF m 54 #[cr o0, cj q0, cs, ci 5, ci 0, cr xa_, cu] [(.long ((q0.toUInt64 >>> ((16 : Int32) &&& 0x3f).toInt64.toUInt64).toInt64)), (.int c2_)])) rfl (hb hby d28_54)) ?_
  show Ends _ _ _ _ T115 (mkF m 57 #[cr o0, cj q0, cs, ci 5, ci 0, cr xa_, cu] [(.long (255 : Int64)), (.long ((q0.toUInt64 >>> ((16 : Int32) &&& 0x3f).toInt64.toUInt64).toInt64)), (.int c2_)]) _ _ _
  refine .go (fun _ => XS.land X115.here hx rfl (hb hby d28_57) rfl) ?_
  refine .go (fun _ => XS.l2i X115.here hx rfl (hb hby d28_58) rfl) ?_
  refine .go (fun _ => XS.i2c X115.here hx rfl (hb hby d28_59) rfl) ?_
  by_cases hc60_119 : c2_ = (((((q0.toUInt64 >>> ((16 : Int32) &&& 0x3f).toInt64.toUInt64).toInt64) &&& (255 : Int64)).toInt32).toUInt32.toUInt16.toUInt32.toInt32)
  ·refine wcn X115 hx hby d28_60 (teq hc60_119).2 ?_
   refine wal X115 hx hby d28_63 rfl rfl ?_
   show Ends _ _ _ _ T115 (mkF m 65 #[cr o0, cj q0, cs, ci 5, ci 0, cr xa_, cu] [(.ref xa_)]) _ _ _
   refine wil X115 hx hby d28_65 rfl ?_
   refine wic X115 hx hby d28_67 ?_
   refine wia X115 hx hby d28_68 ?_
   obtain ⟨cl120, Ar120, q120, S120, M120, H120, G120⟩ := id Vx
   have hin120 := inb_of (j := (3 : Int32)) S120 ⟨by decide, by decide⟩
   refine Ends.go (X115.caload hx (j := (3 : Int32)) (v := (.int c3_)) (by rw [e115]; exact Ar120.1) (State.isArrayOf_alike hZ.alike Ar120.2.1) Ar120.2.2 hin120 (H120.at hin120 rfl) (g := (mkF m 69 #[cr o0, cj q0, cs, ci 5, ci 0, cr xa_, cu] [(.int 3), (.ref xa_)])) rfl rfl (hb hby d28_69)) ?_
   refine .go (fun _ => XS.lloadN X115.here hx rfl (hb hby d28_70) rfl) ?_
   show Ends _ _ _ _ T115 (mkF m 71 #[cr o0, cj q0, cs, ci 5, ci 0, cr xa_, cu] [(.long q0), (.int c3_)]) _ _ _
   refine wbp X115 hx hby d28_71 ?_
   refine .go (fun _ => XS.lushr X115.here hx rfl (hb hby d28_73) rfl) ?_
   refine Ends.go (X115.ldc2Long hx hown (mvT hZ (ow hw 133 rfl)) (g := (mkF m 74 #[cr o0, cj q0, cs, ci 5, ci 0, cr xa_, cu] [(.long ((q0.toUInt64 >>> ((24 : Int32) &&& 0x3f).toInt64.toUInt64).toInt64)), (.int c3_)])) rfl (hb hby d28_74)) ?_
   refine .go (fun _ => XS.land X115.here hx rfl (hb hby d28_77) rfl) ?_
   refine .go (fun _ => XS.l2i X115.here hx rfl (hb hby d28_78) rfl) ?_
   show Ends _ _ _ _ T115 (mkF m 79 #[cr o0, cj q0, cs, ci 5, ci 0, cr xa_, cu] [(.int ((((q0.toUInt64 >>> ((24 : Int32) &&& 0x3f).toInt64.toUInt64).toInt64) &&& (255 : Int64)).toInt32)), (.int c3_)]) _ _ _
   refine .go (fun _ => XS.i2c X115.here hx rfl (hb hby d28_79) rfl) ?_
   by_cases hc80_121 : c3_ = (((((q0.toUInt64 >>> ((24 : Int32) &&& 0x3f).toInt64.toUInt64).toInt64) &&& (255 : Int64)).toInt32).toUInt32.toUInt16.toUInt32.toInt32)
   ·refine wcn X115 hx hby d28_80 (teq hc80_121).2 ?_
    refine wilN X115 hx hby d28_83 rfl ?_
    refine wic X115 hx hby d28_84 ?_
    refine wcn X115 hx hby d28_85 (feq (by decide : ¬ ((5 : Int32) = (4 : Int32)))).1 ?_
    show Ends _ _ _ _ T115 (mkF m 88 #[cr o0, cj q0, cs, ci 5, ci 0, cr xa_, cu] []) _ _ _
    refine wal X115 hx hby d28_88 rfl rfl ?_
    refine wil X115 hx hby d28_90 rfl ?_
    refine wic X115 hx hby d28_92 ?_
    refine wia X115 hx hby d28_93 ?_
    obtain ⟨cl122, Ar122, q122, S122, M122, H122, G122⟩ := id Vx
    have hin122 := inb_of (j := (4 : Int32)) S122 ⟨by decide, by decide⟩
    refine Ends.go (X115.caload hx (j := (4 : Int32)) (v := (.int c4_)) (by rw [e115]; exact Ar122.1) (State.isArrayOf_alike hZ.alike Ar122.2.1) Ar122.2.2 hin122 (H122.at hin122 rfl) (g := (mkF m 94 #[cr o0, cj q0, cs, ci 5, ci 0, cr xa_, cu] [(.int 4), (.ref xa_)])) rfl rfl (hb hby d28_94)) ?_
    show Ends _ _ _ _ T115 (mkF m 95 #[cr o0, cj q0, cs, ci 5, ci 0, cr xa_, cu] [(.int c4_)]) _ _ _
    refine .go (fun _ => XS.lloadN X115.here hx rfl (hb hby d28_95) rfl) ?_
    refine wbp X115 hx hby d28_96 ?_
    refine .go (fun _ => XS.lushr X115.here hx rfl (hb hby d28_98) rfl) ?_
    refine Ends.go (X115.ldc2Long hx hown (mvT hZ (ow hw 133 rfl)) (g := (mkF m 99 #[cr o0, cj q0, cs, ci 5, ci 0, cr xa_, cu] [(.long ((q0.toUInt64 >>> ((32 : Int32) &&& 0x3f).toInt64.toUInt64).toInt64)), (.int c4_)])) rfl (hb hby d28_99)) ?_
    refine .go (fun _ => XS.land X115.here hx rfl (hb hby d28_102) rfl) ?_
    show Ends _ _ _ _ T115 (mkF m 103 #[cr o0, cj q0, cs, ci 5, ci 0, cr xa_, cu] [(.long (((q0.toUInt64 >>> ((32 : Int32) &&& 0x3f).toInt64.toUInt64).toInt64) &&& (255 : Int64))), (.int c4_)]) _ _ _
    refine .go (fun _ => XS.l2i X115.here hx rfl (hb hby d28_103) rfl) ?_
    refine .go (fun _ => XS.i2c X115.here hx rfl (hb hby d28_104) rfl) ?_
    by_cases hc105_123 : c4_ = (((((q0.toUInt64 >>> ((32 : Int32) &&& 0x3f).toInt64.toUInt64).toInt64) &&& (255 : Int64)).toInt32).toUInt32.toUInt16.toUInt32.toInt32)
    ·refine wcn X115 hx hby d28_105 (teq hc105_123).2 ?_
     refine wic X115 hx hby d28_108 ?_
     refine wgo (pc := 109) (pc' := 113) X115 hx hby d28_109 (by decide) (by decide) ?_
     show Ends _ _ _ _ T115 (mkF m 113 #[cr o0, cj q0, cs, ci 5, ci 0, cr xa_, cu] [(.int 1)]) _ _ _
     refine wst X115 hx hby d28_113 (l' := #[cr o0, cj q0, cs, ci 5, ci 0, cr xa_, ci 1]) rfl ?_
     refine wil X115 hx hby d28_115 rfl ?_
     refine win X115 hx hby d28_117 ((if0 _ _).trans (feq (by decide : ¬ ((1 : Int32) = (0 : Int32)))).1) ?_
     refine walN X115 hx hby d28_120 rfl rfl ?_
     refine wil X115 hx hby d28_121 rfl ?_
     show Ends _ _ _ _ T115 (mkF m 123 #[cr o0, cj q0, cs, ci 5, ci 0, cr xa_, ci 1] [(.int 0), (.ref o0)]) _ _ _
     refine wilN X115 hx hby d28_123 rfl ?_
     refine wia X115 hx hby d28_124 ?_
     obtain ⟨T124, h124, X124, e124, W124, st124⟩ := putF X115 hx hZ hown (host := "") (Or.inl (ow hw 126 rfl)) Via.refl e115 Fp E0 (Or.inl (ow hw 127 rfl)) (ow hw 7 rfl) (ty := .int) (by decide) rfl rfl (g := (mkF m 125 #[cr o0, cj q0, cs, ci 5, ci 0, cr xa_, ci 1] [(.int 5), (.ref o0)])) rfl rfl (hb hby d28_125)
     refine Ends.go st124 ?_
     have Fw124 := Fp.same W124
     have K124 := K0.wr W124 (Or.inl (List.mem_of_getElem? (i := 0) rfl))
     have O124 := O0.wr W124 g_o0
     have N124 := Fr.snoc X124 N0 g_o0
     refine wil X124 hx hby d28_128 rfl ?_
     refine Ends.retZ X124 hx Bd.notSynchronized (t := .boolean) Bd.returns (by simp) (hb hby d28_130) (by decide) (by decide) ?_
     rw [e124]
     exact ⟨1, rfl, N124, K124, (E0.wr W124), (Fb.other W124 (Or.inr (slot_ne (Or.inl (ow hw 140 rfl)) (Or.inl (ow hw 127 rfl)) (by decide) (t := .int) (t' := .int) (by decide) (by decide)))), Or.inl ⟨rfl, (own_spec_0_5 c0_ c1_ c2_ c3_ c4_ c5_ c6_ q0).mpr ⟨hc40_117, hc60_119, hc80_121, hc105_123⟩, Fw124⟩⟩
    ·refine wcy (pc := 105) (pc' := 112) X115 hx hby d28_105 (feq hc105_123).2 (by decide) (by decide) ?_
     show Ends _ _ _ _ T115 (mkF m 112 #[cr o0, cj q0, cs, ci 5, ci 0, cr xa_, cu] []) _ _ _
     refine wic X115 hx hby d28_112 ?_
     refine wst X115 hx hby d28_113 (l' := #[cr o0, cj q0, cs, ci 5, ci 0, cr xa_, ci 0]) rfl ?_
     refine wil X115 hx hby d28_115 rfl ?_
     refine wiy (pc := 117) (pc' := 128) X115 hx hby d28_117 ((if0 _ _).trans (teq (by decide : (0 : Int32) = (0 : Int32))).1) (by decide) (by decide) ?_
     refine wil X115 hx hby d28_128 rfl ?_
     show Ends _ _ _ _ T115 (mkF m 130 #[cr o0, cj q0, cs, ci 5, ci 0, cr xa_, ci 0] [(.int 0)]) _ _ _
     refine Ends.retZ X115 hx Bd.notSynchronized (t := .boolean) Bd.returns (by simp) (hb hby d28_130) (by decide) (by decide) ?_
     rw [e115]
     exact ⟨0, rfl, N0, K0, E0, Fb, Or.inr ⟨rfl, fun q => hc105_123 ((own_spec_0_5 c0_ c1_ c2_ c3_ c4_ c5_ c6_ q0).mp q).2.2.2, Fp⟩⟩
   ·refine wcy (pc := 80) (pc' := 112) X115 hx hby d28_80 (feq hc80_121).2 (by decide) (by decide) ?_
    refine wic X115 hx hby d28_112 ?_
    refine wst X115 hx hby d28_113 (l' := #[cr o0, cj q0, cs, ci 5, ci 0, cr xa_, ci 0]) rfl ?_
    refine wil X115 hx hby d28_115 rfl ?_
    refine wiy (pc := 117) (pc' := 128) X115 hx hby d28_117 ((if0 _ _).trans (teq (by decide : (0 : Int32) = (0 : Int32))).1) (by decide) (by decide) ?_
    show Ends _ _ _ _ T115 (mkF m 128 #[cr o0, cj q0, cs, ci 5, ci 0, cr xa_, ci 0] []) _ _ _
    refine wil X115 hx hby d28_128 rfl ?_
    refine Ends.retZ X115 hx Bd.notSynchronized (t := .boolean) Bd.returns (by simp) (hb hby d28_130) (by decide) (by decide) ?_
    rw [e115]
    exact ⟨0, rfl, N0, K0, E0, Fb, Or.inr ⟨rfl, fun q => hc80_121 ((own_spec_0_5 c0_ c1_ c2_ c3_ c4_ c5_ c6_ q0).mp q).2.2.1, Fp⟩⟩
  ·refine wcy (pc := 60) (pc' := 112) X115 hx hby d28_60 (feq hc60_119).2 (by decide) (by decide) ?_
   refine wic X115 hx hby d28_112 ?_
   refine wst X115 hx hby d28_113 (l' := #[cr o0, cj q0, cs, ci 5, ci 0, cr xa_, ci 0]) rfl ?_
   refine wil X115 hx hby d28_115 rfl ?_
   show Ends _ _ _ _ T115 (mkF m 117 #[cr o0, cj q0, cs, ci 5, ci 0, cr xa_, ci 0] [(.int 0)]) _ _ _
   refine wiy (pc := 117) (pc' := 128) X115 hx hby d28_117 ((if0 _ _).trans (teq (by decide : (0 : Int32) = (0 : Int32))).1) (by decide) (by decide) ?_
   refine wil X115 hx hby d28_128 rfl ?_
   refine Ends.retZ X115 hx Bd.notSynchronized (t := .boolean) Bd.returns (by simp) (hb hby d28_130) (by decide) (by decide) ?_
   rw [e115]
   exact ⟨0, rfl, N0, K0, E0, Fb, Or.inr ⟨rfl, fun q => hc60_119 ((own_spec_0_5 c0_ c1_ c2_ c3_ c4_ c5_ c6_ q0).mp q).2.1, Fp⟩⟩
 ·refine wcy (pc := 40) (pc' := 112) X115 hx hby d28_40 (feq hc40_117).2 (by decide) (by decide) ?_
  refine wic X115 hx hby d28_112 ?_
  refine wst X115 hx hby d28_113 (l' := #[cr o0, cj q0, cs, ci 5, ci 0, cr xa_, ci 0]) rfl ?_
  show Ends _ _ _ _ T115 (mkF m 115 #[cr o0, cj q0, cs, ci 5, ci 0, cr xa_, ci 0] []) _ _ _
  refine wil X115 hx hby d28_115 rfl ?_
  refine wiy (pc := 117) (pc' := 128) X115 hx hby d28_117 ((if0 _ _).trans (teq (by decide : (0 : Int32) = (0 : Int32))).1) (by decide) (by decide) ?_
  refine wil X115 hx hby d28_128 rfl ?_
  refine Ends.retZ X115 hx Bd.notSynchronized (t := .boolean) Bd.returns (by simp) (hb hby d28_130) (by decide) (by decide) ?_
  rw [e115]
  exact ⟨0, rfl, N0, K0, E0, Fb, Or.inr ⟨rfl, fun q => hc40_117 ((own_spec_0_5 c0_ c1_ c2_ c3_ c4_ c5_ c6_ q0).mp q).1, Fp⟩⟩
set_option maxRecDepth 65536 in
set_option maxHeartbeats 40000000 in
theorem rmW_1_5 (l : Launch) (Z : State) (a0 : Array Value) (hw : ∀ d ∈ tables_1, d.before a0 Z = true) (ws : List Jvm.Cond) (n0 : Nat) (h0 : Heap) (O0 : Old Z n0 h0)  (o0 xa_ : Addr) (kxa_ : ClassId) (q0 : Int64) (c0_ c1_ c2_ c3_ c4_ c5_ c6_ : Int32) (g_o0 : n0 ≤ o0) (hox : o0 ≠ xa_) (E0 : Exa Z h0 o0 cSI) (Fl : Fld Z h0 o0 cSI "limit" "I" (.int 7)) (Fp : Fld Z h0 o0 cSI "position" "I" (.int 1)) (Fb : Fld Z h0 o0 cSI "base" "I" (.int 0)) (Fc : Fld Z h0 o0 cSI "chars" "[C" (.ref xa_)) (Vx : Arv Z h0 xa_ kxa_ .char (7 : Int32) [(.int c0_), (.int c1_), (.int c2_), (.int c3_), (.int c4_), (.int c5_), (.int c6_)] (.int 0)) :
  Meets1 l ym6 prog_85_method_12_code 7 (some .boolean) ws ({ frames := 0, cells := 0, slots := 0, locals := 0 } : Room) #[(.ref o0), (.long q0), (.int 5)] Z h0 (fun v h L => ∃ r : Int32, v = some (.int r) ∧ Fr n0 L ∧ Keep h0 h [o0] ∧ Exa Z h o0 cSI ∧ Fld Z h o0 cSI "base" "I" (.int 0) ∧ ((r = 1 ∧ own_spec c0_ c1_ c2_ c3_ c4_ c5_ c6_ q0 1 5 ∧ Fld Z h o0 cSI "position" "I" (.int 6)) ∨ (r = 0 ∧ ¬ own_spec c0_ c1_ c2_ c3_ c4_ c5_ c6_ q0 1 5 ∧ Fld Z h o0 cSI "position" "I" (.int 1)))) := by
 refine MetFree.of_bodySF (plainFor_of_name pn28) hisR ?_
 intro p e s m args below meth c s₁ Bd hml0 hP hK
 obtain ⟨rfl, hZ, hh⟩ := hP
 have hx := Bd.exec
 have hby := Bd.bytes
 have hml : c.maxLocals = 7 := hml0
 have hown : s.vm.findClass "com/example/ratatoskr/ratatoskr/core/internal/StringInput" = some m.cls := findClass_of_methodNamed Bd.named
 have hnm := (name_of_methodNamed Bd.named Bd.method).1
 have X0 : Stand p l e ({ frames := 0, cells := 0, slots := 0, locals := 0 } : Room) s m #[(.ref o0), (.long q0), (.int 5)] below meth c s₁ [] 0 0 := Stand.of_body Bd
 have e0 : s₁.heap = h0 := by rw [← hh, Bd.state]; rfl
 have N0 := Fr.nil n0
 have Z0 := own_old_le O0
 show Ends _ _ _ _ s₁ (entryFrame m #[(.ref o0), (.long q0), (.int 5)] 7) ({ frames := 0, cells := 0, slots := 0, locals := 0 } : Room).cells ({ frames := 0, cells := 0, slots := 0, locals := 0 } : Room).slots (fun v h L => ∃ r : Int32, v = some (.int r) ∧ Fr n0 L ∧ Keep h0 h [o0] ∧ Exa Z h o0 cSI ∧ Fld Z h o0 cSI "base" "I" (.int 0) ∧ ((r = 1 ∧ own_spec c0_ c1_ c2_ c3_ c4_ c5_ c6_ q0 1 5 ∧ Fld Z h o0 cSI "position" "I" (.int 6)) ∨ (r = 0 ∧ ¬ own_spec c0_ c1_ c2_ c3_ c4_ c5_ c6_ q0 1 5 ∧ Fld Z h o0 cSI "position" "I" (.int 1))))
 refine Ends.go (fun _ k => castTop (ef28_rji m o0 q0 (5 : Int32)) k) ?_
 have K0 := Keep.refl h0 [o0]
 refine walN X0 hx hby d28_0 rfl rfl ?_
 obtain ⟨T125, X125, e125, st125⟩ := getF X0 hx hZ hown (host := "") (Or.inl (ow hw 126 rfl)) Via.refl e0 Fp (g := (mkF m 1 #[cr o0, cj q0, cs, ci 5, cu, cu, cu] [(.ref o0)])) rfl rfl (hb hby d28_1)
 refine Ends.go st125 ?_
 refine wst X125 hx hby d28_4 (l' := #[cr o0, cj q0, cs, ci 5, ci 1, cu, cu]) rfl ?_
 refine walN X125 hx hby d28_6 rfl rfl ?_
 show Ends _ _ _ _ T125 (mkF m 7 #[cr o0, cj q0, cs, ci 5, ci 1, cu, cu] [(.ref o0)]) _ _ _
 obtain ⟨T126, X126, e126, st126⟩ := getF X125 hx hZ hown (host := "") (Or.inl (ow hw 82 rfl)) Via.refl e125 Fc (g := (mkF m 7 #[cr o0, cj q0, cs, ci 5, ci 1, cu, cu] [(.ref o0)])) rfl rfl (hb hby d28_7)
 refine Ends.go st126 ?_
 refine was X126 hx hby d28_10 (l' := #[cr o0, cj q0, cs, ci 5, ci 1, cr xa_, cu]) rfl rfl ?_
 refine walN X126 hx hby d28_12 rfl rfl ?_
 obtain ⟨T127, X127, e127, st127⟩ := getF X126 hx hZ hown (host := "") (Or.inl (ow hw 84 rfl)) Via.refl e126 Fl (g := (mkF m 13 #[cr o0, cj q0, cs, ci 5, ci 1, cr xa_, cu] [(.ref o0)])) rfl rfl (hb hby d28_13)
 refine Ends.go st127 ?_
 refine wil X127 hx hby d28_16 rfl ?_
 show Ends _ _ _ _ T127 (mkF m 18 #[cr o0, cj q0, cs, ci 5, ci 1, cr xa_, cu] [(.int 1), (.int 7)]) _ _ _
 refine wis X127 hx hby d28_18 ?_
 refine wilN X127 hx hby d28_19 rfl ?_
 refine wcn X127 hx hby d28_20 (flt (by decide : ¬ ((6 : Int32) < (5 : Int32)))).1 ?_
 refine wal X127 hx hby d28_23 rfl rfl ?_
 refine wil X127 hx hby d28_25 rfl ?_
 show Ends _ _ _ _ T127 (mkF m 27 #[cr o0, cj q0, cs, ci 5, ci 1, cr xa_, cu] [(.int 1), (.ref xa_)]) _ _ _
 refine wic X127 hx hby d28_27 ?_
 refine wia X127 hx hby d28_28 ?_
 obtain ⟨cl128, Ar128, q128, S128, M128, H128, G128⟩ := id Vx
 have hin128 := inb_of (j := (2 : Int32)) S128 ⟨by decide, by decide⟩
 refine Ends.go (X127.caload hx (j := (2 : Int32)) (v := (.int c2_)) (by rw [e127]; exact Ar128.1) (State.isArrayOf_alike hZ.alike Ar128.2.1) Ar128.2.2 hin128 (H128.at hin128 rfl) (g := (mkF m 29 #[cr o0, cj q0, cs, ci 5, ci 1, cr xa_, cu] [(.int 2), (.ref xa_)])) rfl rfl (hb hby d28_29)) ?_
 refine .go (fun _ => XS.lloadN X127.here hx rfl (hb hby d28_30) rfl) ?_
 refine wbp X127 hx hby d28_31 ?_
 show Ends _ _ _ _ T127 (mkF m 33 #[cr o0, cj q0, cs, ci 5, ci 1, cr xa_, cu] [(.int 8), (.long q0), (.int c2_)]) _ _ _
 refine .go (fun _ => XS.lushr X127.here hx rfl (hb hby d28_33) rfl) ?_
 refine Ends.go (X127.ldc2Long hx hown (mvT hZ (ow hw 133 rfl)) (g := (mkF m 34 #[cr o0, cj q0, cs, ci 5, ci 1, cr xa_, cu] [(.long ((q0.toUInt64 >>> ((8 : Int32) &&& 0x3f).toInt64.toUInt64).toInt64)), (.int c2_)])) rfl (hb hby d28_34)) ?_
 refine .go (fun _ => XS.land X127.here hx rfl (hb hby d28_37) rfl) ?_
 refine .go (fun _ => XS.l2i X127.here hx rfl (hb hby d28_38) rfl) ?_
 refine .go (fun _ => XS.i2c X127.here hx rfl (hb hby d28_39) rfl) ?_
 show Ends _ _ _ _ T127 (mkF m 40 #[cr o0, cj q0, cs, ci 5, ci 1, cr xa_, cu] [(.int (((((q0.toUInt64 >>> ((8 : Int32) &&& 0x3f).toInt64.toUInt64).toInt64) &&& (255 : Int64)).toInt32).toUInt32.toUInt16.toUInt32.toInt32)), (.int c2_)]) _ _ _
 by_cases hc40_129 : c2_ = (((((q0.toUInt64 >>> ((8 : Int32) &&& 0x3f).toInt64.toUInt64).toInt64) &&& (255 : Int64)).toInt32).toUInt32.toUInt16.toUInt32.toInt32)
 ·refine wcn X127 hx hby d28_40 (teq hc40_129).2 ?_
  refine wal X127 hx hby d28_43 rfl rfl ?_
  refine wil X127 hx hby d28_45 rfl ?_
  refine wic X127 hx hby d28_47 ?_
  refine wia X127 hx hby d28_48 ?_
  show Ends _ _ _ _ T127 (mkF m 49 #[cr o0, cj q0, cs, ci 5, ci 1, cr xa_, cu] [(.int 3), (.ref xa_)]) _ _ _
  obtain ⟨cl130, Ar130, q130, S130, M130, H130, G130⟩ := id Vx
  have hin130 := inb_of (j := (3 : Int32)) S130 ⟨by decide, by decide⟩
  refine Ends.go (X127.caload hx (j := (3 : Int32)) (v := (.int c3_)) (by rw [e127]; exact Ar130.1) (State.isArrayOf_alike hZ.alike Ar130.2.1) Ar130.2.2 hin130 (H130.at hin130 rfl) (g := (mkF m 49 #[cr o0, cj q0, cs, ci 5, ci 1, cr xa_, cu] [(.int 3), (.ref xa_)])) rfl rfl (hb hby d28_49)) ?_
  refine .go (fun _ => XS.lloadN X127.here hx rfl (hb hby d28_50) rfl) ?_
  refine wbp X127 hx hby d28_51 ?_
  refine .go (fun _ => XS.lushr X127.here hx rfl (hb hby d28_53) rfl) ?_
  refine Ends.go (X127.ldc2Long hx hown (mvT hZ (ow hw 133 rfl)) (g := (mkF m 54 #[cr o0, cj q0, cs, ci 5, ci 1, cr xa_, cu] [(.long ((q0.toUInt64 >>> ((16 : Int32) &&& 0x3f).toInt64.toUInt64).toInt64)), (.int c3_)])) rfl (hb hby d28_54)) ?_
  show Ends _ _ _ _ T127 (mkF m 57 #[cr o0, cj q0, cs, ci 5, ci 1, cr xa_, cu] [(.long (255 : Int64)), (.long ((q0.toUInt64 >>> ((16 : Int32) &&& 0x3f).toInt64.toUInt64).toInt64)), (.int c3_)]) _ _ _
  refine .go (fun _ => XS.land X127.here hx rfl (hb hby d28_57) rfl) ?_
  refine .go (fun _ => XS.l2i X127.here hx rfl (hb hby d28_58) rfl) ?_
  refine .go (fun _ => XS.i2c X127.here hx rfl (hb hby d28_59) rfl) ?_
  by_cases hc60_131 : c3_ = (((((q0.toUInt64 >>> ((16 : Int32) &&& 0x3f).toInt64.toUInt64).toInt64) &&& (255 : Int64)).toInt32).toUInt32.toUInt16.toUInt32.toInt32)
  ·refine wcn X127 hx hby d28_60 (teq hc60_131).2 ?_
   refine wal X127 hx hby d28_63 rfl rfl ?_
   show Ends _ _ _ _ T127 (mkF m 65 #[cr o0, cj q0, cs, ci 5, ci 1, cr xa_, cu] [(.ref xa_)]) _ _ _
   refine wil X127 hx hby d28_65 rfl ?_
   refine wic X127 hx hby d28_67 ?_
   refine wia X127 hx hby d28_68 ?_
   obtain ⟨cl132, Ar132, q132, S132, M132, H132, G132⟩ := id Vx
   have hin132 := inb_of (j := (4 : Int32)) S132 ⟨by decide, by decide⟩
   refine Ends.go (X127.caload hx (j := (4 : Int32)) (v := (.int c4_)) (by rw [e127]; exact Ar132.1) (State.isArrayOf_alike hZ.alike Ar132.2.1) Ar132.2.2 hin132 (H132.at hin132 rfl) (g := (mkF m 69 #[cr o0, cj q0, cs, ci 5, ci 1, cr xa_, cu] [(.int 4), (.ref xa_)])) rfl rfl (hb hby d28_69)) ?_
   refine .go (fun _ => XS.lloadN X127.here hx rfl (hb hby d28_70) rfl) ?_
   show Ends _ _ _ _ T127 (mkF m 71 #[cr o0, cj q0, cs, ci 5, ci 1, cr xa_, cu] [(.long q0), (.int c4_)]) _ _ _
   refine wbp X127 hx hby d28_71 ?_
   refine .go (fun _ => XS.lushr X127.here hx rfl (hb hby d28_73) rfl) ?_
   refine Ends.go (X127.ldc2Long hx hown (mvT hZ (ow hw 133 rfl)) (g := (mkF m 74 #[cr o0, cj q0, cs, ci 5, ci 1, cr xa_, cu] [(.long ((q0.toUInt64 >>> ((24 : Int32) &&& 0x3f).toInt64.toUInt64).toInt64)), (.int c4_)])) rfl (hb hby d28_74)) ?_
   refine .go (fun _ => XS.land X127.here hx rfl (hb hby d28_77) rfl) ?_
   refine .go (fun _ => XS.l2i X127.here hx rfl (hb hby d28_78) rfl) ?_
   show Ends _ _ _ _ T127 (mkF m 79 #[cr o0, cj q0, cs, ci 5, ci 1, cr xa_, cu] [(.int ((((q0.toUInt64 >>> ((24 : Int32) &&& 0x3f).toInt64.toUInt64).toInt64) &&& (255 : Int64)).toInt32)), (.int c4_)]) _ _ _
   refine .go (fun _ => XS.i2c X127.here hx rfl (hb hby d28_79) rfl) ?_
   by_cases hc80_133 : c4_ = (((((q0.toUInt64 >>> ((24 : Int32) &&& 0x3f).toInt64.toUInt64).toInt64) &&& (255 : Int64)).toInt32).toUInt32.toUInt16.toUInt32.toInt32)
   ·refine wcn X127 hx hby d28_80 (teq hc80_133).2 ?_
    refine wilN X127 hx hby d28_83 rfl ?_
    refine wic X127 hx hby d28_84 ?_
    refine wcn X127 hx hby d28_85 (feq (by decide : ¬ ((5 : Int32) = (4 : Int32)))).1 ?_
    show Ends _ _ _ _ T127 (mkF m 88 #[cr o0, cj q0, cs, ci 5, ci 1, cr xa_, cu] []) _ _ _
    refine wal X127 hx hby d28_88 rfl rfl ?_
    refine wil X127 hx hby d28_90 rfl ?_
    refine wic X127 hx hby d28_92 ?_
    refine wia X127 hx hby d28_93 ?_
    obtain ⟨cl134, Ar134, q134, S134, M134, H134, G134⟩ := id Vx
    have hin134 := inb_of (j := (5 : Int32)) S134 ⟨by decide, by decide⟩
    refine Ends.go (X127.caload hx (j := (5 : Int32)) (v := (.int c5_)) (by rw [e127]; exact Ar134.1) (State.isArrayOf_alike hZ.alike Ar134.2.1) Ar134.2.2 hin134 (H134.at hin134 rfl) (g := (mkF m 94 #[cr o0, cj q0, cs, ci 5, ci 1, cr xa_, cu] [(.int 5), (.ref xa_)])) rfl rfl (hb hby d28_94)) ?_
    show Ends _ _ _ _ T127 (mkF m 95 #[cr o0, cj q0, cs, ci 5, ci 1, cr xa_, cu] [(.int c5_)]) _ _ _
    refine .go (fun _ => XS.lloadN X127.here hx rfl (hb hby d28_95) rfl) ?_
    refine wbp X127 hx hby d28_96 ?_
    refine .go (fun _ => XS.lushr X127.here hx rfl (hb hby d28_98) rfl) ?_
    refine Ends.go (X127.ldc2Long hx hown (mvT hZ (ow hw 133 rfl)) (g := (mkF m 99 #[cr o0, cj q0, cs, ci 5, ci 1, cr xa_, cu] [(.long ((q0.toUInt64 >>> ((32 : Int32) &&& 0x3f).toInt64.toUInt64).toInt64)), (.int c5_)])) rfl (hb hby d28_99)) ?_
    refine .go (fun _ => XS.land X127.here hx rfl (hb hby d28_102) rfl) ?_
    show Ends _ _ _ _ T127 (mkF m 103 #[cr o0, cj q0, cs, ci 5, ci 1, cr xa_, cu] [(.long (((q0.toUInt64 >>> ((32 : Int32) &&& 0x3f).toInt64.toUInt64).toInt64) &&& (255 : Int64))), (.int c5_)]) _ _ _
    refine .go (fun _ => XS.l2i X127.here hx rfl (hb hby d28_103) rfl) ?_
    refine .go (fun _ => XS.i2c X127.here hx rfl (hb hby d28_104) rfl) ?_
    by_cases hc105_135 : c5_ = (((((q0.toUInt64 >>> ((32 : Int32) &&& 0x3f).toInt64.toUInt64).toInt64) &&& (255 : Int64)).toInt32).toUInt32.toUInt16.toUInt32.toInt32)
    ·refine wcn X127 hx hby d28_105 (teq hc105_135).2 ?_
     refine wic X127 hx hby d28_108 ?_
     refine wgo (pc := 109) (pc' := 113) X127 hx hby d28_109 (by decide) (by decide) ?_
     show Ends _ _ _ _ T127 (mkF m 113 #[cr o0, cj q0, cs, ci 5, ci 1, cr xa_, cu] [(.int 1)]) _ _ _
     refine wst X127 hx hby d28_113 (l' := #[cr o0, cj q0, cs, ci 5, ci 1, cr xa_, ci 1]) rfl ?_
     refine wil X127 hx hby d28_115 rfl ?_
     refine win X127 hx hby d28_117 ((if0 _ _).trans (feq (by decide : ¬ ((1 : Int32) = (0 : Int32)))).1) ?_
     refine walN X127 hx hby d28_120 rfl rfl ?_
     refine wil X127 hx hby d28_121 rfl ?_
     show Ends _ _ _ _ T127 (mkF m 123 #[cr o0, cj q0, cs, ci 5, ci 1, cr xa_, ci 1] [(.int 1), (.ref o0)]) _ _ _
     refine wilN X127 hx hby d28_123 rfl ?_
     refine wia X127 hx hby d28_124 ?_
     obtain ⟨T136, h136, X136, e136, W136, st136⟩ := putF X127 hx hZ hown (host := "") (Or.inl (ow hw 126 rfl)) Via.refl e127 Fp E0 (Or.inl (ow hw 127 rfl)) (ow hw 7 rfl) (ty := .int) (by decide) rfl rfl (g := (mkF m 125 #[cr o0, cj q0, cs, ci 5, ci 1, cr xa_, ci 1] [(.int 6), (.ref o0)])) rfl rfl (hb hby d28_125)
     refine Ends.go st136 ?_
     have Fw136 := Fp.same W136
     have K136 := K0.wr W136 (Or.inl (List.mem_of_getElem? (i := 0) rfl))
     have O136 := O0.wr W136 g_o0
     have N136 := Fr.snoc X136 N0 g_o0
     refine wil X136 hx hby d28_128 rfl ?_
     refine Ends.retZ X136 hx Bd.notSynchronized (t := .boolean) Bd.returns (by simp) (hb hby d28_130) (by decide) (by decide) ?_
     rw [e136]
     exact ⟨1, rfl, N136, K136, (E0.wr W136), (Fb.other W136 (Or.inr (slot_ne (Or.inl (ow hw 140 rfl)) (Or.inl (ow hw 127 rfl)) (by decide) (t := .int) (t' := .int) (by decide) (by decide)))), Or.inl ⟨rfl, (own_spec_1_5 c0_ c1_ c2_ c3_ c4_ c5_ c6_ q0).mpr ⟨hc40_129, hc60_131, hc80_133, hc105_135⟩, Fw136⟩⟩
    ·refine wcy (pc := 105) (pc' := 112) X127 hx hby d28_105 (feq hc105_135).2 (by decide) (by decide) ?_
     show Ends _ _ _ _ T127 (mkF m 112 #[cr o0, cj q0, cs, ci 5, ci 1, cr xa_, cu] []) _ _ _
     refine wic X127 hx hby d28_112 ?_
     refine wst X127 hx hby d28_113 (l' := #[cr o0, cj q0, cs, ci 5, ci 1, cr xa_, ci 0]) rfl ?_
     refine wil X127 hx hby d28_115 rfl ?_
     refine wiy (pc := 117) (pc' := 128) X127 hx hby d28_117 ((if0 _ _).trans (teq (by decide : (0 : Int32) = (0 : Int32))).1) (by decide) (by decide) ?_
     refine wil X127 hx hby d28_128 rfl ?_
     show Ends _ _ _ _ T127 (mkF m 130 #[cr o0, cj q0, cs, ci 5, ci 1, cr xa_, ci 0] [(.int 0)]) _ _ _
     refine Ends.retZ X127 hx Bd.notSynchronized (t := .boolean) Bd.returns (by simp) (hb hby d28_130) (by decide) (by decide) ?_
     rw [e127]
     exact ⟨0, rfl, N0, K0, E0, Fb, Or.inr ⟨rfl, fun q => hc105_135 ((own_spec_1_5 c0_ c1_ c2_ c3_ c4_ c5_ c6_ q0).mp q).2.2.2, Fp⟩⟩
   ·refine wcy (pc := 80) (pc' := 112) X127 hx hby d28_80 (feq hc80_133).2 (by decide) (by decide) ?_
    refine wic X127 hx hby d28_112 ?_
    refine wst X127 hx hby d28_113 (l' := #[cr o0, cj q0, cs, ci 5, ci 1, cr xa_, ci 0]) rfl ?_
    refine wil X127 hx hby d28_115 rfl ?_
    refine wiy (pc := 117) (pc' := 128) X127 hx hby d28_117 ((if0 _ _).trans (teq (by decide : (0 : Int32) = (0 : Int32))).1) (by decide) (by decide) ?_
    show Ends _ _ _ _ T127 (mkF m 128 #[cr o0, cj q0, cs, ci 5, ci 1, cr xa_, ci 0] []) _ _ _
    refine wil X127 hx hby d28_128 rfl ?_
    refine Ends.retZ X127 hx Bd.notSynchronized (t := .boolean) Bd.returns (by simp) (hb hby d28_130) (by decide) (by decide) ?_
    rw [e127]
    exact ⟨0, rfl, N0, K0, E0, Fb, Or.inr ⟨rfl, fun q => hc80_133 ((own_spec_1_5 c0_ c1_ c2_ c3_ c4_ c5_ c6_ q0).mp q).2.2.1, Fp⟩⟩
  ·refine wcy (pc := 60) (pc' := 112) X127 hx hby d28_60 (feq hc60_131).2 (by decide) (by decide) ?_
   refine wic X127 hx hby d28_112 ?_
   refine wst X127 hx hby d28_113 (l' := #[cr o0, cj q0, cs, ci 5, ci 1, cr xa_, ci 0]) rfl ?_
   refine wil X127 hx hby d28_115 rfl ?_
   show Ends _ _ _ _ T127 (mkF m 117 #[cr o0, cj q0, cs, ci 5, ci 1, cr xa_, ci 0] [(.int 0)]) _ _ _
   refine wiy (pc := 117) (pc' := 128) X127 hx hby d28_117 ((if0 _ _).trans (teq (by decide : (0 : Int32) = (0 : Int32))).1) (by decide) (by decide) ?_
   refine wil X127 hx hby d28_128 rfl ?_
   refine Ends.retZ X127 hx Bd.notSynchronized (t := .boolean) Bd.returns (by simp) (hb hby d28_130) (by decide) (by decide) ?_
   rw [e127]
   exact ⟨0, rfl, N0, K0, E0, Fb, Or.inr ⟨rfl, fun q => hc60_131 ((own_spec_1_5 c0_ c1_ c2_ c3_ c4_ c5_ c6_ q0).mp q).2.1, Fp⟩⟩
 ·refine wcy (pc := 40) (pc' := 112) X127 hx hby d28_40 (feq hc40_129).2 (by decide) (by decide) ?_
  refine wic X127 hx hby d28_112 ?_
  refine wst X127 hx hby d28_113 (l' := #[cr o0, cj q0, cs, ci 5, ci 1, cr xa_, ci 0]) rfl ?_
  show Ends _ _ _ _ T127 (mkF m 115 #[cr o0, cj q0, cs, ci 5, ci 1, cr xa_, ci 0] []) _ _ _
  refine wil X127 hx hby d28_115 rfl ?_
  refine wiy (pc := 117) (pc' := 128) X127 hx hby d28_117 ((if0 _ _).trans (teq (by decide : (0 : Int32) = (0 : Int32))).1) (by decide) (by decide) ?_
  refine wil X127 hx hby d28_128 rfl ?_
  refine Ends.retZ X127 hx Bd.notSynchronized (t := .boolean) Bd.returns (by simp) (hb hby d28_130) (by decide) (by decide) ?_
  rw [e127]
  exact ⟨0, rfl, N0, K0, E0, Fb, Or.inr ⟨rfl, fun q => hc40_129 ((own_spec_1_5 c0_ c1_ c2_ c3_ c4_ c5_ c6_ q0).mp q).1, Fp⟩⟩
set_option maxRecDepth 65536 in
set_option maxHeartbeats 40000000 in
theorem rmW_2_5 (l : Launch) (Z : State) (a0 : Array Value) (hw : ∀ d ∈ tables_1, d.before a0 Z = true) (ws : List Jvm.Cond) (n0 : Nat) (h0 : Heap) (O0 : Old Z n0 h0)  (o0 xa_ : Addr) (kxa_ : ClassId) (q0 : Int64) (c0_ c1_ c2_ c3_ c4_ c5_ c6_ : Int32) (g_o0 : n0 ≤ o0) (hox : o0 ≠ xa_) (E0 : Exa Z h0 o0 cSI) (Fl : Fld Z h0 o0 cSI "limit" "I" (.int 7)) (Fp : Fld Z h0 o0 cSI "position" "I" (.int 2)) (Fb : Fld Z h0 o0 cSI "base" "I" (.int 0)) (Fc : Fld Z h0 o0 cSI "chars" "[C" (.ref xa_)) (Vx : Arv Z h0 xa_ kxa_ .char (7 : Int32) [(.int c0_), (.int c1_), (.int c2_), (.int c3_), (.int c4_), (.int c5_), (.int c6_)] (.int 0)) :
  Meets1 l ym6 prog_85_method_12_code 7 (some .boolean) ws ({ frames := 0, cells := 0, slots := 0, locals := 0 } : Room) #[(.ref o0), (.long q0), (.int 5)] Z h0 (fun v h L => ∃ r : Int32, v = some (.int r) ∧ Fr n0 L ∧ Keep h0 h [o0] ∧ Exa Z h o0 cSI ∧ Fld Z h o0 cSI "base" "I" (.int 0) ∧ ((r = 1 ∧ own_spec c0_ c1_ c2_ c3_ c4_ c5_ c6_ q0 2 5 ∧ Fld Z h o0 cSI "position" "I" (.int 7)) ∨ (r = 0 ∧ ¬ own_spec c0_ c1_ c2_ c3_ c4_ c5_ c6_ q0 2 5 ∧ Fld Z h o0 cSI "position" "I" (.int 2)))) := by
 refine MetFree.of_bodySF (plainFor_of_name pn28) hisR ?_
 intro p e s m args below meth c s₁ Bd hml0 hP hK
 obtain ⟨rfl, hZ, hh⟩ := hP
 have hx := Bd.exec
 have hby := Bd.bytes
 have hml : c.maxLocals = 7 := hml0
 have hown : s.vm.findClass "com/example/ratatoskr/ratatoskr/core/internal/StringInput" = some m.cls := findClass_of_methodNamed Bd.named
 have hnm := (name_of_methodNamed Bd.named Bd.method).1
 have X0 : Stand p l e ({ frames := 0, cells := 0, slots := 0, locals := 0 } : Room) s m #[(.ref o0), (.long q0), (.int 5)] below meth c s₁ [] 0 0 := Stand.of_body Bd
 have e0 : s₁.heap = h0 := by rw [← hh, Bd.state]; rfl
 have N0 := Fr.nil n0
 have Z0 := own_old_le O0
 show Ends _ _ _ _ s₁ (entryFrame m #[(.ref o0), (.long q0), (.int 5)] 7) ({ frames := 0, cells := 0, slots := 0, locals := 0 } : Room).cells ({ frames := 0, cells := 0, slots := 0, locals := 0 } : Room).slots (fun v h L => ∃ r : Int32, v = some (.int r) ∧ Fr n0 L ∧ Keep h0 h [o0] ∧ Exa Z h o0 cSI ∧ Fld Z h o0 cSI "base" "I" (.int 0) ∧ ((r = 1 ∧ own_spec c0_ c1_ c2_ c3_ c4_ c5_ c6_ q0 2 5 ∧ Fld Z h o0 cSI "position" "I" (.int 7)) ∨ (r = 0 ∧ ¬ own_spec c0_ c1_ c2_ c3_ c4_ c5_ c6_ q0 2 5 ∧ Fld Z h o0 cSI "position" "I" (.int 2))))
 refine Ends.go (fun _ k => castTop (ef28_rji m o0 q0 (5 : Int32)) k) ?_
 have K0 := Keep.refl h0 [o0]
 refine walN X0 hx hby d28_0 rfl rfl ?_
 obtain ⟨T137, X137, e137, st137⟩ := getF X0 hx hZ hown (host := "") (Or.inl (ow hw 126 rfl)) Via.refl e0 Fp (g := (mkF m 1 #[cr o0, cj q0, cs, ci 5, cu, cu, cu] [(.ref o0)])) rfl rfl (hb hby d28_1)
 refine Ends.go st137 ?_
 refine wst X137 hx hby d28_4 (l' := #[cr o0, cj q0, cs, ci 5, ci 2, cu, cu]) rfl ?_
 refine walN X137 hx hby d28_6 rfl rfl ?_
 show Ends _ _ _ _ T137 (mkF m 7 #[cr o0, cj q0, cs, ci 5, ci 2, cu, cu] [(.ref o0)]) _ _ _
 obtain ⟨T138, X138, e138, st138⟩ := getF X137 hx hZ hown (host := "") (Or.inl (ow hw 82 rfl)) Via.refl e137 Fc (g := (mkF m 7 #[cr o0, cj q0, cs, ci 5, ci 2, cu, cu] [(.ref o0)])) rfl rfl (hb hby d28_7)
 refine Ends.go st138 ?_
 refine was X138 hx hby d28_10 (l' := #[cr o0, cj q0, cs, ci 5, ci 2, cr xa_, cu]) rfl rfl ?_
 refine walN X138 hx hby d28_12 rfl rfl ?_
 obtain ⟨T139, X139, e139, st139⟩ := getF X138 hx hZ hown (host := "") (Or.inl (ow hw 84 rfl)) Via.refl e138 Fl (g := (mkF m 13 #[cr o0, cj q0, cs, ci 5, ci 2, cr xa_, cu] [(.ref o0)])) rfl rfl (hb hby d28_13)
 refine Ends.go st139 ?_
 refine wil X139 hx hby d28_16 rfl ?_
 show Ends _ _ _ _ T139 (mkF m 18 #[cr o0, cj q0, cs, ci 5, ci 2, cr xa_, cu] [(.int 2), (.int 7)]) _ _ _
 refine wis X139 hx hby d28_18 ?_
 refine wilN X139 hx hby d28_19 rfl ?_
 refine wcn X139 hx hby d28_20 (flt (by decide : ¬ ((5 : Int32) < (5 : Int32)))).1 ?_
 refine wal X139 hx hby d28_23 rfl rfl ?_
 refine wil X139 hx hby d28_25 rfl ?_
 show Ends _ _ _ _ T139 (mkF m 27 #[cr o0, cj q0, cs, ci 5, ci 2, cr xa_, cu] [(.int 2), (.ref xa_)]) _ _ _
 refine wic X139 hx hby d28_27 ?_
 refine wia X139 hx hby d28_28 ?_
 obtain ⟨cl140, Ar140, q140, S140, M140, H140, G140⟩ := id Vx
 have hin140 := inb_of (j := (3 : Int32)) S140 ⟨by decide, by decide⟩
 refine Ends.go (X139.caload hx (j := (3 : Int32)) (v := (.int c3_)) (by rw [e139]; exact Ar140.1) (State.isArrayOf_alike hZ.alike Ar140.2.1) Ar140.2.2 hin140 (H140.at hin140 rfl) (g := (mkF m 29 #[cr o0, cj q0, cs, ci 5, ci 2, cr xa_, cu] [(.int 3), (.ref xa_)])) rfl rfl (hb hby d28_29)) ?_
 refine .go (fun _ => XS.lloadN X139.here hx rfl (hb hby d28_30) rfl) ?_
 refine wbp X139 hx hby d28_31 ?_
 show Ends _ _ _ _ T139 (mkF m 33 #[cr o0, cj q0, cs, ci 5, ci 2, cr xa_, cu] [(.int 8), (.long q0), (.int c3_)]) _ _ _
 refine .go (fun _ => XS.lushr X139.here hx rfl (hb hby d28_33) rfl) ?_
 refine Ends.go (X139.ldc2Long hx hown (mvT hZ (ow hw 133 rfl)) (g := (mkF m 34 #[cr o0, cj q0, cs, ci 5, ci 2, cr xa_, cu] [(.long ((q0.toUInt64 >>> ((8 : Int32) &&& 0x3f).toInt64.toUInt64).toInt64)), (.int c3_)])) rfl (hb hby d28_34)) ?_
 refine .go (fun _ => XS.land X139.here hx rfl (hb hby d28_37) rfl) ?_
 refine .go (fun _ => XS.l2i X139.here hx rfl (hb hby d28_38) rfl) ?_
 refine .go (fun _ => XS.i2c X139.here hx rfl (hb hby d28_39) rfl) ?_
 show Ends _ _ _ _ T139 (mkF m 40 #[cr o0, cj q0, cs, ci 5, ci 2, cr xa_, cu] [(.int (((((q0.toUInt64 >>> ((8 : Int32) &&& 0x3f).toInt64.toUInt64).toInt64) &&& (255 : Int64)).toInt32).toUInt32.toUInt16.toUInt32.toInt32)), (.int c3_)]) _ _ _
 by_cases hc40_141 : c3_ = (((((q0.toUInt64 >>> ((8 : Int32) &&& 0x3f).toInt64.toUInt64).toInt64) &&& (255 : Int64)).toInt32).toUInt32.toUInt16.toUInt32.toInt32)
 ·refine wcn X139 hx hby d28_40 (teq hc40_141).2 ?_
  refine wal X139 hx hby d28_43 rfl rfl ?_
  refine wil X139 hx hby d28_45 rfl ?_
  refine wic X139 hx hby d28_47 ?_
  refine wia X139 hx hby d28_48 ?_
  show Ends _ _ _ _ T139 (mkF m 49 #[cr o0, cj q0, cs, ci 5, ci 2, cr xa_, cu] [(.int 4), (.ref xa_)]) _ _ _
  obtain ⟨cl142, Ar142, q142, S142, M142, H142, G142⟩ := id Vx
  have hin142 := inb_of (j := (4 : Int32)) S142 ⟨by decide, by decide⟩
  refine Ends.go (X139.caload hx (j := (4 : Int32)) (v := (.int c4_)) (by rw [e139]; exact Ar142.1) (State.isArrayOf_alike hZ.alike Ar142.2.1) Ar142.2.2 hin142 (H142.at hin142 rfl) (g := (mkF m 49 #[cr o0, cj q0, cs, ci 5, ci 2, cr xa_, cu] [(.int 4), (.ref xa_)])) rfl rfl (hb hby d28_49)) ?_
  refine .go (fun _ => XS.lloadN X139.here hx rfl (hb hby d28_50) rfl) ?_
  refine wbp X139 hx hby d28_51 ?_
  refine .go (fun _ => XS.lushr X139.here hx rfl (hb hby d28_53) rfl) ?_
  refine Ends.go (X139.ldc2Long hx hown (mvT hZ (ow hw 133 rfl)) (g := (mkF m 54 #[cr o0, cj q0, cs, ci 5, ci 2, cr xa_, cu] [(.long ((q0.toUInt64 >>> ((16 : Int32) &&& 0x3f).toInt64.toUInt64).toInt64)), (.int c4_)])) rfl (hb hby d28_54)) ?_
  show Ends _ _ _ _ T139 (mkF m 57 #[cr o0, cj q0, cs, ci 5, ci 2, cr xa_, cu] [(.long (255 : Int64)), (.long ((q0.toUInt64 >>> ((16 : Int32) &&& 0x3f).toInt64.toUInt64).toInt64)), (.int c4_)]) _ _ _
  refine .go (fun _ => XS.land X139.here hx rfl (hb hby d28_57) rfl) ?_
  refine .go (fun _ => XS.l2i X139.here hx rfl (hb hby d28_58) rfl) ?_
  refine .go (fun _ => XS.i2c X139.here hx rfl (hb hby d28_59) rfl) ?_
  by_cases hc60_143 : c4_ = (((((q0.toUInt64 >>> ((16 : Int32) &&& 0x3f).toInt64.toUInt64).toInt64) &&& (255 : Int64)).toInt32).toUInt32.toUInt16.toUInt32.toInt32)
  ·refine wcn X139 hx hby d28_60 (teq hc60_143).2 ?_
   refine wal X139 hx hby d28_63 rfl rfl ?_
   show Ends _ _ _ _ T139 (mkF m 65 #[cr o0, cj q0, cs, ci 5, ci 2, cr xa_, cu] [(.ref xa_)]) _ _ _
   refine wil X139 hx hby d28_65 rfl ?_
   refine wic X139 hx hby d28_67 ?_
   refine wia X139 hx hby d28_68 ?_
   obtain ⟨cl144, Ar144, q144, S144, M144, H144, G144⟩ := id Vx
   have hin144 := inb_of (j := (5 : Int32)) S144 ⟨by decide, by decide⟩
   refine Ends.go (X139.caload hx (j := (5 : Int32)) (v := (.int c5_)) (by rw [e139]; exact Ar144.1) (State.isArrayOf_alike hZ.alike Ar144.2.1) Ar144.2.2 hin144 (H144.at hin144 rfl) (g := (mkF m 69 #[cr o0, cj q0, cs, ci 5, ci 2, cr xa_, cu] [(.int 5), (.ref xa_)])) rfl rfl (hb hby d28_69)) ?_
   refine .go (fun _ => XS.lloadN X139.here hx rfl (hb hby d28_70) rfl) ?_
   show Ends _ _ _ _ T139 (mkF m 71 #[cr o0, cj q0, cs, ci 5, ci 2, cr xa_, cu] [(.long q0), (.int c5_)]) _ _ _
   refine wbp X139 hx hby d28_71 ?_
   refine .go (fun _ => XS.lushr X139.here hx rfl (hb hby d28_73) rfl) ?_
   refine Ends.go (X139.ldc2Long hx hown (mvT hZ (ow hw 133 rfl)) (g := (mkF m 74 #[cr o0, cj q0, cs, ci 5, ci 2, cr xa_, cu] [(.long ((q0.toUInt64 >>> ((24 : Int32) &&& 0x3f).toInt64.toUInt64).toInt64)), (.int c5_)])) rfl (hb hby d28_74)) ?_
   refine .go (fun _ => XS.land X139.here hx rfl (hb hby d28_77) rfl) ?_
   refine .go (fun _ => XS.l2i X139.here hx rfl (hb hby d28_78) rfl) ?_
   show Ends _ _ _ _ T139 (mkF m 79 #[cr o0, cj q0, cs, ci 5, ci 2, cr xa_, cu] [(.int ((((q0.toUInt64 >>> ((24 : Int32) &&& 0x3f).toInt64.toUInt64).toInt64) &&& (255 : Int64)).toInt32)), (.int c5_)]) _ _ _
   refine .go (fun _ => XS.i2c X139.here hx rfl (hb hby d28_79) rfl) ?_
   by_cases hc80_145 : c5_ = (((((q0.toUInt64 >>> ((24 : Int32) &&& 0x3f).toInt64.toUInt64).toInt64) &&& (255 : Int64)).toInt32).toUInt32.toUInt16.toUInt32.toInt32)
   ·refine wcn X139 hx hby d28_80 (teq hc80_145).2 ?_
    refine wilN X139 hx hby d28_83 rfl ?_
    refine wic X139 hx hby d28_84 ?_
    refine wcn X139 hx hby d28_85 (feq (by decide : ¬ ((5 : Int32) = (4 : Int32)))).1 ?_
    show Ends _ _ _ _ T139 (mkF m 88 #[cr o0, cj q0, cs, ci 5, ci 2, cr xa_, cu] []) _ _ _
    refine wal X139 hx hby d28_88 rfl rfl ?_
    refine wil X139 hx hby d28_90 rfl ?_
    refine wic X139 hx hby d28_92 ?_
    refine wia X139 hx hby d28_93 ?_
    obtain ⟨cl146, Ar146, q146, S146, M146, H146, G146⟩ := id Vx
    have hin146 := inb_of (j := (6 : Int32)) S146 ⟨by decide, by decide⟩
    refine Ends.go (X139.caload hx (j := (6 : Int32)) (v := (.int c6_)) (by rw [e139]; exact Ar146.1) (State.isArrayOf_alike hZ.alike Ar146.2.1) Ar146.2.2 hin146 (H146.at hin146 rfl) (g := (mkF m 94 #[cr o0, cj q0, cs, ci 5, ci 2, cr xa_, cu] [(.int 6), (.ref xa_)])) rfl rfl (hb hby d28_94)) ?_
    show Ends _ _ _ _ T139 (mkF m 95 #[cr o0, cj q0, cs, ci 5, ci 2, cr xa_, cu] [(.int c6_)]) _ _ _
    refine .go (fun _ => XS.lloadN X139.here hx rfl (hb hby d28_95) rfl) ?_
    refine wbp X139 hx hby d28_96 ?_
    refine .go (fun _ => XS.lushr X139.here hx rfl (hb hby d28_98) rfl) ?_
    refine Ends.go (X139.ldc2Long hx hown (mvT hZ (ow hw 133 rfl)) (g := (mkF m 99 #[cr o0, cj q0, cs, ci 5, ci 2, cr xa_, cu] [(.long ((q0.toUInt64 >>> ((32 : Int32) &&& 0x3f).toInt64.toUInt64).toInt64)), (.int c6_)])) rfl (hb hby d28_99)) ?_
    refine .go (fun _ => XS.land X139.here hx rfl (hb hby d28_102) rfl) ?_
    show Ends _ _ _ _ T139 (mkF m 103 #[cr o0, cj q0, cs, ci 5, ci 2, cr xa_, cu] [(.long (((q0.toUInt64 >>> ((32 : Int32) &&& 0x3f).toInt64.toUInt64).toInt64) &&& (255 : Int64))), (.int c6_)]) _ _ _
    refine .go (fun _ => XS.l2i X139.here hx rfl (hb hby d28_103) rfl) ?_
    refine .go (fun _ => XS.i2c X139.here hx rfl (hb hby d28_104) rfl) ?_
    by_cases hc105_147 : c6_ = (((((q0.toUInt64 >>> ((32 : Int32) &&& 0x3f).toInt64.toUInt64).toInt64) &&& (255 : Int64)).toInt32).toUInt32.toUInt16.toUInt32.toInt32)
    ·refine wcn X139 hx hby d28_105 (teq hc105_147).2 ?_
     refine wic X139 hx hby d28_108 ?_
     refine wgo (pc := 109) (pc' := 113) X139 hx hby d28_109 (by decide) (by decide) ?_
     show Ends _ _ _ _ T139 (mkF m 113 #[cr o0, cj q0, cs, ci 5, ci 2, cr xa_, cu] [(.int 1)]) _ _ _
     refine wst X139 hx hby d28_113 (l' := #[cr o0, cj q0, cs, ci 5, ci 2, cr xa_, ci 1]) rfl ?_
     refine wil X139 hx hby d28_115 rfl ?_
     refine win X139 hx hby d28_117 ((if0 _ _).trans (feq (by decide : ¬ ((1 : Int32) = (0 : Int32)))).1) ?_
     refine walN X139 hx hby d28_120 rfl rfl ?_
     refine wil X139 hx hby d28_121 rfl ?_
     show Ends _ _ _ _ T139 (mkF m 123 #[cr o0, cj q0, cs, ci 5, ci 2, cr xa_, ci 1] [(.int 2), (.ref o0)]) _ _ _
     refine wilN X139 hx hby d28_123 rfl ?_
     refine wia X139 hx hby d28_124 ?_
     obtain ⟨T148, h148, X148, e148, W148, st148⟩ := putF X139 hx hZ hown (host := "") (Or.inl (ow hw 126 rfl)) Via.refl e139 Fp E0 (Or.inl (ow hw 127 rfl)) (ow hw 7 rfl) (ty := .int) (by decide) rfl rfl (g := (mkF m 125 #[cr o0, cj q0, cs, ci 5, ci 2, cr xa_, ci 1] [(.int 7), (.ref o0)])) rfl rfl (hb hby d28_125)
     refine Ends.go st148 ?_
     have Fw148 := Fp.same W148
     have K148 := K0.wr W148 (Or.inl (List.mem_of_getElem? (i := 0) rfl))
     have O148 := O0.wr W148 g_o0
     have N148 := Fr.snoc X148 N0 g_o0
     refine wil X148 hx hby d28_128 rfl ?_
     refine Ends.retZ X148 hx Bd.notSynchronized (t := .boolean) Bd.returns (by simp) (hb hby d28_130) (by decide) (by decide) ?_
     rw [e148]
     exact ⟨1, rfl, N148, K148, (E0.wr W148), (Fb.other W148 (Or.inr (slot_ne (Or.inl (ow hw 140 rfl)) (Or.inl (ow hw 127 rfl)) (by decide) (t := .int) (t' := .int) (by decide) (by decide)))), Or.inl ⟨rfl, (own_spec_2_5 c0_ c1_ c2_ c3_ c4_ c5_ c6_ q0).mpr ⟨hc40_141, hc60_143, hc80_145, hc105_147⟩, Fw148⟩⟩
    ·refine wcy (pc := 105) (pc' := 112) X139 hx hby d28_105 (feq hc105_147).2 (by decide) (by decide) ?_
     show Ends _ _ _ _ T139 (mkF m 112 #[cr o0, cj q0, cs, ci 5, ci 2, cr xa_, cu] []) _ _ _
     refine wic X139 hx hby d28_112 ?_
     refine wst X139 hx hby d28_113 (l' := #[cr o0, cj q0, cs, ci 5, ci 2, cr xa_, ci 0]) rfl ?_
     refine wil X139 hx hby d28_115 rfl ?_
     refine wiy (pc := 117) (pc' := 128) X139 hx hby d28_117 ((if0 _ _).trans (teq (by decide : (0 : Int32) = (0 : Int32))).1) (by decide) (by decide) ?_
     refine wil X139 hx hby d28_128 rfl ?_
     show Ends _ _ _ _ T139 (mkF m 130 #[cr o0, cj q0, cs, ci 5, ci 2, cr xa_, ci 0] [(.int 0)]) _ _ _
     refine Ends.retZ X139 hx Bd.notSynchronized (t := .boolean) Bd.returns (by simp) (hb hby d28_130) (by decide) (by decide) ?_
     rw [e139]
     exact ⟨0, rfl, N0, K0, E0, Fb, Or.inr ⟨rfl, fun q => hc105_147 ((own_spec_2_5 c0_ c1_ c2_ c3_ c4_ c5_ c6_ q0).mp q).2.2.2, Fp⟩⟩
   ·refine wcy (pc := 80) (pc' := 112) X139 hx hby d28_80 (feq hc80_145).2 (by decide) (by decide) ?_
    refine wic X139 hx hby d28_112 ?_
    refine wst X139 hx hby d28_113 (l' := #[cr o0, cj q0, cs, ci 5, ci 2, cr xa_, ci 0]) rfl ?_
    refine wil X139 hx hby d28_115 rfl ?_
    refine wiy (pc := 117) (pc' := 128) X139 hx hby d28_117 ((if0 _ _).trans (teq (by decide : (0 : Int32) = (0 : Int32))).1) (by decide) (by decide) ?_
    show Ends _ _ _ _ T139 (mkF m 128 #[cr o0, cj q0, cs, ci 5, ci 2, cr xa_, ci 0] []) _ _ _
    refine wil X139 hx hby d28_128 rfl ?_
    refine Ends.retZ X139 hx Bd.notSynchronized (t := .boolean) Bd.returns (by simp) (hb hby d28_130) (by decide) (by decide) ?_
    rw [e139]
    exact ⟨0, rfl, N0, K0, E0, Fb, Or.inr ⟨rfl, fun q => hc80_145 ((own_spec_2_5 c0_ c1_ c2_ c3_ c4_ c5_ c6_ q0).mp q).2.2.1, Fp⟩⟩
  ·refine wcy (pc := 60) (pc' := 112) X139 hx hby d28_60 (feq hc60_143).2 (by decide) (by decide) ?_
   refine wic X139 hx hby d28_112 ?_
   refine wst X139 hx hby d28_113 (l' := #[cr o0, cj q0, cs, ci 5, ci 2, cr xa_, ci 0]) rfl ?_
   refine wil X139 hx hby d28_115 rfl ?_
   show Ends _ _ _ _ T139 (mkF m 117 #[cr o0, cj q0, cs, ci 5, ci 2, cr xa_, ci 0] [(.int 0)]) _ _ _
   refine wiy (pc := 117) (pc' := 128) X139 hx hby d28_117 ((if0 _ _).trans (teq (by decide : (0 : Int32) = (0 : Int32))).1) (by decide) (by decide) ?_
   refine wil X139 hx hby d28_128 rfl ?_
   refine Ends.retZ X139 hx Bd.notSynchronized (t := .boolean) Bd.returns (by simp) (hb hby d28_130) (by decide) (by decide) ?_
   rw [e139]
   exact ⟨0, rfl, N0, K0, E0, Fb, Or.inr ⟨rfl, fun q => hc60_143 ((own_spec_2_5 c0_ c1_ c2_ c3_ c4_ c5_ c6_ q0).mp q).2.1, Fp⟩⟩
 ·refine wcy (pc := 40) (pc' := 112) X139 hx hby d28_40 (feq hc40_141).2 (by decide) (by decide) ?_
  refine wic X139 hx hby d28_112 ?_
  refine wst X139 hx hby d28_113 (l' := #[cr o0, cj q0, cs, ci 5, ci 2, cr xa_, ci 0]) rfl ?_
  show Ends _ _ _ _ T139 (mkF m 115 #[cr o0, cj q0, cs, ci 5, ci 2, cr xa_, ci 0] []) _ _ _
  refine wil X139 hx hby d28_115 rfl ?_
  refine wiy (pc := 117) (pc' := 128) X139 hx hby d28_117 ((if0 _ _).trans (teq (by decide : (0 : Int32) = (0 : Int32))).1) (by decide) (by decide) ?_
  refine wil X139 hx hby d28_128 rfl ?_
  refine Ends.retZ X139 hx Bd.notSynchronized (t := .boolean) Bd.returns (by simp) (hb hby d28_130) (by decide) (by decide) ?_
  rw [e139]
  exact ⟨0, rfl, N0, K0, E0, Fb, Or.inr ⟨rfl, fun q => hc40_141 ((own_spec_2_5 c0_ c1_ c2_ c3_ c4_ c5_ c6_ q0).mp q).1, Fp⟩⟩
set_option maxRecDepth 65536 in
set_option maxHeartbeats 40000000 in
theorem rmW_3_5 (l : Launch) (Z : State) (a0 : Array Value) (hw : ∀ d ∈ tables_1, d.before a0 Z = true) (ws : List Jvm.Cond) (n0 : Nat) (h0 : Heap) (O0 : Old Z n0 h0)  (o0 xa_ : Addr) (kxa_ : ClassId) (q0 : Int64) (c0_ c1_ c2_ c3_ c4_ c5_ c6_ : Int32) (g_o0 : n0 ≤ o0) (hox : o0 ≠ xa_) (E0 : Exa Z h0 o0 cSI) (Fl : Fld Z h0 o0 cSI "limit" "I" (.int 7)) (Fp : Fld Z h0 o0 cSI "position" "I" (.int 3)) (Fb : Fld Z h0 o0 cSI "base" "I" (.int 0)) (Fc : Fld Z h0 o0 cSI "chars" "[C" (.ref xa_)) (Vx : Arv Z h0 xa_ kxa_ .char (7 : Int32) [(.int c0_), (.int c1_), (.int c2_), (.int c3_), (.int c4_), (.int c5_), (.int c6_)] (.int 0)) :
  Meets1 l ym6 prog_85_method_12_code 7 (some .boolean) ws ({ frames := 0, cells := 0, slots := 0, locals := 0 } : Room) #[(.ref o0), (.long q0), (.int 5)] Z h0 (fun v h L => ∃ r : Int32, v = some (.int r) ∧ Fr n0 L ∧ Keep h0 h [o0] ∧ Exa Z h o0 cSI ∧ Fld Z h o0 cSI "base" "I" (.int 0) ∧ ((r = 1 ∧ own_spec c0_ c1_ c2_ c3_ c4_ c5_ c6_ q0 3 5 ∧ Fld Z h o0 cSI "position" "I" (.int 8)) ∨ (r = 0 ∧ ¬ own_spec c0_ c1_ c2_ c3_ c4_ c5_ c6_ q0 3 5 ∧ Fld Z h o0 cSI "position" "I" (.int 3)))) := by
 refine MetFree.of_bodySF (plainFor_of_name pn28) hisR ?_
 intro p e s m args below meth c s₁ Bd hml0 hP hK
 obtain ⟨rfl, hZ, hh⟩ := hP
 have hx := Bd.exec
 have hby := Bd.bytes
 have hml : c.maxLocals = 7 := hml0
 have hown : s.vm.findClass "com/example/ratatoskr/ratatoskr/core/internal/StringInput" = some m.cls := findClass_of_methodNamed Bd.named
 have hnm := (name_of_methodNamed Bd.named Bd.method).1
 have X0 : Stand p l e ({ frames := 0, cells := 0, slots := 0, locals := 0 } : Room) s m #[(.ref o0), (.long q0), (.int 5)] below meth c s₁ [] 0 0 := Stand.of_body Bd
 have e0 : s₁.heap = h0 := by rw [← hh, Bd.state]; rfl
 have N0 := Fr.nil n0
 have Z0 := own_old_le O0
 show Ends _ _ _ _ s₁ (entryFrame m #[(.ref o0), (.long q0), (.int 5)] 7) ({ frames := 0, cells := 0, slots := 0, locals := 0 } : Room).cells ({ frames := 0, cells := 0, slots := 0, locals := 0 } : Room).slots (fun v h L => ∃ r : Int32, v = some (.int r) ∧ Fr n0 L ∧ Keep h0 h [o0] ∧ Exa Z h o0 cSI ∧ Fld Z h o0 cSI "base" "I" (.int 0) ∧ ((r = 1 ∧ own_spec c0_ c1_ c2_ c3_ c4_ c5_ c6_ q0 3 5 ∧ Fld Z h o0 cSI "position" "I" (.int 8)) ∨ (r = 0 ∧ ¬ own_spec c0_ c1_ c2_ c3_ c4_ c5_ c6_ q0 3 5 ∧ Fld Z h o0 cSI "position" "I" (.int 3))))
 refine Ends.go (fun _ k => castTop (ef28_rji m o0 q0 (5 : Int32)) k) ?_
 have K0 := Keep.refl h0 [o0]
 refine walN X0 hx hby d28_0 rfl rfl ?_
 obtain ⟨T149, X149, e149, st149⟩ := getF X0 hx hZ hown (host := "") (Or.inl (ow hw 126 rfl)) Via.refl e0 Fp (g := (mkF m 1 #[cr o0, cj q0, cs, ci 5, cu, cu, cu] [(.ref o0)])) rfl rfl (hb hby d28_1)
 refine Ends.go st149 ?_
 refine wst X149 hx hby d28_4 (l' := #[cr o0, cj q0, cs, ci 5, ci 3, cu, cu]) rfl ?_
 refine walN X149 hx hby d28_6 rfl rfl ?_
 show Ends _ _ _ _ T149 (mkF m 7 #[cr o0, cj q0, cs, ci 5, ci 3, cu, cu] [(.ref o0)]) _ _ _
 obtain ⟨T150, X150, e150, st150⟩ := getF X149 hx hZ hown (host := "") (Or.inl (ow hw 82 rfl)) Via.refl e149 Fc (g := (mkF m 7 #[cr o0, cj q0, cs, ci 5, ci 3, cu, cu] [(.ref o0)])) rfl rfl (hb hby d28_7)
 refine Ends.go st150 ?_
 refine was X150 hx hby d28_10 (l' := #[cr o0, cj q0, cs, ci 5, ci 3, cr xa_, cu]) rfl rfl ?_
 refine walN X150 hx hby d28_12 rfl rfl ?_
 obtain ⟨T151, X151, e151, st151⟩ := getF X150 hx hZ hown (host := "") (Or.inl (ow hw 84 rfl)) Via.refl e150 Fl (g := (mkF m 13 #[cr o0, cj q0, cs, ci 5, ci 3, cr xa_, cu] [(.ref o0)])) rfl rfl (hb hby d28_13)
 refine Ends.go st151 ?_
 refine wil X151 hx hby d28_16 rfl ?_
 show Ends _ _ _ _ T151 (mkF m 18 #[cr o0, cj q0, cs, ci 5, ci 3, cr xa_, cu] [(.int 3), (.int 7)]) _ _ _
 refine wis X151 hx hby d28_18 ?_
 refine wilN X151 hx hby d28_19 rfl ?_
 refine wcy (pc := 20) (pc' := 112) X151 hx hby d28_20 (tlt (by decide : (4 : Int32) < (5 : Int32))).1 (by decide) (by decide) ?_
 refine wic X151 hx hby d28_112 ?_
 refine wst X151 hx hby d28_113 (l' := #[cr o0, cj q0, cs, ci 5, ci 3, cr xa_, ci 0]) rfl ?_
 show Ends _ _ _ _ T151 (mkF m 115 #[cr o0, cj q0, cs, ci 5, ci 3, cr xa_, ci 0] []) _ _ _
 refine wil X151 hx hby d28_115 rfl ?_
 refine wiy (pc := 117) (pc' := 128) X151 hx hby d28_117 ((if0 _ _).trans (teq (by decide : (0 : Int32) = (0 : Int32))).1) (by decide) (by decide) ?_
 refine wil X151 hx hby d28_128 rfl ?_
 refine Ends.retZ X151 hx Bd.notSynchronized (t := .boolean) Bd.returns (by simp) (hb hby d28_130) (by decide) (by decide) ?_
 rw [e151]
 exact ⟨0, rfl, N0, K0, E0, Fb, Or.inr ⟨rfl, fun q => (own_spec_3_5 c0_ c1_ c2_ c3_ c4_ c5_ c6_ q0).mp q, Fp⟩⟩
set_option maxRecDepth 65536 in
set_option maxHeartbeats 40000000 in
theorem rmW_4_5 (l : Launch) (Z : State) (a0 : Array Value) (hw : ∀ d ∈ tables_1, d.before a0 Z = true) (ws : List Jvm.Cond) (n0 : Nat) (h0 : Heap) (O0 : Old Z n0 h0)  (o0 xa_ : Addr) (kxa_ : ClassId) (q0 : Int64) (c0_ c1_ c2_ c3_ c4_ c5_ c6_ : Int32) (g_o0 : n0 ≤ o0) (hox : o0 ≠ xa_) (E0 : Exa Z h0 o0 cSI) (Fl : Fld Z h0 o0 cSI "limit" "I" (.int 7)) (Fp : Fld Z h0 o0 cSI "position" "I" (.int 4)) (Fb : Fld Z h0 o0 cSI "base" "I" (.int 0)) (Fc : Fld Z h0 o0 cSI "chars" "[C" (.ref xa_)) (Vx : Arv Z h0 xa_ kxa_ .char (7 : Int32) [(.int c0_), (.int c1_), (.int c2_), (.int c3_), (.int c4_), (.int c5_), (.int c6_)] (.int 0)) :
  Meets1 l ym6 prog_85_method_12_code 7 (some .boolean) ws ({ frames := 0, cells := 0, slots := 0, locals := 0 } : Room) #[(.ref o0), (.long q0), (.int 5)] Z h0 (fun v h L => ∃ r : Int32, v = some (.int r) ∧ Fr n0 L ∧ Keep h0 h [o0] ∧ Exa Z h o0 cSI ∧ Fld Z h o0 cSI "base" "I" (.int 0) ∧ ((r = 1 ∧ own_spec c0_ c1_ c2_ c3_ c4_ c5_ c6_ q0 4 5 ∧ Fld Z h o0 cSI "position" "I" (.int 9)) ∨ (r = 0 ∧ ¬ own_spec c0_ c1_ c2_ c3_ c4_ c5_ c6_ q0 4 5 ∧ Fld Z h o0 cSI "position" "I" (.int 4)))) := by
 refine MetFree.of_bodySF (plainFor_of_name pn28) hisR ?_
 intro p e s m args below meth c s₁ Bd hml0 hP hK
 obtain ⟨rfl, hZ, hh⟩ := hP
 have hx := Bd.exec
 have hby := Bd.bytes
 have hml : c.maxLocals = 7 := hml0
 have hown : s.vm.findClass "com/example/ratatoskr/ratatoskr/core/internal/StringInput" = some m.cls := findClass_of_methodNamed Bd.named
 have hnm := (name_of_methodNamed Bd.named Bd.method).1
 have X0 : Stand p l e ({ frames := 0, cells := 0, slots := 0, locals := 0 } : Room) s m #[(.ref o0), (.long q0), (.int 5)] below meth c s₁ [] 0 0 := Stand.of_body Bd
 have e0 : s₁.heap = h0 := by rw [← hh, Bd.state]; rfl
 have N0 := Fr.nil n0
 have Z0 := own_old_le O0
 show Ends _ _ _ _ s₁ (entryFrame m #[(.ref o0), (.long q0), (.int 5)] 7) ({ frames := 0, cells := 0, slots := 0, locals := 0 } : Room).cells ({ frames := 0, cells := 0, slots := 0, locals := 0 } : Room).slots (fun v h L => ∃ r : Int32, v = some (.int r) ∧ Fr n0 L ∧ Keep h0 h [o0] ∧ Exa Z h o0 cSI ∧ Fld Z h o0 cSI "base" "I" (.int 0) ∧ ((r = 1 ∧ own_spec c0_ c1_ c2_ c3_ c4_ c5_ c6_ q0 4 5 ∧ Fld Z h o0 cSI "position" "I" (.int 9)) ∨ (r = 0 ∧ ¬ own_spec c0_ c1_ c2_ c3_ c4_ c5_ c6_ q0 4 5 ∧ Fld Z h o0 cSI "position" "I" (.int 4))))
 refine Ends.go (fun _ k => castTop (ef28_rji m o0 q0 (5 : Int32)) k) ?_
 have K0 := Keep.refl h0 [o0]
 refine walN X0 hx hby d28_0 rfl rfl ?_
 obtain ⟨T152, X152, e152, st152⟩ := getF X0 hx hZ hown (host := "") (Or.inl (ow hw 126 rfl)) Via.refl e0 Fp (g := (mkF m 1 #[cr o0, cj q0, cs, ci 5, cu, cu, cu] [(.ref o0)])) rfl rfl (hb hby d28_1)
 refine Ends.go st152 ?_
 refine wst X152 hx hby d28_4 (l' := #[cr o0, cj q0, cs, ci 5, ci 4, cu, cu]) rfl ?_
 refine walN X152 hx hby d28_6 rfl rfl ?_
 show Ends _ _ _ _ T152 (mkF m 7 #[cr o0, cj q0, cs, ci 5, ci 4, cu, cu] [(.ref o0)]) _ _ _
 obtain ⟨T153, X153, e153, st153⟩ := getF X152 hx hZ hown (host := "") (Or.inl (ow hw 82 rfl)) Via.refl e152 Fc (g := (mkF m 7 #[cr o0, cj q0, cs, ci 5, ci 4, cu, cu] [(.ref o0)])) rfl rfl (hb hby d28_7)
 refine Ends.go st153 ?_
 refine was X153 hx hby d28_10 (l' := #[cr o0, cj q0, cs, ci 5, ci 4, cr xa_, cu]) rfl rfl ?_
 refine walN X153 hx hby d28_12 rfl rfl ?_
 obtain ⟨T154, X154, e154, st154⟩ := getF X153 hx hZ hown (host := "") (Or.inl (ow hw 84 rfl)) Via.refl e153 Fl (g := (mkF m 13 #[cr o0, cj q0, cs, ci 5, ci 4, cr xa_, cu] [(.ref o0)])) rfl rfl (hb hby d28_13)
 refine Ends.go st154 ?_
 refine wil X154 hx hby d28_16 rfl ?_
 show Ends _ _ _ _ T154 (mkF m 18 #[cr o0, cj q0, cs, ci 5, ci 4, cr xa_, cu] [(.int 4), (.int 7)]) _ _ _
 refine wis X154 hx hby d28_18 ?_
 refine wilN X154 hx hby d28_19 rfl ?_
 refine wcy (pc := 20) (pc' := 112) X154 hx hby d28_20 (tlt (by decide : (3 : Int32) < (5 : Int32))).1 (by decide) (by decide) ?_
 refine wic X154 hx hby d28_112 ?_
 refine wst X154 hx hby d28_113 (l' := #[cr o0, cj q0, cs, ci 5, ci 4, cr xa_, ci 0]) rfl ?_
 show Ends _ _ _ _ T154 (mkF m 115 #[cr o0, cj q0, cs, ci 5, ci 4, cr xa_, ci 0] []) _ _ _
 refine wil X154 hx hby d28_115 rfl ?_
 refine wiy (pc := 117) (pc' := 128) X154 hx hby d28_117 ((if0 _ _).trans (teq (by decide : (0 : Int32) = (0 : Int32))).1) (by decide) (by decide) ?_
 refine wil X154 hx hby d28_128 rfl ?_
 refine Ends.retZ X154 hx Bd.notSynchronized (t := .boolean) Bd.returns (by simp) (hb hby d28_130) (by decide) (by decide) ?_
 rw [e154]
 exact ⟨0, rfl, N0, K0, E0, Fb, Or.inr ⟨rfl, fun q => (own_spec_4_5 c0_ c1_ c2_ c3_ c4_ c5_ c6_ q0).mp q, Fp⟩⟩
set_option maxRecDepth 65536 in
set_option maxHeartbeats 40000000 in
theorem rmW_5_5 (l : Launch) (Z : State) (a0 : Array Value) (hw : ∀ d ∈ tables_1, d.before a0 Z = true) (ws : List Jvm.Cond) (n0 : Nat) (h0 : Heap) (O0 : Old Z n0 h0)  (o0 xa_ : Addr) (kxa_ : ClassId) (q0 : Int64) (c0_ c1_ c2_ c3_ c4_ c5_ c6_ : Int32) (g_o0 : n0 ≤ o0) (hox : o0 ≠ xa_) (E0 : Exa Z h0 o0 cSI) (Fl : Fld Z h0 o0 cSI "limit" "I" (.int 7)) (Fp : Fld Z h0 o0 cSI "position" "I" (.int 5)) (Fb : Fld Z h0 o0 cSI "base" "I" (.int 0)) (Fc : Fld Z h0 o0 cSI "chars" "[C" (.ref xa_)) (Vx : Arv Z h0 xa_ kxa_ .char (7 : Int32) [(.int c0_), (.int c1_), (.int c2_), (.int c3_), (.int c4_), (.int c5_), (.int c6_)] (.int 0)) :
  Meets1 l ym6 prog_85_method_12_code 7 (some .boolean) ws ({ frames := 0, cells := 0, slots := 0, locals := 0 } : Room) #[(.ref o0), (.long q0), (.int 5)] Z h0 (fun v h L => ∃ r : Int32, v = some (.int r) ∧ Fr n0 L ∧ Keep h0 h [o0] ∧ Exa Z h o0 cSI ∧ Fld Z h o0 cSI "base" "I" (.int 0) ∧ ((r = 1 ∧ own_spec c0_ c1_ c2_ c3_ c4_ c5_ c6_ q0 5 5 ∧ Fld Z h o0 cSI "position" "I" (.int 10)) ∨ (r = 0 ∧ ¬ own_spec c0_ c1_ c2_ c3_ c4_ c5_ c6_ q0 5 5 ∧ Fld Z h o0 cSI "position" "I" (.int 5)))) := by
 refine MetFree.of_bodySF (plainFor_of_name pn28) hisR ?_
 intro p e s m args below meth c s₁ Bd hml0 hP hK
 obtain ⟨rfl, hZ, hh⟩ := hP
 have hx := Bd.exec
 have hby := Bd.bytes
 have hml : c.maxLocals = 7 := hml0
 have hown : s.vm.findClass "com/example/ratatoskr/ratatoskr/core/internal/StringInput" = some m.cls := findClass_of_methodNamed Bd.named
 have hnm := (name_of_methodNamed Bd.named Bd.method).1
 have X0 : Stand p l e ({ frames := 0, cells := 0, slots := 0, locals := 0 } : Room) s m #[(.ref o0), (.long q0), (.int 5)] below meth c s₁ [] 0 0 := Stand.of_body Bd
 have e0 : s₁.heap = h0 := by rw [← hh, Bd.state]; rfl
 have N0 := Fr.nil n0
 have Z0 := own_old_le O0
 show Ends _ _ _ _ s₁ (entryFrame m #[(.ref o0), (.long q0), (.int 5)] 7) ({ frames := 0, cells := 0, slots := 0, locals := 0 } : Room).cells ({ frames := 0, cells := 0, slots := 0, locals := 0 } : Room).slots (fun v h L => ∃ r : Int32, v = some (.int r) ∧ Fr n0 L ∧ Keep h0 h [o0] ∧ Exa Z h o0 cSI ∧ Fld Z h o0 cSI "base" "I" (.int 0) ∧ ((r = 1 ∧ own_spec c0_ c1_ c2_ c3_ c4_ c5_ c6_ q0 5 5 ∧ Fld Z h o0 cSI "position" "I" (.int 10)) ∨ (r = 0 ∧ ¬ own_spec c0_ c1_ c2_ c3_ c4_ c5_ c6_ q0 5 5 ∧ Fld Z h o0 cSI "position" "I" (.int 5))))
 refine Ends.go (fun _ k => castTop (ef28_rji m o0 q0 (5 : Int32)) k) ?_
 have K0 := Keep.refl h0 [o0]
 refine walN X0 hx hby d28_0 rfl rfl ?_
 obtain ⟨T155, X155, e155, st155⟩ := getF X0 hx hZ hown (host := "") (Or.inl (ow hw 126 rfl)) Via.refl e0 Fp (g := (mkF m 1 #[cr o0, cj q0, cs, ci 5, cu, cu, cu] [(.ref o0)])) rfl rfl (hb hby d28_1)
 refine Ends.go st155 ?_
 refine wst X155 hx hby d28_4 (l' := #[cr o0, cj q0, cs, ci 5, ci 5, cu, cu]) rfl ?_
 refine walN X155 hx hby d28_6 rfl rfl ?_
 show Ends _ _ _ _ T155 (mkF m 7 #[cr o0, cj q0, cs, ci 5, ci 5, cu, cu] [(.ref o0)]) _ _ _
 obtain ⟨T156, X156, e156, st156⟩ := getF X155 hx hZ hown (host := "") (Or.inl (ow hw 82 rfl)) Via.refl e155 Fc (g := (mkF m 7 #[cr o0, cj q0, cs, ci 5, ci 5, cu, cu] [(.ref o0)])) rfl rfl (hb hby d28_7)
 refine Ends.go st156 ?_
 refine was X156 hx hby d28_10 (l' := #[cr o0, cj q0, cs, ci 5, ci 5, cr xa_, cu]) rfl rfl ?_
 refine walN X156 hx hby d28_12 rfl rfl ?_
 obtain ⟨T157, X157, e157, st157⟩ := getF X156 hx hZ hown (host := "") (Or.inl (ow hw 84 rfl)) Via.refl e156 Fl (g := (mkF m 13 #[cr o0, cj q0, cs, ci 5, ci 5, cr xa_, cu] [(.ref o0)])) rfl rfl (hb hby d28_13)
 refine Ends.go st157 ?_
 refine wil X157 hx hby d28_16 rfl ?_
 show Ends _ _ _ _ T157 (mkF m 18 #[cr o0, cj q0, cs, ci 5, ci 5, cr xa_, cu] [(.int 5), (.int 7)]) _ _ _
 refine wis X157 hx hby d28_18 ?_
 refine wilN X157 hx hby d28_19 rfl ?_
 refine wcy (pc := 20) (pc' := 112) X157 hx hby d28_20 (tlt (by decide : (2 : Int32) < (5 : Int32))).1 (by decide) (by decide) ?_
 refine wic X157 hx hby d28_112 ?_
 refine wst X157 hx hby d28_113 (l' := #[cr o0, cj q0, cs, ci 5, ci 5, cr xa_, ci 0]) rfl ?_
 show Ends _ _ _ _ T157 (mkF m 115 #[cr o0, cj q0, cs, ci 5, ci 5, cr xa_, ci 0] []) _ _ _
 refine wil X157 hx hby d28_115 rfl ?_
 refine wiy (pc := 117) (pc' := 128) X157 hx hby d28_117 ((if0 _ _).trans (teq (by decide : (0 : Int32) = (0 : Int32))).1) (by decide) (by decide) ?_
 refine wil X157 hx hby d28_128 rfl ?_
 refine Ends.retZ X157 hx Bd.notSynchronized (t := .boolean) Bd.returns (by simp) (hb hby d28_130) (by decide) (by decide) ?_
 rw [e157]
 exact ⟨0, rfl, N0, K0, E0, Fb, Or.inr ⟨rfl, fun q => (own_spec_5_5 c0_ c1_ c2_ c3_ c4_ c5_ c6_ q0).mp q, Fp⟩⟩
set_option maxRecDepth 65536 in
set_option maxHeartbeats 40000000 in
theorem rmW_6_5 (l : Launch) (Z : State) (a0 : Array Value) (hw : ∀ d ∈ tables_1, d.before a0 Z = true) (ws : List Jvm.Cond) (n0 : Nat) (h0 : Heap) (O0 : Old Z n0 h0)  (o0 xa_ : Addr) (kxa_ : ClassId) (q0 : Int64) (c0_ c1_ c2_ c3_ c4_ c5_ c6_ : Int32) (g_o0 : n0 ≤ o0) (hox : o0 ≠ xa_) (E0 : Exa Z h0 o0 cSI) (Fl : Fld Z h0 o0 cSI "limit" "I" (.int 7)) (Fp : Fld Z h0 o0 cSI "position" "I" (.int 6)) (Fb : Fld Z h0 o0 cSI "base" "I" (.int 0)) (Fc : Fld Z h0 o0 cSI "chars" "[C" (.ref xa_)) (Vx : Arv Z h0 xa_ kxa_ .char (7 : Int32) [(.int c0_), (.int c1_), (.int c2_), (.int c3_), (.int c4_), (.int c5_), (.int c6_)] (.int 0)) :
  Meets1 l ym6 prog_85_method_12_code 7 (some .boolean) ws ({ frames := 0, cells := 0, slots := 0, locals := 0 } : Room) #[(.ref o0), (.long q0), (.int 5)] Z h0 (fun v h L => ∃ r : Int32, v = some (.int r) ∧ Fr n0 L ∧ Keep h0 h [o0] ∧ Exa Z h o0 cSI ∧ Fld Z h o0 cSI "base" "I" (.int 0) ∧ ((r = 1 ∧ own_spec c0_ c1_ c2_ c3_ c4_ c5_ c6_ q0 6 5 ∧ Fld Z h o0 cSI "position" "I" (.int 11)) ∨ (r = 0 ∧ ¬ own_spec c0_ c1_ c2_ c3_ c4_ c5_ c6_ q0 6 5 ∧ Fld Z h o0 cSI "position" "I" (.int 6)))) := by
 refine MetFree.of_bodySF (plainFor_of_name pn28) hisR ?_
 intro p e s m args below meth c s₁ Bd hml0 hP hK
 obtain ⟨rfl, hZ, hh⟩ := hP
 have hx := Bd.exec
 have hby := Bd.bytes
 have hml : c.maxLocals = 7 := hml0
 have hown : s.vm.findClass "com/example/ratatoskr/ratatoskr/core/internal/StringInput" = some m.cls := findClass_of_methodNamed Bd.named
 have hnm := (name_of_methodNamed Bd.named Bd.method).1
 have X0 : Stand p l e ({ frames := 0, cells := 0, slots := 0, locals := 0 } : Room) s m #[(.ref o0), (.long q0), (.int 5)] below meth c s₁ [] 0 0 := Stand.of_body Bd
 have e0 : s₁.heap = h0 := by rw [← hh, Bd.state]; rfl
 have N0 := Fr.nil n0
 have Z0 := own_old_le O0
 show Ends _ _ _ _ s₁ (entryFrame m #[(.ref o0), (.long q0), (.int 5)] 7) ({ frames := 0, cells := 0, slots := 0, locals := 0 } : Room).cells ({ frames := 0, cells := 0, slots := 0, locals := 0 } : Room).slots (fun v h L => ∃ r : Int32, v = some (.int r) ∧ Fr n0 L ∧ Keep h0 h [o0] ∧ Exa Z h o0 cSI ∧ Fld Z h o0 cSI "base" "I" (.int 0) ∧ ((r = 1 ∧ own_spec c0_ c1_ c2_ c3_ c4_ c5_ c6_ q0 6 5 ∧ Fld Z h o0 cSI "position" "I" (.int 11)) ∨ (r = 0 ∧ ¬ own_spec c0_ c1_ c2_ c3_ c4_ c5_ c6_ q0 6 5 ∧ Fld Z h o0 cSI "position" "I" (.int 6))))
 refine Ends.go (fun _ k => castTop (ef28_rji m o0 q0 (5 : Int32)) k) ?_
 have K0 := Keep.refl h0 [o0]
 refine walN X0 hx hby d28_0 rfl rfl ?_
 obtain ⟨T158, X158, e158, st158⟩ := getF X0 hx hZ hown (host := "") (Or.inl (ow hw 126 rfl)) Via.refl e0 Fp (g := (mkF m 1 #[cr o0, cj q0, cs, ci 5, cu, cu, cu] [(.ref o0)])) rfl rfl (hb hby d28_1)
 refine Ends.go st158 ?_
 refine wst X158 hx hby d28_4 (l' := #[cr o0, cj q0, cs, ci 5, ci 6, cu, cu]) rfl ?_
 refine walN X158 hx hby d28_6 rfl rfl ?_
 show Ends _ _ _ _ T158 (mkF m 7 #[cr o0, cj q0, cs, ci 5, ci 6, cu, cu] [(.ref o0)]) _ _ _
 obtain ⟨T159, X159, e159, st159⟩ := getF X158 hx hZ hown (host := "") (Or.inl (ow hw 82 rfl)) Via.refl e158 Fc (g := (mkF m 7 #[cr o0, cj q0, cs, ci 5, ci 6, cu, cu] [(.ref o0)])) rfl rfl (hb hby d28_7)
 refine Ends.go st159 ?_
 refine was X159 hx hby d28_10 (l' := #[cr o0, cj q0, cs, ci 5, ci 6, cr xa_, cu]) rfl rfl ?_
 refine walN X159 hx hby d28_12 rfl rfl ?_
 obtain ⟨T160, X160, e160, st160⟩ := getF X159 hx hZ hown (host := "") (Or.inl (ow hw 84 rfl)) Via.refl e159 Fl (g := (mkF m 13 #[cr o0, cj q0, cs, ci 5, ci 6, cr xa_, cu] [(.ref o0)])) rfl rfl (hb hby d28_13)
 refine Ends.go st160 ?_
 refine wil X160 hx hby d28_16 rfl ?_
 show Ends _ _ _ _ T160 (mkF m 18 #[cr o0, cj q0, cs, ci 5, ci 6, cr xa_, cu] [(.int 6), (.int 7)]) _ _ _
 refine wis X160 hx hby d28_18 ?_
 refine wilN X160 hx hby d28_19 rfl ?_
 refine wcy (pc := 20) (pc' := 112) X160 hx hby d28_20 (tlt (by decide : (1 : Int32) < (5 : Int32))).1 (by decide) (by decide) ?_
 refine wic X160 hx hby d28_112 ?_
 refine wst X160 hx hby d28_113 (l' := #[cr o0, cj q0, cs, ci 5, ci 6, cr xa_, ci 0]) rfl ?_
 show Ends _ _ _ _ T160 (mkF m 115 #[cr o0, cj q0, cs, ci 5, ci 6, cr xa_, ci 0] []) _ _ _
 refine wil X160 hx hby d28_115 rfl ?_
 refine wiy (pc := 117) (pc' := 128) X160 hx hby d28_117 ((if0 _ _).trans (teq (by decide : (0 : Int32) = (0 : Int32))).1) (by decide) (by decide) ?_
 refine wil X160 hx hby d28_128 rfl ?_
 refine Ends.retZ X160 hx Bd.notSynchronized (t := .boolean) Bd.returns (by simp) (hb hby d28_130) (by decide) (by decide) ?_
 rw [e160]
 exact ⟨0, rfl, N0, K0, E0, Fb, Or.inr ⟨rfl, fun q => (own_spec_6_5 c0_ c1_ c2_ c3_ c4_ c5_ c6_ q0).mp q, Fp⟩⟩
theorem rmW (l : Launch) (Z : State) (a0 : Array Value) (hw : ∀ d ∈ tables_1, d.before a0 Z = true) (ws : List Jvm.Cond) (n0 : Nat) (h0 : Heap) (O0 : Old Z n0 h0) (o0 xa_ : Addr) (kxa_ : ClassId) (q0 : Int64) (c0_ c1_ c2_ c3_ c4_ c5_ c6_ : Int32) (at_ len_ e_ : Int32) (g_o0 : n0 ≤ o0) (hox : o0 ≠ xa_) (E0 : Exa Z h0 o0 cSI) (Fl : Fld Z h0 o0 cSI "limit" "I" (.int 7)) (Fp : Fld Z h0 o0 cSI "position" "I" (.int at_)) (Fb : Fld Z h0 o0 cSI "base" "I" (.int 0)) (Fc : Fld Z h0 o0 cSI "chars" "[C" (.ref xa_)) (Vx : Arv Z h0 xa_ kxa_ .char (7 : Int32) [(.int c0_), (.int c1_), (.int c2_), (.int c3_), (.int c4_), (.int c5_), (.int c6_)] (.int 0)) (hat : at_ = 0 ∨ at_ = 1 ∨ at_ = 2 ∨ at_ = 3 ∨ at_ = 4 ∨ at_ = 5 ∨ at_ = 6) (hlen : len_ = 4 ∨ len_ = 5) (he : e_ = at_ + len_) :
  Meets1 l ym6 prog_85_method_12_code 7 (some .boolean) ws ({ frames := 0, cells := 0, slots := 0, locals := 0 } : Room) #[(.ref o0), (.long q0), (.int len_)] Z h0 (fun v h L => ∃ r : Int32, v = some (.int r) ∧ Fr n0 L ∧ Keep h0 h [o0] ∧ Exa Z h o0 cSI ∧ Fld Z h o0 cSI "base" "I" (.int 0) ∧ ((r = 1 ∧ own_spec c0_ c1_ c2_ c3_ c4_ c5_ c6_ q0 at_ len_ ∧ Fld Z h o0 cSI "position" "I" (.int e_)) ∨ (r = 0 ∧ ¬ own_spec c0_ c1_ c2_ c3_ c4_ c5_ c6_ q0 at_ len_ ∧ Fld Z h o0 cSI "position" "I" (.int at_)))) := by
 rcases hat with rfl | rfl | rfl | rfl | rfl | rfl | rfl
 ·rcases hlen with rfl | rfl
  ·obtain rfl : e_ = 4 := he.trans (by decide)
   exact rmW_0_4 l Z a0 hw ws n0 h0 O0 o0 xa_ kxa_ q0 c0_ c1_ c2_ c3_ c4_ c5_ c6_ g_o0 hox E0 Fl Fp Fb Fc Vx
  ·obtain rfl : e_ = 5 := he.trans (by decide)
   exact rmW_0_5 l Z a0 hw ws n0 h0 O0 o0 xa_ kxa_ q0 c0_ c1_ c2_ c3_ c4_ c5_ c6_ g_o0 hox E0 Fl Fp Fb Fc Vx
 ·rcases hlen with rfl | rfl
  ·obtain rfl : e_ = 5 := he.trans (by decide)
   exact rmW_1_4 l Z a0 hw ws n0 h0 O0 o0 xa_ kxa_ q0 c0_ c1_ c2_ c3_ c4_ c5_ c6_ g_o0 hox E0 Fl Fp Fb Fc Vx
  ·obtain rfl : e_ = 6 := he.trans (by decide)
   exact rmW_1_5 l Z a0 hw ws n0 h0 O0 o0 xa_ kxa_ q0 c0_ c1_ c2_ c3_ c4_ c5_ c6_ g_o0 hox E0 Fl Fp Fb Fc Vx
 ·rcases hlen with rfl | rfl
  ·obtain rfl : e_ = 6 := he.trans (by decide)
   exact rmW_2_4 l Z a0 hw ws n0 h0 O0 o0 xa_ kxa_ q0 c0_ c1_ c2_ c3_ c4_ c5_ c6_ g_o0 hox E0 Fl Fp Fb Fc Vx
  ·obtain rfl : e_ = 7 := he.trans (by decide)
   exact rmW_2_5 l Z a0 hw ws n0 h0 O0 o0 xa_ kxa_ q0 c0_ c1_ c2_ c3_ c4_ c5_ c6_ g_o0 hox E0 Fl Fp Fb Fc Vx
 ·rcases hlen with rfl | rfl
  ·obtain rfl : e_ = 7 := he.trans (by decide)
   exact rmW_3_4 l Z a0 hw ws n0 h0 O0 o0 xa_ kxa_ q0 c0_ c1_ c2_ c3_ c4_ c5_ c6_ g_o0 hox E0 Fl Fp Fb Fc Vx
  ·obtain rfl : e_ = 8 := he.trans (by decide)
   exact rmW_3_5 l Z a0 hw ws n0 h0 O0 o0 xa_ kxa_ q0 c0_ c1_ c2_ c3_ c4_ c5_ c6_ g_o0 hox E0 Fl Fp Fb Fc Vx
 ·rcases hlen with rfl | rfl
  ·obtain rfl : e_ = 8 := he.trans (by decide)
   exact rmW_4_4 l Z a0 hw ws n0 h0 O0 o0 xa_ kxa_ q0 c0_ c1_ c2_ c3_ c4_ c5_ c6_ g_o0 hox E0 Fl Fp Fb Fc Vx
  ·obtain rfl : e_ = 9 := he.trans (by decide)
   exact rmW_4_5 l Z a0 hw ws n0 h0 O0 o0 xa_ kxa_ q0 c0_ c1_ c2_ c3_ c4_ c5_ c6_ g_o0 hox E0 Fl Fp Fb Fc Vx
 ·rcases hlen with rfl | rfl
  ·obtain rfl : e_ = 9 := he.trans (by decide)
   exact rmW_5_4 l Z a0 hw ws n0 h0 O0 o0 xa_ kxa_ q0 c0_ c1_ c2_ c3_ c4_ c5_ c6_ g_o0 hox E0 Fl Fp Fb Fc Vx
  ·obtain rfl : e_ = 10 := he.trans (by decide)
   exact rmW_5_5 l Z a0 hw ws n0 h0 O0 o0 xa_ kxa_ q0 c0_ c1_ c2_ c3_ c4_ c5_ c6_ g_o0 hox E0 Fl Fp Fb Fc Vx
 ·rcases hlen with rfl | rfl
  ·obtain rfl : e_ = 10 := he.trans (by decide)
   exact rmW_6_4 l Z a0 hw ws n0 h0 O0 o0 xa_ kxa_ q0 c0_ c1_ c2_ c3_ c4_ c5_ c6_ g_o0 hox E0 Fl Fp Fb Fc Vx
  ·obtain rfl : e_ = 11 := he.trans (by decide)
   exact rmW_6_5 l Z a0 hw ws n0 h0 O0 o0 xa_ kxa_ q0 c0_ c1_ c2_ c3_ c4_ c5_ c6_ g_o0 hox E0 Fl Fp Fb Fc Vx
theorem d11_0 : decode jdk_52_method_5_code 0 = .ok (.getstatic 44, 3) := by decide +kernel
theorem d11_3 : decode jdk_52_method_5_code 3 = .ok (.ifCond .ne 25, 3) := by decide +kernel
theorem d11_28 : decode jdk_52_method_5_code 28 = .ok (.iload_n 1, 1) := by decide +kernel
theorem d11_29 : decode jdk_52_method_5_code 29 = .ok (.iconst 1, 1) := by decide +kernel
theorem d11_30 : decode jdk_52_method_5_code 30 = .ok (.ishl, 1) := by decide +kernel
theorem d11_31 : decode jdk_52_method_5_code 31 = .ok (.istore_n 1, 1) := by decide +kernel
theorem d11_32 : decode jdk_52_method_5_code 32 = .ok (.aload_n 0, 1) := by decide +kernel
theorem d11_33 : decode jdk_52_method_5_code 33 = .ok (.iload_n 1, 1) := by decide +kernel
theorem d11_34 : decode jdk_52_method_5_code 34 = .ok (.iinc 1 1, 3) := by decide +kernel
theorem d11_37 : decode jdk_52_method_5_code 37 = .ok (.baload, 1) := by decide +kernel
theorem d11_38 : decode jdk_52_method_5_code 38 = .ok (.sipush 255, 3) := by decide +kernel
theorem d11_41 : decode jdk_52_method_5_code 41 = .ok (.iand, 1) := by decide +kernel
theorem d11_42 : decode jdk_52_method_5_code 42 = .ok (.getstatic 59, 3) := by decide +kernel
theorem d11_45 : decode jdk_52_method_5_code 45 = .ok (.ishl, 1) := by decide +kernel
theorem d11_46 : decode jdk_52_method_5_code 46 = .ok (.aload_n 0, 1) := by decide +kernel
theorem d11_47 : decode jdk_52_method_5_code 47 = .ok (.iload_n 1, 1) := by decide +kernel
theorem d11_48 : decode jdk_52_method_5_code 48 = .ok (.baload, 1) := by decide +kernel
theorem d11_49 : decode jdk_52_method_5_code 49 = .ok (.sipush 255, 3) := by decide +kernel
theorem d11_52 : decode jdk_52_method_5_code 52 = .ok (.iand, 1) := by decide +kernel
theorem d11_53 : decode jdk_52_method_5_code 53 = .ok (.getstatic 63, 3) := by decide +kernel
theorem d11_56 : decode jdk_52_method_5_code 56 = .ok (.ishl, 1) := by decide +kernel
theorem d11_57 : decode jdk_52_method_5_code 57 = .ok (.ior, 1) := by decide +kernel
theorem d11_58 : decode jdk_52_method_5_code 58 = .ok (.i2c, 1) := by decide +kernel
theorem d11_59 : decode jdk_52_method_5_code 59 = .ok (.ireturn, 1) := by decide +kernel
theorem pn11 : plainName "java/lang/StringUTF16" = true := by first | (simp [plainName, overriddenIn]; done) | decide +kernel
theorem ef11_ri (m : MethodId) (x0 : Addr) (x1 : Int32) : entryFrame m #[(.ref x0), (.int x1)] 2 = mkF m 0 #[.val (.ref x0), .val (.int x1)] [] := by first | (simp [entryFrame, mkF, argsToLocals, Value.category]; done) | rfl
set_option maxRecDepth 65536 in
set_option maxHeartbeats 40000000 in
theorem rx11_22 (l : Launch) (Z : State) (a0 : Array Value) (hw : ∀ d ∈ tables_1, d.before a0 Z = true) (ws : List Jvm.Cond) (n0 : Nat) (h0 : Heap) (O0 : Old Z n0 h0) (G1 : Int32) (G3 : Value) (GF : GlobF Z G1 G3) (b0_ : Addr) (kb_ : ClassId) (c0_ : Int32) (c1_ : Int32) (c2_ : Int32) (c3_ : Int32) (c4_ : Int32) (c5_ : Int32) (c6_ : Int32) (PV_b0_ : Arv Z h0 b0_ kb_ .byte (14 : Int32) [(.int ((c0_ >>> ((0 : Int32) &&& 31)).toInt8.toInt32)), (.int ((c0_ >>> ((8 : Int32) &&& 31)).toInt8.toInt32)), (.int ((c1_ >>> ((0 : Int32) &&& 31)).toInt8.toInt32)), (.int ((c1_ >>> ((8 : Int32) &&& 31)).toInt8.toInt32)), (.int ((c2_ >>> ((0 : Int32) &&& 31)).toInt8.toInt32)), (.int ((c2_ >>> ((8 : Int32) &&& 31)).toInt8.toInt32)), (.int ((c3_ >>> ((0 : Int32) &&& 31)).toInt8.toInt32)), (.int ((c3_ >>> ((8 : Int32) &&& 31)).toInt8.toInt32)), (.int ((c4_ >>> ((0 : Int32) &&& 31)).toInt8.toInt32)), (.int ((c4_ >>> ((8 : Int32) &&& 31)).toInt8.toInt32)), (.int ((c5_ >>> ((0 : Int32) &&& 31)).toInt8.toInt32)), (.int ((c5_ >>> ((8 : Int32) &&& 31)).toInt8.toInt32)), (.int ((c6_ >>> ((0 : Int32) &&& 31)).toInt8.toInt32)), (.int ((c6_ >>> ((8 : Int32) &&& 31)).toInt8.toInt32))] (.int 0)) (hc0_ : 0 ≤ c0_.toInt ∧ c0_.toInt < 65536) :
  Meets1 l ym7 jdk_52_method_5_code 2 (some .char) ws ({ frames := 0, cells := 0, slots := 0, locals := 0 } : Room) #[(.ref b0_), (.int 0)] Z h0 (fun v h L => v = some (.int c0_) ∧ Fr n0 L ∧ Keep h0 h []) := by
 refine MetFree.of_bodySF (plainFor_of_name pn11) hisR ?_
 intro p e s m args below meth c s₁ Bd hml0 hP hK
 obtain ⟨rfl, hZ, hh⟩ := hP
 have hx := Bd.exec
 have hby := Bd.bytes
 have hml : c.maxLocals = 2 := hml0
 have hown : s.vm.findClass "java/lang/StringUTF16" = some m.cls := findClass_of_methodNamed Bd.named
 have hnm := (name_of_methodNamed Bd.named Bd.method).1
 have X0 : Stand p l e ({ frames := 0, cells := 0, slots := 0, locals := 0 } : Room) s m #[(.ref b0_), (.int 0)] below meth c s₁ [] 0 0 := Stand.of_body Bd
 have e0 : s₁.heap = h0 := by rw [← hh, Bd.state]; rfl
 have N0 := Fr.nil n0
 have Z0 := own_old_le O0
 show Ends _ _ _ _ s₁ (entryFrame m #[(.ref b0_), (.int 0)] 2) ({ frames := 0, cells := 0, slots := 0, locals := 0 } : Room).cells ({ frames := 0, cells := 0, slots := 0, locals := 0 } : Room).slots (fun v h L => v = some (.int c0_) ∧ Fr n0 L ∧ Keep h0 h [])
 refine Ends.go (fun _ k => castTop (ef11_ri m b0_ (0 : Int32)) k) ?_
 obtain ⟨SCS, P5, SAD, SHI, SLO, SSF, RG3⟩ := id GF
 have K0 := Keep.refl h0 []
 show Ends _ _ _ _ s₁ (mkF m 0 #[cr b0_, ci 0] []) _ _ _
 obtain ⟨T23, X23, e23, st23⟩ := getS2 X0 hx hZ hown (host := "") (Or.inl (ow hw 44 rfl)) Via.refl e0 (SAD.ext O0.2) (g := (mkF m 0 #[cr b0_, ci 0] [])) rfl (hb hby d11_0)
 refine Ends.go st23 ?_
 refine wiy (pc := 3) (pc' := 28) X23 hx hby d11_3 ((if0 _ _).trans (feq (by decide : ¬ ((1 : Int32) = (0 : Int32)))).2) (by decide) (by decide) ?_
 refine wilN X23 hx hby d11_28 rfl ?_
 refine wic X23 hx hby d11_29 ?_
 show Ends _ _ _ _ T23 (mkF m 30 #[cr b0_, ci 0] [(.int 1), (.int 0)]) _ _ _
 refine .go (fun _ => XS.ishl X23.here hx rfl (hb hby d11_30) rfl) ?_
 refine wstN X23 hx hby d11_31 (l' := #[cr b0_, ci 0]) rfl ?_
 refine walN X23 hx hby d11_32 rfl rfl ?_
 refine wilN X23 hx hby d11_33 rfl ?_
 refine wii X23 hx hby d11_34 (l' := #[cr b0_, ci 1]) rfl rfl ?_
 show Ends _ _ _ _ T23 (mkF m 37 #[cr b0_, ci 1] [(.int 0), (.ref b0_)]) _ _ _
 obtain ⟨cl24, Ar24, q24, S24, M24, H24, G24⟩ := id PV_b0_
 have hin24 := inb_of (j := (0 : Int32)) S24 ⟨by decide, by decide⟩
 refine Ends.go (X23.baloadBytes hx (j := (0 : Int32)) (v := (.int ((c0_ >>> ((0 : Int32) &&& 31)).toInt8.toInt32))) (by rw [e23]; exact Ar24.1) (State.isArrayOf_alike hZ.alike Ar24.2.1) Ar24.2.2 hin24 (H24.at hin24 rfl) (g := (mkF m 37 #[cr b0_, ci 1] [(.int 0), (.ref b0_)])) rfl rfl (hb hby d11_37)) ?_
 refine wsp X23 hx hby d11_38 ?_
 refine wan X23 hx hby d11_41 ?_
 obtain ⟨T25, X25, e25, st25⟩ := getS2 X23 hx hZ hown (host := "") (Or.inl (ow hw 45 rfl)) Via.refl e23 (SHI.ext O0.2) (g := (mkF m 42 #[cr b0_, ci 1] [(.int (((c0_ >>> ((0 : Int32) &&& 31)).toInt8.toInt32) &&& (255 : Int32)))])) rfl (hb hby d11_42)
 refine Ends.go st25 ?_
 refine .go (fun _ => XS.ishl X25.here hx rfl (hb hby d11_45) rfl) ?_
 show Ends _ _ _ _ T25 (mkF m 46 #[cr b0_, ci 1] [(.int ((((c0_ >>> ((0 : Int32) &&& 31)).toInt8.toInt32) &&& (255 : Int32)) <<< ((0 : Int32) &&& 31)))]) _ _ _
 refine walN X25 hx hby d11_46 rfl rfl ?_
 refine wilN X25 hx hby d11_47 rfl ?_
 obtain ⟨cl26, Ar26, q26, S26, M26, H26, G26⟩ := id PV_b0_
 have hin26 := inb_of (j := (1 : Int32)) S26 ⟨by decide, by decide⟩
 refine Ends.go (X25.baloadBytes hx (j := (1 : Int32)) (v := (.int ((c0_ >>> ((8 : Int32) &&& 31)).toInt8.toInt32))) (by rw [e25]; exact Ar26.1) (State.isArrayOf_alike hZ.alike Ar26.2.1) Ar26.2.2 hin26 (H26.at hin26 rfl) (g := (mkF m 48 #[cr b0_, ci 1] [(.int 1), (.ref b0_), (.int ((((c0_ >>> ((0 : Int32) &&& 31)).toInt8.toInt32) &&& (255 : Int32)) <<< ((0 : Int32) &&& 31)))])) rfl rfl (hb hby d11_48)) ?_
 refine wsp X25 hx hby d11_49 ?_
 refine wan X25 hx hby d11_52 ?_
 show Ends _ _ _ _ T25 (mkF m 53 #[cr b0_, ci 1] [(.int (((c0_ >>> ((8 : Int32) &&& 31)).toInt8.toInt32) &&& (255 : Int32))), (.int ((((c0_ >>> ((0 : Int32) &&& 31)).toInt8.toInt32) &&& (255 : Int32)) <<< ((0 : Int32) &&& 31)))]) _ _ _
 obtain ⟨T27, X27, e27, st27⟩ := getS2 X25 hx hZ hown (host := "") (Or.inl (ow hw 46 rfl)) Via.refl e25 (SLO.ext O0.2) (g := (mkF m 53 #[cr b0_, ci 1] [(.int (((c0_ >>> ((8 : Int32) &&& 31)).toInt8.toInt32) &&& (255 : Int32))), (.int ((((c0_ >>> ((0 : Int32) &&& 31)).toInt8.toInt32) &&& (255 : Int32)) <<< ((0 : Int32) &&& 31)))])) rfl (hb hby d11_53)
 refine Ends.go st27 ?_
 refine .go (fun _ => XS.ishl X27.here hx rfl (hb hby d11_56) rfl) ?_
 refine .go (fun _ => XS.ior X27.here hx rfl (hb hby d11_57) rfl) ?_
 refine .go (fun _ => XS.i2c X27.here hx rfl (hb hby d11_58) rfl) ?_
 refine Ends.retZ X27 hx Bd.notSynchronized (t := .char) Bd.returns (by simp) (hb hby d11_59) (by decide) (by decide) ?_
 rw [e27]
 exact ⟨(congrArg (fun z => some (Value.int z)) (own_u16 hc0_)), N0, K0⟩

set_option maxRecDepth 65536 in
set_option maxHeartbeats 40000000 in
theorem rx11_28 (l : Launch) (Z : State) (a0 : Array Value) (hw : ∀ d ∈ tables_1, d.before a0 Z = true) (ws : List Jvm.Cond) (n0 : Nat) (h0 : Heap) (O0 : Old Z n0 h0) (G1 : Int32) (G3 : Value) (GF : GlobF Z G1 G3) (b0_ : Addr) (kb_ : ClassId) (c0_ : Int32) (c1_ : Int32) (c2_ : Int32) (c3_ : Int32) (c4_ : Int32) (c5_ : Int32) (c6_ : Int32) (PV_b0_ : Arv Z h0 b0_ kb_ .byte (14 : Int32) [(.int ((c0_ >>> ((0 : Int32) &&& 31)).toInt8.toInt32)), (.int ((c0_ >>> ((8 : Int32) &&& 31)).toInt8.toInt32)), (.int ((c1_ >>> ((0 : Int32) &&& 31)).toInt8.toInt32)), (.int ((c1_ >>> ((8 : Int32) &&& 31)).toInt8.toInt32)), (.int ((c2_ >>> ((0 : Int32) &&& 31)).toInt8.toInt32)), (.int ((c2_ >>> ((8 : Int32) &&& 31)).toInt8.toInt32)), (.int ((c3_ >>> ((0 : Int32) &&& 31)).toInt8.toInt32)), (.int ((c3_ >>> ((8 : Int32) &&& 31)).toInt8.toInt32)), (.int ((c4_ >>> ((0 : Int32) &&& 31)).toInt8.toInt32)), (.int ((c4_ >>> ((8 : Int32) &&& 31)).toInt8.toInt32)), (.int ((c5_ >>> ((0 : Int32) &&& 31)).toInt8.toInt32)), (.int ((c5_ >>> ((8 : Int32) &&& 31)).toInt8.toInt32)), (.int ((c6_ >>> ((0 : Int32) &&& 31)).toInt8.toInt32)), (.int ((c6_ >>> ((8 : Int32) &&& 31)).toInt8.toInt32))] (.int 0)) (hc1_ : 0 ≤ c1_.toInt ∧ c1_.toInt < 65536) :
  Meets1 l ym7 jdk_52_method_5_code 2 (some .char) ws ({ frames := 0, cells := 0, slots := 0, locals := 0 } : Room) #[(.ref b0_), (.int 1)] Z h0 (fun v h L => v = some (.int c1_) ∧ Fr n0 L ∧ Keep h0 h []) := by
 refine MetFree.of_bodySF (plainFor_of_name pn11) hisR ?_
 intro p e s m args below meth c s₁ Bd hml0 hP hK
 obtain ⟨rfl, hZ, hh⟩ := hP
 have hx := Bd.exec
 have hby := Bd.bytes
 have hml : c.maxLocals = 2 := hml0
 have hown : s.vm.findClass "java/lang/StringUTF16" = some m.cls := findClass_of_methodNamed Bd.named
 have hnm := (name_of_methodNamed Bd.named Bd.method).1
 have X0 : Stand p l e ({ frames := 0, cells := 0, slots := 0, locals := 0 } : Room) s m #[(.ref b0_), (.int 1)] below meth c s₁ [] 0 0 := Stand.of_body Bd
 have e0 : s₁.heap = h0 := by rw [← hh, Bd.state]; rfl
 have N0 := Fr.nil n0
 have Z0 := own_old_le O0
 show Ends _ _ _ _ s₁ (entryFrame m #[(.ref b0_), (.int 1)] 2) ({ frames := 0, cells := 0, slots := 0, locals := 0 } : Room).cells ({ frames := 0, cells := 0, slots := 0, locals := 0 } : Room).slots (fun v h L => v = some (.int c1_) ∧ Fr n0 L ∧ Keep h0 h [])
 refine Ends.go (fun _ k => castTop (ef11_ri m b0_ (1 : Int32)) k) ?_
 obtain ⟨SCS, P5, SAD, SHI, SLO, SSF, RG3⟩ := id GF
 have K0 := Keep.refl h0 []
 show Ends _ _ _ _ s₁ (mkF m 0 #[cr b0_, ci 1] []) _ _ _
 obtain ⟨T29, X29, e29, st29⟩ := getS2 X0 hx hZ hown (host := "") (Or.inl (ow hw 44 rfl)) Via.refl e0 (SAD.ext O0.2) (g := (mkF m 0 #[cr b0_, ci 1] [])) rfl (hb hby d11_0)
 refine Ends.go st29 ?_
 refine wiy (pc := 3) (pc' := 28) X29 hx hby d11_3 ((if0 _ _).trans (feq (by decide : ¬ ((1 : Int32) = (0 : Int32)))).2) (by decide) (by decide) ?_
 refine wilN X29 hx hby d11_28 rfl ?_
 refine wic X29 hx hby d11_29 ?_
 show Ends _ _ _ _ T29 (mkF m 30 #[cr b0_, ci 1] [(.int 1), (.int 1)]) _ _ _
 refine .go (fun _ => XS.ishl X29.here hx rfl (hb hby d11_30) rfl) ?_
 refine wstN X29 hx hby d11_31 (l' := #[cr b0_, ci 2]) rfl ?_
 refine walN X29 hx hby d11_32 rfl rfl ?_
 refine wilN X29 hx hby d11_33 rfl ?_
 refine wii X29 hx hby d11_34 (l' := #[cr b0_, ci 3]) rfl rfl ?_
 show Ends _ _ _ _ T29 (mkF m 37 #[cr b0_, ci 3] [(.int 2), (.ref b0_)]) _ _ _
 obtain ⟨cl30, Ar30, q30, S30, M30, H30, G30⟩ := id PV_b0_
 have hin30 := inb_of (j := (2 : Int32)) S30 ⟨by decide, by decide⟩
 refine Ends.go (X29.baloadBytes hx (j := (2 : Int32)) (v := (.int ((c1_ >>> ((0 : Int32) &&& 31)).toInt8.toInt32))) (by rw [e29]; exact Ar30.1) (State.isArrayOf_alike hZ.alike Ar30.2.1) Ar30.2.2 hin30 (H30.at hin30 rfl) (g := (mkF m 37 #[cr b0_, ci 3] [(.int 2), (.ref b0_)])) rfl rfl (hb hby d11_37)) ?_
 refine wsp X29 hx hby d11_38 ?_
 refine wan X29 hx hby d11_41 ?_
 obtain ⟨T31, X31, e31, st31⟩ := getS2 X29 hx hZ hown (host := "") (Or.inl (ow hw 45 rfl)) Via.refl e29 (SHI.ext O0.2) (g := (mkF m 42 #[cr b0_, ci 3] [(.int (((c1_ >>> ((0 : Int32) &&& 31)).toInt8.toInt32) &&& (255 : Int32)))])) rfl (hb hby d11_42)
 refine Ends.go st31 ?_
 refine .go (fun _ => XS.ishl X31.here hx rfl (hb hby d11_45) rfl) ?_
 show Ends _ _ _ _ T31 (mkF m 46 #[cr b0_, ci 3] [(.int ((((c1_ >>> ((0 : Int32) &&& 31)).toInt8.toInt32) &&& (255 : Int32)) <<< ((0 : Int32) &&& 31)))]) _ _ _
 refine walN X31 hx hby d11_46 rfl rfl ?_
 refine wilN X31 hx hby d11_47 rfl ?_
 obtain ⟨cl32, Ar32, q32, S32, M32, H32, G32⟩ := id PV_b0_
 have hin32 := inb_of (j := (3 : Int32)) S32 ⟨by decide, by decide⟩
 refine Ends.go (X31.baloadBytes hx (j := (3 : Int32)) (v := (.int ((c1_ >>> ((8 : Int32) &&& 31)).toInt8.toInt32))) (by rw [e31]; exact Ar32.1) (State.isArrayOf_alike hZ.alike Ar32.2.1) Ar32.2.2 hin32 (H32.at hin32 rfl) (g := (mkF m 48 #[cr b0_, ci 3] [(.int 3), (.ref b0_), (.int ((((c1_ >>> ((0 : Int32) &&& 31)).toInt8.toInt32) &&& (255 : Int32)) <<< ((0 : Int32) &&& 31)))])) rfl rfl (hb hby d11_48)) ?_
 refine wsp X31 hx hby d11_49 ?_
 refine wan X31 hx hby d11_52 ?_
 show Ends _ _ _ _ T31 (mkF m 53 #[cr b0_, ci 3] [(.int (((c1_ >>> ((8 : Int32) &&& 31)).toInt8.toInt32) &&& (255 : Int32))), (.int ((((c1_ >>> ((0 : Int32) &&& 31)).toInt8.toInt32) &&& (255 : Int32)) <<< ((0 : Int32) &&& 31)))]) _ _ _
 obtain ⟨T33, X33, e33, st33⟩ := getS2 X31 hx hZ hown (host := "") (Or.inl (ow hw 46 rfl)) Via.refl e31 (SLO.ext O0.2) (g := (mkF m 53 #[cr b0_, ci 3] [(.int (((c1_ >>> ((8 : Int32) &&& 31)).toInt8.toInt32) &&& (255 : Int32))), (.int ((((c1_ >>> ((0 : Int32) &&& 31)).toInt8.toInt32) &&& (255 : Int32)) <<< ((0 : Int32) &&& 31)))])) rfl (hb hby d11_53)
 refine Ends.go st33 ?_
 refine .go (fun _ => XS.ishl X33.here hx rfl (hb hby d11_56) rfl) ?_
 refine .go (fun _ => XS.ior X33.here hx rfl (hb hby d11_57) rfl) ?_
 refine .go (fun _ => XS.i2c X33.here hx rfl (hb hby d11_58) rfl) ?_
 refine Ends.retZ X33 hx Bd.notSynchronized (t := .char) Bd.returns (by simp) (hb hby d11_59) (by decide) (by decide) ?_
 rw [e33]
 exact ⟨(congrArg (fun z => some (Value.int z)) (own_u16 hc1_)), N0, K0⟩

set_option maxRecDepth 65536 in
set_option maxHeartbeats 40000000 in
theorem rx11_34 (l : Launch) (Z : State) (a0 : Array Value) (hw : ∀ d ∈ tables_1, d.before a0 Z = true) (ws : List Jvm.Cond) (n0 : Nat) (h0 : Heap) (O0 : Old Z n0 h0) (G1 : Int32) (G3 : Value) (GF : GlobF Z G1 G3) (b0_ : Addr) (kb_ : ClassId) (c0_ : Int32) (c1_ : Int32) (c2_ : Int32) (c3_ : Int32) (c4_ : Int32) (c5_ : Int32) (c6_ : Int32) (PV_b0_ : Arv Z h0 b0_ kb_ .byte (14 : Int32) [(.int ((c0_ >>> ((0 : Int32) &&& 31)).toInt8.toInt32)), (.int ((c0_ >>> ((8 : Int32) &&& 31)).toInt8.toInt32)), (.int ((c1_ >>> ((0 : Int32) &&& 31)).toInt8.toInt32)), (.int ((c1_ >>> ((8 : Int32) &&& 31)).toInt8.toInt32)), (.int ((c2_ >>> ((0 : Int32) &&& 31)).toInt8.toInt32)), (.int ((c2_ >>> ((8 : Int32) &&& 31)).toInt8.toInt32)), (.int ((c3_ >>> ((0 : Int32) &&& 31)).toInt8.toInt32)), (.int ((c3_ >>> ((8 : Int32) &&& 31)).toInt8.toInt32)), (.int ((c4_ >>> ((0 : Int32) &&& 31)).toInt8.toInt32)), (.int ((c4_ >>> ((8 : Int32) &&& 31)).toInt8.toInt32)), (.int ((c5_ >>> ((0 : Int32) &&& 31)).toInt8.toInt32)), (.int ((c5_ >>> ((8 : Int32) &&& 31)).toInt8.toInt32)), (.int ((c6_ >>> ((0 : Int32) &&& 31)).toInt8.toInt32)), (.int ((c6_ >>> ((8 : Int32) &&& 31)).toInt8.toInt32))] (.int 0)) (hc2_ : 0 ≤ c2_.toInt ∧ c2_.toInt < 65536) :
  Meets1 l ym7 jdk_52_method_5_code 2 (some .char) ws ({ frames := 0, cells := 0, slots := 0, locals := 0 } : Room) #[(.ref b0_), (.int 2)] Z h0 (fun v h L => v = some (.int c2_) ∧ Fr n0 L ∧ Keep h0 h []) := by
 refine MetFree.of_bodySF (plainFor_of_name pn11) hisR ?_
 intro p e s m args below meth c s₁ Bd hml0 hP hK
 obtain ⟨rfl, hZ, hh⟩ := hP
 have hx := Bd.exec
 have hby := Bd.bytes
 have hml : c.maxLocals = 2 := hml0
 have hown : s.vm.findClass "java/lang/StringUTF16" = some m.cls := findClass_of_methodNamed Bd.named
 have hnm := (name_of_methodNamed Bd.named Bd.method).1
 have X0 : Stand p l e ({ frames := 0, cells := 0, slots := 0, locals := 0 } : Room) s m #[(.ref b0_), (.int 2)] below meth c s₁ [] 0 0 := Stand.of_body Bd
 have e0 : s₁.heap = h0 := by rw [← hh, Bd.state]; rfl
 have N0 := Fr.nil n0
 have Z0 := own_old_le O0
 show Ends _ _ _ _ s₁ (entryFrame m #[(.ref b0_), (.int 2)] 2) ({ frames := 0, cells := 0, slots := 0, locals := 0 } : Room).cells ({ frames := 0, cells := 0, slots := 0, locals := 0 } : Room).slots (fun v h L => v = some (.int c2_) ∧ Fr n0 L ∧ Keep h0 h [])
 refine Ends.go (fun _ k => castTop (ef11_ri m b0_ (2 : Int32)) k) ?_
 obtain ⟨SCS, P5, SAD, SHI, SLO, SSF, RG3⟩ := id GF
 have K0 := Keep.refl h0 []
 show Ends _ _ _ _ s₁ (mkF m 0 #[cr b0_, ci 2] []) _ _ _
 obtain ⟨T35, X35, e35, st35⟩ := getS2 X0 hx hZ hown (host := "") (Or.inl (ow hw 44 rfl)) Via.refl e0 (SAD.ext O0.2) (g := (mkF m 0 #[cr b0_, ci 2] [])) rfl (hb hby d11_0)
 refine Ends.go st35 ?_
 refine wiy (pc := 3) (pc' := 28) X35 hx hby d11_3 ((if0 _ _).trans (feq (by decide : ¬ ((1 : Int32) = (0 : Int32)))).2) (by decide) (by decide) ?_
 refine wilN X35 hx hby d11_28 rfl ?_
 refine wic X35 hx hby d11_29 ?_
 show Ends _ _ _ _ T35 (mkF m 30 #[cr b0_, ci 2] [(.int 1), (.int 2)]) _ _ _
 refine .go (fun _ => XS.ishl X35.here hx rfl (hb hby d11_30) rfl) ?_
 refine wstN X35 hx hby d11_31 (l' := #[cr b0_, ci 4]) rfl ?_
 refine walN X35 hx hby d11_32 rfl rfl ?_
 refine wilN X35 hx hby d11_33 rfl ?_
 refine wii X35 hx hby d11_34 (l' := #[cr b0_, ci 5]) rfl rfl ?_
 show Ends _ _ _ _ T35 (mkF m 37 #[cr b0_, ci 5] [(.int 4), (.ref b0_)]) _ _ _
 obtain ⟨cl36, Ar36, q36, S36, M36, H36, G36⟩ := id PV_b0_
 have hin36 := inb_of (j := (4 : Int32)) S36 ⟨by decide, by decide⟩
 refine Ends.go (X35.baloadBytes hx (j := (4 : Int32)) (v := (.int ((c2_ >>> ((0 : Int32) &&& 31)).toInt8.toInt32))) (by rw [e35]; exact Ar36.1) (State.isArrayOf_alike hZ.alike Ar36.2.1) Ar36.2.2 hin36 (H36.at hin36 rfl) (g := (mkF m 37 #[cr b0_, ci 5] [(.int 4), (.ref b0_)])) rfl rfl (hb hby d11_37)) ?_
 refine wsp X35 hx hby d11_38 ?_
 refine wan X35 hx hby d11_41 ?_
 obtain ⟨T37, X37, e37, st37⟩ := getS2 X35 hx hZ hown (host := "") (Or.inl (ow hw 45 rfl)) Via.refl e35 (SHI.ext O0.2) (g := (mkF m 42 #[cr b0_, ci 5] [(.int (((c2_ >>> ((0 : Int32) &&& 31)).toInt8.toInt32) &&& (255 : Int32)))])) rfl (hb hby d11_42)
 refine Ends.go st37 ?_
 refine .go (fun _ => XS.ishl X37.here hx rfl (hb hby d11_45) rfl) ?_
 show Ends _ _ _ _ T37 (mkF m 46 #[cr b0_, ci 5] [(.int ((((c2_ >>> ((0 : Int32) &&& 31)).toInt8.toInt32) &&& (255 : Int32)) <<< ((0 : Int32) &&& 31)))]) _ _ _
 refine walN X37 hx hby d11_46 rfl rfl ?_
 refine wilN X37 hx hby d11_47 rfl ?_
 obtain ⟨cl38, Ar38, q38, S38, M38, H38, G38⟩ := id PV_b0_
 have hin38 := inb_of (j := (5 : Int32)) S38 ⟨by decide, by decide⟩
 refine Ends.go (X37.baloadBytes hx (j := (5 : Int32)) (v := (.int ((c2_ >>> ((8 : Int32) &&& 31)).toInt8.toInt32))) (by rw [e37]; exact Ar38.1) (State.isArrayOf_alike hZ.alike Ar38.2.1) Ar38.2.2 hin38 (H38.at hin38 rfl) (g := (mkF m 48 #[cr b0_, ci 5] [(.int 5), (.ref b0_), (.int ((((c2_ >>> ((0 : Int32) &&& 31)).toInt8.toInt32) &&& (255 : Int32)) <<< ((0 : Int32) &&& 31)))])) rfl rfl (hb hby d11_48)) ?_
 refine wsp X37 hx hby d11_49 ?_
 refine wan X37 hx hby d11_52 ?_
 show Ends _ _ _ _ T37 (mkF m 53 #[cr b0_, ci 5] [(.int (((c2_ >>> ((8 : Int32) &&& 31)).toInt8.toInt32) &&& (255 : Int32))), (.int ((((c2_ >>> ((0 : Int32) &&& 31)).toInt8.toInt32) &&& (255 : Int32)) <<< ((0 : Int32) &&& 31)))]) _ _ _
 obtain ⟨T39, X39, e39, st39⟩ := getS2 X37 hx hZ hown (host := "") (Or.inl (ow hw 46 rfl)) Via.refl e37 (SLO.ext O0.2) (g := (mkF m 53 #[cr b0_, ci 5] [(.int (((c2_ >>> ((8 : Int32) &&& 31)).toInt8.toInt32) &&& (255 : Int32))), (.int ((((c2_ >>> ((0 : Int32) &&& 31)).toInt8.toInt32) &&& (255 : Int32)) <<< ((0 : Int32) &&& 31)))])) rfl (hb hby d11_53)
 refine Ends.go st39 ?_
 refine .go (fun _ => XS.ishl X39.here hx rfl (hb hby d11_56) rfl) ?_
 refine .go (fun _ => XS.ior X39.here hx rfl (hb hby d11_57) rfl) ?_
 refine .go (fun _ => XS.i2c X39.here hx rfl (hb hby d11_58) rfl) ?_
 refine Ends.retZ X39 hx Bd.notSynchronized (t := .char) Bd.returns (by simp) (hb hby d11_59) (by decide) (by decide) ?_
 rw [e39]
 exact ⟨(congrArg (fun z => some (Value.int z)) (own_u16 hc2_)), N0, K0⟩

set_option maxRecDepth 65536 in
set_option maxHeartbeats 40000000 in
theorem rx11_40 (l : Launch) (Z : State) (a0 : Array Value) (hw : ∀ d ∈ tables_1, d.before a0 Z = true) (ws : List Jvm.Cond) (n0 : Nat) (h0 : Heap) (O0 : Old Z n0 h0) (G1 : Int32) (G3 : Value) (GF : GlobF Z G1 G3) (b0_ : Addr) (kb_ : ClassId) (c0_ : Int32) (c1_ : Int32) (c2_ : Int32) (c3_ : Int32) (c4_ : Int32) (c5_ : Int32) (c6_ : Int32) (PV_b0_ : Arv Z h0 b0_ kb_ .byte (14 : Int32) [(.int ((c0_ >>> ((0 : Int32) &&& 31)).toInt8.toInt32)), (.int ((c0_ >>> ((8 : Int32) &&& 31)).toInt8.toInt32)), (.int ((c1_ >>> ((0 : Int32) &&& 31)).toInt8.toInt32)), (.int ((c1_ >>> ((8 : Int32) &&& 31)).toInt8.toInt32)), (.int ((c2_ >>> ((0 : Int32) &&& 31)).toInt8.toInt32)), (.int ((c2_ >>> ((8 : Int32) &&& 31)).toInt8.toInt32)), (.int ((c3_ >>> ((0 : Int32) &&& 31)).toInt8.toInt32)), (.int ((c3_ >>> ((8 : Int32) &&& 31)).toInt8.toInt32)), (.int ((c4_ >>> ((0 : Int32) &&& 31)).toInt8.toInt32)), (.int ((c4_ >>> ((8 : Int32) &&& 31)).toInt8.toInt32)), (.int ((c5_ >>> ((0 : Int32) &&& 31)).toInt8.toInt32)), (.int ((c5_ >>> ((8 : Int32) &&& 31)).toInt8.toInt32)), (.int ((c6_ >>> ((0 : Int32) &&& 31)).toInt8.toInt32)), (.int ((c6_ >>> ((8 : Int32) &&& 31)).toInt8.toInt32))] (.int 0)) (hc3_ : 0 ≤ c3_.toInt ∧ c3_.toInt < 65536) :
  Meets1 l ym7 jdk_52_method_5_code 2 (some .char) ws ({ frames := 0, cells := 0, slots := 0, locals := 0 } : Room) #[(.ref b0_), (.int 3)] Z h0 (fun v h L => v = some (.int c3_) ∧ Fr n0 L ∧ Keep h0 h []) := by
 refine MetFree.of_bodySF (plainFor_of_name pn11) hisR ?_
 intro p e s m args below meth c s₁ Bd hml0 hP hK
 obtain ⟨rfl, hZ, hh⟩ := hP
 have hx := Bd.exec
 have hby := Bd.bytes
 have hml : c.maxLocals = 2 := hml0
 have hown : s.vm.findClass "java/lang/StringUTF16" = some m.cls := findClass_of_methodNamed Bd.named
 have hnm := (name_of_methodNamed Bd.named Bd.method).1
 have X0 : Stand p l e ({ frames := 0, cells := 0, slots := 0, locals := 0 } : Room) s m #[(.ref b0_), (.int 3)] below meth c s₁ [] 0 0 := Stand.of_body Bd
 have e0 : s₁.heap = h0 := by rw [← hh, Bd.state]; rfl
 have N0 := Fr.nil n0
 have Z0 := own_old_le O0
 show Ends _ _ _ _ s₁ (entryFrame m #[(.ref b0_), (.int 3)] 2) ({ frames := 0, cells := 0, slots := 0, locals := 0 } : Room).cells ({ frames := 0, cells := 0, slots := 0, locals := 0 } : Room).slots (fun v h L => v = some (.int c3_) ∧ Fr n0 L ∧ Keep h0 h [])
 refine Ends.go (fun _ k => castTop (ef11_ri m b0_ (3 : Int32)) k) ?_
 obtain ⟨SCS, P5, SAD, SHI, SLO, SSF, RG3⟩ := id GF
 have K0 := Keep.refl h0 []
 show Ends _ _ _ _ s₁ (mkF m 0 #[cr b0_, ci 3] []) _ _ _
 obtain ⟨T41, X41, e41, st41⟩ := getS2 X0 hx hZ hown (host := "") (Or.inl (ow hw 44 rfl)) Via.refl e0 (SAD.ext O0.2) (g := (mkF m 0 #[cr b0_, ci 3] [])) rfl (hb hby d11_0)
 refine Ends.go st41 ?_
 refine wiy (pc := 3) (pc' := 28) X41 hx hby d11_3 ((if0 _ _).trans (feq (by decide : ¬ ((1 : Int32) = (0 : Int32)))).2) (by decide) (by decide) ?_
 refine wilN X41 hx hby d11_28 rfl ?_
 refine wic X41 hx hby d11_29 ?_
 show Ends _ _ _ _ T41 (mkF m 30 #[cr b0_, ci 3] [(.int 1), (.int 3)]) _ _ _
 refine .go (fun _ => XS.ishl X41.here hx rfl (hb hby d11_30) rfl) ?_
 refine wstN X41 hx hby d11_31 (l' := #[cr b0_, ci 6]) rfl ?_
 refine walN X41 hx hby d11_32 rfl rfl ?_
 refine wilN X41 hx hby d11_33 rfl ?_
 refine wii X41 hx hby d11_34 (l' := #[cr b0_, ci 7]) rfl rfl ?_
 show Ends _ _ _ _ T41 (mkF m 37 #[cr b0_, ci 7] [(.int 6), (.ref b0_)]) _ _ _
 obtain ⟨cl42, Ar42, q42, S42, M42, H42, G42⟩ := id PV_b0_
 have hin42 := inb_of (j := (6 : Int32)) S42 ⟨by decide, by decide⟩
 refine Ends.go (X41.baloadBytes hx (j := (6 : Int32)) (v := (.int ((c3_ >>> ((0 : Int32) &&& 31)).toInt8.toInt32))) (by rw [e41]; exact Ar42.1) (State.isArrayOf_alike hZ.alike Ar42.2.1) Ar42.2.2 hin42 (H42.at hin42 rfl) (g := (mkF m 37 #[cr b0_, ci 7] [(.int 6), (.ref b0_)])) rfl rfl (hb hby d11_37)) ?_
 refine wsp X41 hx hby d11_38 ?_
 refine wan X41 hx hby d11_41 ?_
 obtain ⟨T43, X43, e43, st43⟩ := getS2 X41 hx hZ hown (host := "") (Or.inl (ow hw 45 rfl)) Via.refl e41 (SHI.ext O0.2) (g := (mkF m 42 #[cr b0_, ci 7] [(.int (((c3_ >>> ((0 : Int32) &&& 31)).toInt8.toInt32) &&& (255 : Int32)))])) rfl (hb hby d11_42)
 refine Ends.go st43 ?_
 refine .go (fun _ => XS.ishl X43.here hx rfl (hb hby d11_45) rfl) ?_
 show Ends _ _ _ _ T43 (mkF m 46 #[cr b0_, ci 7] [(.int ((((c3_ >>> ((0 : Int32) &&& 31)).toInt8.toInt32) &&& (255 : Int32)) <<< ((0 : Int32) &&& 31)))]) _ _ _
 refine walN X43 hx hby d11_46 rfl rfl ?_
 refine wilN X43 hx hby d11_47 rfl ?_
 obtain ⟨cl44, Ar44, q44, S44, M44, H44, G44⟩ := id PV_b0_
 have hin44 := inb_of (j := (7 : Int32)) S44 ⟨by decide, by decide⟩
 refine Ends.go (X43.baloadBytes hx (j := (7 : Int32)) (v := (.int ((c3_ >>> ((8 : Int32) &&& 31)).toInt8.toInt32))) (by rw [e43]; exact Ar44.1) (State.isArrayOf_alike hZ.alike Ar44.2.1) Ar44.2.2 hin44 (H44.at hin44 rfl) (g := (mkF m 48 #[cr b0_, ci 7] [(.int 7), (.ref b0_), (.int ((((c3_ >>> ((0 : Int32) &&& 31)).toInt8.toInt32) &&& (255 : Int32)) <<< ((0 : Int32) &&& 31)))])) rfl rfl (hb hby d11_48)) ?_
 refine wsp X43 hx hby d11_49 ?_
 refine wan X43 hx hby d11_52 ?_
 show Ends _ _ _ _ T43 (mkF m 53 #[cr b0_, ci 7] [(.int (((c3_ >>> ((8 : Int32) &&& 31)).toInt8.toInt32) &&& (255 : Int32))), (.int ((((c3_ >>> ((0 : Int32) &&& 31)).toInt8.toInt32) &&& (255 : Int32)) <<< ((0 : Int32) &&& 31)))]) _ _ _
 obtain ⟨T45, X45, e45, st45⟩ := getS2 X43 hx hZ hown (host := "") (Or.inl (ow hw 46 rfl)) Via.refl e43 (SLO.ext O0.2) (g := (mkF m 53 #[cr b0_, ci 7] [(.int (((c3_ >>> ((8 : Int32) &&& 31)).toInt8.toInt32) &&& (255 : Int32))), (.int ((((c3_ >>> ((0 : Int32) &&& 31)).toInt8.toInt32) &&& (255 : Int32)) <<< ((0 : Int32) &&& 31)))])) rfl (hb hby d11_53)
 refine Ends.go st45 ?_
 refine .go (fun _ => XS.ishl X45.here hx rfl (hb hby d11_56) rfl) ?_
 refine .go (fun _ => XS.ior X45.here hx rfl (hb hby d11_57) rfl) ?_
 refine .go (fun _ => XS.i2c X45.here hx rfl (hb hby d11_58) rfl) ?_
 refine Ends.retZ X45 hx Bd.notSynchronized (t := .char) Bd.returns (by simp) (hb hby d11_59) (by decide) (by decide) ?_
 rw [e45]
 exact ⟨(congrArg (fun z => some (Value.int z)) (own_u16 hc3_)), N0, K0⟩

set_option maxRecDepth 65536 in
set_option maxHeartbeats 40000000 in
theorem rx11_46 (l : Launch) (Z : State) (a0 : Array Value) (hw : ∀ d ∈ tables_1, d.before a0 Z = true) (ws : List Jvm.Cond) (n0 : Nat) (h0 : Heap) (O0 : Old Z n0 h0) (G1 : Int32) (G3 : Value) (GF : GlobF Z G1 G3) (b0_ : Addr) (kb_ : ClassId) (c0_ : Int32) (c1_ : Int32) (c2_ : Int32) (c3_ : Int32) (c4_ : Int32) (c5_ : Int32) (c6_ : Int32) (PV_b0_ : Arv Z h0 b0_ kb_ .byte (14 : Int32) [(.int ((c0_ >>> ((0 : Int32) &&& 31)).toInt8.toInt32)), (.int ((c0_ >>> ((8 : Int32) &&& 31)).toInt8.toInt32)), (.int ((c1_ >>> ((0 : Int32) &&& 31)).toInt8.toInt32)), (.int ((c1_ >>> ((8 : Int32) &&& 31)).toInt8.toInt32)), (.int ((c2_ >>> ((0 : Int32) &&& 31)).toInt8.toInt32)), (.int ((c2_ >>> ((8 : Int32) &&& 31)).toInt8.toInt32)), (.int ((c3_ >>> ((0 : Int32) &&& 31)).toInt8.toInt32)), (.int ((c3_ >>> ((8 : Int32) &&& 31)).toInt8.toInt32)), (.int ((c4_ >>> ((0 : Int32) &&& 31)).toInt8.toInt32)), (.int ((c4_ >>> ((8 : Int32) &&& 31)).toInt8.toInt32)), (.int ((c5_ >>> ((0 : Int32) &&& 31)).toInt8.toInt32)), (.int ((c5_ >>> ((8 : Int32) &&& 31)).toInt8.toInt32)), (.int ((c6_ >>> ((0 : Int32) &&& 31)).toInt8.toInt32)), (.int ((c6_ >>> ((8 : Int32) &&& 31)).toInt8.toInt32))] (.int 0)) (hc4_ : 0 ≤ c4_.toInt ∧ c4_.toInt < 65536) :
  Meets1 l ym7 jdk_52_method_5_code 2 (some .char) ws ({ frames := 0, cells := 0, slots := 0, locals := 0 } : Room) #[(.ref b0_), (.int 4)] Z h0 (fun v h L => v = some (.int c4_) ∧ Fr n0 L ∧ Keep h0 h []) := by
 refine MetFree.of_bodySF (plainFor_of_name pn11) hisR ?_
 intro p e s m args below meth c s₁ Bd hml0 hP hK
 obtain ⟨rfl, hZ, hh⟩ := hP
 have hx := Bd.exec
 have hby := Bd.bytes
 have hml : c.maxLocals = 2 := hml0
 have hown : s.vm.findClass "java/lang/StringUTF16" = some m.cls := findClass_of_methodNamed Bd.named
 have hnm := (name_of_methodNamed Bd.named Bd.method).1
 have X0 : Stand p l e ({ frames := 0, cells := 0, slots := 0, locals := 0 } : Room) s m #[(.ref b0_), (.int 4)] below meth c s₁ [] 0 0 := Stand.of_body Bd
 have e0 : s₁.heap = h0 := by rw [← hh, Bd.state]; rfl
 have N0 := Fr.nil n0
 have Z0 := own_old_le O0
 show Ends _ _ _ _ s₁ (entryFrame m #[(.ref b0_), (.int 4)] 2) ({ frames := 0, cells := 0, slots := 0, locals := 0 } : Room).cells ({ frames := 0, cells := 0, slots := 0, locals := 0 } : Room).slots (fun v h L => v = some (.int c4_) ∧ Fr n0 L ∧ Keep h0 h [])
 refine Ends.go (fun _ k => castTop (ef11_ri m b0_ (4 : Int32)) k) ?_
 obtain ⟨SCS, P5, SAD, SHI, SLO, SSF, RG3⟩ := id GF
 have K0 := Keep.refl h0 []
 show Ends _ _ _ _ s₁ (mkF m 0 #[cr b0_, ci 4] []) _ _ _
 obtain ⟨T47, X47, e47, st47⟩ := getS2 X0 hx hZ hown (host := "") (Or.inl (ow hw 44 rfl)) Via.refl e0 (SAD.ext O0.2) (g := (mkF m 0 #[cr b0_, ci 4] [])) rfl (hb hby d11_0)
 refine Ends.go st47 ?_
 refine wiy (pc := 3) (pc' := 28) X47 hx hby d11_3 ((if0 _ _).trans (feq (by decide : ¬ ((1 : Int32) = (0 : Int32)))).2) (by decide) (by decide) ?_
 refine wilN X47 hx hby d11_28 rfl ?_
 refine wic X47 hx hby d11_29 ?_
 show Ends _ _ _ _ T47 (mkF m 30 #[cr b0_, ci 4] [(.int 1), (.int 4)]) _ _ _
 refine .go (fun _ => XS.ishl X47.here hx rfl (hb hby d11_30) rfl) ?_
 refine wstN X47 hx hby d11_31 (l' := #[cr b0_, ci 8]) rfl ?_
 refine walN X47 hx hby d11_32 rfl rfl ?_
 refine wilN X47 hx hby d11_33 rfl ?_
 refine wii X47 hx hby d11_34 (l' := #[cr b0_, ci 9]) rfl rfl ?_
 show Ends _ _ _ _ T47 (mkF m 37 #[cr b0_, ci 9] [(.int 8), (.ref b0_)]) _ _ _
 obtain ⟨cl48, Ar48, q48, S48, M48, H48, G48⟩ := id PV_b0_
 have hin48 := inb_of (j := (8 : Int32)) S48 ⟨by decide, by decide⟩
 refine Ends.go (X47.baloadBytes hx (j := (8 : Int32)) (v := (.int ((c4_ >>> ((0 : Int32) &&& 31)).toInt8.toInt32))) (by rw [e47]; exact Ar48.1) (State.isArrayOf_alike hZ.alike Ar48.2.1) Ar48.2.2 hin48 (H48.at hin48 rfl) (g := (mkF m 37 #[cr b0_, ci 9] [(.int 8), (.ref b0_)])) rfl rfl (hb hby d11_37)) ?_
 refine wsp X47 hx hby d11_38 ?_
 refine wan X47 hx hby d11_41 ?_
 obtain ⟨T49, X49, e49, st49⟩ := getS2 X47 hx hZ hown (host := "") (Or.inl (ow hw 45 rfl)) Via.refl e47 (SHI.ext O0.2) (g := (mkF m 42 #[cr b0_, ci 9] [(.int (((c4_ >>> ((0 : Int32) &&& 31)).toInt8.toInt32) &&& (255 : Int32)))])) rfl (hb hby d11_42)
 refine Ends.go st49 ?_
 refine .go (fun _ => XS.ishl X49.here hx rfl (hb hby d11_45) rfl) ?_
 show Ends _ _ _ _ T49 (mkF m 46 #[cr b0_, ci 9] [(.int ((((c4_ >>> ((0 : Int32) &&& 31)).toInt8.toInt32) &&& (255 : Int32)) <<< ((0 : Int32) &&& 31)))]) _ _ _
 refine walN X49 hx hby d11_46 rfl rfl ?_
 refine wilN X49 hx hby d11_47 rfl ?_
 obtain ⟨cl50, Ar50, q50, S50, M50, H50, G50⟩ := id PV_b0_
 have hin50 := inb_of (j := (9 : Int32)) S50 ⟨by decide, by decide⟩
 refine Ends.go (X49.baloadBytes hx (j := (9 : Int32)) (v := (.int ((c4_ >>> ((8 : Int32) &&& 31)).toInt8.toInt32))) (by rw [e49]; exact Ar50.1) (State.isArrayOf_alike hZ.alike Ar50.2.1) Ar50.2.2 hin50 (H50.at hin50 rfl) (g := (mkF m 48 #[cr b0_, ci 9] [(.int 9), (.ref b0_), (.int ((((c4_ >>> ((0 : Int32) &&& 31)).toInt8.toInt32) &&& (255 : Int32)) <<< ((0 : Int32) &&& 31)))])) rfl rfl (hb hby d11_48)) ?_
 refine wsp X49 hx hby d11_49 ?_
 refine wan X49 hx hby d11_52 ?_
 show Ends _ _ _ _ T49 (mkF m 53 #[cr b0_, ci 9] [(.int (((c4_ >>> ((8 : Int32) &&& 31)).toInt8.toInt32) &&& (255 : Int32))), (.int ((((c4_ >>> ((0 : Int32) &&& 31)).toInt8.toInt32) &&& (255 : Int32)) <<< ((0 : Int32) &&& 31)))]) _ _ _
 obtain ⟨T51, X51, e51, st51⟩ := getS2 X49 hx hZ hown (host := "") (Or.inl (ow hw 46 rfl)) Via.refl e49 (SLO.ext O0.2) (g := (mkF m 53 #[cr b0_, ci 9] [(.int (((c4_ >>> ((8 : Int32) &&& 31)).toInt8.toInt32) &&& (255 : Int32))), (.int ((((c4_ >>> ((0 : Int32) &&& 31)).toInt8.toInt32) &&& (255 : Int32)) <<< ((0 : Int32) &&& 31)))])) rfl (hb hby d11_53)
 refine Ends.go st51 ?_
 refine .go (fun _ => XS.ishl X51.here hx rfl (hb hby d11_56) rfl) ?_
 refine .go (fun _ => XS.ior X51.here hx rfl (hb hby d11_57) rfl) ?_
 refine .go (fun _ => XS.i2c X51.here hx rfl (hb hby d11_58) rfl) ?_
 refine Ends.retZ X51 hx Bd.notSynchronized (t := .char) Bd.returns (by simp) (hb hby d11_59) (by decide) (by decide) ?_
 rw [e51]
 exact ⟨(congrArg (fun z => some (Value.int z)) (own_u16 hc4_)), N0, K0⟩

set_option maxRecDepth 65536 in
set_option maxHeartbeats 40000000 in
theorem rx11_52 (l : Launch) (Z : State) (a0 : Array Value) (hw : ∀ d ∈ tables_1, d.before a0 Z = true) (ws : List Jvm.Cond) (n0 : Nat) (h0 : Heap) (O0 : Old Z n0 h0) (G1 : Int32) (G3 : Value) (GF : GlobF Z G1 G3) (b0_ : Addr) (kb_ : ClassId) (c0_ : Int32) (c1_ : Int32) (c2_ : Int32) (c3_ : Int32) (c4_ : Int32) (c5_ : Int32) (c6_ : Int32) (PV_b0_ : Arv Z h0 b0_ kb_ .byte (14 : Int32) [(.int ((c0_ >>> ((0 : Int32) &&& 31)).toInt8.toInt32)), (.int ((c0_ >>> ((8 : Int32) &&& 31)).toInt8.toInt32)), (.int ((c1_ >>> ((0 : Int32) &&& 31)).toInt8.toInt32)), (.int ((c1_ >>> ((8 : Int32) &&& 31)).toInt8.toInt32)), (.int ((c2_ >>> ((0 : Int32) &&& 31)).toInt8.toInt32)), (.int ((c2_ >>> ((8 : Int32) &&& 31)).toInt8.toInt32)), (.int ((c3_ >>> ((0 : Int32) &&& 31)).toInt8.toInt32)), (.int ((c3_ >>> ((8 : Int32) &&& 31)).toInt8.toInt32)), (.int ((c4_ >>> ((0 : Int32) &&& 31)).toInt8.toInt32)), (.int ((c4_ >>> ((8 : Int32) &&& 31)).toInt8.toInt32)), (.int ((c5_ >>> ((0 : Int32) &&& 31)).toInt8.toInt32)), (.int ((c5_ >>> ((8 : Int32) &&& 31)).toInt8.toInt32)), (.int ((c6_ >>> ((0 : Int32) &&& 31)).toInt8.toInt32)), (.int ((c6_ >>> ((8 : Int32) &&& 31)).toInt8.toInt32))] (.int 0)) (hc5_ : 0 ≤ c5_.toInt ∧ c5_.toInt < 65536) :
  Meets1 l ym7 jdk_52_method_5_code 2 (some .char) ws ({ frames := 0, cells := 0, slots := 0, locals := 0 } : Room) #[(.ref b0_), (.int 5)] Z h0 (fun v h L => v = some (.int c5_) ∧ Fr n0 L ∧ Keep h0 h []) := by
 refine MetFree.of_bodySF (plainFor_of_name pn11) hisR ?_
 intro p e s m args below meth c s₁ Bd hml0 hP hK
 obtain ⟨rfl, hZ, hh⟩ := hP
 have hx := Bd.exec
 have hby := Bd.bytes
 have hml : c.maxLocals = 2 := hml0
 have hown : s.vm.findClass "java/lang/StringUTF16" = some m.cls := findClass_of_methodNamed Bd.named
 have hnm := (name_of_methodNamed Bd.named Bd.method).1
 have X0 : Stand p l e ({ frames := 0, cells := 0, slots := 0, locals := 0 } : Room) s m #[(.ref b0_), (.int 5)] below meth c s₁ [] 0 0 := Stand.of_body Bd
 have e0 : s₁.heap = h0 := by rw [← hh, Bd.state]; rfl
 have N0 := Fr.nil n0
 have Z0 := own_old_le O0
 show Ends _ _ _ _ s₁ (entryFrame m #[(.ref b0_), (.int 5)] 2) ({ frames := 0, cells := 0, slots := 0, locals := 0 } : Room).cells ({ frames := 0, cells := 0, slots := 0, locals := 0 } : Room).slots (fun v h L => v = some (.int c5_) ∧ Fr n0 L ∧ Keep h0 h [])
 refine Ends.go (fun _ k => castTop (ef11_ri m b0_ (5 : Int32)) k) ?_
 obtain ⟨SCS, P5, SAD, SHI, SLO, SSF, RG3⟩ := id GF
 have K0 := Keep.refl h0 []
 show Ends _ _ _ _ s₁ (mkF m 0 #[cr b0_, ci 5] []) _ _ _
 obtain ⟨T53, X53, e53, st53⟩ := getS2 X0 hx hZ hown (host := "") (Or.inl (ow hw 44 rfl)) Via.refl e0 (SAD.ext O0.2) (g := (mkF m 0 #[cr b0_, ci 5] [])) rfl (hb hby d11_0)
 refine Ends.go st53 ?_
 refine wiy (pc := 3) (pc' := 28) X53 hx hby d11_3 ((if0 _ _).trans (feq (by decide : ¬ ((1 : Int32) = (0 : Int32)))).2) (by decide) (by decide) ?_
 refine wilN X53 hx hby d11_28 rfl ?_
 refine wic X53 hx hby d11_29 ?_
 show Ends _ _ _ _ T53 (mkF m 30 #[cr b0_, ci 5] [(.int 1), (.int 5)]) _ _ _
 refine .go (fun _ => XS.ishl X53.here hx rfl (hb hby d11_30) rfl) ?_
 refine wstN X53 hx hby d11_31 (l' := #[cr b0_, ci 10]) rfl ?_
 refine walN X53 hx hby d11_32 rfl rfl ?_
 refine wilN X53 hx hby d11_33 rfl ?_
 refine wii X53 hx hby d11_34 (l' := #[cr b0_, ci 11]) rfl rfl ?_
 show Ends _ _ _ _ T53 (mkF m 37 #[cr b0_, ci 11] [(.int 10), (.ref b0_)]) _ _ _
 obtain ⟨cl54, Ar54, q54, S54, M54, H54, G54⟩ := id PV_b0_
 have hin54 := inb_of (j := (10 : Int32)) S54 ⟨by decide, by decide⟩
 refine Ends.go (X53.baloadBytes hx (j := (10 : Int32)) (v := (.int ((c5_ >>> ((0 : Int32) &&& 31)).toInt8.toInt32))) (by rw [e53]; exact Ar54.1) (State.isArrayOf_alike hZ.alike Ar54.2.1) Ar54.2.2 hin54 (H54.at hin54 rfl) (g := (mkF m 37 #[cr b0_, ci 11] [(.int 10), (.ref b0_)])) rfl rfl (hb hby d11_37)) ?_
 refine wsp X53 hx hby d11_38 ?_
 refine wan X53 hx hby d11_41 ?_
 obtain ⟨T55, X55, e55, st55⟩ := getS2 X53 hx hZ hown (host := "") (Or.inl (ow hw 45 rfl)) Via.refl e53 (SHI.ext O0.2) (g := (mkF m 42 #[cr b0_, ci 11] [(.int (((c5_ >>> ((0 : Int32) &&& 31)).toInt8.toInt32) &&& (255 : Int32)))])) rfl (hb hby d11_42)
 refine Ends.go st55 ?_
 refine .go (fun _ => XS.ishl X55.here hx rfl (hb hby d11_45) rfl) ?_
 show Ends _ _ _ _ T55 (mkF m 46 #[cr b0_, ci 11] [(.int ((((c5_ >>> ((0 : Int32) &&& 31)).toInt8.toInt32) &&& (255 : Int32)) <<< ((0 : Int32) &&& 31)))]) _ _ _
 refine walN X55 hx hby d11_46 rfl rfl ?_
 refine wilN X55 hx hby d11_47 rfl ?_
 obtain ⟨cl56, Ar56, q56, S56, M56, H56, G56⟩ := id PV_b0_
 have hin56 := inb_of (j := (11 : Int32)) S56 ⟨by decide, by decide⟩
 refine Ends.go (X55.baloadBytes hx (j := (11 : Int32)) (v := (.int ((c5_ >>> ((8 : Int32) &&& 31)).toInt8.toInt32))) (by rw [e55]; exact Ar56.1) (State.isArrayOf_alike hZ.alike Ar56.2.1) Ar56.2.2 hin56 (H56.at hin56 rfl) (g := (mkF m 48 #[cr b0_, ci 11] [(.int 11), (.ref b0_), (.int ((((c5_ >>> ((0 : Int32) &&& 31)).toInt8.toInt32) &&& (255 : Int32)) <<< ((0 : Int32) &&& 31)))])) rfl rfl (hb hby d11_48)) ?_
 refine wsp X55 hx hby d11_49 ?_
 refine wan X55 hx hby d11_52 ?_
 show Ends _ _ _ _ T55 (mkF m 53 #[cr b0_, ci 11] [(.int (((c5_ >>> ((8 : Int32) &&& 31)).toInt8.toInt32) &&& (255 : Int32))), (.int ((((c5_ >>> ((0 : Int32) &&& 31)).toInt8.toInt32) &&& (255 : Int32)) <<< ((0 : Int32) &&& 31)))]) _ _ _
 obtain ⟨T57, X57, e57, st57⟩ := getS2 X55 hx hZ hown (host := "") (Or.inl (ow hw 46 rfl)) Via.refl e55 (SLO.ext O0.2) (g := (mkF m 53 #[cr b0_, ci 11] [(.int (((c5_ >>> ((8 : Int32) &&& 31)).toInt8.toInt32) &&& (255 : Int32))), (.int ((((c5_ >>> ((0 : Int32) &&& 31)).toInt8.toInt32) &&& (255 : Int32)) <<< ((0 : Int32) &&& 31)))])) rfl (hb hby d11_53)
 refine Ends.go st57 ?_
 refine .go (fun _ => XS.ishl X57.here hx rfl (hb hby d11_56) rfl) ?_
 refine .go (fun _ => XS.ior X57.here hx rfl (hb hby d11_57) rfl) ?_
 refine .go (fun _ => XS.i2c X57.here hx rfl (hb hby d11_58) rfl) ?_
 refine Ends.retZ X57 hx Bd.notSynchronized (t := .char) Bd.returns (by simp) (hb hby d11_59) (by decide) (by decide) ?_
 rw [e57]
 exact ⟨(congrArg (fun z => some (Value.int z)) (own_u16 hc5_)), N0, K0⟩

set_option maxRecDepth 65536 in
set_option maxHeartbeats 40000000 in
theorem rx11_58 (l : Launch) (Z : State) (a0 : Array Value) (hw : ∀ d ∈ tables_1, d.before a0 Z = true) (ws : List Jvm.Cond) (n0 : Nat) (h0 : Heap) (O0 : Old Z n0 h0) (G1 : Int32) (G3 : Value) (GF : GlobF Z G1 G3) (b0_ : Addr) (kb_ : ClassId) (c0_ : Int32) (c1_ : Int32) (c2_ : Int32) (c3_ : Int32) (c4_ : Int32) (c5_ : Int32) (c6_ : Int32) (PV_b0_ : Arv Z h0 b0_ kb_ .byte (14 : Int32) [(.int ((c0_ >>> ((0 : Int32) &&& 31)).toInt8.toInt32)), (.int ((c0_ >>> ((8 : Int32) &&& 31)).toInt8.toInt32)), (.int ((c1_ >>> ((0 : Int32) &&& 31)).toInt8.toInt32)), (.int ((c1_ >>> ((8 : Int32) &&& 31)).toInt8.toInt32)), (.int ((c2_ >>> ((0 : Int32) &&& 31)).toInt8.toInt32)), (.int ((c2_ >>> ((8 : Int32) &&& 31)).toInt8.toInt32)), (.int ((c3_ >>> ((0 : Int32) &&& 31)).toInt8.toInt32)), (.int ((c3_ >>> ((8 : Int32) &&& 31)).toInt8.toInt32)), (.int ((c4_ >>> ((0 : Int32) &&& 31)).toInt8.toInt32)), (.int ((c4_ >>> ((8 : Int32) &&& 31)).toInt8.toInt32)), (.int ((c5_ >>> ((0 : Int32) &&& 31)).toInt8.toInt32)), (.int ((c5_ >>> ((8 : Int32) &&& 31)).toInt8.toInt32)), (.int ((c6_ >>> ((0 : Int32) &&& 31)).toInt8.toInt32)), (.int ((c6_ >>> ((8 : Int32) &&& 31)).toInt8.toInt32))] (.int 0)) (hc6_ : 0 ≤ c6_.toInt ∧ c6_.toInt < 65536) :
  Meets1 l ym7 jdk_52_method_5_code 2 (some .char) ws ({ frames := 0, cells := 0, slots := 0, locals := 0 } : Room) #[(.ref b0_), (.int 6)] Z h0 (fun v h L => v = some (.int c6_) ∧ Fr n0 L ∧ Keep h0 h []) := by
 refine MetFree.of_bodySF (plainFor_of_name pn11) hisR ?_
 intro p e s m args below meth c s₁ Bd hml0 hP hK
 obtain ⟨rfl, hZ, hh⟩ := hP
 have hx := Bd.exec
 have hby := Bd.bytes
 have hml : c.maxLocals = 2 := hml0
 have hown : s.vm.findClass "java/lang/StringUTF16" = some m.cls := findClass_of_methodNamed Bd.named
 have hnm := (name_of_methodNamed Bd.named Bd.method).1
 have X0 : Stand p l e ({ frames := 0, cells := 0, slots := 0, locals := 0 } : Room) s m #[(.ref b0_), (.int 6)] below meth c s₁ [] 0 0 := Stand.of_body Bd
 have e0 : s₁.heap = h0 := by rw [← hh, Bd.state]; rfl
 have N0 := Fr.nil n0
 have Z0 := own_old_le O0
 show Ends _ _ _ _ s₁ (entryFrame m #[(.ref b0_), (.int 6)] 2) ({ frames := 0, cells := 0, slots := 0, locals := 0 } : Room).cells ({ frames := 0, cells := 0, slots := 0, locals := 0 } : Room).slots (fun v h L => v = some (.int c6_) ∧ Fr n0 L ∧ Keep h0 h [])
 refine Ends.go (fun _ k => castTop (ef11_ri m b0_ (6 : Int32)) k) ?_
 obtain ⟨SCS, P5, SAD, SHI, SLO, SSF, RG3⟩ := id GF
 have K0 := Keep.refl h0 []
 show Ends _ _ _ _ s₁ (mkF m 0 #[cr b0_, ci 6] []) _ _ _
 obtain ⟨T59, X59, e59, st59⟩ := getS2 X0 hx hZ hown (host := "") (Or.inl (ow hw 44 rfl)) Via.refl e0 (SAD.ext O0.2) (g := (mkF m 0 #[cr b0_, ci 6] [])) rfl (hb hby d11_0)
 refine Ends.go st59 ?_
 refine wiy (pc := 3) (pc' := 28) X59 hx hby d11_3 ((if0 _ _).trans (feq (by decide : ¬ ((1 : Int32) = (0 : Int32)))).2) (by decide) (by decide) ?_
 refine wilN X59 hx hby d11_28 rfl ?_
 refine wic X59 hx hby d11_29 ?_
 show Ends _ _ _ _ T59 (mkF m 30 #[cr b0_, ci 6] [(.int 1), (.int 6)]) _ _ _
 refine .go (fun _ => XS.ishl X59.here hx rfl (hb hby d11_30) rfl) ?_
 refine wstN X59 hx hby d11_31 (l' := #[cr b0_, ci 12]) rfl ?_
 refine walN X59 hx hby d11_32 rfl rfl ?_
 refine wilN X59 hx hby d11_33 rfl ?_
 refine wii X59 hx hby d11_34 (l' := #[cr b0_, ci 13]) rfl rfl ?_
 show Ends _ _ _ _ T59 (mkF m 37 #[cr b0_, ci 13] [(.int 12), (.ref b0_)]) _ _ _
 obtain ⟨cl60, Ar60, q60, S60, M60, H60, G60⟩ := id PV_b0_
 have hin60 := inb_of (j := (12 : Int32)) S60 ⟨by decide, by decide⟩
 refine Ends.go (X59.baloadBytes hx (j := (12 : Int32)) (v := (.int ((c6_ >>> ((0 : Int32) &&& 31)).toInt8.toInt32))) (by rw [e59]; exact Ar60.1) (State.isArrayOf_alike hZ.alike Ar60.2.1) Ar60.2.2 hin60 (H60.at hin60 rfl) (g := (mkF m 37 #[cr b0_, ci 13] [(.int 12), (.ref b0_)])) rfl rfl (hb hby d11_37)) ?_
 refine wsp X59 hx hby d11_38 ?_
 refine wan X59 hx hby d11_41 ?_
 obtain ⟨T61, X61, e61, st61⟩ := getS2 X59 hx hZ hown (host := "") (Or.inl (ow hw 45 rfl)) Via.refl e59 (SHI.ext O0.2) (g := (mkF m 42 #[cr b0_, ci 13] [(.int (((c6_ >>> ((0 : Int32) &&& 31)).toInt8.toInt32) &&& (255 : Int32)))])) rfl (hb hby d11_42)
 refine Ends.go st61 ?_
 refine .go (fun _ => XS.ishl X61.here hx rfl (hb hby d11_45) rfl) ?_
 show Ends _ _ _ _ T61 (mkF m 46 #[cr b0_, ci 13] [(.int ((((c6_ >>> ((0 : Int32) &&& 31)).toInt8.toInt32) &&& (255 : Int32)) <<< ((0 : Int32) &&& 31)))]) _ _ _
 refine walN X61 hx hby d11_46 rfl rfl ?_
 refine wilN X61 hx hby d11_47 rfl ?_
 obtain ⟨cl62, Ar62, q62, S62, M62, H62, G62⟩ := id PV_b0_
 have hin62 := inb_of (j := (13 : Int32)) S62 ⟨by decide, by decide⟩
 refine Ends.go (X61.baloadBytes hx (j := (13 : Int32)) (v := (.int ((c6_ >>> ((8 : Int32) &&& 31)).toInt8.toInt32))) (by rw [e61]; exact Ar62.1) (State.isArrayOf_alike hZ.alike Ar62.2.1) Ar62.2.2 hin62 (H62.at hin62 rfl) (g := (mkF m 48 #[cr b0_, ci 13] [(.int 13), (.ref b0_), (.int ((((c6_ >>> ((0 : Int32) &&& 31)).toInt8.toInt32) &&& (255 : Int32)) <<< ((0 : Int32) &&& 31)))])) rfl rfl (hb hby d11_48)) ?_
 refine wsp X61 hx hby d11_49 ?_
 refine wan X61 hx hby d11_52 ?_
 show Ends _ _ _ _ T61 (mkF m 53 #[cr b0_, ci 13] [(.int (((c6_ >>> ((8 : Int32) &&& 31)).toInt8.toInt32) &&& (255 : Int32))), (.int ((((c6_ >>> ((0 : Int32) &&& 31)).toInt8.toInt32) &&& (255 : Int32)) <<< ((0 : Int32) &&& 31)))]) _ _ _
 obtain ⟨T63, X63, e63, st63⟩ := getS2 X61 hx hZ hown (host := "") (Or.inl (ow hw 46 rfl)) Via.refl e61 (SLO.ext O0.2) (g := (mkF m 53 #[cr b0_, ci 13] [(.int (((c6_ >>> ((8 : Int32) &&& 31)).toInt8.toInt32) &&& (255 : Int32))), (.int ((((c6_ >>> ((0 : Int32) &&& 31)).toInt8.toInt32) &&& (255 : Int32)) <<< ((0 : Int32) &&& 31)))])) rfl (hb hby d11_53)
 refine Ends.go st63 ?_
 refine .go (fun _ => XS.ishl X63.here hx rfl (hb hby d11_56) rfl) ?_
 refine .go (fun _ => XS.ior X63.here hx rfl (hb hby d11_57) rfl) ?_
 refine .go (fun _ => XS.i2c X63.here hx rfl (hb hby d11_58) rfl) ?_
 refine Ends.retZ X63 hx Bd.notSynchronized (t := .char) Bd.returns (by simp) (hb hby d11_59) (by decide) (by decide) ?_
 rw [e63]
 exact ⟨(congrArg (fun z => some (Value.int z)) (own_u16 hc6_)), N0, K0⟩

theorem rmG (l : Launch) (Z : State) (a0 : Array Value) (hw : ∀ d ∈ tables_1, d.before a0 Z = true) (ws : List Jvm.Cond) (n0 : Nat) (h0 : Heap) (O0 : Old Z n0 h0) (G1 : Int32) (G3 : Value) (GF : GlobF Z G1 G3) (b0_ : Addr) (kb_ : ClassId) (c0_ c1_ c2_ c3_ c4_ c5_ c6_ ix_ : Int32) (Vb : Arv Z h0 b0_ kb_ .byte (14 : Int32) [(.int ((c0_ >>> ((0 : Int32) &&& 31)).toInt8.toInt32)), (.int ((c0_ >>> ((8 : Int32) &&& 31)).toInt8.toInt32)), (.int ((c1_ >>> ((0 : Int32) &&& 31)).toInt8.toInt32)), (.int ((c1_ >>> ((8 : Int32) &&& 31)).toInt8.toInt32)), (.int ((c2_ >>> ((0 : Int32) &&& 31)).toInt8.toInt32)), (.int ((c2_ >>> ((8 : Int32) &&& 31)).toInt8.toInt32)), (.int ((c3_ >>> ((0 : Int32) &&& 31)).toInt8.toInt32)), (.int ((c3_ >>> ((8 : Int32) &&& 31)).toInt8.toInt32)), (.int ((c4_ >>> ((0 : Int32) &&& 31)).toInt8.toInt32)), (.int ((c4_ >>> ((8 : Int32) &&& 31)).toInt8.toInt32)), (.int ((c5_ >>> ((0 : Int32) &&& 31)).toInt8.toInt32)), (.int ((c5_ >>> ((8 : Int32) &&& 31)).toInt8.toInt32)), (.int ((c6_ >>> ((0 : Int32) &&& 31)).toInt8.toInt32)), (.int ((c6_ >>> ((8 : Int32) &&& 31)).toInt8.toInt32))] (.int 0)) (hc0_ : 0 ≤ c0_.toInt ∧ c0_.toInt < 65536) (hc1_ : 0 ≤ c1_.toInt ∧ c1_.toInt < 65536) (hc2_ : 0 ≤ c2_.toInt ∧ c2_.toInt < 65536) (hc3_ : 0 ≤ c3_.toInt ∧ c3_.toInt < 65536) (hc4_ : 0 ≤ c4_.toInt ∧ c4_.toInt < 65536) (hc5_ : 0 ≤ c5_.toInt ∧ c5_.toInt < 65536) (hc6_ : 0 ≤ c6_.toInt ∧ c6_.toInt < 65536) (hin : own_in7 ix_) :
  Meets1 l ym7 jdk_52_method_5_code 2 (some .char) ws ({ frames := 0, cells := 0, slots := 0, locals := 0 } : Room) #[(.ref b0_), (.int ix_)] Z h0 (fun v h L => v = some (.int (own_sel c0_ c1_ c2_ c3_ c4_ c5_ c6_ ix_)) ∧ Fr n0 L ∧ Keep h0 h []) := by
 rcases hin with rfl | rfl | rfl | rfl | rfl | rfl | rfl
 ·exact rx11_22 l Z a0 hw ws n0 h0 O0 G1 G3 GF b0_ kb_ c0_ c1_ c2_ c3_ c4_ c5_ c6_ Vb hc0_
 ·exact rx11_28 l Z a0 hw ws n0 h0 O0 G1 G3 GF b0_ kb_ c0_ c1_ c2_ c3_ c4_ c5_ c6_ Vb hc1_
 ·exact rx11_34 l Z a0 hw ws n0 h0 O0 G1 G3 GF b0_ kb_ c0_ c1_ c2_ c3_ c4_ c5_ c6_ Vb hc2_
 ·exact rx11_40 l Z a0 hw ws n0 h0 O0 G1 G3 GF b0_ kb_ c0_ c1_ c2_ c3_ c4_ c5_ c6_ Vb hc3_
 ·exact rx11_46 l Z a0 hw ws n0 h0 O0 G1 G3 GF b0_ kb_ c0_ c1_ c2_ c3_ c4_ c5_ c6_ Vb hc4_
 ·exact rx11_52 l Z a0 hw ws n0 h0 O0 G1 G3 GF b0_ kb_ c0_ c1_ c2_ c3_ c4_ c5_ c6_ Vb hc5_
 ·exact rx11_58 l Z a0 hw ws n0 h0 O0 G1 G3 GF b0_ kb_ c0_ c1_ c2_ c3_ c4_ c5_ c6_ Vb hc6_

theorem d29_0 : decode prog_85_method_19_code 0 = .ok (.aload_n 0, 1) := by decide +kernel
theorem d29_1 : decode prog_85_method_19_code 1 = .ok (.getfield 48, 3) := by decide +kernel
theorem d29_4 : decode prog_85_method_19_code 4 = .ok (.aload_n 0, 1) := by decide +kernel
theorem d29_5 : decode prog_85_method_19_code 5 = .ok (.getfield 37, 3) := by decide +kernel
theorem d29_8 : decode prog_85_method_19_code 8 = .ok (.iadd, 1) := by decide +kernel
theorem d29_9 : decode prog_85_method_19_code 9 = .ok (.i2l, 1) := by decide +kernel
theorem d29_10 : decode prog_85_method_19_code 10 = .ok (.lreturn, 1) := by decide +kernel
theorem pn29 : plainName "com/example/ratatoskr/ratatoskr/core/internal/StringInput" = true := by first | (simp [plainName, overriddenIn]; done) | decide +kernel
theorem pdx_0 : parseMethodDescriptor "(IIJIJ)C" = some ⟨[.int, .int, .long, .int, .long], some .char⟩ := by decide +kernel
theorem pdx_1 : parseMethodDescriptor "(JI)Z" = some ⟨[.long, .int], some .boolean⟩ := by decide +kernel
theorem ef29_r (m : MethodId) (x0 : Addr) : entryFrame m #[(.ref x0)] 1 = mkF m 0 #[.val (.ref x0)] [] := by first | (simp [entryFrame, mkF, argsToLocals, Value.category]; done) | rfl
set_option maxRecDepth 65536 in
set_option maxHeartbeats 40000000 in
theorem rx29_177 (l : Launch) (Z : State) (a0 : Array Value) (hw : ∀ d ∈ tables_1, d.before a0 Z = true) (ws : List Jvm.Cond) (n0 : Nat) (h0 : Heap) (O0 : Old Z n0 h0)  (si_ : Addr) (at_ : Int32) (len_ : Int32) (PF_si__base : Fld Z h0 si_ cSI "base" "I" (.int 0)) (PF_si__position : Fld Z h0 si_ cSI "position" "I" (.int (at_ + len_))) :
  Meets1 l ym8 prog_85_method_19_code 1 (some .long) ws ({ frames := 0, cells := 0, slots := 0, locals := 0 } : Room) #[(.ref si_)] Z h0 (fun v h L => v = some (.long (((0 : Int32) + (at_ + len_)).toInt64)) ∧ Fr n0 L ∧ Keep h0 h []) := by
 refine MetFree.of_bodySF (plainFor_of_name pn29) hisR ?_
 intro p e s m args below meth c s₁ Bd hml0 hP hK
 obtain ⟨rfl, hZ, hh⟩ := hP
 have hx := Bd.exec
 have hby := Bd.bytes
 have hml : c.maxLocals = 1 := hml0
 have hown : s.vm.findClass "com/example/ratatoskr/ratatoskr/core/internal/StringInput" = some m.cls := findClass_of_methodNamed Bd.named
 have hnm := (name_of_methodNamed Bd.named Bd.method).1
 have X0 : Stand p l e ({ frames := 0, cells := 0, slots := 0, locals := 0 } : Room) s m #[(.ref si_)] below meth c s₁ [] 0 0 := Stand.of_body Bd
 have e0 : s₁.heap = h0 := by rw [← hh, Bd.state]; rfl
 have N0 := Fr.nil n0
 have Z0 := own_old_le O0
 show Ends _ _ _ _ s₁ (entryFrame m #[(.ref si_)] 1) ({ frames := 0, cells := 0, slots := 0, locals := 0 } : Room).cells ({ frames := 0, cells := 0, slots := 0, locals := 0 } : Room).slots (fun v h L => v = some (.long (((0 : Int32) + (at_ + len_)).toInt64)) ∧ Fr n0 L ∧ Keep h0 h [])
 refine Ends.go (fun _ k => castTop (ef29_r m si_) k) ?_
 have K0 := Keep.refl h0 []
 show Ends _ _ _ _ s₁ (mkF m 0 #[cr si_] []) _ _ _
 refine walN X0 hx hby d29_0 rfl rfl ?_
 obtain ⟨T178, X178, e178, st178⟩ := getF X0 hx hZ hown (host := "") (Or.inl (ow hw 139 rfl)) Via.refl e0 PF_si__base (g := (mkF m 1 #[cr si_] [(.ref si_)])) rfl rfl (hb hby d29_1)
 refine Ends.go st178 ?_
 refine walN X178 hx hby d29_4 rfl rfl ?_
 obtain ⟨T179, X179, e179, st179⟩ := getF X178 hx hZ hown (host := "") (Or.inl (ow hw 126 rfl)) Via.refl e178 PF_si__position (g := (mkF m 5 #[cr si_] [(.ref si_), (.int 0)])) rfl rfl (hb hby d29_5)
 refine Ends.go st179 ?_
 show Ends _ _ _ _ T179 (mkF m 8 #[cr si_] [(.int (at_ + len_)), (.int 0)]) _ _ _
 refine wia X179 hx hby d29_8 ?_
 refine .go (fun _ => XS.i2l X179.here hx rfl (hb hby d29_9) rfl) ?_
 refine Ends.ret X179 hx Bd.notSynchronized (t := .long) Bd.returns rfl (Or.inr (Or.inl ⟨rfl, rfl, _, rfl⟩)) (hb hby d29_10) (by decide) (by decide) ?_
 rw [e179]
 exact ⟨rfl, N0, K0⟩

theorem pdx_2 : parseMethodDescriptor "()J" = some ⟨[], some .long⟩ := by decide +kernel
set_option maxRecDepth 65536 in
set_option maxHeartbeats 40000000 in
theorem rx29_181 (l : Launch) (Z : State) (a0 : Array Value) (hw : ∀ d ∈ tables_1, d.before a0 Z = true) (ws : List Jvm.Cond) (n0 : Nat) (h0 : Heap) (O0 : Old Z n0 h0)  (si_ : Addr) (at_ : Int32) (PF_si__base : Fld Z h0 si_ cSI "base" "I" (.int 0)) (PF_si__position : Fld Z h0 si_ cSI "position" "I" (.int at_)) :
  Meets1 l ym8 prog_85_method_19_code 1 (some .long) ws ({ frames := 0, cells := 0, slots := 0, locals := 0 } : Room) #[(.ref si_)] Z h0 (fun v h L => v = some (.long (((0 : Int32) + at_).toInt64)) ∧ Fr n0 L ∧ Keep h0 h []) := by
 refine MetFree.of_bodySF (plainFor_of_name pn29) hisR ?_
 intro p e s m args below meth c s₁ Bd hml0 hP hK
 obtain ⟨rfl, hZ, hh⟩ := hP
 have hx := Bd.exec
 have hby := Bd.bytes
 have hml : c.maxLocals = 1 := hml0
 have hown : s.vm.findClass "com/example/ratatoskr/ratatoskr/core/internal/StringInput" = some m.cls := findClass_of_methodNamed Bd.named
 have hnm := (name_of_methodNamed Bd.named Bd.method).1
 have X0 : Stand p l e ({ frames := 0, cells := 0, slots := 0, locals := 0 } : Room) s m #[(.ref si_)] below meth c s₁ [] 0 0 := Stand.of_body Bd
 have e0 : s₁.heap = h0 := by rw [← hh, Bd.state]; rfl
 have N0 := Fr.nil n0
 have Z0 := own_old_le O0
 show Ends _ _ _ _ s₁ (entryFrame m #[(.ref si_)] 1) ({ frames := 0, cells := 0, slots := 0, locals := 0 } : Room).cells ({ frames := 0, cells := 0, slots := 0, locals := 0 } : Room).slots (fun v h L => v = some (.long (((0 : Int32) + at_).toInt64)) ∧ Fr n0 L ∧ Keep h0 h [])
 refine Ends.go (fun _ k => castTop (ef29_r m si_) k) ?_
 have K0 := Keep.refl h0 []
 show Ends _ _ _ _ s₁ (mkF m 0 #[cr si_] []) _ _ _
 refine walN X0 hx hby d29_0 rfl rfl ?_
 obtain ⟨T182, X182, e182, st182⟩ := getF X0 hx hZ hown (host := "") (Or.inl (ow hw 139 rfl)) Via.refl e0 PF_si__base (g := (mkF m 1 #[cr si_] [(.ref si_)])) rfl rfl (hb hby d29_1)
 refine Ends.go st182 ?_
 refine walN X182 hx hby d29_4 rfl rfl ?_
 obtain ⟨T183, X183, e183, st183⟩ := getF X182 hx hZ hown (host := "") (Or.inl (ow hw 126 rfl)) Via.refl e182 PF_si__position (g := (mkF m 5 #[cr si_] [(.ref si_), (.int 0)])) rfl rfl (hb hby d29_5)
 refine Ends.go st183 ?_
 show Ends _ _ _ _ T183 (mkF m 8 #[cr si_] [(.int at_), (.int 0)]) _ _ _
 refine wia X183 hx hby d29_8 ?_
 refine .go (fun _ => XS.i2l X183.here hx rfl (hb hby d29_9) rfl) ?_
 refine Ends.ret X183 hx Bd.notSynchronized (t := .long) Bd.returns rfl (Or.inr (Or.inl ⟨rfl, rfl, _, rfl⟩)) (hb hby d29_10) (by decide) (by decide) ?_
 rw [e183]
 exact ⟨rfl, N0, K0⟩

theorem d27_0 : decode prog_85_method_3_code 0 = .ok (.aload_n 0, 1) := by decide +kernel
theorem d27_1 : decode prog_85_method_3_code 1 = .ok (.dup, 1) := by decide +kernel
theorem d27_2 : decode prog_85_method_3_code 2 = .ok (.getfield 37, 3) := by decide +kernel
theorem d27_5 : decode prog_85_method_3_code 5 = .ok (.iconst 1, 1) := by decide +kernel
theorem d27_6 : decode prog_85_method_3_code 6 = .ok (.iadd, 1) := by decide +kernel
theorem d27_7 : decode prog_85_method_3_code 7 = .ok (.putfield 37, 3) := by decide +kernel
theorem d27_10 : decode prog_85_method_3_code 10 = .ok (.return_, 1) := by decide +kernel
theorem pn27 : plainName "com/example/ratatoskr/ratatoskr/core/internal/StringInput" = true := by first | (simp [plainName, overriddenIn]; done) | decide +kernel
theorem ef27_r (m : MethodId) (x0 : Addr) : entryFrame m #[(.ref x0)] 1 = mkF m 0 #[.val (.ref x0)] [] := by first | (simp [entryFrame, mkF, argsToLocals, Value.category]; done) | rfl
set_option maxRecDepth 65536 in
set_option maxHeartbeats 40000000 in
theorem rx27_186 (l : Launch) (Z : State) (a0 : Array Value) (hw : ∀ d ∈ tables_1, d.before a0 Z = true) (ws : List Jvm.Cond) (n0 : Nat) (h0 : Heap) (O0 : Old Z n0 h0)  (si_ : Addr) (xa_ : Addr) (PF_si__position : Fld Z h0 si_ cSI "position" "I" (.int 0)) (PE_si_ : Exa Z h0 si_ cSI) (PF_si__limit : Fld Z h0 si_ cSI "limit" "I" (.int 7)) (PF_si__base : Fld Z h0 si_ cSI "base" "I" (.int 0)) (PF_si__chars : Fld Z h0 si_ cSI "chars" "[C" (.ref xa_)) (g_si_ : n0 ≤ si_) :
  Meets1 l ym9 prog_85_method_3_code 1 none ws ({ frames := 0, cells := 0, slots := 0, locals := 0 } : Room) #[(.ref si_)] Z h0 (fun v h L => v = none ∧ Fr n0 L ∧ Keep h0 h [si_] ∧ Fld Z h si_ cSI "position" "I" (.int 1) ∧ Fld Z h si_ cSI "limit" "I" (.int 7) ∧ Fld Z h si_ cSI "base" "I" (.int 0) ∧ Fld Z h si_ cSI "chars" "[C" (.ref xa_)) := by
 refine MetFree.of_bodySF (plainFor_of_name pn27) hisR ?_
 intro p e s m args below meth c s₁ Bd hml0 hP hK
 obtain ⟨rfl, hZ, hh⟩ := hP
 have hx := Bd.exec
 have hby := Bd.bytes
 have hml : c.maxLocals = 1 := hml0
 have hown : s.vm.findClass "com/example/ratatoskr/ratatoskr/core/internal/StringInput" = some m.cls := findClass_of_methodNamed Bd.named
 have hnm := (name_of_methodNamed Bd.named Bd.method).1
 have X0 : Stand p l e ({ frames := 0, cells := 0, slots := 0, locals := 0 } : Room) s m #[(.ref si_)] below meth c s₁ [] 0 0 := Stand.of_body Bd
 have e0 : s₁.heap = h0 := by rw [← hh, Bd.state]; rfl
 have N0 := Fr.nil n0
 have Z0 := own_old_le O0
 show Ends _ _ _ _ s₁ (entryFrame m #[(.ref si_)] 1) ({ frames := 0, cells := 0, slots := 0, locals := 0 } : Room).cells ({ frames := 0, cells := 0, slots := 0, locals := 0 } : Room).slots (fun v h L => v = none ∧ Fr n0 L ∧ Keep h0 h [si_] ∧ Fld Z h si_ cSI "position" "I" (.int 1) ∧ Fld Z h si_ cSI "limit" "I" (.int 7) ∧ Fld Z h si_ cSI "base" "I" (.int 0) ∧ Fld Z h si_ cSI "chars" "[C" (.ref xa_))
 refine Ends.go (fun _ k => castTop (ef27_r m si_) k) ?_
 have K0 := Keep.refl h0 [si_]
 show Ends _ _ _ _ s₁ (mkF m 0 #[cr si_] []) _ _ _
 refine walN X0 hx hby d27_0 rfl rfl ?_
 refine wdu X0 hx hby d27_1 rfl ?_
 obtain ⟨T187, X187, e187, st187⟩ := getF X0 hx hZ hown (host := "") (Or.inl (ow hw 126 rfl)) Via.refl e0 PF_si__position (g := (mkF m 2 #[cr si_] [(.ref si_), (.ref si_)])) rfl rfl (hb hby d27_2)
 refine Ends.go st187 ?_
 refine wic X187 hx hby d27_5 ?_
 show Ends _ _ _ _ T187 (mkF m 6 #[cr si_] [(.int 1), (.int 0), (.ref si_)]) _ _ _
 refine wia X187 hx hby d27_6 ?_
 obtain ⟨T188, h188, X188, e188, W188, st188⟩ := putF X187 hx hZ hown (host := "") (Or.inl (ow hw 126 rfl)) Via.refl e187 PF_si__position PE_si_ (Or.inl (ow hw 127 rfl)) (ow hw 7 rfl) (ty := .int) (by decide) rfl rfl (g := (mkF m 7 #[cr si_] [(.int 1), (.ref si_)])) rfl rfl (hb hby d27_7)
 refine Ends.go st188 ?_
 have Fw188 := PF_si__position.same W188
 have K188 := K0.wr W188 (Or.inl (List.mem_of_getElem? (i := 0) rfl))
 have O188 := O0.wr W188 g_si_
 have N188 := Fr.snoc X188 N0 g_si_
 refine Ends.retV X188 hx Bd.notSynchronized Bd.returns (hb hby d27_10) (by decide) (by decide) ?_
 rw [e188]
 exact ⟨rfl, N188, K188, Fw188, (PF_si__limit.other W188 (Or.inr (slot_ne (Or.inl (ow hw 85 rfl)) (Or.inl (ow hw 127 rfl)) (by decide) (t := .int) (t' := .int) (by decide) (by decide)))), (PF_si__base.other W188 (Or.inr (slot_ne (Or.inl (ow hw 140 rfl)) (Or.inl (ow hw 127 rfl)) (by decide) (t := .int) (t' := .int) (by decide) (by decide)))), (PF_si__chars.other W188 (Or.inr (slot_ne (Or.inr (ow hw 83 rfl)) (Or.inl (ow hw 127 rfl)) (by decide) (t := (.array .char)) (t' := .int) (by decide) (by decide))))⟩

theorem pdx_3 : parseMethodDescriptor "()V" = some ⟨[], none⟩ := by decide +kernel
set_option maxRecDepth 65536 in
set_option maxHeartbeats 40000000 in
theorem rx27_191 (l : Launch) (Z : State) (a0 : Array Value) (hw : ∀ d ∈ tables_1, d.before a0 Z = true) (ws : List Jvm.Cond) (n0 : Nat) (h0 : Heap) (O0 : Old Z n0 h0)  (si_ : Addr) (xa_ : Addr) (PF_si__position : Fld Z h0 si_ cSI "position" "I" (.int 1)) (PE_si_ : Exa Z h0 si_ cSI) (PF_si__limit : Fld Z h0 si_ cSI "limit" "I" (.int 7)) (PF_si__base : Fld Z h0 si_ cSI "base" "I" (.int 0)) (PF_si__chars : Fld Z h0 si_ cSI "chars" "[C" (.ref xa_)) (g_si_ : n0 ≤ si_) :
  Meets1 l ym9 prog_85_method_3_code 1 none ws ({ frames := 0, cells := 0, slots := 0, locals := 0 } : Room) #[(.ref si_)] Z h0 (fun v h L => v = none ∧ Fr n0 L ∧ Keep h0 h [si_] ∧ Fld Z h si_ cSI "position" "I" (.int 2) ∧ Fld Z h si_ cSI "limit" "I" (.int 7) ∧ Fld Z h si_ cSI "base" "I" (.int 0) ∧ Fld Z h si_ cSI "chars" "[C" (.ref xa_)) := by
 refine MetFree.of_bodySF (plainFor_of_name pn27) hisR ?_
 intro p e s m args below meth c s₁ Bd hml0 hP hK
 obtain ⟨rfl, hZ, hh⟩ := hP
 have hx := Bd.exec
 have hby := Bd.bytes
 have hml : c.maxLocals = 1 := hml0
 have hown : s.vm.findClass "com/example/ratatoskr/ratatoskr/core/internal/StringInput" = some m.cls := findClass_of_methodNamed Bd.named
 have hnm := (name_of_methodNamed Bd.named Bd.method).1
 have X0 : Stand p l e ({ frames := 0, cells := 0, slots := 0, locals := 0 } : Room) s m #[(.ref si_)] below meth c s₁ [] 0 0 := Stand.of_body Bd
 have e0 : s₁.heap = h0 := by rw [← hh, Bd.state]; rfl
 have N0 := Fr.nil n0
 have Z0 := own_old_le O0
 show Ends _ _ _ _ s₁ (entryFrame m #[(.ref si_)] 1) ({ frames := 0, cells := 0, slots := 0, locals := 0 } : Room).cells ({ frames := 0, cells := 0, slots := 0, locals := 0 } : Room).slots (fun v h L => v = none ∧ Fr n0 L ∧ Keep h0 h [si_] ∧ Fld Z h si_ cSI "position" "I" (.int 2) ∧ Fld Z h si_ cSI "limit" "I" (.int 7) ∧ Fld Z h si_ cSI "base" "I" (.int 0) ∧ Fld Z h si_ cSI "chars" "[C" (.ref xa_))
 refine Ends.go (fun _ k => castTop (ef27_r m si_) k) ?_
 have K0 := Keep.refl h0 [si_]
 show Ends _ _ _ _ s₁ (mkF m 0 #[cr si_] []) _ _ _
 refine walN X0 hx hby d27_0 rfl rfl ?_
 refine wdu X0 hx hby d27_1 rfl ?_
 obtain ⟨T192, X192, e192, st192⟩ := getF X0 hx hZ hown (host := "") (Or.inl (ow hw 126 rfl)) Via.refl e0 PF_si__position (g := (mkF m 2 #[cr si_] [(.ref si_), (.ref si_)])) rfl rfl (hb hby d27_2)
 refine Ends.go st192 ?_
 refine wic X192 hx hby d27_5 ?_
 show Ends _ _ _ _ T192 (mkF m 6 #[cr si_] [(.int 1), (.int 1), (.ref si_)]) _ _ _
 refine wia X192 hx hby d27_6 ?_
 obtain ⟨T193, h193, X193, e193, W193, st193⟩ := putF X192 hx hZ hown (host := "") (Or.inl (ow hw 126 rfl)) Via.refl e192 PF_si__position PE_si_ (Or.inl (ow hw 127 rfl)) (ow hw 7 rfl) (ty := .int) (by decide) rfl rfl (g := (mkF m 7 #[cr si_] [(.int 2), (.ref si_)])) rfl rfl (hb hby d27_7)
 refine Ends.go st193 ?_
 have Fw193 := PF_si__position.same W193
 have K193 := K0.wr W193 (Or.inl (List.mem_of_getElem? (i := 0) rfl))
 have O193 := O0.wr W193 g_si_
 have N193 := Fr.snoc X193 N0 g_si_
 refine Ends.retV X193 hx Bd.notSynchronized Bd.returns (hb hby d27_10) (by decide) (by decide) ?_
 rw [e193]
 exact ⟨rfl, N193, K193, Fw193, (PF_si__limit.other W193 (Or.inr (slot_ne (Or.inl (ow hw 85 rfl)) (Or.inl (ow hw 127 rfl)) (by decide) (t := .int) (t' := .int) (by decide) (by decide)))), (PF_si__base.other W193 (Or.inr (slot_ne (Or.inl (ow hw 140 rfl)) (Or.inl (ow hw 127 rfl)) (by decide) (t := .int) (t' := .int) (by decide) (by decide)))), (PF_si__chars.other W193 (Or.inr (slot_ne (Or.inr (ow hw 83 rfl)) (Or.inl (ow hw 127 rfl)) (by decide) (t := (.array .char)) (t' := .int) (by decide) (by decide))))⟩

set_option maxRecDepth 65536 in
set_option maxHeartbeats 40000000 in
theorem rx27_196 (l : Launch) (Z : State) (a0 : Array Value) (hw : ∀ d ∈ tables_1, d.before a0 Z = true) (ws : List Jvm.Cond) (n0 : Nat) (h0 : Heap) (O0 : Old Z n0 h0)  (si_ : Addr) (xa_ : Addr) (PF_si__position : Fld Z h0 si_ cSI "position" "I" (.int 2)) (PE_si_ : Exa Z h0 si_ cSI) (PF_si__limit : Fld Z h0 si_ cSI "limit" "I" (.int 7)) (PF_si__base : Fld Z h0 si_ cSI "base" "I" (.int 0)) (PF_si__chars : Fld Z h0 si_ cSI "chars" "[C" (.ref xa_)) (g_si_ : n0 ≤ si_) :
  Meets1 l ym9 prog_85_method_3_code 1 none ws ({ frames := 0, cells := 0, slots := 0, locals := 0 } : Room) #[(.ref si_)] Z h0 (fun v h L => v = none ∧ Fr n0 L ∧ Keep h0 h [si_] ∧ Fld Z h si_ cSI "position" "I" (.int 3) ∧ Fld Z h si_ cSI "limit" "I" (.int 7) ∧ Fld Z h si_ cSI "base" "I" (.int 0) ∧ Fld Z h si_ cSI "chars" "[C" (.ref xa_)) := by
 refine MetFree.of_bodySF (plainFor_of_name pn27) hisR ?_
 intro p e s m args below meth c s₁ Bd hml0 hP hK
 obtain ⟨rfl, hZ, hh⟩ := hP
 have hx := Bd.exec
 have hby := Bd.bytes
 have hml : c.maxLocals = 1 := hml0
 have hown : s.vm.findClass "com/example/ratatoskr/ratatoskr/core/internal/StringInput" = some m.cls := findClass_of_methodNamed Bd.named
 have hnm := (name_of_methodNamed Bd.named Bd.method).1
 have X0 : Stand p l e ({ frames := 0, cells := 0, slots := 0, locals := 0 } : Room) s m #[(.ref si_)] below meth c s₁ [] 0 0 := Stand.of_body Bd
 have e0 : s₁.heap = h0 := by rw [← hh, Bd.state]; rfl
 have N0 := Fr.nil n0
 have Z0 := own_old_le O0
 show Ends _ _ _ _ s₁ (entryFrame m #[(.ref si_)] 1) ({ frames := 0, cells := 0, slots := 0, locals := 0 } : Room).cells ({ frames := 0, cells := 0, slots := 0, locals := 0 } : Room).slots (fun v h L => v = none ∧ Fr n0 L ∧ Keep h0 h [si_] ∧ Fld Z h si_ cSI "position" "I" (.int 3) ∧ Fld Z h si_ cSI "limit" "I" (.int 7) ∧ Fld Z h si_ cSI "base" "I" (.int 0) ∧ Fld Z h si_ cSI "chars" "[C" (.ref xa_))
 refine Ends.go (fun _ k => castTop (ef27_r m si_) k) ?_
 have K0 := Keep.refl h0 [si_]
 show Ends _ _ _ _ s₁ (mkF m 0 #[cr si_] []) _ _ _
 refine walN X0 hx hby d27_0 rfl rfl ?_
 refine wdu X0 hx hby d27_1 rfl ?_
 obtain ⟨T197, X197, e197, st197⟩ := getF X0 hx hZ hown (host := "") (Or.inl (ow hw 126 rfl)) Via.refl e0 PF_si__position (g := (mkF m 2 #[cr si_] [(.ref si_), (.ref si_)])) rfl rfl (hb hby d27_2)
 refine Ends.go st197 ?_
 refine wic X197 hx hby d27_5 ?_
 show Ends _ _ _ _ T197 (mkF m 6 #[cr si_] [(.int 1), (.int 2), (.ref si_)]) _ _ _
 refine wia X197 hx hby d27_6 ?_
 obtain ⟨T198, h198, X198, e198, W198, st198⟩ := putF X197 hx hZ hown (host := "") (Or.inl (ow hw 126 rfl)) Via.refl e197 PF_si__position PE_si_ (Or.inl (ow hw 127 rfl)) (ow hw 7 rfl) (ty := .int) (by decide) rfl rfl (g := (mkF m 7 #[cr si_] [(.int 3), (.ref si_)])) rfl rfl (hb hby d27_7)
 refine Ends.go st198 ?_
 have Fw198 := PF_si__position.same W198
 have K198 := K0.wr W198 (Or.inl (List.mem_of_getElem? (i := 0) rfl))
 have O198 := O0.wr W198 g_si_
 have N198 := Fr.snoc X198 N0 g_si_
 refine Ends.retV X198 hx Bd.notSynchronized Bd.returns (hb hby d27_10) (by decide) (by decide) ?_
 rw [e198]
 exact ⟨rfl, N198, K198, Fw198, (PF_si__limit.other W198 (Or.inr (slot_ne (Or.inl (ow hw 85 rfl)) (Or.inl (ow hw 127 rfl)) (by decide) (t := .int) (t' := .int) (by decide) (by decide)))), (PF_si__base.other W198 (Or.inr (slot_ne (Or.inl (ow hw 140 rfl)) (Or.inl (ow hw 127 rfl)) (by decide) (t := .int) (t' := .int) (by decide) (by decide)))), (PF_si__chars.other W198 (Or.inr (slot_ne (Or.inr (ow hw 83 rfl)) (Or.inl (ow hw 127 rfl)) (by decide) (t := (.array .char)) (t' := .int) (by decide) (by decide))))⟩

set_option maxRecDepth 65536 in
set_option maxHeartbeats 40000000 in
theorem rx27_201 (l : Launch) (Z : State) (a0 : Array Value) (hw : ∀ d ∈ tables_1, d.before a0 Z = true) (ws : List Jvm.Cond) (n0 : Nat) (h0 : Heap) (O0 : Old Z n0 h0)  (si_ : Addr) (xa_ : Addr) (PF_si__position : Fld Z h0 si_ cSI "position" "I" (.int 3)) (PE_si_ : Exa Z h0 si_ cSI) (PF_si__limit : Fld Z h0 si_ cSI "limit" "I" (.int 7)) (PF_si__base : Fld Z h0 si_ cSI "base" "I" (.int 0)) (PF_si__chars : Fld Z h0 si_ cSI "chars" "[C" (.ref xa_)) (g_si_ : n0 ≤ si_) :
  Meets1 l ym9 prog_85_method_3_code 1 none ws ({ frames := 0, cells := 0, slots := 0, locals := 0 } : Room) #[(.ref si_)] Z h0 (fun v h L => v = none ∧ Fr n0 L ∧ Keep h0 h [si_] ∧ Fld Z h si_ cSI "position" "I" (.int 4) ∧ Fld Z h si_ cSI "limit" "I" (.int 7) ∧ Fld Z h si_ cSI "base" "I" (.int 0) ∧ Fld Z h si_ cSI "chars" "[C" (.ref xa_)) := by
 refine MetFree.of_bodySF (plainFor_of_name pn27) hisR ?_
 intro p e s m args below meth c s₁ Bd hml0 hP hK
 obtain ⟨rfl, hZ, hh⟩ := hP
 have hx := Bd.exec
 have hby := Bd.bytes
 have hml : c.maxLocals = 1 := hml0
 have hown : s.vm.findClass "com/example/ratatoskr/ratatoskr/core/internal/StringInput" = some m.cls := findClass_of_methodNamed Bd.named
 have hnm := (name_of_methodNamed Bd.named Bd.method).1
 have X0 : Stand p l e ({ frames := 0, cells := 0, slots := 0, locals := 0 } : Room) s m #[(.ref si_)] below meth c s₁ [] 0 0 := Stand.of_body Bd
 have e0 : s₁.heap = h0 := by rw [← hh, Bd.state]; rfl
 have N0 := Fr.nil n0
 have Z0 := own_old_le O0
 show Ends _ _ _ _ s₁ (entryFrame m #[(.ref si_)] 1) ({ frames := 0, cells := 0, slots := 0, locals := 0 } : Room).cells ({ frames := 0, cells := 0, slots := 0, locals := 0 } : Room).slots (fun v h L => v = none ∧ Fr n0 L ∧ Keep h0 h [si_] ∧ Fld Z h si_ cSI "position" "I" (.int 4) ∧ Fld Z h si_ cSI "limit" "I" (.int 7) ∧ Fld Z h si_ cSI "base" "I" (.int 0) ∧ Fld Z h si_ cSI "chars" "[C" (.ref xa_))
 refine Ends.go (fun _ k => castTop (ef27_r m si_) k) ?_
 have K0 := Keep.refl h0 [si_]
 show Ends _ _ _ _ s₁ (mkF m 0 #[cr si_] []) _ _ _
 refine walN X0 hx hby d27_0 rfl rfl ?_
 refine wdu X0 hx hby d27_1 rfl ?_
 obtain ⟨T202, X202, e202, st202⟩ := getF X0 hx hZ hown (host := "") (Or.inl (ow hw 126 rfl)) Via.refl e0 PF_si__position (g := (mkF m 2 #[cr si_] [(.ref si_), (.ref si_)])) rfl rfl (hb hby d27_2)
 refine Ends.go st202 ?_
 refine wic X202 hx hby d27_5 ?_
 show Ends _ _ _ _ T202 (mkF m 6 #[cr si_] [(.int 1), (.int 3), (.ref si_)]) _ _ _
 refine wia X202 hx hby d27_6 ?_
 obtain ⟨T203, h203, X203, e203, W203, st203⟩ := putF X202 hx hZ hown (host := "") (Or.inl (ow hw 126 rfl)) Via.refl e202 PF_si__position PE_si_ (Or.inl (ow hw 127 rfl)) (ow hw 7 rfl) (ty := .int) (by decide) rfl rfl (g := (mkF m 7 #[cr si_] [(.int 4), (.ref si_)])) rfl rfl (hb hby d27_7)
 refine Ends.go st203 ?_
 have Fw203 := PF_si__position.same W203
 have K203 := K0.wr W203 (Or.inl (List.mem_of_getElem? (i := 0) rfl))
 have O203 := O0.wr W203 g_si_
 have N203 := Fr.snoc X203 N0 g_si_
 refine Ends.retV X203 hx Bd.notSynchronized Bd.returns (hb hby d27_10) (by decide) (by decide) ?_
 rw [e203]
 exact ⟨rfl, N203, K203, Fw203, (PF_si__limit.other W203 (Or.inr (slot_ne (Or.inl (ow hw 85 rfl)) (Or.inl (ow hw 127 rfl)) (by decide) (t := .int) (t' := .int) (by decide) (by decide)))), (PF_si__base.other W203 (Or.inr (slot_ne (Or.inl (ow hw 140 rfl)) (Or.inl (ow hw 127 rfl)) (by decide) (t := .int) (t' := .int) (by decide) (by decide)))), (PF_si__chars.other W203 (Or.inr (slot_ne (Or.inr (ow hw 83 rfl)) (Or.inl (ow hw 127 rfl)) (by decide) (t := (.array .char)) (t' := .int) (by decide) (by decide))))⟩

set_option maxRecDepth 65536 in
set_option maxHeartbeats 40000000 in
theorem rx27_206 (l : Launch) (Z : State) (a0 : Array Value) (hw : ∀ d ∈ tables_1, d.before a0 Z = true) (ws : List Jvm.Cond) (n0 : Nat) (h0 : Heap) (O0 : Old Z n0 h0)  (si_ : Addr) (xa_ : Addr) (PF_si__position : Fld Z h0 si_ cSI "position" "I" (.int 4)) (PE_si_ : Exa Z h0 si_ cSI) (PF_si__limit : Fld Z h0 si_ cSI "limit" "I" (.int 7)) (PF_si__base : Fld Z h0 si_ cSI "base" "I" (.int 0)) (PF_si__chars : Fld Z h0 si_ cSI "chars" "[C" (.ref xa_)) (g_si_ : n0 ≤ si_) :
  Meets1 l ym9 prog_85_method_3_code 1 none ws ({ frames := 0, cells := 0, slots := 0, locals := 0 } : Room) #[(.ref si_)] Z h0 (fun v h L => v = none ∧ Fr n0 L ∧ Keep h0 h [si_] ∧ Fld Z h si_ cSI "position" "I" (.int 5) ∧ Fld Z h si_ cSI "limit" "I" (.int 7) ∧ Fld Z h si_ cSI "base" "I" (.int 0) ∧ Fld Z h si_ cSI "chars" "[C" (.ref xa_)) := by
 refine MetFree.of_bodySF (plainFor_of_name pn27) hisR ?_
 intro p e s m args below meth c s₁ Bd hml0 hP hK
 obtain ⟨rfl, hZ, hh⟩ := hP
 have hx := Bd.exec
 have hby := Bd.bytes
 have hml : c.maxLocals = 1 := hml0
 have hown : s.vm.findClass "com/example/ratatoskr/ratatoskr/core/internal/StringInput" = some m.cls := findClass_of_methodNamed Bd.named
 have hnm := (name_of_methodNamed Bd.named Bd.method).1
 have X0 : Stand p l e ({ frames := 0, cells := 0, slots := 0, locals := 0 } : Room) s m #[(.ref si_)] below meth c s₁ [] 0 0 := Stand.of_body Bd
 have e0 : s₁.heap = h0 := by rw [← hh, Bd.state]; rfl
 have N0 := Fr.nil n0
 have Z0 := own_old_le O0
 show Ends _ _ _ _ s₁ (entryFrame m #[(.ref si_)] 1) ({ frames := 0, cells := 0, slots := 0, locals := 0 } : Room).cells ({ frames := 0, cells := 0, slots := 0, locals := 0 } : Room).slots (fun v h L => v = none ∧ Fr n0 L ∧ Keep h0 h [si_] ∧ Fld Z h si_ cSI "position" "I" (.int 5) ∧ Fld Z h si_ cSI "limit" "I" (.int 7) ∧ Fld Z h si_ cSI "base" "I" (.int 0) ∧ Fld Z h si_ cSI "chars" "[C" (.ref xa_))
 refine Ends.go (fun _ k => castTop (ef27_r m si_) k) ?_
 have K0 := Keep.refl h0 [si_]
 show Ends _ _ _ _ s₁ (mkF m 0 #[cr si_] []) _ _ _
 refine walN X0 hx hby d27_0 rfl rfl ?_
 refine wdu X0 hx hby d27_1 rfl ?_
 obtain ⟨T207, X207, e207, st207⟩ := getF X0 hx hZ hown (host := "") (Or.inl (ow hw 126 rfl)) Via.refl e0 PF_si__position (g := (mkF m 2 #[cr si_] [(.ref si_), (.ref si_)])) rfl rfl (hb hby d27_2)
 refine Ends.go st207 ?_
 refine wic X207 hx hby d27_5 ?_
 show Ends _ _ _ _ T207 (mkF m 6 #[cr si_] [(.int 1), (.int 4), (.ref si_)]) _ _ _
 refine wia X207 hx hby d27_6 ?_
 obtain ⟨T208, h208, X208, e208, W208, st208⟩ := putF X207 hx hZ hown (host := "") (Or.inl (ow hw 126 rfl)) Via.refl e207 PF_si__position PE_si_ (Or.inl (ow hw 127 rfl)) (ow hw 7 rfl) (ty := .int) (by decide) rfl rfl (g := (mkF m 7 #[cr si_] [(.int 5), (.ref si_)])) rfl rfl (hb hby d27_7)
 refine Ends.go st208 ?_
 have Fw208 := PF_si__position.same W208
 have K208 := K0.wr W208 (Or.inl (List.mem_of_getElem? (i := 0) rfl))
 have O208 := O0.wr W208 g_si_
 have N208 := Fr.snoc X208 N0 g_si_
 refine Ends.retV X208 hx Bd.notSynchronized Bd.returns (hb hby d27_10) (by decide) (by decide) ?_
 rw [e208]
 exact ⟨rfl, N208, K208, Fw208, (PF_si__limit.other W208 (Or.inr (slot_ne (Or.inl (ow hw 85 rfl)) (Or.inl (ow hw 127 rfl)) (by decide) (t := .int) (t' := .int) (by decide) (by decide)))), (PF_si__base.other W208 (Or.inr (slot_ne (Or.inl (ow hw 140 rfl)) (Or.inl (ow hw 127 rfl)) (by decide) (t := .int) (t' := .int) (by decide) (by decide)))), (PF_si__chars.other W208 (Or.inr (slot_ne (Or.inr (ow hw 83 rfl)) (Or.inl (ow hw 127 rfl)) (by decide) (t := (.array .char)) (t' := .int) (by decide) (by decide))))⟩

set_option maxRecDepth 65536 in
set_option maxHeartbeats 40000000 in
theorem rx27_211 (l : Launch) (Z : State) (a0 : Array Value) (hw : ∀ d ∈ tables_1, d.before a0 Z = true) (ws : List Jvm.Cond) (n0 : Nat) (h0 : Heap) (O0 : Old Z n0 h0)  (si_ : Addr) (xa_ : Addr) (PF_si__position : Fld Z h0 si_ cSI "position" "I" (.int 5)) (PE_si_ : Exa Z h0 si_ cSI) (PF_si__limit : Fld Z h0 si_ cSI "limit" "I" (.int 7)) (PF_si__base : Fld Z h0 si_ cSI "base" "I" (.int 0)) (PF_si__chars : Fld Z h0 si_ cSI "chars" "[C" (.ref xa_)) (g_si_ : n0 ≤ si_) :
  Meets1 l ym9 prog_85_method_3_code 1 none ws ({ frames := 0, cells := 0, slots := 0, locals := 0 } : Room) #[(.ref si_)] Z h0 (fun v h L => v = none ∧ Fr n0 L ∧ Keep h0 h [si_] ∧ Fld Z h si_ cSI "position" "I" (.int 6) ∧ Fld Z h si_ cSI "limit" "I" (.int 7) ∧ Fld Z h si_ cSI "base" "I" (.int 0) ∧ Fld Z h si_ cSI "chars" "[C" (.ref xa_)) := by
 refine MetFree.of_bodySF (plainFor_of_name pn27) hisR ?_
 intro p e s m args below meth c s₁ Bd hml0 hP hK
 obtain ⟨rfl, hZ, hh⟩ := hP
 have hx := Bd.exec
 have hby := Bd.bytes
 have hml : c.maxLocals = 1 := hml0
 have hown : s.vm.findClass "com/example/ratatoskr/ratatoskr/core/internal/StringInput" = some m.cls := findClass_of_methodNamed Bd.named
 have hnm := (name_of_methodNamed Bd.named Bd.method).1
 have X0 : Stand p l e ({ frames := 0, cells := 0, slots := 0, locals := 0 } : Room) s m #[(.ref si_)] below meth c s₁ [] 0 0 := Stand.of_body Bd
 have e0 : s₁.heap = h0 := by rw [← hh, Bd.state]; rfl
 have N0 := Fr.nil n0
 have Z0 := own_old_le O0
 show Ends _ _ _ _ s₁ (entryFrame m #[(.ref si_)] 1) ({ frames := 0, cells := 0, slots := 0, locals := 0 } : Room).cells ({ frames := 0, cells := 0, slots := 0, locals := 0 } : Room).slots (fun v h L => v = none ∧ Fr n0 L ∧ Keep h0 h [si_] ∧ Fld Z h si_ cSI "position" "I" (.int 6) ∧ Fld Z h si_ cSI "limit" "I" (.int 7) ∧ Fld Z h si_ cSI "base" "I" (.int 0) ∧ Fld Z h si_ cSI "chars" "[C" (.ref xa_))
 refine Ends.go (fun _ k => castTop (ef27_r m si_) k) ?_
 have K0 := Keep.refl h0 [si_]
 show Ends _ _ _ _ s₁ (mkF m 0 #[cr si_] []) _ _ _
 refine walN X0 hx hby d27_0 rfl rfl ?_
 refine wdu X0 hx hby d27_1 rfl ?_
 obtain ⟨T212, X212, e212, st212⟩ := getF X0 hx hZ hown (host := "") (Or.inl (ow hw 126 rfl)) Via.refl e0 PF_si__position (g := (mkF m 2 #[cr si_] [(.ref si_), (.ref si_)])) rfl rfl (hb hby d27_2)
 refine Ends.go st212 ?_
 refine wic X212 hx hby d27_5 ?_
 show Ends _ _ _ _ T212 (mkF m 6 #[cr si_] [(.int 1), (.int 5), (.ref si_)]) _ _ _
 refine wia X212 hx hby d27_6 ?_
 obtain ⟨T213, h213, X213, e213, W213, st213⟩ := putF X212 hx hZ hown (host := "") (Or.inl (ow hw 126 rfl)) Via.refl e212 PF_si__position PE_si_ (Or.inl (ow hw 127 rfl)) (ow hw 7 rfl) (ty := .int) (by decide) rfl rfl (g := (mkF m 7 #[cr si_] [(.int 6), (.ref si_)])) rfl rfl (hb hby d27_7)
 refine Ends.go st213 ?_
 have Fw213 := PF_si__position.same W213
 have K213 := K0.wr W213 (Or.inl (List.mem_of_getElem? (i := 0) rfl))
 have O213 := O0.wr W213 g_si_
 have N213 := Fr.snoc X213 N0 g_si_
 refine Ends.retV X213 hx Bd.notSynchronized Bd.returns (hb hby d27_10) (by decide) (by decide) ?_
 rw [e213]
 exact ⟨rfl, N213, K213, Fw213, (PF_si__limit.other W213 (Or.inr (slot_ne (Or.inl (ow hw 85 rfl)) (Or.inl (ow hw 127 rfl)) (by decide) (t := .int) (t' := .int) (by decide) (by decide)))), (PF_si__base.other W213 (Or.inr (slot_ne (Or.inl (ow hw 140 rfl)) (Or.inl (ow hw 127 rfl)) (by decide) (t := .int) (t' := .int) (by decide) (by decide)))), (PF_si__chars.other W213 (Or.inr (slot_ne (Or.inr (ow hw 83 rfl)) (Or.inl (ow hw 127 rfl)) (by decide) (t := (.array .char)) (t' := .int) (by decide) (by decide))))⟩

set_option maxRecDepth 65536 in
set_option maxHeartbeats 40000000 in
theorem rx6_224 (l : Launch) (Z : State) (a0 : Array Value) (hw : ∀ d ∈ tables_1, d.before a0 Z = true) (ws : List Jvm.Cond) (n0 : Nat) (h0 : Heap) (O0 : Old Z n0 h0)  (x10 : Addr) (b223 : Addr) (kx10 : ClassId) (c0_ : Int32) (c1_ : Int32) (c2_ : Int32) (c3_ : Int32) (c4_ : Int32) (c5_ : Int32) (c6_ : Int32) (k223 : ClassId) (PV_x10 : Arv Z h0 x10 kx10 .char (7 : Int32) [(.int c0_), (.int c1_), (.int c2_), (.int c3_), (.int c4_), (.int c5_), (.int c6_)] (.int 0)) (PV_b223 : Arv Z h0 b223 k223 .byte (7 : Int32) [(.int 0), (.int 0), (.int 0), (.int 0), (.int 0), (.int 0), (.int 0)] (.int 0)) (ne_x10_b223 : x10 ≠ b223) (g_b223 : n0 ≤ b223) (hk0_ : ¬ ((255 : Int32) < c0_)) (hk1_ : ¬ ((255 : Int32) < c1_)) (hk2_ : ¬ ((255 : Int32) < c2_)) (hk3_ : ¬ ((255 : Int32) < c3_)) (hk4_ : ¬ ((255 : Int32) < c4_)) (hk5_ : ¬ ((255 : Int32) < c5_)) (hk6_ : ¬ ((255 : Int32) < c6_)) :
  Meets1 l ym1 jdk_52_method_21_code 7 (some .int) ws ({ frames := 0, cells := 0, slots := 0, locals := 0 } : Room) #[(.ref x10), (.int 0), (.ref b223), (.int 0), (.int 7)] Z h0 (fun v h L => v = some (.int 7) ∧ Fr n0 L ∧ Keep h0 h [b223] ∧ Arv Z h b223 k223 .byte (7 : Int32) [(.int (c0_.toInt8.toInt32)), (.int (c1_.toInt8.toInt32)), (.int (c2_.toInt8.toInt32)), (.int (c3_.toInt8.toInt32)), (.int (c4_.toInt8.toInt32)), (.int (c5_.toInt8.toInt32)), (.int (c6_.toInt8.toInt32))] (.int 0)) := by
 refine MetFree.of_bodySF (plainFor_of_name pn6) hisR ?_
 intro p e s m args below meth c s₁ Bd hml0 hP hK
 obtain ⟨rfl, hZ, hh⟩ := hP
 have hx := Bd.exec
 have hby := Bd.bytes
 have hml : c.maxLocals = 7 := hml0
 have hown : s.vm.findClass "java/lang/StringUTF16" = some m.cls := findClass_of_methodNamed Bd.named
 have hnm := (name_of_methodNamed Bd.named Bd.method).1
 have X0 : Stand p l e ({ frames := 0, cells := 0, slots := 0, locals := 0 } : Room) s m #[(.ref x10), (.int 0), (.ref b223), (.int 0), (.int 7)] below meth c s₁ [] 0 0 := Stand.of_body Bd
 have e0 : s₁.heap = h0 := by rw [← hh, Bd.state]; rfl
 have N0 := Fr.nil n0
 have Z0 := own_old_le O0
 show Ends _ _ _ _ s₁ (entryFrame m #[(.ref x10), (.int 0), (.ref b223), (.int 0), (.int 7)] 7) ({ frames := 0, cells := 0, slots := 0, locals := 0 } : Room).cells ({ frames := 0, cells := 0, slots := 0, locals := 0 } : Room).slots (fun v h L => v = some (.int 7) ∧ Fr n0 L ∧ Keep h0 h [b223] ∧ Arv Z h b223 k223 .byte (7 : Int32) [(.int (c0_.toInt8.toInt32)), (.int (c1_.toInt8.toInt32)), (.int (c2_.toInt8.toInt32)), (.int (c3_.toInt8.toInt32)), (.int (c4_.toInt8.toInt32)), (.int (c5_.toInt8.toInt32)), (.int (c6_.toInt8.toInt32))] (.int 0))
 refine Ends.go (fun _ k => castTop (ef6_ririi m x10 (0 : Int32) b223 (0 : Int32) (7 : Int32)) k) ?_
 have K0 := Keep.refl h0 [b223]
 show Ends _ _ _ _ s₁ (mkF m 0 #[cr x10, ci 0, cr b223, ci 0, ci 7, cu, cu] []) _ _ _
 refine wic X0 hx hby d6_0 ?_
 refine wst X0 hx hby d6_1 (l' := #[cr x10, ci 0, cr b223, ci 0, ci 7, ci 0, cu]) rfl ?_
 refine wil X0 hx hby d6_3 rfl ?_
 refine wil X0 hx hby d6_5 rfl ?_
 show Ends _ _ _ _ s₁ (mkF m 7 #[cr x10, ci 0, cr b223, ci 0, ci 7, ci 0, cu] [(.int 7), (.int 0)]) _ _ _
 refine wcn X0 hx hby d6_7 (tlt (by decide : (0 : Int32) < (7 : Int32))).2.1 ?_
 refine walN X0 hx hby d6_10 rfl rfl ?_
 refine wilN X0 hx hby d6_11 rfl ?_
 obtain ⟨cl225, Ar225, q225, S225, M225, H225, G225⟩ := id PV_x10
 have hin225 := inb_of (j := (0 : Int32)) S225 ⟨by decide, by decide⟩
 refine Ends.go (X0.caload hx (j := (0 : Int32)) (v := (.int c0_)) (by rw [e0]; exact Ar225.1) (State.isArrayOf_alike hZ.alike Ar225.2.1) Ar225.2.2 hin225 (H225.at hin225 rfl) (g := (mkF m 12 #[cr x10, ci 0, cr b223, ci 0, ci 7, ci 0, cu] [(.int 0), (.ref x10)])) rfl rfl (hb hby d6_12)) ?_
 refine wst X0 hx hby d6_13 (l' := #[cr x10, ci 0, cr b223, ci 0, ci 7, ci 0, ci c0_]) rfl ?_
 show Ends _ _ _ _ s₁ (mkF m 15 #[cr x10, ci 0, cr b223, ci 0, ci 7, ci 0, ci c0_] []) _ _ _
 refine wil X0 hx hby d6_15 rfl ?_
 refine wsp X0 hx hby d6_17 ?_
 refine wcy (pc := 20) (pc' := 26) X0 hx hby d6_20 (flt (hk0_ : ¬ ((255 : Int32) < c0_))).2.2.2 (by decide) (by decide) ?_
 refine walN X0 hx hby d6_26 rfl rfl ?_
 refine wilN X0 hx hby d6_27 rfl ?_
 show Ends _ _ _ _ s₁ (mkF m 28 #[cr x10, ci 0, cr b223, ci 0, ci 7, ci 0, ci c0_] [(.int 0), (.ref b223)]) _ _ _
 refine wil X0 hx hby d6_28 rfl ?_
 refine .go (fun _ => XS.i2b X0.here hx rfl (hb hby d6_30) rfl) ?_
 obtain ⟨cl226, Ar226, q226, S226, M226, H226, G226⟩ := id PV_b223
 have hin226 := inb_of (j := (0 : Int32)) S226 ⟨by decide, by decide⟩
 obtain ⟨T226, h226, X226, e226, W226, st226⟩ := stB X0 hx hZ e0 Ar226 (j := (0 : Int32)) hin226 (g := (mkF m 31 #[cr x10, ci 0, cr b223, ci 0, ci 7, ci 0, ci c0_] [(.int (c0_.toInt8.toInt32)), (.int 0), (.ref b223)])) rfl rfl (hb hby d6_31)
 refine Ends.go st226 ?_
 have V226 : Arv Z h226 b223 k223 .byte (7 : Int32) [(.int (nar .byte (c0_.toInt8.toInt32))), (.int 0), (.int 0), (.int 0), (.int 0), (.int 0), (.int 0)] (.int 0) := Arv.set Ar226 q226 S226 M226 H226 G226 (fits_nar_byte _) W226 0 rfl (Nat.le_of_ble_eq_true rfl)
 rw [own_narb] at V226
 have K226 := K0.wr W226 (Or.inl (List.mem_of_getElem? (i := 0) rfl))
 have O226 := O0.wr W226 g_b223
 have N226 := Fr.snoc X226 N0 g_b223
 refine wii X226 hx hby d6_32 (l' := #[cr x10, ci 1, cr b223, ci 0, ci 7, ci 0, ci c0_]) rfl rfl ?_
 refine wii X226 hx hby d6_35 (l' := #[cr x10, ci 1, cr b223, ci 1, ci 7, ci 0, ci c0_]) rfl rfl ?_
 show Ends _ _ _ _ T226 (mkF m 38 #[cr x10, ci 1, cr b223, ci 1, ci 7, ci 0, ci c0_] []) _ _ _
 refine wii X226 hx hby d6_38 (l' := #[cr x10, ci 1, cr b223, ci 1, ci 7, ci 1, ci c0_]) rfl rfl ?_
 refine wgo (pc := 41) (pc' := 3) X226 hx hby d6_41 (by decide) (by decide) ?_
 refine wil X226 hx hby d6_3 rfl ?_
 refine wil X226 hx hby d6_5 rfl ?_
 refine wcn X226 hx hby d6_7 (tlt (by decide : (1 : Int32) < (7 : Int32))).2.1 ?_
 show Ends _ _ _ _ T226 (mkF m 10 #[cr x10, ci 1, cr b223, ci 1, ci 7, ci 1, ci c0_] []) _ _ _
 refine walN X226 hx hby d6_10 rfl rfl ?_
 refine wilN X226 hx hby d6_11 rfl ?_
 obtain ⟨cl227, Ar227, q227, S227, M227, H227, G227⟩ := id (PV_x10.other W226 ne_x10_b223)
 have hin227 := inb_of (j := (1 : Int32)) S227 ⟨by decide, by decide⟩
 refine Ends.go (X226.caload hx (j := (1 : Int32)) (v := (.int c1_)) (by rw [e226]; exact Ar227.1) (State.isArrayOf_alike hZ.alike Ar227.2.1) Ar227.2.2 hin227 (H227.at hin227 rfl) (g := (mkF m 12 #[cr x10, ci 1, cr b223, ci 1, ci 7, ci 1, ci c0_] [(.int 1), (.ref x10)])) rfl rfl (hb hby d6_12)) ?_
 refine wst X226 hx hby d6_13 (l' := #[cr x10, ci 1, cr b223, ci 1, ci 7, ci 1, ci c1_]) rfl ?_
 refine wil X226 hx hby d6_15 rfl ?_
 show Ends _ _ _ _ T226 (mkF m 17 #[cr x10, ci 1, cr b223, ci 1, ci 7, ci 1, ci c1_] [(.int c1_)]) _ _ _
 refine wsp X226 hx hby d6_17 ?_
 refine wcy (pc := 20) (pc' := 26) X226 hx hby d6_20 (flt (hk1_ : ¬ ((255 : Int32) < c1_))).2.2.2 (by decide) (by decide) ?_
 refine walN X226 hx hby d6_26 rfl rfl ?_
 refine wilN X226 hx hby d6_27 rfl ?_
 refine wil X226 hx hby d6_28 rfl ?_
 show Ends _ _ _ _ T226 (mkF m 30 #[cr x10, ci 1, cr b223, ci 1, ci 7, ci 1, ci c1_] [(.int c1_), (.int 1), (.ref b223)]) _ _ _
 refine .go (fun _ => XS.i2b X226.here hx rfl (hb hby d6_30) rfl) ?_
 obtain ⟨cl228, Ar228, q228, S228, M228, H228, G228⟩ := id V226
 have hin228 := inb_of (j := (1 : Int32)) S228 ⟨by decide, by decide⟩
 obtain ⟨T228, h228, X228, e228, W228, st228⟩ := stB X226 hx hZ e226 Ar228 (j := (1 : Int32)) hin228 (g := (mkF m 31 #[cr x10, ci 1, cr b223, ci 1, ci 7, ci 1, ci c1_] [(.int (c1_.toInt8.toInt32)), (.int 1), (.ref b223)])) rfl rfl (hb hby d6_31)
 refine Ends.go st228 ?_
 have V228 : Arv Z h228 b223 k223 .byte (7 : Int32) [(.int (c0_.toInt8.toInt32)), (.int (nar .byte (c1_.toInt8.toInt32))), (.int 0), (.int 0), (.int 0), (.int 0), (.int 0)] (.int 0) := Arv.set Ar228 q228 S228 M228 H228 G228 (fits_nar_byte _) W228 1 rfl (Nat.le_of_ble_eq_true rfl)
 rw [own_narb] at V228
 have K228 := K226.wr W228 (Or.inl (List.mem_of_getElem? (i := 0) rfl))
 have O228 := O226.wr W228 g_b223
 have N228 := Fr.snoc X228 N226 g_b223
 refine wii X228 hx hby d6_32 (l' := #[cr x10, ci 2, cr b223, ci 1, ci 7, ci 1, ci c1_]) rfl rfl ?_
 refine wii X228 hx hby d6_35 (l' := #[cr x10, ci 2, cr b223, ci 2, ci 7, ci 1, ci c1_]) rfl rfl ?_
 refine wii X228 hx hby d6_38 (l' := #[cr x10, ci 2, cr b223, ci 2, ci 7, ci 2, ci c1_]) rfl rfl ?_
 show Ends _ _ _ _ T228 (mkF m 41 #[cr x10, ci 2, cr b223, ci 2, ci 7, ci 2, ci c1_] []) _ _ _
 refine wgo (pc := 41) (pc' := 3) X228 hx hby d6_41 (by decide) (by decide) ?_
 refine wil X228 hx hby d6_3 rfl ?_
 refine wil X228 hx hby d6_5 rfl ?_
 refine wcn X228 hx hby d6_7 (tlt (by decide : (2 : Int32) < (7 : Int32))).2.1 ?_
 refine walN X228 hx hby d6_10 rfl rfl ?_
 show Ends _ _ _ _ T228 (mkF m 11 #[cr x10, ci 2, cr b223, ci 2, ci 7, ci 2, ci c1_] [(.ref x10)]) _ _ _
 refine wilN X228 hx hby d6_11 rfl ?_
 obtain ⟨cl229, Ar229, q229, S229, M229, H229, G229⟩ := id ((PV_x10.other W226 ne_x10_b223).other W228 ne_x10_b223)
 have hin229 := inb_of (j := (2 : Int32)) S229 ⟨by decide, by decide⟩
 refine Ends.go (X228.caload hx (j := (2 : Int32)) (v := (.int c2_)) (by rw [e228]; exact Ar229.1) (State.isArrayOf_alike hZ.alike Ar229.2.1) Ar229.2.2 hin229 (H229.at hin229 rfl) (g := (mkF m 12 #[cr x10, ci 2, cr b223, ci 2, ci 7, ci 2, ci c1_] [(.int 2), (.ref x10)])) rfl rfl (hb hby d6_12)) ?_
 refine wst X228 hx hby d6_13 (l' := #[cr x10, ci 2, cr b223, ci 2, ci 7, ci 2, ci c2_]) rfl ?_
 refine wil X228 hx hby d6_15 rfl ?_
 refine wsp X228 hx hby d6_17 ?_
 show Ends _ _ _ _ T228 (mkF m 20 #[cr x10, ci 2, cr b223, ci 2, ci 7, ci 2, ci c2_] [(.int 255), (.int c2_)]) _ _ _
 refine wcy (pc := 20) (pc' := 26) X228 hx hby d6_20 (flt (hk2_ : ¬ ((255 : Int32) < c2_))).2.2.2 (by decide) (by decide) ?_
 refine walN X228 hx hby d6_26 rfl rfl ?_
 refine wilN X228 hx hby d6_27 rfl ?_
 refine wil X228 hx hby d6_28 rfl ?_
 refine .go (fun _ => XS.i2b X228.here hx rfl (hb hby d6_30) rfl) ?_
 show Ends _ _ _ _ T228 (mkF m 31 #[cr x10, ci 2, cr b223, ci 2, ci 7, ci 2, ci c2_] [(.int (c2_.toInt8.toInt32)), (.int 2), (.ref b223)]) _ _ _
 obtain ⟨cl230, Ar230, q230, S230, M230, H230, G230⟩ := id V228
 have hin230 := inb_of (j := (2 : Int32)) S230 ⟨by decide, by decide⟩
 obtain ⟨T230, h230, X230, e230, W230, st230⟩ := stB X228 hx hZ e228 Ar230 (j := (2 : Int32)) hin230 (g := (mkF m 31 #[cr x10, ci 2, cr b223, ci 2, ci 7, ci 2, ci c2_] [(.int (c2_.toInt8.toInt32)), (.int 2), (.ref b223)])) rfl rfl (hb hby d6_31)
 refine Ends.go st230 ?_
 have V230 : Arv Z h230 b223 k223 .byte (7 : Int32) [(.int (c0_.toInt8.toInt32)), (.int (c1_.toInt8.toInt32)), (.int (nar .byte (c2_.toInt8.toInt32))), (.int 0), (.int 0), (.int 0), (.int 0)] (.int 0) := Arv.set Ar230 q230 S230 M230 H230 G230 (fits_nar_byte _) W230 2 rfl (Nat.le_of_ble_eq_true rfl)
 rw [own_narb] at V230
 have K230 := K228.wr W230 (Or.inl (List.mem_of_getElem? (i := 0) rfl))
 have O230 := O228.wr W230 g_b223
 have N230 := Fr.snoc X230 N228 g_b223
 refine wii X230 hx hby d6_32 (l' := #[cr x10, ci 3, cr b223, ci 2, ci 7, ci 2, ci c2_]) rfl rfl ?_
 refine wii X230 hx hby d6_35 (l' := #[cr x10, ci 3, cr b223, ci 3, ci 7, ci 2, ci c2_]) rfl rfl ?_
 refine wii X230 hx hby d6_38 (l' := #[cr x10, ci 3, cr b223, ci 3, ci 7, ci 3, ci c2_]) rfl rfl ?_
 refine wgo (pc := 41) (pc' := 3) X230 hx hby d6_41 (by decide) (by decide) ?_
 show Ends _ _ _ _ T230 (mkF m 3 #[cr x10, ci 3, cr b223, ci 3, ci 7, ci 3, ci c2_] []) _ _ _
 refine wil X230 hx hby d6_3 rfl ?_
 refine wil X230 hx hby d6_5 rfl ?_
 refine wcn X230 hx hby d6_7 (tlt (by decide : (3 : Int32) < (7 : Int32))).2.1 ?_
 refine walN X230 hx hby d6_10 rfl rfl ?_
 refine wilN X230 hx hby d6_11 rfl ?_
 show Ends _ _ _ _ T230 (mkF m 12 #[cr x10, ci 3, cr b223, ci 3, ci 7, ci 3, ci c2_] [(.int 3), (.ref x10)]) _ _ _
 obtain ⟨cl231, Ar231, q231, S231, M231, H231, G231⟩ := id (((PV_x10.other W226 ne_x10_b223).other W228 ne_x10_b223).other W230 ne_x10_b223)
 have hin231 := inb_of (j := (3 : Int32)) S231 ⟨by decide, by decide⟩
 refine Ends.go (X230.caload hx (j := (3 : Int32)) (v := (.int c3_)) (by rw [e230]; exact Ar231.1) (State.isArrayOf_alike hZ.alike Ar231.2.1) Ar231.2.2 hin231 (H231.at hin231 rfl) (g := (mkF m 12 #[cr x10, ci 3, cr b223, ci 3, ci 7, ci 3, ci c2_] [(.int 3), (.ref x10)])) rfl rfl (hb hby d6_12)) ?_
 refine wst X230 hx hby d6_13 (l' := #[cr x10, ci 3, cr b223, ci 3, ci 7, ci 3, ci c3_]) rfl ?_
 refine wil X230 hx hby d6_15 rfl ?_
 refine wsp X230 hx hby d6_17 ?_
 refine wcy (pc := 20) (pc' := 26) X230 hx hby d6_20 (flt (hk3_ : ¬ ((255 : Int32) < c3_))).2.2.2 (by decide) (by decide) ?_
 show Ends _ _ _ _ T230 (mkF m 26 #[cr x10, ci 3, cr b223, ci 3, ci 7, ci 3, ci c3_] []) _ _ _
 refine walN X230 hx hby d6_26 rfl rfl ?_
 refine wilN X230 hx hby d6_27 rfl ?_
 refine wil X230 hx hby d6_28 rfl ?_
 refine .go (fun _ => XS.i2b X230.here hx rfl (hb hby d6_30) rfl) ?_
 obtain ⟨cl232, Ar232, q232, S232, M232, H232, G232⟩ := id V230
 have hin232 := inb_of (j := (3 : Int32)) S232 ⟨by decide, by decide⟩
 obtain ⟨T232, h232, X232, e232, W232, st232⟩ := stB X230 hx hZ e230 Ar232 (j := (3 : Int32)) hin232 (g := (mkF m 31 #[cr x10, ci 3, cr b223, ci 3, ci 7, ci 3, ci c3_] [(.int (c3_.toInt8.toInt32)), (.int 3), (.ref b223)])) rfl rfl (hb hby d6_31)
 refine Ends.go st232 ?_
 have V232 : Arv Z h232 b223 k223 .byte (7 : Int32) [(.int (c0_.toInt8.toInt32)), (.int (c1_.toInt8.toInt32)), (.int (c2_.toInt8.toInt32)), (.int (nar .byte (c3_.toInt8.toInt32))), (.int 0), (.int 0), (.int 0)] (.int 0) := Arv.set Ar232 q232 S232 M232 H232 G232 (fits_nar_byte _) W232 3 rfl (Nat.le_of_ble_eq_true rfl)
 rw [own_narb] at V232
 have K232 := K230.wr W232 (Or.inl (List.mem_of_getElem? (i := 0) rfl))
 have O232 := O230.wr W232 g_b223
 have N232 := Fr.snoc X232 N230 g_b223
 show Ends _ _ _ _ T232 (mkF m 32 #[cr x10, ci 3, cr b223, ci 3, ci 7, ci 3, ci c3_] []) _ _ _
 refine wii X232 hx hby d6_32 (l' := #[cr x10, ci 4, cr b223, ci 3, ci 7, ci 3, ci c3_]) rfl rfl ?_
 refine wii X232 hx hby d6_35 (l' := #[cr x10, ci 4, cr b223, ci 4, ci 7, ci 3, ci c3_]) rfl rfl ?_
 refine wii X232 hx hby d6_38 (l' := #[cr x10, ci 4, cr b223, ci 4, ci 7, ci 4, ci c3_]) rfl rfl ?_
 refine wgo (pc := 41) (pc' := 3) X232 hx hby d6_41 (by decide) (by decide) ?_
 refine wil X232 hx hby d6_3 rfl ?_
 show Ends _ _ _ _ T232 (mkF m 5 #[cr x10, ci 4, cr b223, ci 4, ci 7, ci 4, ci c3_] [(.int 4)]) _ _ _
 refine wil X232 hx hby d6_5 rfl ?_
 refine wcn X232 hx hby d6_7 (tlt (by decide : (4 : Int32) < (7 : Int32))).2.1 ?_
 refine walN X232 hx hby d6_10 rfl rfl ?_
 refine wilN X232 hx hby d6_11 rfl ?_
 obtain ⟨cl233, Ar233, q233, S233, M233, H233, G233⟩ := id ((((PV_x10.other W226 ne_x10_b223).other W228 ne_x10_b223).other W230 ne_x10_b223).other W232 ne_x10_b223)
 have hin233 := inb_of (j := (4 : Int32)) S233 ⟨by decide, by decide⟩
 refine Ends.go (X232.caload hx (j := (4 : Int32)) (v := (.int c4_)) (by rw [e232]; exact Ar233.1) (State.isArrayOf_alike hZ.alike Ar233.2.1) Ar233.2.2 hin233 (H233.at hin233 rfl) (g := (mkF m 12 #[cr x10, ci 4, cr b223, ci 4, ci 7, ci 4, ci c3_] [(.int 4), (.ref x10)])) rfl rfl (hb hby d6_12)) ?_
 show Ends _ _ _ _ T232 (mkF m 13 #[cr x10, ci 4, cr b223, ci 4, ci 7, ci 4, ci c3_] [(.int c4_)]) _ _ _
 refine wst X232 hx hby d6_13 (l' := #[cr x10, ci 4, cr b223, ci 4, ci 7, ci 4, ci c4_]) rfl ?_
 refine wil X232 hx hby d6_15 rfl ?_
 refine wsp X232 hx hby d6_17 ?_
 refine wcy (pc := 20) (pc' := 26) X232 hx hby d6_20 (flt (hk4_ : ¬ ((255 : Int32) < c4_))).2.2.2 (by decide) (by decide) ?_
 refine walN X232 hx hby d6_26 rfl rfl ?_
 show Ends _ _ _ _ T232 (mkF m 27 #[cr x10, ci 4, cr b223, ci 4, ci 7, ci 4, ci c4_] [(.ref b223)]) _ _ _
 refine wilN X232 hx hby d6_27 rfl ?_
 refine wil X232 hx hby d6_28 rfl ?_
 refine .go (fun _ => XS.i2b X232.here hx rfl (hb hby d6_30) rfl) ?_
 obtain ⟨cl234, Ar234, q234, S234, M234, H234, G234⟩ := id V232
 have hin234 := inb_of (j := (4 : Int32)) S234 ⟨by decide, by decide⟩
 obtain ⟨T234, h234, X234, e234, W234, st234⟩ := stB X232 hx hZ e232 Ar234 (j := (4 : Int32)) hin234 (g := (mkF m 31 #[cr x10, ci 4, cr b223, ci 4, ci 7, ci 4, ci c4_] [(.int (c4_.toInt8.toInt32)), (.int 4), (.ref b223)])) rfl rfl (hb hby d6_31)
 refine Ends.go st234 ?_
 have V234 : Arv Z h234 b223 k223 .byte (7 : Int32) [(.int (c0_.toInt8.toInt32)), (.int (c1_.toInt8.toInt32)), (.int (c2_.toInt8.toInt32)), (.int (c3_.toInt8.toInt32)), (.int (nar .byte (c4_.toInt8.toInt32))), (.int 0), (.int 0)] (.int 0) := Arv.set Ar234 q234 S234 M234 H234 G234 (fits_nar_byte _) W234 4 rfl (Nat.le_of_ble_eq_true rfl)
 rw [own_narb] at V234
 have K234 := K232.wr W234 (Or.inl (List.mem_of_getElem? (i := 0) rfl))
 have O234 := O232.wr W234 g_b223
 have N234 := Fr.snoc X234 N232 g_b223
 refine wii X234 hx hby d6_32 (l' := #[cr x10, ci 5, cr b223, ci 4, ci 7, ci 4, ci c4_]) rfl rfl ?_
 show Ends _ _ _ _ T234 (mkF m 35 #[cr x10, ci 5, cr b223, ci 4, ci 7, ci 4, ci c4_] []) _ _ _
 refine wii X234 hx hby d6_35 (l' := #[cr x10, ci 5, cr b223, ci 5, ci 7, ci 4, ci c4_]) rfl rfl ?_
 refine wii X234 hx hby d6_38 (l' := #[cr x10, ci 5, cr b223, ci 5, ci 7, ci 5, ci c4_]) rfl rfl ?_
 refine wgo (pc := 41) (pc' := 3) X234 hx hby d6_41 (by decide) (by decide) ?_
 refine wil X234 hx hby d6_3 rfl ?_
 refine wil X234 hx hby d6_5 rfl ?_
 show Ends _ _ _ _ T234 (mkF m 7 #[cr x10, ci 5, cr b223, ci 5, ci 7, ci 5, ci c4_] [(.int 7), (.int 5)]) _ _ _
 refine wcn X234 hx hby d6_7 (tlt (by decide : (5 : Int32) < (7 : Int32))).2.1 ?_
 refine walN X234 hx hby d6_10 rfl rfl ?_
 refine wilN X234 hx hby d6_11 rfl ?_
 obtain ⟨cl235, Ar235, q235, S235, M235, H235, G235⟩ := id (((((PV_x10.other W226 ne_x10_b223).other W228 ne_x10_b223).other W230 ne_x10_b223).other W232 ne_x10_b223).other W234 ne_x10_b223)
 have hin235 := inb_of (j := (5 : Int32)) S235 ⟨by decide, by decide⟩
 refine Ends.go (X234.caload hx (j := (5 : Int32)) (v := (.int c5_)) (by rw [e234]; exact Ar235.1) (State.isArrayOf_alike hZ.alike Ar235.2.1) Ar235.2.2 hin235 (H235.at hin235 rfl) (g := (mkF m 12 #[cr x10, ci 5, cr b223, ci 5, ci 7, ci 5, ci c4_] [(.int 5), (.ref x10)])) rfl rfl (hb hby d6_12)) ?_
 refine wst X234 hx hby d6_13 (l' := #[cr x10, ci 5, cr b223, ci 5, ci 7, ci 5, ci c5_]) rfl ?_
 show Ends _ _ _ _ T234 (mkF m 15 #[cr x10, ci 5, cr b223, ci 5, ci 7, ci 5, ci c5_] []) _ _ _
 refine wil X234 hx hby d6_15 rfl ?_
 refine wsp X234 hx hby d6_17 ?_
 refine wcy (pc := 20) (pc' := 26) X234 hx hby d6_20 (flt (hk5_ : ¬ ((255 : Int32) < c5_))).2.2.2 (by decide) (by decide) ?_
 refine walN X234 hx hby d6_26 rfl rfl ?_
 refine wilN X234 hx hby d6_27 rfl ?_
 show Ends _ _ _ _ T234 (mkF m 28 #[cr x10, ci 5, cr b223, ci 5, ci 7, ci 5, ci c5_] [(.int 5), (.ref b223)]) _ _ _
 refine wil X234 hx hby d6_28 rfl ?_
 refine .go (fun _ => XS.i2b X234.here hx rfl (hb hby d6_30) rfl) ?_
 obtain ⟨cl236, Ar236, q236, S236, M236, H236, G236⟩ := id V234
 have hin236 := inb_of (j := (5 : Int32)) S236 ⟨by decide, by decide⟩
 obtain ⟨T236, h236, X236, e236, W236, st236⟩ := stB X234 hx hZ e234 Ar236 (j := (5 : Int32)) hin236 (g := (mkF m 31 #[cr x10, ci 5, cr b223, ci 5, ci 7, ci 5, ci c5_] [(.int (c5_.toInt8.toInt32)), (.int 5), (.ref b223)])) rfl rfl (hb hby d6_31)
 refine Ends.go st236 ?_
 have V236 : Arv Z h236 b223 k223 .byte (7 : Int32) [(.int (c0_.toInt8.toInt32)), (.int (c1_.toInt8.toInt32)), (.int (c2_.toInt8.toInt32)), (.int (c3_.toInt8.toInt32)), (.int (c4_.toInt8.toInt32)), (.int (nar .byte (c5_.toInt8.toInt32))), (.int 0)] (.int 0) := Arv.set Ar236 q236 S236 M236 H236 G236 (fits_nar_byte _) W236 5 rfl (Nat.le_of_ble_eq_true rfl)
 rw [own_narb] at V236
 have K236 := K234.wr W236 (Or.inl (List.mem_of_getElem? (i := 0) rfl))
 have O236 := O234.wr W236 g_b223
 have N236 := Fr.snoc X236 N234 g_b223
 refine wii X236 hx hby d6_32 (l' := #[cr x10, ci 6, cr b223, ci 5, ci 7, ci 5, ci c5_]) rfl rfl ?_
 refine wii X236 hx hby d6_35 (l' := #[cr x10, ci 6, cr b223, ci 6, ci 7, ci 5, ci c5_]) rfl rfl ?_
 show Ends _ _ _ _ T236 (mkF m 38 #[cr x10, ci 6, cr b223, ci 6, ci 7, ci 5, ci c5_] []) _ _ _
 refine wii X236 hx hby d6_38 (l' := #[cr x10, ci 6, cr b223, ci 6, ci 7, ci 6, ci c5_]) rfl rfl ?_
 refine wgo (pc := 41) (pc' := 3) X236 hx hby d6_41 (by decide) (by decide) ?_
 refine wil X236 hx hby d6_3 rfl ?_
 refine wil X236 hx hby d6_5 rfl ?_
 refine wcn X236 hx hby d6_7 (tlt (by decide : (6 : Int32) < (7 : Int32))).2.1 ?_
 show Ends _ _ _ _ T236 (mkF m 10 #[cr x10, ci 6, cr b223, ci 6, ci 7, ci 6, ci c5_] []) _ _ _
 refine walN X236 hx hby d6_10 rfl rfl ?_
 refine wilN X236 hx hby d6_11 rfl ?_
 obtain ⟨cl237, Ar237, q237, S237, M237, H237, G237⟩ := id ((((((PV_x10.other W226 ne_x10_b223).other W228 ne_x10_b223).other W230 ne_x10_b223).other W232 ne_x10_b223).other W234 ne_x10_b223).other W236 ne_x10_b223)
 have hin237 := inb_of (j := (6 : Int32)) S237 ⟨by decide, by decide⟩
 refine Ends.go (X236.caload hx (j := (6 : Int32)) (v := (.int c6_)) (by rw [e236]; exact Ar237.1) (State.isArrayOf_alike hZ.alike Ar237.2.1) Ar237.2.2 hin237 (H237.at hin237 rfl) (g := (mkF m 12 #[cr x10, ci 6, cr b223, ci 6, ci 7, ci 6, ci c5_] [(.int 6), (.ref x10)])) rfl rfl (hb hby d6_12)) ?_
 refine wst X236 hx hby d6_13 (l' := #[cr x10, ci 6, cr b223, ci 6, ci 7, ci 6, ci c6_]) rfl ?_
 refine wil X236 hx hby d6_15 rfl ?_
 show Ends _ _ _ _ T236 (mkF m 17 #[cr x10, ci 6, cr b223, ci 6, ci 7, ci 6, ci c6_] [(.int c6_)]) _ _ _
 refine wsp X236 hx hby d6_17 ?_
 refine wcy (pc := 20) (pc' := 26) X236 hx hby d6_20 (flt (hk6_ : ¬ ((255 : Int32) < c6_))).2.2.2 (by decide) (by decide) ?_
 refine walN X236 hx hby d6_26 rfl rfl ?_
 refine wilN X236 hx hby d6_27 rfl ?_
 refine wil X236 hx hby d6_28 rfl ?_
 show Ends _ _ _ _ T236 (mkF m 30 #[cr x10, ci 6, cr b223, ci 6, ci 7, ci 6, ci c6_] [(.int c6_), (.int 6), (.ref b223)]) _ _ _
 refine .go (fun _ => XS.i2b X236.here hx rfl (hb hby d6_30) rfl) ?_
 obtain ⟨cl238, Ar238, q238, S238, M238, H238, G238⟩ := id V236
 have hin238 := inb_of (j := (6 : Int32)) S238 ⟨by decide, by decide⟩
 obtain ⟨T238, h238, X238, e238, W238, st238⟩ := stB X236 hx hZ e236 Ar238 (j := (6 : Int32)) hin238 (g := (mkF m 31 #[cr x10, ci 6, cr b223, ci 6, ci 7, ci 6, ci c6_] [(.int (c6_.toInt8.toInt32)), (.int 6), (.ref b223)])) rfl rfl (hb hby d6_31)
 refine Ends.go st238 ?_
 have V238 : Arv Z h238 b223 k223 .byte (7 : Int32) [(.int (c0_.toInt8.toInt32)), (.int (c1_.toInt8.toInt32)), (.int (c2_.toInt8.toInt32)), (.int (c3_.toInt8.toInt32)), (.int (c4_.toInt8.toInt32)), (.int (c5_.toInt8.toInt32)), (.int (nar .byte (c6_.toInt8.toInt32)))] (.int 0) := Arv.set Ar238 q238 S238 M238 H238 G238 (fits_nar_byte _) W238 6 rfl (Nat.le_of_ble_eq_true rfl)
 rw [own_narb] at V238
 have K238 := K236.wr W238 (Or.inl (List.mem_of_getElem? (i := 0) rfl))
 have O238 := O236.wr W238 g_b223
 have N238 := Fr.snoc X238 N236 g_b223
 refine wii X238 hx hby d6_32 (l' := #[cr x10, ci 7, cr b223, ci 6, ci 7, ci 6, ci c6_]) rfl rfl ?_
 refine wii X238 hx hby d6_35 (l' := #[cr x10, ci 7, cr b223, ci 7, ci 7, ci 6, ci c6_]) rfl rfl ?_
 refine wii X238 hx hby d6_38 (l' := #[cr x10, ci 7, cr b223, ci 7, ci 7, ci 7, ci c6_]) rfl rfl ?_
 show Ends _ _ _ _ T238 (mkF m 41 #[cr x10, ci 7, cr b223, ci 7, ci 7, ci 7, ci c6_] []) _ _ _
 refine wgo (pc := 41) (pc' := 3) X238 hx hby d6_41 (by decide) (by decide) ?_
 refine wil X238 hx hby d6_3 rfl ?_
 refine wil X238 hx hby d6_5 rfl ?_
 refine wcy (pc := 7) (pc' := 44) X238 hx hby d6_7 (flt (by decide : ¬ ((7 : Int32) < (7 : Int32)))).2.1 (by decide) (by decide) ?_
 refine wil X238 hx hby d6_44 rfl ?_
 show Ends _ _ _ _ T238 (mkF m 46 #[cr x10, ci 7, cr b223, ci 7, ci 7, ci 7, ci c6_] [(.int 7)]) _ _ _
 refine Ends.ret X238 hx Bd.notSynchronized (t := .int) Bd.returns rfl (Or.inl ⟨rfl, by simp, _, rfl⟩) (hb hby d6_46) (by decide) (by decide) ?_
 rw [e238]
 exact ⟨rfl, N238, K238, V238⟩

theorem d5_0 : decode jdk_52_method_16_code 0 = .ok (.iload_n 2, 1) := by decide +kernel
theorem d5_1 : decode jdk_52_method_16_code 1 = .ok (.newarray .byte, 2) := by decide +kernel
theorem d5_3 : decode jdk_52_method_16_code 3 = .ok (.astore_n 3, 1) := by decide +kernel
theorem d5_4 : decode jdk_52_method_16_code 4 = .ok (.aload_n 0, 1) := by decide +kernel
theorem d5_5 : decode jdk_52_method_16_code 5 = .ok (.iload_n 1, 1) := by decide +kernel
theorem d5_6 : decode jdk_52_method_16_code 6 = .ok (.aload_n 3, 1) := by decide +kernel
theorem d5_7 : decode jdk_52_method_16_code 7 = .ok (.iconst 0, 1) := by decide +kernel
theorem d5_8 : decode jdk_52_method_16_code 8 = .ok (.iload_n 2, 1) := by decide +kernel
theorem d5_9 : decode jdk_52_method_16_code 9 = .ok (.invokestatic 115, 3) := by decide +kernel
theorem d5_12 : decode jdk_52_method_16_code 12 = .ok (.istore 4, 2) := by decide +kernel
theorem d5_14 : decode jdk_52_method_16_code 14 = .ok (.iload 4, 2) := by decide +kernel
theorem d5_16 : decode jdk_52_method_16_code 16 = .ok (.iload_n 2, 1) := by decide +kernel
theorem d5_17 : decode jdk_52_method_16_code 17 = .ok (.if_icmp .eq 40, 3) := by decide +kernel
theorem d5_57 : decode jdk_52_method_16_code 57 = .ok (.aload_n 3, 1) := by decide +kernel
theorem d5_58 : decode jdk_52_method_16_code 58 = .ok (.areturn, 1) := by decide +kernel
theorem pn5 : plainName "java/lang/StringUTF16" = true := by first | (simp [plainName, overriddenIn]; done) | decide +kernel
theorem pdx_4 : parseMethodDescriptor "([CI[BII)I" = some ⟨[(.array .char), .int, (.array .byte), .int, .int], some .int⟩ := by decide +kernel
theorem ef5_rii (m : MethodId) (x0 : Addr) (x1 : Int32) (x2 : Int32) : entryFrame m #[(.ref x0), (.int x1), (.int x2)] 6 = mkF m 0 #[.val (.ref x0), .val (.int x1), .val (.int x2), .unset, .unset, .unset] [] := by first | (simp [entryFrame, mkF, argsToLocals, Value.category]; done) | rfl
set_option maxRecDepth 65536 in
set_option maxHeartbeats 40000000 in
theorem rx5_222 (l : Launch) (Z : State) (a0 : Array Value) (hw : ∀ d ∈ tables_1, d.before a0 Z = true) (ws : List Jvm.Cond) (n0 : Nat) (h0 : Heap) (O0 : Old Z n0 h0)  (x10 : Addr) (kx10 : ClassId) (c0_ : Int32) (c1_ : Int32) (c2_ : Int32) (c3_ : Int32) (c4_ : Int32) (c5_ : Int32) (c6_ : Int32) (PV_x10 : Arv Z h0 x10 kx10 .char (7 : Int32) [(.int c0_), (.int c1_), (.int c2_), (.int c3_), (.int c4_), (.int c5_), (.int c6_)] (.int 0)) (hk0_ : ¬ ((255 : Int32) < c0_)) (hk1_ : ¬ ((255 : Int32) < c1_)) (hk2_ : ¬ ((255 : Int32) < c2_)) (hk3_ : ¬ ((255 : Int32) < c3_)) (hk4_ : ¬ ((255 : Int32) < c4_)) (hk5_ : ¬ ((255 : Int32) < c5_)) (hk6_ : ¬ ((255 : Int32) < c6_)) :
  Meets1 l ym10 jdk_52_method_16_code 6 (some (.array .byte)) ws ({ frames := 1, cells := 1, slots := 7, locals := 18 } : Room) #[(.ref x10), (.int 0), (.int 7)] Z h0 (fun v h L => ∃ (b223 : Addr) (k223 : ClassId), v = some (.ref b223) ∧ Fr n0 L ∧ Keep h0 h [] ∧ h0.size ≤ b223 ∧ Arv Z h b223 k223 .byte (7 : Int32) [(.int (c0_.toInt8.toInt32)), (.int (c1_.toInt8.toInt32)), (.int (c2_.toInt8.toInt32)), (.int (c3_.toInt8.toInt32)), (.int (c4_.toInt8.toInt32)), (.int (c5_.toInt8.toInt32)), (.int (c6_.toInt8.toInt32))] (.int 0)) := by
 refine MetFree.of_bodySF (plainFor_of_name pn5) hisR ?_
 intro p e s m args below meth c s₁ Bd hml0 hP hK
 obtain ⟨rfl, hZ, hh⟩ := hP
 have hx := Bd.exec
 have hby := Bd.bytes
 have hml : c.maxLocals = 6 := hml0
 have hown : s.vm.findClass "java/lang/StringUTF16" = some m.cls := findClass_of_methodNamed Bd.named
 have hnm := (name_of_methodNamed Bd.named Bd.method).1
 have X0 : Stand p l e ({ frames := 1, cells := 1, slots := 7, locals := 18 } : Room) s m #[(.ref x10), (.int 0), (.int 7)] below meth c s₁ [] 0 0 := Stand.of_body Bd
 have e0 : s₁.heap = h0 := by rw [← hh, Bd.state]; rfl
 have N0 := Fr.nil n0
 have Z0 := own_old_le O0
 show Ends _ _ _ _ s₁ (entryFrame m #[(.ref x10), (.int 0), (.int 7)] 6) ({ frames := 1, cells := 1, slots := 7, locals := 18 } : Room).cells ({ frames := 1, cells := 1, slots := 7, locals := 18 } : Room).slots (fun v h L => ∃ (b223 : Addr) (k223 : ClassId), v = some (.ref b223) ∧ Fr n0 L ∧ Keep h0 h [] ∧ h0.size ≤ b223 ∧ Arv Z h b223 k223 .byte (7 : Int32) [(.int (c0_.toInt8.toInt32)), (.int (c1_.toInt8.toInt32)), (.int (c2_.toInt8.toInt32)), (.int (c3_.toInt8.toInt32)), (.int (c4_.toInt8.toInt32)), (.int (c5_.toInt8.toInt32)), (.int (c6_.toInt8.toInt32))] (.int 0))
 refine Ends.go (fun _ k => castTop (ef5_rii m x10 (0 : Int32) (7 : Int32)) k) ?_
 have K0 := Keep.refl h0 []
 show Ends _ _ _ _ s₁ (mkF m 0 #[cr x10, ci 0, ci 7, cu, cu, cu] []) _ _ _
 refine wilN X0 hx hby d5_0 rfl ?_
 obtain ⟨T223, h223, k223, X223, e223, E223, A223, st223⟩ := newP X0 hx hZ (ow hw 27 rfl) e0 (g := (mkF m 1 #[cr x10, ci 0, ci 7, cu, cu, cu] [(.int 7)])) rfl (hb hby d5_1) rfl (by decide) (cap := 7) (by decide) (by decide) (by decide) (by decide)
 obtain ⟨b223, g223⟩ : ∃ z, z = h0.size := ⟨_, rfl⟩
 rw [← g223] at A223 st223
 refine Ends.go st223 ?_
 have g_b223 : n0 ≤ b223 := Nat.le_trans (own_old_le O0) (Nat.le_of_eq g223.symm)
 have sz_b223 : h0.size ≤ b223 := Nat.le_trans K0.1 (Nat.le_of_eq g223.symm)
 have K223 := K0.ext E223
 have O223 := O0.ext E223
 have V_b223 : Arv Z h223 b223 k223 .byte (7 : Int32) [(.int 0), (.int 0), (.int 0), (.int 0), (.int 0), (.int 0), (.int 0)] (.int 0) := (Arv.new A223 (by decide)).pad (pad_rep [] (.int 0) 7)
 refine wasN X223 hx hby d5_3 (l' := #[cr x10, ci 0, ci 7, cr b223, cu, cu]) rfl rfl ?_
 refine walN X223 hx hby d5_4 rfl rfl ?_
 show Ends _ _ _ _ T223 (mkF m 5 #[cr x10, ci 0, ci 7, cr b223, cu, cu] [(.ref x10)]) _ _ _
 refine wilN X223 hx hby d5_5 rfl ?_
 refine walN X223 hx hby d5_6 rfl rfl ?_
 refine wic X223 hx hby d5_7 ?_
 refine wilN X223 hx hby d5_8 rfl ?_
 obtain ⟨_, _, ⟨T239, L239, k239, n239⟩, -, X239, ⟨Lc239, hQ239, l239, y239, z239⟩, st239⟩ := Jvm.LawKit.callS X223 hx (y := ym1) hown (mvT hZ (ow hw 28 rfl)) (mvT hZ (ow hw 29 rfl)) (mvT hZ (ow hw 25 rfl)) (mvT hZ (ow hw 30 rfl)) (by decide) (own_backOf (W := 0) (rx6_224 l Z a0 hw [] n0 h223 O223  x10 b223 kx10 c0_ c1_ c2_ c3_ c4_ c5_ c6_ k223 (PV_x10.ext E223) V_b223 (Nat.ne_of_lt (Nat.lt_of_lt_of_le PV_x10.lt sz_b223)) g_b223 hk0_ hk1_ hk2_ hk3_ hk4_ hk5_ hk6_) hZ (ow hw 30 rfl) (ow hw 25 rfl) (by decide) (by decide)) (g := (mkF m 9 #[cr x10, ci 0, ci 7, cr b223, cu, cu] [(.int 7), (.int 0), (.ref b223), (.int 0), (.ref x10)])) rfl (by rw [hml]; rfl) (argsL := [(.ref x10), (.int 0), (.ref b223), (.int 0), (.int 7)]) (rest := []) (lenOf pdx_4 rfl) rfl (by show 2 * 0 + _ ≤ _; exact Nat.le_of_eq rfl) (hb hby d5_9) (fun _ _ => ⟨rfl, e223, (by decide : 1 + 0 ≤ _), (by decide : 7 + 0 ≤ _)⟩)
 dsimp only [Pt.U, Pt.locs, Pt.cells, Pt.slots] at X239 l239 y239 z239 st239 hQ239
 subst l239 y239 z239
 obtain ⟨rfl, N239q, K239c, Y239_0⟩ := hQ239
 have N239 := Fr.app N0 N239q
 refine Ends.go st239 ?_
 obtain ⟨h239, e239⟩ : ∃ z, T239.heap = z := ⟨_, rfl⟩
 rw [e239] at K239c Y239_0
 have K239 := K223.trans K239c (allS (Or.inr sz_b223) all0)
 have O239 := O223.keep K239c (allS g_b223 all0)
 show Ends _ _ _ _ T239 (mkF m 12 #[cr x10, ci 0, ci 7, cr b223, cu, cu] [(.int 7)]) _ _ _
 refine wst X239 hx hby d5_12 (l' := #[cr x10, ci 0, ci 7, cr b223, ci 7, cu]) rfl ?_
 refine wil X239 hx hby d5_14 rfl ?_
 refine wilN X239 hx hby d5_16 rfl ?_
 refine wcy (pc := 17) (pc' := 57) X239 hx hby d5_17 (teq (by decide : (7 : Int32) = (7 : Int32))).1 (by decide) (by decide) ?_
 refine walN X239 hx hby d5_57 rfl rfl ?_
 show Ends _ _ _ _ T239 (mkF m 58 #[cr x10, ci 0, ci 7, cr b223, ci 7, cu] [(.ref b223)]) _ _ _
 refine Ends.ret X239 hx Bd.notSynchronized (t := (.array .byte)) Bd.returns rfl (Or.inr (Or.inr (Or.inr (Or.inr ⟨rfl, rfl, rfl⟩)))) (hb hby d5_58) (by decide) (by decide) ?_
 rw [e239]
 exact ⟨b223, k223, rfl, N239, K239, sz_b223, Y239_0⟩

theorem d12_0 : decode jdk_52_method_15_code 0 = .ok (.iload_n 1, 1) := by decide +kernel
theorem d12_1 : decode jdk_52_method_15_code 1 = .ok (.aload_n 0, 1) := by decide +kernel
theorem d12_2 : decode jdk_52_method_15_code 2 = .ok (.arraylength, 1) := by decide +kernel
theorem d12_3 : decode jdk_52_method_15_code 3 = .ok (.isub, 1) := by decide +kernel
theorem d12_4 : decode jdk_52_method_15_code 4 = .ok (.bipush 31, 2) := by decide +kernel
theorem d12_6 : decode jdk_52_method_15_code 6 = .ok (.iushr, 1) := by decide +kernel
theorem d12_7 : decode jdk_52_method_15_code 7 = .ok (.i2b, 1) := by decide +kernel
theorem d12_8 : decode jdk_52_method_15_code 8 = .ok (.ireturn, 1) := by decide +kernel
theorem pn12 : plainName "java/lang/StringUTF16" = true := by first | (simp [plainName, overriddenIn]; done) | decide +kernel
theorem pdx_5 : parseMethodDescriptor "([CII)[B" = some ⟨[(.array .char), .int, .int], some (.array .byte)⟩ := by decide +kernel
theorem ef12_ri (m : MethodId) (x0 : Addr) (x1 : Int32) : entryFrame m #[(.ref x0), (.int x1)] 2 = mkF m 0 #[.val (.ref x0), .val (.int x1)] [] := by first | (simp [entryFrame, mkF, argsToLocals, Value.category]; done) | rfl
set_option maxRecDepth 65536 in
set_option maxHeartbeats 40000000 in
theorem rx12_243 (l : Launch) (Z : State) (a0 : Array Value) (hw : ∀ d ∈ tables_1, d.before a0 Z = true) (ws : List Jvm.Cond) (n0 : Nat) (h0 : Heap) (O0 : Old Z n0 h0)  (b241 : Addr) (k242 : ClassId) (c0_ : Int32) (c1_ : Int32) (c2_ : Int32) (c3_ : Int32) (c4_ : Int32) (c5_ : Int32) (c6_ : Int32) (PV_b241 : Arv Z h0 b241 k242 .byte (7 : Int32) [(.int (c0_.toInt8.toInt32)), (.int (c1_.toInt8.toInt32)), (.int (c2_.toInt8.toInt32)), (.int (c3_.toInt8.toInt32)), (.int (c4_.toInt8.toInt32)), (.int (c5_.toInt8.toInt32)), (.int (c6_.toInt8.toInt32))] (.int 0)) :
  Meets1 l ym11 jdk_52_method_15_code 2 (some .byte) ws ({ frames := 0, cells := 0, slots := 0, locals := 0 } : Room) #[(.ref b241), (.int 7)] Z h0 (fun v h L => v = some (.int 0) ∧ Fr n0 L ∧ Keep h0 h []) := by
 refine MetFree.of_bodySF (plainFor_of_name pn12) hisR ?_
 intro p e s m args below meth c s₁ Bd hml0 hP hK
 obtain ⟨rfl, hZ, hh⟩ := hP
 have hx := Bd.exec
 have hby := Bd.bytes
 have hml : c.maxLocals = 2 := hml0
 have hown : s.vm.findClass "java/lang/StringUTF16" = some m.cls := findClass_of_methodNamed Bd.named
 have hnm := (name_of_methodNamed Bd.named Bd.method).1
 have X0 : Stand p l e ({ frames := 0, cells := 0, slots := 0, locals := 0 } : Room) s m #[(.ref b241), (.int 7)] below meth c s₁ [] 0 0 := Stand.of_body Bd
 have e0 : s₁.heap = h0 := by rw [← hh, Bd.state]; rfl
 have N0 := Fr.nil n0
 have Z0 := own_old_le O0
 show Ends _ _ _ _ s₁ (entryFrame m #[(.ref b241), (.int 7)] 2) ({ frames := 0, cells := 0, slots := 0, locals := 0 } : Room).cells ({ frames := 0, cells := 0, slots := 0, locals := 0 } : Room).slots (fun v h L => v = some (.int 0) ∧ Fr n0 L ∧ Keep h0 h [])
 refine Ends.go (fun _ k => castTop (ef12_ri m b241 (7 : Int32)) k) ?_
 have K0 := Keep.refl h0 []
 show Ends _ _ _ _ s₁ (mkF m 0 #[cr b241, ci 7] []) _ _ _
 refine wilN X0 hx hby d12_0 rfl ?_
 refine walN X0 hx hby d12_1 rfl rfl ?_
 obtain ⟨cl244, Ar244, q244, S244, M244, H244, G244⟩ := id PV_b241
 refine Ends.go (X0.arraylength hx (by rw [e0]; exact Ar244.1) (State.isArrayOf_alike hZ.alike Ar244.2.1) (g := (mkF m 2 #[cr b241, ci 7] [(.ref b241), (.int 7)])) rfl rfl (hb hby d12_2)) ?_
 rw [len_of S244 M244]
 refine wis X0 hx hby d12_3 ?_
 show Ends _ _ _ _ s₁ (mkF m 4 #[cr b241, ci 7] [(.int 0)]) _ _ _
 refine wbp X0 hx hby d12_4 ?_
 refine .go (fun _ => XS.iushr X0.here hx rfl (hb hby d12_6) rfl) ?_
 refine .go (fun _ => XS.i2b X0.here hx rfl (hb hby d12_7) rfl) ?_
 refine Ends.retZ X0 hx Bd.notSynchronized (t := .byte) Bd.returns (by simp) (hb hby d12_8) (by decide) (by decide) ?_
 rw [e0]
 exact ⟨rfl, N0, K0⟩

theorem d3_0 : decode jdk_42_method_149_code 0 = .ok (.aload_n 0, 1) := by decide +kernel
theorem d3_1 : decode jdk_42_method_149_code 1 = .ok (.invokespecial 1, 3) := by decide +kernel
theorem d3_4 : decode jdk_42_method_149_code 4 = .ok (.iload_n 3, 1) := by decide +kernel
theorem d3_5 : decode jdk_42_method_149_code 5 = .ok (.ifCond .ne 22, 3) := by decide +kernel
theorem d3_27 : decode jdk_42_method_149_code 27 = .ok (.getstatic 38, 3) := by decide +kernel
theorem d3_30 : decode jdk_42_method_149_code 30 = .ok (.ifCond .eq 28, 3) := by decide +kernel
theorem d3_33 : decode jdk_42_method_149_code 33 = .ok (.aload_n 1, 1) := by decide +kernel
theorem d3_34 : decode jdk_42_method_149_code 34 = .ok (.iload_n 2, 1) := by decide +kernel
theorem d3_35 : decode jdk_42_method_149_code 35 = .ok (.iload_n 3, 1) := by decide +kernel
theorem d3_36 : decode jdk_42_method_149_code 36 = .ok (.invokestatic 177, 3) := by decide +kernel
theorem d3_39 : decode jdk_42_method_149_code 39 = .ok (.astore 5, 2) := by decide +kernel
theorem d3_41 : decode jdk_42_method_149_code 41 = .ok (.aload_n 0, 1) := by decide +kernel
theorem d3_42 : decode jdk_42_method_149_code 42 = .ok (.aload 5, 2) := by decide +kernel
theorem d3_44 : decode jdk_42_method_149_code 44 = .ok (.iload_n 3, 1) := by decide +kernel
theorem d3_45 : decode jdk_42_method_149_code 45 = .ok (.invokestatic 47, 3) := by decide +kernel
theorem d3_48 : decode jdk_42_method_149_code 48 = .ok (.putfield 15, 3) := by decide +kernel
theorem d3_51 : decode jdk_42_method_149_code 51 = .ok (.aload_n 0, 1) := by decide +kernel
theorem d3_52 : decode jdk_42_method_149_code 52 = .ok (.aload 5, 2) := by decide +kernel
theorem d3_54 : decode jdk_42_method_149_code 54 = .ok (.putfield 9, 3) := by decide +kernel
theorem d3_57 : decode jdk_42_method_149_code 57 = .ok (.return_, 1) := by decide +kernel
theorem pn3 : plainName "java/lang/String" = true := by first | (simp [plainName, overriddenIn]; done) | decide +kernel
theorem pdx_6 : parseMethodDescriptor "([BI)B" = some ⟨[(.array .byte), .int], some .byte⟩ := by decide +kernel
theorem ef3_rriin (m : MethodId) (x0 : Addr) (x1 : Addr) (x2 : Int32) (x3 : Int32) : entryFrame m #[(.ref x0), (.ref x1), (.int x2), (.int x3), .null] 6 = mkF m 0 #[.val (.ref x0), .val (.ref x1), .val (.int x2), .val (.int x3), .val .null, .unset] [] := by first | (simp [entryFrame, mkF, argsToLocals, Value.category]; done) | rfl
set_option maxRecDepth 65536 in
set_option maxHeartbeats 40000000 in
theorem rx3_219 (l : Launch) (Z : State) (a0 : Array Value) (hw : ∀ d ∈ tables_1, d.before a0 Z = true) (ws : List Jvm.Cond) (n0 : Nat) (h0 : Heap) (O0 : Old Z n0 h0) (G1 : Int32) (G3 : Value) (GF : GlobF Z G1 G3) (b216 : Addr) (x10 : Addr) (kx10 : ClassId) (c0_ : Int32) (c1_ : Int32) (c2_ : Int32) (c3_ : Int32) (c4_ : Int32) (c5_ : Int32) (c6_ : Int32) (PV_x10 : Arv Z h0 x10 kx10 .char (7 : Int32) [(.int c0_), (.int c1_), (.int c2_), (.int c3_), (.int c4_), (.int c5_), (.int c6_)] (.int 0)) (PE_b216 : Exa Z h0 b216 "java/lang/String") (PF_b216_coder : Fld Z h0 b216 "java/lang/String" "coder" "B" (.int 0)) (PF_b216_value : Fld Z h0 b216 "java/lang/String" "value" "[B" .null) (g_b216 : n0 ≤ b216) (hk0_ : ¬ ((255 : Int32) < c0_)) (hk1_ : ¬ ((255 : Int32) < c1_)) (hk2_ : ¬ ((255 : Int32) < c2_)) (hk3_ : ¬ ((255 : Int32) < c3_)) (hk4_ : ¬ ((255 : Int32) < c4_)) (hk5_ : ¬ ((255 : Int32) < c5_)) (hk6_ : ¬ ((255 : Int32) < c6_)) :
  Meets1 l ym12 jdk_42_method_149_code 6 none ws ({ frames := 2, cells := 1, slots := 7, locals := 35 } : Room) #[(.ref b216), (.ref x10), (.int 0), (.int 7), .null] Z h0 (fun v h L => ∃ (b241 : Addr) (k242 : ClassId), v = none ∧ Fr n0 L ∧ Keep h0 h [b216] ∧ h0.size ≤ b241 ∧ Arv Z h b241 k242 .byte (7 : Int32) [(.int (c0_.toInt8.toInt32)), (.int (c1_.toInt8.toInt32)), (.int (c2_.toInt8.toInt32)), (.int (c3_.toInt8.toInt32)), (.int (c4_.toInt8.toInt32)), (.int (c5_.toInt8.toInt32)), (.int (c6_.toInt8.toInt32))] (.int 0) ∧ Fld Z h b216 "java/lang/String" "coder" "B" (.int 0) ∧ Fld Z h b216 "java/lang/String" "value" "[B" (.ref b241)) := by
 refine MetFree.of_bodySF (plainFor_of_name pn3) hisR ?_
 intro p e s m args below meth c s₁ Bd hml0 hP hK
 obtain ⟨rfl, hZ, hh⟩ := hP
 have hx := Bd.exec
 have hby := Bd.bytes
 have hml : c.maxLocals = 6 := hml0
 have hown : s.vm.findClass "java/lang/String" = some m.cls := findClass_of_methodNamed Bd.named
 have hnm := (name_of_methodNamed Bd.named Bd.method).1
 have X0 : Stand p l e ({ frames := 2, cells := 1, slots := 7, locals := 35 } : Room) s m #[(.ref b216), (.ref x10), (.int 0), (.int 7), .null] below meth c s₁ [] 0 0 := Stand.of_body Bd
 have e0 : s₁.heap = h0 := by rw [← hh, Bd.state]; rfl
 have N0 := Fr.nil n0
 have Z0 := own_old_le O0
 show Ends _ _ _ _ s₁ (entryFrame m #[(.ref b216), (.ref x10), (.int 0), (.int 7), .null] 6) ({ frames := 2, cells := 1, slots := 7, locals := 35 } : Room).cells ({ frames := 2, cells := 1, slots := 7, locals := 35 } : Room).slots (fun v h L => ∃ (b241 : Addr) (k242 : ClassId), v = none ∧ Fr n0 L ∧ Keep h0 h [b216] ∧ h0.size ≤ b241 ∧ Arv Z h b241 k242 .byte (7 : Int32) [(.int (c0_.toInt8.toInt32)), (.int (c1_.toInt8.toInt32)), (.int (c2_.toInt8.toInt32)), (.int (c3_.toInt8.toInt32)), (.int (c4_.toInt8.toInt32)), (.int (c5_.toInt8.toInt32)), (.int (c6_.toInt8.toInt32))] (.int 0) ∧ Fld Z h b216 "java/lang/String" "coder" "B" (.int 0) ∧ Fld Z h b216 "java/lang/String" "value" "[B" (.ref b241))
 refine Ends.go (fun _ k => castTop (ef3_rriin m b216 x10 (0 : Int32) (7 : Int32)) k) ?_
 obtain ⟨SCS, P5, SAD, SHI, SLO, SSF, RG3⟩ := id GF
 have K0 := Keep.refl h0 [b216]
 show Ends _ _ _ _ s₁ (mkF m 0 #[cr b216, cr x10, ci 0, ci 7, .val .null, cu] []) _ _ _
 refine walN X0 hx hby d3_0 rfl rfl ?_
 obtain ⟨T220, X220, e220, st220⟩ := initO X0 hx hZ hown (ow hw 19 rfl) (ow hw 20 rfl) (ow hw 21 rfl) e0 (g := (mkF m 1 #[cr b216, cr x10, ci 0, ci 7, .val .null, cu] [(.ref b216)])) rfl (by rw [hml]; rfl) rfl (hb hby d3_1) (by decide) (W := 0) (by show 2 * 0 + _ ≤ _; exact Nat.le_of_eq rfl) (by decide)
 refine Ends.go st220 ?_
 refine wilN X220 hx hby d3_4 rfl ?_
 refine wiy (pc := 5) (pc' := 27) X220 hx hby d3_5 ((if0 _ _).trans (feq (by decide : ¬ ((7 : Int32) = (0 : Int32)))).2) (by decide) (by decide) ?_
 show Ends _ _ _ _ T220 (mkF m 27 #[cr b216, cr x10, ci 0, ci 7, .val .null, cu] []) _ _ _
 obtain ⟨T221, X221, e221, st221⟩ := getS2 X220 hx hZ hown (host := "") (Or.inl (ow hw 22 rfl)) Via.refl e220 (SCS.ext O0.2) (g := (mkF m 27 #[cr b216, cr x10, ci 0, ci 7, .val .null, cu] [])) rfl (hb hby d3_27)
 refine Ends.go st221 ?_
 refine win X221 hx hby d3_30 ((if0 _ _).trans (feq (P5 : ¬ (G1 = (0 : Int32)))).1) ?_
 refine walN X221 hx hby d3_33 rfl rfl ?_
 refine wilN X221 hx hby d3_34 rfl ?_
 refine wilN X221 hx hby d3_35 rfl ?_
 show Ends _ _ _ _ T221 (mkF m 36 #[cr b216, cr x10, ci 0, ci 7, .val .null, cu] [(.int 7), (.int 0), (.ref x10)]) _ _ _
 obtain ⟨_, _, ⟨T240, L240, k240, n240⟩, -, X240, ⟨Lc240, hQ240, l240, y240, z240⟩, st240⟩ := Jvm.LawKit.callS X221 hx (y := ym10) hown (mvT hZ (ow hw 23 rfl)) (mvT hZ (ow hw 24 rfl)) (mvT hZ (ow hw 25 rfl)) (mvT hZ (ow hw 26 rfl)) (by decide) (own_backOf (W := 0) (rx5_222 l Z a0 hw [] n0 h0 O0  x10 kx10 c0_ c1_ c2_ c3_ c4_ c5_ c6_ PV_x10 hk0_ hk1_ hk2_ hk3_ hk4_ hk5_ hk6_) hZ (ow hw 26 rfl) (ow hw 25 rfl) (by decide) (by decide)) (g := (mkF m 36 #[cr b216, cr x10, ci 0, ci 7, .val .null, cu] [(.int 7), (.int 0), (.ref x10)])) rfl (by rw [hml]; rfl) (argsL := [(.ref x10), (.int 0), (.int 7)]) (rest := []) (lenOf pdx_5 rfl) rfl (by show 2 * 0 + _ ≤ _; exact Nat.le_of_eq rfl) (hb hby d3_36) (fun _ _ => ⟨rfl, e221, (by decide : 0 + 1 ≤ _), (by decide : 0 + 7 ≤ _)⟩)
 dsimp only [Pt.U, Pt.locs, Pt.cells, Pt.slots] at X240 l240 y240 z240 st240 hQ240
 subst l240 y240 z240
 obtain ⟨b241, k242, rfl, N240q, K240c, hb240_b241, Y240_0⟩ := hQ240
 have N240 := Fr.app N0 N240q
 refine Ends.go st240 ?_
 have g_b241 : n0 ≤ b241 := Nat.le_trans (own_old_le O0) hb240_b241
 have sz_b241 : h0.size ≤ b241 := Nat.le_trans K0.1 hb240_b241
 obtain ⟨h240, e240⟩ : ∃ z, T240.heap = z := ⟨_, rfl⟩
 rw [e240] at K240c Y240_0
 have K240 := K0.trans K240c all0
 have O240 := O0.keep K240c all0
 refine was X240 hx hby d3_39 (l' := #[cr b216, cr x10, ci 0, ci 7, .val .null, cr b241]) rfl rfl ?_
 refine walN X240 hx hby d3_41 rfl rfl ?_
 refine wal X240 hx hby d3_42 rfl rfl ?_
 refine wilN X240 hx hby d3_44 rfl ?_
 show Ends _ _ _ _ T240 (mkF m 45 #[cr b216, cr x10, ci 0, ci 7, .val .null, cr b241] [(.int 7), (.ref b241), (.ref b216)]) _ _ _
 obtain ⟨_, _, ⟨T245, L245, k245, n245⟩, -, X245, ⟨Lc245, hQ245, l245, y245, z245⟩, st245⟩ := Jvm.LawKit.callS X240 hx (y := ym11) hown (mvT hZ (ow hw 50 rfl)) (mvT hZ (ow hw 51 rfl)) (mvT hZ (ow hw 25 rfl)) (mvT hZ (ow hw 52 rfl)) (by decide) (own_backOf (W := 1) (rx12_243 l Z a0 hw [] n0 h240 O240  b241 k242 c0_ c1_ c2_ c3_ c4_ c5_ c6_ Y240_0) hZ (ow hw 52 rfl) (ow hw 25 rfl) (by decide) (by decide)) (g := (mkF m 45 #[cr b216, cr x10, ci 0, ci 7, .val .null, cr b241] [(.int 7), (.ref b241), (.ref b216)])) rfl (by rw [hml]; rfl) (argsL := [(.ref b241), (.int 7)]) (rest := [(.ref b216)]) (lenOf pdx_6 rfl) rfl (by show 2 * 0 + _ ≤ _; exact Nat.le_of_eq rfl) (hb hby d3_45) (fun _ _ => ⟨rfl, e240, (by decide : 1 + 0 ≤ _), (by decide : 7 + 0 ≤ _)⟩)
 dsimp only [Pt.U, Pt.locs, Pt.cells, Pt.slots] at X245 l245 y245 z245 st245 hQ245
 subst l245 y245 z245
 obtain ⟨rfl, N245q, K245c⟩ := hQ245
 have N245 := Fr.app N240 N245q
 refine Ends.go st245 ?_
 obtain ⟨h245, e245⟩ : ∃ z, T245.heap = z := ⟨_, rfl⟩
 rw [e245] at K245c
 have K245 := K240.trans K245c all0
 have O245 := O240.keep K245c all0
 obtain ⟨T246, h246, X246, e246, W246, st246⟩ := putFN X245 hx hZ hown (ow hw 53 rfl) Via.refl e245 ((PF_b216_coder.keep K240c nin0).keep K245c nin0) ((PE_b216.keep K240c).keep K245c) (Or.inr ⟨(ow hw 54 rfl), rfl, hnm⟩) (ow hw 10 rfl) (ty := .byte) (v' := (.int 0)) (by decide) rfl (by decide) (g := (mkF m 48 #[cr b216, cr x10, ci 0, ci 7, .val .null, cr b241] [(.int 0), (.ref b216)])) rfl rfl (hb hby d3_48)
 refine Ends.go st246 ?_
 have Fw246 := ((PF_b216_coder.keep K240c nin0).keep K245c nin0).same W246
 have K246 := K245.wr W246 (Or.inl (List.mem_of_getElem? (i := 0) rfl))
 have O246 := O245.wr W246 g_b216
 have N246 := Fr.snoc X246 N245 g_b216
 refine walN X246 hx hby d3_51 rfl rfl ?_
 refine wal X246 hx hby d3_52 rfl rfl ?_
 obtain ⟨T247, h247, X247, e247, W247, st247⟩ := putF X246 hx hZ hown (host := "") (Or.inl (ow hw 55 rfl)) Via.refl e246 (((PF_b216_value.keep K240c nin0).keep K245c nin0).other W246 (Or.inr (slot_ne (Or.inr (ow hw 56 rfl)) (Or.inr (ow hw 54 rfl)) (by decide) (t := (.array .byte)) (t' := .byte) (by decide) (by decide)))) (((PE_b216.keep K240c).keep K245c).wr W246) (Or.inr ⟨(ow hw 56 rfl), rfl, hnm⟩) (ow hw 10 rfl) (ty := (.array .byte)) (by decide) rfl rfl (g := (mkF m 54 #[cr b216, cr x10, ci 0, ci 7, .val .null, cr b241] [(.ref b241), (.ref b216)])) rfl rfl (hb hby d3_54)
 refine Ends.go st247 ?_
 have Fw247 := (((PF_b216_value.keep K240c nin0).keep K245c nin0).other W246 (Or.inr (slot_ne (Or.inr (ow hw 56 rfl)) (Or.inr (ow hw 54 rfl)) (by decide) (t := (.array .byte)) (t' := .byte) (by decide) (by decide)))).same W247
 have K247 := K246.wr W247 (Or.inl (List.mem_of_getElem? (i := 0) rfl))
 have O247 := O246.wr W247 g_b216
 have N247 := Fr.snoc X247 N246 g_b216
 show Ends _ _ _ _ T247 (mkF m 57 #[cr b216, cr x10, ci 0, ci 7, .val .null, cr b241] []) _ _ _
 refine Ends.retV X247 hx Bd.notSynchronized Bd.returns (hb hby d3_57) (by decide) (by decide) ?_
 rw [e247]
 exact ⟨b241, k242, rfl, N247, K247, sz_b241, (((Y240_0.keep K245c nin0).other W246 (Ne.symm (Nat.ne_of_lt (Nat.lt_of_lt_of_le PE_b216.lt sz_b241)))).other W247 (Ne.symm (Nat.ne_of_lt (Nat.lt_of_lt_of_le PE_b216.lt sz_b241)))), (Fw246.other W247 (Or.inr (slot_ne (Or.inr (ow hw 54 rfl)) (Or.inr (ow hw 56 rfl)) (by decide) (t := .byte) (t' := (.array .byte)) (by decide) (by decide)))), Fw247⟩

theorem d2_0 : decode jdk_42_method_3_code 0 = .ok (.aload_n 0, 1) := by decide +kernel
theorem d2_1 : decode jdk_42_method_3_code 1 = .ok (.aload_n 1, 1) := by decide +kernel
theorem d2_2 : decode jdk_42_method_3_code 2 = .ok (.iconst 0, 1) := by decide +kernel
theorem d2_3 : decode jdk_42_method_3_code 3 = .ok (.aload_n 1, 1) := by decide +kernel
theorem d2_4 : decode jdk_42_method_3_code 4 = .ok (.arraylength, 1) := by decide +kernel
theorem d2_5 : decode jdk_42_method_3_code 5 = .ok (.aconst_null, 1) := by decide +kernel
theorem d2_6 : decode jdk_42_method_3_code 6 = .ok (.invokespecial 27, 3) := by decide +kernel
theorem d2_9 : decode jdk_42_method_3_code 9 = .ok (.return_, 1) := by decide +kernel
theorem pn2 : plainName "java/lang/String" = true := by first | (simp [plainName, overriddenIn]; done) | decide +kernel
theorem pdx_7 : parseMethodDescriptor "([CIILjava/lang/Void;)V" = some ⟨[(.array .char), .int, .int, (.object "java/lang/Void")], none⟩ := by decide +kernel
theorem ef2_rr (m : MethodId) (x0 : Addr) (x1 : Addr) : entryFrame m #[(.ref x0), (.ref x1)] 2 = mkF m 0 #[.val (.ref x0), .val (.ref x1)] [] := by first | (simp [entryFrame, mkF, argsToLocals, Value.category]; done) | rfl
set_option maxRecDepth 65536 in
set_option maxHeartbeats 40000000 in
theorem rx2_217 (l : Launch) (Z : State) (a0 : Array Value) (hw : ∀ d ∈ tables_1, d.before a0 Z = true) (ws : List Jvm.Cond) (n0 : Nat) (h0 : Heap) (O0 : Old Z n0 h0) (G1 : Int32) (G3 : Value) (GF : GlobF Z G1 G3) (b216 : Addr) (x10 : Addr) (kx10 : ClassId) (c0_ : Int32) (c1_ : Int32) (c2_ : Int32) (c3_ : Int32) (c4_ : Int32) (c5_ : Int32) (c6_ : Int32) (PV_x10 : Arv Z h0 x10 kx10 .char (7 : Int32) [(.int c0_), (.int c1_), (.int c2_), (.int c3_), (.int c4_), (.int c5_), (.int c6_)] (.int 0)) (PE_b216 : Exa Z h0 b216 "java/lang/String") (PF_b216_coder : Fld Z h0 b216 "java/lang/String" "coder" "B" (.int 0)) (PF_b216_value : Fld Z h0 b216 "java/lang/String" "value" "[B" .null) (g_b216 : n0 ≤ b216) (hk0_ : ¬ ((255 : Int32) < c0_)) (hk1_ : ¬ ((255 : Int32) < c1_)) (hk2_ : ¬ ((255 : Int32) < c2_)) (hk3_ : ¬ ((255 : Int32) < c3_)) (hk4_ : ¬ ((255 : Int32) < c4_)) (hk5_ : ¬ ((255 : Int32) < c5_)) (hk6_ : ¬ ((255 : Int32) < c6_)) :
  Meets1 l ym13 jdk_42_method_3_code 2 none ws ({ frames := 3, cells := 1, slots := 7, locals := 52 } : Room) #[(.ref b216), (.ref x10)] Z h0 (fun v h L => ∃ (b249 : Addr) (k250 : ClassId), v = none ∧ Fr n0 L ∧ Keep h0 h [b216] ∧ h0.size ≤ b249 ∧ Arv Z h b249 k250 .byte (7 : Int32) [(.int (c0_.toInt8.toInt32)), (.int (c1_.toInt8.toInt32)), (.int (c2_.toInt8.toInt32)), (.int (c3_.toInt8.toInt32)), (.int (c4_.toInt8.toInt32)), (.int (c5_.toInt8.toInt32)), (.int (c6_.toInt8.toInt32))] (.int 0) ∧ Fld Z h b216 "java/lang/String" "coder" "B" (.int 0) ∧ Fld Z h b216 "java/lang/String" "value" "[B" (.ref b249)) := by
 refine MetFree.of_bodySF (plainFor_of_name pn2) hisR ?_
 intro p e s m args below meth c s₁ Bd hml0 hP hK
 obtain ⟨rfl, hZ, hh⟩ := hP
 have hx := Bd.exec
 have hby := Bd.bytes
 have hml : c.maxLocals = 2 := hml0
 have hown : s.vm.findClass "java/lang/String" = some m.cls := findClass_of_methodNamed Bd.named
 have hnm := (name_of_methodNamed Bd.named Bd.method).1
 have X0 : Stand p l e ({ frames := 3, cells := 1, slots := 7, locals := 52 } : Room) s m #[(.ref b216), (.ref x10)] below meth c s₁ [] 0 0 := Stand.of_body Bd
 have e0 : s₁.heap = h0 := by rw [← hh, Bd.state]; rfl
 have N0 := Fr.nil n0
 have Z0 := own_old_le O0
 show Ends _ _ _ _ s₁ (entryFrame m #[(.ref b216), (.ref x10)] 2) ({ frames := 3, cells := 1, slots := 7, locals := 52 } : Room).cells ({ frames := 3, cells := 1, slots := 7, locals := 52 } : Room).slots (fun v h L => ∃ (b249 : Addr) (k250 : ClassId), v = none ∧ Fr n0 L ∧ Keep h0 h [b216] ∧ h0.size ≤ b249 ∧ Arv Z h b249 k250 .byte (7 : Int32) [(.int (c0_.toInt8.toInt32)), (.int (c1_.toInt8.toInt32)), (.int (c2_.toInt8.toInt32)), (.int (c3_.toInt8.toInt32)), (.int (c4_.toInt8.toInt32)), (.int (c5_.toInt8.toInt32)), (.int (c6_.toInt8.toInt32))] (.int 0) ∧ Fld Z h b216 "java/lang/String" "coder" "B" (.int 0) ∧ Fld Z h b216 "java/lang/String" "value" "[B" (.ref b249))
 refine Ends.go (fun _ k => castTop (ef2_rr m b216 x10) k) ?_
 obtain ⟨SCS, P5, SAD, SHI, SLO, SSF, RG3⟩ := id GF
 have K0 := Keep.refl h0 [b216]
 show Ends _ _ _ _ s₁ (mkF m 0 #[cr b216, cr x10] []) _ _ _
 refine walN X0 hx hby d2_0 rfl rfl ?_
 refine walN X0 hx hby d2_1 rfl rfl ?_
 refine wic X0 hx hby d2_2 ?_
 refine walN X0 hx hby d2_3 rfl rfl ?_
 show Ends _ _ _ _ s₁ (mkF m 4 #[cr b216, cr x10] [(.ref x10), (.int 0), (.ref x10), (.ref b216)]) _ _ _
 obtain ⟨cl218, Ar218, q218, S218, M218, H218, G218⟩ := id PV_x10
 refine Ends.go (X0.arraylength hx (by rw [e0]; exact Ar218.1) (State.isArrayOf_alike hZ.alike Ar218.2.1) (g := (mkF m 4 #[cr b216, cr x10] [(.ref x10), (.int 0), (.ref x10), (.ref b216)])) rfl rfl (hb hby d2_4)) ?_
 rw [len_of S218 M218]
 refine .go (fun _ => XS.aconstNull X0.here hx rfl (hb hby d2_5)) ?_
 obtain ⟨_, _, ⟨T248, L248, k248, n248⟩, -, X248, ⟨Lc248, hQ248, l248, y248, z248⟩, st248⟩ := X0.specialBack hx (y := ym12) rfl hown (mvT hZ (ow hw 15 rfl)) (mvT hZ (ow hw 16 rfl)) (mvT hZ (ow hw 18 rfl)) (by decide) (own_backOf (W := 0) (rx3_219 l Z a0 hw [] n0 h0 O0 G1 G3 GF b216 x10 kx10 c0_ c1_ c2_ c3_ c4_ c5_ c6_ PV_x10 PE_b216 PF_b216_coder PF_b216_value g_b216 hk0_ hk1_ hk2_ hk3_ hk4_ hk5_ hk6_) hZ (ow hw 18 rfl) (ow hw 11 rfl) (by decide) (by decide)) (g := (mkF m 6 #[cr b216, cr x10] [.null, (.int 7), (.int 0), (.ref x10), (.ref b216)])) rfl (by rw [hml]; rfl) (Steps.refl _) (a := b216) (argsL := [(.ref x10), (.int 0), (.int 7), .null]) (rest := []) (lenOf pdx_7 rfl) rfl (by show 2 * 0 + _ ≤ _; exact Nat.le_of_eq rfl) (hb hby d2_6) (fun _ _ => ⟨rfl, e0, (by decide : 0 + 1 ≤ _), (by decide : 0 + 7 ≤ _)⟩)
 dsimp only [Pt.U, Pt.locs, Pt.cells, Pt.slots] at X248 l248 y248 z248 st248 hQ248
 subst l248 y248 z248
 obtain ⟨b249, k250, rfl, N248q, K248c, hb248_b249, Y248_0, Y248_1, Y248_2⟩ := hQ248
 have N248 := Fr.app N0 N248q
 refine Ends.go (fun _ k => st248.trans k) ?_
 have g_b249 : n0 ≤ b249 := Nat.le_trans (own_old_le O0) hb248_b249
 have sz_b249 : h0.size ≤ b249 := Nat.le_trans K0.1 hb248_b249
 obtain ⟨h248, e248⟩ : ∃ z, T248.heap = z := ⟨_, rfl⟩
 rw [e248] at K248c Y248_0 Y248_1 Y248_2
 have K248 := K0.trans K248c (allS (Or.inl (List.mem_of_getElem? (i := 0) rfl)) all0)
 have O248 := O0.keep K248c (allS g_b216 all0)
 refine Ends.retV X248 hx Bd.notSynchronized Bd.returns (hb hby d2_9) (by decide) (by decide) ?_
 rw [e248]
 exact ⟨b249, k250, rfl, N248, K248, sz_b249, Y248_0, Y248_1, Y248_2⟩

theorem d14_0 : decode prog_74_method_1_code 0 = .ok (.aload_n 0, 1) := by decide +kernel
theorem d14_1 : decode prog_74_method_1_code 1 = .ok (.invokespecial 3, 3) := by decide +kernel
theorem d14_4 : decode prog_74_method_1_code 4 = .ok (.return_, 1) := by decide +kernel
theorem pn14 : plainName "com/example/ratatoskr/ratatoskr/core/internal/Input" = true := by first | (simp [plainName, overriddenIn]; done) | decide +kernel
theorem pdx_8 : parseMethodDescriptor "([C)V" = some ⟨[(.array .char)], none⟩ := by decide +kernel
theorem ef14_r (m : MethodId) (x0 : Addr) : entryFrame m #[(.ref x0)] 1 = mkF m 0 #[.val (.ref x0)] [] := by first | (simp [entryFrame, mkF, argsToLocals, Value.category]; done) | rfl
set_option maxRecDepth 65536 in
set_option maxHeartbeats 40000000 in
theorem rx14_255 (l : Launch) (Z : State) (a0 : Array Value) (hw : ∀ d ∈ tables_1, d.before a0 Z = true) (ws : List Jvm.Cond) (n0 : Nat) (h0 : Heap) (O0 : Old Z n0 h0)  (b215 : Addr)  :
  Meets1 l ym14 prog_74_method_1_code 1 none ws ({ frames := 1, cells := 0, slots := 0, locals := 12 } : Room) #[(.ref b215)] Z h0 (fun v h L => v = none ∧ Fr n0 L ∧ Keep h0 h []) := by
 refine MetFree.of_bodySF (plainFor_of_name pn14) hisR ?_
 intro p e s m args below meth c s₁ Bd hml0 hP hK
 obtain ⟨rfl, hZ, hh⟩ := hP
 have hx := Bd.exec
 have hby := Bd.bytes
 have hml : c.maxLocals = 1 := hml0
 have hown : s.vm.findClass "com/example/ratatoskr/ratatoskr/core/internal/Input" = some m.cls := findClass_of_methodNamed Bd.named
 have hnm := (name_of_methodNamed Bd.named Bd.method).1
 have X0 : Stand p l e ({ frames := 1, cells := 0, slots := 0, locals := 12 } : Room) s m #[(.ref b215)] below meth c s₁ [] 0 0 := Stand.of_body Bd
 have e0 : s₁.heap = h0 := by rw [← hh, Bd.state]; rfl
 have N0 := Fr.nil n0
 have Z0 := own_old_le O0
 show Ends _ _ _ _ s₁ (entryFrame m #[(.ref b215)] 1) ({ frames := 1, cells := 0, slots := 0, locals := 12 } : Room).cells ({ frames := 1, cells := 0, slots := 0, locals := 12 } : Room).slots (fun v h L => v = none ∧ Fr n0 L ∧ Keep h0 h [])
 refine Ends.go (fun _ k => castTop (ef14_r m b215) k) ?_
 have K0 := Keep.refl h0 []
 show Ends _ _ _ _ s₁ (mkF m 0 #[cr b215] []) _ _ _
 refine walN X0 hx hby d14_0 rfl rfl ?_
 obtain ⟨T256, X256, e256, st256⟩ := initO X0 hx hZ hown (ow hw 65 rfl) (ow hw 20 rfl) (ow hw 21 rfl) e0 (g := (mkF m 1 #[cr b215] [(.ref b215)])) rfl (by rw [hml]; rfl) rfl (hb hby d14_1) (by decide) (W := 0) (by show 2 * 0 + _ ≤ _; exact Nat.le_of_eq rfl) (by decide)
 refine Ends.go st256 ?_
 refine Ends.retV X256 hx Bd.notSynchronized Bd.returns (hb hby d14_4) (by decide) (by decide) ?_
 rw [e256]
 exact ⟨rfl, N0, K0⟩

theorem d16_0 : decode jdk_42_method_152_code 0 = .ok (.getstatic 38, 3) := by decide +kernel
theorem d16_3 : decode jdk_42_method_152_code 3 = .ok (.ifCond .eq 10, 3) := by decide +kernel
theorem d16_6 : decode jdk_42_method_152_code 6 = .ok (.aload_n 0, 1) := by decide +kernel
theorem d16_7 : decode jdk_42_method_152_code 7 = .ok (.getfield 15, 3) := by decide +kernel
theorem d16_10 : decode jdk_42_method_152_code 10 = .ok (.goto 4, 3) := by decide +kernel
theorem d16_14 : decode jdk_42_method_152_code 14 = .ok (.ireturn, 1) := by decide +kernel
theorem pn16 : plainName "java/lang/String" = true := by first | (simp [plainName, overriddenIn]; done) | decide +kernel
theorem ef16_r (m : MethodId) (x0 : Addr) : entryFrame m #[(.ref x0)] 1 = mkF m 0 #[.val (.ref x0)] [] := by first | (simp [entryFrame, mkF, argsToLocals, Value.category]; done) | rfl
set_option maxRecDepth 65536 in
set_option maxHeartbeats 40000000 in
theorem rx16_262 (l : Launch) (Z : State) (a0 : Array Value) (hw : ∀ d ∈ tables_1, d.before a0 Z = true) (ws : List Jvm.Cond) (n0 : Nat) (h0 : Heap) (O0 : Old Z n0 h0) (G1 : Int32) (G3 : Value) (GF : GlobF Z G1 G3) (b216 : Addr) (PF_b216_coder : Fld Z h0 b216 "java/lang/String" "coder" "B" (.int 0)) :
  Meets1 l ym15 jdk_42_method_152_code 1 (some .byte) ws ({ frames := 0, cells := 0, slots := 0, locals := 0 } : Room) #[(.ref b216)] Z h0 (fun v h L => v = some (.int 0) ∧ Fr n0 L ∧ Keep h0 h []) := by
 refine MetFree.of_bodySF (plainFor_of_name pn16) hisR ?_
 intro p e s m args below meth c s₁ Bd hml0 hP hK
 obtain ⟨rfl, hZ, hh⟩ := hP
 have hx := Bd.exec
 have hby := Bd.bytes
 have hml : c.maxLocals = 1 := hml0
 have hown : s.vm.findClass "java/lang/String" = some m.cls := findClass_of_methodNamed Bd.named
 have hnm := (name_of_methodNamed Bd.named Bd.method).1
 have X0 : Stand p l e ({ frames := 0, cells := 0, slots := 0, locals := 0 } : Room) s m #[(.ref b216)] below meth c s₁ [] 0 0 := Stand.of_body Bd
 have e0 : s₁.heap = h0 := by rw [← hh, Bd.state]; rfl
 have N0 := Fr.nil n0
 have Z0 := own_old_le O0
 show Ends _ _ _ _ s₁ (entryFrame m #[(.ref b216)] 1) ({ frames := 0, cells := 0, slots := 0, locals := 0 } : Room).cells ({ frames := 0, cells := 0, slots := 0, locals := 0 } : Room).slots (fun v h L => v = some (.int 0) ∧ Fr n0 L ∧ Keep h0 h [])
 refine Ends.go (fun _ k => castTop (ef16_r m b216) k) ?_
 obtain ⟨SCS, P5, SAD, SHI, SLO, SSF, RG3⟩ := id GF
 have K0 := Keep.refl h0 []
 show Ends _ _ _ _ s₁ (mkF m 0 #[cr b216] []) _ _ _
 obtain ⟨T263, X263, e263, st263⟩ := getS2 X0 hx hZ hown (host := "") (Or.inl (ow hw 22 rfl)) Via.refl e0 (SCS.ext O0.2) (g := (mkF m 0 #[cr b216] [])) rfl (hb hby d16_0)
 refine Ends.go st263 ?_
 refine win X263 hx hby d16_3 ((if0 _ _).trans (feq (P5 : ¬ (G1 = (0 : Int32)))).1) ?_
 refine walN X263 hx hby d16_6 rfl rfl ?_
 obtain ⟨T264, X264, e264, st264⟩ := getF X263 hx hZ hown (host := "") (Or.inl (ow hw 53 rfl)) Via.refl e263 PF_b216_coder (g := (mkF m 7 #[cr b216] [(.ref b216)])) rfl rfl (hb hby d16_7)
 refine Ends.go st264 ?_
 show Ends _ _ _ _ T264 (mkF m 10 #[cr b216] [(.int 0)]) _ _ _
 refine wgo (pc := 10) (pc' := 14) X264 hx hby d16_10 (by decide) (by decide) ?_
 refine Ends.retZ X264 hx Bd.notSynchronized (t := .byte) Bd.returns (by simp) (hb hby d16_14) (by decide) (by decide) ?_
 rw [e264]
 exact ⟨rfl, N0, K0⟩

theorem d15_0 : decode jdk_42_method_54_code 0 = .ok (.aload_n 0, 1) := by decide +kernel
theorem d15_1 : decode jdk_42_method_54_code 1 = .ok (.getfield 9, 3) := by decide +kernel
theorem d15_4 : decode jdk_42_method_54_code 4 = .ok (.arraylength, 1) := by decide +kernel
theorem d15_5 : decode jdk_42_method_54_code 5 = .ok (.aload_n 0, 1) := by decide +kernel
theorem d15_6 : decode jdk_42_method_54_code 6 = .ok (.invokevirtual 335, 3) := by decide +kernel
theorem d15_9 : decode jdk_42_method_54_code 9 = .ok (.ishr, 1) := by decide +kernel
theorem d15_10 : decode jdk_42_method_54_code 10 = .ok (.ireturn, 1) := by decide +kernel
theorem pn15 : plainName "java/lang/String" = true := by first | (simp [plainName, overriddenIn]; done) | decide +kernel
theorem pdx_9 : parseMethodDescriptor "()B" = some ⟨[], some .byte⟩ := by decide +kernel
theorem ef15_r (m : MethodId) (x0 : Addr) : entryFrame m #[(.ref x0)] 1 = mkF m 0 #[.val (.ref x0)] [] := by first | (simp [entryFrame, mkF, argsToLocals, Value.category]; done) | rfl
set_option maxRecDepth 65536 in
set_option maxHeartbeats 40000000 in
theorem rx15_259 (l : Launch) (Z : State) (a0 : Array Value) (hw : ∀ d ∈ tables_1, d.before a0 Z = true) (ws : List Jvm.Cond) (n0 : Nat) (h0 : Heap) (O0 : Old Z n0 h0) (G1 : Int32) (G3 : Value) (GF : GlobF Z G1 G3) (b216 : Addr) (b252 : Addr) (k253 : ClassId) (c0_ : Int32) (c1_ : Int32) (c2_ : Int32) (c3_ : Int32) (c4_ : Int32) (c5_ : Int32) (c6_ : Int32) (PF_b216_value : Fld Z h0 b216 "java/lang/String" "value" "[B" (.ref b252)) (PV_b252 : Arv Z h0 b252 k253 .byte (7 : Int32) [(.int (c0_.toInt8.toInt32)), (.int (c1_.toInt8.toInt32)), (.int (c2_.toInt8.toInt32)), (.int (c3_.toInt8.toInt32)), (.int (c4_.toInt8.toInt32)), (.int (c5_.toInt8.toInt32)), (.int (c6_.toInt8.toInt32))] (.int 0)) (PF_b216_coder : Fld Z h0 b216 "java/lang/String" "coder" "B" (.int 0)) (PE_b216 : Exa Z h0 b216 "java/lang/String") :
  Meets1 l ym16 jdk_42_method_54_code 1 (some .int) ws ({ frames := 1, cells := 0, slots := 0, locals := 13 } : Room) #[(.ref b216)] Z h0 (fun v h L => v = some (.int 7) ∧ Fr n0 L ∧ Keep h0 h []) := by
 refine MetFree.of_bodySF (plainFor_of_name pn15) hisR ?_
 intro p e s m args below meth c s₁ Bd hml0 hP hK
 obtain ⟨rfl, hZ, hh⟩ := hP
 have hx := Bd.exec
 have hby := Bd.bytes
 have hml : c.maxLocals = 1 := hml0
 have hown : s.vm.findClass "java/lang/String" = some m.cls := findClass_of_methodNamed Bd.named
 have hnm := (name_of_methodNamed Bd.named Bd.method).1
 have X0 : Stand p l e ({ frames := 1, cells := 0, slots := 0, locals := 13 } : Room) s m #[(.ref b216)] below meth c s₁ [] 0 0 := Stand.of_body Bd
 have e0 : s₁.heap = h0 := by rw [← hh, Bd.state]; rfl
 have N0 := Fr.nil n0
 have Z0 := own_old_le O0
 show Ends _ _ _ _ s₁ (entryFrame m #[(.ref b216)] 1) ({ frames := 1, cells := 0, slots := 0, locals := 13 } : Room).cells ({ frames := 1, cells := 0, slots := 0, locals := 13 } : Room).slots (fun v h L => v = some (.int 7) ∧ Fr n0 L ∧ Keep h0 h [])
 refine Ends.go (fun _ k => castTop (ef15_r m b216) k) ?_
 obtain ⟨SCS, P5, SAD, SHI, SLO, SSF, RG3⟩ := id GF
 have K0 := Keep.refl h0 []
 show Ends _ _ _ _ s₁ (mkF m 0 #[cr b216] []) _ _ _
 refine walN X0 hx hby d15_0 rfl rfl ?_
 obtain ⟨T260, X260, e260, st260⟩ := getF X0 hx hZ hown (host := "") (Or.inl (ow hw 55 rfl)) Via.refl e0 PF_b216_value (g := (mkF m 1 #[cr b216] [(.ref b216)])) rfl rfl (hb hby d15_1)
 refine Ends.go st260 ?_
 obtain ⟨cl261, Ar261, q261, S261, M261, H261, G261⟩ := id PV_b252
 refine Ends.go (X260.arraylength hx (by rw [e260]; exact Ar261.1) (State.isArrayOf_alike hZ.alike Ar261.2.1) (g := (mkF m 4 #[cr b216] [(.ref b252)])) rfl rfl (hb hby d15_4)) ?_
 rw [len_of S261 M261]
 refine walN X260 hx hby d15_5 rfl rfl ?_
 show Ends _ _ _ _ T260 (mkF m 6 #[cr b216] [(.ref b216), (.int 7)]) _ _ _
 obtain ⟨cq265, kq265, q265a, q265b, q265c⟩ := isOf hZ e260 PE_b216
 obtain ⟨_, _, ⟨T265, L265, k265, n265⟩, -, X265, ⟨Lc265, hQ265, l265, y265, z265⟩, st265⟩ := X260.virtualBack hx (y := ym15) (z := ym15) hown (mvT hZ (ow hw 73 rfl)) (mvT hZ (ow hw 74 rfl)) (notFace_of_selects (args := #[]) (mvT hZ (ow hw 76 rfl))) (mvT hZ (ow hw 76 rfl)) (mvT hZ (ow hw 75 rfl)) (by decide) (own_backOf (W := 1) (rx16_262 l Z a0 hw [] n0 h0 O0 G1 G3 GF b216 PF_b216_coder) hZ (ow hw 77 rfl) (ow hw 11 rfl) (by decide) (by decide)) q265a q265c (g := (mkF m 6 #[cr b216] [(.ref b216), (.int 7)])) rfl (by rw [hml]; rfl) (Steps.refl _) (argsL := []) (rest := [(.int 7)]) (lenOf pdx_9 rfl) rfl (by show 2 * 0 + _ ≤ _; exact Nat.le_of_eq rfl) (hb hby d15_6) (fun _ _ => ⟨rfl, e260, (by decide : 0 + 0 ≤ _), (by decide : 0 + 0 ≤ _)⟩)
 dsimp only [Pt.U, Pt.locs, Pt.cells, Pt.slots] at X265 l265 y265 z265 st265 hQ265
 subst l265 y265 z265
 obtain ⟨rfl, N265q, K265c⟩ := hQ265
 have N265 := Fr.app N0 N265q
 refine Ends.go (fun _ k => st265.trans k) ?_
 obtain ⟨h265, e265⟩ : ∃ z, T265.heap = z := ⟨_, rfl⟩
 rw [e265] at K265c
 have K265 := K0.trans K265c all0
 have O265 := O0.keep K265c all0
 refine .go (fun _ => XS.ishr X265.here hx rfl (hb hby d15_9) rfl) ?_
 refine Ends.ret X265 hx Bd.notSynchronized (t := .int) Bd.returns rfl (Or.inl ⟨rfl, by simp, _, rfl⟩) (hb hby d15_10) (by decide) (by decide) ?_
 rw [e265]
 exact ⟨rfl, N265, K265⟩

theorem d17_0 : decode jdk_29_method_69_code 0 = .ok (.iload_n 0, 1) := by decide +kernel
theorem d17_1 : decode jdk_29_method_69_code 1 = .ok (.iload_n 1, 1) := by decide +kernel
theorem d17_2 : decode jdk_29_method_69_code 2 = .ok (.if_icmp .gt 7, 3) := by decide +kernel
theorem d17_5 : decode jdk_29_method_69_code 5 = .ok (.iload_n 0, 1) := by decide +kernel
theorem d17_6 : decode jdk_29_method_69_code 6 = .ok (.goto 4, 3) := by decide +kernel
theorem d17_10 : decode jdk_29_method_69_code 10 = .ok (.ireturn, 1) := by decide +kernel
theorem pdx_10 : parseMethodDescriptor "()I" = some ⟨[], some .int⟩ := by decide +kernel
theorem ef17_ii (m : MethodId) (x0 : Int32) (x1 : Int32) : entryFrame m #[(.int x0), (.int x1)] 2 = mkF m 0 #[.val (.int x0), .val (.int x1)] [] := by first | (simp [entryFrame, mkF, argsToLocals, Value.category]; done) | rfl
set_option maxRecDepth 65536 in
set_option maxHeartbeats 40000000 in
theorem rx17_267 (l : Launch) (Z : State) (a0 : Array Value) (hw : ∀ d ∈ tables_1, d.before a0 Z = true) (ws : List Jvm.Cond) (n0 : Nat) (h0 : Heap) (O0 : Old Z n0 h0)    :
  Meets1 l ym17 jdk_29_method_69_code 2 (some .int) ws ({ frames := 0, cells := 0, slots := 0, locals := 0 } : Room) #[(.int 7), (.int 8192)] Z h0 (fun v h L => v = some (.int 7) ∧ Fr n0 L ∧ Keep h0 h []) := by
 refine MetFree.of_bodySF (Jvm.Free.JP.mathPlain rfl (by decide +kernel)) hisR ?_
 intro p e s m args below meth c s₁ Bd hml0 hP hK
 obtain ⟨rfl, hZ, hh⟩ := hP
 have hx := Bd.exec
 have hby := Bd.bytes
 have hml : c.maxLocals = 2 := hml0
 have hown : s.vm.findClass "java/lang/Math" = some m.cls := findClass_of_methodNamed Bd.named
 have hnm := (name_of_methodNamed Bd.named Bd.method).1
 have X0 : Stand p l e ({ frames := 0, cells := 0, slots := 0, locals := 0 } : Room) s m #[(.int 7), (.int 8192)] below meth c s₁ [] 0 0 := Stand.of_body Bd
 have e0 : s₁.heap = h0 := by rw [← hh, Bd.state]; rfl
 have N0 := Fr.nil n0
 have Z0 := own_old_le O0
 show Ends _ _ _ _ s₁ (entryFrame m #[(.int 7), (.int 8192)] 2) ({ frames := 0, cells := 0, slots := 0, locals := 0 } : Room).cells ({ frames := 0, cells := 0, slots := 0, locals := 0 } : Room).slots (fun v h L => v = some (.int 7) ∧ Fr n0 L ∧ Keep h0 h [])
 refine Ends.go (fun _ k => castTop (ef17_ii m (7 : Int32) (8192 : Int32)) k) ?_
 have K0 := Keep.refl h0 []
 show Ends _ _ _ _ s₁ (mkF m 0 #[ci 7, ci 8192] []) _ _ _
 refine wilN X0 hx hby d17_0 rfl ?_
 refine wilN X0 hx hby d17_1 rfl ?_
 refine wcn X0 hx hby d17_2 (flt (by decide : ¬ ((8192 : Int32) < (7 : Int32)))).2.2.1 ?_
 refine wilN X0 hx hby d17_5 rfl ?_
 show Ends _ _ _ _ s₁ (mkF m 6 #[ci 7, ci 8192] [(.int 7)]) _ _ _
 refine wgo (pc := 6) (pc' := 10) X0 hx hby d17_6 (by decide) (by decide) ?_
 refine Ends.ret X0 hx Bd.notSynchronized (t := .int) Bd.returns rfl (Or.inl ⟨rfl, by simp, _, rfl⟩) (hb hby d17_10) (by decide) (by decide) ?_
 rw [e0]
 exact ⟨rfl, N0, K0⟩

theorem d23_0 : decode jdk_42_method_154_code 0 = .ok (.getstatic 38, 3) := by decide +kernel
theorem d23_3 : decode jdk_42_method_154_code 3 = .ok (.ifCond .eq 14, 3) := by decide +kernel
theorem d23_6 : decode jdk_42_method_154_code 6 = .ok (.aload_n 0, 1) := by decide +kernel
theorem d23_7 : decode jdk_42_method_154_code 7 = .ok (.getfield 15, 3) := by decide +kernel
theorem d23_10 : decode jdk_42_method_154_code 10 = .ok (.ifCond .ne 7, 3) := by decide +kernel
theorem d23_13 : decode jdk_42_method_154_code 13 = .ok (.iconst 1, 1) := by decide +kernel
theorem d23_14 : decode jdk_42_method_154_code 14 = .ok (.goto 4, 3) := by decide +kernel
theorem d23_18 : decode jdk_42_method_154_code 18 = .ok (.ireturn, 1) := by decide +kernel
theorem pn23 : plainName "java/lang/String" = true := by first | (simp [plainName, overriddenIn]; done) | decide +kernel
theorem pdx_11 : parseMethodDescriptor "(II)I" = some ⟨[.int, .int], some .int⟩ := by decide +kernel
theorem pdx_12 : parseMethodDescriptor "(III)V" = some ⟨[.int, .int, .int], none⟩ := by decide +kernel
theorem pdx_13 : parseMethodDescriptor "(III)I" = some ⟨[.int, .int, .int], some .int⟩ := by decide +kernel
theorem ef23_r (m : MethodId) (x0 : Addr) : entryFrame m #[(.ref x0)] 1 = mkF m 0 #[.val (.ref x0)] [] := by first | (simp [entryFrame, mkF, argsToLocals, Value.category]; done) | rfl
set_option maxRecDepth 65536 in
set_option maxHeartbeats 40000000 in
theorem rx23_281 (l : Launch) (Z : State) (a0 : Array Value) (hw : ∀ d ∈ tables_1, d.before a0 Z = true) (ws : List Jvm.Cond) (n0 : Nat) (h0 : Heap) (O0 : Old Z n0 h0) (G1 : Int32) (G3 : Value) (GF : GlobF Z G1 G3) (b216 : Addr) (PF_b216_coder : Fld Z h0 b216 "java/lang/String" "coder" "B" (.int 0)) :
  Meets1 l ym18 jdk_42_method_154_code 1 (some .boolean) ws ({ frames := 0, cells := 0, slots := 0, locals := 0 } : Room) #[(.ref b216)] Z h0 (fun v h L => v = some (.int 1) ∧ Fr n0 L ∧ Keep h0 h []) := by
 refine MetFree.of_bodySF (plainFor_of_name pn23) hisR ?_
 intro p e s m args below meth c s₁ Bd hml0 hP hK
 obtain ⟨rfl, hZ, hh⟩ := hP
 have hx := Bd.exec
 have hby := Bd.bytes
 have hml : c.maxLocals = 1 := hml0
 have hown : s.vm.findClass "java/lang/String" = some m.cls := findClass_of_methodNamed Bd.named
 have hnm := (name_of_methodNamed Bd.named Bd.method).1
 have X0 : Stand p l e ({ frames := 0, cells := 0, slots := 0, locals := 0 } : Room) s m #[(.ref b216)] below meth c s₁ [] 0 0 := Stand.of_body Bd
 have e0 : s₁.heap = h0 := by rw [← hh, Bd.state]; rfl
 have N0 := Fr.nil n0
 have Z0 := own_old_le O0
 show Ends _ _ _ _ s₁ (entryFrame m #[(.ref b216)] 1) ({ frames := 0, cells := 0, slots := 0, locals := 0 } : Room).cells ({ frames := 0, cells := 0, slots := 0, locals := 0 } : Room).slots (fun v h L => v = some (.int 1) ∧ Fr n0 L ∧ Keep h0 h [])
 refine Ends.go (fun _ k => castTop (ef23_r m b216) k) ?_
 obtain ⟨SCS, P5, SAD, SHI, SLO, SSF, RG3⟩ := id GF
 have K0 := Keep.refl h0 []
 show Ends _ _ _ _ s₁ (mkF m 0 #[cr b216] []) _ _ _
 obtain ⟨T282, X282, e282, st282⟩ := getS2 X0 hx hZ hown (host := "") (Or.inl (ow hw 22 rfl)) Via.refl e0 (SCS.ext O0.2) (g := (mkF m 0 #[cr b216] [])) rfl (hb hby d23_0)
 refine Ends.go st282 ?_
 refine win X282 hx hby d23_3 ((if0 _ _).trans (feq (P5 : ¬ (G1 = (0 : Int32)))).1) ?_
 refine walN X282 hx hby d23_6 rfl rfl ?_
 obtain ⟨T283, X283, e283, st283⟩ := getF X282 hx hZ hown (host := "") (Or.inl (ow hw 53 rfl)) Via.refl e282 PF_b216_coder (g := (mkF m 7 #[cr b216] [(.ref b216)])) rfl rfl (hb hby d23_7)
 refine Ends.go st283 ?_
 show Ends _ _ _ _ T283 (mkF m 10 #[cr b216] [(.int 0)]) _ _ _
 refine win X283 hx hby d23_10 ((if0 _ _).trans (teq (by decide : (0 : Int32) = (0 : Int32))).2) ?_
 refine wic X283 hx hby d23_13 ?_
 refine wgo (pc := 14) (pc' := 18) X283 hx hby d23_14 (by decide) (by decide) ?_
 refine Ends.retZ X283 hx Bd.notSynchronized (t := .boolean) Bd.returns (by simp) (hb hby d23_18) (by decide) (by decide) ?_
 rw [e283]
 exact ⟨rfl, N0, K0⟩

theorem d31_0 : decode jdk_43_method_49_code 0 = .ok (.iconst 0, 1) := by decide +kernel
theorem d31_1 : decode jdk_43_method_49_code 1 = .ok (.istore 5, 2) := by decide +kernel
theorem d31_3 : decode jdk_43_method_49_code 3 = .ok (.iload 5, 2) := by decide +kernel
theorem d31_5 : decode jdk_43_method_49_code 5 = .ok (.iload 4, 2) := by decide +kernel
theorem d31_7 : decode jdk_43_method_49_code 7 = .ok (.if_icmp .ge 26, 3) := by decide +kernel
theorem d31_10 : decode jdk_43_method_49_code 10 = .ok (.aload_n 2, 1) := by decide +kernel
theorem d31_11 : decode jdk_43_method_49_code 11 = .ok (.iload_n 3, 1) := by decide +kernel
theorem d31_12 : decode jdk_43_method_49_code 12 = .ok (.iinc 3 1, 3) := by decide +kernel
theorem d31_15 : decode jdk_43_method_49_code 15 = .ok (.aload_n 0, 1) := by decide +kernel
theorem d31_16 : decode jdk_43_method_49_code 16 = .ok (.iload_n 1, 1) := by decide +kernel
theorem d31_17 : decode jdk_43_method_49_code 17 = .ok (.iinc 1 1, 3) := by decide +kernel
theorem d31_20 : decode jdk_43_method_49_code 20 = .ok (.baload, 1) := by decide +kernel
theorem d31_21 : decode jdk_43_method_49_code 21 = .ok (.sipush 255, 3) := by decide +kernel
theorem d31_24 : decode jdk_43_method_49_code 24 = .ok (.iand, 1) := by decide +kernel
theorem d31_25 : decode jdk_43_method_49_code 25 = .ok (.i2c, 1) := by decide +kernel
theorem d31_26 : decode jdk_43_method_49_code 26 = .ok (.castore, 1) := by decide +kernel
theorem d31_27 : decode jdk_43_method_49_code 27 = .ok (.iinc 5 1, 3) := by decide +kernel
theorem d31_30 : decode jdk_43_method_49_code 30 = .ok (.goto (-27), 3) := by decide +kernel
theorem d31_33 : decode jdk_43_method_49_code 33 = .ok (.return_, 1) := by decide +kernel
theorem pn31 : plainName "java/lang/StringLatin1" = true := by first | (simp [plainName, overriddenIn]; done) | decide +kernel
theorem pdx_14 : parseMethodDescriptor "()Z" = some ⟨[], some .boolean⟩ := by decide +kernel
theorem ef31_ririi (m : MethodId) (x0 : Addr) (x1 : Int32) (x2 : Addr) (x3 : Int32) (x4 : Int32) : entryFrame m #[(.ref x0), (.int x1), (.ref x2), (.int x3), (.int x4)] 6 = mkF m 0 #[.val (.ref x0), .val (.int x1), .val (.ref x2), .val (.int x3), .val (.int x4), .unset] [] := by first | (simp [entryFrame, mkF, argsToLocals, Value.category]; done) | rfl
set_option maxRecDepth 65536 in
set_option maxHeartbeats 40000000 in
theorem rx31_287 (l : Launch) (Z : State) (a0 : Array Value) (hw : ∀ d ∈ tables_1, d.before a0 Z = true) (ws : List Jvm.Cond) (n0 : Nat) (h0 : Heap) (O0 : Old Z n0 h0)  (b252 : Addr) (b269 : Addr) (k253 : ClassId) (c0_ : Int32) (c1_ : Int32) (c2_ : Int32) (c3_ : Int32) (c4_ : Int32) (c5_ : Int32) (c6_ : Int32) (k269 : ClassId) (PV_b252 : Arv Z h0 b252 k253 .byte (7 : Int32) [(.int (c0_.toInt8.toInt32)), (.int (c1_.toInt8.toInt32)), (.int (c2_.toInt8.toInt32)), (.int (c3_.toInt8.toInt32)), (.int (c4_.toInt8.toInt32)), (.int (c5_.toInt8.toInt32)), (.int (c6_.toInt8.toInt32))] (.int 0)) (PV_b269 : Arv Z h0 b269 k269 .char (7 : Int32) [(.int 0), (.int 0), (.int 0), (.int 0), (.int 0), (.int 0), (.int 0)] (.int 0)) (ne_b252_b269 : b252 ≠ b269) (g_b269 : n0 ≤ b269) :
  Meets1 l ym19 jdk_43_method_49_code 6 none ws ({ frames := 0, cells := 0, slots := 0, locals := 0 } : Room) #[(.ref b252), (.int 0), (.ref b269), (.int 0), (.int 7)] Z h0 (fun v h L => v = none ∧ Fr n0 L ∧ Keep h0 h [b269] ∧ Arv Z h b269 k269 .char (7 : Int32) [(.int (nar .char (((c0_.toInt8.toInt32) &&& (255 : Int32)).toUInt32.toUInt16.toUInt32.toInt32))), (.int (nar .char (((c1_.toInt8.toInt32) &&& (255 : Int32)).toUInt32.toUInt16.toUInt32.toInt32))), (.int (nar .char (((c2_.toInt8.toInt32) &&& (255 : Int32)).toUInt32.toUInt16.toUInt32.toInt32))), (.int (nar .char (((c3_.toInt8.toInt32) &&& (255 : Int32)).toUInt32.toUInt16.toUInt32.toInt32))), (.int (nar .char (((c4_.toInt8.toInt32) &&& (255 : Int32)).toUInt32.toUInt16.toUInt32.toInt32))), (.int (nar .char (((c5_.toInt8.toInt32) &&& (255 : Int32)).toUInt32.toUInt16.toUInt32.toInt32))), (.int (nar .char (((c6_.toInt8.toInt32) &&& (255 : Int32)).toUInt32.toUInt16.toUInt32.toInt32)))] (.int 0)) := by
 refine MetFree.of_bodySF (plainFor_of_name pn31) hisR ?_
 intro p e s m args below meth c s₁ Bd hml0 hP hK
 obtain ⟨rfl, hZ, hh⟩ := hP
 have hx := Bd.exec
 have hby := Bd.bytes
 have hml : c.maxLocals = 6 := hml0
 have hown : s.vm.findClass "java/lang/StringLatin1" = some m.cls := findClass_of_methodNamed Bd.named
 have hnm := (name_of_methodNamed Bd.named Bd.method).1
 have X0 : Stand p l e ({ frames := 0, cells := 0, slots := 0, locals := 0 } : Room) s m #[(.ref b252), (.int 0), (.ref b269), (.int 0), (.int 7)] below meth c s₁ [] 0 0 := Stand.of_body Bd
 have e0 : s₁.heap = h0 := by rw [← hh, Bd.state]; rfl
 have N0 := Fr.nil n0
 have Z0 := own_old_le O0
 show Ends _ _ _ _ s₁ (entryFrame m #[(.ref b252), (.int 0), (.ref b269), (.int 0), (.int 7)] 6) ({ frames := 0, cells := 0, slots := 0, locals := 0 } : Room).cells ({ frames := 0, cells := 0, slots := 0, locals := 0 } : Room).slots (fun v h L => v = none ∧ Fr n0 L ∧ Keep h0 h [b269] ∧ Arv Z h b269 k269 .char (7 : Int32) [(.int (nar .char (((c0_.toInt8.toInt32) &&& (255 : Int32)).toUInt32.toUInt16.toUInt32.toInt32))), (.int (nar .char (((c1_.toInt8.toInt32) &&& (255 : Int32)).toUInt32.toUInt16.toUInt32.toInt32))), (.int (nar .char (((c2_.toInt8.toInt32) &&& (255 : Int32)).toUInt32.toUInt16.toUInt32.toInt32))), (.int (nar .char (((c3_.toInt8.toInt32) &&& (255 : Int32)).toUInt32.toUInt16.toUInt32.toInt32))), (.int (nar .char (((c4_.toInt8.toInt32) &&& (255 : Int32)).toUInt32.toUInt16.toUInt32.toInt32))), (.int (nar .char (((c5_.toInt8.toInt32) &&& (255 : Int32)).toUInt32.toUInt16.toUInt32.toInt32))), (.int (nar .char (((c6_.toInt8.toInt32) &&& (255 : Int32)).toUInt32.toUInt16.toUInt32.toInt32)))] (.int 0))
 refine Ends.go (fun _ k => castTop (ef31_ririi m b252 (0 : Int32) b269 (0 : Int32) (7 : Int32)) k) ?_
 have K0 := Keep.refl h0 [b269]
 show Ends _ _ _ _ s₁ (mkF m 0 #[cr b252, ci 0, cr b269, ci 0, ci 7, cu] []) _ _ _
 refine wic X0 hx hby d31_0 ?_
 refine wst X0 hx hby d31_1 (l' := #[cr b252, ci 0, cr b269, ci 0, ci 7, ci 0]) rfl ?_
 refine wil X0 hx hby d31_3 rfl ?_
 refine wil X0 hx hby d31_5 rfl ?_
 show Ends _ _ _ _ s₁ (mkF m 7 #[cr b252, ci 0, cr b269, ci 0, ci 7, ci 0] [(.int 7), (.int 0)]) _ _ _
 refine wcn X0 hx hby d31_7 (tlt (by decide : (0 : Int32) < (7 : Int32))).2.1 ?_
 refine walN X0 hx hby d31_10 rfl rfl ?_
 refine wilN X0 hx hby d31_11 rfl ?_
 refine wii X0 hx hby d31_12 (l' := #[cr b252, ci 0, cr b269, ci 1, ci 7, ci 0]) rfl rfl ?_
 refine walN X0 hx hby d31_15 rfl rfl ?_
 show Ends _ _ _ _ s₁ (mkF m 16 #[cr b252, ci 0, cr b269, ci 1, ci 7, ci 0] [(.ref b252), (.int 0), (.ref b269)]) _ _ _
 refine wilN X0 hx hby d31_16 rfl ?_
 refine wii X0 hx hby d31_17 (l' := #[cr b252, ci 1, cr b269, ci 1, ci 7, ci 0]) rfl rfl ?_
 obtain ⟨cl288, Ar288, q288, S288, M288, H288, G288⟩ := id PV_b252
 have hin288 := inb_of (j := (0 : Int32)) S288 ⟨by decide, by decide⟩
 refine Ends.go (X0.baloadBytes hx (j := (0 : Int32)) (v := (.int (c0_.toInt8.toInt32))) (by rw [e0]; exact Ar288.1) (State.isArrayOf_alike hZ.alike Ar288.2.1) Ar288.2.2 hin288 (H288.at hin288 rfl) (g := (mkF m 20 #[cr b252, ci 1, cr b269, ci 1, ci 7, ci 0] [(.int 0), (.ref b252), (.int 0), (.ref b269)])) rfl rfl (hb hby d31_20)) ?_
 refine wsp X0 hx hby d31_21 ?_
 refine wan X0 hx hby d31_24 ?_
 show Ends _ _ _ _ s₁ (mkF m 25 #[cr b252, ci 1, cr b269, ci 1, ci 7, ci 0] [(.int ((c0_.toInt8.toInt32) &&& (255 : Int32))), (.int 0), (.ref b269)]) _ _ _
 refine .go (fun _ => XS.i2c X0.here hx rfl (hb hby d31_25) rfl) ?_
 obtain ⟨cl289, Ar289, q289, S289, M289, H289, G289⟩ := id PV_b269
 have hin289 := inb_of (j := (0 : Int32)) S289 ⟨by decide, by decide⟩
 obtain ⟨T289, h289, X289, e289, W289, st289⟩ := stC X0 hx hZ e0 Ar289 (j := (0 : Int32)) hin289 (g := (mkF m 26 #[cr b252, ci 1, cr b269, ci 1, ci 7, ci 0] [(.int (((c0_.toInt8.toInt32) &&& (255 : Int32)).toUInt32.toUInt16.toUInt32.toInt32)), (.int 0), (.ref b269)])) rfl rfl (hb hby d31_26)
 refine Ends.go st289 ?_
 have V289 : Arv Z h289 b269 k269 .char (7 : Int32) [(.int (nar .char (((c0_.toInt8.toInt32) &&& (255 : Int32)).toUInt32.toUInt16.toUInt32.toInt32))), (.int 0), (.int 0), (.int 0), (.int 0), (.int 0), (.int 0)] (.int 0) := Arv.set Ar289 q289 S289 M289 H289 G289 (fits_nar_char _) W289 0 rfl (Nat.le_of_ble_eq_true rfl)
 have K289 := K0.wr W289 (Or.inl (List.mem_of_getElem? (i := 0) rfl))
 have O289 := O0.wr W289 g_b269
 have N289 := Fr.snoc X289 N0 g_b269
 refine wii X289 hx hby d31_27 (l' := #[cr b252, ci 1, cr b269, ci 1, ci 7, ci 1]) rfl rfl ?_
 refine wgo (pc := 30) (pc' := 3) X289 hx hby d31_30 (by decide) (by decide) ?_
 refine wil X289 hx hby d31_3 rfl ?_
 show Ends _ _ _ _ T289 (mkF m 5 #[cr b252, ci 1, cr b269, ci 1, ci 7, ci 1] [(.int 1)]) _ _ _
 refine wil X289 hx hby d31_5 rfl ?_
 refine wcn X289 hx hby d31_7 (tlt (by decide : (1 : Int32) < (7 : Int32))).2.1 ?_
 refine walN X289 hx hby d31_10 rfl rfl ?_
 refine wilN X289 hx hby d31_11 rfl ?_
 refine wii X289 hx hby d31_12 (l' := #[cr b252, ci 1, cr b269, ci 2, ci 7, ci 1]) rfl rfl ?_
 show Ends _ _ _ _ T289 (mkF m 15 #[cr b252, ci 1, cr b269, ci 2, ci 7, ci 1] [(.int 1), (.ref b269)]) _ _ _
 refine walN X289 hx hby d31_15 rfl rfl ?_
 refine wilN X289 hx hby d31_16 rfl ?_
 refine wii X289 hx hby d31_17 (l' := #[cr b252, ci 2, cr b269, ci 2, ci 7, ci 1]) rfl rfl ?_
 obtain ⟨cl290, Ar290, q290, S290, M290, H290, G290⟩ := id (PV_b252.other W289 ne_b252_b269)
 have hin290 := inb_of (j := (1 : Int32)) S290 ⟨by decide, by decide⟩
 refine Ends.go (X289.baloadBytes hx (j := (1 : Int32)) (v := (.int (c1_.toInt8.toInt32))) (by rw [e289]; exact Ar290.1) (State.isArrayOf_alike hZ.alike Ar290.2.1) Ar290.2.2 hin290 (H290.at hin290 rfl) (g := (mkF m 20 #[cr b252, ci 2, cr b269, ci 2, ci 7, ci 1] [(.int 1), (.ref b252), (.int 1), (.ref b269)])) rfl rfl (hb hby d31_20)) ?_
 refine wsp X289 hx hby d31_21 ?_
 show Ends _ _ _ _ T289 (mkF m 24 #[cr b252, ci 2, cr b269, ci 2, ci 7, ci 1] [(.int 255), (.int (c1_.toInt8.toInt32)), (.int 1), (.ref b269)]) _ _ _
 refine wan X289 hx hby d31_24 ?_
 refine .go (fun _ => XS.i2c X289.here hx rfl (hb hby d31_25) rfl) ?_
 obtain ⟨cl291, Ar291, q291, S291, M291, H291, G291⟩ := id V289
 have hin291 := inb_of (j := (1 : Int32)) S291 ⟨by decide, by decide⟩
 obtain ⟨T291, h291, X291, e291, W291, st291⟩ := stC X289 hx hZ e289 Ar291 (j := (1 : Int32)) hin291 (g := (mkF m 26 #[cr b252, ci 2, cr b269, ci 2, ci 7, ci 1] [(.int (((c1_.toInt8.toInt32) &&& (255 : Int32)).toUInt32.toUInt16.toUInt32.toInt32)), (.int 1), (.ref b269)])) rfl rfl (hb hby d31_26)
 refine Ends.go st291 ?_
 have V291 : Arv Z h291 b269 k269 .char (7 : Int32) [(.int (nar .char (((c0_.toInt8.toInt32) &&& (255 : Int32)).toUInt32.toUInt16.toUInt32.toInt32))), (.int (nar .char (((c1_.toInt8.toInt32) &&& (255 : Int32)).toUInt32.toUInt16.toUInt32.toInt32))), (.int 0), (.int 0), (.int 0), (.int 0), (.int 0)] (.int 0) := Arv.set Ar291 q291 S291 M291 H291 G291 (fits_nar_char _) W291 1 rfl (Nat.le_of_ble_eq_true rfl)
 have K291 := K289.wr W291 (Or.inl (List.mem_of_getElem? (i := 0) rfl))
 have O291 := O289.wr W291 g_b269
 have N291 := Fr.snoc X291 N289 g_b269
 refine wii X291 hx hby d31_27 (l' := #[cr b252, ci 2, cr b269, ci 2, ci 7, ci 2]) rfl rfl ?_
 refine wgo (pc := 30) (pc' := 3) X291 hx hby d31_30 (by decide) (by decide) ?_
 show Ends _ _ _ _ T291 (mkF m 3 #[cr b252, ci 2, cr b269, ci 2, ci 7, ci 2] []) _ _ _
 refine wil X291 hx hby d31_3 rfl ?_
 refine wil X291 hx hby d31_5 rfl ?_
 refine wcn X291 hx hby d31_7 (tlt (by decide : (2 : Int32) < (7 : Int32))).2.1 ?_
 refine walN X291 hx hby d31_10 rfl rfl ?_
 refine wilN X291 hx hby d31_11 rfl ?_
 show Ends _ _ _ _ T291 (mkF m 12 #[cr b252, ci 2, cr b269, ci 2, ci 7, ci 2] [(.int 2), (.ref b269)]) _ _ _
 refine wii X291 hx hby d31_12 (l' := #[cr b252, ci 2, cr b269, ci 3, ci 7, ci 2]) rfl rfl ?_
 refine walN X291 hx hby d31_15 rfl rfl ?_
 refine wilN X291 hx hby d31_16 rfl ?_
 refine wii X291 hx hby d31_17 (l' := #[cr b252, ci 3, cr b269, ci 3, ci 7, ci 2]) rfl rfl ?_
 obtain ⟨cl292, Ar292, q292, S292, M292, H292, G292⟩ := id ((PV_b252.other W289 ne_b252_b269).other W291 ne_b252_b269)
 have hin292 := inb_of (j := (2 : Int32)) S292 ⟨by decide, by decide⟩
 refine Ends.go (X291.baloadBytes hx (j := (2 : Int32)) (v := (.int (c2_.toInt8.toInt32))) (by rw [e291]; exact Ar292.1) (State.isArrayOf_alike hZ.alike Ar292.2.1) Ar292.2.2 hin292 (H292.at hin292 rfl) (g := (mkF m 20 #[cr b252, ci 3, cr b269, ci 3, ci 7, ci 2] [(.int 2), (.ref b252), (.int 2), (.ref b269)])) rfl rfl (hb hby d31_20)) ?_
 show Ends _ _ _ _ T291 (mkF m 21 #[cr b252, ci 3, cr b269, ci 3, ci 7, ci 2] [(.int (c2_.toInt8.toInt32)), (.int 2), (.ref b269)]) _ _ _
 refine wsp X291 hx hby d31_21 ?_
 refine wan X291 hx hby d31_24 ?_
 refine .go (fun _ => XS.i2c X291.here hx rfl (hb hby d31_25) rfl) ?_
 obtain ⟨cl293, Ar293, q293, S293, M293, H293, G293⟩ := id V291
 have hin293 := inb_of (j := (2 : Int32)) S293 ⟨by decide, by decide⟩
 obtain ⟨T293, h293, X293, e293, W293, st293⟩ := stC X291 hx hZ e291 Ar293 (j := (2 : Int32)) hin293 (g := (mkF m 26 #[cr b252, ci 3, cr b269, ci 3, ci 7, ci 2] [(.int (((c2_.toInt8.toInt32) &&& (255 : Int32)).toUInt32.toUInt16.toUInt32.toInt32)), (.int 2), (.ref b269)])) rfl rfl (hb hby d31_26)
 refine Ends.go st293 ?_
 have V293 : Arv Z h293 b269 k269 .char (7 : Int32) [(.int (nar .char (((c0_.toInt8.toInt32) &&& (255 : Int32)).toUInt32.toUInt16.toUInt32.toInt32))), (.int (nar .char (((c1_.toInt8.toInt32) &&& (255 : Int32)).toUInt32.toUInt16.toUInt32.toInt32))), (.int (nar .char (((c2_.toInt8.toInt32) &&& (255 : Int32)).toUInt32.toUInt16.toUInt32.toInt32))), (.int 0), (.int 0), (.int 0), (.int 0)] (.int 0) := Arv.set Ar293 q293 S293 M293 H293 G293 (fits_nar_char _) W293 2 rfl (Nat.le_of_ble_eq_true rfl)
 have K293 := K291.wr W293 (Or.inl (List.mem_of_getElem? (i := 0) rfl))
 have O293 := O291.wr W293 g_b269
 have N293 := Fr.snoc X293 N291 g_b269
 refine wii X293 hx hby d31_27 (l' := #[cr b252, ci 3, cr b269, ci 3, ci 7, ci 3]) rfl rfl ?_
 show Ends _ _ _ _ T293 (mkF m 30 #[cr b252, ci 3, cr b269, ci 3, ci 7, ci 3] []) _ _ _
 refine wgo (pc := 30) (pc' := 3) X293 hx hby d31_30 (by decide) (by decide) ?_
 refine wil X293 hx hby d31_3 rfl ?_
 refine wil X293 hx hby d31_5 rfl ?_
 refine wcn X293 hx hby d31_7 (tlt (by decide : (3 : Int32) < (7 : Int32))).2.1 ?_
 refine walN X293 hx hby d31_10 rfl rfl ?_
 show Ends _ _ _ _ T293 (mkF m 11 #[cr b252, ci 3, cr b269, ci 3, ci 7, ci 3] [(.ref b269)]) _ _ _
 refine wilN X293 hx hby d31_11 rfl ?_
 refine wii X293 hx hby d31_12 (l' := #[cr b252, ci 3, cr b269, ci 4, ci 7, ci 3]) rfl rfl ?_
 refine walN X293 hx hby d31_15 rfl rfl ?_
 refine wilN X293 hx hby d31_16 rfl ?_
 refine wii X293 hx hby d31_17 (l' := #[cr b252, ci 4, cr b269, ci 4, ci 7, ci 3]) rfl rfl ?_
 show Ends _ _ _ _ T293 (mkF m 20 #[cr b252, ci 4, cr b269, ci 4, ci 7, ci 3] [(.int 3), (.ref b252), (.int 3), (.ref b269)]) _ _ _
 obtain ⟨cl294, Ar294, q294, S294, M294, H294, G294⟩ := id (((PV_b252.other W289 ne_b252_b269).other W291 ne_b252_b269).other W293 ne_b252_b269)
 have hin294 := inb_of (j := (3 : Int32)) S294 ⟨by decide, by decide⟩
 refine Ends.go (X293.baloadBytes hx (j := (3 : Int32)) (v := (.int (c3_.toInt8.toInt32))) (by rw [e293]; exact Ar294.1) (State.isArrayOf_alike hZ.alike Ar294.2.1) Ar294.2.2 hin294 (H294.at hin294 rfl) (g := (mkF m 20 #[cr b252, ci 4, cr b269, ci 4, ci 7, ci 3] [(.int 3), (.ref b252), (.int 3), (.ref b269)])) rfl rfl (hb hby d31_20)) ?_
 refine wsp X293 hx hby d31_21 ?_
 refine wan X293 hx hby d31_24 ?_
 refine .go (fun _ => XS.i2c X293.here hx rfl (hb hby d31_25) rfl) ?_
 obtain ⟨cl295, Ar295, q295, S295, M295, H295, G295⟩ := id V293
 have hin295 := inb_of (j := (3 : Int32)) S295 ⟨by decide, by decide⟩
 obtain ⟨T295, h295, X295, e295, W295, st295⟩ := stC X293 hx hZ e293 Ar295 (j := (3 : Int32)) hin295 (g := (mkF m 26 #[cr b252, ci 4, cr b269, ci 4, ci 7, ci 3] [(.int (((c3_.toInt8.toInt32) &&& (255 : Int32)).toUInt32.toUInt16.toUInt32.toInt32)), (.int 3), (.ref b269)])) rfl rfl (hb hby d31_26)
 refine Ends.go st295 ?_
 have V295 : Arv Z h295 b269 k269 .char (7 : Int32) [(.int (nar .char (((c0_.toInt8.toInt32) &&& (255 : Int32)).toUInt32.toUInt16.toUInt32.toInt32))), (.int (nar .char (((c1_.toInt8.toInt32) &&& (255 : Int32)).toUInt32.toUInt16.toUInt32.toInt32))), (.int (nar .char (((c2_.toInt8.toInt32) &&& (255 : Int32)).toUInt32.toUInt16.toUInt32.toInt32))), (.int (nar .char (((c3_.toInt8.toInt32) &&& (255 : Int32)).toUInt32.toUInt16.toUInt32.toInt32))), (.int 0), (.int 0), (.int 0)] (.int 0) := Arv.set Ar295 q295 S295 M295 H295 G295 (fits_nar_char _) W295 3 rfl (Nat.le_of_ble_eq_true rfl)
 have K295 := K293.wr W295 (Or.inl (List.mem_of_getElem? (i := 0) rfl))
 have O295 := O293.wr W295 g_b269
 have N295 := Fr.snoc X295 N293 g_b269
 show Ends _ _ _ _ T295 (mkF m 27 #[cr b252, ci 4, cr b269, ci 4, ci 7, ci 3] []) _ _ _
 refine wii X295 hx hby d31_27 (l' := #[cr b252, ci 4, cr b269, ci 4, ci 7, ci 4]) rfl rfl ?_
 refine wgo (pc := 30) (pc' := 3) X295 hx hby d31_30 (by decide) (by decide) ?_
 refine wil X295 hx hby d31_3 rfl ?_
 refine wil X295 hx hby d31_5 rfl ?_
 refine wcn X295 hx hby d31_7 (tlt (by decide : (4 : Int32) < (7 : Int32))).2.1 ?_
 show Ends _ _ _ _ T295 (mkF m 10 #[cr b252, ci 4, cr b269, ci 4, ci 7, ci 4] []) _ _ _
 refine walN X295 hx hby d31_10 rfl rfl ?_
 refine wilN X295 hx hby d31_11 rfl ?_
 refine wii X295 hx hby d31_12 (l' := #[cr b252, ci 4, cr b269, ci 5, ci 7, ci 4]) rfl rfl ?_
 refine walN X295 hx hby d31_15 rfl rfl ?_
 refine wilN X295 hx hby d31_16 rfl ?_
 show Ends _ _ _ _ T295 (mkF m 17 #[cr b252, ci 4, cr b269, ci 5, ci 7, ci 4] [(.int 4), (.ref b252), (.int 4), (.ref b269)]) _ _ _
 refine wii X295 hx hby d31_17 (l' := #[cr b252, ci 5, cr b269, ci 5, ci 7, ci 4]) rfl rfl ?_
 obtain ⟨cl296, Ar296, q296, S296, M296, H296, G296⟩ := id ((((PV_b252.other W289 ne_b252_b269).other W291 ne_b252_b269).other W293 ne_b252_b269).other W295 ne_b252_b269)
 have hin296 := inb_of (j := (4 : Int32)) S296 ⟨by decide, by decide⟩
 refine Ends.go (X295.baloadBytes hx (j := (4 : Int32)) (v := (.int (c4_.toInt8.toInt32))) (by rw [e295]; exact Ar296.1) (State.isArrayOf_alike hZ.alike Ar296.2.1) Ar296.2.2 hin296 (H296.at hin296 rfl) (g := (mkF m 20 #[cr b252, ci 5, cr b269, ci 5, ci 7, ci 4] [(.int 4), (.ref b252), (.int 4), (.ref b269)])) rfl rfl (hb hby d31_20)) ?_
 refine wsp X295 hx hby d31_21 ?_
 refine wan X295 hx hby d31_24 ?_
 refine .go (fun _ => XS.i2c X295.here hx rfl (hb hby d31_25) rfl) ?_
 show Ends _ _ _ _ T295 (mkF m 26 #[cr b252, ci 5, cr b269, ci 5, ci 7, ci 4] [(.int (((c4_.toInt8.toInt32) &&& (255 : Int32)).toUInt32.toUInt16.toUInt32.toInt32)), (.int 4), (.ref b269)]) _ _ _
 obtain ⟨cl297, Ar297, q297, S297, M297, H297, G297⟩ := id V295
 have hin297 := inb_of (j := (4 : Int32)) S297 ⟨by decide, by decide⟩
 obtain ⟨T297, h297, X297, e297, W297, st297⟩ := stC X295 hx hZ e295 Ar297 (j := (4 : Int32)) hin297 (g := (mkF m 26 #[cr b252, ci 5, cr b269, ci 5, ci 7, ci 4] [(.int (((c4_.toInt8.toInt32) &&& (255 : Int32)).toUInt32.toUInt16.toUInt32.toInt32)), (.int 4), (.ref b269)])) rfl rfl (hb hby d31_26)
 refine Ends.go st297 ?_
 have V297 : Arv Z h297 b269 k269 .char (7 : Int32) [(.int (nar .char (((c0_.toInt8.toInt32) &&& (255 : Int32)).toUInt32.toUInt16.toUInt32.toInt32))), (.int (nar .char (((c1_.toInt8.toInt32) &&& (255 : Int32)).toUInt32.toUInt16.toUInt32.toInt32))), (.int (nar .char (((c2_.toInt8.toInt32) &&& (255 : Int32)).toUInt32.toUInt16.toUInt32.toInt32))), (.int (nar .char (((c3_.toInt8.toInt32) &&& (255 : Int32)).toUInt32.toUInt16.toUInt32.toInt32))), (.int (nar .char (((c4_.toInt8.toInt32) &&& (255 : Int32)).toUInt32.toUInt16.toUInt32.toInt32))), (.int 0), (.int 0)] (.int 0) := Arv.set Ar297 q297 S297 M297 H297 G297 (fits_nar_char _) W297 4 rfl (Nat.le_of_ble_eq_true rfl)
 have K297 := K295.wr W297 (Or.inl (List.mem_of_getElem? (i := 0) rfl))
 have O297 := O295.wr W297 g_b269
 have N297 := Fr.snoc X297 N295 g_b269
 refine wii X297 hx hby d31_27 (l' := #[cr b252, ci 5, cr b269, ci 5, ci 7, ci 5]) rfl rfl ?_
 refine wgo (pc := 30) (pc' := 3) X297 hx hby d31_30 (by decide) (by decide) ?_
 refine wil X297 hx hby d31_3 rfl ?_
 refine wil X297 hx hby d31_5 rfl ?_
 show Ends _ _ _ _ T297 (mkF m 7 #[cr b252, ci 5, cr b269, ci 5, ci 7, ci 5] [(.int 7), (.int 5)]) _ _ _
 refine wcn X297 hx hby d31_7 (tlt (by decide : (5 : Int32) < (7 : Int32))).2.1 ?_
 refine walN X297 hx hby d31_10 rfl rfl ?_
 refine wilN X297 hx hby d31_11 rfl ?_
 refine wii X297 hx hby d31_12 (l' := #[cr b252, ci 5, cr b269, ci 6, ci 7, ci 5]) rfl rfl ?_
 refine walN X297 hx hby d31_15 rfl rfl ?_
 show Ends _ _ _ _ T297 (mkF m 16 #[cr b252, ci 5, cr b269, ci 6, ci 7, ci 5] [(.ref b252), (.int 5), (.ref b269)]) _ _ _
 refine wilN X297 hx hby d31_16 rfl ?_
 refine wii X297 hx hby d31_17 (l' := #[cr b252, ci 6, cr b269, ci 6, ci 7, ci 5]) rfl rfl ?_
 obtain ⟨cl298, Ar298, q298, S298, M298, H298, G298⟩ := id (((((PV_b252.other W289 ne_b252_b269).other W291 ne_b252_b269).other W293 ne_b252_b269).other W295 ne_b252_b269).other W297 ne_b252_b269)
 have hin298 := inb_of (j := (5 : Int32)) S298 ⟨by decide, by decide⟩
 refine Ends.go (X297.baloadBytes hx (j := (5 : Int32)) (v := (.int (c5_.toInt8.toInt32))) (by rw [e297]; exact Ar298.1) (State.isArrayOf_alike hZ.alike Ar298.2.1) Ar298.2.2 hin298 (H298.at hin298 rfl) (g := (mkF m 20 #[cr b252, ci 6, cr b269, ci 6, ci 7, ci 5] [(.int 5), (.ref b252), (.int 5), (.ref b269)])) rfl rfl (hb hby d31_20)) ?_
 refine wsp X297 hx hby d31_21 ?_
 refine wan X297 hx hby d31_24 ?_
 show Ends _ _ _ _ T297 (mkF m 25 #[cr b252, ci 6, cr b269, ci 6, ci 7, ci 5] [(.int ((c5_.toInt8.toInt32) &&& (255 : Int32))), (.int 5), (.ref b269)]) _ _ _
 refine .go (fun _ => XS.i2c X297.here hx rfl (hb hby d31_25) rfl) ?_
 obtain ⟨cl299, Ar299, q299, S299, M299, H299, G299⟩ := id V297
 have hin299 := inb_of (j := (5 : Int32)) S299 ⟨by decide, by decide⟩
 obtain ⟨T299, h299, X299, e299, W299, st299⟩ := stC X297 hx hZ e297 Ar299 (j := (5 : Int32)) hin299 (g := (mkF m 26 #[cr b252, ci 6, cr b269, ci 6, ci 7, ci 5] [(.int (((c5_.toInt8.toInt32) &&& (255 : Int32)).toUInt32.toUInt16.toUInt32.toInt32)), (.int 5), (.ref b269)])) rfl rfl (hb hby d31_26)
 refine Ends.go st299 ?_
 have V299 : Arv Z h299 b269 k269 .char (7 : Int32) [(.int (nar .char (((c0_.toInt8.toInt32) &&& (255 : Int32)).toUInt32.toUInt16.toUInt32.toInt32))), (.int (nar .char (((c1_.toInt8.toInt32) &&& (255 : Int32)).toUInt32.toUInt16.toUInt32.toInt32))), (.int (nar .char (((c2_.toInt8.toInt32) &&& (255 : Int32)).toUInt32.toUInt16.toUInt32.toInt32))), (.int (nar .char (((c3_.toInt8.toInt32) &&& (255 : Int32)).toUInt32.toUInt16.toUInt32.toInt32))), (.int (nar .char (((c4_.toInt8.toInt32) &&& (255 : Int32)).toUInt32.toUInt16.toUInt32.toInt32))), (.int (nar .char (((c5_.toInt8.toInt32) &&& (255 : Int32)).toUInt32.toUInt16.toUInt32.toInt32))), (.int 0)] (.int 0) := Arv.set Ar299 q299 S299 M299 H299 G299 (fits_nar_char _) W299 5 rfl (Nat.le_of_ble_eq_true rfl)
 have K299 := K297.wr W299 (Or.inl (List.mem_of_getElem? (i := 0) rfl))
 have O299 := O297.wr W299 g_b269
 have N299 := Fr.snoc X299 N297 g_b269
 refine wii X299 hx hby d31_27 (l' := #[cr b252, ci 6, cr b269, ci 6, ci 7, ci 6]) rfl rfl ?_
 refine wgo (pc := 30) (pc' := 3) X299 hx hby d31_30 (by decide) (by decide) ?_
 refine wil X299 hx hby d31_3 rfl ?_
 show Ends _ _ _ _ T299 (mkF m 5 #[cr b252, ci 6, cr b269, ci 6, ci 7, ci 6] [(.int 6)]) _ _ _
 refine wil X299 hx hby d31_5 rfl ?_
 refine wcn X299 hx hby d31_7 (tlt (by decide : (6 : Int32) < (7 : Int32))).2.1 ?_
 refine walN X299 hx hby d31_10 rfl rfl ?_
 refine wilN X299 hx hby d31_11 rfl ?_
 refine wii X299 hx hby d31_12 (l' := #[cr b252, ci 6, cr b269, ci 7, ci 7, ci 6]) rfl rfl ?_
 show Ends _ _ _ _ T299 (mkF m 15 #[cr b252, ci 6, cr b269, ci 7, ci 7, ci 6] [(.int 6), (.ref b269)]) _ _ _
 refine walN X299 hx hby d31_15 rfl rfl ?_
 refine wilN X299 hx hby d31_16 rfl ?_
 refine wii X299 hx hby d31_17 (l' := #[cr b252, ci 7, cr b269, ci 7, ci 7, ci 6]) rfl rfl ?_
 obtain ⟨cl300, Ar300, q300, S300, M300, H300, G300⟩ := id ((((((PV_b252.other W289 ne_b252_b269).other W291 ne_b252_b269).other W293 ne_b252_b269).other W295 ne_b252_b269).other W297 ne_b252_b269).other W299 ne_b252_b269)
 have hin300 := inb_of (j := (6 : Int32)) S300 ⟨by decide, by decide⟩
 refine Ends.go (X299.baloadBytes hx (j := (6 : Int32)) (v := (.int (c6_.toInt8.toInt32))) (by rw [e299]; exact Ar300.1) (State.isArrayOf_alike hZ.alike Ar300.2.1) Ar300.2.2 hin300 (H300.at hin300 rfl) (g := (mkF m 20 #[cr b252, ci 7, cr b269, ci 7, ci 7, ci 6] [(.int 6), (.ref b252), (.int 6), (.ref b269)])) rfl rfl (hb hby d31_20)) ?_
 refine wsp X299 hx hby d31_21 ?_
 show Ends _ _ _ _ T299 (mkF m 24 #[cr b252, ci 7, cr b269, ci 7, ci 7, ci 6] [(.int 255), (.int (c6_.toInt8.toInt32)), (.int 6), (.ref b269)]) _ _ _
 refine wan X299 hx hby d31_24 ?_
 refine .go (fun _ => XS.i2c X299.here hx rfl (hb hby d31_25) rfl) ?_
 obtain ⟨cl301, Ar301, q301, S301, M301, H301, G301⟩ := id V299
 have hin301 := inb_of (j := (6 : Int32)) S301 ⟨by decide, by decide⟩
 obtain ⟨T301, h301, X301, e301, W301, st301⟩ := stC X299 hx hZ e299 Ar301 (j := (6 : Int32)) hin301 (g := (mkF m 26 #[cr b252, ci 7, cr b269, ci 7, ci 7, ci 6] [(.int (((c6_.toInt8.toInt32) &&& (255 : Int32)).toUInt32.toUInt16.toUInt32.toInt32)), (.int 6), (.ref b269)])) rfl rfl (hb hby d31_26)
 refine Ends.go st301 ?_
 have V301 : Arv Z h301 b269 k269 .char (7 : Int32) [(.int (nar .char (((c0_.toInt8.toInt32) &&& (255 : Int32)).toUInt32.toUInt16.toUInt32.toInt32))), (.int (nar .char (((c1_.toInt8.toInt32) &&& (255 : Int32)).toUInt32.toUInt16.toUInt32.toInt32))), (.int (nar .char (((c2_.toInt8.toInt32) &&& (255 : Int32)).toUInt32.toUInt16.toUInt32.toInt32))), (.int (nar .char (((c3_.toInt8.toInt32) &&& (255 : Int32)).toUInt32.toUInt16.toUInt32.toInt32))), (.int (nar .char (((c4_.toInt8.toInt32) &&& (255 : Int32)).toUInt32.toUInt16.toUInt32.toInt32))), (.int (nar .char (((c5_.toInt8.toInt32) &&& (255 : Int32)).toUInt32.toUInt16.toUInt32.toInt32))), (.int (nar .char (((c6_.toInt8.toInt32) &&& (255 : Int32)).toUInt32.toUInt16.toUInt32.toInt32)))] (.int 0) := Arv.set Ar301 q301 S301 M301 H301 G301 (fits_nar_char _) W301 6 rfl (Nat.le_of_ble_eq_true rfl)
 have K301 := K299.wr W301 (Or.inl (List.mem_of_getElem? (i := 0) rfl))
 have O301 := O299.wr W301 g_b269
 have N301 := Fr.snoc X301 N299 g_b269
 refine wii X301 hx hby d31_27 (l' := #[cr b252, ci 7, cr b269, ci 7, ci 7, ci 7]) rfl rfl ?_
 refine wgo (pc := 30) (pc' := 3) X301 hx hby d31_30 (by decide) (by decide) ?_
 show Ends _ _ _ _ T301 (mkF m 3 #[cr b252, ci 7, cr b269, ci 7, ci 7, ci 7] []) _ _ _
 refine wil X301 hx hby d31_3 rfl ?_
 refine wil X301 hx hby d31_5 rfl ?_
 refine wcy (pc := 7) (pc' := 33) X301 hx hby d31_7 (flt (by decide : ¬ ((7 : Int32) < (7 : Int32)))).2.1 (by decide) (by decide) ?_
 refine Ends.retV X301 hx Bd.notSynchronized Bd.returns (hb hby d31_33) (by decide) (by decide) ?_
 rw [e301]
 exact ⟨rfl, N301, K301, V301⟩

theorem d30_0 : decode jdk_43_method_11_code 0 = .ok (.aload_n 0, 1) := by decide +kernel
theorem d30_1 : decode jdk_43_method_11_code 1 = .ok (.iload_n 1, 1) := by decide +kernel
theorem d30_2 : decode jdk_43_method_11_code 2 = .ok (.aload_n 3, 1) := by decide +kernel
theorem d30_3 : decode jdk_43_method_11_code 3 = .ok (.iload 4, 2) := by decide +kernel
theorem d30_5 : decode jdk_43_method_11_code 5 = .ok (.iload_n 2, 1) := by decide +kernel
theorem d30_6 : decode jdk_43_method_11_code 6 = .ok (.iload_n 1, 1) := by decide +kernel
theorem d30_7 : decode jdk_43_method_11_code 7 = .ok (.isub, 1) := by decide +kernel
theorem d30_8 : decode jdk_43_method_11_code 8 = .ok (.invokestatic 13, 3) := by decide +kernel
theorem d30_11 : decode jdk_43_method_11_code 11 = .ok (.return_, 1) := by decide +kernel
theorem pn30 : plainName "java/lang/StringLatin1" = true := by first | (simp [plainName, overriddenIn]; done) | decide +kernel
theorem pdx_15 : parseMethodDescriptor "([BI[CII)V" = some ⟨[(.array .byte), .int, (.array .char), .int, .int], none⟩ := by decide +kernel
theorem ef30_riiri (m : MethodId) (x0 : Addr) (x1 : Int32) (x2 : Int32) (x3 : Addr) (x4 : Int32) : entryFrame m #[(.ref x0), (.int x1), (.int x2), (.ref x3), (.int x4)] 5 = mkF m 0 #[.val (.ref x0), .val (.int x1), .val (.int x2), .val (.ref x3), .val (.int x4)] [] := by first | (simp [entryFrame, mkF, argsToLocals, Value.category]; done) | rfl
set_option maxRecDepth 65536 in
set_option maxHeartbeats 40000000 in
theorem rx30_286 (l : Launch) (Z : State) (a0 : Array Value) (hw : ∀ d ∈ tables_1, d.before a0 Z = true) (ws : List Jvm.Cond) (n0 : Nat) (h0 : Heap) (O0 : Old Z n0 h0)  (b252 : Addr) (b269 : Addr) (k253 : ClassId) (c0_ : Int32) (c1_ : Int32) (c2_ : Int32) (c3_ : Int32) (c4_ : Int32) (c5_ : Int32) (c6_ : Int32) (k269 : ClassId) (PV_b252 : Arv Z h0 b252 k253 .byte (7 : Int32) [(.int (c0_.toInt8.toInt32)), (.int (c1_.toInt8.toInt32)), (.int (c2_.toInt8.toInt32)), (.int (c3_.toInt8.toInt32)), (.int (c4_.toInt8.toInt32)), (.int (c5_.toInt8.toInt32)), (.int (c6_.toInt8.toInt32))] (.int 0)) (PV_b269 : Arv Z h0 b269 k269 .char (7 : Int32) [(.int 0), (.int 0), (.int 0), (.int 0), (.int 0), (.int 0), (.int 0)] (.int 0)) (ne_b252_b269 : b252 ≠ b269) (g_b269 : n0 ≤ b269) :
  Meets1 l ym20 jdk_43_method_11_code 5 none ws ({ frames := 1, cells := 0, slots := 0, locals := 17 } : Room) #[(.ref b252), (.int 0), (.int 7), (.ref b269), (.int 0)] Z h0 (fun v h L => v = none ∧ Fr n0 L ∧ Keep h0 h [b269] ∧ Arv Z h b269 k269 .char (7 : Int32) [(.int (nar .char (((c0_.toInt8.toInt32) &&& (255 : Int32)).toUInt32.toUInt16.toUInt32.toInt32))), (.int (nar .char (((c1_.toInt8.toInt32) &&& (255 : Int32)).toUInt32.toUInt16.toUInt32.toInt32))), (.int (nar .char (((c2_.toInt8.toInt32) &&& (255 : Int32)).toUInt32.toUInt16.toUInt32.toInt32))), (.int (nar .char (((c3_.toInt8.toInt32) &&& (255 : Int32)).toUInt32.toUInt16.toUInt32.toInt32))), (.int (nar .char (((c4_.toInt8.toInt32) &&& (255 : Int32)).toUInt32.toUInt16.toUInt32.toInt32))), (.int (nar .char (((c5_.toInt8.toInt32) &&& (255 : Int32)).toUInt32.toUInt16.toUInt32.toInt32))), (.int (nar .char (((c6_.toInt8.toInt32) &&& (255 : Int32)).toUInt32.toUInt16.toUInt32.toInt32)))] (.int 0)) := by
 refine MetFree.of_bodySF (plainFor_of_name pn30) hisR ?_
 intro p e s m args below meth c s₁ Bd hml0 hP hK
 obtain ⟨rfl, hZ, hh⟩ := hP
 have hx := Bd.exec
 have hby := Bd.bytes
 have hml : c.maxLocals = 5 := hml0
 have hown : s.vm.findClass "java/lang/StringLatin1" = some m.cls := findClass_of_methodNamed Bd.named
 have hnm := (name_of_methodNamed Bd.named Bd.method).1
 have X0 : Stand p l e ({ frames := 1, cells := 0, slots := 0, locals := 17 } : Room) s m #[(.ref b252), (.int 0), (.int 7), (.ref b269), (.int 0)] below meth c s₁ [] 0 0 := Stand.of_body Bd
 have e0 : s₁.heap = h0 := by rw [← hh, Bd.state]; rfl
 have N0 := Fr.nil n0
 have Z0 := own_old_le O0
 show Ends _ _ _ _ s₁ (entryFrame m #[(.ref b252), (.int 0), (.int 7), (.ref b269), (.int 0)] 5) ({ frames := 1, cells := 0, slots := 0, locals := 17 } : Room).cells ({ frames := 1, cells := 0, slots := 0, locals := 17 } : Room).slots (fun v h L => v = none ∧ Fr n0 L ∧ Keep h0 h [b269] ∧ Arv Z h b269 k269 .char (7 : Int32) [(.int (nar .char (((c0_.toInt8.toInt32) &&& (255 : Int32)).toUInt32.toUInt16.toUInt32.toInt32))), (.int (nar .char (((c1_.toInt8.toInt32) &&& (255 : Int32)).toUInt32.toUInt16.toUInt32.toInt32))), (.int (nar .char (((c2_.toInt8.toInt32) &&& (255 : Int32)).toUInt32.toUInt16.toUInt32.toInt32))), (.int (nar .char (((c3_.toInt8.toInt32) &&& (255 : Int32)).toUInt32.toUInt16.toUInt32.toInt32))), (.int (nar .char (((c4_.toInt8.toInt32) &&& (255 : Int32)).toUInt32.toUInt16.toUInt32.toInt32))), (.int (nar .char (((c5_.toInt8.toInt32) &&& (255 : Int32)).toUInt32.toUInt16.toUInt32.toInt32))), (.int (nar .char (((c6_.toInt8.toInt32) &&& (255 : Int32)).toUInt32.toUInt16.toUInt32.toInt32)))] (.int 0))
 refine Ends.go (fun _ k => castTop (ef30_riiri m b252 (0 : Int32) (7 : Int32) b269 (0 : Int32)) k) ?_
 have K0 := Keep.refl h0 [b269]
 show Ends _ _ _ _ s₁ (mkF m 0 #[cr b252, ci 0, ci 7, cr b269, ci 0] []) _ _ _
 refine walN X0 hx hby d30_0 rfl rfl ?_
 refine wilN X0 hx hby d30_1 rfl ?_
 refine walN X0 hx hby d30_2 rfl rfl ?_
 refine wil X0 hx hby d30_3 rfl ?_
 show Ends _ _ _ _ s₁ (mkF m 5 #[cr b252, ci 0, ci 7, cr b269, ci 0] [(.int 0), (.ref b269), (.int 0), (.ref b252)]) _ _ _
 refine wilN X0 hx hby d30_5 rfl ?_
 refine wilN X0 hx hby d30_6 rfl ?_
 refine wis X0 hx hby d30_7 ?_
 obtain ⟨_, _, ⟨T302, L302, k302, n302⟩, -, X302, ⟨Lc302, hQ302, l302, y302, z302⟩, st302⟩ := Jvm.LawKit.callS X0 hx (y := ym19) hown (mvT hZ (ow hw 146 rfl)) (mvT hZ (ow hw 147 rfl)) (mvT hZ (ow hw 144 rfl)) (mvT hZ (ow hw 148 rfl)) (by decide) (own_backOf (W := 0) (rx31_287 l Z a0 hw [] n0 h0 O0  b252 b269 k253 c0_ c1_ c2_ c3_ c4_ c5_ c6_ k269 PV_b252 PV_b269 ne_b252_b269 g_b269) hZ (ow hw 148 rfl) (ow hw 144 rfl) (by decide) (by decide)) (g := (mkF m 8 #[cr b252, ci 0, ci 7, cr b269, ci 0] [(.int 7), (.int 0), (.ref b269), (.int 0), (.ref b252)])) rfl (by rw [hml]; rfl) (argsL := [(.ref b252), (.int 0), (.ref b269), (.int 0), (.int 7)]) (rest := []) (lenOf pdx_15 rfl) rfl (by show 2 * 0 + _ ≤ _; exact Nat.le_of_eq rfl) (hb hby d30_8) (fun _ _ => ⟨rfl, e0, (by decide : 0 + 0 ≤ _), (by decide : 0 + 0 ≤ _)⟩)
 dsimp only [Pt.U, Pt.locs, Pt.cells, Pt.slots] at X302 l302 y302 z302 st302 hQ302
 subst l302 y302 z302
 obtain ⟨rfl, N302q, K302c, Y302_0⟩ := hQ302
 have N302 := Fr.app N0 N302q
 refine Ends.go st302 ?_
 obtain ⟨h302, e302⟩ : ∃ z, T302.heap = z := ⟨_, rfl⟩
 rw [e302] at K302c Y302_0
 have K302 := K0.trans K302c (allS (Or.inl (List.mem_of_getElem? (i := 0) rfl)) all0)
 have O302 := O0.keep K302c (allS g_b269 all0)
 refine Ends.retV X302 hx Bd.notSynchronized Bd.returns (hb hby d30_11) (by decide) (by decide) ?_
 rw [e302]
 exact ⟨rfl, N302, K302, Y302_0⟩

theorem d18_0 : decode jdk_42_method_61_code 0 = .ok (.iload_n 1, 1) := by decide +kernel
theorem d18_1 : decode jdk_42_method_61_code 1 = .ok (.iload_n 2, 1) := by decide +kernel
theorem d18_2 : decode jdk_42_method_61_code 2 = .ok (.aload_n 0, 1) := by decide +kernel
theorem d18_3 : decode jdk_42_method_61_code 3 = .ok (.invokevirtual 505, 3) := by decide +kernel
theorem d18_6 : decode jdk_42_method_61_code 6 = .ok (.invokestatic 521, 3) := by decide +kernel
theorem d18_9 : decode jdk_42_method_61_code 9 = .ok (.iload 4, 2) := by decide +kernel
theorem d18_11 : decode jdk_42_method_61_code 11 = .ok (.iload_n 2, 1) := by decide +kernel
theorem d18_12 : decode jdk_42_method_61_code 12 = .ok (.iload_n 1, 1) := by decide +kernel
theorem d18_13 : decode jdk_42_method_61_code 13 = .ok (.isub, 1) := by decide +kernel
theorem d18_14 : decode jdk_42_method_61_code 14 = .ok (.aload_n 3, 1) := by decide +kernel
theorem d18_15 : decode jdk_42_method_61_code 15 = .ok (.arraylength, 1) := by decide +kernel
theorem d18_16 : decode jdk_42_method_61_code 16 = .ok (.invokestatic 34, 3) := by decide +kernel
theorem d18_19 : decode jdk_42_method_61_code 19 = .ok (.pop, 1) := by decide +kernel
theorem d18_20 : decode jdk_42_method_61_code 20 = .ok (.aload_n 0, 1) := by decide +kernel
theorem d18_21 : decode jdk_42_method_61_code 21 = .ok (.invokevirtual 492, 3) := by decide +kernel
theorem d18_24 : decode jdk_42_method_61_code 24 = .ok (.ifCond .eq 18, 3) := by decide +kernel
theorem d18_27 : decode jdk_42_method_61_code 27 = .ok (.aload_n 0, 1) := by decide +kernel
theorem d18_28 : decode jdk_42_method_61_code 28 = .ok (.getfield 9, 3) := by decide +kernel
theorem d18_31 : decode jdk_42_method_61_code 31 = .ok (.iload_n 1, 1) := by decide +kernel
theorem d18_32 : decode jdk_42_method_61_code 32 = .ok (.iload_n 2, 1) := by decide +kernel
theorem d18_33 : decode jdk_42_method_61_code 33 = .ok (.aload_n 3, 1) := by decide +kernel
theorem d18_34 : decode jdk_42_method_61_code 34 = .ok (.iload 4, 2) := by decide +kernel
theorem d18_36 : decode jdk_42_method_61_code 36 = .ok (.invokestatic 525, 3) := by decide +kernel
theorem d18_39 : decode jdk_42_method_61_code 39 = .ok (.goto 15, 3) := by decide +kernel
theorem d18_54 : decode jdk_42_method_61_code 54 = .ok (.return_, 1) := by decide +kernel
theorem pn18 : plainName "java/lang/String" = true := by first | (simp [plainName, overriddenIn]; done) | decide +kernel
theorem pdx_16 : parseMethodDescriptor "([BII[CI)V" = some ⟨[(.array .byte), .int, .int, (.array .char), .int], none⟩ := by decide +kernel
theorem ef18_riiri (m : MethodId) (x0 : Addr) (x1 : Int32) (x2 : Int32) (x3 : Addr) (x4 : Int32) : entryFrame m #[(.ref x0), (.int x1), (.int x2), (.ref x3), (.int x4)] 5 = mkF m 0 #[.val (.ref x0), .val (.int x1), .val (.int x2), .val (.ref x3), .val (.int x4)] [] := by first | (simp [entryFrame, mkF, argsToLocals, Value.category]; done) | rfl
set_option maxRecDepth 65536 in
set_option maxHeartbeats 40000000 in
theorem rx18_276 (l : Launch) (Z : State) (a0 : Array Value) (hw : ∀ d ∈ tables_1, d.before a0 Z = true) (ws : List Jvm.Cond) (n0 : Nat) (h0 : Heap) (O0 : Old Z n0 h0) (G1 : Int32) (G3 : Value) (GF : GlobF Z G1 G3) (b216 : Addr) (b269 : Addr) (b252 : Addr) (k253 : ClassId) (c0_ : Int32) (c1_ : Int32) (c2_ : Int32) (c3_ : Int32) (c4_ : Int32) (c5_ : Int32) (c6_ : Int32) (k269 : ClassId) (PF_b216_value : Fld Z h0 b216 "java/lang/String" "value" "[B" (.ref b252)) (PV_b252 : Arv Z h0 b252 k253 .byte (7 : Int32) [(.int (c0_.toInt8.toInt32)), (.int (c1_.toInt8.toInt32)), (.int (c2_.toInt8.toInt32)), (.int (c3_.toInt8.toInt32)), (.int (c4_.toInt8.toInt32)), (.int (c5_.toInt8.toInt32)), (.int (c6_.toInt8.toInt32))] (.int 0)) (PF_b216_coder : Fld Z h0 b216 "java/lang/String" "coder" "B" (.int 0)) (PE_b216 : Exa Z h0 b216 "java/lang/String") (PV_b269 : Arv Z h0 b269 k269 .char (7 : Int32) [(.int 0), (.int 0), (.int 0), (.int 0), (.int 0), (.int 0), (.int 0)] (.int 0)) (ne_b252_b269 : b252 ≠ b269) (g_b269 : n0 ≤ b269) :
  Meets1 l ym21 jdk_42_method_61_code 5 none ws ({ frames := 2, cells := 0, slots := 0, locals := 33 } : Room) #[(.ref b216), (.int 0), (.int 7), (.ref b269), (.int 0)] Z h0 (fun v h L => v = none ∧ Fr n0 L ∧ Keep h0 h [b269] ∧ Arv Z h b269 k269 .char (7 : Int32) [(.int (nar .char (((c0_.toInt8.toInt32) &&& (255 : Int32)).toUInt32.toUInt16.toUInt32.toInt32))), (.int (nar .char (((c1_.toInt8.toInt32) &&& (255 : Int32)).toUInt32.toUInt16.toUInt32.toInt32))), (.int (nar .char (((c2_.toInt8.toInt32) &&& (255 : Int32)).toUInt32.toUInt16.toUInt32.toInt32))), (.int (nar .char (((c3_.toInt8.toInt32) &&& (255 : Int32)).toUInt32.toUInt16.toUInt32.toInt32))), (.int (nar .char (((c4_.toInt8.toInt32) &&& (255 : Int32)).toUInt32.toUInt16.toUInt32.toInt32))), (.int (nar .char (((c5_.toInt8.toInt32) &&& (255 : Int32)).toUInt32.toUInt16.toUInt32.toInt32))), (.int (nar .char (((c6_.toInt8.toInt32) &&& (255 : Int32)).toUInt32.toUInt16.toUInt32.toInt32)))] (.int 0)) := by
 refine MetFree.of_bodySF (plainFor_of_name pn18) hisR ?_
 intro p e s m args below meth c s₁ Bd hml0 hP hK
 obtain ⟨rfl, hZ, hh⟩ := hP
 have hx := Bd.exec
 have hby := Bd.bytes
 have hml : c.maxLocals = 5 := hml0
 have hown : s.vm.findClass "java/lang/String" = some m.cls := findClass_of_methodNamed Bd.named
 have hnm := (name_of_methodNamed Bd.named Bd.method).1
 have X0 : Stand p l e ({ frames := 2, cells := 0, slots := 0, locals := 33 } : Room) s m #[(.ref b216), (.int 0), (.int 7), (.ref b269), (.int 0)] below meth c s₁ [] 0 0 := Stand.of_body Bd
 have e0 : s₁.heap = h0 := by rw [← hh, Bd.state]; rfl
 have N0 := Fr.nil n0
 have Z0 := own_old_le O0
 show Ends _ _ _ _ s₁ (entryFrame m #[(.ref b216), (.int 0), (.int 7), (.ref b269), (.int 0)] 5) ({ frames := 2, cells := 0, slots := 0, locals := 33 } : Room).cells ({ frames := 2, cells := 0, slots := 0, locals := 33 } : Room).slots (fun v h L => v = none ∧ Fr n0 L ∧ Keep h0 h [b269] ∧ Arv Z h b269 k269 .char (7 : Int32) [(.int (nar .char (((c0_.toInt8.toInt32) &&& (255 : Int32)).toUInt32.toUInt16.toUInt32.toInt32))), (.int (nar .char (((c1_.toInt8.toInt32) &&& (255 : Int32)).toUInt32.toUInt16.toUInt32.toInt32))), (.int (nar .char (((c2_.toInt8.toInt32) &&& (255 : Int32)).toUInt32.toUInt16.toUInt32.toInt32))), (.int (nar .char (((c3_.toInt8.toInt32) &&& (255 : Int32)).toUInt32.toUInt16.toUInt32.toInt32))), (.int (nar .char (((c4_.toInt8.toInt32) &&& (255 : Int32)).toUInt32.toUInt16.toUInt32.toInt32))), (.int (nar .char (((c5_.toInt8.toInt32) &&& (255 : Int32)).toUInt32.toUInt16.toUInt32.toInt32))), (.int (nar .char (((c6_.toInt8.toInt32) &&& (255 : Int32)).toUInt32.toUInt16.toUInt32.toInt32)))] (.int 0))
 refine Ends.go (fun _ k => castTop (ef18_riiri m b216 (0 : Int32) (7 : Int32) b269 (0 : Int32)) k) ?_
 obtain ⟨SCS, P5, SAD, SHI, SLO, SSF, RG3⟩ := id GF
 have K0 := Keep.refl h0 [b269]
 show Ends _ _ _ _ s₁ (mkF m 0 #[cr b216, ci 0, ci 7, cr b269, ci 0] []) _ _ _
 refine wilN X0 hx hby d18_0 rfl ?_
 refine wilN X0 hx hby d18_1 rfl ?_
 refine walN X0 hx hby d18_2 rfl rfl ?_
 obtain ⟨cq277, kq277, q277a, q277b, q277c⟩ := isOf hZ e0 PE_b216
 obtain ⟨_, _, ⟨T277, L277, k277, n277⟩, -, X277, ⟨Lc277, hQ277, l277, y277, z277⟩, st277⟩ := X0.virtualBack hx (y := ym16) (z := ym16) hown (mvT hZ (ow hw 91 rfl)) (mvT hZ (ow hw 69 rfl)) (notFace_of_selects (args := #[]) (mvT hZ (ow hw 71 rfl))) (mvT hZ (ow hw 71 rfl)) (mvT hZ (ow hw 70 rfl)) (by decide) (own_backOf (W := 2) (rx15_259 l Z a0 hw [] n0 h0 O0 G1 G3 GF b216 b252 k253 c0_ c1_ c2_ c3_ c4_ c5_ c6_ PF_b216_value PV_b252 PF_b216_coder PE_b216) hZ (ow hw 72 rfl) (ow hw 11 rfl) (by decide) (by decide)) q277a q277c (g := (mkF m 3 #[cr b216, ci 0, ci 7, cr b269, ci 0] [(.ref b216), (.int 7), (.int 0)])) rfl (by rw [hml]; rfl) (Steps.refl _) (argsL := []) (rest := [(.int 7), (.int 0)]) (lenOf pdx_10 rfl) rfl (by show 2 * 0 + _ ≤ _; exact Nat.le_of_eq rfl) (hb hby d18_3) (fun _ _ => ⟨rfl, e0, (by decide : 0 + 0 ≤ _), (by decide : 0 + 0 ≤ _)⟩)
 dsimp only [Pt.U, Pt.locs, Pt.cells, Pt.slots] at X277 l277 y277 z277 st277 hQ277
 subst l277 y277 z277
 obtain ⟨rfl, N277q, K277c⟩ := hQ277
 have N277 := Fr.app N0 N277q
 refine Ends.go (fun _ k => st277.trans k) ?_
 obtain ⟨h277, e277⟩ : ∃ z, T277.heap = z := ⟨_, rfl⟩
 rw [e277] at K277c
 have K277 := K0.trans K277c all0
 have O277 := O0.keep K277c all0
 show Ends _ _ _ _ T277 (mkF m 6 #[cr b216, ci 0, ci 7, cr b269, ci 0] [(.int 7), (.int 7), (.int 0)]) _ _ _
 obtain ⟨_, _, ⟨T278, L278, k278, n278⟩, -, X278, ⟨Lc278, hQ278, l278, y278, z278⟩, st278⟩ := Jvm.LawKit.callS X277 hx (y := ym3) hown (mvT hZ (ow hw 92 rfl)) (mvT hZ (ow hw 93 rfl)) (mvT hZ (ow hw 11 rfl)) (mvT hZ (ow hw 94 rfl)) (by decide) (own_backOf (W := 0) (rm_checkBoundsBeginEnd l Z a0 hw [] n0 h277 O277 (0 : Int32) (7 : Int32) (7 : Int32) G1 G3 GF (by decide) (by decide) (by decide)) hZ (ow hw 94 rfl) (ow hw 11 rfl) (by decide) (by decide)) (g := (mkF m 6 #[cr b216, ci 0, ci 7, cr b269, ci 0] [(.int 7), (.int 7), (.int 0)])) rfl (by rw [hml]; rfl) (argsL := [(.int 0), (.int 7), (.int 7)]) (rest := []) (lenOf pdx_12 rfl) rfl (by show 2 * 0 + _ ≤ _; exact Nat.le_of_eq rfl) (hb hby d18_6) (fun _ _ => ⟨rfl, e277, (by decide : 0 + 0 ≤ _), (by decide : 0 + 0 ≤ _)⟩)
 dsimp only [Pt.U, Pt.locs, Pt.cells, Pt.slots] at X278 l278 y278 z278 st278 hQ278
 subst l278 y278 z278
 obtain ⟨rfl, N278q, e278q⟩ := hQ278
 have N278 := Fr.app N277 N278q
 refine Ends.go st278 ?_
 refine wil X278 hx hby d18_9 rfl ?_
 refine wilN X278 hx hby d18_11 rfl ?_
 refine wilN X278 hx hby d18_12 rfl ?_
 refine wis X278 hx hby d18_13 ?_
 show Ends _ _ _ _ T278 (mkF m 14 #[cr b216, ci 0, ci 7, cr b269, ci 0] [(.int 7), (.int 0)]) _ _ _
 refine walN X278 hx hby d18_14 rfl rfl ?_
 obtain ⟨cl279, Ar279, q279, S279, M279, H279, G279⟩ := id (PV_b269.keep K277c nin0)
 refine Ends.go (X278.arraylength hx (by rw [e278q]; exact Ar279.1) (State.isArrayOf_alike hZ.alike Ar279.2.1) (g := (mkF m 15 #[cr b216, ci 0, ci 7, cr b269, ci 0] [(.ref b269), (.int 7), (.int 0)])) rfl rfl (hb hby d18_15)) ?_
 rw [len_of S279 M279]
 obtain ⟨_, _, ⟨T280, L280, k280, n280⟩, -, X280, ⟨Lc280, hQ280, l280, y280, z280⟩, st280⟩ := Jvm.LawKit.callS X278 hx (y := ym5) hown (mvT hZ (ow hw 100 rfl)) (mvT hZ (ow hw 101 rfl)) (mvT hZ (ow hw 11 rfl)) (mvT hZ (ow hw 102 rfl)) (by decide) (own_backOf (W := 0) (rm_checkBoundsOffCount l Z a0 hw [] n0 h277 O277 (0 : Int32) (7 : Int32) (7 : Int32) G1 G3 GF (by decide) (by decide)) hZ (ow hw 102 rfl) (ow hw 11 rfl) (by decide) (by decide)) (g := (mkF m 16 #[cr b216, ci 0, ci 7, cr b269, ci 0] [(.int 7), (.int 7), (.int 0)])) rfl (by rw [hml]; rfl) (argsL := [(.int 0), (.int 7), (.int 7)]) (rest := []) (lenOf pdx_13 rfl) rfl (by show 2 * 0 + _ ≤ _; exact Nat.le_of_eq rfl) (hb hby d18_16) (fun _ _ => ⟨rfl, e278q, (by decide : 0 + 0 ≤ _), (by decide : 0 + 0 ≤ _)⟩)
 dsimp only [Pt.U, Pt.locs, Pt.cells, Pt.slots] at X280 l280 y280 z280 st280 hQ280
 subst l280 y280 z280
 obtain ⟨rfl, N280q, e280q⟩ := hQ280
 have N280 := Fr.app N278 N280q
 refine Ends.go st280 ?_
 refine .go (fun _ => XS.pop X280.here hx rfl (hb hby d18_19) rfl rfl) ?_
 refine walN X280 hx hby d18_20 rfl rfl ?_
 show Ends _ _ _ _ T280 (mkF m 21 #[cr b216, ci 0, ci 7, cr b269, ci 0] [(.ref b216)]) _ _ _
 obtain ⟨cq284, kq284, q284a, q284b, q284c⟩ := isOf hZ e280q (PE_b216.keep K277c)
 obtain ⟨_, _, ⟨T284, L284, k284, n284⟩, -, X284, ⟨Lc284, hQ284, l284, y284, z284⟩, st284⟩ := X280.virtualBack hx (y := ym18) (z := ym18) hown (mvT hZ (ow hw 106 rfl)) (mvT hZ (ow hw 107 rfl)) (notFace_of_selects (args := #[]) (mvT hZ (ow hw 109 rfl))) (mvT hZ (ow hw 109 rfl)) (mvT hZ (ow hw 108 rfl)) (by decide) (own_backOf (W := 0) (rx23_281 l Z a0 hw [] n0 h277 O277 G1 G3 GF b216 (PF_b216_coder.keep K277c nin0)) hZ (ow hw 110 rfl) (ow hw 11 rfl) (by decide) (by decide)) q284a q284c (g := (mkF m 21 #[cr b216, ci 0, ci 7, cr b269, ci 0] [(.ref b216)])) rfl (by rw [hml]; rfl) (Steps.refl _) (argsL := []) (rest := []) (lenOf pdx_14 rfl) rfl (by show 2 * 0 + _ ≤ _; exact Nat.le_of_eq rfl) (hb hby d18_21) (fun _ _ => ⟨rfl, e280q, (by decide : 0 + 0 ≤ _), (by decide : 0 + 0 ≤ _)⟩)
 dsimp only [Pt.U, Pt.locs, Pt.cells, Pt.slots] at X284 l284 y284 z284 st284 hQ284
 subst l284 y284 z284
 obtain ⟨rfl, N284q, K284c⟩ := hQ284
 have N284 := Fr.app N280 N284q
 refine Ends.go (fun _ k => st284.trans k) ?_
 obtain ⟨h284, e284⟩ : ∃ z, T284.heap = z := ⟨_, rfl⟩
 rw [e284] at K284c
 have K284 := K277.trans K284c all0
 have O284 := O277.keep K284c all0
 refine win X284 hx hby d18_24 ((if0 _ _).trans (feq (by decide : ¬ ((1 : Int32) = (0 : Int32)))).1) ?_
 refine walN X284 hx hby d18_27 rfl rfl ?_
 obtain ⟨T285, X285, e285, st285⟩ := getF X284 hx hZ hown (host := "") (Or.inl (ow hw 55 rfl)) Via.refl e284 ((PF_b216_value.keep K277c nin0).keep K284c nin0) (g := (mkF m 28 #[cr b216, ci 0, ci 7, cr b269, ci 0] [(.ref b216)])) rfl rfl (hb hby d18_28)
 refine Ends.go st285 ?_
 refine wilN X285 hx hby d18_31 rfl ?_
 show Ends _ _ _ _ T285 (mkF m 32 #[cr b216, ci 0, ci 7, cr b269, ci 0] [(.int 0), (.ref b252)]) _ _ _
 refine wilN X285 hx hby d18_32 rfl ?_
 refine walN X285 hx hby d18_33 rfl rfl ?_
 refine wil X285 hx hby d18_34 rfl ?_
 obtain ⟨_, _, ⟨T303, L303, k303, n303⟩, -, X303, ⟨Lc303, hQ303, l303, y303, z303⟩, st303⟩ := Jvm.LawKit.callS X285 hx (y := ym20) hown (mvT hZ (ow hw 142 rfl)) (mvT hZ (ow hw 143 rfl)) (mvT hZ (ow hw 144 rfl)) (mvT hZ (ow hw 145 rfl)) (by decide) (own_backOf (W := 0) (rx30_286 l Z a0 hw [] n0 h284 O284  b252 b269 k253 c0_ c1_ c2_ c3_ c4_ c5_ c6_ k269 ((PV_b252.keep K277c nin0).keep K284c nin0) ((PV_b269.keep K277c nin0).keep K284c nin0) ne_b252_b269 g_b269) hZ (ow hw 145 rfl) (ow hw 144 rfl) (by decide) (by decide)) (g := (mkF m 36 #[cr b216, ci 0, ci 7, cr b269, ci 0] [(.int 0), (.ref b269), (.int 7), (.int 0), (.ref b252)])) rfl (by rw [hml]; rfl) (argsL := [(.ref b252), (.int 0), (.int 7), (.ref b269), (.int 0)]) (rest := []) (lenOf pdx_16 rfl) rfl (by show 2 * 0 + _ ≤ _; exact Nat.le_of_eq rfl) (hb hby d18_36) (fun _ _ => ⟨rfl, e285, (by decide : 0 + 0 ≤ _), (by decide : 0 + 0 ≤ _)⟩)
 dsimp only [Pt.U, Pt.locs, Pt.cells, Pt.slots] at X303 l303 y303 z303 st303 hQ303
 subst l303 y303 z303
 obtain ⟨rfl, N303q, K303c, Y303_0⟩ := hQ303
 have N303 := Fr.app N284 N303q
 refine Ends.go st303 ?_
 obtain ⟨h303, e303⟩ : ∃ z, T303.heap = z := ⟨_, rfl⟩
 rw [e303] at K303c Y303_0
 have K303 := K284.trans K303c (allS (Or.inl (List.mem_of_getElem? (i := 0) rfl)) all0)
 have O303 := O284.keep K303c (allS g_b269 all0)
 refine wgo (pc := 39) (pc' := 54) X303 hx hby d18_39 (by decide) (by decide) ?_
 show Ends _ _ _ _ T303 (mkF m 54 #[cr b216, ci 0, ci 7, cr b269, ci 0] []) _ _ _
 refine Ends.retV X303 hx Bd.notSynchronized Bd.returns (hb hby d18_54) (by decide) (by decide) ?_
 rw [e303]
 exact ⟨rfl, N303, K303, Y303_0⟩

theorem d13_0 : decode prog_85_method_1_code 0 = .ok (.aload_n 0, 1) := by decide +kernel
theorem d13_1 : decode prog_85_method_1_code 1 = .ok (.invokespecial 1, 3) := by decide +kernel
theorem d13_4 : decode prog_85_method_1_code 4 = .ok (.aload_n 0, 1) := by decide +kernel
theorem d13_5 : decode prog_85_method_1_code 5 = .ok (.aload_n 1, 1) := by decide +kernel
theorem d13_6 : decode prog_85_method_1_code 6 = .ok (.putfield 7, 3) := by decide +kernel
theorem d13_9 : decode prog_85_method_1_code 9 = .ok (.aload_n 0, 1) := by decide +kernel
theorem d13_10 : decode prog_85_method_1_code 10 = .ok (.aload_n 1, 1) := by decide +kernel
theorem d13_11 : decode prog_85_method_1_code 11 = .ok (.invokevirtual 13, 3) := by decide +kernel
theorem d13_14 : decode prog_85_method_1_code 14 = .ok (.sipush 8192, 3) := by decide +kernel
theorem d13_17 : decode prog_85_method_1_code 17 = .ok (.invokestatic 19, 3) := by decide +kernel
theorem d13_20 : decode prog_85_method_1_code 20 = .ok (.newarray .char, 2) := by decide +kernel
theorem d13_22 : decode prog_85_method_1_code 22 = .ok (.putfield 25, 3) := by decide +kernel
theorem d13_25 : decode prog_85_method_1_code 25 = .ok (.aload_n 0, 1) := by decide +kernel
theorem d13_26 : decode prog_85_method_1_code 26 = .ok (.aload_n 0, 1) := by decide +kernel
theorem d13_27 : decode prog_85_method_1_code 27 = .ok (.getfield 25, 3) := by decide +kernel
theorem d13_30 : decode prog_85_method_1_code 30 = .ok (.arraylength, 1) := by decide +kernel
theorem d13_31 : decode prog_85_method_1_code 31 = .ok (.putfield 29, 3) := by decide +kernel
theorem d13_34 : decode prog_85_method_1_code 34 = .ok (.aload_n 1, 1) := by decide +kernel
theorem d13_35 : decode prog_85_method_1_code 35 = .ok (.iconst 0, 1) := by decide +kernel
theorem d13_36 : decode prog_85_method_1_code 36 = .ok (.aload_n 0, 1) := by decide +kernel
theorem d13_37 : decode prog_85_method_1_code 37 = .ok (.getfield 29, 3) := by decide +kernel
theorem d13_40 : decode prog_85_method_1_code 40 = .ok (.aload_n 0, 1) := by decide +kernel
theorem d13_41 : decode prog_85_method_1_code 41 = .ok (.getfield 25, 3) := by decide +kernel
theorem d13_44 : decode prog_85_method_1_code 44 = .ok (.iconst 0, 1) := by decide +kernel
theorem d13_45 : decode prog_85_method_1_code 45 = .ok (.invokevirtual 33, 3) := by decide +kernel
theorem d13_48 : decode prog_85_method_1_code 48 = .ok (.return_, 1) := by decide +kernel
theorem pn13 : plainName "com/example/ratatoskr/ratatoskr/core/internal/StringInput" = true := by first | (simp [plainName, overriddenIn]; done) | decide +kernel
theorem pdx_17 : parseMethodDescriptor "(II[CI)V" = some ⟨[.int, .int, (.array .char), .int], none⟩ := by decide +kernel
theorem ef13_rr (m : MethodId) (x0 : Addr) (x1 : Addr) : entryFrame m #[(.ref x0), (.ref x1)] 2 = mkF m 0 #[.val (.ref x0), .val (.ref x1)] [] := by first | (simp [entryFrame, mkF, argsToLocals, Value.category]; done) | rfl
set_option maxRecDepth 65536 in
set_option maxHeartbeats 40000000 in
theorem rx13_254 (l : Launch) (Z : State) (a0 : Array Value) (hw : ∀ d ∈ tables_1, d.before a0 Z = true) (ws : List Jvm.Cond) (n0 : Nat) (h0 : Heap) (O0 : Old Z n0 h0) (G1 : Int32) (G3 : Value) (GF : GlobF Z G1 G3) (b215 : Addr) (b216 : Addr) (b252 : Addr) (k253 : ClassId) (c0_ : Int32) (c1_ : Int32) (c2_ : Int32) (c3_ : Int32) (c4_ : Int32) (c5_ : Int32) (c6_ : Int32) (PE_b215 : Exa Z h0 b215 cSI) (PF_b215_text : Fld Z h0 b215 cSI "text" "Ljava/lang/String;" .null) (PF_b216_value : Fld Z h0 b216 "java/lang/String" "value" "[B" (.ref b252)) (PV_b252 : Arv Z h0 b252 k253 .byte (7 : Int32) [(.int (c0_.toInt8.toInt32)), (.int (c1_.toInt8.toInt32)), (.int (c2_.toInt8.toInt32)), (.int (c3_.toInt8.toInt32)), (.int (c4_.toInt8.toInt32)), (.int (c5_.toInt8.toInt32)), (.int (c6_.toInt8.toInt32))] (.int 0)) (PF_b216_coder : Fld Z h0 b216 "java/lang/String" "coder" "B" (.int 0)) (PE_b216 : Exa Z h0 b216 "java/lang/String") (PF_b215_chars : Fld Z h0 b215 cSI "chars" "[C" .null) (PF_b215_limit : Fld Z h0 b215 cSI "limit" "I" (.int 0)) (PF_b215_position : Fld Z h0 b215 cSI "position" "I" (.int 0)) (PF_b215_base : Fld Z h0 b215 cSI "base" "I" (.int 0)) (ne_b216_b215 : b216 ≠ b215) (ne_b252_b215 : b252 ≠ b215) (g_b215 : n0 ≤ b215) :
  Meets1 l ym22 prog_85_method_1_code 2 none ws ({ frames := 3, cells := 1, slots := 7, locals := 49 } : Room) #[(.ref b215), (.ref b216)] Z h0 (fun v h L => ∃ (b269 : Addr) (k269 : ClassId), v = none ∧ Fr n0 L ∧ Keep h0 h [b215] ∧ h0.size ≤ b269 ∧ Fld Z h b215 cSI "text" "Ljava/lang/String;" (.ref b216) ∧ Fld Z h b215 cSI "chars" "[C" (.ref b269) ∧ Fld Z h b215 cSI "limit" "I" (.int 7) ∧ Arv Z h b269 k269 .char (7 : Int32) [(.int (nar .char (((c0_.toInt8.toInt32) &&& (255 : Int32)).toUInt32.toUInt16.toUInt32.toInt32))), (.int (nar .char (((c1_.toInt8.toInt32) &&& (255 : Int32)).toUInt32.toUInt16.toUInt32.toInt32))), (.int (nar .char (((c2_.toInt8.toInt32) &&& (255 : Int32)).toUInt32.toUInt16.toUInt32.toInt32))), (.int (nar .char (((c3_.toInt8.toInt32) &&& (255 : Int32)).toUInt32.toUInt16.toUInt32.toInt32))), (.int (nar .char (((c4_.toInt8.toInt32) &&& (255 : Int32)).toUInt32.toUInt16.toUInt32.toInt32))), (.int (nar .char (((c5_.toInt8.toInt32) &&& (255 : Int32)).toUInt32.toUInt16.toUInt32.toInt32))), (.int (nar .char (((c6_.toInt8.toInt32) &&& (255 : Int32)).toUInt32.toUInt16.toUInt32.toInt32)))] (.int 0) ∧ Fld Z h b215 cSI "position" "I" (.int 0) ∧ Fld Z h b215 cSI "base" "I" (.int 0)) := by
 refine MetFree.of_bodySF (plainFor_of_name pn13) hisR ?_
 intro p e s m args below meth c s₁ Bd hml0 hP hK
 obtain ⟨rfl, hZ, hh⟩ := hP
 have hx := Bd.exec
 have hby := Bd.bytes
 have hml : c.maxLocals = 2 := hml0
 have hown : s.vm.findClass "com/example/ratatoskr/ratatoskr/core/internal/StringInput" = some m.cls := findClass_of_methodNamed Bd.named
 have hnm := (name_of_methodNamed Bd.named Bd.method).1
 have X0 : Stand p l e ({ frames := 3, cells := 1, slots := 7, locals := 49 } : Room) s m #[(.ref b215), (.ref b216)] below meth c s₁ [] 0 0 := Stand.of_body Bd
 have e0 : s₁.heap = h0 := by rw [← hh, Bd.state]; rfl
 have N0 := Fr.nil n0
 have Z0 := own_old_le O0
 show Ends _ _ _ _ s₁ (entryFrame m #[(.ref b215), (.ref b216)] 2) ({ frames := 3, cells := 1, slots := 7, locals := 49 } : Room).cells ({ frames := 3, cells := 1, slots := 7, locals := 49 } : Room).slots (fun v h L => ∃ (b269 : Addr) (k269 : ClassId), v = none ∧ Fr n0 L ∧ Keep h0 h [b215] ∧ h0.size ≤ b269 ∧ Fld Z h b215 cSI "text" "Ljava/lang/String;" (.ref b216) ∧ Fld Z h b215 cSI "chars" "[C" (.ref b269) ∧ Fld Z h b215 cSI "limit" "I" (.int 7) ∧ Arv Z h b269 k269 .char (7 : Int32) [(.int (nar .char (((c0_.toInt8.toInt32) &&& (255 : Int32)).toUInt32.toUInt16.toUInt32.toInt32))), (.int (nar .char (((c1_.toInt8.toInt32) &&& (255 : Int32)).toUInt32.toUInt16.toUInt32.toInt32))), (.int (nar .char (((c2_.toInt8.toInt32) &&& (255 : Int32)).toUInt32.toUInt16.toUInt32.toInt32))), (.int (nar .char (((c3_.toInt8.toInt32) &&& (255 : Int32)).toUInt32.toUInt16.toUInt32.toInt32))), (.int (nar .char (((c4_.toInt8.toInt32) &&& (255 : Int32)).toUInt32.toUInt16.toUInt32.toInt32))), (.int (nar .char (((c5_.toInt8.toInt32) &&& (255 : Int32)).toUInt32.toUInt16.toUInt32.toInt32))), (.int (nar .char (((c6_.toInt8.toInt32) &&& (255 : Int32)).toUInt32.toUInt16.toUInt32.toInt32)))] (.int 0) ∧ Fld Z h b215 cSI "position" "I" (.int 0) ∧ Fld Z h b215 cSI "base" "I" (.int 0))
 refine Ends.go (fun _ k => castTop (ef13_rr m b215 b216) k) ?_
 obtain ⟨SCS, P5, SAD, SHI, SLO, SSF, RG3⟩ := id GF
 have K0 := Keep.refl h0 [b215]
 show Ends _ _ _ _ s₁ (mkF m 0 #[cr b215, cr b216] []) _ _ _
 refine walN X0 hx hby d13_0 rfl rfl ?_
 obtain ⟨_, _, ⟨T257, L257, k257, n257⟩, -, X257, ⟨Lc257, hQ257, l257, y257, z257⟩, st257⟩ := X0.specialBack hx (y := ym14) rfl hown (mvT hZ (ow hw 60 rfl)) (mvT hZ (ow hw 61 rfl)) (mvT hZ (ow hw 64 rfl)) (by decide) (own_backOf (W := 0) (rx14_255 l Z a0 hw [] n0 h0 O0  b215 ) hZ (ow hw 64 rfl) (ow hw 63 rfl) (by decide) (by decide)) (g := (mkF m 1 #[cr b215, cr b216] [(.ref b215)])) rfl (by rw [hml]; rfl) (Steps.refl _) (a := b215) (argsL := []) (rest := []) (lenOf pdx_3 rfl) rfl (by show 2 * 0 + _ ≤ _; exact Nat.le_of_eq rfl) (hb hby d13_1) (fun _ _ => ⟨rfl, e0, (by decide : 0 + 0 ≤ _), (by decide : 0 + 0 ≤ _)⟩)
 dsimp only [Pt.U, Pt.locs, Pt.cells, Pt.slots] at X257 l257 y257 z257 st257 hQ257
 subst l257 y257 z257
 obtain ⟨rfl, N257q, K257c⟩ := hQ257
 have N257 := Fr.app N0 N257q
 refine Ends.go (fun _ k => st257.trans k) ?_
 obtain ⟨h257, e257⟩ : ∃ z, T257.heap = z := ⟨_, rfl⟩
 rw [e257] at K257c
 have K257 := K0.trans K257c all0
 have O257 := O0.keep K257c all0
 refine walN X257 hx hby d13_4 rfl rfl ?_
 refine walN X257 hx hby d13_5 rfl rfl ?_
 show Ends _ _ _ _ T257 (mkF m 6 #[cr b215, cr b216] [(.ref b216), (.ref b215)]) _ _ _
 obtain ⟨T258, h258, X258, e258, W258, st258⟩ := putF X257 hx hZ hown (host := "") (Or.inl (ow hw 66 rfl)) Via.refl e257 (PF_b215_text.keep K257c nin0) (PE_b215.keep K257c) (Or.inr ⟨(ow hw 67 rfl), rfl, hnm⟩) (ow hw 7 rfl) (ty := (.object "java/lang/String")) (by decide) rfl rfl (g := (mkF m 6 #[cr b215, cr b216] [(.ref b216), (.ref b215)])) rfl rfl (hb hby d13_6)
 refine Ends.go st258 ?_
 have Fw258 := (PF_b215_text.keep K257c nin0).same W258
 have K258 := K257.wr W258 (Or.inl (List.mem_of_getElem? (i := 0) rfl))
 have O258 := O257.wr W258 g_b215
 have N258 := Fr.snoc X258 N257 g_b215
 refine walN X258 hx hby d13_9 rfl rfl ?_
 refine walN X258 hx hby d13_10 rfl rfl ?_
 obtain ⟨cq266, kq266, q266a, q266b, q266c⟩ := isOf hZ e258 ((PE_b216.keep K257c).wr W258)
 obtain ⟨_, _, ⟨T266, L266, k266, n266⟩, -, X266, ⟨Lc266, hQ266, l266, y266, z266⟩, st266⟩ := X258.virtualBack hx (y := ym16) (z := ym16) hown (mvT hZ (ow hw 68 rfl)) (mvT hZ (ow hw 69 rfl)) (notFace_of_selects (args := #[]) (mvT hZ (ow hw 71 rfl))) (mvT hZ (ow hw 71 rfl)) (mvT hZ (ow hw 70 rfl)) (by decide) (own_backOf (W := 1) (rx15_259 l Z a0 hw [] n0 h258 O258 G1 G3 GF b216 b252 k253 c0_ c1_ c2_ c3_ c4_ c5_ c6_ ((PF_b216_value.keep K257c nin0).other W258 (Or.inl ne_b216_b215)) ((PV_b252.keep K257c nin0).other W258 ne_b252_b215) ((PF_b216_coder.keep K257c nin0).other W258 (Or.inl ne_b216_b215)) ((PE_b216.keep K257c).wr W258)) hZ (ow hw 72 rfl) (ow hw 11 rfl) (by decide) (by decide)) q266a q266c (g := (mkF m 11 #[cr b215, cr b216] [(.ref b216), (.ref b215)])) rfl (by rw [hml]; rfl) (Steps.refl _) (argsL := []) (rest := [(.ref b215)]) (lenOf pdx_10 rfl) rfl (by show 2 * 0 + _ ≤ _; exact Nat.le_of_eq rfl) (hb hby d13_11) (fun _ _ => ⟨rfl, e258, (by decide : 0 + 0 ≤ _), (by decide : 0 + 0 ≤ _)⟩)
 dsimp only [Pt.U, Pt.locs, Pt.cells, Pt.slots] at X266 l266 y266 z266 st266 hQ266
 subst l266 y266 z266
 obtain ⟨rfl, N266q, K266c⟩ := hQ266
 have N266 := Fr.app N258 N266q
 refine Ends.go (fun _ k => st266.trans k) ?_
 obtain ⟨h266, e266⟩ : ∃ z, T266.heap = z := ⟨_, rfl⟩
 rw [e266] at K266c
 have K266 := K258.trans K266c all0
 have O266 := O258.keep K266c all0
 refine wsp X266 hx hby d13_14 ?_
 show Ends _ _ _ _ T266 (mkF m 17 #[cr b215, cr b216] [(.int 8192), (.int 7), (.ref b215)]) _ _ _
 obtain ⟨_, _, ⟨T268, L268, k268, n268⟩, -, X268, ⟨Lc268, hQ268, l268, y268, z268⟩, st268⟩ := Jvm.LawKit.callS X266 hx (y := ym17) hown (mvT hZ (ow hw 78 rfl)) (mvT hZ (ow hw 79 rfl)) (mvT hZ (ow hw 80 rfl)) (mvT hZ (ow hw 81 rfl)) (by decide) (own_backOf (W := 1) (rx17_267 l Z a0 hw [] n0 h266 O266   ) hZ (ow hw 81 rfl) (ow hw 80 rfl) (by decide) (by decide)) (g := (mkF m 17 #[cr b215, cr b216] [(.int 8192), (.int 7), (.ref b215)])) rfl (by rw [hml]; rfl) (argsL := [(.int 7), (.int 8192)]) (rest := [(.ref b215)]) (lenOf pdx_11 rfl) rfl (by show 2 * 0 + _ ≤ _; exact Nat.le_of_eq rfl) (hb hby d13_17) (fun _ _ => ⟨rfl, e266, (by decide : 0 + 0 ≤ _), (by decide : 0 + 0 ≤ _)⟩)
 dsimp only [Pt.U, Pt.locs, Pt.cells, Pt.slots] at X268 l268 y268 z268 st268 hQ268
 subst l268 y268 z268
 obtain ⟨rfl, N268q, K268c⟩ := hQ268
 have N268 := Fr.app N266 N268q
 refine Ends.go st268 ?_
 obtain ⟨h268, e268⟩ : ∃ z, T268.heap = z := ⟨_, rfl⟩
 rw [e268] at K268c
 have K268 := K266.trans K268c all0
 have O268 := O266.keep K268c all0
 obtain ⟨T269, h269, k269, X269, e269, E269, A269, st269⟩ := newP X268 hx hZ (ow hw 0 rfl) e268 (g := (mkF m 20 #[cr b215, cr b216] [(.int 7), (.ref b215)])) rfl (hb hby d13_20) rfl (by decide) (cap := 7) (by decide) (by decide) (by decide) (by decide)
 obtain ⟨b269, g269⟩ : ∃ z, z = h268.size := ⟨_, rfl⟩
 rw [← g269] at A269 st269
 refine Ends.go st269 ?_
 have g_b269 : n0 ≤ b269 := Nat.le_trans (own_old_le O268) (Nat.le_of_eq g269.symm)
 have sz_b269 : h0.size ≤ b269 := Nat.le_trans K268.1 (Nat.le_of_eq g269.symm)
 have K269 := K268.ext E269
 have O269 := O268.ext E269
 have V_b269 : Arv Z h269 b269 k269 .char (7 : Int32) [(.int 0), (.int 0), (.int 0), (.int 0), (.int 0), (.int 0), (.int 0)] (.int 0) := (Arv.new A269 (by decide)).pad (pad_rep [] (.int 0) 7)
 obtain ⟨T270, h270, X270, e270, W270, st270⟩ := putF X269 hx hZ hown (host := "") (Or.inl (ow hw 82 rfl)) Via.refl e269 (((((PF_b215_chars.keep K257c nin0).other W258 (Or.inr (slot_ne (Or.inr (ow hw 83 rfl)) (Or.inr (ow hw 67 rfl)) (by decide) (t := (.array .char)) (t' := (.object "java/lang/String")) (by decide) (by decide)))).keep K266c nin0).keep K268c nin0).ext E269) (((((PE_b215.keep K257c).wr W258).keep K266c).keep K268c).ext E269) (Or.inr ⟨(ow hw 83 rfl), rfl, hnm⟩) (ow hw 7 rfl) (ty := (.array .char)) (by decide) rfl rfl (g := (mkF m 22 #[cr b215, cr b216] [(.ref b269), (.ref b215)])) rfl rfl (hb hby d13_22)
 refine Ends.go st270 ?_
 have Fw270 := (((((PF_b215_chars.keep K257c nin0).other W258 (Or.inr (slot_ne (Or.inr (ow hw 83 rfl)) (Or.inr (ow hw 67 rfl)) (by decide) (t := (.array .char)) (t' := (.object "java/lang/String")) (by decide) (by decide)))).keep K266c nin0).keep K268c nin0).ext E269).same W270
 have K270 := K269.wr W270 (Or.inl (List.mem_of_getElem? (i := 0) rfl))
 have O270 := O269.wr W270 g_b215
 have N270 := Fr.snoc X270 N268 g_b215
 refine walN X270 hx hby d13_25 rfl rfl ?_
 refine walN X270 hx hby d13_26 rfl rfl ?_
 show Ends _ _ _ _ T270 (mkF m 27 #[cr b215, cr b216] [(.ref b215), (.ref b215)]) _ _ _
 obtain ⟨T271, X271, e271, st271⟩ := getF X270 hx hZ hown (host := "") (Or.inl (ow hw 82 rfl)) Via.refl e270 Fw270 (g := (mkF m 27 #[cr b215, cr b216] [(.ref b215), (.ref b215)])) rfl rfl (hb hby d13_27)
 refine Ends.go st271 ?_
 obtain ⟨cl272, Ar272, q272, S272, M272, H272, G272⟩ := id (V_b269.other W270 (Ne.symm (Nat.ne_of_lt (Nat.lt_of_lt_of_le PE_b215.lt sz_b269))))
 refine Ends.go (X271.arraylength hx (by rw [e271]; exact Ar272.1) (State.isArrayOf_alike hZ.alike Ar272.2.1) (g := (mkF m 30 #[cr b215, cr b216] [(.ref b269), (.ref b215)])) rfl rfl (hb hby d13_30)) ?_
 rw [len_of S272 M272]
 obtain ⟨T273, h273, X273, e273, W273, st273⟩ := putF X271 hx hZ hown (host := "") (Or.inl (ow hw 84 rfl)) Via.refl e271 ((((((PF_b215_limit.keep K257c nin0).other W258 (Or.inr (slot_ne (Or.inl (ow hw 85 rfl)) (Or.inr (ow hw 67 rfl)) (by decide) (t := .int) (t' := (.object "java/lang/String")) (by decide) (by decide)))).keep K266c nin0).keep K268c nin0).ext E269).other W270 (Or.inr (slot_ne (Or.inl (ow hw 85 rfl)) (Or.inr (ow hw 83 rfl)) (by decide) (t := .int) (t' := (.array .char)) (by decide) (by decide)))) ((((((PE_b215.keep K257c).wr W258).keep K266c).keep K268c).ext E269).wr W270) (Or.inl (ow hw 85 rfl)) (ow hw 7 rfl) (ty := .int) (by decide) rfl rfl (g := (mkF m 31 #[cr b215, cr b216] [(.int 7), (.ref b215)])) rfl rfl (hb hby d13_31)
 refine Ends.go st273 ?_
 have Fw273 := ((((((PF_b215_limit.keep K257c nin0).other W258 (Or.inr (slot_ne (Or.inl (ow hw 85 rfl)) (Or.inr (ow hw 67 rfl)) (by decide) (t := .int) (t' := (.object "java/lang/String")) (by decide) (by decide)))).keep K266c nin0).keep K268c nin0).ext E269).other W270 (Or.inr (slot_ne (Or.inl (ow hw 85 rfl)) (Or.inr (ow hw 83 rfl)) (by decide) (t := .int) (t' := (.array .char)) (by decide) (by decide)))).same W273
 have K273 := K270.wr W273 (Or.inl (List.mem_of_getElem? (i := 0) rfl))
 have O273 := O270.wr W273 g_b215
 have N273 := Fr.snoc X273 N270 g_b215
 refine walN X273 hx hby d13_34 rfl rfl ?_
 refine wic X273 hx hby d13_35 ?_
 show Ends _ _ _ _ T273 (mkF m 36 #[cr b215, cr b216] [(.int 0), (.ref b216)]) _ _ _
 refine walN X273 hx hby d13_36 rfl rfl ?_
 obtain ⟨T274, X274, e274, st274⟩ := getF X273 hx hZ hown (host := "") (Or.inl (ow hw 84 rfl)) Via.refl e273 Fw273 (g := (mkF m 37 #[cr b215, cr b216] [(.ref b215), (.int 0), (.ref b216)])) rfl rfl (hb hby d13_37)
 refine Ends.go st274 ?_
 refine walN X274 hx hby d13_40 rfl rfl ?_
 obtain ⟨T275, X275, e275, st275⟩ := getF X274 hx hZ hown (host := "") (Or.inl (ow hw 82 rfl)) Via.refl e274 (Fw270.other W273 (Or.inr (slot_ne (Or.inr (ow hw 83 rfl)) (Or.inl (ow hw 85 rfl)) (by decide) (t := (.array .char)) (t' := .int) (by decide) (by decide)))) (g := (mkF m 41 #[cr b215, cr b216] [(.ref b215), (.int 7), (.int 0), (.ref b216)])) rfl rfl (hb hby d13_41)
 refine Ends.go st275 ?_
 refine wic X275 hx hby d13_44 ?_
 show Ends _ _ _ _ T275 (mkF m 45 #[cr b215, cr b216] [(.int 0), (.ref b269), (.int 7), (.int 0), (.ref b216)]) _ _ _
 obtain ⟨cq304, kq304, q304a, q304b, q304c⟩ := isOf hZ e275 (((((((PE_b216.keep K257c).wr W258).keep K266c).keep K268c).ext E269).wr W270).wr W273)
 obtain ⟨_, _, ⟨T304, L304, k304, n304⟩, -, X304, ⟨Lc304, hQ304, l304, y304, z304⟩, st304⟩ := X275.virtualBack hx (y := ym21) (z := ym21) hown (mvT hZ (ow hw 86 rfl)) (mvT hZ (ow hw 87 rfl)) (notFace_of_selects (args := #[]) (mvT hZ (ow hw 89 rfl))) (mvT hZ (ow hw 89 rfl)) (mvT hZ (ow hw 88 rfl)) (by decide) (own_backOf (W := 0) (rx18_276 l Z a0 hw [] n0 h273 O273 G1 G3 GF b216 b269 b252 k253 c0_ c1_ c2_ c3_ c4_ c5_ c6_ k269 (((((((PF_b216_value.keep K257c nin0).other W258 (Or.inl ne_b216_b215)).keep K266c nin0).keep K268c nin0).ext E269).other W270 (Or.inl ne_b216_b215)).other W273 (Or.inl ne_b216_b215)) (((((((PV_b252.keep K257c nin0).other W258 ne_b252_b215).keep K266c nin0).keep K268c nin0).ext E269).other W270 ne_b252_b215).other W273 ne_b252_b215) (((((((PF_b216_coder.keep K257c nin0).other W258 (Or.inl ne_b216_b215)).keep K266c nin0).keep K268c nin0).ext E269).other W270 (Or.inl ne_b216_b215)).other W273 (Or.inl ne_b216_b215)) (((((((PE_b216.keep K257c).wr W258).keep K266c).keep K268c).ext E269).wr W270).wr W273) ((V_b269.other W270 (Ne.symm (Nat.ne_of_lt (Nat.lt_of_lt_of_le PE_b215.lt sz_b269)))).other W273 (Ne.symm (Nat.ne_of_lt (Nat.lt_of_lt_of_le PE_b215.lt sz_b269)))) (Nat.ne_of_lt (Nat.lt_of_lt_of_le PV_b252.lt sz_b269)) g_b269) hZ (ow hw 90 rfl) (ow hw 11 rfl) (by decide) (by decide)) q304a q304c (g := (mkF m 45 #[cr b215, cr b216] [(.int 0), (.ref b269), (.int 7), (.int 0), (.ref b216)])) rfl (by rw [hml]; rfl) (Steps.refl _) (argsL := [(.int 0), (.int 7), (.ref b269), (.int 0)]) (rest := []) (lenOf pdx_17 rfl) rfl (by show 2 * 0 + _ ≤ _; exact Nat.le_of_eq rfl) (hb hby d13_45) (fun _ _ => ⟨rfl, e275, (by decide : 1 + 0 ≤ _), (by decide : 7 + 0 ≤ _)⟩)
 dsimp only [Pt.U, Pt.locs, Pt.cells, Pt.slots] at X304 l304 y304 z304 st304 hQ304
 subst l304 y304 z304
 obtain ⟨rfl, N304q, K304c, Y304_0⟩ := hQ304
 have N304 := Fr.app N273 N304q
 refine Ends.go (fun _ k => st304.trans k) ?_
 obtain ⟨h304, e304⟩ : ∃ z, T304.heap = z := ⟨_, rfl⟩
 rw [e304] at K304c Y304_0
 have K304 := K273.trans K304c (allS (Or.inr sz_b269) all0)
 have O304 := O273.keep K304c (allS g_b269 all0)
 refine Ends.retV X304 hx Bd.notSynchronized Bd.returns (hb hby d13_48) (by decide) (by decide) ?_
 rw [e304]
 exact ⟨b269, k269, rfl, N304, K304, sz_b269, ((((((Fw258.keep K266c nin0).keep K268c nin0).ext E269).other W270 (Or.inr (slot_ne (Or.inr (ow hw 67 rfl)) (Or.inr (ow hw 83 rfl)) (by decide) (t := (.object "java/lang/String")) (t' := (.array .char)) (by decide) (by decide)))).other W273 (Or.inr (slot_ne (Or.inr (ow hw 67 rfl)) (Or.inl (ow hw 85 rfl)) (by decide) (t := (.object "java/lang/String")) (t' := .int) (by decide) (by decide)))).keep K304c (ninS (Nat.ne_of_lt (Nat.lt_of_lt_of_le PE_b215.lt sz_b269)) nin0)), ((Fw270.other W273 (Or.inr (slot_ne (Or.inr (ow hw 83 rfl)) (Or.inl (ow hw 85 rfl)) (by decide) (t := (.array .char)) (t' := .int) (by decide) (by decide)))).keep K304c (ninS (Nat.ne_of_lt (Nat.lt_of_lt_of_le PE_b215.lt sz_b269)) nin0)), (Fw273.keep K304c (ninS (Nat.ne_of_lt (Nat.lt_of_lt_of_le PE_b215.lt sz_b269)) nin0)), Y304_0, ((((((((PF_b215_position.keep K257c nin0).other W258 (Or.inr (slot_ne (Or.inl (ow hw 127 rfl)) (Or.inr (ow hw 67 rfl)) (by decide) (t := .int) (t' := (.object "java/lang/String")) (by decide) (by decide)))).keep K266c nin0).keep K268c nin0).ext E269).other W270 (Or.inr (slot_ne (Or.inl (ow hw 127 rfl)) (Or.inr (ow hw 83 rfl)) (by decide) (t := .int) (t' := (.array .char)) (by decide) (by decide)))).other W273 (Or.inr (slot_ne (Or.inl (ow hw 127 rfl)) (Or.inl (ow hw 85 rfl)) (by decide) (t := .int) (t' := .int) (by decide) (by decide)))).keep K304c (ninS (Nat.ne_of_lt (Nat.lt_of_lt_of_le PE_b215.lt sz_b269)) nin0)), ((((((((PF_b215_base.keep K257c nin0).other W258 (Or.inr (slot_ne (Or.inl (ow hw 140 rfl)) (Or.inr (ow hw 67 rfl)) (by decide) (t := .int) (t' := (.object "java/lang/String")) (by decide) (by decide)))).keep K266c nin0).keep K268c nin0).ext E269).other W270 (Or.inr (slot_ne (Or.inl (ow hw 140 rfl)) (Or.inr (ow hw 83 rfl)) (by decide) (t := .int) (t' := (.array .char)) (by decide) (by decide)))).other W273 (Or.inr (slot_ne (Or.inl (ow hw 140 rfl)) (Or.inl (ow hw 85 rfl)) (by decide) (t := .int) (t' := .int) (by decide) (by decide)))).keep K304c (ninS (Nat.ne_of_lt (Nat.lt_of_lt_of_le PE_b215.lt sz_b269)) nin0))⟩

theorem d9_0 : decode jdk_52_method_3_code 0 = .ok (.iload_n 0, 1) := by decide +kernel
theorem d9_1 : decode jdk_52_method_3_code 1 = .ok (.ifCond .ge 11, 3) := by decide +kernel
theorem d9_12 : decode jdk_52_method_3_code 12 = .ok (.iload_n 0, 1) := by decide +kernel
theorem d9_13 : decode jdk_52_method_3_code 13 = .ok (.ldc 20, 2) := by decide +kernel
theorem d9_15 : decode jdk_52_method_3_code 15 = .ok (.if_icmp .lt 40, 3) := by decide +kernel
theorem d9_55 : decode jdk_52_method_3_code 55 = .ok (.iload_n 0, 1) := by decide +kernel
theorem d9_56 : decode jdk_52_method_3_code 56 = .ok (.iconst 1, 1) := by decide +kernel
theorem d9_57 : decode jdk_52_method_3_code 57 = .ok (.ishl, 1) := by decide +kernel
theorem d9_58 : decode jdk_52_method_3_code 58 = .ok (.ireturn, 1) := by decide +kernel
theorem pn9 : plainName "java/lang/StringUTF16" = true := by first | (simp [plainName, overriddenIn]; done) | decide +kernel
theorem pdx_18 : parseMethodDescriptor "(Ljava/lang/String;)V" = some ⟨[(.object "java/lang/String")], none⟩ := by decide +kernel
theorem ef9_i (m : MethodId) (x0 : Int32) : entryFrame m #[(.int x0)] 1 = mkF m 0 #[.val (.int x0)] [] := by first | (simp [entryFrame, mkF, argsToLocals, Value.category]; done) | rfl
set_option maxRecDepth 65536 in
set_option maxHeartbeats 40000000 in
theorem rx9_319 (l : Launch) (Z : State) (a0 : Array Value) (hw : ∀ d ∈ tables_1, d.before a0 Z = true) (ws : List Jvm.Cond) (n0 : Nat) (h0 : Heap) (O0 : Old Z n0 h0)    :
  Meets1 l ym23 jdk_52_method_3_code 1 (some .int) ws ({ frames := 0, cells := 0, slots := 0, locals := 0 } : Room) #[(.int 7)] Z h0 (fun v h L => v = some (.int 14) ∧ Fr n0 L ∧ Keep h0 h []) := by
 refine MetFree.of_bodySF (plainFor_of_name pn9) hisR ?_
 intro p e s m args below meth c s₁ Bd hml0 hP hK
 obtain ⟨rfl, hZ, hh⟩ := hP
 have hx := Bd.exec
 have hby := Bd.bytes
 have hml : c.maxLocals = 1 := hml0
 have hown : s.vm.findClass "java/lang/StringUTF16" = some m.cls := findClass_of_methodNamed Bd.named
 have hnm := (name_of_methodNamed Bd.named Bd.method).1
 have X0 : Stand p l e ({ frames := 0, cells := 0, slots := 0, locals := 0 } : Room) s m #[(.int 7)] below meth c s₁ [] 0 0 := Stand.of_body Bd
 have e0 : s₁.heap = h0 := by rw [← hh, Bd.state]; rfl
 have N0 := Fr.nil n0
 have Z0 := own_old_le O0
 show Ends _ _ _ _ s₁ (entryFrame m #[(.int 7)] 1) ({ frames := 0, cells := 0, slots := 0, locals := 0 } : Room).cells ({ frames := 0, cells := 0, slots := 0, locals := 0 } : Room).slots (fun v h L => v = some (.int 14) ∧ Fr n0 L ∧ Keep h0 h [])
 refine Ends.go (fun _ k => castTop (ef9_i m (7 : Int32)) k) ?_
 have K0 := Keep.refl h0 []
 show Ends _ _ _ _ s₁ (mkF m 0 #[ci 7] []) _ _ _
 refine wilN X0 hx hby d9_0 rfl ?_
 refine wiy (pc := 1) (pc' := 12) X0 hx hby d9_1 ((if0 _ _).trans (flt (by decide : ¬ ((7 : Int32) < (0 : Int32)))).2.1) (by decide) (by decide) ?_
 refine wilN X0 hx hby d9_12 rfl ?_
 refine Ends.go (X0.ldcInt hx hown (mvT hZ (ow hw 40 rfl)) (g := (mkF m 13 #[ci 7] [(.int 7)])) rfl (hb hby d9_13)) ?_
 show Ends _ _ _ _ s₁ (mkF m 15 #[ci 7] [(.int 1073741823), (.int 7)]) _ _ _
 refine wcy (pc := 15) (pc' := 55) X0 hx hby d9_15 (tlt (by decide : (7 : Int32) < (1073741823 : Int32))).1 (by decide) (by decide) ?_
 refine wilN X0 hx hby d9_55 rfl ?_
 refine wic X0 hx hby d9_56 ?_
 refine .go (fun _ => XS.ishl X0.here hx rfl (hb hby d9_57) rfl) ?_
 refine Ends.ret X0 hx Bd.notSynchronized (t := .int) Bd.returns rfl (Or.inl ⟨rfl, by simp, _, rfl⟩) (hb hby d9_58) (by decide) (by decide) ?_
 rw [e0]
 exact ⟨rfl, N0, K0⟩

theorem d8_0 : decode jdk_52_method_2_code 0 = .ok (.iload_n 0, 1) := by decide +kernel
theorem d8_1 : decode jdk_52_method_2_code 1 = .ok (.invokestatic 11, 3) := by decide +kernel
theorem d8_4 : decode jdk_52_method_2_code 4 = .ok (.newarray .byte, 2) := by decide +kernel
theorem d8_6 : decode jdk_52_method_2_code 6 = .ok (.areturn, 1) := by decide +kernel
theorem pn8 : plainName "java/lang/StringUTF16" = true := by first | (simp [plainName, overriddenIn]; done) | decide +kernel
theorem pdx_19 : parseMethodDescriptor "(I)I" = some ⟨[.int], some .int⟩ := by decide +kernel
theorem ef8_i (m : MethodId) (x0 : Int32) : entryFrame m #[(.int x0)] 1 = mkF m 0 #[.val (.int x0)] [] := by first | (simp [entryFrame, mkF, argsToLocals, Value.category]; done) | rfl
set_option maxRecDepth 65536 in
set_option maxHeartbeats 40000000 in
theorem rx8_318 (l : Launch) (Z : State) (a0 : Array Value) (hw : ∀ d ∈ tables_1, d.before a0 Z = true) (ws : List Jvm.Cond) (n0 : Nat) (h0 : Heap) (O0 : Old Z n0 h0)    :
  Meets1 l ym24 jdk_52_method_2_code 1 (some (.array .byte)) ws ({ frames := 1, cells := 1, slots := 14, locals := 12 } : Room) #[(.int 7)] Z h0 (fun v h L => ∃ (b321 : Addr) (k321 : ClassId), v = some (.ref b321) ∧ Fr n0 L ∧ Keep h0 h [] ∧ h0.size ≤ b321 ∧ Arv Z h b321 k321 .byte (14 : Int32) [(.int 0), (.int 0), (.int 0), (.int 0), (.int 0), (.int 0), (.int 0), (.int 0), (.int 0), (.int 0), (.int 0), (.int 0), (.int 0), (.int 0)] (.int 0)) := by
 refine MetFree.of_bodySF (plainFor_of_name pn8) hisR ?_
 intro p e s m args below meth c s₁ Bd hml0 hP hK
 obtain ⟨rfl, hZ, hh⟩ := hP
 have hx := Bd.exec
 have hby := Bd.bytes
 have hml : c.maxLocals = 1 := hml0
 have hown : s.vm.findClass "java/lang/StringUTF16" = some m.cls := findClass_of_methodNamed Bd.named
 have hnm := (name_of_methodNamed Bd.named Bd.method).1
 have X0 : Stand p l e ({ frames := 1, cells := 1, slots := 14, locals := 12 } : Room) s m #[(.int 7)] below meth c s₁ [] 0 0 := Stand.of_body Bd
 have e0 : s₁.heap = h0 := by rw [← hh, Bd.state]; rfl
 have N0 := Fr.nil n0
 have Z0 := own_old_le O0
 show Ends _ _ _ _ s₁ (entryFrame m #[(.int 7)] 1) ({ frames := 1, cells := 1, slots := 14, locals := 12 } : Room).cells ({ frames := 1, cells := 1, slots := 14, locals := 12 } : Room).slots (fun v h L => ∃ (b321 : Addr) (k321 : ClassId), v = some (.ref b321) ∧ Fr n0 L ∧ Keep h0 h [] ∧ h0.size ≤ b321 ∧ Arv Z h b321 k321 .byte (14 : Int32) [(.int 0), (.int 0), (.int 0), (.int 0), (.int 0), (.int 0), (.int 0), (.int 0), (.int 0), (.int 0), (.int 0), (.int 0), (.int 0), (.int 0)] (.int 0))
 refine Ends.go (fun _ k => castTop (ef8_i m (7 : Int32)) k) ?_
 have K0 := Keep.refl h0 []
 show Ends _ _ _ _ s₁ (mkF m 0 #[ci 7] []) _ _ _
 refine wilN X0 hx hby d8_0 rfl ?_
 obtain ⟨_, _, ⟨T320, L320, k320, n320⟩, -, X320, ⟨Lc320, hQ320, l320, y320, z320⟩, st320⟩ := Jvm.LawKit.callS X0 hx (y := ym23) hown (mvT hZ (ow hw 37 rfl)) (mvT hZ (ow hw 38 rfl)) (mvT hZ (ow hw 25 rfl)) (mvT hZ (ow hw 39 rfl)) (by decide) (own_backOf (W := 0) (rx9_319 l Z a0 hw [] n0 h0 O0   ) hZ (ow hw 39 rfl) (ow hw 25 rfl) (by decide) (by decide)) (g := (mkF m 1 #[ci 7] [(.int 7)])) rfl (by rw [hml]; rfl) (argsL := [(.int 7)]) (rest := []) (lenOf pdx_19 rfl) rfl (by show 2 * 0 + _ ≤ _; exact Nat.le_of_eq rfl) (hb hby d8_1) (fun _ _ => ⟨rfl, e0, (by decide : 0 + 0 ≤ _), (by decide : 0 + 0 ≤ _)⟩)
 dsimp only [Pt.U, Pt.locs, Pt.cells, Pt.slots] at X320 l320 y320 z320 st320 hQ320
 subst l320 y320 z320
 obtain ⟨rfl, N320q, K320c⟩ := hQ320
 have N320 := Fr.app N0 N320q
 refine Ends.go st320 ?_
 obtain ⟨h320, e320⟩ : ∃ z, T320.heap = z := ⟨_, rfl⟩
 rw [e320] at K320c
 have K320 := K0.trans K320c all0
 have O320 := O0.keep K320c all0
 obtain ⟨T321, h321, k321, X321, e321, E321, A321, st321⟩ := newP X320 hx hZ (ow hw 27 rfl) e320 (g := (mkF m 4 #[ci 7] [(.int 14)])) rfl (hb hby d8_4) rfl (by decide) (cap := 14) (by decide) (by decide) (by decide) (by decide)
 obtain ⟨b321, g321⟩ : ∃ z, z = h320.size := ⟨_, rfl⟩
 rw [← g321] at A321 st321
 refine Ends.go st321 ?_
 have g_b321 : n0 ≤ b321 := Nat.le_trans (own_old_le O320) (Nat.le_of_eq g321.symm)
 have sz_b321 : h0.size ≤ b321 := Nat.le_trans K320.1 (Nat.le_of_eq g321.symm)
 have K321 := K320.ext E321
 have O321 := O320.ext E321
 have V_b321 : Arv Z h321 b321 k321 .byte (14 : Int32) [(.int 0), (.int 0), (.int 0), (.int 0), (.int 0), (.int 0), (.int 0), (.int 0), (.int 0), (.int 0), (.int 0), (.int 0), (.int 0), (.int 0)] (.int 0) := (Arv.new A321 (by decide)).pad (pad_rep [] (.int 0) 14)
 refine Ends.ret X321 hx Bd.notSynchronized (t := (.array .byte)) Bd.returns rfl (Or.inr (Or.inr (Or.inr (Or.inr ⟨rfl, rfl, rfl⟩)))) (hb hby d8_6) (by decide) (by decide) ?_
 rw [e321]
 exact ⟨b321, k321, rfl, N320, K321, sz_b321, V_b321⟩

theorem d10_0 : decode jdk_52_method_4_code 0 = .ok (.getstatic 44, 3) := by decide +kernel
theorem d10_3 : decode jdk_52_method_4_code 3 = .ok (.ifCond .ne 25, 3) := by decide +kernel
theorem d10_28 : decode jdk_52_method_4_code 28 = .ok (.iload_n 1, 1) := by decide +kernel
theorem d10_29 : decode jdk_52_method_4_code 29 = .ok (.iconst 1, 1) := by decide +kernel
theorem d10_30 : decode jdk_52_method_4_code 30 = .ok (.ishl, 1) := by decide +kernel
theorem d10_31 : decode jdk_52_method_4_code 31 = .ok (.istore_n 1, 1) := by decide +kernel
theorem d10_32 : decode jdk_52_method_4_code 32 = .ok (.aload_n 0, 1) := by decide +kernel
theorem d10_33 : decode jdk_52_method_4_code 33 = .ok (.iload_n 1, 1) := by decide +kernel
theorem d10_34 : decode jdk_52_method_4_code 34 = .ok (.iinc 1 1, 3) := by decide +kernel
theorem d10_37 : decode jdk_52_method_4_code 37 = .ok (.iload_n 2, 1) := by decide +kernel
theorem d10_38 : decode jdk_52_method_4_code 38 = .ok (.getstatic 59, 3) := by decide +kernel
theorem d10_41 : decode jdk_52_method_4_code 41 = .ok (.ishr, 1) := by decide +kernel
theorem d10_42 : decode jdk_52_method_4_code 42 = .ok (.i2b, 1) := by decide +kernel
theorem d10_43 : decode jdk_52_method_4_code 43 = .ok (.bastore, 1) := by decide +kernel
theorem d10_44 : decode jdk_52_method_4_code 44 = .ok (.aload_n 0, 1) := by decide +kernel
theorem d10_45 : decode jdk_52_method_4_code 45 = .ok (.iload_n 1, 1) := by decide +kernel
theorem d10_46 : decode jdk_52_method_4_code 46 = .ok (.iload_n 2, 1) := by decide +kernel
theorem d10_47 : decode jdk_52_method_4_code 47 = .ok (.getstatic 63, 3) := by decide +kernel
theorem d10_50 : decode jdk_52_method_4_code 50 = .ok (.ishr, 1) := by decide +kernel
theorem d10_51 : decode jdk_52_method_4_code 51 = .ok (.i2b, 1) := by decide +kernel
theorem d10_52 : decode jdk_52_method_4_code 52 = .ok (.bastore, 1) := by decide +kernel
theorem d10_53 : decode jdk_52_method_4_code 53 = .ok (.return_, 1) := by decide +kernel
theorem pn10 : plainName "java/lang/StringUTF16" = true := by first | (simp [plainName, overriddenIn]; done) | decide +kernel
theorem pdx_20 : parseMethodDescriptor "(I)[B" = some ⟨[.int], some (.array .byte)⟩ := by decide +kernel
theorem ef10_rii (m : MethodId) (x0 : Addr) (x1 : Int32) (x2 : Int32) : entryFrame m #[(.ref x0), (.int x1), (.int x2)] 3 = mkF m 0 #[.val (.ref x0), .val (.int x1), .val (.int x2)] [] := by first | (simp [entryFrame, mkF, argsToLocals, Value.category]; done) | rfl
set_option maxRecDepth 65536 in
set_option maxHeartbeats 40000000 in
theorem rx10_326 (l : Launch) (Z : State) (a0 : Array Value) (hw : ∀ d ∈ tables_1, d.before a0 Z = true) (ws : List Jvm.Cond) (n0 : Nat) (h0 : Heap) (O0 : Old Z n0 h0) (G1 : Int32) (G3 : Value) (GF : GlobF Z G1 G3) (b323 : Addr) (c0_ : Int32) (k324 : ClassId) (PV_b323 : Arv Z h0 b323 k324 .byte (14 : Int32) [(.int 0), (.int 0), (.int 0), (.int 0), (.int 0), (.int 0), (.int 0), (.int 0), (.int 0), (.int 0), (.int 0), (.int 0), (.int 0), (.int 0)] (.int 0)) (g_b323 : n0 ≤ b323) :
  Meets1 l ym25 jdk_52_method_4_code 3 none ws ({ frames := 0, cells := 0, slots := 0, locals := 0 } : Room) #[(.ref b323), (.int 0), (.int c0_)] Z h0 (fun v h L => v = none ∧ Fr n0 L ∧ Keep h0 h [b323] ∧ Arv Z h b323 k324 .byte (14 : Int32) [(.int ((c0_ >>> ((0 : Int32) &&& 31)).toInt8.toInt32)), (.int ((c0_ >>> ((8 : Int32) &&& 31)).toInt8.toInt32)), (.int 0), (.int 0), (.int 0), (.int 0), (.int 0), (.int 0), (.int 0), (.int 0), (.int 0), (.int 0), (.int 0), (.int 0)] (.int 0)) := by
 refine MetFree.of_bodySF (plainFor_of_name pn10) hisR ?_
 intro p e s m args below meth c s₁ Bd hml0 hP hK
 obtain ⟨rfl, hZ, hh⟩ := hP
 have hx := Bd.exec
 have hby := Bd.bytes
 have hml : c.maxLocals = 3 := hml0
 have hown : s.vm.findClass "java/lang/StringUTF16" = some m.cls := findClass_of_methodNamed Bd.named
 have hnm := (name_of_methodNamed Bd.named Bd.method).1
 have X0 : Stand p l e ({ frames := 0, cells := 0, slots := 0, locals := 0 } : Room) s m #[(.ref b323), (.int 0), (.int c0_)] below meth c s₁ [] 0 0 := Stand.of_body Bd
 have e0 : s₁.heap = h0 := by rw [← hh, Bd.state]; rfl
 have N0 := Fr.nil n0
 have Z0 := own_old_le O0
 show Ends _ _ _ _ s₁ (entryFrame m #[(.ref b323), (.int 0), (.int c0_)] 3) ({ frames := 0, cells := 0, slots := 0, locals := 0 } : Room).cells ({ frames := 0, cells := 0, slots := 0, locals := 0 } : Room).slots (fun v h L => v = none ∧ Fr n0 L ∧ Keep h0 h [b323] ∧ Arv Z h b323 k324 .byte (14 : Int32) [(.int ((c0_ >>> ((0 : Int32) &&& 31)).toInt8.toInt32)), (.int ((c0_ >>> ((8 : Int32) &&& 31)).toInt8.toInt32)), (.int 0), (.int 0), (.int 0), (.int 0), (.int 0), (.int 0), (.int 0), (.int 0), (.int 0), (.int 0), (.int 0), (.int 0)] (.int 0))
 refine Ends.go (fun _ k => castTop (ef10_rii m b323 (0 : Int32) c0_) k) ?_
 obtain ⟨SCS, P5, SAD, SHI, SLO, SSF, RG3⟩ := id GF
 have K0 := Keep.refl h0 [b323]
 show Ends _ _ _ _ s₁ (mkF m 0 #[cr b323, ci 0, ci c0_] []) _ _ _
 obtain ⟨T327, X327, e327, st327⟩ := getS2 X0 hx hZ hown (host := "") (Or.inl (ow hw 44 rfl)) Via.refl e0 (SAD.ext O0.2) (g := (mkF m 0 #[cr b323, ci 0, ci c0_] [])) rfl (hb hby d10_0)
 refine Ends.go st327 ?_
 refine wiy (pc := 3) (pc' := 28) X327 hx hby d10_3 ((if0 _ _).trans (feq (by decide : ¬ ((1 : Int32) = (0 : Int32)))).2) (by decide) (by decide) ?_
 refine wilN X327 hx hby d10_28 rfl ?_
 refine wic X327 hx hby d10_29 ?_
 show Ends _ _ _ _ T327 (mkF m 30 #[cr b323, ci 0, ci c0_] [(.int 1), (.int 0)]) _ _ _
 refine .go (fun _ => XS.ishl X327.here hx rfl (hb hby d10_30) rfl) ?_
 refine wstN X327 hx hby d10_31 (l' := #[cr b323, ci 0, ci c0_]) rfl ?_
 refine walN X327 hx hby d10_32 rfl rfl ?_
 refine wilN X327 hx hby d10_33 rfl ?_
 refine wii X327 hx hby d10_34 (l' := #[cr b323, ci 1, ci c0_]) rfl rfl ?_
 show Ends _ _ _ _ T327 (mkF m 37 #[cr b323, ci 1, ci c0_] [(.int 0), (.ref b323)]) _ _ _
 refine wilN X327 hx hby d10_37 rfl ?_
 obtain ⟨T328, X328, e328, st328⟩ := getS2 X327 hx hZ hown (host := "") (Or.inl (ow hw 45 rfl)) Via.refl e327 (SHI.ext O0.2) (g := (mkF m 38 #[cr b323, ci 1, ci c0_] [(.int c0_), (.int 0), (.ref b323)])) rfl (hb hby d10_38)
 refine Ends.go st328 ?_
 refine .go (fun _ => XS.ishr X328.here hx rfl (hb hby d10_41) rfl) ?_
 refine .go (fun _ => XS.i2b X328.here hx rfl (hb hby d10_42) rfl) ?_
 obtain ⟨cl329, Ar329, q329, S329, M329, H329, G329⟩ := id PV_b323
 have hin329 := inb_of (j := (0 : Int32)) S329 ⟨by decide, by decide⟩
 obtain ⟨T329, h329, X329, e329, W329, st329⟩ := stB X328 hx hZ e328 Ar329 (j := (0 : Int32)) hin329 (g := (mkF m 43 #[cr b323, ci 1, ci c0_] [(.int ((c0_ >>> ((0 : Int32) &&& 31)).toInt8.toInt32)), (.int 0), (.ref b323)])) rfl rfl (hb hby d10_43)
 refine Ends.go st329 ?_
 have V329 : Arv Z h329 b323 k324 .byte (14 : Int32) [(.int (nar .byte ((c0_ >>> ((0 : Int32) &&& 31)).toInt8.toInt32))), (.int 0), (.int 0), (.int 0), (.int 0), (.int 0), (.int 0), (.int 0), (.int 0), (.int 0), (.int 0), (.int 0), (.int 0), (.int 0)] (.int 0) := Arv.set Ar329 q329 S329 M329 H329 G329 (fits_nar_byte _) W329 0 rfl (Nat.le_of_ble_eq_true rfl)
 rw [own_narb] at V329
 have K329 := K0.wr W329 (Or.inl (List.mem_of_getElem? (i := 0) rfl))
 have O329 := O0.wr W329 g_b323
 have N329 := Fr.snoc X329 N0 g_b323
 show Ends _ _ _ _ T329 (mkF m 44 #[cr b323, ci 1, ci c0_] []) _ _ _
 refine walN X329 hx hby d10_44 rfl rfl ?_
 refine wilN X329 hx hby d10_45 rfl ?_
 refine wilN X329 hx hby d10_46 rfl ?_
 obtain ⟨T330, X330, e330, st330⟩ := getS2 X329 hx hZ hown (host := "") (Or.inl (ow hw 46 rfl)) Via.refl e329 (SLO.ext O329.2) (g := (mkF m 47 #[cr b323, ci 1, ci c0_] [(.int c0_), (.int 1), (.ref b323)])) rfl (hb hby d10_47)
 refine Ends.go st330 ?_
 refine .go (fun _ => XS.ishr X330.here hx rfl (hb hby d10_50) rfl) ?_
 show Ends _ _ _ _ T330 (mkF m 51 #[cr b323, ci 1, ci c0_] [(.int (c0_ >>> ((8 : Int32) &&& 31))), (.int 1), (.ref b323)]) _ _ _
 refine .go (fun _ => XS.i2b X330.here hx rfl (hb hby d10_51) rfl) ?_
 obtain ⟨cl331, Ar331, q331, S331, M331, H331, G331⟩ := id V329
 have hin331 := inb_of (j := (1 : Int32)) S331 ⟨by decide, by decide⟩
 obtain ⟨T331, h331, X331, e331, W331, st331⟩ := stB X330 hx hZ e330 Ar331 (j := (1 : Int32)) hin331 (g := (mkF m 52 #[cr b323, ci 1, ci c0_] [(.int ((c0_ >>> ((8 : Int32) &&& 31)).toInt8.toInt32)), (.int 1), (.ref b323)])) rfl rfl (hb hby d10_52)
 refine Ends.go st331 ?_
 have V331 : Arv Z h331 b323 k324 .byte (14 : Int32) [(.int ((c0_ >>> ((0 : Int32) &&& 31)).toInt8.toInt32)), (.int (nar .byte ((c0_ >>> ((8 : Int32) &&& 31)).toInt8.toInt32))), (.int 0), (.int 0), (.int 0), (.int 0), (.int 0), (.int 0), (.int 0), (.int 0), (.int 0), (.int 0), (.int 0), (.int 0)] (.int 0) := Arv.set Ar331 q331 S331 M331 H331 G331 (fits_nar_byte _) W331 1 rfl (Nat.le_of_ble_eq_true rfl)
 rw [own_narb] at V331
 have K331 := K329.wr W331 (Or.inl (List.mem_of_getElem? (i := 0) rfl))
 have O331 := O329.wr W331 g_b323
 have N331 := Fr.snoc X331 N329 g_b323
 refine Ends.retV X331 hx Bd.notSynchronized Bd.returns (hb hby d10_53) (by decide) (by decide) ?_
 rw [e331]
 exact ⟨rfl, N331, K331, V331⟩

theorem pdx_21 : parseMethodDescriptor "([BII)V" = some ⟨[(.array .byte), .int, .int], none⟩ := by decide +kernel
set_option maxRecDepth 65536 in
set_option maxHeartbeats 40000000 in
theorem rx10_334 (l : Launch) (Z : State) (a0 : Array Value) (hw : ∀ d ∈ tables_1, d.before a0 Z = true) (ws : List Jvm.Cond) (n0 : Nat) (h0 : Heap) (O0 : Old Z n0 h0) (G1 : Int32) (G3 : Value) (GF : GlobF Z G1 G3) (b323 : Addr) (c1_ : Int32) (k324 : ClassId) (c0_ : Int32) (PV_b323 : Arv Z h0 b323 k324 .byte (14 : Int32) [(.int ((c0_ >>> ((0 : Int32) &&& 31)).toInt8.toInt32)), (.int ((c0_ >>> ((8 : Int32) &&& 31)).toInt8.toInt32)), (.int 0), (.int 0), (.int 0), (.int 0), (.int 0), (.int 0), (.int 0), (.int 0), (.int 0), (.int 0), (.int 0), (.int 0)] (.int 0)) (g_b323 : n0 ≤ b323) :
  Meets1 l ym25 jdk_52_method_4_code 3 none ws ({ frames := 0, cells := 0, slots := 0, locals := 0 } : Room) #[(.ref b323), (.int 1), (.int c1_)] Z h0 (fun v h L => v = none ∧ Fr n0 L ∧ Keep h0 h [b323] ∧ Arv Z h b323 k324 .byte (14 : Int32) [(.int ((c0_ >>> ((0 : Int32) &&& 31)).toInt8.toInt32)), (.int ((c0_ >>> ((8 : Int32) &&& 31)).toInt8.toInt32)), (.int ((c1_ >>> ((0 : Int32) &&& 31)).toInt8.toInt32)), (.int ((c1_ >>> ((8 : Int32) &&& 31)).toInt8.toInt32)), (.int 0), (.int 0), (.int 0), (.int 0), (.int 0), (.int 0), (.int 0), (.int 0), (.int 0), (.int 0)] (.int 0)) := by
 refine MetFree.of_bodySF (plainFor_of_name pn10) hisR ?_
 intro p e s m args below meth c s₁ Bd hml0 hP hK
 obtain ⟨rfl, hZ, hh⟩ := hP
 have hx := Bd.exec
 have hby := Bd.bytes
 have hml : c.maxLocals = 3 := hml0
 have hown : s.vm.findClass "java/lang/StringUTF16" = some m.cls := findClass_of_methodNamed Bd.named
 have hnm := (name_of_methodNamed Bd.named Bd.method).1
 have X0 : Stand p l e ({ frames := 0, cells := 0, slots := 0, locals := 0 } : Room) s m #[(.ref b323), (.int 1), (.int c1_)] below meth c s₁ [] 0 0 := Stand.of_body Bd
 have e0 : s₁.heap = h0 := by rw [← hh, Bd.state]; rfl
 have N0 := Fr.nil n0
 have Z0 := own_old_le O0
 show Ends _ _ _ _ s₁ (entryFrame m #[(.ref b323), (.int 1), (.int c1_)] 3) ({ frames := 0, cells := 0, slots := 0, locals := 0 } : Room).cells ({ frames := 0, cells := 0, slots := 0, locals := 0 } : Room).slots (fun v h L => v = none ∧ Fr n0 L ∧ Keep h0 h [b323] ∧ Arv Z h b323 k324 .byte (14 : Int32) [(.int ((c0_ >>> ((0 : Int32) &&& 31)).toInt8.toInt32)), (.int ((c0_ >>> ((8 : Int32) &&& 31)).toInt8.toInt32)), (.int ((c1_ >>> ((0 : Int32) &&& 31)).toInt8.toInt32)), (.int ((c1_ >>> ((8 : Int32) &&& 31)).toInt8.toInt32)), (.int 0), (.int 0), (.int 0), (.int 0), (.int 0), (.int 0), (.int 0), (.int 0), (.int 0), (.int 0)] (.int 0))
 refine Ends.go (fun _ k => castTop (ef10_rii m b323 (1 : Int32) c1_) k) ?_
 obtain ⟨SCS, P5, SAD, SHI, SLO, SSF, RG3⟩ := id GF
 have K0 := Keep.refl h0 [b323]
 show Ends _ _ _ _ s₁ (mkF m 0 #[cr b323, ci 1, ci c1_] []) _ _ _
 obtain ⟨T335, X335, e335, st335⟩ := getS2 X0 hx hZ hown (host := "") (Or.inl (ow hw 44 rfl)) Via.refl e0 (SAD.ext O0.2) (g := (mkF m 0 #[cr b323, ci 1, ci c1_] [])) rfl (hb hby d10_0)
 refine Ends.go st335 ?_
 refine wiy (pc := 3) (pc' := 28) X335 hx hby d10_3 ((if0 _ _).trans (feq (by decide : ¬ ((1 : Int32) = (0 : Int32)))).2) (by decide) (by decide) ?_
 refine wilN X335 hx hby d10_28 rfl ?_
 refine wic X335 hx hby d10_29 ?_
 show Ends _ _ _ _ T335 (mkF m 30 #[cr b323, ci 1, ci c1_] [(.int 1), (.int 1)]) _ _ _
 refine .go (fun _ => XS.ishl X335.here hx rfl (hb hby d10_30) rfl) ?_
 refine wstN X335 hx hby d10_31 (l' := #[cr b323, ci 2, ci c1_]) rfl ?_
 refine walN X335 hx hby d10_32 rfl rfl ?_
 refine wilN X335 hx hby d10_33 rfl ?_
 refine wii X335 hx hby d10_34 (l' := #[cr b323, ci 3, ci c1_]) rfl rfl ?_
 show Ends _ _ _ _ T335 (mkF m 37 #[cr b323, ci 3, ci c1_] [(.int 2), (.ref b323)]) _ _ _
 refine wilN X335 hx hby d10_37 rfl ?_
 obtain ⟨T336, X336, e336, st336⟩ := getS2 X335 hx hZ hown (host := "") (Or.inl (ow hw 45 rfl)) Via.refl e335 (SHI.ext O0.2) (g := (mkF m 38 #[cr b323, ci 3, ci c1_] [(.int c1_), (.int 2), (.ref b323)])) rfl (hb hby d10_38)
 refine Ends.go st336 ?_
 refine .go (fun _ => XS.ishr X336.here hx rfl (hb hby d10_41) rfl) ?_
 refine .go (fun _ => XS.i2b X336.here hx rfl (hb hby d10_42) rfl) ?_
 obtain ⟨cl337, Ar337, q337, S337, M337, H337, G337⟩ := id PV_b323
 have hin337 := inb_of (j := (2 : Int32)) S337 ⟨by decide, by decide⟩
 obtain ⟨T337, h337, X337, e337, W337, st337⟩ := stB X336 hx hZ e336 Ar337 (j := (2 : Int32)) hin337 (g := (mkF m 43 #[cr b323, ci 3, ci c1_] [(.int ((c1_ >>> ((0 : Int32) &&& 31)).toInt8.toInt32)), (.int 2), (.ref b323)])) rfl rfl (hb hby d10_43)
 refine Ends.go st337 ?_
 have V337 : Arv Z h337 b323 k324 .byte (14 : Int32) [(.int ((c0_ >>> ((0 : Int32) &&& 31)).toInt8.toInt32)), (.int ((c0_ >>> ((8 : Int32) &&& 31)).toInt8.toInt32)), (.int (nar .byte ((c1_ >>> ((0 : Int32) &&& 31)).toInt8.toInt32))), (.int 0), (.int 0), (.int 0), (.int 0), (.int 0), (.int 0), (.int 0), (.int 0), (.int 0), (.int 0), (.int 0)] (.int 0) := Arv.set Ar337 q337 S337 M337 H337 G337 (fits_nar_byte _) W337 2 rfl (Nat.le_of_ble_eq_true rfl)
 rw [own_narb] at V337
 have K337 := K0.wr W337 (Or.inl (List.mem_of_getElem? (i := 0) rfl))
 have O337 := O0.wr W337 g_b323
 have N337 := Fr.snoc X337 N0 g_b323
 show Ends _ _ _ _ T337 (mkF m 44 #[cr b323, ci 3, ci c1_] []) _ _ _
 refine walN X337 hx hby d10_44 rfl rfl ?_
 refine wilN X337 hx hby d10_45 rfl ?_
 refine wilN X337 hx hby d10_46 rfl ?_
 obtain ⟨T338, X338, e338, st338⟩ := getS2 X337 hx hZ hown (host := "") (Or.inl (ow hw 46 rfl)) Via.refl e337 (SLO.ext O337.2) (g := (mkF m 47 #[cr b323, ci 3, ci c1_] [(.int c1_), (.int 3), (.ref b323)])) rfl (hb hby d10_47)
 refine Ends.go st338 ?_
 refine .go (fun _ => XS.ishr X338.here hx rfl (hb hby d10_50) rfl) ?_
 show Ends _ _ _ _ T338 (mkF m 51 #[cr b323, ci 3, ci c1_] [(.int (c1_ >>> ((8 : Int32) &&& 31))), (.int 3), (.ref b323)]) _ _ _
 refine .go (fun _ => XS.i2b X338.here hx rfl (hb hby d10_51) rfl) ?_
 obtain ⟨cl339, Ar339, q339, S339, M339, H339, G339⟩ := id V337
 have hin339 := inb_of (j := (3 : Int32)) S339 ⟨by decide, by decide⟩
 obtain ⟨T339, h339, X339, e339, W339, st339⟩ := stB X338 hx hZ e338 Ar339 (j := (3 : Int32)) hin339 (g := (mkF m 52 #[cr b323, ci 3, ci c1_] [(.int ((c1_ >>> ((8 : Int32) &&& 31)).toInt8.toInt32)), (.int 3), (.ref b323)])) rfl rfl (hb hby d10_52)
 refine Ends.go st339 ?_
 have V339 : Arv Z h339 b323 k324 .byte (14 : Int32) [(.int ((c0_ >>> ((0 : Int32) &&& 31)).toInt8.toInt32)), (.int ((c0_ >>> ((8 : Int32) &&& 31)).toInt8.toInt32)), (.int ((c1_ >>> ((0 : Int32) &&& 31)).toInt8.toInt32)), (.int (nar .byte ((c1_ >>> ((8 : Int32) &&& 31)).toInt8.toInt32))), (.int 0), (.int 0), (.int 0), (.int 0), (.int 0), (.int 0), (.int 0), (.int 0), (.int 0), (.int 0)] (.int 0) := Arv.set Ar339 q339 S339 M339 H339 G339 (fits_nar_byte _) W339 3 rfl (Nat.le_of_ble_eq_true rfl)
 rw [own_narb] at V339
 have K339 := K337.wr W339 (Or.inl (List.mem_of_getElem? (i := 0) rfl))
 have O339 := O337.wr W339 g_b323
 have N339 := Fr.snoc X339 N337 g_b323
 refine Ends.retV X339 hx Bd.notSynchronized Bd.returns (hb hby d10_53) (by decide) (by decide) ?_
 rw [e339]
 exact ⟨rfl, N339, K339, V339⟩

set_option maxRecDepth 65536 in
set_option maxHeartbeats 40000000 in
theorem rx10_342 (l : Launch) (Z : State) (a0 : Array Value) (hw : ∀ d ∈ tables_1, d.before a0 Z = true) (ws : List Jvm.Cond) (n0 : Nat) (h0 : Heap) (O0 : Old Z n0 h0) (G1 : Int32) (G3 : Value) (GF : GlobF Z G1 G3) (b323 : Addr) (c2_ : Int32) (k324 : ClassId) (c0_ : Int32) (c1_ : Int32) (PV_b323 : Arv Z h0 b323 k324 .byte (14 : Int32) [(.int ((c0_ >>> ((0 : Int32) &&& 31)).toInt8.toInt32)), (.int ((c0_ >>> ((8 : Int32) &&& 31)).toInt8.toInt32)), (.int ((c1_ >>> ((0 : Int32) &&& 31)).toInt8.toInt32)), (.int ((c1_ >>> ((8 : Int32) &&& 31)).toInt8.toInt32)), (.int 0), (.int 0), (.int 0), (.int 0), (.int 0), (.int 0), (.int 0), (.int 0), (.int 0), (.int 0)] (.int 0)) (g_b323 : n0 ≤ b323) :
  Meets1 l ym25 jdk_52_method_4_code 3 none ws ({ frames := 0, cells := 0, slots := 0, locals := 0 } : Room) #[(.ref b323), (.int 2), (.int c2_)] Z h0 (fun v h L => v = none ∧ Fr n0 L ∧ Keep h0 h [b323] ∧ Arv Z h b323 k324 .byte (14 : Int32) [(.int ((c0_ >>> ((0 : Int32) &&& 31)).toInt8.toInt32)), (.int ((c0_ >>> ((8 : Int32) &&& 31)).toInt8.toInt32)), (.int ((c1_ >>> ((0 : Int32) &&& 31)).toInt8.toInt32)), (.int ((c1_ >>> ((8 : Int32) &&& 31)).toInt8.toInt32)), (.int ((c2_ >>> ((0 : Int32) &&& 31)).toInt8.toInt32)), (.int ((c2_ >>> ((8 : Int32) &&& 31)).toInt8.toInt32)), (.int 0), (.int 0), (.int 0), (.int 0), (.int 0), (.int 0), (.int 0), (.int 0)] (.int 0)) := by
 refine MetFree.of_bodySF (plainFor_of_name pn10) hisR ?_
 intro p e s m args below meth c s₁ Bd hml0 hP hK
 obtain ⟨rfl, hZ, hh⟩ := hP
 have hx := Bd.exec
 have hby := Bd.bytes
 have hml : c.maxLocals = 3 := hml0
 have hown : s.vm.findClass "java/lang/StringUTF16" = some m.cls := findClass_of_methodNamed Bd.named
 have hnm := (name_of_methodNamed Bd.named Bd.method).1
 have X0 : Stand p l e ({ frames := 0, cells := 0, slots := 0, locals := 0 } : Room) s m #[(.ref b323), (.int 2), (.int c2_)] below meth c s₁ [] 0 0 := Stand.of_body Bd
 have e0 : s₁.heap = h0 := by rw [← hh, Bd.state]; rfl
 have N0 := Fr.nil n0
 have Z0 := own_old_le O0
 show Ends _ _ _ _ s₁ (entryFrame m #[(.ref b323), (.int 2), (.int c2_)] 3) ({ frames := 0, cells := 0, slots := 0, locals := 0 } : Room).cells ({ frames := 0, cells := 0, slots := 0, locals := 0 } : Room).slots (fun v h L => v = none ∧ Fr n0 L ∧ Keep h0 h [b323] ∧ Arv Z h b323 k324 .byte (14 : Int32) [(.int ((c0_ >>> ((0 : Int32) &&& 31)).toInt8.toInt32)), (.int ((c0_ >>> ((8 : Int32) &&& 31)).toInt8.toInt32)), (.int ((c1_ >>> ((0 : Int32) &&& 31)).toInt8.toInt32)), (.int ((c1_ >>> ((8 : Int32) &&& 31)).toInt8.toInt32)), (.int ((c2_ >>> ((0 : Int32) &&& 31)).toInt8.toInt32)), (.int ((c2_ >>> ((8 : Int32) &&& 31)).toInt8.toInt32)), (.int 0), (.int 0), (.int 0), (.int 0), (.int 0), (.int 0), (.int 0), (.int 0)] (.int 0))
 refine Ends.go (fun _ k => castTop (ef10_rii m b323 (2 : Int32) c2_) k) ?_
 obtain ⟨SCS, P5, SAD, SHI, SLO, SSF, RG3⟩ := id GF
 have K0 := Keep.refl h0 [b323]
 show Ends _ _ _ _ s₁ (mkF m 0 #[cr b323, ci 2, ci c2_] []) _ _ _
 obtain ⟨T343, X343, e343, st343⟩ := getS2 X0 hx hZ hown (host := "") (Or.inl (ow hw 44 rfl)) Via.refl e0 (SAD.ext O0.2) (g := (mkF m 0 #[cr b323, ci 2, ci c2_] [])) rfl (hb hby d10_0)
 refine Ends.go st343 ?_
 refine wiy (pc := 3) (pc' := 28) X343 hx hby d10_3 ((if0 _ _).trans (feq (by decide : ¬ ((1 : Int32) = (0 : Int32)))).2) (by decide) (by decide) ?_
 refine wilN X343 hx hby d10_28 rfl ?_
 refine wic X343 hx hby d10_29 ?_
 show Ends _ _ _ _ T343 (mkF m 30 #[cr b323, ci 2, ci c2_] [(.int 1), (.int 2)]) _ _ _
 refine .go (fun _ => XS.ishl X343.here hx rfl (hb hby d10_30) rfl) ?_
 refine wstN X343 hx hby d10_31 (l' := #[cr b323, ci 4, ci c2_]) rfl ?_
 refine walN X343 hx hby d10_32 rfl rfl ?_
 refine wilN X343 hx hby d10_33 rfl ?_
 refine wii X343 hx hby d10_34 (l' := #[cr b323, ci 5, ci c2_]) rfl rfl ?_
 show Ends _ _ _ _ T343 (mkF m 37 #[cr b323, ci 5, ci c2_] [(.int 4), (.ref b323)]) _ _ _
 refine wilN X343 hx hby d10_37 rfl ?_
 obtain ⟨T344, X344, e344, st344⟩ := getS2 X343 hx hZ hown (host := "") (Or.inl (ow hw 45 rfl)) Via.refl e343 (SHI.ext O0.2) (g := (mkF m 38 #[cr b323, ci 5, ci c2_] [(.int c2_), (.int 4), (.ref b323)])) rfl (hb hby d10_38)
 refine Ends.go st344 ?_
 refine .go (fun _ => XS.ishr X344.here hx rfl (hb hby d10_41) rfl) ?_
 refine .go (fun _ => XS.i2b X344.here hx rfl (hb hby d10_42) rfl) ?_
 obtain ⟨cl345, Ar345, q345, S345, M345, H345, G345⟩ := id PV_b323
 have hin345 := inb_of (j := (4 : Int32)) S345 ⟨by decide, by decide⟩
 obtain ⟨T345, h345, X345, e345, W345, st345⟩ := stB X344 hx hZ e344 Ar345 (j := (4 : Int32)) hin345 (g := (mkF m 43 #[cr b323, ci 5, ci c2_] [(.int ((c2_ >>> ((0 : Int32) &&& 31)).toInt8.toInt32)), (.int 4), (.ref b323)])) rfl rfl (hb hby d10_43)
 refine Ends.go st345 ?_
 have V345 : Arv Z h345 b323 k324 .byte (14 : Int32) [(.int ((c0_ >>> ((0 : Int32) &&& 31)).toInt8.toInt32)), (.int ((c0_ >>> ((8 : Int32) &&& 31)).toInt8.toInt32)), (.int ((c1_ >>> ((0 : Int32) &&& 31)).toInt8.toInt32)), (.int ((c1_ >>> ((8 : Int32) &&& 31)).toInt8.toInt32)), (.int (nar .byte ((c2_ >>> ((0 : Int32) &&& 31)).toInt8.toInt32))), (.int 0), (.int 0), (.int 0), (.int 0), (.int 0), (.int 0), (.int 0), (.int 0), (.int 0)] (.int 0) := Arv.set Ar345 q345 S345 M345 H345 G345 (fits_nar_byte _) W345 4 rfl (Nat.le_of_ble_eq_true rfl)
 rw [own_narb] at V345
 have K345 := K0.wr W345 (Or.inl (List.mem_of_getElem? (i := 0) rfl))
 have O345 := O0.wr W345 g_b323
 have N345 := Fr.snoc X345 N0 g_b323
 show Ends _ _ _ _ T345 (mkF m 44 #[cr b323, ci 5, ci c2_] []) _ _ _
 refine walN X345 hx hby d10_44 rfl rfl ?_
 refine wilN X345 hx hby d10_45 rfl ?_
 refine wilN X345 hx hby d10_46 rfl ?_
 obtain ⟨T346, X346, e346, st346⟩ := getS2 X345 hx hZ hown (host := "") (Or.inl (ow hw 46 rfl)) Via.refl e345 (SLO.ext O345.2) (g := (mkF m 47 #[cr b323, ci 5, ci c2_] [(.int c2_), (.int 5), (.ref b323)])) rfl (hb hby d10_47)
 refine Ends.go st346 ?_
 refine .go (fun _ => XS.ishr X346.here hx rfl (hb hby d10_50) rfl) ?_
 show Ends _ _ _ _ T346 (mkF m 51 #[cr b323, ci 5, ci c2_] [(.int (c2_ >>> ((8 : Int32) &&& 31))), (.int 5), (.ref b323)]) _ _ _
 refine .go (fun _ => XS.i2b X346.here hx rfl (hb hby d10_51) rfl) ?_
 obtain ⟨cl347, Ar347, q347, S347, M347, H347, G347⟩ := id V345
 have hin347 := inb_of (j := (5 : Int32)) S347 ⟨by decide, by decide⟩
 obtain ⟨T347, h347, X347, e347, W347, st347⟩ := stB X346 hx hZ e346 Ar347 (j := (5 : Int32)) hin347 (g := (mkF m 52 #[cr b323, ci 5, ci c2_] [(.int ((c2_ >>> ((8 : Int32) &&& 31)).toInt8.toInt32)), (.int 5), (.ref b323)])) rfl rfl (hb hby d10_52)
 refine Ends.go st347 ?_
 have V347 : Arv Z h347 b323 k324 .byte (14 : Int32) [(.int ((c0_ >>> ((0 : Int32) &&& 31)).toInt8.toInt32)), (.int ((c0_ >>> ((8 : Int32) &&& 31)).toInt8.toInt32)), (.int ((c1_ >>> ((0 : Int32) &&& 31)).toInt8.toInt32)), (.int ((c1_ >>> ((8 : Int32) &&& 31)).toInt8.toInt32)), (.int ((c2_ >>> ((0 : Int32) &&& 31)).toInt8.toInt32)), (.int (nar .byte ((c2_ >>> ((8 : Int32) &&& 31)).toInt8.toInt32))), (.int 0), (.int 0), (.int 0), (.int 0), (.int 0), (.int 0), (.int 0), (.int 0)] (.int 0) := Arv.set Ar347 q347 S347 M347 H347 G347 (fits_nar_byte _) W347 5 rfl (Nat.le_of_ble_eq_true rfl)
 rw [own_narb] at V347
 have K347 := K345.wr W347 (Or.inl (List.mem_of_getElem? (i := 0) rfl))
 have O347 := O345.wr W347 g_b323
 have N347 := Fr.snoc X347 N345 g_b323
 refine Ends.retV X347 hx Bd.notSynchronized Bd.returns (hb hby d10_53) (by decide) (by decide) ?_
 rw [e347]
 exact ⟨rfl, N347, K347, V347⟩

set_option maxRecDepth 65536 in
set_option maxHeartbeats 40000000 in
theorem rx10_350 (l : Launch) (Z : State) (a0 : Array Value) (hw : ∀ d ∈ tables_1, d.before a0 Z = true) (ws : List Jvm.Cond) (n0 : Nat) (h0 : Heap) (O0 : Old Z n0 h0) (G1 : Int32) (G3 : Value) (GF : GlobF Z G1 G3) (b323 : Addr) (c3_ : Int32) (k324 : ClassId) (c0_ : Int32) (c1_ : Int32) (c2_ : Int32) (PV_b323 : Arv Z h0 b323 k324 .byte (14 : Int32) [(.int ((c0_ >>> ((0 : Int32) &&& 31)).toInt8.toInt32)), (.int ((c0_ >>> ((8 : Int32) &&& 31)).toInt8.toInt32)), (.int ((c1_ >>> ((0 : Int32) &&& 31)).toInt8.toInt32)), (.int ((c1_ >>> ((8 : Int32) &&& 31)).toInt8.toInt32)), (.int ((c2_ >>> ((0 : Int32) &&& 31)).toInt8.toInt32)), (.int ((c2_ >>> ((8 : Int32) &&& 31)).toInt8.toInt32)), (.int 0), (.int 0), (.int 0), (.int 0), (.int 0), (.int 0), (.int 0), (.int 0)] (.int 0)) (g_b323 : n0 ≤ b323) :
  Meets1 l ym25 jdk_52_method_4_code 3 none ws ({ frames := 0, cells := 0, slots := 0, locals := 0 } : Room) #[(.ref b323), (.int 3), (.int c3_)] Z h0 (fun v h L => v = none ∧ Fr n0 L ∧ Keep h0 h [b323] ∧ Arv Z h b323 k324 .byte (14 : Int32) [(.int ((c0_ >>> ((0 : Int32) &&& 31)).toInt8.toInt32)), (.int ((c0_ >>> ((8 : Int32) &&& 31)).toInt8.toInt32)), (.int ((c1_ >>> ((0 : Int32) &&& 31)).toInt8.toInt32)), (.int ((c1_ >>> ((8 : Int32) &&& 31)).toInt8.toInt32)), (.int ((c2_ >>> ((0 : Int32) &&& 31)).toInt8.toInt32)), (.int ((c2_ >>> ((8 : Int32) &&& 31)).toInt8.toInt32)), (.int ((c3_ >>> ((0 : Int32) &&& 31)).toInt8.toInt32)), (.int ((c3_ >>> ((8 : Int32) &&& 31)).toInt8.toInt32)), (.int 0), (.int 0), (.int 0), (.int 0), (.int 0), (.int 0)] (.int 0)) := by
 refine MetFree.of_bodySF (plainFor_of_name pn10) hisR ?_
 intro p e s m args below meth c s₁ Bd hml0 hP hK
 obtain ⟨rfl, hZ, hh⟩ := hP
 have hx := Bd.exec
 have hby := Bd.bytes
 have hml : c.maxLocals = 3 := hml0
 have hown : s.vm.findClass "java/lang/StringUTF16" = some m.cls := findClass_of_methodNamed Bd.named
 have hnm := (name_of_methodNamed Bd.named Bd.method).1
 have X0 : Stand p l e ({ frames := 0, cells := 0, slots := 0, locals := 0 } : Room) s m #[(.ref b323), (.int 3), (.int c3_)] below meth c s₁ [] 0 0 := Stand.of_body Bd
 have e0 : s₁.heap = h0 := by rw [← hh, Bd.state]; rfl
 have N0 := Fr.nil n0
 have Z0 := own_old_le O0
 show Ends _ _ _ _ s₁ (entryFrame m #[(.ref b323), (.int 3), (.int c3_)] 3) ({ frames := 0, cells := 0, slots := 0, locals := 0 } : Room).cells ({ frames := 0, cells := 0, slots := 0, locals := 0 } : Room).slots (fun v h L => v = none ∧ Fr n0 L ∧ Keep h0 h [b323] ∧ Arv Z h b323 k324 .byte (14 : Int32) [(.int ((c0_ >>> ((0 : Int32) &&& 31)).toInt8.toInt32)), (.int ((c0_ >>> ((8 : Int32) &&& 31)).toInt8.toInt32)), (.int ((c1_ >>> ((0 : Int32) &&& 31)).toInt8.toInt32)), (.int ((c1_ >>> ((8 : Int32) &&& 31)).toInt8.toInt32)), (.int ((c2_ >>> ((0 : Int32) &&& 31)).toInt8.toInt32)), (.int ((c2_ >>> ((8 : Int32) &&& 31)).toInt8.toInt32)), (.int ((c3_ >>> ((0 : Int32) &&& 31)).toInt8.toInt32)), (.int ((c3_ >>> ((8 : Int32) &&& 31)).toInt8.toInt32)), (.int 0), (.int 0), (.int 0), (.int 0), (.int 0), (.int 0)] (.int 0))
 refine Ends.go (fun _ k => castTop (ef10_rii m b323 (3 : Int32) c3_) k) ?_
 obtain ⟨SCS, P5, SAD, SHI, SLO, SSF, RG3⟩ := id GF
 have K0 := Keep.refl h0 [b323]
 show Ends _ _ _ _ s₁ (mkF m 0 #[cr b323, ci 3, ci c3_] []) _ _ _
 obtain ⟨T351, X351, e351, st351⟩ := getS2 X0 hx hZ hown (host := "") (Or.inl (ow hw 44 rfl)) Via.refl e0 (SAD.ext O0.2) (g := (mkF m 0 #[cr b323, ci 3, ci c3_] [])) rfl (hb hby d10_0)
 refine Ends.go st351 ?_
 refine wiy (pc := 3) (pc' := 28) X351 hx hby d10_3 ((if0 _ _).trans (feq (by decide : ¬ ((1 : Int32) = (0 : Int32)))).2) (by decide) (by decide) ?_
 refine wilN X351 hx hby d10_28 rfl ?_
 refine wic X351 hx hby d10_29 ?_
 show Ends _ _ _ _ T351 (mkF m 30 #[cr b323, ci 3, ci c3_] [(.int 1), (.int 3)]) _ _ _
 refine .go (fun _ => XS.ishl X351.here hx rfl (hb hby d10_30) rfl) ?_
 refine wstN X351 hx hby d10_31 (l' := #[cr b323, ci 6, ci c3_]) rfl ?_
 refine walN X351 hx hby d10_32 rfl rfl ?_
 refine wilN X351 hx hby d10_33 rfl ?_
 refine wii X351 hx hby d10_34 (l' := #[cr b323, ci 7, ci c3_]) rfl rfl ?_
 show Ends _ _ _ _ T351 (mkF m 37 #[cr b323, ci 7, ci c3_] [(.int 6), (.ref b323)]) _ _ _
 refine wilN X351 hx hby d10_37 rfl ?_
 obtain ⟨T352, X352, e352, st352⟩ := getS2 X351 hx hZ hown (host := "") (Or.inl (ow hw 45 rfl)) Via.refl e351 (SHI.ext O0.2) (g := (mkF m 38 #[cr b323, ci 7, ci c3_] [(.int c3_), (.int 6), (.ref b323)])) rfl (hb hby d10_38)
 refine Ends.go st352 ?_
 refine .go (fun _ => XS.ishr X352.here hx rfl (hb hby d10_41) rfl) ?_
 refine .go (fun _ => XS.i2b X352.here hx rfl (hb hby d10_42) rfl) ?_
 obtain ⟨cl353, Ar353, q353, S353, M353, H353, G353⟩ := id PV_b323
 have hin353 := inb_of (j := (6 : Int32)) S353 ⟨by decide, by decide⟩
 obtain ⟨T353, h353, X353, e353, W353, st353⟩ := stB X352 hx hZ e352 Ar353 (j := (6 : Int32)) hin353 (g := (mkF m 43 #[cr b323, ci 7, ci c3_] [(.int ((c3_ >>> ((0 : Int32) &&& 31)).toInt8.toInt32)), (.int 6), (.ref b323)])) rfl rfl (hb hby d10_43)
 refine Ends.go st353 ?_
 have V353 : Arv Z h353 b323 k324 .byte (14 : Int32) [(.int ((c0_ >>> ((0 : Int32) &&& 31)).toInt8.toInt32)), (.int ((c0_ >>> ((8 : Int32) &&& 31)).toInt8.toInt32)), (.int ((c1_ >>> ((0 : Int32) &&& 31)).toInt8.toInt32)), (.int ((c1_ >>> ((8 : Int32) &&& 31)).toInt8.toInt32)), (.int ((c2_ >>> ((0 : Int32) &&& 31)).toInt8.toInt32)), (.int ((c2_ >>> ((8 : Int32) &&& 31)).toInt8.toInt32)), (.int (nar .byte ((c3_ >>> ((0 : Int32) &&& 31)).toInt8.toInt32))), (.int 0), (.int 0), (.int 0), (.int 0), (.int 0), (.int 0), (.int 0)] (.int 0) := Arv.set Ar353 q353 S353 M353 H353 G353 (fits_nar_byte _) W353 6 rfl (Nat.le_of_ble_eq_true rfl)
 rw [own_narb] at V353
 have K353 := K0.wr W353 (Or.inl (List.mem_of_getElem? (i := 0) rfl))
 have O353 := O0.wr W353 g_b323
 have N353 := Fr.snoc X353 N0 g_b323
 show Ends _ _ _ _ T353 (mkF m 44 #[cr b323, ci 7, ci c3_] []) _ _ _
 refine walN X353 hx hby d10_44 rfl rfl ?_
 refine wilN X353 hx hby d10_45 rfl ?_
 refine wilN X353 hx hby d10_46 rfl ?_
 obtain ⟨T354, X354, e354, st354⟩ := getS2 X353 hx hZ hown (host := "") (Or.inl (ow hw 46 rfl)) Via.refl e353 (SLO.ext O353.2) (g := (mkF m 47 #[cr b323, ci 7, ci c3_] [(.int c3_), (.int 7), (.ref b323)])) rfl (hb hby d10_47)
 refine Ends.go st354 ?_
 refine .go (fun _ => XS.ishr X354.here hx rfl (hb hby d10_50) rfl) ?_
 show Ends _ _ _ _ T354 (mkF m 51 #[cr b323, ci 7, ci c3_] [(.int (c3_ >>> ((8 : Int32) &&& 31))), (.int 7), (.ref b323)]) _ _ _
 refine .go (fun _ => XS.i2b X354.here hx rfl (hb hby d10_51) rfl) ?_
 obtain ⟨cl355, Ar355, q355, S355, M355, H355, G355⟩ := id V353
 have hin355 := inb_of (j := (7 : Int32)) S355 ⟨by decide, by decide⟩
 obtain ⟨T355, h355, X355, e355, W355, st355⟩ := stB X354 hx hZ e354 Ar355 (j := (7 : Int32)) hin355 (g := (mkF m 52 #[cr b323, ci 7, ci c3_] [(.int ((c3_ >>> ((8 : Int32) &&& 31)).toInt8.toInt32)), (.int 7), (.ref b323)])) rfl rfl (hb hby d10_52)
 refine Ends.go st355 ?_
 have V355 : Arv Z h355 b323 k324 .byte (14 : Int32) [(.int ((c0_ >>> ((0 : Int32) &&& 31)).toInt8.toInt32)), (.int ((c0_ >>> ((8 : Int32) &&& 31)).toInt8.toInt32)), (.int ((c1_ >>> ((0 : Int32) &&& 31)).toInt8.toInt32)), (.int ((c1_ >>> ((8 : Int32) &&& 31)).toInt8.toInt32)), (.int ((c2_ >>> ((0 : Int32) &&& 31)).toInt8.toInt32)), (.int ((c2_ >>> ((8 : Int32) &&& 31)).toInt8.toInt32)), (.int ((c3_ >>> ((0 : Int32) &&& 31)).toInt8.toInt32)), (.int (nar .byte ((c3_ >>> ((8 : Int32) &&& 31)).toInt8.toInt32))), (.int 0), (.int 0), (.int 0), (.int 0), (.int 0), (.int 0)] (.int 0) := Arv.set Ar355 q355 S355 M355 H355 G355 (fits_nar_byte _) W355 7 rfl (Nat.le_of_ble_eq_true rfl)
 rw [own_narb] at V355
 have K355 := K353.wr W355 (Or.inl (List.mem_of_getElem? (i := 0) rfl))
 have O355 := O353.wr W355 g_b323
 have N355 := Fr.snoc X355 N353 g_b323
 refine Ends.retV X355 hx Bd.notSynchronized Bd.returns (hb hby d10_53) (by decide) (by decide) ?_
 rw [e355]
 exact ⟨rfl, N355, K355, V355⟩

set_option maxRecDepth 65536 in
set_option maxHeartbeats 40000000 in
theorem rx10_358 (l : Launch) (Z : State) (a0 : Array Value) (hw : ∀ d ∈ tables_1, d.before a0 Z = true) (ws : List Jvm.Cond) (n0 : Nat) (h0 : Heap) (O0 : Old Z n0 h0) (G1 : Int32) (G3 : Value) (GF : GlobF Z G1 G3) (b323 : Addr) (c4_ : Int32) (k324 : ClassId) (c0_ : Int32) (c1_ : Int32) (c2_ : Int32) (c3_ : Int32) (PV_b323 : Arv Z h0 b323 k324 .byte (14 : Int32) [(.int ((c0_ >>> ((0 : Int32) &&& 31)).toInt8.toInt32)), (.int ((c0_ >>> ((8 : Int32) &&& 31)).toInt8.toInt32)), (.int ((c1_ >>> ((0 : Int32) &&& 31)).toInt8.toInt32)), (.int ((c1_ >>> ((8 : Int32) &&& 31)).toInt8.toInt32)), (.int ((c2_ >>> ((0 : Int32) &&& 31)).toInt8.toInt32)), (.int ((c2_ >>> ((8 : Int32) &&& 31)).toInt8.toInt32)), (.int ((c3_ >>> ((0 : Int32) &&& 31)).toInt8.toInt32)), (.int ((c3_ >>> ((8 : Int32) &&& 31)).toInt8.toInt32)), (.int 0), (.int 0), (.int 0), (.int 0), (.int 0), (.int 0)] (.int 0)) (g_b323 : n0 ≤ b323) :
  Meets1 l ym25 jdk_52_method_4_code 3 none ws ({ frames := 0, cells := 0, slots := 0, locals := 0 } : Room) #[(.ref b323), (.int 4), (.int c4_)] Z h0 (fun v h L => v = none ∧ Fr n0 L ∧ Keep h0 h [b323] ∧ Arv Z h b323 k324 .byte (14 : Int32) [(.int ((c0_ >>> ((0 : Int32) &&& 31)).toInt8.toInt32)), (.int ((c0_ >>> ((8 : Int32) &&& 31)).toInt8.toInt32)), (.int ((c1_ >>> ((0 : Int32) &&& 31)).toInt8.toInt32)), (.int ((c1_ >>> ((8 : Int32) &&& 31)).toInt8.toInt32)), (.int ((c2_ >>> ((0 : Int32) &&& 31)).toInt8.toInt32)), (.int ((c2_ >>> ((8 : Int32) &&& 31)).toInt8.toInt32)), (.int ((c3_ >>> ((0 : Int32) &&& 31)).toInt8.toInt32)), (.int ((c3_ >>> ((8 : Int32) &&& 31)).toInt8.toInt32)), (.int ((c4_ >>> ((0 : Int32) &&& 31)).toInt8.toInt32)), (.int ((c4_ >>> ((8 : Int32) &&& 31)).toInt8.toInt32)), (.int 0), (.int 0), (.int 0), (.int 0)] (.int 0)) := by
 refine MetFree.of_bodySF (plainFor_of_name pn10) hisR ?_
 intro p e s m args below meth c s₁ Bd hml0 hP hK
 obtain ⟨rfl, hZ, hh⟩ := hP
 have hx := Bd.exec
 have hby := Bd.bytes
 have hml : c.maxLocals = 3 := hml0
 have hown : s.vm.findClass "java/lang/StringUTF16" = some m.cls := findClass_of_methodNamed Bd.named
 have hnm := (name_of_methodNamed Bd.named Bd.method).1
 have X0 : Stand p l e ({ frames := 0, cells := 0, slots := 0, locals := 0 } : Room) s m #[(.ref b323), (.int 4), (.int c4_)] below meth c s₁ [] 0 0 := Stand.of_body Bd
 have e0 : s₁.heap = h0 := by rw [← hh, Bd.state]; rfl
 have N0 := Fr.nil n0
 have Z0 := own_old_le O0
 show Ends _ _ _ _ s₁ (entryFrame m #[(.ref b323), (.int 4), (.int c4_)] 3) ({ frames := 0, cells := 0, slots := 0, locals := 0 } : Room).cells ({ frames := 0, cells := 0, slots := 0, locals := 0 } : Room).slots (fun v h L => v = none ∧ Fr n0 L ∧ Keep h0 h [b323] ∧ Arv Z h b323 k324 .byte (14 : Int32) [(.int ((c0_ >>> ((0 : Int32) &&& 31)).toInt8.toInt32)), (.int ((c0_ >>> ((8 : Int32) &&& 31)).toInt8.toInt32)), (.int ((c1_ >>> ((0 : Int32) &&& 31)).toInt8.toInt32)), (.int ((c1_ >>> ((8 : Int32) &&& 31)).toInt8.toInt32)), (.int ((c2_ >>> ((0 : Int32) &&& 31)).toInt8.toInt32)), (.int ((c2_ >>> ((8 : Int32) &&& 31)).toInt8.toInt32)), (.int ((c3_ >>> ((0 : Int32) &&& 31)).toInt8.toInt32)), (.int ((c3_ >>> ((8 : Int32) &&& 31)).toInt8.toInt32)), (.int ((c4_ >>> ((0 : Int32) &&& 31)).toInt8.toInt32)), (.int ((c4_ >>> ((8 : Int32) &&& 31)).toInt8.toInt32)), (.int 0), (.int 0), (.int 0), (.int 0)] (.int 0))
 refine Ends.go (fun _ k => castTop (ef10_rii m b323 (4 : Int32) c4_) k) ?_
 obtain ⟨SCS, P5, SAD, SHI, SLO, SSF, RG3⟩ := id GF
 have K0 := Keep.refl h0 [b323]
 show Ends _ _ _ _ s₁ (mkF m 0 #[cr b323, ci 4, ci c4_] []) _ _ _
 obtain ⟨T359, X359, e359, st359⟩ := getS2 X0 hx hZ hown (host := "") (Or.inl (ow hw 44 rfl)) Via.refl e0 (SAD.ext O0.2) (g := (mkF m 0 #[cr b323, ci 4, ci c4_] [])) rfl (hb hby d10_0)
 refine Ends.go st359 ?_
 refine wiy (pc := 3) (pc' := 28) X359 hx hby d10_3 ((if0 _ _).trans (feq (by decide : ¬ ((1 : Int32) = (0 : Int32)))).2) (by decide) (by decide) ?_
 refine wilN X359 hx hby d10_28 rfl ?_
 refine wic X359 hx hby d10_29 ?_
 show Ends _ _ _ _ T359 (mkF m 30 #[cr b323, ci 4, ci c4_] [(.int 1), (.int 4)]) _ _ _
 refine .go (fun _ => XS.ishl X359.here hx rfl (hb hby d10_30) rfl) ?_
 refine wstN X359 hx hby d10_31 (l' := #[cr b323, ci 8, ci c4_]) rfl ?_
 refine walN X359 hx hby d10_32 rfl rfl ?_
 refine wilN X359 hx hby d10_33 rfl ?_
 refine wii X359 hx hby d10_34 (l' := #[cr b323, ci 9, ci c4_]) rfl rfl ?_
 show Ends _ _ _ _ T359 (mkF m 37 #[cr b323, ci 9, ci c4_] [(.int 8), (.ref b323)]) _ _ _
 refine wilN X359 hx hby d10_37 rfl ?_
 obtain ⟨T360, X360, e360, st360⟩ := getS2 X359 hx hZ hown (host := "") (Or.inl (ow hw 45 rfl)) Via.refl e359 (SHI.ext O0.2) (g := (mkF m 38 #[cr b323, ci 9, ci c4_] [(.int c4_), (.int 8), (.ref b323)])) rfl (hb hby d10_38)
 refine Ends.go st360 ?_
 refine .go (fun _ => XS.ishr X360.here hx rfl (hb hby d10_41) rfl) ?_
 refine .go (fun _ => XS.i2b X360.here hx rfl (hb hby d10_42) rfl) ?_
 obtain ⟨cl361, Ar361, q361, S361, M361, H361, G361⟩ := id PV_b323
 have hin361 := inb_of (j := (8 : Int32)) S361 ⟨by decide, by decide⟩
 obtain ⟨T361, h361, X361, e361, W361, st361⟩ := stB X360 hx hZ e360 Ar361 (j := (8 : Int32)) hin361 (g := (mkF m 43 #[cr b323, ci 9, ci c4_] [(.int ((c4_ >>> ((0 : Int32) &&& 31)).toInt8.toInt32)), (.int 8), (.ref b323)])) rfl rfl (hb hby d10_43)
 refine Ends.go st361 ?_
 have V361 : Arv Z h361 b323 k324 .byte (14 : Int32) [(.int ((c0_ >>> ((0 : Int32) &&& 31)).toInt8.toInt32)), (.int ((c0_ >>> ((8 : Int32) &&& 31)).toInt8.toInt32)), (.int ((c1_ >>> ((0 : Int32) &&& 31)).toInt8.toInt32)), (.int ((c1_ >>> ((8 : Int32) &&& 31)).toInt8.toInt32)), (.int ((c2_ >>> ((0 : Int32) &&& 31)).toInt8.toInt32)), (.int ((c2_ >>> ((8 : Int32) &&& 31)).toInt8.toInt32)), (.int ((c3_ >>> ((0 : Int32) &&& 31)).toInt8.toInt32)), (.int ((c3_ >>> ((8 : Int32) &&& 31)).toInt8.toInt32)), (.int (nar .byte ((c4_ >>> ((0 : Int32) &&& 31)).toInt8.toInt32))), (.int 0), (.int 0), (.int 0), (.int 0), (.int 0)] (.int 0) := Arv.set Ar361 q361 S361 M361 H361 G361 (fits_nar_byte _) W361 8 rfl (Nat.le_of_ble_eq_true rfl)
 rw [own_narb] at V361
 have K361 := K0.wr W361 (Or.inl (List.mem_of_getElem? (i := 0) rfl))
 have O361 := O0.wr W361 g_b323
 have N361 := Fr.snoc X361 N0 g_b323
 show Ends _ _ _ _ T361 (mkF m 44 #[cr b323, ci 9, ci c4_] []) _ _ _
 refine walN X361 hx hby d10_44 rfl rfl ?_
 refine wilN X361 hx hby d10_45 rfl ?_
 refine wilN X361 hx hby d10_46 rfl ?_
 obtain ⟨T362, X362, e362, st362⟩ := getS2 X361 hx hZ hown (host := "") (Or.inl (ow hw 46 rfl)) Via.refl e361 (SLO.ext O361.2) (g := (mkF m 47 #[cr b323, ci 9, ci c4_] [(.int c4_), (.int 9), (.ref b323)])) rfl (hb hby d10_47)
 refine Ends.go st362 ?_
 refine .go (fun _ => XS.ishr X362.here hx rfl (hb hby d10_50) rfl) ?_
 show Ends _ _ _ _ T362 (mkF m 51 #[cr b323, ci 9, ci c4_] [(.int (c4_ >>> ((8 : Int32) &&& 31))), (.int 9), (.ref b323)]) _ _ _
 refine .go (fun _ => XS.i2b X362.here hx rfl (hb hby d10_51) rfl) ?_
 obtain ⟨cl363, Ar363, q363, S363, M363, H363, G363⟩ := id V361
 have hin363 := inb_of (j := (9 : Int32)) S363 ⟨by decide, by decide⟩
 obtain ⟨T363, h363, X363, e363, W363, st363⟩ := stB X362 hx hZ e362 Ar363 (j := (9 : Int32)) hin363 (g := (mkF m 52 #[cr b323, ci 9, ci c4_] [(.int ((c4_ >>> ((8 : Int32) &&& 31)).toInt8.toInt32)), (.int 9), (.ref b323)])) rfl rfl (hb hby d10_52)
 refine Ends.go st363 ?_
 have V363 : Arv Z h363 b323 k324 .byte (14 : Int32) [(.int ((c0_ >>> ((0 : Int32) &&& 31)).toInt8.toInt32)), (.int ((c0_ >>> ((8 : Int32) &&& 31)).toInt8.toInt32)), (.int ((c1_ >>> ((0 : Int32) &&& 31)).toInt8.toInt32)), (.int ((c1_ >>> ((8 : Int32) &&& 31)).toInt8.toInt32)), (.int ((c2_ >>> ((0 : Int32) &&& 31)).toInt8.toInt32)), (.int ((c2_ >>> ((8 : Int32) &&& 31)).toInt8.toInt32)), (.int ((c3_ >>> ((0 : Int32) &&& 31)).toInt8.toInt32)), (.int ((c3_ >>> ((8 : Int32) &&& 31)).toInt8.toInt32)), (.int ((c4_ >>> ((0 : Int32) &&& 31)).toInt8.toInt32)), (.int (nar .byte ((c4_ >>> ((8 : Int32) &&& 31)).toInt8.toInt32))), (.int 0), (.int 0), (.int 0), (.int 0)] (.int 0) := Arv.set Ar363 q363 S363 M363 H363 G363 (fits_nar_byte _) W363 9 rfl (Nat.le_of_ble_eq_true rfl)
 rw [own_narb] at V363
 have K363 := K361.wr W363 (Or.inl (List.mem_of_getElem? (i := 0) rfl))
 have O363 := O361.wr W363 g_b323
 have N363 := Fr.snoc X363 N361 g_b323
 refine Ends.retV X363 hx Bd.notSynchronized Bd.returns (hb hby d10_53) (by decide) (by decide) ?_
 rw [e363]
 exact ⟨rfl, N363, K363, V363⟩

set_option maxRecDepth 65536 in
set_option maxHeartbeats 40000000 in
theorem rx10_366 (l : Launch) (Z : State) (a0 : Array Value) (hw : ∀ d ∈ tables_1, d.before a0 Z = true) (ws : List Jvm.Cond) (n0 : Nat) (h0 : Heap) (O0 : Old Z n0 h0) (G1 : Int32) (G3 : Value) (GF : GlobF Z G1 G3) (b323 : Addr) (c5_ : Int32) (k324 : ClassId) (c0_ : Int32) (c1_ : Int32) (c2_ : Int32) (c3_ : Int32) (c4_ : Int32) (PV_b323 : Arv Z h0 b323 k324 .byte (14 : Int32) [(.int ((c0_ >>> ((0 : Int32) &&& 31)).toInt8.toInt32)), (.int ((c0_ >>> ((8 : Int32) &&& 31)).toInt8.toInt32)), (.int ((c1_ >>> ((0 : Int32) &&& 31)).toInt8.toInt32)), (.int ((c1_ >>> ((8 : Int32) &&& 31)).toInt8.toInt32)), (.int ((c2_ >>> ((0 : Int32) &&& 31)).toInt8.toInt32)), (.int ((c2_ >>> ((8 : Int32) &&& 31)).toInt8.toInt32)), (.int ((c3_ >>> ((0 : Int32) &&& 31)).toInt8.toInt32)), (.int ((c3_ >>> ((8 : Int32) &&& 31)).toInt8.toInt32)), (.int ((c4_ >>> ((0 : Int32) &&& 31)).toInt8.toInt32)), (.int ((c4_ >>> ((8 : Int32) &&& 31)).toInt8.toInt32)), (.int 0), (.int 0), (.int 0), (.int 0)] (.int 0)) (g_b323 : n0 ≤ b323) :
  Meets1 l ym25 jdk_52_method_4_code 3 none ws ({ frames := 0, cells := 0, slots := 0, locals := 0 } : Room) #[(.ref b323), (.int 5), (.int c5_)] Z h0 (fun v h L => v = none ∧ Fr n0 L ∧ Keep h0 h [b323] ∧ Arv Z h b323 k324 .byte (14 : Int32) [(.int ((c0_ >>> ((0 : Int32) &&& 31)).toInt8.toInt32)), (.int ((c0_ >>> ((8 : Int32) &&& 31)).toInt8.toInt32)), (.int ((c1_ >>> ((0 : Int32) &&& 31)).toInt8.toInt32)), (.int ((c1_ >>> ((8 : Int32) &&& 31)).toInt8.toInt32)), (.int ((c2_ >>> ((0 : Int32) &&& 31)).toInt8.toInt32)), (.int ((c2_ >>> ((8 : Int32) &&& 31)).toInt8.toInt32)), (.int ((c3_ >>> ((0 : Int32) &&& 31)).toInt8.toInt32)), (.int ((c3_ >>> ((8 : Int32) &&& 31)).toInt8.toInt32)), (.int ((c4_ >>> ((0 : Int32) &&& 31)).toInt8.toInt32)), (.int ((c4_ >>> ((8 : Int32) &&& 31)).toInt8.toInt32)), (.int ((c5_ >>> ((0 : Int32) &&& 31)).toInt8.toInt32)), (.int ((c5_ >>> ((8 : Int32) &&& 31)).toInt8.toInt32)), (.int 0), (.int 0)] (.int 0)) := by
 refine MetFree.of_bodySF (plainFor_of_name pn10) hisR ?_
 intro p e s m args below meth c s₁ Bd hml0 hP hK
 obtain ⟨rfl, hZ, hh⟩ := hP
 have hx := Bd.exec
 have hby := Bd.bytes
 have hml : c.maxLocals = 3 := hml0
 have hown : s.vm.findClass "java/lang/StringUTF16" = some m.cls := findClass_of_methodNamed Bd.named
 have hnm := (name_of_methodNamed Bd.named Bd.method).1
 have X0 : Stand p l e ({ frames := 0, cells := 0, slots := 0, locals := 0 } : Room) s m #[(.ref b323), (.int 5), (.int c5_)] below meth c s₁ [] 0 0 := Stand.of_body Bd
 have e0 : s₁.heap = h0 := by rw [← hh, Bd.state]; rfl
 have N0 := Fr.nil n0
 have Z0 := own_old_le O0
 show Ends _ _ _ _ s₁ (entryFrame m #[(.ref b323), (.int 5), (.int c5_)] 3) ({ frames := 0, cells := 0, slots := 0, locals := 0 } : Room).cells ({ frames := 0, cells := 0, slots := 0, locals := 0 } : Room).slots (fun v h L => v = none ∧ Fr n0 L ∧ Keep h0 h [b323] ∧ Arv Z h b323 k324 .byte (14 : Int32) [(.int ((c0_ >>> ((0 : Int32) &&& 31)).toInt8.toInt32)), (.int ((c0_ >>> ((8 : Int32) &&& 31)).toInt8.toInt32)), (.int ((c1_ >>> ((0 : Int32) &&& 31)).toInt8.toInt32)), (.int ((c1_ >>> ((8 : Int32) &&& 31)).toInt8.toInt32)), (.int ((c2_ >>> ((0 : Int32) &&& 31)).toInt8.toInt32)), (.int ((c2_ >>> ((8 : Int32) &&& 31)).toInt8.toInt32)), (.int ((c3_ >>> ((0 : Int32) &&& 31)).toInt8.toInt32)), (.int ((c3_ >>> ((8 : Int32) &&& 31)).toInt8.toInt32)), (.int ((c4_ >>> ((0 : Int32) &&& 31)).toInt8.toInt32)), (.int ((c4_ >>> ((8 : Int32) &&& 31)).toInt8.toInt32)), (.int ((c5_ >>> ((0 : Int32) &&& 31)).toInt8.toInt32)), (.int ((c5_ >>> ((8 : Int32) &&& 31)).toInt8.toInt32)), (.int 0), (.int 0)] (.int 0))
 refine Ends.go (fun _ k => castTop (ef10_rii m b323 (5 : Int32) c5_) k) ?_
 obtain ⟨SCS, P5, SAD, SHI, SLO, SSF, RG3⟩ := id GF
 have K0 := Keep.refl h0 [b323]
 show Ends _ _ _ _ s₁ (mkF m 0 #[cr b323, ci 5, ci c5_] []) _ _ _
 obtain ⟨T367, X367, e367, st367⟩ := getS2 X0 hx hZ hown (host := "") (Or.inl (ow hw 44 rfl)) Via.refl e0 (SAD.ext O0.2) (g := (mkF m 0 #[cr b323, ci 5, ci c5_] [])) rfl (hb hby d10_0)
 refine Ends.go st367 ?_
 refine wiy (pc := 3) (pc' := 28) X367 hx hby d10_3 ((if0 _ _).trans (feq (by decide : ¬ ((1 : Int32) = (0 : Int32)))).2) (by decide) (by decide) ?_
 refine wilN X367 hx hby d10_28 rfl ?_
 refine wic X367 hx hby d10_29 ?_
 show Ends _ _ _ _ T367 (mkF m 30 #[cr b323, ci 5, ci c5_] [(.int 1), (.int 5)]) _ _ _
 refine .go (fun _ => XS.ishl X367.here hx rfl (hb hby d10_30) rfl) ?_
 refine wstN X367 hx hby d10_31 (l' := #[cr b323, ci 10, ci c5_]) rfl ?_
 refine walN X367 hx hby d10_32 rfl rfl ?_
 refine wilN X367 hx hby d10_33 rfl ?_
 refine wii X367 hx hby d10_34 (l' := #[cr b323, ci 11, ci c5_]) rfl rfl ?_
 show Ends _ _ _ _ T367 (mkF m 37 #[cr b323, ci 11, ci c5_] [(.int 10), (.ref b323)]) _ _ _
 refine wilN X367 hx hby d10_37 rfl ?_
 obtain ⟨T368, X368, e368, st368⟩ := getS2 X367 hx hZ hown (host := "") (Or.inl (ow hw 45 rfl)) Via.refl e367 (SHI.ext O0.2) (g := (mkF m 38 #[cr b323, ci 11, ci c5_] [(.int c5_), (.int 10), (.ref b323)])) rfl (hb hby d10_38)
 refine Ends.go st368 ?_
 refine .go (fun _ => XS.ishr X368.here hx rfl (hb hby d10_41) rfl) ?_
 refine .go (fun _ => XS.i2b X368.here hx rfl (hb hby d10_42) rfl) ?_
 obtain ⟨cl369, Ar369, q369, S369, M369, H369, G369⟩ := id PV_b323
 have hin369 := inb_of (j := (10 : Int32)) S369 ⟨by decide, by decide⟩
 obtain ⟨T369, h369, X369, e369, W369, st369⟩ := stB X368 hx hZ e368 Ar369 (j := (10 : Int32)) hin369 (g := (mkF m 43 #[cr b323, ci 11, ci c5_] [(.int ((c5_ >>> ((0 : Int32) &&& 31)).toInt8.toInt32)), (.int 10), (.ref b323)])) rfl rfl (hb hby d10_43)
 refine Ends.go st369 ?_
 have V369 : Arv Z h369 b323 k324 .byte (14 : Int32) [(.int ((c0_ >>> ((0 : Int32) &&& 31)).toInt8.toInt32)), (.int ((c0_ >>> ((8 : Int32) &&& 31)).toInt8.toInt32)), (.int ((c1_ >>> ((0 : Int32) &&& 31)).toInt8.toInt32)), (.int ((c1_ >>> ((8 : Int32) &&& 31)).toInt8.toInt32)), (.int ((c2_ >>> ((0 : Int32) &&& 31)).toInt8.toInt32)), (.int ((c2_ >>> ((8 : Int32) &&& 31)).toInt8.toInt32)), (.int ((c3_ >>> ((0 : Int32) &&& 31)).toInt8.toInt32)), (.int ((c3_ >>> ((8 : Int32) &&& 31)).toInt8.toInt32)), (.int ((c4_ >>> ((0 : Int32) &&& 31)).toInt8.toInt32)), (.int ((c4_ >>> ((8 : Int32) &&& 31)).toInt8.toInt32)), (.int (nar .byte ((c5_ >>> ((0 : Int32) &&& 31)).toInt8.toInt32))), (.int 0), (.int 0), (.int 0)] (.int 0) := Arv.set Ar369 q369 S369 M369 H369 G369 (fits_nar_byte _) W369 10 rfl (Nat.le_of_ble_eq_true rfl)
 rw [own_narb] at V369
 have K369 := K0.wr W369 (Or.inl (List.mem_of_getElem? (i := 0) rfl))
 have O369 := O0.wr W369 g_b323
 have N369 := Fr.snoc X369 N0 g_b323
 show Ends _ _ _ _ T369 (mkF m 44 #[cr b323, ci 11, ci c5_] []) _ _ _
 refine walN X369 hx hby d10_44 rfl rfl ?_
 refine wilN X369 hx hby d10_45 rfl ?_
 refine wilN X369 hx hby d10_46 rfl ?_
 obtain ⟨T370, X370, e370, st370⟩ := getS2 X369 hx hZ hown (host := "") (Or.inl (ow hw 46 rfl)) Via.refl e369 (SLO.ext O369.2) (g := (mkF m 47 #[cr b323, ci 11, ci c5_] [(.int c5_), (.int 11), (.ref b323)])) rfl (hb hby d10_47)
 refine Ends.go st370 ?_
 refine .go (fun _ => XS.ishr X370.here hx rfl (hb hby d10_50) rfl) ?_
 show Ends _ _ _ _ T370 (mkF m 51 #[cr b323, ci 11, ci c5_] [(.int (c5_ >>> ((8 : Int32) &&& 31))), (.int 11), (.ref b323)]) _ _ _
 refine .go (fun _ => XS.i2b X370.here hx rfl (hb hby d10_51) rfl) ?_
 obtain ⟨cl371, Ar371, q371, S371, M371, H371, G371⟩ := id V369
 have hin371 := inb_of (j := (11 : Int32)) S371 ⟨by decide, by decide⟩
 obtain ⟨T371, h371, X371, e371, W371, st371⟩ := stB X370 hx hZ e370 Ar371 (j := (11 : Int32)) hin371 (g := (mkF m 52 #[cr b323, ci 11, ci c5_] [(.int ((c5_ >>> ((8 : Int32) &&& 31)).toInt8.toInt32)), (.int 11), (.ref b323)])) rfl rfl (hb hby d10_52)
 refine Ends.go st371 ?_
 have V371 : Arv Z h371 b323 k324 .byte (14 : Int32) [(.int ((c0_ >>> ((0 : Int32) &&& 31)).toInt8.toInt32)), (.int ((c0_ >>> ((8 : Int32) &&& 31)).toInt8.toInt32)), (.int ((c1_ >>> ((0 : Int32) &&& 31)).toInt8.toInt32)), (.int ((c1_ >>> ((8 : Int32) &&& 31)).toInt8.toInt32)), (.int ((c2_ >>> ((0 : Int32) &&& 31)).toInt8.toInt32)), (.int ((c2_ >>> ((8 : Int32) &&& 31)).toInt8.toInt32)), (.int ((c3_ >>> ((0 : Int32) &&& 31)).toInt8.toInt32)), (.int ((c3_ >>> ((8 : Int32) &&& 31)).toInt8.toInt32)), (.int ((c4_ >>> ((0 : Int32) &&& 31)).toInt8.toInt32)), (.int ((c4_ >>> ((8 : Int32) &&& 31)).toInt8.toInt32)), (.int ((c5_ >>> ((0 : Int32) &&& 31)).toInt8.toInt32)), (.int (nar .byte ((c5_ >>> ((8 : Int32) &&& 31)).toInt8.toInt32))), (.int 0), (.int 0)] (.int 0) := Arv.set Ar371 q371 S371 M371 H371 G371 (fits_nar_byte _) W371 11 rfl (Nat.le_of_ble_eq_true rfl)
 rw [own_narb] at V371
 have K371 := K369.wr W371 (Or.inl (List.mem_of_getElem? (i := 0) rfl))
 have O371 := O369.wr W371 g_b323
 have N371 := Fr.snoc X371 N369 g_b323
 refine Ends.retV X371 hx Bd.notSynchronized Bd.returns (hb hby d10_53) (by decide) (by decide) ?_
 rw [e371]
 exact ⟨rfl, N371, K371, V371⟩

set_option maxRecDepth 65536 in
set_option maxHeartbeats 40000000 in
theorem rx10_374 (l : Launch) (Z : State) (a0 : Array Value) (hw : ∀ d ∈ tables_1, d.before a0 Z = true) (ws : List Jvm.Cond) (n0 : Nat) (h0 : Heap) (O0 : Old Z n0 h0) (G1 : Int32) (G3 : Value) (GF : GlobF Z G1 G3) (b323 : Addr) (c6_ : Int32) (k324 : ClassId) (c0_ : Int32) (c1_ : Int32) (c2_ : Int32) (c3_ : Int32) (c4_ : Int32) (c5_ : Int32) (PV_b323 : Arv Z h0 b323 k324 .byte (14 : Int32) [(.int ((c0_ >>> ((0 : Int32) &&& 31)).toInt8.toInt32)), (.int ((c0_ >>> ((8 : Int32) &&& 31)).toInt8.toInt32)), (.int ((c1_ >>> ((0 : Int32) &&& 31)).toInt8.toInt32)), (.int ((c1_ >>> ((8 : Int32) &&& 31)).toInt8.toInt32)), (.int ((c2_ >>> ((0 : Int32) &&& 31)).toInt8.toInt32)), (.int ((c2_ >>> ((8 : Int32) &&& 31)).toInt8.toInt32)), (.int ((c3_ >>> ((0 : Int32) &&& 31)).toInt8.toInt32)), (.int ((c3_ >>> ((8 : Int32) &&& 31)).toInt8.toInt32)), (.int ((c4_ >>> ((0 : Int32) &&& 31)).toInt8.toInt32)), (.int ((c4_ >>> ((8 : Int32) &&& 31)).toInt8.toInt32)), (.int ((c5_ >>> ((0 : Int32) &&& 31)).toInt8.toInt32)), (.int ((c5_ >>> ((8 : Int32) &&& 31)).toInt8.toInt32)), (.int 0), (.int 0)] (.int 0)) (g_b323 : n0 ≤ b323) :
  Meets1 l ym25 jdk_52_method_4_code 3 none ws ({ frames := 0, cells := 0, slots := 0, locals := 0 } : Room) #[(.ref b323), (.int 6), (.int c6_)] Z h0 (fun v h L => v = none ∧ Fr n0 L ∧ Keep h0 h [b323] ∧ Arv Z h b323 k324 .byte (14 : Int32) [(.int ((c0_ >>> ((0 : Int32) &&& 31)).toInt8.toInt32)), (.int ((c0_ >>> ((8 : Int32) &&& 31)).toInt8.toInt32)), (.int ((c1_ >>> ((0 : Int32) &&& 31)).toInt8.toInt32)), (.int ((c1_ >>> ((8 : Int32) &&& 31)).toInt8.toInt32)), (.int ((c2_ >>> ((0 : Int32) &&& 31)).toInt8.toInt32)), (.int ((c2_ >>> ((8 : Int32) &&& 31)).toInt8.toInt32)), (.int ((c3_ >>> ((0 : Int32) &&& 31)).toInt8.toInt32)), (.int ((c3_ >>> ((8 : Int32) &&& 31)).toInt8.toInt32)), (.int ((c4_ >>> ((0 : Int32) &&& 31)).toInt8.toInt32)), (.int ((c4_ >>> ((8 : Int32) &&& 31)).toInt8.toInt32)), (.int ((c5_ >>> ((0 : Int32) &&& 31)).toInt8.toInt32)), (.int ((c5_ >>> ((8 : Int32) &&& 31)).toInt8.toInt32)), (.int ((c6_ >>> ((0 : Int32) &&& 31)).toInt8.toInt32)), (.int ((c6_ >>> ((8 : Int32) &&& 31)).toInt8.toInt32))] (.int 0)) := by
 refine MetFree.of_bodySF (plainFor_of_name pn10) hisR ?_
 intro p e s m args below meth c s₁ Bd hml0 hP hK
 obtain ⟨rfl, hZ, hh⟩ := hP
 have hx := Bd.exec
 have hby := Bd.bytes
 have hml : c.maxLocals = 3 := hml0
 have hown : s.vm.findClass "java/lang/StringUTF16" = some m.cls := findClass_of_methodNamed Bd.named
 have hnm := (name_of_methodNamed Bd.named Bd.method).1
 have X0 : Stand p l e ({ frames := 0, cells := 0, slots := 0, locals := 0 } : Room) s m #[(.ref b323), (.int 6), (.int c6_)] below meth c s₁ [] 0 0 := Stand.of_body Bd
 have e0 : s₁.heap = h0 := by rw [← hh, Bd.state]; rfl
 have N0 := Fr.nil n0
 have Z0 := own_old_le O0
 show Ends _ _ _ _ s₁ (entryFrame m #[(.ref b323), (.int 6), (.int c6_)] 3) ({ frames := 0, cells := 0, slots := 0, locals := 0 } : Room).cells ({ frames := 0, cells := 0, slots := 0, locals := 0 } : Room).slots (fun v h L => v = none ∧ Fr n0 L ∧ Keep h0 h [b323] ∧ Arv Z h b323 k324 .byte (14 : Int32) [(.int ((c0_ >>> ((0 : Int32) &&& 31)).toInt8.toInt32)), (.int ((c0_ >>> ((8 : Int32) &&& 31)).toInt8.toInt32)), (.int ((c1_ >>> ((0 : Int32) &&& 31)).toInt8.toInt32)), (.int ((c1_ >>> ((8 : Int32) &&& 31)).toInt8.toInt32)), (.int ((c2_ >>> ((0 : Int32) &&& 31)).toInt8.toInt32)), (.int ((c2_ >>> ((8 : Int32) &&& 31)).toInt8.toInt32)), (.int ((c3_ >>> ((0 : Int32) &&& 31)).toInt8.toInt32)), (.int ((c3_ >>> ((8 : Int32) &&& 31)).toInt8.toInt32)), (.int ((c4_ >>> ((0 : Int32) &&& 31)).toInt8.toInt32)), (.int ((c4_ >>> ((8 : Int32) &&& 31)).toInt8.toInt32)), (.int ((c5_ >>> ((0 : Int32) &&& 31)).toInt8.toInt32)), (.int ((c5_ >>> ((8 : Int32) &&& 31)).toInt8.toInt32)), (.int ((c6_ >>> ((0 : Int32) &&& 31)).toInt8.toInt32)), (.int ((c6_ >>> ((8 : Int32) &&& 31)).toInt8.toInt32))] (.int 0))
 refine Ends.go (fun _ k => castTop (ef10_rii m b323 (6 : Int32) c6_) k) ?_
 obtain ⟨SCS, P5, SAD, SHI, SLO, SSF, RG3⟩ := id GF
 have K0 := Keep.refl h0 [b323]
 show Ends _ _ _ _ s₁ (mkF m 0 #[cr b323, ci 6, ci c6_] []) _ _ _
 obtain ⟨T375, X375, e375, st375⟩ := getS2 X0 hx hZ hown (host := "") (Or.inl (ow hw 44 rfl)) Via.refl e0 (SAD.ext O0.2) (g := (mkF m 0 #[cr b323, ci 6, ci c6_] [])) rfl (hb hby d10_0)
 refine Ends.go st375 ?_
 refine wiy (pc := 3) (pc' := 28) X375 hx hby d10_3 ((if0 _ _).trans (feq (by decide : ¬ ((1 : Int32) = (0 : Int32)))).2) (by decide) (by decide) ?_
 refine wilN X375 hx hby d10_28 rfl ?_
 refine wic X375 hx hby d10_29 ?_
 show Ends _ _ _ _ T375 (mkF m 30 #[cr b323, ci 6, ci c6_] [(.int 1), (.int 6)]) _ _ _
 refine .go (fun _ => XS.ishl X375.here hx rfl (hb hby d10_30) rfl) ?_
 refine wstN X375 hx hby d10_31 (l' := #[cr b323, ci 12, ci c6_]) rfl ?_
 refine walN X375 hx hby d10_32 rfl rfl ?_
 refine wilN X375 hx hby d10_33 rfl ?_
 refine wii X375 hx hby d10_34 (l' := #[cr b323, ci 13, ci c6_]) rfl rfl ?_
 show Ends _ _ _ _ T375 (mkF m 37 #[cr b323, ci 13, ci c6_] [(.int 12), (.ref b323)]) _ _ _
 refine wilN X375 hx hby d10_37 rfl ?_
 obtain ⟨T376, X376, e376, st376⟩ := getS2 X375 hx hZ hown (host := "") (Or.inl (ow hw 45 rfl)) Via.refl e375 (SHI.ext O0.2) (g := (mkF m 38 #[cr b323, ci 13, ci c6_] [(.int c6_), (.int 12), (.ref b323)])) rfl (hb hby d10_38)
 refine Ends.go st376 ?_
 refine .go (fun _ => XS.ishr X376.here hx rfl (hb hby d10_41) rfl) ?_
 refine .go (fun _ => XS.i2b X376.here hx rfl (hb hby d10_42) rfl) ?_
 obtain ⟨cl377, Ar377, q377, S377, M377, H377, G377⟩ := id PV_b323
 have hin377 := inb_of (j := (12 : Int32)) S377 ⟨by decide, by decide⟩
 obtain ⟨T377, h377, X377, e377, W377, st377⟩ := stB X376 hx hZ e376 Ar377 (j := (12 : Int32)) hin377 (g := (mkF m 43 #[cr b323, ci 13, ci c6_] [(.int ((c6_ >>> ((0 : Int32) &&& 31)).toInt8.toInt32)), (.int 12), (.ref b323)])) rfl rfl (hb hby d10_43)
 refine Ends.go st377 ?_
 have V377 : Arv Z h377 b323 k324 .byte (14 : Int32) [(.int ((c0_ >>> ((0 : Int32) &&& 31)).toInt8.toInt32)), (.int ((c0_ >>> ((8 : Int32) &&& 31)).toInt8.toInt32)), (.int ((c1_ >>> ((0 : Int32) &&& 31)).toInt8.toInt32)), (.int ((c1_ >>> ((8 : Int32) &&& 31)).toInt8.toInt32)), (.int ((c2_ >>> ((0 : Int32) &&& 31)).toInt8.toInt32)), (.int ((c2_ >>> ((8 : Int32) &&& 31)).toInt8.toInt32)), (.int ((c3_ >>> ((0 : Int32) &&& 31)).toInt8.toInt32)), (.int ((c3_ >>> ((8 : Int32) &&& 31)).toInt8.toInt32)), (.int ((c4_ >>> ((0 : Int32) &&& 31)).toInt8.toInt32)), (.int ((c4_ >>> ((8 : Int32) &&& 31)).toInt8.toInt32)), (.int ((c5_ >>> ((0 : Int32) &&& 31)).toInt8.toInt32)), (.int ((c5_ >>> ((8 : Int32) &&& 31)).toInt8.toInt32)), (.int (nar .byte ((c6_ >>> ((0 : Int32) &&& 31)).toInt8.toInt32))), (.int 0)] (.int 0) := Arv.set Ar377 q377 S377 M377 H377 G377 (fits_nar_byte _) W377 12 rfl (Nat.le_of_ble_eq_true rfl)
 rw [own_narb] at V377
 have K377 := K0.wr W377 (Or.inl (List.mem_of_getElem? (i := 0) rfl))
 have O377 := O0.wr W377 g_b323
 have N377 := Fr.snoc X377 N0 g_b323
 show Ends _ _ _ _ T377 (mkF m 44 #[cr b323, ci 13, ci c6_] []) _ _ _
 refine walN X377 hx hby d10_44 rfl rfl ?_
 refine wilN X377 hx hby d10_45 rfl ?_
 refine wilN X377 hx hby d10_46 rfl ?_
 obtain ⟨T378, X378, e378, st378⟩ := getS2 X377 hx hZ hown (host := "") (Or.inl (ow hw 46 rfl)) Via.refl e377 (SLO.ext O377.2) (g := (mkF m 47 #[cr b323, ci 13, ci c6_] [(.int c6_), (.int 13), (.ref b323)])) rfl (hb hby d10_47)
 refine Ends.go st378 ?_
 refine .go (fun _ => XS.ishr X378.here hx rfl (hb hby d10_50) rfl) ?_
 show Ends _ _ _ _ T378 (mkF m 51 #[cr b323, ci 13, ci c6_] [(.int (c6_ >>> ((8 : Int32) &&& 31))), (.int 13), (.ref b323)]) _ _ _
 refine .go (fun _ => XS.i2b X378.here hx rfl (hb hby d10_51) rfl) ?_
 obtain ⟨cl379, Ar379, q379, S379, M379, H379, G379⟩ := id V377
 have hin379 := inb_of (j := (13 : Int32)) S379 ⟨by decide, by decide⟩
 obtain ⟨T379, h379, X379, e379, W379, st379⟩ := stB X378 hx hZ e378 Ar379 (j := (13 : Int32)) hin379 (g := (mkF m 52 #[cr b323, ci 13, ci c6_] [(.int ((c6_ >>> ((8 : Int32) &&& 31)).toInt8.toInt32)), (.int 13), (.ref b323)])) rfl rfl (hb hby d10_52)
 refine Ends.go st379 ?_
 have V379 : Arv Z h379 b323 k324 .byte (14 : Int32) [(.int ((c0_ >>> ((0 : Int32) &&& 31)).toInt8.toInt32)), (.int ((c0_ >>> ((8 : Int32) &&& 31)).toInt8.toInt32)), (.int ((c1_ >>> ((0 : Int32) &&& 31)).toInt8.toInt32)), (.int ((c1_ >>> ((8 : Int32) &&& 31)).toInt8.toInt32)), (.int ((c2_ >>> ((0 : Int32) &&& 31)).toInt8.toInt32)), (.int ((c2_ >>> ((8 : Int32) &&& 31)).toInt8.toInt32)), (.int ((c3_ >>> ((0 : Int32) &&& 31)).toInt8.toInt32)), (.int ((c3_ >>> ((8 : Int32) &&& 31)).toInt8.toInt32)), (.int ((c4_ >>> ((0 : Int32) &&& 31)).toInt8.toInt32)), (.int ((c4_ >>> ((8 : Int32) &&& 31)).toInt8.toInt32)), (.int ((c5_ >>> ((0 : Int32) &&& 31)).toInt8.toInt32)), (.int ((c5_ >>> ((8 : Int32) &&& 31)).toInt8.toInt32)), (.int ((c6_ >>> ((0 : Int32) &&& 31)).toInt8.toInt32)), (.int (nar .byte ((c6_ >>> ((8 : Int32) &&& 31)).toInt8.toInt32)))] (.int 0) := Arv.set Ar379 q379 S379 M379 H379 G379 (fits_nar_byte _) W379 13 rfl (Nat.le_of_ble_eq_true rfl)
 rw [own_narb] at V379
 have K379 := K377.wr W379 (Or.inl (List.mem_of_getElem? (i := 0) rfl))
 have O379 := O377.wr W379 g_b323
 have N379 := Fr.snoc X379 N377 g_b323
 refine Ends.retV X379 hx Bd.notSynchronized Bd.returns (hb hby d10_53) (by decide) (by decide) ?_
 rw [e379]
 exact ⟨rfl, N379, K379, V379⟩

theorem d7_0 : decode jdk_52_method_14_code 0 = .ok (.iload_n 2, 1) := by decide +kernel
theorem d7_1 : decode jdk_52_method_14_code 1 = .ok (.invokestatic 107, 3) := by decide +kernel
theorem d7_4 : decode jdk_52_method_14_code 4 = .ok (.astore_n 3, 1) := by decide +kernel
theorem d7_5 : decode jdk_52_method_14_code 5 = .ok (.iconst 0, 1) := by decide +kernel
theorem d7_6 : decode jdk_52_method_14_code 6 = .ok (.istore 4, 2) := by decide +kernel
theorem d7_8 : decode jdk_52_method_14_code 8 = .ok (.iload 4, 2) := by decide +kernel
theorem d7_10 : decode jdk_52_method_14_code 10 = .ok (.iload_n 2, 1) := by decide +kernel
theorem d7_11 : decode jdk_52_method_14_code 11 = .ok (.if_icmp .ge 21, 3) := by decide +kernel
theorem d7_14 : decode jdk_52_method_14_code 14 = .ok (.aload_n 3, 1) := by decide +kernel
theorem d7_15 : decode jdk_52_method_14_code 15 = .ok (.iload 4, 2) := by decide +kernel
theorem d7_17 : decode jdk_52_method_14_code 17 = .ok (.aload_n 0, 1) := by decide +kernel
theorem d7_18 : decode jdk_52_method_14_code 18 = .ok (.iload_n 1, 1) := by decide +kernel
theorem d7_19 : decode jdk_52_method_14_code 19 = .ok (.caload, 1) := by decide +kernel
theorem d7_20 : decode jdk_52_method_14_code 20 = .ok (.invokestatic 111, 3) := by decide +kernel
theorem d7_23 : decode jdk_52_method_14_code 23 = .ok (.iinc 1 1, 3) := by decide +kernel
theorem d7_26 : decode jdk_52_method_14_code 26 = .ok (.iinc 4 1, 3) := by decide +kernel
theorem d7_29 : decode jdk_52_method_14_code 29 = .ok (.goto (-21), 3) := by decide +kernel
theorem d7_32 : decode jdk_52_method_14_code 32 = .ok (.aload_n 3, 1) := by decide +kernel
theorem d7_33 : decode jdk_52_method_14_code 33 = .ok (.areturn, 1) := by decide +kernel
theorem pn7 : plainName "java/lang/StringUTF16" = true := by first | (simp [plainName, overriddenIn]; done) | decide +kernel
theorem ef7_rii (m : MethodId) (x0 : Addr) (x1 : Int32) (x2 : Int32) : entryFrame m #[(.ref x0), (.int x1), (.int x2)] 5 = mkF m 0 #[.val (.ref x0), .val (.int x1), .val (.int x2), .unset, .unset] [] := by first | (simp [entryFrame, mkF, argsToLocals, Value.category]; done) | rfl
set_option maxRecDepth 65536 in
set_option maxHeartbeats 40000000 in
theorem rx7_317 (l : Launch) (Z : State) (a0 : Array Value) (hw : ∀ d ∈ tables_1, d.before a0 Z = true) (ws : List Jvm.Cond) (n0 : Nat) (h0 : Heap) (O0 : Old Z n0 h0) (G1 : Int32) (G3 : Value) (GF : GlobF Z G1 G3) (x10 : Addr) (kx10 : ClassId) (c0_ : Int32) (c1_ : Int32) (c2_ : Int32) (c3_ : Int32) (c4_ : Int32) (c5_ : Int32) (c6_ : Int32) (PV_x10 : Arv Z h0 x10 kx10 .char (7 : Int32) [(.int c0_), (.int c1_), (.int c2_), (.int c3_), (.int c4_), (.int c5_), (.int c6_)] (.int 0)) :
  Meets1 l ym26 jdk_52_method_14_code 5 (some (.array .byte)) ws ({ frames := 2, cells := 1, slots := 14, locals := 24 } : Room) #[(.ref x10), (.int 0), (.int 7)] Z h0 (fun v h L => ∃ (b323 : Addr) (k324 : ClassId), v = some (.ref b323) ∧ Fr n0 L ∧ Keep h0 h [] ∧ h0.size ≤ b323 ∧ Arv Z h b323 k324 .byte (14 : Int32) [(.int ((c0_ >>> ((0 : Int32) &&& 31)).toInt8.toInt32)), (.int ((c0_ >>> ((8 : Int32) &&& 31)).toInt8.toInt32)), (.int ((c1_ >>> ((0 : Int32) &&& 31)).toInt8.toInt32)), (.int ((c1_ >>> ((8 : Int32) &&& 31)).toInt8.toInt32)), (.int ((c2_ >>> ((0 : Int32) &&& 31)).toInt8.toInt32)), (.int ((c2_ >>> ((8 : Int32) &&& 31)).toInt8.toInt32)), (.int ((c3_ >>> ((0 : Int32) &&& 31)).toInt8.toInt32)), (.int ((c3_ >>> ((8 : Int32) &&& 31)).toInt8.toInt32)), (.int ((c4_ >>> ((0 : Int32) &&& 31)).toInt8.toInt32)), (.int ((c4_ >>> ((8 : Int32) &&& 31)).toInt8.toInt32)), (.int ((c5_ >>> ((0 : Int32) &&& 31)).toInt8.toInt32)), (.int ((c5_ >>> ((8 : Int32) &&& 31)).toInt8.toInt32)), (.int ((c6_ >>> ((0 : Int32) &&& 31)).toInt8.toInt32)), (.int ((c6_ >>> ((8 : Int32) &&& 31)).toInt8.toInt32))] (.int 0)) := by
 refine MetFree.of_bodySF (plainFor_of_name pn7) hisR ?_
 intro p e s m args below meth c s₁ Bd hml0 hP hK
 obtain ⟨rfl, hZ, hh⟩ := hP
 have hx := Bd.exec
 have hby := Bd.bytes
 have hml : c.maxLocals = 5 := hml0
 have hown : s.vm.findClass "java/lang/StringUTF16" = some m.cls := findClass_of_methodNamed Bd.named
 have hnm := (name_of_methodNamed Bd.named Bd.method).1
 have X0 : Stand p l e ({ frames := 2, cells := 1, slots := 14, locals := 24 } : Room) s m #[(.ref x10), (.int 0), (.int 7)] below meth c s₁ [] 0 0 := Stand.of_body Bd
 have e0 : s₁.heap = h0 := by rw [← hh, Bd.state]; rfl
 have N0 := Fr.nil n0
 have Z0 := own_old_le O0
 show Ends _ _ _ _ s₁ (entryFrame m #[(.ref x10), (.int 0), (.int 7)] 5) ({ frames := 2, cells := 1, slots := 14, locals := 24 } : Room).cells ({ frames := 2, cells := 1, slots := 14, locals := 24 } : Room).slots (fun v h L => ∃ (b323 : Addr) (k324 : ClassId), v = some (.ref b323) ∧ Fr n0 L ∧ Keep h0 h [] ∧ h0.size ≤ b323 ∧ Arv Z h b323 k324 .byte (14 : Int32) [(.int ((c0_ >>> ((0 : Int32) &&& 31)).toInt8.toInt32)), (.int ((c0_ >>> ((8 : Int32) &&& 31)).toInt8.toInt32)), (.int ((c1_ >>> ((0 : Int32) &&& 31)).toInt8.toInt32)), (.int ((c1_ >>> ((8 : Int32) &&& 31)).toInt8.toInt32)), (.int ((c2_ >>> ((0 : Int32) &&& 31)).toInt8.toInt32)), (.int ((c2_ >>> ((8 : Int32) &&& 31)).toInt8.toInt32)), (.int ((c3_ >>> ((0 : Int32) &&& 31)).toInt8.toInt32)), (.int ((c3_ >>> ((8 : Int32) &&& 31)).toInt8.toInt32)), (.int ((c4_ >>> ((0 : Int32) &&& 31)).toInt8.toInt32)), (.int ((c4_ >>> ((8 : Int32) &&& 31)).toInt8.toInt32)), (.int ((c5_ >>> ((0 : Int32) &&& 31)).toInt8.toInt32)), (.int ((c5_ >>> ((8 : Int32) &&& 31)).toInt8.toInt32)), (.int ((c6_ >>> ((0 : Int32) &&& 31)).toInt8.toInt32)), (.int ((c6_ >>> ((8 : Int32) &&& 31)).toInt8.toInt32))] (.int 0))
 refine Ends.go (fun _ k => castTop (ef7_rii m x10 (0 : Int32) (7 : Int32)) k) ?_
 obtain ⟨SCS, P5, SAD, SHI, SLO, SSF, RG3⟩ := id GF
 have K0 := Keep.refl h0 []
 show Ends _ _ _ _ s₁ (mkF m 0 #[cr x10, ci 0, ci 7, cu, cu] []) _ _ _
 refine wilN X0 hx hby d7_0 rfl ?_
 obtain ⟨_, _, ⟨T322, L322, k322, n322⟩, -, X322, ⟨Lc322, hQ322, l322, y322, z322⟩, st322⟩ := Jvm.LawKit.callS X0 hx (y := ym24) hown (mvT hZ (ow hw 34 rfl)) (mvT hZ (ow hw 35 rfl)) (mvT hZ (ow hw 25 rfl)) (mvT hZ (ow hw 36 rfl)) (by decide) (own_backOf (W := 0) (rx8_318 l Z a0 hw [] n0 h0 O0   ) hZ (ow hw 36 rfl) (ow hw 25 rfl) (by decide) (by decide)) (g := (mkF m 1 #[cr x10, ci 0, ci 7, cu, cu] [(.int 7)])) rfl (by rw [hml]; rfl) (argsL := [(.int 7)]) (rest := []) (lenOf pdx_20 rfl) rfl (by show 2 * 0 + _ ≤ _; exact Nat.le_of_eq rfl) (hb hby d7_1) (fun _ _ => ⟨rfl, e0, (by decide : 0 + 1 ≤ _), (by decide : 0 + 14 ≤ _)⟩)
 dsimp only [Pt.U, Pt.locs, Pt.cells, Pt.slots] at X322 l322 y322 z322 st322 hQ322
 subst l322 y322 z322
 obtain ⟨b323, k324, rfl, N322q, K322c, hb322_b323, Y322_0⟩ := hQ322
 have N322 := Fr.app N0 N322q
 refine Ends.go st322 ?_
 have g_b323 : n0 ≤ b323 := Nat.le_trans (own_old_le O0) hb322_b323
 have sz_b323 : h0.size ≤ b323 := Nat.le_trans K0.1 hb322_b323
 obtain ⟨h322, e322⟩ : ∃ z, T322.heap = z := ⟨_, rfl⟩
 rw [e322] at K322c Y322_0
 have K322 := K0.trans K322c all0
 have O322 := O0.keep K322c all0
 refine wasN X322 hx hby d7_4 (l' := #[cr x10, ci 0, ci 7, cr b323, cu]) rfl rfl ?_
 refine wic X322 hx hby d7_5 ?_
 show Ends _ _ _ _ T322 (mkF m 6 #[cr x10, ci 0, ci 7, cr b323, cu] [(.int 0)]) _ _ _
 refine wst X322 hx hby d7_6 (l' := #[cr x10, ci 0, ci 7, cr b323, ci 0]) rfl ?_
 refine wil X322 hx hby d7_8 rfl ?_
 refine wilN X322 hx hby d7_10 rfl ?_
 refine wcn X322 hx hby d7_11 (tlt (by decide : (0 : Int32) < (7 : Int32))).2.1 ?_
 refine walN X322 hx hby d7_14 rfl rfl ?_
 show Ends _ _ _ _ T322 (mkF m 15 #[cr x10, ci 0, ci 7, cr b323, ci 0] [(.ref b323)]) _ _ _
 refine wil X322 hx hby d7_15 rfl ?_
 refine walN X322 hx hby d7_17 rfl rfl ?_
 refine wilN X322 hx hby d7_18 rfl ?_
 obtain ⟨cl325, Ar325, q325, S325, M325, H325, G325⟩ := id (PV_x10.keep K322c nin0)
 have hin325 := inb_of (j := (0 : Int32)) S325 ⟨by decide, by decide⟩
 refine Ends.go (X322.caload hx (j := (0 : Int32)) (v := (.int c0_)) (by rw [e322]; exact Ar325.1) (State.isArrayOf_alike hZ.alike Ar325.2.1) Ar325.2.2 hin325 (H325.at hin325 rfl) (g := (mkF m 19 #[cr x10, ci 0, ci 7, cr b323, ci 0] [(.int 0), (.ref x10), (.int 0), (.ref b323)])) rfl rfl (hb hby d7_19)) ?_
 obtain ⟨_, _, ⟨T332, L332, k332, n332⟩, -, X332, ⟨Lc332, hQ332, l332, y332, z332⟩, st332⟩ := Jvm.LawKit.callS X322 hx (y := ym25) hown (mvT hZ (ow hw 41 rfl)) (mvT hZ (ow hw 42 rfl)) (mvT hZ (ow hw 25 rfl)) (mvT hZ (ow hw 43 rfl)) (by decide) (own_backOf (W := 0) (rx10_326 l Z a0 hw [] n0 h322 O322 G1 G3 GF b323 c0_ k324 Y322_0 g_b323) hZ (ow hw 43 rfl) (ow hw 25 rfl) (by decide) (by decide)) (g := (mkF m 20 #[cr x10, ci 0, ci 7, cr b323, ci 0] [(.int c0_), (.int 0), (.ref b323)])) rfl (by rw [hml]; rfl) (argsL := [(.ref b323), (.int 0), (.int c0_)]) (rest := []) (lenOf pdx_21 rfl) rfl (by show 2 * 0 + _ ≤ _; exact Nat.le_of_eq rfl) (hb hby d7_20) (fun _ _ => ⟨rfl, e322, (by decide : 1 + 0 ≤ _), (by decide : 14 + 0 ≤ _)⟩)
 dsimp only [Pt.U, Pt.locs, Pt.cells, Pt.slots] at X332 l332 y332 z332 st332 hQ332
 subst l332 y332 z332
 obtain ⟨rfl, N332q, K332c, Y332_0⟩ := hQ332
 have N332 := Fr.app N322 N332q
 refine Ends.go st332 ?_
 obtain ⟨h332, e332⟩ : ∃ z, T332.heap = z := ⟨_, rfl⟩
 rw [e332] at K332c Y332_0
 have K332 := K322.trans K332c (allS (Or.inr sz_b323) all0)
 have O332 := O322.keep K332c (allS g_b323 all0)
 show Ends _ _ _ _ T332 (mkF m 23 #[cr x10, ci 0, ci 7, cr b323, ci 0] []) _ _ _
 refine wii X332 hx hby d7_23 (l' := #[cr x10, ci 1, ci 7, cr b323, ci 0]) rfl rfl ?_
 refine wii X332 hx hby d7_26 (l' := #[cr x10, ci 1, ci 7, cr b323, ci 1]) rfl rfl ?_
 refine wgo (pc := 29) (pc' := 8) X332 hx hby d7_29 (by decide) (by decide) ?_
 refine wil X332 hx hby d7_8 rfl ?_
 refine wilN X332 hx hby d7_10 rfl ?_
 show Ends _ _ _ _ T332 (mkF m 11 #[cr x10, ci 1, ci 7, cr b323, ci 1] [(.int 7), (.int 1)]) _ _ _
 refine wcn X332 hx hby d7_11 (tlt (by decide : (1 : Int32) < (7 : Int32))).2.1 ?_
 refine walN X332 hx hby d7_14 rfl rfl ?_
 refine wil X332 hx hby d7_15 rfl ?_
 refine walN X332 hx hby d7_17 rfl rfl ?_
 refine wilN X332 hx hby d7_18 rfl ?_
 show Ends _ _ _ _ T332 (mkF m 19 #[cr x10, ci 1, ci 7, cr b323, ci 1] [(.int 1), (.ref x10), (.int 1), (.ref b323)]) _ _ _
 obtain ⟨cl333, Ar333, q333, S333, M333, H333, G333⟩ := id ((PV_x10.keep K322c nin0).keep K332c (ninS (Nat.ne_of_lt (Nat.lt_of_lt_of_le PV_x10.lt sz_b323)) nin0))
 have hin333 := inb_of (j := (1 : Int32)) S333 ⟨by decide, by decide⟩
 refine Ends.go (X332.caload hx (j := (1 : Int32)) (v := (.int c1_)) (by rw [e332]; exact Ar333.1) (State.isArrayOf_alike hZ.alike Ar333.2.1) Ar333.2.2 hin333 (H333.at hin333 rfl) (g := (mkF m 19 #[cr x10, ci 1, ci 7, cr b323, ci 1] [(.int 1), (.ref x10), (.int 1), (.ref b323)])) rfl rfl (hb hby d7_19)) ?_
 obtain ⟨_, _, ⟨T340, L340, k340, n340⟩, -, X340, ⟨Lc340, hQ340, l340, y340, z340⟩, st340⟩ := Jvm.LawKit.callS X332 hx (y := ym25) hown (mvT hZ (ow hw 41 rfl)) (mvT hZ (ow hw 42 rfl)) (mvT hZ (ow hw 25 rfl)) (mvT hZ (ow hw 43 rfl)) (by decide) (own_backOf (W := 0) (rx10_334 l Z a0 hw [] n0 h332 O332 G1 G3 GF b323 c1_ k324 c0_ Y332_0 g_b323) hZ (ow hw 43 rfl) (ow hw 25 rfl) (by decide) (by decide)) (g := (mkF m 20 #[cr x10, ci 1, ci 7, cr b323, ci 1] [(.int c1_), (.int 1), (.ref b323)])) rfl (by rw [hml]; rfl) (argsL := [(.ref b323), (.int 1), (.int c1_)]) (rest := []) (lenOf pdx_21 rfl) rfl (by show 2 * 0 + _ ≤ _; exact Nat.le_of_eq rfl) (hb hby d7_20) (fun _ _ => ⟨rfl, e332, (by decide : 1 + 0 ≤ _), (by decide : 14 + 0 ≤ _)⟩)
 dsimp only [Pt.U, Pt.locs, Pt.cells, Pt.slots] at X340 l340 y340 z340 st340 hQ340
 subst l340 y340 z340
 obtain ⟨rfl, N340q, K340c, Y340_0⟩ := hQ340
 have N340 := Fr.app N332 N340q
 refine Ends.go st340 ?_
 obtain ⟨h340, e340⟩ : ∃ z, T340.heap = z := ⟨_, rfl⟩
 rw [e340] at K340c Y340_0
 have K340 := K332.trans K340c (allS (Or.inr sz_b323) all0)
 have O340 := O332.keep K340c (allS g_b323 all0)
 refine wii X340 hx hby d7_23 (l' := #[cr x10, ci 2, ci 7, cr b323, ci 1]) rfl rfl ?_
 refine wii X340 hx hby d7_26 (l' := #[cr x10, ci 2, ci 7, cr b323, ci 2]) rfl rfl ?_
 refine wgo (pc := 29) (pc' := 8) X340 hx hby d7_29 (by decide) (by decide) ?_
 show Ends _ _ _ _ T340 (mkF m 8 #[cr x10, ci 2, ci 7, cr b323, ci 2] []) _ _ _
 refine wil X340 hx hby d7_8 rfl ?_
 refine wilN X340 hx hby d7_10 rfl ?_
 refine wcn X340 hx hby d7_11 (tlt (by decide : (2 : Int32) < (7 : Int32))).2.1 ?_
 refine walN X340 hx hby d7_14 rfl rfl ?_
 refine wil X340 hx hby d7_15 rfl ?_
 show Ends _ _ _ _ T340 (mkF m 17 #[cr x10, ci 2, ci 7, cr b323, ci 2] [(.int 2), (.ref b323)]) _ _ _
 refine walN X340 hx hby d7_17 rfl rfl ?_
 refine wilN X340 hx hby d7_18 rfl ?_
 obtain ⟨cl341, Ar341, q341, S341, M341, H341, G341⟩ := id (((PV_x10.keep K322c nin0).keep K332c (ninS (Nat.ne_of_lt (Nat.lt_of_lt_of_le PV_x10.lt sz_b323)) nin0)).keep K340c (ninS (Nat.ne_of_lt (Nat.lt_of_lt_of_le PV_x10.lt sz_b323)) nin0))
 have hin341 := inb_of (j := (2 : Int32)) S341 ⟨by decide, by decide⟩
 refine Ends.go (X340.caload hx (j := (2 : Int32)) (v := (.int c2_)) (by rw [e340]; exact Ar341.1) (State.isArrayOf_alike hZ.alike Ar341.2.1) Ar341.2.2 hin341 (H341.at hin341 rfl) (g := (mkF m 19 #[cr x10, ci 2, ci 7, cr b323, ci 2] [(.int 2), (.ref x10), (.int 2), (.ref b323)])) rfl rfl (hb hby d7_19)) ?_
 obtain ⟨_, _, ⟨T348, L348, k348, n348⟩, -, X348, ⟨Lc348, hQ348, l348, y348, z348⟩, st348⟩ := Jvm.LawKit.callS X340 hx (y := ym25) hown (mvT hZ (ow hw 41 rfl)) (mvT hZ (ow hw 42 rfl)) (mvT hZ (ow hw 25 rfl)) (mvT hZ (ow hw 43 rfl)) (by decide) (own_backOf (W := 0) (rx10_342 l Z a0 hw [] n0 h340 O340 G1 G3 GF b323 c2_ k324 c0_ c1_ Y340_0 g_b323) hZ (ow hw 43 rfl) (ow hw 25 rfl) (by decide) (by decide)) (g := (mkF m 20 #[cr x10, ci 2, ci 7, cr b323, ci 2] [(.int c2_), (.int 2), (.ref b323)])) rfl (by rw [hml]; rfl) (argsL := [(.ref b323), (.int 2), (.int c2_)]) (rest := []) (lenOf pdx_21 rfl) rfl (by show 2 * 0 + _ ≤ _; exact Nat.le_of_eq rfl) (hb hby d7_20) (fun _ _ => ⟨rfl, e340, (by decide : 1 + 0 ≤ _), (by decide : 14 + 0 ≤ _)⟩)
 dsimp only [Pt.U, Pt.locs, Pt.cells, Pt.slots] at X348 l348 y348 z348 st348 hQ348
 subst l348 y348 z348
 obtain ⟨rfl, N348q, K348c, Y348_0⟩ := hQ348
 have N348 := Fr.app N340 N348q
 refine Ends.go st348 ?_
 obtain ⟨h348, e348⟩ : ∃ z, T348.heap = z := ⟨_, rfl⟩
 rw [e348] at K348c Y348_0
 have K348 := K340.trans K348c (allS (Or.inr sz_b323) all0)
 have O348 := O340.keep K348c (allS g_b323 all0)
 refine wii X348 hx hby d7_23 (l' := #[cr x10, ci 3, ci 7, cr b323, ci 2]) rfl rfl ?_
 show Ends _ _ _ _ T348 (mkF m 26 #[cr x10, ci 3, ci 7, cr b323, ci 2] []) _ _ _
 refine wii X348 hx hby d7_26 (l' := #[cr x10, ci 3, ci 7, cr b323, ci 3]) rfl rfl ?_
 refine wgo (pc := 29) (pc' := 8) X348 hx hby d7_29 (by decide) (by decide) ?_
 refine wil X348 hx hby d7_8 rfl ?_
 refine wilN X348 hx hby d7_10 rfl ?_
 refine wcn X348 hx hby d7_11 (tlt (by decide : (3 : Int32) < (7 : Int32))).2.1 ?_
 show Ends _ _ _ _ T348 (mkF m 14 #[cr x10, ci 3, ci 7, cr b323, ci 3] []) _ _ _
 refine walN X348 hx hby d7_14 rfl rfl ?_
 refine wil X348 hx hby d7_15 rfl ?_
 refine walN X348 hx hby d7_17 rfl rfl ?_
 refine wilN X348 hx hby d7_18 rfl ?_
 obtain ⟨cl349, Ar349, q349, S349, M349, H349, G349⟩ := id ((((PV_x10.keep K322c nin0).keep K332c (ninS (Nat.ne_of_lt (Nat.lt_of_lt_of_le PV_x10.lt sz_b323)) nin0)).keep K340c (ninS (Nat.ne_of_lt (Nat.lt_of_lt_of_le PV_x10.lt sz_b323)) nin0)).keep K348c (ninS (Nat.ne_of_lt (Nat.lt_of_lt_of_le PV_x10.lt sz_b323)) nin0))
 have hin349 := inb_of (j := (3 : Int32)) S349 ⟨by decide, by decide⟩
 refine Ends.go (X348.caload hx (j := (3 : Int32)) (v := (.int c3_)) (by rw [e348]; exact Ar349.1) (State.isArrayOf_alike hZ.alike Ar349.2.1) Ar349.2.2 hin349 (H349.at hin349 rfl) (g := (mkF m 19 #[cr x10, ci 3, ci 7, cr b323, ci 3] [(.int 3), (.ref x10), (.int 3), (.ref b323)])) rfl rfl (hb hby d7_19)) ?_
 show Ends _ _ _ _ T348 (mkF m 20 #[cr x10, ci 3, ci 7, cr b323, ci 3] [(.int c3_), (.int 3), (.ref b323)]) _ _ _
 obtain ⟨_, _, ⟨T356, L356, k356, n356⟩, -, X356, ⟨Lc356, hQ356, l356, y356, z356⟩, st356⟩ := Jvm.LawKit.callS X348 hx (y := ym25) hown (mvT hZ (ow hw 41 rfl)) (mvT hZ (ow hw 42 rfl)) (mvT hZ (ow hw 25 rfl)) (mvT hZ (ow hw 43 rfl)) (by decide) (own_backOf (W := 0) (rx10_350 l Z a0 hw [] n0 h348 O348 G1 G3 GF b323 c3_ k324 c0_ c1_ c2_ Y348_0 g_b323) hZ (ow hw 43 rfl) (ow hw 25 rfl) (by decide) (by decide)) (g := (mkF m 20 #[cr x10, ci 3, ci 7, cr b323, ci 3] [(.int c3_), (.int 3), (.ref b323)])) rfl (by rw [hml]; rfl) (argsL := [(.ref b323), (.int 3), (.int c3_)]) (rest := []) (lenOf pdx_21 rfl) rfl (by show 2 * 0 + _ ≤ _; exact Nat.le_of_eq rfl) (hb hby d7_20) (fun _ _ => ⟨rfl, e348, (by decide : 1 + 0 ≤ _), (by decide : 14 + 0 ≤ _)⟩)
 dsimp only [Pt.U, Pt.locs, Pt.cells, Pt.slots] at X356 l356 y356 z356 st356 hQ356
 subst l356 y356 z356
 obtain ⟨rfl, N356q, K356c, Y356_0⟩ := hQ356
 have N356 := Fr.app N348 N356q
 refine Ends.go st356 ?_
 obtain ⟨h356, e356⟩ : ∃ z, T356.heap = z := ⟨_, rfl⟩
 rw [e356] at K356c Y356_0
 have K356 := K348.trans K356c (allS (Or.inr sz_b323) all0)
 have O356 := O348.keep K356c (allS g_b323 all0)
 refine wii X356 hx hby d7_23 (l' := #[cr x10, ci 4, ci 7, cr b323, ci 3]) rfl rfl ?_
 refine wii X356 hx hby d7_26 (l' := #[cr x10, ci 4, ci 7, cr b323, ci 4]) rfl rfl ?_
 refine wgo (pc := 29) (pc' := 8) X356 hx hby d7_29 (by decide) (by decide) ?_
 refine wil X356 hx hby d7_8 rfl ?_
 show Ends _ _ _ _ T356 (mkF m 10 #[cr x10, ci 4, ci 7, cr b323, ci 4] [(.int 4)]) _ _ _
 refine wilN X356 hx hby d7_10 rfl ?_
 refine wcn X356 hx hby d7_11 (tlt (by decide : (4 : Int32) < (7 : Int32))).2.1 ?_
 refine walN X356 hx hby d7_14 rfl rfl ?_
 refine wil X356 hx hby d7_15 rfl ?_
 refine walN X356 hx hby d7_17 rfl rfl ?_
 show Ends _ _ _ _ T356 (mkF m 18 #[cr x10, ci 4, ci 7, cr b323, ci 4] [(.ref x10), (.int 4), (.ref b323)]) _ _ _
 refine wilN X356 hx hby d7_18 rfl ?_
 obtain ⟨cl357, Ar357, q357, S357, M357, H357, G357⟩ := id (((((PV_x10.keep K322c nin0).keep K332c (ninS (Nat.ne_of_lt (Nat.lt_of_lt_of_le PV_x10.lt sz_b323)) nin0)).keep K340c (ninS (Nat.ne_of_lt (Nat.lt_of_lt_of_le PV_x10.lt sz_b323)) nin0)).keep K348c (ninS (Nat.ne_of_lt (Nat.lt_of_lt_of_le PV_x10.lt sz_b323)) nin0)).keep K356c (ninS (Nat.ne_of_lt (Nat.lt_of_lt_of_le PV_x10.lt sz_b323)) nin0))
 have hin357 := inb_of (j := (4 : Int32)) S357 ⟨by decide, by decide⟩
 refine Ends.go (X356.caload hx (j := (4 : Int32)) (v := (.int c4_)) (by rw [e356]; exact Ar357.1) (State.isArrayOf_alike hZ.alike Ar357.2.1) Ar357.2.2 hin357 (H357.at hin357 rfl) (g := (mkF m 19 #[cr x10, ci 4, ci 7, cr b323, ci 4] [(.int 4), (.ref x10), (.int 4), (.ref b323)])) rfl rfl (hb hby d7_19)) ?_
 obtain ⟨_, _, ⟨T364, L364, k364, n364⟩, -, X364, ⟨Lc364, hQ364, l364, y364, z364⟩, st364⟩ := Jvm.LawKit.callS X356 hx (y := ym25) hown (mvT hZ (ow hw 41 rfl)) (mvT hZ (ow hw 42 rfl)) (mvT hZ (ow hw 25 rfl)) (mvT hZ (ow hw 43 rfl)) (by decide) (own_backOf (W := 0) (rx10_358 l Z a0 hw [] n0 h356 O356 G1 G3 GF b323 c4_ k324 c0_ c1_ c2_ c3_ Y356_0 g_b323) hZ (ow hw 43 rfl) (ow hw 25 rfl) (by decide) (by decide)) (g := (mkF m 20 #[cr x10, ci 4, ci 7, cr b323, ci 4] [(.int c4_), (.int 4), (.ref b323)])) rfl (by rw [hml]; rfl) (argsL := [(.ref b323), (.int 4), (.int c4_)]) (rest := []) (lenOf pdx_21 rfl) rfl (by show 2 * 0 + _ ≤ _; exact Nat.le_of_eq rfl) (hb hby d7_20) (fun _ _ => ⟨rfl, e356, (by decide : 1 + 0 ≤ _), (by decide : 14 + 0 ≤ _)⟩)
 dsimp only [Pt.U, Pt.locs, Pt.cells, Pt.slots] at X364 l364 y364 z364 st364 hQ364
 subst l364 y364 z364
 obtain ⟨rfl, N364q, K364c, Y364_0⟩ := hQ364
 have N364 := Fr.app N356 N364q
 refine Ends.go st364 ?_
 obtain ⟨h364, e364⟩ : ∃ z, T364.heap = z := ⟨_, rfl⟩
 rw [e364] at K364c Y364_0
 have K364 := K356.trans K364c (allS (Or.inr sz_b323) all0)
 have O364 := O356.keep K364c (allS g_b323 all0)
 refine wii X364 hx hby d7_23 (l' := #[cr x10, ci 5, ci 7, cr b323, ci 4]) rfl rfl ?_
 refine wii X364 hx hby d7_26 (l' := #[cr x10, ci 5, ci 7, cr b323, ci 5]) rfl rfl ?_
 show Ends _ _ _ _ T364 (mkF m 29 #[cr x10, ci 5, ci 7, cr b323, ci 5] []) _ _ _
 refine wgo (pc := 29) (pc' := 8) X364 hx hby d7_29 (by decide) (by decide) ?_
 refine wil X364 hx hby d7_8 rfl ?_
 refine wilN X364 hx hby d7_10 rfl ?_
 refine wcn X364 hx hby d7_11 (tlt (by decide : (5 : Int32) < (7 : Int32))).2.1 ?_
 refine walN X364 hx hby d7_14 rfl rfl ?_
 show Ends _ _ _ _ T364 (mkF m 15 #[cr x10, ci 5, ci 7, cr b323, ci 5] [(.ref b323)]) _ _ _
 refine wil X364 hx hby d7_15 rfl ?_
 refine walN X364 hx hby d7_17 rfl rfl ?_
 refine wilN X364 hx hby d7_18 rfl ?_
 obtain ⟨cl365, Ar365, q365, S365, M365, H365, G365⟩ := id ((((((PV_x10.keep K322c nin0).keep K332c (ninS (Nat.ne_of_lt (Nat.lt_of_lt_of_le PV_x10.lt sz_b323)) nin0)).keep K340c (ninS (Nat.ne_of_lt (Nat.lt_of_lt_of_le PV_x10.lt sz_b323)) nin0)).keep K348c (ninS (Nat.ne_of_lt (Nat.lt_of_lt_of_le PV_x10.lt sz_b323)) nin0)).keep K356c (ninS (Nat.ne_of_lt (Nat.lt_of_lt_of_le PV_x10.lt sz_b323)) nin0)).keep K364c (ninS (Nat.ne_of_lt (Nat.lt_of_lt_of_le PV_x10.lt sz_b323)) nin0))
 have hin365 := inb_of (j := (5 : Int32)) S365 ⟨by decide, by decide⟩
 refine Ends.go (X364.caload hx (j := (5 : Int32)) (v := (.int c5_)) (by rw [e364]; exact Ar365.1) (State.isArrayOf_alike hZ.alike Ar365.2.1) Ar365.2.2 hin365 (H365.at hin365 rfl) (g := (mkF m 19 #[cr x10, ci 5, ci 7, cr b323, ci 5] [(.int 5), (.ref x10), (.int 5), (.ref b323)])) rfl rfl (hb hby d7_19)) ?_
 obtain ⟨_, _, ⟨T372, L372, k372, n372⟩, -, X372, ⟨Lc372, hQ372, l372, y372, z372⟩, st372⟩ := Jvm.LawKit.callS X364 hx (y := ym25) hown (mvT hZ (ow hw 41 rfl)) (mvT hZ (ow hw 42 rfl)) (mvT hZ (ow hw 25 rfl)) (mvT hZ (ow hw 43 rfl)) (by decide) (own_backOf (W := 0) (rx10_366 l Z a0 hw [] n0 h364 O364 G1 G3 GF b323 c5_ k324 c0_ c1_ c2_ c3_ c4_ Y364_0 g_b323) hZ (ow hw 43 rfl) (ow hw 25 rfl) (by decide) (by decide)) (g := (mkF m 20 #[cr x10, ci 5, ci 7, cr b323, ci 5] [(.int c5_), (.int 5), (.ref b323)])) rfl (by rw [hml]; rfl) (argsL := [(.ref b323), (.int 5), (.int c5_)]) (rest := []) (lenOf pdx_21 rfl) rfl (by show 2 * 0 + _ ≤ _; exact Nat.le_of_eq rfl) (hb hby d7_20) (fun _ _ => ⟨rfl, e364, (by decide : 1 + 0 ≤ _), (by decide : 14 + 0 ≤ _)⟩)
 dsimp only [Pt.U, Pt.locs, Pt.cells, Pt.slots] at X372 l372 y372 z372 st372 hQ372
 subst l372 y372 z372
 obtain ⟨rfl, N372q, K372c, Y372_0⟩ := hQ372
 have N372 := Fr.app N364 N372q
 refine Ends.go st372 ?_
 obtain ⟨h372, e372⟩ : ∃ z, T372.heap = z := ⟨_, rfl⟩
 rw [e372] at K372c Y372_0
 have K372 := K364.trans K372c (allS (Or.inr sz_b323) all0)
 have O372 := O364.keep K372c (allS g_b323 all0)
 show Ends _ _ _ _ T372 (mkF m 23 #[cr x10, ci 5, ci 7, cr b323, ci 5] []) _ _ _
 refine wii X372 hx hby d7_23 (l' := #[cr x10, ci 6, ci 7, cr b323, ci 5]) rfl rfl ?_
 refine wii X372 hx hby d7_26 (l' := #[cr x10, ci 6, ci 7, cr b323, ci 6]) rfl rfl ?_
 refine wgo (pc := 29) (pc' := 8) X372 hx hby d7_29 (by decide) (by decide) ?_
 refine wil X372 hx hby d7_8 rfl ?_
 refine wilN X372 hx hby d7_10 rfl ?_
 show Ends _ _ _ _ T372 (mkF m 11 #[cr x10, ci 6, ci 7, cr b323, ci 6] [(.int 7), (.int 6)]) _ _ _
 refine wcn X372 hx hby d7_11 (tlt (by decide : (6 : Int32) < (7 : Int32))).2.1 ?_
 refine walN X372 hx hby d7_14 rfl rfl ?_
 refine wil X372 hx hby d7_15 rfl ?_
 refine walN X372 hx hby d7_17 rfl rfl ?_
 refine wilN X372 hx hby d7_18 rfl ?_
 show Ends _ _ _ _ T372 (mkF m 19 #[cr x10, ci 6, ci 7, cr b323, ci 6] [(.int 6), (.ref x10), (.int 6), (.ref b323)]) _ _ _
 obtain ⟨cl373, Ar373, q373, S373, M373, H373, G373⟩ := id (((((((PV_x10.keep K322c nin0).keep K332c (ninS (Nat.ne_of_lt (Nat.lt_of_lt_of_le PV_x10.lt sz_b323)) nin0)).keep K340c (ninS (Nat.ne_of_lt (Nat.lt_of_lt_of_le PV_x10.lt sz_b323)) nin0)).keep K348c (ninS (Nat.ne_of_lt (Nat.lt_of_lt_of_le PV_x10.lt sz_b323)) nin0)).keep K356c (ninS (Nat.ne_of_lt (Nat.lt_of_lt_of_le PV_x10.lt sz_b323)) nin0)).keep K364c (ninS (Nat.ne_of_lt (Nat.lt_of_lt_of_le PV_x10.lt sz_b323)) nin0)).keep K372c (ninS (Nat.ne_of_lt (Nat.lt_of_lt_of_le PV_x10.lt sz_b323)) nin0))
 have hin373 := inb_of (j := (6 : Int32)) S373 ⟨by decide, by decide⟩
 refine Ends.go (X372.caload hx (j := (6 : Int32)) (v := (.int c6_)) (by rw [e372]; exact Ar373.1) (State.isArrayOf_alike hZ.alike Ar373.2.1) Ar373.2.2 hin373 (H373.at hin373 rfl) (g := (mkF m 19 #[cr x10, ci 6, ci 7, cr b323, ci 6] [(.int 6), (.ref x10), (.int 6), (.ref b323)])) rfl rfl (hb hby d7_19)) ?_
 obtain ⟨_, _, ⟨T380, L380, k380, n380⟩, -, X380, ⟨Lc380, hQ380, l380, y380, z380⟩, st380⟩ := Jvm.LawKit.callS X372 hx (y := ym25) hown (mvT hZ (ow hw 41 rfl)) (mvT hZ (ow hw 42 rfl)) (mvT hZ (ow hw 25 rfl)) (mvT hZ (ow hw 43 rfl)) (by decide) (own_backOf (W := 0) (rx10_374 l Z a0 hw [] n0 h372 O372 G1 G3 GF b323 c6_ k324 c0_ c1_ c2_ c3_ c4_ c5_ Y372_0 g_b323) hZ (ow hw 43 rfl) (ow hw 25 rfl) (by decide) (by decide)) (g := (mkF m 20 #[cr x10, ci 6, ci 7, cr b323, ci 6] [(.int c6_), (.int 6), (.ref b323)])) rfl (by rw [hml]; rfl) (argsL := [(.ref b323), (.int 6), (.int c6_)]) (rest := []) (lenOf pdx_21 rfl) rfl (by show 2 * 0 + _ ≤ _; exact Nat.le_of_eq rfl) (hb hby d7_20) (fun _ _ => ⟨rfl, e372, (by decide : 1 + 0 ≤ _), (by decide : 14 + 0 ≤ _)⟩)
 dsimp only [Pt.U, Pt.locs, Pt.cells, Pt.slots] at X380 l380 y380 z380 st380 hQ380
 subst l380 y380 z380
 obtain ⟨rfl, N380q, K380c, Y380_0⟩ := hQ380
 have N380 := Fr.app N372 N380q
 refine Ends.go st380 ?_
 obtain ⟨h380, e380⟩ : ∃ z, T380.heap = z := ⟨_, rfl⟩
 rw [e380] at K380c Y380_0
 have K380 := K372.trans K380c (allS (Or.inr sz_b323) all0)
 have O380 := O372.keep K380c (allS g_b323 all0)
 refine wii X380 hx hby d7_23 (l' := #[cr x10, ci 7, ci 7, cr b323, ci 6]) rfl rfl ?_
 refine wii X380 hx hby d7_26 (l' := #[cr x10, ci 7, ci 7, cr b323, ci 7]) rfl rfl ?_
 refine wgo (pc := 29) (pc' := 8) X380 hx hby d7_29 (by decide) (by decide) ?_
 show Ends _ _ _ _ T380 (mkF m 8 #[cr x10, ci 7, ci 7, cr b323, ci 7] []) _ _ _
 refine wil X380 hx hby d7_8 rfl ?_
 refine wilN X380 hx hby d7_10 rfl ?_
 refine wcy (pc := 11) (pc' := 32) X380 hx hby d7_11 (flt (by decide : ¬ ((7 : Int32) < (7 : Int32)))).2.1 (by decide) (by decide) ?_
 refine walN X380 hx hby d7_32 rfl rfl ?_
 refine Ends.ret X380 hx Bd.notSynchronized (t := (.array .byte)) Bd.returns rfl (Or.inr (Or.inr (Or.inr (Or.inr ⟨rfl, rfl, rfl⟩)))) (hb hby d7_33) (by decide) (by decide) ?_
 rw [e380]
 exact ⟨b323, k324, rfl, N380, K380, sz_b323, Y380_0⟩

theorem d5_20 : decode jdk_52_method_16_code 20 = .ok (.aload_n 0, 1) := by decide +kernel
theorem d5_21 : decode jdk_52_method_16_code 21 = .ok (.iload_n 1, 1) := by decide +kernel
theorem d5_22 : decode jdk_52_method_16_code 22 = .ok (.iload_n 2, 1) := by decide +kernel
theorem d5_23 : decode jdk_52_method_16_code 23 = .ok (.invokestatic 119, 3) := by decide +kernel
theorem d5_26 : decode jdk_52_method_16_code 26 = .ok (.astore 5, 2) := by decide +kernel
theorem d5_28 : decode jdk_52_method_16_code 28 = .ok (.aload 5, 2) := by decide +kernel
theorem d5_30 : decode jdk_52_method_16_code 30 = .ok (.iload 4, 2) := by decide +kernel
theorem d5_32 : decode jdk_52_method_16_code 32 = .ok (.invokestatic 71, 3) := by decide +kernel
theorem d5_35 : decode jdk_52_method_16_code 35 = .ok (.sipush 255, 3) := by decide +kernel
theorem d5_38 : decode jdk_52_method_16_code 38 = .ok (.if_icmp .gt 16, 3) := by decide +kernel
theorem d5_54 : decode jdk_52_method_16_code 54 = .ok (.aload 5, 2) := by decide +kernel
theorem d5_56 : decode jdk_52_method_16_code 56 = .ok (.areturn, 1) := by decide +kernel
theorem pdx_22 : parseMethodDescriptor "([BI)C" = some ⟨[(.array .byte), .int], some .char⟩ := by decide +kernel
set_option maxRecDepth 65536 in
set_option maxHeartbeats 40000000 in
theorem rx5_314 (l : Launch) (Z : State) (a0 : Array Value) (hw : ∀ d ∈ tables_1, d.before a0 Z = true) (ws : List Jvm.Cond) (n0 : Nat) (h0 : Heap) (O0 : Old Z n0 h0) (G1 : Int32) (G3 : Value) (GF : GlobF Z G1 G3) (x10 : Addr) (kx10 : ClassId) (c0_ : Int32) (c1_ : Int32) (c2_ : Int32) (c3_ : Int32) (c4_ : Int32) (c5_ : Int32) (c6_ : Int32) (PV_x10 : Arv Z h0 x10 kx10 .char (7 : Int32) [(.int c0_), (.int c1_), (.int c2_), (.int c3_), (.int c4_), (.int c5_), (.int c6_)] (.int 0)) (hbig_ : ¬ (own_lat c0_ c1_ c2_ c3_ c4_ c5_ c6_)) (hc0_ : 0 ≤ c0_.toInt ∧ c0_.toInt < 65536) (hc1_ : 0 ≤ c1_.toInt ∧ c1_.toInt < 65536) (hc2_ : 0 ≤ c2_.toInt ∧ c2_.toInt < 65536) (hc3_ : 0 ≤ c3_.toInt ∧ c3_.toInt < 65536) (hc4_ : 0 ≤ c4_.toInt ∧ c4_.toInt < 65536) (hc5_ : 0 ≤ c5_.toInt ∧ c5_.toInt < 65536) (hc6_ : 0 ≤ c6_.toInt ∧ c6_.toInt < 65536) :
  Meets1 l ym10 jdk_52_method_16_code 6 (some (.array .byte)) ws ({ frames := 3, cells := 2, slots := 21, locals := 40 } : Room) #[(.ref x10), (.int 0), (.int 7)] Z h0 (fun v h L => ∃ (b315 : Addr) (b382 : Addr) (k383 : ClassId), v = some (.ref b382) ∧ Fr n0 L ∧ Keep h0 h [] ∧ h0.size ≤ b315 ∧ h0.size ≤ b382 ∧ Arv Z h b382 k383 .byte (14 : Int32) [(.int ((c0_ >>> ((0 : Int32) &&& 31)).toInt8.toInt32)), (.int ((c0_ >>> ((8 : Int32) &&& 31)).toInt8.toInt32)), (.int ((c1_ >>> ((0 : Int32) &&& 31)).toInt8.toInt32)), (.int ((c1_ >>> ((8 : Int32) &&& 31)).toInt8.toInt32)), (.int ((c2_ >>> ((0 : Int32) &&& 31)).toInt8.toInt32)), (.int ((c2_ >>> ((8 : Int32) &&& 31)).toInt8.toInt32)), (.int ((c3_ >>> ((0 : Int32) &&& 31)).toInt8.toInt32)), (.int ((c3_ >>> ((8 : Int32) &&& 31)).toInt8.toInt32)), (.int ((c4_ >>> ((0 : Int32) &&& 31)).toInt8.toInt32)), (.int ((c4_ >>> ((8 : Int32) &&& 31)).toInt8.toInt32)), (.int ((c5_ >>> ((0 : Int32) &&& 31)).toInt8.toInt32)), (.int ((c5_ >>> ((8 : Int32) &&& 31)).toInt8.toInt32)), (.int ((c6_ >>> ((0 : Int32) &&& 31)).toInt8.toInt32)), (.int ((c6_ >>> ((8 : Int32) &&& 31)).toInt8.toInt32))] (.int 0)) := by
 refine MetFree.of_bodySF (plainFor_of_name pn5) hisR ?_
 intro p e s m args below meth c s₁ Bd hml0 hP hK
 obtain ⟨rfl, hZ, hh⟩ := hP
 have hx := Bd.exec
 have hby := Bd.bytes
 have hml : c.maxLocals = 6 := hml0
 have hown : s.vm.findClass "java/lang/StringUTF16" = some m.cls := findClass_of_methodNamed Bd.named
 have hnm := (name_of_methodNamed Bd.named Bd.method).1
 have X0 : Stand p l e ({ frames := 3, cells := 2, slots := 21, locals := 40 } : Room) s m #[(.ref x10), (.int 0), (.int 7)] below meth c s₁ [] 0 0 := Stand.of_body Bd
 have e0 : s₁.heap = h0 := by rw [← hh, Bd.state]; rfl
 have N0 := Fr.nil n0
 have Z0 := own_old_le O0
 show Ends _ _ _ _ s₁ (entryFrame m #[(.ref x10), (.int 0), (.int 7)] 6) ({ frames := 3, cells := 2, slots := 21, locals := 40 } : Room).cells ({ frames := 3, cells := 2, slots := 21, locals := 40 } : Room).slots (fun v h L => ∃ (b315 : Addr) (b382 : Addr) (k383 : ClassId), v = some (.ref b382) ∧ Fr n0 L ∧ Keep h0 h [] ∧ h0.size ≤ b315 ∧ h0.size ≤ b382 ∧ Arv Z h b382 k383 .byte (14 : Int32) [(.int ((c0_ >>> ((0 : Int32) &&& 31)).toInt8.toInt32)), (.int ((c0_ >>> ((8 : Int32) &&& 31)).toInt8.toInt32)), (.int ((c1_ >>> ((0 : Int32) &&& 31)).toInt8.toInt32)), (.int ((c1_ >>> ((8 : Int32) &&& 31)).toInt8.toInt32)), (.int ((c2_ >>> ((0 : Int32) &&& 31)).toInt8.toInt32)), (.int ((c2_ >>> ((8 : Int32) &&& 31)).toInt8.toInt32)), (.int ((c3_ >>> ((0 : Int32) &&& 31)).toInt8.toInt32)), (.int ((c3_ >>> ((8 : Int32) &&& 31)).toInt8.toInt32)), (.int ((c4_ >>> ((0 : Int32) &&& 31)).toInt8.toInt32)), (.int ((c4_ >>> ((8 : Int32) &&& 31)).toInt8.toInt32)), (.int ((c5_ >>> ((0 : Int32) &&& 31)).toInt8.toInt32)), (.int ((c5_ >>> ((8 : Int32) &&& 31)).toInt8.toInt32)), (.int ((c6_ >>> ((0 : Int32) &&& 31)).toInt8.toInt32)), (.int ((c6_ >>> ((8 : Int32) &&& 31)).toInt8.toInt32))] (.int 0))
 refine Ends.go (fun _ k => castTop (ef5_rii m x10 (0 : Int32) (7 : Int32)) k) ?_
 obtain ⟨SCS, P5, SAD, SHI, SLO, SSF, RG3⟩ := id GF
 have K0 := Keep.refl h0 []
 show Ends _ _ _ _ s₁ (mkF m 0 #[cr x10, ci 0, ci 7, cu, cu, cu] []) _ _ _
 refine wilN X0 hx hby d5_0 rfl ?_
 obtain ⟨T315, h315, k315, X315, e315, E315, A315, st315⟩ := newP X0 hx hZ (ow hw 27 rfl) e0 (g := (mkF m 1 #[cr x10, ci 0, ci 7, cu, cu, cu] [(.int 7)])) rfl (hb hby d5_1) rfl (by decide) (cap := 7) (by decide) (by decide) (by decide) (by decide)
 obtain ⟨b315, g315⟩ : ∃ z, z = h0.size := ⟨_, rfl⟩
 rw [← g315] at A315 st315
 refine Ends.go st315 ?_
 have g_b315 : n0 ≤ b315 := Nat.le_trans (own_old_le O0) (Nat.le_of_eq g315.symm)
 have sz_b315 : h0.size ≤ b315 := Nat.le_trans K0.1 (Nat.le_of_eq g315.symm)
 have K315 := K0.ext E315
 have O315 := O0.ext E315
 have V_b315 : Arv Z h315 b315 k315 .byte (7 : Int32) [(.int 0), (.int 0), (.int 0), (.int 0), (.int 0), (.int 0), (.int 0)] (.int 0) := (Arv.new A315 (by decide)).pad (pad_rep [] (.int 0) 7)
 refine wasN X315 hx hby d5_3 (l' := #[cr x10, ci 0, ci 7, cr b315, cu, cu]) rfl rfl ?_
 refine walN X315 hx hby d5_4 rfl rfl ?_
 show Ends _ _ _ _ T315 (mkF m 5 #[cr x10, ci 0, ci 7, cr b315, cu, cu] [(.ref x10)]) _ _ _
 refine wilN X315 hx hby d5_5 rfl ?_
 refine walN X315 hx hby d5_6 rfl rfl ?_
 refine wic X315 hx hby d5_7 ?_
 refine wilN X315 hx hby d5_8 rfl ?_
 obtain ⟨_, _, ⟨T316, L316, k316, n316⟩, -, X316, ⟨Lc316, hQ316, l316, y316, z316⟩, st316⟩ := Jvm.LawKit.callS X315 hx (y := ym1) hown (mvT hZ (ow hw 28 rfl)) (mvT hZ (ow hw 29 rfl)) (mvT hZ (ow hw 25 rfl)) (mvT hZ (ow hw 30 rfl)) (by decide) (own_backOf (W := 0) (rmC l Z a0 hw [] n0 h315 O315 x10 b315 kx10 k315 c0_ c1_ c2_ c3_ c4_ c5_ c6_ g_b315 (Nat.ne_of_lt (Nat.lt_of_lt_of_le PV_x10.lt sz_b315)) (PV_x10.ext E315) V_b315 hbig_) hZ (ow hw 30 rfl) (ow hw 25 rfl) (by decide) (by decide)) (g := (mkF m 9 #[cr x10, ci 0, ci 7, cr b315, cu, cu] [(.int 7), (.int 0), (.ref b315), (.int 0), (.ref x10)])) rfl (by rw [hml]; rfl) (argsL := [(.ref x10), (.int 0), (.ref b315), (.int 0), (.int 7)]) (rest := []) (lenOf pdx_4 rfl) rfl (by show 2 * 0 + _ ≤ _; exact Nat.le_of_eq rfl) (hb hby d5_9) (fun _ _ => ⟨rfl, e315, (by decide : 1 + 0 ≤ _), (by decide : 7 + 0 ≤ _)⟩)
 dsimp only [Pt.U, Pt.locs, Pt.cells, Pt.slots] at X316 l316 y316 z316 st316 hQ316
 subst l316 y316 z316
 obtain ⟨ix316, rfl, N316q, K316c, hin316, hsel316⟩ := hQ316
 have N316 := Fr.app N0 N316q
 refine Ends.go st316 ?_
 obtain ⟨h316, e316⟩ : ∃ z, T316.heap = z := ⟨_, rfl⟩
 rw [e316] at K316c
 have K316 := K315.trans K316c (allS (Or.inr sz_b315) all0)
 have O316 := O315.keep K316c (allS g_b315 all0)
 show Ends _ _ _ _ T316 (mkF m 12 #[cr x10, ci 0, ci 7, cr b315, cu, cu] [(.int ix316)]) _ _ _
 refine wst X316 hx hby d5_12 (l' := #[cr x10, ci 0, ci 7, cr b315, ci ix316, cu]) rfl ?_
 refine wil X316 hx hby d5_14 rfl ?_
 refine wilN X316 hx hby d5_16 rfl ?_
 refine wcn X316 hx hby d5_17 (feq ((own_ix7 hin316) : ¬ (ix316 = (7 : Int32)))).1 ?_
 refine walN X316 hx hby d5_20 rfl rfl ?_
 show Ends _ _ _ _ T316 (mkF m 21 #[cr x10, ci 0, ci 7, cr b315, ci ix316, cu] [(.ref x10)]) _ _ _
 refine wilN X316 hx hby d5_21 rfl ?_
 refine wilN X316 hx hby d5_22 rfl ?_
 obtain ⟨_, _, ⟨T381, L381, k381, n381⟩, -, X381, ⟨Lc381, hQ381, l381, y381, z381⟩, st381⟩ := Jvm.LawKit.callS X316 hx (y := ym26) hown (mvT hZ (ow hw 31 rfl)) (mvT hZ (ow hw 32 rfl)) (mvT hZ (ow hw 25 rfl)) (mvT hZ (ow hw 33 rfl)) (by decide) (own_backOf (W := 0) (rx7_317 l Z a0 hw [] n0 h316 O316 G1 G3 GF x10 kx10 c0_ c1_ c2_ c3_ c4_ c5_ c6_ ((PV_x10.ext E315).keep K316c (ninS (Nat.ne_of_lt (Nat.lt_of_lt_of_le PV_x10.lt sz_b315)) nin0))) hZ (ow hw 33 rfl) (ow hw 25 rfl) (by decide) (by decide)) (g := (mkF m 23 #[cr x10, ci 0, ci 7, cr b315, ci ix316, cu] [(.int 7), (.int 0), (.ref x10)])) rfl (by rw [hml]; rfl) (argsL := [(.ref x10), (.int 0), (.int 7)]) (rest := []) (lenOf pdx_5 rfl) rfl (by show 2 * 0 + _ ≤ _; exact Nat.le_of_eq rfl) (hb hby d5_23) (fun _ _ => ⟨rfl, e316, (by decide : 1 + 1 ≤ _), (by decide : 7 + 14 ≤ _)⟩)
 dsimp only [Pt.U, Pt.locs, Pt.cells, Pt.slots] at X381 l381 y381 z381 st381 hQ381
 subst l381 y381 z381
 obtain ⟨b382, k383, rfl, N381q, K381c, hb381_b382, Y381_0⟩ := hQ381
 have N381 := Fr.app N316 N381q
 refine Ends.go st381 ?_
 have g_b382 : n0 ≤ b382 := Nat.le_trans (own_old_le O316) hb381_b382
 have sz_b382 : h0.size ≤ b382 := Nat.le_trans K316.1 hb381_b382
 obtain ⟨h381, e381⟩ : ∃ z, T381.heap = z := ⟨_, rfl⟩
 rw [e381] at K381c Y381_0
 have K381 := K316.trans K381c all0
 have O381 := O316.keep K381c all0
 refine was X381 hx hby d5_26 (l' := #[cr x10, ci 0, ci 7, cr b315, ci ix316, cr b382]) rfl rfl ?_
 refine wal X381 hx hby d5_28 rfl rfl ?_
 show Ends _ _ _ _ T381 (mkF m 30 #[cr x10, ci 0, ci 7, cr b315, ci ix316, cr b382] [(.ref b382)]) _ _ _
 refine wil X381 hx hby d5_30 rfl ?_
 obtain ⟨_, _, ⟨T384, L384, k384, n384⟩, -, X384, ⟨Lc384, hQ384, l384, y384, z384⟩, st384⟩ := Jvm.LawKit.callS X381 hx (y := ym7) hown (mvT hZ (ow hw 47 rfl)) (mvT hZ (ow hw 48 rfl)) (mvT hZ (ow hw 25 rfl)) (mvT hZ (ow hw 49 rfl)) (by decide) (own_backOf (W := 0) (rmG l Z a0 hw [] n0 h381 O381 G1 G3 GF b382 k383 c0_ c1_ c2_ c3_ c4_ c5_ c6_ ix316 Y381_0 hc0_ hc1_ hc2_ hc3_ hc4_ hc5_ hc6_ hin316) hZ (ow hw 49 rfl) (ow hw 25 rfl) (by decide) (by decide)) (g := (mkF m 32 #[cr x10, ci 0, ci 7, cr b315, ci ix316, cr b382] [(.int ix316), (.ref b382)])) rfl (by rw [hml]; rfl) (argsL := [(.ref b382), (.int ix316)]) (rest := []) (lenOf pdx_22 rfl) rfl (by show 2 * 0 + _ ≤ _; exact Nat.le_of_eq rfl) (hb hby d5_32) (fun _ _ => ⟨rfl, e381, (by decide : 2 + 0 ≤ _), (by decide : 21 + 0 ≤ _)⟩)
 dsimp only [Pt.U, Pt.locs, Pt.cells, Pt.slots] at X384 l384 y384 z384 st384 hQ384
 subst l384 y384 z384
 obtain ⟨rfl, N384q, K384c⟩ := hQ384
 have N384 := Fr.app N381 N384q
 refine Ends.go st384 ?_
 obtain ⟨h384, e384⟩ : ∃ z, T384.heap = z := ⟨_, rfl⟩
 rw [e384] at K384c
 have K384 := K381.trans K384c all0
 have O384 := O381.keep K384c all0
 refine wsp X384 hx hby d5_35 ?_
 refine wcy (pc := 38) (pc' := 54) X384 hx hby d5_38 (tlt (hsel316 : (255 : Int32) < (own_sel c0_ c1_ c2_ c3_ c4_ c5_ c6_ ix316))).2.2.1 (by decide) (by decide) ?_
 refine wal X384 hx hby d5_54 rfl rfl ?_
 show Ends _ _ _ _ T384 (mkF m 56 #[cr x10, ci 0, ci 7, cr b315, ci ix316, cr b382] [(.ref b382)]) _ _ _
 refine Ends.ret X384 hx Bd.notSynchronized (t := (.array .byte)) Bd.returns rfl (Or.inr (Or.inr (Or.inr (Or.inr ⟨rfl, rfl, rfl⟩)))) (hb hby d5_56) (by decide) (by decide) ?_
 rw [e384]
 exact ⟨b315, b382, k383, rfl, N384, K384, sz_b315, sz_b382, (Y381_0.keep K384c nin0)⟩

set_option maxRecDepth 65536 in
set_option maxHeartbeats 40000000 in
theorem rx12_389 (l : Launch) (Z : State) (a0 : Array Value) (hw : ∀ d ∈ tables_1, d.before a0 Z = true) (ws : List Jvm.Cond) (n0 : Nat) (h0 : Heap) (O0 : Old Z n0 h0)  (b387 : Addr) (k388 : ClassId) (c0_ : Int32) (c1_ : Int32) (c2_ : Int32) (c3_ : Int32) (c4_ : Int32) (c5_ : Int32) (c6_ : Int32) (PV_b387 : Arv Z h0 b387 k388 .byte (14 : Int32) [(.int ((c0_ >>> ((0 : Int32) &&& 31)).toInt8.toInt32)), (.int ((c0_ >>> ((8 : Int32) &&& 31)).toInt8.toInt32)), (.int ((c1_ >>> ((0 : Int32) &&& 31)).toInt8.toInt32)), (.int ((c1_ >>> ((8 : Int32) &&& 31)).toInt8.toInt32)), (.int ((c2_ >>> ((0 : Int32) &&& 31)).toInt8.toInt32)), (.int ((c2_ >>> ((8 : Int32) &&& 31)).toInt8.toInt32)), (.int ((c3_ >>> ((0 : Int32) &&& 31)).toInt8.toInt32)), (.int ((c3_ >>> ((8 : Int32) &&& 31)).toInt8.toInt32)), (.int ((c4_ >>> ((0 : Int32) &&& 31)).toInt8.toInt32)), (.int ((c4_ >>> ((8 : Int32) &&& 31)).toInt8.toInt32)), (.int ((c5_ >>> ((0 : Int32) &&& 31)).toInt8.toInt32)), (.int ((c5_ >>> ((8 : Int32) &&& 31)).toInt8.toInt32)), (.int ((c6_ >>> ((0 : Int32) &&& 31)).toInt8.toInt32)), (.int ((c6_ >>> ((8 : Int32) &&& 31)).toInt8.toInt32))] (.int 0)) :
  Meets1 l ym11 jdk_52_method_15_code 2 (some .byte) ws ({ frames := 0, cells := 0, slots := 0, locals := 0 } : Room) #[(.ref b387), (.int 7)] Z h0 (fun v h L => v = some (.int 1) ∧ Fr n0 L ∧ Keep h0 h []) := by
 refine MetFree.of_bodySF (plainFor_of_name pn12) hisR ?_
 intro p e s m args below meth c s₁ Bd hml0 hP hK
 obtain ⟨rfl, hZ, hh⟩ := hP
 have hx := Bd.exec
 have hby := Bd.bytes
 have hml : c.maxLocals = 2 := hml0
 have hown : s.vm.findClass "java/lang/StringUTF16" = some m.cls := findClass_of_methodNamed Bd.named
 have hnm := (name_of_methodNamed Bd.named Bd.method).1
 have X0 : Stand p l e ({ frames := 0, cells := 0, slots := 0, locals := 0 } : Room) s m #[(.ref b387), (.int 7)] below meth c s₁ [] 0 0 := Stand.of_body Bd
 have e0 : s₁.heap = h0 := by rw [← hh, Bd.state]; rfl
 have N0 := Fr.nil n0
 have Z0 := own_old_le O0
 show Ends _ _ _ _ s₁ (entryFrame m #[(.ref b387), (.int 7)] 2) ({ frames := 0, cells := 0, slots := 0, locals := 0 } : Room).cells ({ frames := 0, cells := 0, slots := 0, locals := 0 } : Room).slots (fun v h L => v = some (.int 1) ∧ Fr n0 L ∧ Keep h0 h [])
 refine Ends.go (fun _ k => castTop (ef12_ri m b387 (7 : Int32)) k) ?_
 have K0 := Keep.refl h0 []
 show Ends _ _ _ _ s₁ (mkF m 0 #[cr b387, ci 7] []) _ _ _
 refine wilN X0 hx hby d12_0 rfl ?_
 refine walN X0 hx hby d12_1 rfl rfl ?_
 obtain ⟨cl390, Ar390, q390, S390, M390, H390, G390⟩ := id PV_b387
 refine Ends.go (X0.arraylength hx (by rw [e0]; exact Ar390.1) (State.isArrayOf_alike hZ.alike Ar390.2.1) (g := (mkF m 2 #[cr b387, ci 7] [(.ref b387), (.int 7)])) rfl rfl (hb hby d12_2)) ?_
 rw [len_of S390 M390]
 refine wis X0 hx hby d12_3 ?_
 show Ends _ _ _ _ s₁ (mkF m 4 #[cr b387, ci 7] [(.int (-7))]) _ _ _
 refine wbp X0 hx hby d12_4 ?_
 refine .go (fun _ => XS.iushr X0.here hx rfl (hb hby d12_6) rfl) ?_
 refine .go (fun _ => XS.i2b X0.here hx rfl (hb hby d12_7) rfl) ?_
 refine Ends.retZ X0 hx Bd.notSynchronized (t := .byte) Bd.returns (by simp) (hb hby d12_8) (by decide) (by decide) ?_
 rw [e0]
 exact ⟨rfl, N0, K0⟩

set_option maxRecDepth 65536 in
set_option maxHeartbeats 40000000 in
theorem rx3_311 (l : Launch) (Z : State) (a0 : Array Value) (hw : ∀ d ∈ tables_1, d.before a0 Z = true) (ws : List Jvm.Cond) (n0 : Nat) (h0 : Heap) (O0 : Old Z n0 h0) (G1 : Int32) (G3 : Value) (GF : GlobF Z G1 G3) (b216 : Addr) (x10 : Addr) (kx10 : ClassId) (c0_ : Int32) (c1_ : Int32) (c2_ : Int32) (c3_ : Int32) (c4_ : Int32) (c5_ : Int32) (c6_ : Int32) (PV_x10 : Arv Z h0 x10 kx10 .char (7 : Int32) [(.int c0_), (.int c1_), (.int c2_), (.int c3_), (.int c4_), (.int c5_), (.int c6_)] (.int 0)) (PE_b216 : Exa Z h0 b216 "java/lang/String") (PF_b216_coder : Fld Z h0 b216 "java/lang/String" "coder" "B" (.int 0)) (PF_b216_value : Fld Z h0 b216 "java/lang/String" "value" "[B" .null) (g_b216 : n0 ≤ b216) (hbig_ : ¬ (own_lat c0_ c1_ c2_ c3_ c4_ c5_ c6_)) (hc0_ : 0 ≤ c0_.toInt ∧ c0_.toInt < 65536) (hc1_ : 0 ≤ c1_.toInt ∧ c1_.toInt < 65536) (hc2_ : 0 ≤ c2_.toInt ∧ c2_.toInt < 65536) (hc3_ : 0 ≤ c3_.toInt ∧ c3_.toInt < 65536) (hc4_ : 0 ≤ c4_.toInt ∧ c4_.toInt < 65536) (hc5_ : 0 ≤ c5_.toInt ∧ c5_.toInt < 65536) (hc6_ : 0 ≤ c6_.toInt ∧ c6_.toInt < 65536) :
  Meets1 l ym12 jdk_42_method_149_code 6 none ws ({ frames := 4, cells := 2, slots := 21, locals := 57 } : Room) #[(.ref b216), (.ref x10), (.int 0), (.int 7), .null] Z h0 (fun v h L => ∃ (b386 : Addr) (b387 : Addr) (k388 : ClassId), v = none ∧ Fr n0 L ∧ Keep h0 h [b216] ∧ h0.size ≤ b386 ∧ h0.size ≤ b387 ∧ Arv Z h b387 k388 .byte (14 : Int32) [(.int ((c0_ >>> ((0 : Int32) &&& 31)).toInt8.toInt32)), (.int ((c0_ >>> ((8 : Int32) &&& 31)).toInt8.toInt32)), (.int ((c1_ >>> ((0 : Int32) &&& 31)).toInt8.toInt32)), (.int ((c1_ >>> ((8 : Int32) &&& 31)).toInt8.toInt32)), (.int ((c2_ >>> ((0 : Int32) &&& 31)).toInt8.toInt32)), (.int ((c2_ >>> ((8 : Int32) &&& 31)).toInt8.toInt32)), (.int ((c3_ >>> ((0 : Int32) &&& 31)).toInt8.toInt32)), (.int ((c3_ >>> ((8 : Int32) &&& 31)).toInt8.toInt32)), (.int ((c4_ >>> ((0 : Int32) &&& 31)).toInt8.toInt32)), (.int ((c4_ >>> ((8 : Int32) &&& 31)).toInt8.toInt32)), (.int ((c5_ >>> ((0 : Int32) &&& 31)).toInt8.toInt32)), (.int ((c5_ >>> ((8 : Int32) &&& 31)).toInt8.toInt32)), (.int ((c6_ >>> ((0 : Int32) &&& 31)).toInt8.toInt32)), (.int ((c6_ >>> ((8 : Int32) &&& 31)).toInt8.toInt32))] (.int 0) ∧ Fld Z h b216 "java/lang/String" "coder" "B" (.int 1) ∧ Fld Z h b216 "java/lang/String" "value" "[B" (.ref b387)) := by
 refine MetFree.of_bodySF (plainFor_of_name pn3) hisR ?_
 intro p e s m args below meth c s₁ Bd hml0 hP hK
 obtain ⟨rfl, hZ, hh⟩ := hP
 have hx := Bd.exec
 have hby := Bd.bytes
 have hml : c.maxLocals = 6 := hml0
 have hown : s.vm.findClass "java/lang/String" = some m.cls := findClass_of_methodNamed Bd.named
 have hnm := (name_of_methodNamed Bd.named Bd.method).1
 have X0 : Stand p l e ({ frames := 4, cells := 2, slots := 21, locals := 57 } : Room) s m #[(.ref b216), (.ref x10), (.int 0), (.int 7), .null] below meth c s₁ [] 0 0 := Stand.of_body Bd
 have e0 : s₁.heap = h0 := by rw [← hh, Bd.state]; rfl
 have N0 := Fr.nil n0
 have Z0 := own_old_le O0
 show Ends _ _ _ _ s₁ (entryFrame m #[(.ref b216), (.ref x10), (.int 0), (.int 7), .null] 6) ({ frames := 4, cells := 2, slots := 21, locals := 57 } : Room).cells ({ frames := 4, cells := 2, slots := 21, locals := 57 } : Room).slots (fun v h L => ∃ (b386 : Addr) (b387 : Addr) (k388 : ClassId), v = none ∧ Fr n0 L ∧ Keep h0 h [b216] ∧ h0.size ≤ b386 ∧ h0.size ≤ b387 ∧ Arv Z h b387 k388 .byte (14 : Int32) [(.int ((c0_ >>> ((0 : Int32) &&& 31)).toInt8.toInt32)), (.int ((c0_ >>> ((8 : Int32) &&& 31)).toInt8.toInt32)), (.int ((c1_ >>> ((0 : Int32) &&& 31)).toInt8.toInt32)), (.int ((c1_ >>> ((8 : Int32) &&& 31)).toInt8.toInt32)), (.int ((c2_ >>> ((0 : Int32) &&& 31)).toInt8.toInt32)), (.int ((c2_ >>> ((8 : Int32) &&& 31)).toInt8.toInt32)), (.int ((c3_ >>> ((0 : Int32) &&& 31)).toInt8.toInt32)), (.int ((c3_ >>> ((8 : Int32) &&& 31)).toInt8.toInt32)), (.int ((c4_ >>> ((0 : Int32) &&& 31)).toInt8.toInt32)), (.int ((c4_ >>> ((8 : Int32) &&& 31)).toInt8.toInt32)), (.int ((c5_ >>> ((0 : Int32) &&& 31)).toInt8.toInt32)), (.int ((c5_ >>> ((8 : Int32) &&& 31)).toInt8.toInt32)), (.int ((c6_ >>> ((0 : Int32) &&& 31)).toInt8.toInt32)), (.int ((c6_ >>> ((8 : Int32) &&& 31)).toInt8.toInt32))] (.int 0) ∧ Fld Z h b216 "java/lang/String" "coder" "B" (.int 1) ∧ Fld Z h b216 "java/lang/String" "value" "[B" (.ref b387))
 refine Ends.go (fun _ k => castTop (ef3_rriin m b216 x10 (0 : Int32) (7 : Int32)) k) ?_
 obtain ⟨SCS, P5, SAD, SHI, SLO, SSF, RG3⟩ := id GF
 have K0 := Keep.refl h0 [b216]
 show Ends _ _ _ _ s₁ (mkF m 0 #[cr b216, cr x10, ci 0, ci 7, .val .null, cu] []) _ _ _
 refine walN X0 hx hby d3_0 rfl rfl ?_
 obtain ⟨T312, X312, e312, st312⟩ := initO X0 hx hZ hown (ow hw 19 rfl) (ow hw 20 rfl) (ow hw 21 rfl) e0 (g := (mkF m 1 #[cr b216, cr x10, ci 0, ci 7, .val .null, cu] [(.ref b216)])) rfl (by rw [hml]; rfl) rfl (hb hby d3_1) (by decide) (W := 0) (by show 2 * 0 + _ ≤ _; exact Nat.le_of_eq rfl) (by decide)
 refine Ends.go st312 ?_
 refine wilN X312 hx hby d3_4 rfl ?_
 refine wiy (pc := 5) (pc' := 27) X312 hx hby d3_5 ((if0 _ _).trans (feq (by decide : ¬ ((7 : Int32) = (0 : Int32)))).2) (by decide) (by decide) ?_
 show Ends _ _ _ _ T312 (mkF m 27 #[cr b216, cr x10, ci 0, ci 7, .val .null, cu] []) _ _ _
 obtain ⟨T313, X313, e313, st313⟩ := getS2 X312 hx hZ hown (host := "") (Or.inl (ow hw 22 rfl)) Via.refl e312 (SCS.ext O0.2) (g := (mkF m 27 #[cr b216, cr x10, ci 0, ci 7, .val .null, cu] [])) rfl (hb hby d3_27)
 refine Ends.go st313 ?_
 refine win X313 hx hby d3_30 ((if0 _ _).trans (feq (P5 : ¬ (G1 = (0 : Int32)))).1) ?_
 refine walN X313 hx hby d3_33 rfl rfl ?_
 refine wilN X313 hx hby d3_34 rfl ?_
 refine wilN X313 hx hby d3_35 rfl ?_
 show Ends _ _ _ _ T313 (mkF m 36 #[cr b216, cr x10, ci 0, ci 7, .val .null, cu] [(.int 7), (.int 0), (.ref x10)]) _ _ _
 obtain ⟨_, _, ⟨T385, L385, k385, n385⟩, -, X385, ⟨Lc385, hQ385, l385, y385, z385⟩, st385⟩ := Jvm.LawKit.callS X313 hx (y := ym10) hown (mvT hZ (ow hw 23 rfl)) (mvT hZ (ow hw 24 rfl)) (mvT hZ (ow hw 25 rfl)) (mvT hZ (ow hw 26 rfl)) (by decide) (own_backOf (W := 0) (rx5_314 l Z a0 hw [] n0 h0 O0 G1 G3 GF x10 kx10 c0_ c1_ c2_ c3_ c4_ c5_ c6_ PV_x10 hbig_ hc0_ hc1_ hc2_ hc3_ hc4_ hc5_ hc6_) hZ (ow hw 26 rfl) (ow hw 25 rfl) (by decide) (by decide)) (g := (mkF m 36 #[cr b216, cr x10, ci 0, ci 7, .val .null, cu] [(.int 7), (.int 0), (.ref x10)])) rfl (by rw [hml]; rfl) (argsL := [(.ref x10), (.int 0), (.int 7)]) (rest := []) (lenOf pdx_5 rfl) rfl (by show 2 * 0 + _ ≤ _; exact Nat.le_of_eq rfl) (hb hby d3_36) (fun _ _ => ⟨rfl, e313, (by decide : 0 + 2 ≤ _), (by decide : 0 + 21 ≤ _)⟩)
 dsimp only [Pt.U, Pt.locs, Pt.cells, Pt.slots] at X385 l385 y385 z385 st385 hQ385
 subst l385 y385 z385
 obtain ⟨b386, b387, k388, rfl, N385q, K385c, hb385_b386, hb385_b387, Y385_0⟩ := hQ385
 have N385 := Fr.app N0 N385q
 refine Ends.go st385 ?_
 have g_b386 : n0 ≤ b386 := Nat.le_trans (own_old_le O0) hb385_b386
 have sz_b386 : h0.size ≤ b386 := Nat.le_trans K0.1 hb385_b386
 have g_b387 : n0 ≤ b387 := Nat.le_trans (own_old_le O0) hb385_b387
 have sz_b387 : h0.size ≤ b387 := Nat.le_trans K0.1 hb385_b387
 obtain ⟨h385, e385⟩ : ∃ z, T385.heap = z := ⟨_, rfl⟩
 rw [e385] at K385c Y385_0
 have K385 := K0.trans K385c all0
 have O385 := O0.keep K385c all0
 refine was X385 hx hby d3_39 (l' := #[cr b216, cr x10, ci 0, ci 7, .val .null, cr b387]) rfl rfl ?_
 refine walN X385 hx hby d3_41 rfl rfl ?_
 refine wal X385 hx hby d3_42 rfl rfl ?_
 refine wilN X385 hx hby d3_44 rfl ?_
 show Ends _ _ _ _ T385 (mkF m 45 #[cr b216, cr x10, ci 0, ci 7, .val .null, cr b387] [(.int 7), (.ref b387), (.ref b216)]) _ _ _
 obtain ⟨_, _, ⟨T391, L391, k391, n391⟩, -, X391, ⟨Lc391, hQ391, l391, y391, z391⟩, st391⟩ := Jvm.LawKit.callS X385 hx (y := ym11) hown (mvT hZ (ow hw 50 rfl)) (mvT hZ (ow hw 51 rfl)) (mvT hZ (ow hw 25 rfl)) (mvT hZ (ow hw 52 rfl)) (by decide) (own_backOf (W := 1) (rx12_389 l Z a0 hw [] n0 h385 O385  b387 k388 c0_ c1_ c2_ c3_ c4_ c5_ c6_ Y385_0) hZ (ow hw 52 rfl) (ow hw 25 rfl) (by decide) (by decide)) (g := (mkF m 45 #[cr b216, cr x10, ci 0, ci 7, .val .null, cr b387] [(.int 7), (.ref b387), (.ref b216)])) rfl (by rw [hml]; rfl) (argsL := [(.ref b387), (.int 7)]) (rest := [(.ref b216)]) (lenOf pdx_6 rfl) rfl (by show 2 * 0 + _ ≤ _; exact Nat.le_of_eq rfl) (hb hby d3_45) (fun _ _ => ⟨rfl, e385, (by decide : 2 + 0 ≤ _), (by decide : 21 + 0 ≤ _)⟩)
 dsimp only [Pt.U, Pt.locs, Pt.cells, Pt.slots] at X391 l391 y391 z391 st391 hQ391
 subst l391 y391 z391
 obtain ⟨rfl, N391q, K391c⟩ := hQ391
 have N391 := Fr.app N385 N391q
 refine Ends.go st391 ?_
 obtain ⟨h391, e391⟩ : ∃ z, T391.heap = z := ⟨_, rfl⟩
 rw [e391] at K391c
 have K391 := K385.trans K391c all0
 have O391 := O385.keep K391c all0
 obtain ⟨T392, h392, X392, e392, W392, st392⟩ := putFN X391 hx hZ hown (ow hw 53 rfl) Via.refl e391 ((PF_b216_coder.keep K385c nin0).keep K391c nin0) ((PE_b216.keep K385c).keep K391c) (Or.inr ⟨(ow hw 54 rfl), rfl, hnm⟩) (ow hw 10 rfl) (ty := .byte) (v' := (.int 1)) (by decide) rfl (by decide) (g := (mkF m 48 #[cr b216, cr x10, ci 0, ci 7, .val .null, cr b387] [(.int 1), (.ref b216)])) rfl rfl (hb hby d3_48)
 refine Ends.go st392 ?_
 have Fw392 := ((PF_b216_coder.keep K385c nin0).keep K391c nin0).same W392
 have K392 := K391.wr W392 (Or.inl (List.mem_of_getElem? (i := 0) rfl))
 have O392 := O391.wr W392 g_b216
 have N392 := Fr.snoc X392 N391 g_b216
 refine walN X392 hx hby d3_51 rfl rfl ?_
 refine wal X392 hx hby d3_52 rfl rfl ?_
 obtain ⟨T393, h393, X393, e393, W393, st393⟩ := putF X392 hx hZ hown (host := "") (Or.inl (ow hw 55 rfl)) Via.refl e392 (((PF_b216_value.keep K385c nin0).keep K391c nin0).other W392 (Or.inr (slot_ne (Or.inr (ow hw 56 rfl)) (Or.inr (ow hw 54 rfl)) (by decide) (t := (.array .byte)) (t' := .byte) (by decide) (by decide)))) (((PE_b216.keep K385c).keep K391c).wr W392) (Or.inr ⟨(ow hw 56 rfl), rfl, hnm⟩) (ow hw 10 rfl) (ty := (.array .byte)) (by decide) rfl rfl (g := (mkF m 54 #[cr b216, cr x10, ci 0, ci 7, .val .null, cr b387] [(.ref b387), (.ref b216)])) rfl rfl (hb hby d3_54)
 refine Ends.go st393 ?_
 have Fw393 := (((PF_b216_value.keep K385c nin0).keep K391c nin0).other W392 (Or.inr (slot_ne (Or.inr (ow hw 56 rfl)) (Or.inr (ow hw 54 rfl)) (by decide) (t := (.array .byte)) (t' := .byte) (by decide) (by decide)))).same W393
 have K393 := K392.wr W393 (Or.inl (List.mem_of_getElem? (i := 0) rfl))
 have O393 := O392.wr W393 g_b216
 have N393 := Fr.snoc X393 N392 g_b216
 show Ends _ _ _ _ T393 (mkF m 57 #[cr b216, cr x10, ci 0, ci 7, .val .null, cr b387] []) _ _ _
 refine Ends.retV X393 hx Bd.notSynchronized Bd.returns (hb hby d3_57) (by decide) (by decide) ?_
 rw [e393]
 exact ⟨b386, b387, k388, rfl, N393, K393, sz_b386, sz_b387, (((Y385_0.keep K391c nin0).other W392 (Ne.symm (Nat.ne_of_lt (Nat.lt_of_lt_of_le PE_b216.lt sz_b387)))).other W393 (Ne.symm (Nat.ne_of_lt (Nat.lt_of_lt_of_le PE_b216.lt sz_b387)))), (Fw392.other W393 (Or.inr (slot_ne (Or.inr (ow hw 54 rfl)) (Or.inr (ow hw 56 rfl)) (by decide) (t := .byte) (t' := (.array .byte)) (by decide) (by decide)))), Fw393⟩

set_option maxRecDepth 65536 in
set_option maxHeartbeats 40000000 in
theorem rx2_309 (l : Launch) (Z : State) (a0 : Array Value) (hw : ∀ d ∈ tables_1, d.before a0 Z = true) (ws : List Jvm.Cond) (n0 : Nat) (h0 : Heap) (O0 : Old Z n0 h0) (G1 : Int32) (G3 : Value) (GF : GlobF Z G1 G3) (b216 : Addr) (x10 : Addr) (kx10 : ClassId) (c0_ : Int32) (c1_ : Int32) (c2_ : Int32) (c3_ : Int32) (c4_ : Int32) (c5_ : Int32) (c6_ : Int32) (PV_x10 : Arv Z h0 x10 kx10 .char (7 : Int32) [(.int c0_), (.int c1_), (.int c2_), (.int c3_), (.int c4_), (.int c5_), (.int c6_)] (.int 0)) (PE_b216 : Exa Z h0 b216 "java/lang/String") (PF_b216_coder : Fld Z h0 b216 "java/lang/String" "coder" "B" (.int 0)) (PF_b216_value : Fld Z h0 b216 "java/lang/String" "value" "[B" .null) (g_b216 : n0 ≤ b216) (hbig_ : ¬ (own_lat c0_ c1_ c2_ c3_ c4_ c5_ c6_)) (hc0_ : 0 ≤ c0_.toInt ∧ c0_.toInt < 65536) (hc1_ : 0 ≤ c1_.toInt ∧ c1_.toInt < 65536) (hc2_ : 0 ≤ c2_.toInt ∧ c2_.toInt < 65536) (hc3_ : 0 ≤ c3_.toInt ∧ c3_.toInt < 65536) (hc4_ : 0 ≤ c4_.toInt ∧ c4_.toInt < 65536) (hc5_ : 0 ≤ c5_.toInt ∧ c5_.toInt < 65536) (hc6_ : 0 ≤ c6_.toInt ∧ c6_.toInt < 65536) :
  Meets1 l ym13 jdk_42_method_3_code 2 none ws ({ frames := 5, cells := 2, slots := 21, locals := 74 } : Room) #[(.ref b216), (.ref x10)] Z h0 (fun v h L => ∃ (b395 : Addr) (b396 : Addr) (k397 : ClassId), v = none ∧ Fr n0 L ∧ Keep h0 h [b216] ∧ h0.size ≤ b395 ∧ h0.size ≤ b396 ∧ Arv Z h b396 k397 .byte (14 : Int32) [(.int ((c0_ >>> ((0 : Int32) &&& 31)).toInt8.toInt32)), (.int ((c0_ >>> ((8 : Int32) &&& 31)).toInt8.toInt32)), (.int ((c1_ >>> ((0 : Int32) &&& 31)).toInt8.toInt32)), (.int ((c1_ >>> ((8 : Int32) &&& 31)).toInt8.toInt32)), (.int ((c2_ >>> ((0 : Int32) &&& 31)).toInt8.toInt32)), (.int ((c2_ >>> ((8 : Int32) &&& 31)).toInt8.toInt32)), (.int ((c3_ >>> ((0 : Int32) &&& 31)).toInt8.toInt32)), (.int ((c3_ >>> ((8 : Int32) &&& 31)).toInt8.toInt32)), (.int ((c4_ >>> ((0 : Int32) &&& 31)).toInt8.toInt32)), (.int ((c4_ >>> ((8 : Int32) &&& 31)).toInt8.toInt32)), (.int ((c5_ >>> ((0 : Int32) &&& 31)).toInt8.toInt32)), (.int ((c5_ >>> ((8 : Int32) &&& 31)).toInt8.toInt32)), (.int ((c6_ >>> ((0 : Int32) &&& 31)).toInt8.toInt32)), (.int ((c6_ >>> ((8 : Int32) &&& 31)).toInt8.toInt32))] (.int 0) ∧ Fld Z h b216 "java/lang/String" "coder" "B" (.int 1) ∧ Fld Z h b216 "java/lang/String" "value" "[B" (.ref b396)) := by
 refine MetFree.of_bodySF (plainFor_of_name pn2) hisR ?_
 intro p e s m args below meth c s₁ Bd hml0 hP hK
 obtain ⟨rfl, hZ, hh⟩ := hP
 have hx := Bd.exec
 have hby := Bd.bytes
 have hml : c.maxLocals = 2 := hml0
 have hown : s.vm.findClass "java/lang/String" = some m.cls := findClass_of_methodNamed Bd.named
 have hnm := (name_of_methodNamed Bd.named Bd.method).1
 have X0 : Stand p l e ({ frames := 5, cells := 2, slots := 21, locals := 74 } : Room) s m #[(.ref b216), (.ref x10)] below meth c s₁ [] 0 0 := Stand.of_body Bd
 have e0 : s₁.heap = h0 := by rw [← hh, Bd.state]; rfl
 have N0 := Fr.nil n0
 have Z0 := own_old_le O0
 show Ends _ _ _ _ s₁ (entryFrame m #[(.ref b216), (.ref x10)] 2) ({ frames := 5, cells := 2, slots := 21, locals := 74 } : Room).cells ({ frames := 5, cells := 2, slots := 21, locals := 74 } : Room).slots (fun v h L => ∃ (b395 : Addr) (b396 : Addr) (k397 : ClassId), v = none ∧ Fr n0 L ∧ Keep h0 h [b216] ∧ h0.size ≤ b395 ∧ h0.size ≤ b396 ∧ Arv Z h b396 k397 .byte (14 : Int32) [(.int ((c0_ >>> ((0 : Int32) &&& 31)).toInt8.toInt32)), (.int ((c0_ >>> ((8 : Int32) &&& 31)).toInt8.toInt32)), (.int ((c1_ >>> ((0 : Int32) &&& 31)).toInt8.toInt32)), (.int ((c1_ >>> ((8 : Int32) &&& 31)).toInt8.toInt32)), (.int ((c2_ >>> ((0 : Int32) &&& 31)).toInt8.toInt32)), (.int ((c2_ >>> ((8 : Int32) &&& 31)).toInt8.toInt32)), (.int ((c3_ >>> ((0 : Int32) &&& 31)).toInt8.toInt32)), (.int ((c3_ >>> ((8 : Int32) &&& 31)).toInt8.toInt32)), (.int ((c4_ >>> ((0 : Int32) &&& 31)).toInt8.toInt32)), (.int ((c4_ >>> ((8 : Int32) &&& 31)).toInt8.toInt32)), (.int ((c5_ >>> ((0 : Int32) &&& 31)).toInt8.toInt32)), (.int ((c5_ >>> ((8 : Int32) &&& 31)).toInt8.toInt32)), (.int ((c6_ >>> ((0 : Int32) &&& 31)).toInt8.toInt32)), (.int ((c6_ >>> ((8 : Int32) &&& 31)).toInt8.toInt32))] (.int 0) ∧ Fld Z h b216 "java/lang/String" "coder" "B" (.int 1) ∧ Fld Z h b216 "java/lang/String" "value" "[B" (.ref b396))
 refine Ends.go (fun _ k => castTop (ef2_rr m b216 x10) k) ?_
 obtain ⟨SCS, P5, SAD, SHI, SLO, SSF, RG3⟩ := id GF
 have K0 := Keep.refl h0 [b216]
 show Ends _ _ _ _ s₁ (mkF m 0 #[cr b216, cr x10] []) _ _ _
 refine walN X0 hx hby d2_0 rfl rfl ?_
 refine walN X0 hx hby d2_1 rfl rfl ?_
 refine wic X0 hx hby d2_2 ?_
 refine walN X0 hx hby d2_3 rfl rfl ?_
 show Ends _ _ _ _ s₁ (mkF m 4 #[cr b216, cr x10] [(.ref x10), (.int 0), (.ref x10), (.ref b216)]) _ _ _
 obtain ⟨cl310, Ar310, q310, S310, M310, H310, G310⟩ := id PV_x10
 refine Ends.go (X0.arraylength hx (by rw [e0]; exact Ar310.1) (State.isArrayOf_alike hZ.alike Ar310.2.1) (g := (mkF m 4 #[cr b216, cr x10] [(.ref x10), (.int 0), (.ref x10), (.ref b216)])) rfl rfl (hb hby d2_4)) ?_
 rw [len_of S310 M310]
 refine .go (fun _ => XS.aconstNull X0.here hx rfl (hb hby d2_5)) ?_
 obtain ⟨_, _, ⟨T394, L394, k394, n394⟩, -, X394, ⟨Lc394, hQ394, l394, y394, z394⟩, st394⟩ := X0.specialBack hx (y := ym12) rfl hown (mvT hZ (ow hw 15 rfl)) (mvT hZ (ow hw 16 rfl)) (mvT hZ (ow hw 18 rfl)) (by decide) (own_backOf (W := 0) (rx3_311 l Z a0 hw [] n0 h0 O0 G1 G3 GF b216 x10 kx10 c0_ c1_ c2_ c3_ c4_ c5_ c6_ PV_x10 PE_b216 PF_b216_coder PF_b216_value g_b216 hbig_ hc0_ hc1_ hc2_ hc3_ hc4_ hc5_ hc6_) hZ (ow hw 18 rfl) (ow hw 11 rfl) (by decide) (by decide)) (g := (mkF m 6 #[cr b216, cr x10] [.null, (.int 7), (.int 0), (.ref x10), (.ref b216)])) rfl (by rw [hml]; rfl) (Steps.refl _) (a := b216) (argsL := [(.ref x10), (.int 0), (.int 7), .null]) (rest := []) (lenOf pdx_7 rfl) rfl (by show 2 * 0 + _ ≤ _; exact Nat.le_of_eq rfl) (hb hby d2_6) (fun _ _ => ⟨rfl, e0, (by decide : 0 + 2 ≤ _), (by decide : 0 + 21 ≤ _)⟩)
 dsimp only [Pt.U, Pt.locs, Pt.cells, Pt.slots] at X394 l394 y394 z394 st394 hQ394
 subst l394 y394 z394
 obtain ⟨b395, b396, k397, rfl, N394q, K394c, hb394_b395, hb394_b396, Y394_0, Y394_1, Y394_2⟩ := hQ394
 have N394 := Fr.app N0 N394q
 refine Ends.go (fun _ k => st394.trans k) ?_
 have g_b395 : n0 ≤ b395 := Nat.le_trans (own_old_le O0) hb394_b395
 have sz_b395 : h0.size ≤ b395 := Nat.le_trans K0.1 hb394_b395
 have g_b396 : n0 ≤ b396 := Nat.le_trans (own_old_le O0) hb394_b396
 have sz_b396 : h0.size ≤ b396 := Nat.le_trans K0.1 hb394_b396
 obtain ⟨h394, e394⟩ : ∃ z, T394.heap = z := ⟨_, rfl⟩
 rw [e394] at K394c Y394_0 Y394_1 Y394_2
 have K394 := K0.trans K394c (allS (Or.inl (List.mem_of_getElem? (i := 0) rfl)) all0)
 have O394 := O0.keep K394c (allS g_b216 all0)
 refine Ends.retV X394 hx Bd.notSynchronized Bd.returns (hb hby d2_9) (by decide) (by decide) ?_
 rw [e394]
 exact ⟨b395, b396, k397, rfl, N394, K394, sz_b395, sz_b396, Y394_0, Y394_1, Y394_2⟩

set_option maxRecDepth 65536 in
set_option maxHeartbeats 40000000 in
theorem rx16_408 (l : Launch) (Z : State) (a0 : Array Value) (hw : ∀ d ∈ tables_1, d.before a0 Z = true) (ws : List Jvm.Cond) (n0 : Nat) (h0 : Heap) (O0 : Old Z n0 h0) (G1 : Int32) (G3 : Value) (GF : GlobF Z G1 G3) (b216 : Addr) (PF_b216_coder : Fld Z h0 b216 "java/lang/String" "coder" "B" (.int 1)) :
  Meets1 l ym15 jdk_42_method_152_code 1 (some .byte) ws ({ frames := 0, cells := 0, slots := 0, locals := 0 } : Room) #[(.ref b216)] Z h0 (fun v h L => v = some (.int 1) ∧ Fr n0 L ∧ Keep h0 h []) := by
 refine MetFree.of_bodySF (plainFor_of_name pn16) hisR ?_
 intro p e s m args below meth c s₁ Bd hml0 hP hK
 obtain ⟨rfl, hZ, hh⟩ := hP
 have hx := Bd.exec
 have hby := Bd.bytes
 have hml : c.maxLocals = 1 := hml0
 have hown : s.vm.findClass "java/lang/String" = some m.cls := findClass_of_methodNamed Bd.named
 have hnm := (name_of_methodNamed Bd.named Bd.method).1
 have X0 : Stand p l e ({ frames := 0, cells := 0, slots := 0, locals := 0 } : Room) s m #[(.ref b216)] below meth c s₁ [] 0 0 := Stand.of_body Bd
 have e0 : s₁.heap = h0 := by rw [← hh, Bd.state]; rfl
 have N0 := Fr.nil n0
 have Z0 := own_old_le O0
 show Ends _ _ _ _ s₁ (entryFrame m #[(.ref b216)] 1) ({ frames := 0, cells := 0, slots := 0, locals := 0 } : Room).cells ({ frames := 0, cells := 0, slots := 0, locals := 0 } : Room).slots (fun v h L => v = some (.int 1) ∧ Fr n0 L ∧ Keep h0 h [])
 refine Ends.go (fun _ k => castTop (ef16_r m b216) k) ?_
 obtain ⟨SCS, P5, SAD, SHI, SLO, SSF, RG3⟩ := id GF
 have K0 := Keep.refl h0 []
 show Ends _ _ _ _ s₁ (mkF m 0 #[cr b216] []) _ _ _
 obtain ⟨T409, X409, e409, st409⟩ := getS2 X0 hx hZ hown (host := "") (Or.inl (ow hw 22 rfl)) Via.refl e0 (SCS.ext O0.2) (g := (mkF m 0 #[cr b216] [])) rfl (hb hby d16_0)
 refine Ends.go st409 ?_
 refine win X409 hx hby d16_3 ((if0 _ _).trans (feq (P5 : ¬ (G1 = (0 : Int32)))).1) ?_
 refine walN X409 hx hby d16_6 rfl rfl ?_
 obtain ⟨T410, X410, e410, st410⟩ := getF X409 hx hZ hown (host := "") (Or.inl (ow hw 53 rfl)) Via.refl e409 PF_b216_coder (g := (mkF m 7 #[cr b216] [(.ref b216)])) rfl rfl (hb hby d16_7)
 refine Ends.go st410 ?_
 show Ends _ _ _ _ T410 (mkF m 10 #[cr b216] [(.int 1)]) _ _ _
 refine wgo (pc := 10) (pc' := 14) X410 hx hby d16_10 (by decide) (by decide) ?_
 refine Ends.retZ X410 hx Bd.notSynchronized (t := .byte) Bd.returns (by simp) (hb hby d16_14) (by decide) (by decide) ?_
 rw [e410]
 exact ⟨rfl, N0, K0⟩

set_option maxRecDepth 65536 in
set_option maxHeartbeats 40000000 in
theorem rx15_405 (l : Launch) (Z : State) (a0 : Array Value) (hw : ∀ d ∈ tables_1, d.before a0 Z = true) (ws : List Jvm.Cond) (n0 : Nat) (h0 : Heap) (O0 : Old Z n0 h0) (G1 : Int32) (G3 : Value) (GF : GlobF Z G1 G3) (b216 : Addr) (b400 : Addr) (k401 : ClassId) (c0_ : Int32) (c1_ : Int32) (c2_ : Int32) (c3_ : Int32) (c4_ : Int32) (c5_ : Int32) (c6_ : Int32) (PF_b216_value : Fld Z h0 b216 "java/lang/String" "value" "[B" (.ref b400)) (PV_b400 : Arv Z h0 b400 k401 .byte (14 : Int32) [(.int ((c0_ >>> ((0 : Int32) &&& 31)).toInt8.toInt32)), (.int ((c0_ >>> ((8 : Int32) &&& 31)).toInt8.toInt32)), (.int ((c1_ >>> ((0 : Int32) &&& 31)).toInt8.toInt32)), (.int ((c1_ >>> ((8 : Int32) &&& 31)).toInt8.toInt32)), (.int ((c2_ >>> ((0 : Int32) &&& 31)).toInt8.toInt32)), (.int ((c2_ >>> ((8 : Int32) &&& 31)).toInt8.toInt32)), (.int ((c3_ >>> ((0 : Int32) &&& 31)).toInt8.toInt32)), (.int ((c3_ >>> ((8 : Int32) &&& 31)).toInt8.toInt32)), (.int ((c4_ >>> ((0 : Int32) &&& 31)).toInt8.toInt32)), (.int ((c4_ >>> ((8 : Int32) &&& 31)).toInt8.toInt32)), (.int ((c5_ >>> ((0 : Int32) &&& 31)).toInt8.toInt32)), (.int ((c5_ >>> ((8 : Int32) &&& 31)).toInt8.toInt32)), (.int ((c6_ >>> ((0 : Int32) &&& 31)).toInt8.toInt32)), (.int ((c6_ >>> ((8 : Int32) &&& 31)).toInt8.toInt32))] (.int 0)) (PF_b216_coder : Fld Z h0 b216 "java/lang/String" "coder" "B" (.int 1)) (PE_b216 : Exa Z h0 b216 "java/lang/String") :
  Meets1 l ym16 jdk_42_method_54_code 1 (some .int) ws ({ frames := 1, cells := 0, slots := 0, locals := 13 } : Room) #[(.ref b216)] Z h0 (fun v h L => v = some (.int 7) ∧ Fr n0 L ∧ Keep h0 h []) := by
 refine MetFree.of_bodySF (plainFor_of_name pn15) hisR ?_
 intro p e s m args below meth c s₁ Bd hml0 hP hK
 obtain ⟨rfl, hZ, hh⟩ := hP
 have hx := Bd.exec
 have hby := Bd.bytes
 have hml : c.maxLocals = 1 := hml0
 have hown : s.vm.findClass "java/lang/String" = some m.cls := findClass_of_methodNamed Bd.named
 have hnm := (name_of_methodNamed Bd.named Bd.method).1
 have X0 : Stand p l e ({ frames := 1, cells := 0, slots := 0, locals := 13 } : Room) s m #[(.ref b216)] below meth c s₁ [] 0 0 := Stand.of_body Bd
 have e0 : s₁.heap = h0 := by rw [← hh, Bd.state]; rfl
 have N0 := Fr.nil n0
 have Z0 := own_old_le O0
 show Ends _ _ _ _ s₁ (entryFrame m #[(.ref b216)] 1) ({ frames := 1, cells := 0, slots := 0, locals := 13 } : Room).cells ({ frames := 1, cells := 0, slots := 0, locals := 13 } : Room).slots (fun v h L => v = some (.int 7) ∧ Fr n0 L ∧ Keep h0 h [])
 refine Ends.go (fun _ k => castTop (ef15_r m b216) k) ?_
 obtain ⟨SCS, P5, SAD, SHI, SLO, SSF, RG3⟩ := id GF
 have K0 := Keep.refl h0 []
 show Ends _ _ _ _ s₁ (mkF m 0 #[cr b216] []) _ _ _
 refine walN X0 hx hby d15_0 rfl rfl ?_
 obtain ⟨T406, X406, e406, st406⟩ := getF X0 hx hZ hown (host := "") (Or.inl (ow hw 55 rfl)) Via.refl e0 PF_b216_value (g := (mkF m 1 #[cr b216] [(.ref b216)])) rfl rfl (hb hby d15_1)
 refine Ends.go st406 ?_
 obtain ⟨cl407, Ar407, q407, S407, M407, H407, G407⟩ := id PV_b400
 refine Ends.go (X406.arraylength hx (by rw [e406]; exact Ar407.1) (State.isArrayOf_alike hZ.alike Ar407.2.1) (g := (mkF m 4 #[cr b216] [(.ref b400)])) rfl rfl (hb hby d15_4)) ?_
 rw [len_of S407 M407]
 refine walN X406 hx hby d15_5 rfl rfl ?_
 show Ends _ _ _ _ T406 (mkF m 6 #[cr b216] [(.ref b216), (.int 14)]) _ _ _
 obtain ⟨cq411, kq411, q411a, q411b, q411c⟩ := isOf hZ e406 PE_b216
 obtain ⟨_, _, ⟨T411, L411, k411, n411⟩, -, X411, ⟨Lc411, hQ411, l411, y411, z411⟩, st411⟩ := X406.virtualBack hx (y := ym15) (z := ym15) hown (mvT hZ (ow hw 73 rfl)) (mvT hZ (ow hw 74 rfl)) (notFace_of_selects (args := #[]) (mvT hZ (ow hw 76 rfl))) (mvT hZ (ow hw 76 rfl)) (mvT hZ (ow hw 75 rfl)) (by decide) (own_backOf (W := 1) (rx16_408 l Z a0 hw [] n0 h0 O0 G1 G3 GF b216 PF_b216_coder) hZ (ow hw 77 rfl) (ow hw 11 rfl) (by decide) (by decide)) q411a q411c (g := (mkF m 6 #[cr b216] [(.ref b216), (.int 14)])) rfl (by rw [hml]; rfl) (Steps.refl _) (argsL := []) (rest := [(.int 14)]) (lenOf pdx_9 rfl) rfl (by show 2 * 0 + _ ≤ _; exact Nat.le_of_eq rfl) (hb hby d15_6) (fun _ _ => ⟨rfl, e406, (by decide : 0 + 0 ≤ _), (by decide : 0 + 0 ≤ _)⟩)
 dsimp only [Pt.U, Pt.locs, Pt.cells, Pt.slots] at X411 l411 y411 z411 st411 hQ411
 subst l411 y411 z411
 obtain ⟨rfl, N411q, K411c⟩ := hQ411
 have N411 := Fr.app N0 N411q
 refine Ends.go (fun _ k => st411.trans k) ?_
 obtain ⟨h411, e411⟩ : ∃ z, T411.heap = z := ⟨_, rfl⟩
 rw [e411] at K411c
 have K411 := K0.trans K411c all0
 have O411 := O0.keep K411c all0
 refine .go (fun _ => XS.ishr X411.here hx rfl (hb hby d15_9) rfl) ?_
 refine Ends.ret X411 hx Bd.notSynchronized (t := .int) Bd.returns rfl (Or.inl ⟨rfl, by simp, _, rfl⟩) (hb hby d15_10) (by decide) (by decide) ?_
 rw [e411]
 exact ⟨rfl, N411, K411⟩

theorem d23_17 : decode jdk_42_method_154_code 17 = .ok (.iconst 0, 1) := by decide +kernel
set_option maxRecDepth 65536 in
set_option maxHeartbeats 40000000 in
theorem rx23_426 (l : Launch) (Z : State) (a0 : Array Value) (hw : ∀ d ∈ tables_1, d.before a0 Z = true) (ws : List Jvm.Cond) (n0 : Nat) (h0 : Heap) (O0 : Old Z n0 h0) (G1 : Int32) (G3 : Value) (GF : GlobF Z G1 G3) (b216 : Addr) (PF_b216_coder : Fld Z h0 b216 "java/lang/String" "coder" "B" (.int 1)) :
  Meets1 l ym18 jdk_42_method_154_code 1 (some .boolean) ws ({ frames := 0, cells := 0, slots := 0, locals := 0 } : Room) #[(.ref b216)] Z h0 (fun v h L => v = some (.int 0) ∧ Fr n0 L ∧ Keep h0 h []) := by
 refine MetFree.of_bodySF (plainFor_of_name pn23) hisR ?_
 intro p e s m args below meth c s₁ Bd hml0 hP hK
 obtain ⟨rfl, hZ, hh⟩ := hP
 have hx := Bd.exec
 have hby := Bd.bytes
 have hml : c.maxLocals = 1 := hml0
 have hown : s.vm.findClass "java/lang/String" = some m.cls := findClass_of_methodNamed Bd.named
 have hnm := (name_of_methodNamed Bd.named Bd.method).1
 have X0 : Stand p l e ({ frames := 0, cells := 0, slots := 0, locals := 0 } : Room) s m #[(.ref b216)] below meth c s₁ [] 0 0 := Stand.of_body Bd
 have e0 : s₁.heap = h0 := by rw [← hh, Bd.state]; rfl
 have N0 := Fr.nil n0
 have Z0 := own_old_le O0
 show Ends _ _ _ _ s₁ (entryFrame m #[(.ref b216)] 1) ({ frames := 0, cells := 0, slots := 0, locals := 0 } : Room).cells ({ frames := 0, cells := 0, slots := 0, locals := 0 } : Room).slots (fun v h L => v = some (.int 0) ∧ Fr n0 L ∧ Keep h0 h [])
 refine Ends.go (fun _ k => castTop (ef23_r m b216) k) ?_
 obtain ⟨SCS, P5, SAD, SHI, SLO, SSF, RG3⟩ := id GF
 have K0 := Keep.refl h0 []
 show Ends _ _ _ _ s₁ (mkF m 0 #[cr b216] []) _ _ _
 obtain ⟨T427, X427, e427, st427⟩ := getS2 X0 hx hZ hown (host := "") (Or.inl (ow hw 22 rfl)) Via.refl e0 (SCS.ext O0.2) (g := (mkF m 0 #[cr b216] [])) rfl (hb hby d23_0)
 refine Ends.go st427 ?_
 refine win X427 hx hby d23_3 ((if0 _ _).trans (feq (P5 : ¬ (G1 = (0 : Int32)))).1) ?_
 refine walN X427 hx hby d23_6 rfl rfl ?_
 obtain ⟨T428, X428, e428, st428⟩ := getF X427 hx hZ hown (host := "") (Or.inl (ow hw 53 rfl)) Via.refl e427 PF_b216_coder (g := (mkF m 7 #[cr b216] [(.ref b216)])) rfl rfl (hb hby d23_7)
 refine Ends.go st428 ?_
 show Ends _ _ _ _ T428 (mkF m 10 #[cr b216] [(.int 1)]) _ _ _
 refine wiy (pc := 10) (pc' := 17) X428 hx hby d23_10 ((if0 _ _).trans (feq (by decide : ¬ ((1 : Int32) = (0 : Int32)))).2) (by decide) (by decide) ?_
 refine wic X428 hx hby d23_17 ?_
 refine Ends.retZ X428 hx Bd.notSynchronized (t := .boolean) Bd.returns (by simp) (hb hby d23_18) (by decide) (by decide) ?_
 rw [e428]
 exact ⟨rfl, N0, K0⟩

theorem d26_0 : decode jdk_52_method_6_code 0 = .ok (.aload_n 0, 1) := by decide +kernel
theorem d26_1 : decode jdk_52_method_6_code 1 = .ok (.arraylength, 1) := by decide +kernel
theorem d26_2 : decode jdk_52_method_6_code 2 = .ok (.iconst 1, 1) := by decide +kernel
theorem d26_3 : decode jdk_52_method_6_code 3 = .ok (.ishr, 1) := by decide +kernel
theorem d26_4 : decode jdk_52_method_6_code 4 = .ok (.ireturn, 1) := by decide +kernel
theorem pn26 : plainName "java/lang/StringUTF16" = true := by first | (simp [plainName, overriddenIn]; done) | decide +kernel
theorem ef26_r (m : MethodId) (x0 : Addr) : entryFrame m #[(.ref x0)] 1 = mkF m 0 #[.val (.ref x0)] [] := by first | (simp [entryFrame, mkF, argsToLocals, Value.category]; done) | rfl
set_option maxRecDepth 65536 in
set_option maxHeartbeats 40000000 in
theorem rx26_433 (l : Launch) (Z : State) (a0 : Array Value) (hw : ∀ d ∈ tables_1, d.before a0 Z = true) (ws : List Jvm.Cond) (n0 : Nat) (h0 : Heap) (O0 : Old Z n0 h0)  (b400 : Addr) (k401 : ClassId) (c0_ : Int32) (c1_ : Int32) (c2_ : Int32) (c3_ : Int32) (c4_ : Int32) (c5_ : Int32) (c6_ : Int32) (PV_b400 : Arv Z h0 b400 k401 .byte (14 : Int32) [(.int ((c0_ >>> ((0 : Int32) &&& 31)).toInt8.toInt32)), (.int ((c0_ >>> ((8 : Int32) &&& 31)).toInt8.toInt32)), (.int ((c1_ >>> ((0 : Int32) &&& 31)).toInt8.toInt32)), (.int ((c1_ >>> ((8 : Int32) &&& 31)).toInt8.toInt32)), (.int ((c2_ >>> ((0 : Int32) &&& 31)).toInt8.toInt32)), (.int ((c2_ >>> ((8 : Int32) &&& 31)).toInt8.toInt32)), (.int ((c3_ >>> ((0 : Int32) &&& 31)).toInt8.toInt32)), (.int ((c3_ >>> ((8 : Int32) &&& 31)).toInt8.toInt32)), (.int ((c4_ >>> ((0 : Int32) &&& 31)).toInt8.toInt32)), (.int ((c4_ >>> ((8 : Int32) &&& 31)).toInt8.toInt32)), (.int ((c5_ >>> ((0 : Int32) &&& 31)).toInt8.toInt32)), (.int ((c5_ >>> ((8 : Int32) &&& 31)).toInt8.toInt32)), (.int ((c6_ >>> ((0 : Int32) &&& 31)).toInt8.toInt32)), (.int ((c6_ >>> ((8 : Int32) &&& 31)).toInt8.toInt32))] (.int 0)) :
  Meets1 l ym27 jdk_52_method_6_code 1 (some .int) ws ({ frames := 0, cells := 0, slots := 0, locals := 0 } : Room) #[(.ref b400)] Z h0 (fun v h L => v = some (.int 7) ∧ Fr n0 L ∧ Keep h0 h []) := by
 refine MetFree.of_bodySF (plainFor_of_name pn26) hisR ?_
 intro p e s m args below meth c s₁ Bd hml0 hP hK
 obtain ⟨rfl, hZ, hh⟩ := hP
 have hx := Bd.exec
 have hby := Bd.bytes
 have hml : c.maxLocals = 1 := hml0
 have hown : s.vm.findClass "java/lang/StringUTF16" = some m.cls := findClass_of_methodNamed Bd.named
 have hnm := (name_of_methodNamed Bd.named Bd.method).1
 have X0 : Stand p l e ({ frames := 0, cells := 0, slots := 0, locals := 0 } : Room) s m #[(.ref b400)] below meth c s₁ [] 0 0 := Stand.of_body Bd
 have e0 : s₁.heap = h0 := by rw [← hh, Bd.state]; rfl
 have N0 := Fr.nil n0
 have Z0 := own_old_le O0
 show Ends _ _ _ _ s₁ (entryFrame m #[(.ref b400)] 1) ({ frames := 0, cells := 0, slots := 0, locals := 0 } : Room).cells ({ frames := 0, cells := 0, slots := 0, locals := 0 } : Room).slots (fun v h L => v = some (.int 7) ∧ Fr n0 L ∧ Keep h0 h [])
 refine Ends.go (fun _ k => castTop (ef26_r m b400) k) ?_
 have K0 := Keep.refl h0 []
 show Ends _ _ _ _ s₁ (mkF m 0 #[cr b400] []) _ _ _
 refine walN X0 hx hby d26_0 rfl rfl ?_
 obtain ⟨cl434, Ar434, q434, S434, M434, H434, G434⟩ := id PV_b400
 refine Ends.go (X0.arraylength hx (by rw [e0]; exact Ar434.1) (State.isArrayOf_alike hZ.alike Ar434.2.1) (g := (mkF m 1 #[cr b400] [(.ref b400)])) rfl rfl (hb hby d26_1)) ?_
 rw [len_of S434 M434]
 refine wic X0 hx hby d26_2 ?_
 refine .go (fun _ => XS.ishr X0.here hx rfl (hb hby d26_3) rfl) ?_
 show Ends _ _ _ _ s₁ (mkF m 4 #[cr b400] [(.int 7)]) _ _ _
 refine Ends.ret X0 hx Bd.notSynchronized (t := .int) Bd.returns rfl (Or.inl ⟨rfl, by simp, _, rfl⟩) (hb hby d26_4) (by decide) (by decide) ?_
 rw [e0]
 exact ⟨rfl, N0, K0⟩

theorem d25_0 : decode jdk_52_method_94_code 0 = .ok (.iload_n 0, 1) := by decide +kernel
theorem d25_1 : decode jdk_52_method_94_code 1 = .ok (.iload_n 1, 1) := by decide +kernel
theorem d25_2 : decode jdk_52_method_94_code 2 = .ok (.aload_n 2, 1) := by decide +kernel
theorem d25_3 : decode jdk_52_method_94_code 3 = .ok (.invokestatic 48, 3) := by decide +kernel
theorem d25_6 : decode jdk_52_method_94_code 6 = .ok (.invokestatic 419, 3) := by decide +kernel
theorem d25_9 : decode jdk_52_method_94_code 9 = .ok (.pop, 1) := by decide +kernel
theorem d25_10 : decode jdk_52_method_94_code 10 = .ok (.return_, 1) := by decide +kernel
theorem pn25 : plainName "java/lang/StringUTF16" = true := by first | (simp [plainName, overriddenIn]; done) | decide +kernel
theorem pdx_23 : parseMethodDescriptor "([B)I" = some ⟨[(.array .byte)], some .int⟩ := by decide +kernel
theorem ef25_iir (m : MethodId) (x0 : Int32) (x1 : Int32) (x2 : Addr) : entryFrame m #[(.int x0), (.int x1), (.ref x2)] 3 = mkF m 0 #[.val (.int x0), .val (.int x1), .val (.ref x2)] [] := by first | (simp [entryFrame, mkF, argsToLocals, Value.category]; done) | rfl
set_option maxRecDepth 65536 in
set_option maxHeartbeats 40000000 in
theorem rx25_432 (l : Launch) (Z : State) (a0 : Array Value) (hw : ∀ d ∈ tables_1, d.before a0 Z = true) (ws : List Jvm.Cond) (n0 : Nat) (h0 : Heap) (O0 : Old Z n0 h0) (G1 : Int32) (G3 : Value) (GF : GlobF Z G1 G3) (b400 : Addr) (k401 : ClassId) (c0_ : Int32) (c1_ : Int32) (c2_ : Int32) (c3_ : Int32) (c4_ : Int32) (c5_ : Int32) (c6_ : Int32) (PV_b400 : Arv Z h0 b400 k401 .byte (14 : Int32) [(.int ((c0_ >>> ((0 : Int32) &&& 31)).toInt8.toInt32)), (.int ((c0_ >>> ((8 : Int32) &&& 31)).toInt8.toInt32)), (.int ((c1_ >>> ((0 : Int32) &&& 31)).toInt8.toInt32)), (.int ((c1_ >>> ((8 : Int32) &&& 31)).toInt8.toInt32)), (.int ((c2_ >>> ((0 : Int32) &&& 31)).toInt8.toInt32)), (.int ((c2_ >>> ((8 : Int32) &&& 31)).toInt8.toInt32)), (.int ((c3_ >>> ((0 : Int32) &&& 31)).toInt8.toInt32)), (.int ((c3_ >>> ((8 : Int32) &&& 31)).toInt8.toInt32)), (.int ((c4_ >>> ((0 : Int32) &&& 31)).toInt8.toInt32)), (.int ((c4_ >>> ((8 : Int32) &&& 31)).toInt8.toInt32)), (.int ((c5_ >>> ((0 : Int32) &&& 31)).toInt8.toInt32)), (.int ((c5_ >>> ((8 : Int32) &&& 31)).toInt8.toInt32)), (.int ((c6_ >>> ((0 : Int32) &&& 31)).toInt8.toInt32)), (.int ((c6_ >>> ((8 : Int32) &&& 31)).toInt8.toInt32))] (.int 0)) :
  Meets1 l ym28 jdk_52_method_94_code 3 none ws ({ frames := 2, cells := 0, slots := 0, locals := 29 } : Room) #[(.int 0), (.int 7), (.ref b400)] Z h0 (fun v h L => v = none ∧ Fr n0 L ∧ Keep h0 h []) := by
 refine MetFree.of_bodySF (plainFor_of_name pn25) hisR ?_
 intro p e s m args below meth c s₁ Bd hml0 hP hK
 obtain ⟨rfl, hZ, hh⟩ := hP
 have hx := Bd.exec
 have hby := Bd.bytes
 have hml : c.maxLocals = 3 := hml0
 have hown : s.vm.findClass "java/lang/StringUTF16" = some m.cls := findClass_of_methodNamed Bd.named
 have hnm := (name_of_methodNamed Bd.named Bd.method).1
 have X0 : Stand p l e ({ frames := 2, cells := 0, slots := 0, locals := 29 } : Room) s m #[(.int 0), (.int 7), (.ref b400)] below meth c s₁ [] 0 0 := Stand.of_body Bd
 have e0 : s₁.heap = h0 := by rw [← hh, Bd.state]; rfl
 have N0 := Fr.nil n0
 have Z0 := own_old_le O0
 show Ends _ _ _ _ s₁ (entryFrame m #[(.int 0), (.int 7), (.ref b400)] 3) ({ frames := 2, cells := 0, slots := 0, locals := 29 } : Room).cells ({ frames := 2, cells := 0, slots := 0, locals := 29 } : Room).slots (fun v h L => v = none ∧ Fr n0 L ∧ Keep h0 h [])
 refine Ends.go (fun _ k => castTop (ef25_iir m (0 : Int32) (7 : Int32) b400) k) ?_
 obtain ⟨SCS, P5, SAD, SHI, SLO, SSF, RG3⟩ := id GF
 have K0 := Keep.refl h0 []
 show Ends _ _ _ _ s₁ (mkF m 0 #[ci 0, ci 7, cr b400] []) _ _ _
 refine wilN X0 hx hby d25_0 rfl ?_
 refine wilN X0 hx hby d25_1 rfl ?_
 refine walN X0 hx hby d25_2 rfl rfl ?_
 obtain ⟨_, _, ⟨T435, L435, k435, n435⟩, -, X435, ⟨Lc435, hQ435, l435, y435, z435⟩, st435⟩ := Jvm.LawKit.callS X0 hx (y := ym27) hown (mvT hZ (ow hw 117 rfl)) (mvT hZ (ow hw 118 rfl)) (mvT hZ (ow hw 25 rfl)) (mvT hZ (ow hw 119 rfl)) (by decide) (own_backOf (W := 2) (rx26_433 l Z a0 hw [] n0 h0 O0  b400 k401 c0_ c1_ c2_ c3_ c4_ c5_ c6_ PV_b400) hZ (ow hw 119 rfl) (ow hw 25 rfl) (by decide) (by decide)) (g := (mkF m 3 #[ci 0, ci 7, cr b400] [(.ref b400), (.int 7), (.int 0)])) rfl (by rw [hml]; rfl) (argsL := [(.ref b400)]) (rest := [(.int 7), (.int 0)]) (lenOf pdx_23 rfl) rfl (by show 2 * 0 + _ ≤ _; exact Nat.le_of_eq rfl) (hb hby d25_3) (fun _ _ => ⟨rfl, e0, (by decide : 0 + 0 ≤ _), (by decide : 0 + 0 ≤ _)⟩)
 dsimp only [Pt.U, Pt.locs, Pt.cells, Pt.slots] at X435 l435 y435 z435 st435 hQ435
 subst l435 y435 z435
 obtain ⟨rfl, N435q, K435c⟩ := hQ435
 have N435 := Fr.app N0 N435q
 refine Ends.go st435 ?_
 obtain ⟨h435, e435⟩ : ∃ z, T435.heap = z := ⟨_, rfl⟩
 rw [e435] at K435c
 have K435 := K0.trans K435c all0
 have O435 := O0.keep K435c all0
 show Ends _ _ _ _ T435 (mkF m 6 #[ci 0, ci 7, cr b400] [(.int 7), (.int 7), (.int 0)]) _ _ _
 obtain ⟨_, _, ⟨T436, L436, k436, n436⟩, -, X436, ⟨Lc436, hQ436, l436, y436, z436⟩, st436⟩ := Jvm.LawKit.callS X435 hx (y := ym5) hown (mvT hZ (ow hw 120 rfl)) (mvT hZ (ow hw 101 rfl)) (mvT hZ (ow hw 11 rfl)) (mvT hZ (ow hw 102 rfl)) (by decide) (own_backOf (W := 0) (rm_checkBoundsOffCount l Z a0 hw [] n0 h435 O435 (0 : Int32) (7 : Int32) (7 : Int32) G1 G3 GF (by decide) (by decide)) hZ (ow hw 102 rfl) (ow hw 11 rfl) (by decide) (by decide)) (g := (mkF m 6 #[ci 0, ci 7, cr b400] [(.int 7), (.int 7), (.int 0)])) rfl (by rw [hml]; rfl) (argsL := [(.int 0), (.int 7), (.int 7)]) (rest := []) (lenOf pdx_13 rfl) rfl (by show 2 * 0 + _ ≤ _; exact Nat.le_of_eq rfl) (hb hby d25_6) (fun _ _ => ⟨rfl, e435, (by decide : 0 + 0 ≤ _), (by decide : 0 + 0 ≤ _)⟩)
 dsimp only [Pt.U, Pt.locs, Pt.cells, Pt.slots] at X436 l436 y436 z436 st436 hQ436
 subst l436 y436 z436
 obtain ⟨rfl, N436q, e436q⟩ := hQ436
 have N436 := Fr.app N435 N436q
 refine Ends.go st436 ?_
 refine .go (fun _ => XS.pop X436.here hx rfl (hb hby d25_9) rfl rfl) ?_
 refine Ends.retV X436 hx Bd.notSynchronized Bd.returns (hb hby d25_10) (by decide) (by decide) ?_
 rw [e436q]
 exact ⟨rfl, N436, K435⟩

theorem d24_0 : decode jdk_52_method_26_code 0 = .ok (.iload_n 1, 1) := by decide +kernel
theorem d24_1 : decode jdk_52_method_26_code 1 = .ok (.iload_n 2, 1) := by decide +kernel
theorem d24_2 : decode jdk_52_method_26_code 2 = .ok (.if_icmp .ge 11, 3) := by decide +kernel
theorem d24_5 : decode jdk_52_method_26_code 5 = .ok (.iload_n 1, 1) := by decide +kernel
theorem d24_6 : decode jdk_52_method_26_code 6 = .ok (.iload_n 2, 1) := by decide +kernel
theorem d24_7 : decode jdk_52_method_26_code 7 = .ok (.iload_n 1, 1) := by decide +kernel
theorem d24_8 : decode jdk_52_method_26_code 8 = .ok (.isub, 1) := by decide +kernel
theorem d24_9 : decode jdk_52_method_26_code 9 = .ok (.aload_n 0, 1) := by decide +kernel
theorem d24_10 : decode jdk_52_method_26_code 10 = .ok (.invokestatic 173, 3) := by decide +kernel
theorem d24_13 : decode jdk_52_method_26_code 13 = .ok (.iload_n 1, 1) := by decide +kernel
theorem d24_14 : decode jdk_52_method_26_code 14 = .ok (.istore 5, 2) := by decide +kernel
theorem d24_16 : decode jdk_52_method_26_code 16 = .ok (.iload 5, 2) := by decide +kernel
theorem d24_18 : decode jdk_52_method_26_code 18 = .ok (.iload_n 2, 1) := by decide +kernel
theorem d24_19 : decode jdk_52_method_26_code 19 = .ok (.if_icmp .ge 22, 3) := by decide +kernel
theorem d24_22 : decode jdk_52_method_26_code 22 = .ok (.aload_n 3, 1) := by decide +kernel
theorem d24_23 : decode jdk_52_method_26_code 23 = .ok (.iload 4, 2) := by decide +kernel
theorem d24_25 : decode jdk_52_method_26_code 25 = .ok (.iinc 4 1, 3) := by decide +kernel
theorem d24_28 : decode jdk_52_method_26_code 28 = .ok (.aload_n 0, 1) := by decide +kernel
theorem d24_29 : decode jdk_52_method_26_code 29 = .ok (.iload 5, 2) := by decide +kernel
theorem d24_31 : decode jdk_52_method_26_code 31 = .ok (.invokestatic 71, 3) := by decide +kernel
theorem d24_34 : decode jdk_52_method_26_code 34 = .ok (.castore, 1) := by decide +kernel
theorem d24_35 : decode jdk_52_method_26_code 35 = .ok (.iinc 5 1, 3) := by decide +kernel
theorem d24_38 : decode jdk_52_method_26_code 38 = .ok (.goto (-22), 3) := by decide +kernel
theorem d24_41 : decode jdk_52_method_26_code 41 = .ok (.return_, 1) := by decide +kernel
theorem pn24 : plainName "java/lang/StringUTF16" = true := by first | (simp [plainName, overriddenIn]; done) | decide +kernel
theorem pdx_24 : parseMethodDescriptor "(II[B)V" = some ⟨[.int, .int, (.array .byte)], none⟩ := by decide +kernel
theorem ef24_riiri (m : MethodId) (x0 : Addr) (x1 : Int32) (x2 : Int32) (x3 : Addr) (x4 : Int32) : entryFrame m #[(.ref x0), (.int x1), (.int x2), (.ref x3), (.int x4)] 6 = mkF m 0 #[.val (.ref x0), .val (.int x1), .val (.int x2), .val (.ref x3), .val (.int x4), .unset] [] := by first | (simp [entryFrame, mkF, argsToLocals, Value.category]; done) | rfl
set_option maxRecDepth 65536 in
set_option maxHeartbeats 40000000 in
theorem rx24_431 (l : Launch) (Z : State) (a0 : Array Value) (hw : ∀ d ∈ tables_1, d.before a0 Z = true) (ws : List Jvm.Cond) (n0 : Nat) (h0 : Heap) (O0 : Old Z n0 h0) (G1 : Int32) (G3 : Value) (GF : GlobF Z G1 G3) (b400 : Addr) (b414 : Addr) (k401 : ClassId) (c0_ : Int32) (c1_ : Int32) (c2_ : Int32) (c3_ : Int32) (c4_ : Int32) (c5_ : Int32) (c6_ : Int32) (k414 : ClassId) (PV_b400 : Arv Z h0 b400 k401 .byte (14 : Int32) [(.int ((c0_ >>> ((0 : Int32) &&& 31)).toInt8.toInt32)), (.int ((c0_ >>> ((8 : Int32) &&& 31)).toInt8.toInt32)), (.int ((c1_ >>> ((0 : Int32) &&& 31)).toInt8.toInt32)), (.int ((c1_ >>> ((8 : Int32) &&& 31)).toInt8.toInt32)), (.int ((c2_ >>> ((0 : Int32) &&& 31)).toInt8.toInt32)), (.int ((c2_ >>> ((8 : Int32) &&& 31)).toInt8.toInt32)), (.int ((c3_ >>> ((0 : Int32) &&& 31)).toInt8.toInt32)), (.int ((c3_ >>> ((8 : Int32) &&& 31)).toInt8.toInt32)), (.int ((c4_ >>> ((0 : Int32) &&& 31)).toInt8.toInt32)), (.int ((c4_ >>> ((8 : Int32) &&& 31)).toInt8.toInt32)), (.int ((c5_ >>> ((0 : Int32) &&& 31)).toInt8.toInt32)), (.int ((c5_ >>> ((8 : Int32) &&& 31)).toInt8.toInt32)), (.int ((c6_ >>> ((0 : Int32) &&& 31)).toInt8.toInt32)), (.int ((c6_ >>> ((8 : Int32) &&& 31)).toInt8.toInt32))] (.int 0)) (PV_b414 : Arv Z h0 b414 k414 .char (7 : Int32) [(.int 0), (.int 0), (.int 0), (.int 0), (.int 0), (.int 0), (.int 0)] (.int 0)) (ne_b400_b414 : b400 ≠ b414) (g_b414 : n0 ≤ b414) (hc0_ : 0 ≤ c0_.toInt ∧ c0_.toInt < 65536) (hc1_ : 0 ≤ c1_.toInt ∧ c1_.toInt < 65536) (hc2_ : 0 ≤ c2_.toInt ∧ c2_.toInt < 65536) (hc3_ : 0 ≤ c3_.toInt ∧ c3_.toInt < 65536) (hc4_ : 0 ≤ c4_.toInt ∧ c4_.toInt < 65536) (hc5_ : 0 ≤ c5_.toInt ∧ c5_.toInt < 65536) (hc6_ : 0 ≤ c6_.toInt ∧ c6_.toInt < 65536) :
  Meets1 l ym29 jdk_52_method_26_code 6 none ws ({ frames := 3, cells := 0, slots := 0, locals := 43 } : Room) #[(.ref b400), (.int 0), (.int 7), (.ref b414), (.int 0)] Z h0 (fun v h L => v = none ∧ Fr n0 L ∧ Keep h0 h [b414] ∧ Arv Z h b414 k414 .char (7 : Int32) [(.int c0_), (.int c1_), (.int c2_), (.int c3_), (.int c4_), (.int c5_), (.int c6_)] (.int 0)) := by
 refine MetFree.of_bodySF (plainFor_of_name pn24) hisR ?_
 intro p e s m args below meth c s₁ Bd hml0 hP hK
 obtain ⟨rfl, hZ, hh⟩ := hP
 have hx := Bd.exec
 have hby := Bd.bytes
 have hml : c.maxLocals = 6 := hml0
 have hown : s.vm.findClass "java/lang/StringUTF16" = some m.cls := findClass_of_methodNamed Bd.named
 have hnm := (name_of_methodNamed Bd.named Bd.method).1
 have X0 : Stand p l e ({ frames := 3, cells := 0, slots := 0, locals := 43 } : Room) s m #[(.ref b400), (.int 0), (.int 7), (.ref b414), (.int 0)] below meth c s₁ [] 0 0 := Stand.of_body Bd
 have e0 : s₁.heap = h0 := by rw [← hh, Bd.state]; rfl
 have N0 := Fr.nil n0
 have Z0 := own_old_le O0
 show Ends _ _ _ _ s₁ (entryFrame m #[(.ref b400), (.int 0), (.int 7), (.ref b414), (.int 0)] 6) ({ frames := 3, cells := 0, slots := 0, locals := 43 } : Room).cells ({ frames := 3, cells := 0, slots := 0, locals := 43 } : Room).slots (fun v h L => v = none ∧ Fr n0 L ∧ Keep h0 h [b414] ∧ Arv Z h b414 k414 .char (7 : Int32) [(.int c0_), (.int c1_), (.int c2_), (.int c3_), (.int c4_), (.int c5_), (.int c6_)] (.int 0))
 refine Ends.go (fun _ k => castTop (ef24_riiri m b400 (0 : Int32) (7 : Int32) b414 (0 : Int32)) k) ?_
 obtain ⟨SCS, P5, SAD, SHI, SLO, SSF, RG3⟩ := id GF
 have K0 := Keep.refl h0 [b414]
 show Ends _ _ _ _ s₁ (mkF m 0 #[cr b400, ci 0, ci 7, cr b414, ci 0, cu] []) _ _ _
 refine wilN X0 hx hby d24_0 rfl ?_
 refine wilN X0 hx hby d24_1 rfl ?_
 refine wcn X0 hx hby d24_2 (tlt (by decide : (0 : Int32) < (7 : Int32))).2.1 ?_
 refine wilN X0 hx hby d24_5 rfl ?_
 show Ends _ _ _ _ s₁ (mkF m 6 #[cr b400, ci 0, ci 7, cr b414, ci 0, cu] [(.int 0)]) _ _ _
 refine wilN X0 hx hby d24_6 rfl ?_
 refine wilN X0 hx hby d24_7 rfl ?_
 refine wis X0 hx hby d24_8 ?_
 refine walN X0 hx hby d24_9 rfl rfl ?_
 obtain ⟨_, _, ⟨T437, L437, k437, n437⟩, -, X437, ⟨Lc437, hQ437, l437, y437, z437⟩, st437⟩ := Jvm.LawKit.callS X0 hx (y := ym28) hown (mvT hZ (ow hw 114 rfl)) (mvT hZ (ow hw 115 rfl)) (mvT hZ (ow hw 25 rfl)) (mvT hZ (ow hw 116 rfl)) (by decide) (own_backOf (W := 0) (rx25_432 l Z a0 hw [] n0 h0 O0 G1 G3 GF b400 k401 c0_ c1_ c2_ c3_ c4_ c5_ c6_ PV_b400) hZ (ow hw 116 rfl) (ow hw 25 rfl) (by decide) (by decide)) (g := (mkF m 10 #[cr b400, ci 0, ci 7, cr b414, ci 0, cu] [(.ref b400), (.int 7), (.int 0)])) rfl (by rw [hml]; rfl) (argsL := [(.int 0), (.int 7), (.ref b400)]) (rest := []) (lenOf pdx_24 rfl) rfl (by show 2 * 0 + _ ≤ _; exact Nat.le_of_eq rfl) (hb hby d24_10) (fun _ _ => ⟨rfl, e0, (by decide : 0 + 0 ≤ _), (by decide : 0 + 0 ≤ _)⟩)
 dsimp only [Pt.U, Pt.locs, Pt.cells, Pt.slots] at X437 l437 y437 z437 st437 hQ437
 subst l437 y437 z437
 obtain ⟨rfl, N437q, K437c⟩ := hQ437
 have N437 := Fr.app N0 N437q
 refine Ends.go st437 ?_
 obtain ⟨h437, e437⟩ : ∃ z, T437.heap = z := ⟨_, rfl⟩
 rw [e437] at K437c
 have K437 := K0.trans K437c all0
 have O437 := O0.keep K437c all0
 show Ends _ _ _ _ T437 (mkF m 13 #[cr b400, ci 0, ci 7, cr b414, ci 0, cu] []) _ _ _
 refine wilN X437 hx hby d24_13 rfl ?_
 refine wst X437 hx hby d24_14 (l' := #[cr b400, ci 0, ci 7, cr b414, ci 0, ci 0]) rfl ?_
 refine wil X437 hx hby d24_16 rfl ?_
 refine wilN X437 hx hby d24_18 rfl ?_
 refine wcn X437 hx hby d24_19 (tlt (by decide : (0 : Int32) < (7 : Int32))).2.1 ?_
 show Ends _ _ _ _ T437 (mkF m 22 #[cr b400, ci 0, ci 7, cr b414, ci 0, ci 0] []) _ _ _
 refine walN X437 hx hby d24_22 rfl rfl ?_
 refine wil X437 hx hby d24_23 rfl ?_
 refine wii X437 hx hby d24_25 (l' := #[cr b400, ci 0, ci 7, cr b414, ci 1, ci 0]) rfl rfl ?_
 refine walN X437 hx hby d24_28 rfl rfl ?_
 refine wil X437 hx hby d24_29 rfl ?_
 show Ends _ _ _ _ T437 (mkF m 31 #[cr b400, ci 0, ci 7, cr b414, ci 1, ci 0] [(.int 0), (.ref b400), (.int 0), (.ref b414)]) _ _ _
 obtain ⟨_, _, ⟨T438, L438, k438, n438⟩, -, X438, ⟨Lc438, hQ438, l438, y438, z438⟩, st438⟩ := Jvm.LawKit.callS X437 hx (y := ym7) hown (mvT hZ (ow hw 47 rfl)) (mvT hZ (ow hw 48 rfl)) (mvT hZ (ow hw 25 rfl)) (mvT hZ (ow hw 49 rfl)) (by decide) (own_backOf (W := 2) (rx11_22 l Z a0 hw [] n0 h437 O437 G1 G3 GF b400 k401 c0_ c1_ c2_ c3_ c4_ c5_ c6_ (PV_b400.keep K437c nin0) hc0_) hZ (ow hw 49 rfl) (ow hw 25 rfl) (by decide) (by decide)) (g := (mkF m 31 #[cr b400, ci 0, ci 7, cr b414, ci 1, ci 0] [(.int 0), (.ref b400), (.int 0), (.ref b414)])) rfl (by rw [hml]; rfl) (argsL := [(.ref b400), (.int 0)]) (rest := [(.int 0), (.ref b414)]) (lenOf pdx_22 rfl) rfl (by show 2 * 0 + _ ≤ _; exact Nat.le_of_eq rfl) (hb hby d24_31) (fun _ _ => ⟨rfl, e437, (by decide : 0 + 0 ≤ _), (by decide : 0 + 0 ≤ _)⟩)
 dsimp only [Pt.U, Pt.locs, Pt.cells, Pt.slots] at X438 l438 y438 z438 st438 hQ438
 subst l438 y438 z438
 obtain ⟨rfl, N438q, K438c⟩ := hQ438
 have N438 := Fr.app N437 N438q
 refine Ends.go st438 ?_
 obtain ⟨h438, e438⟩ : ∃ z, T438.heap = z := ⟨_, rfl⟩
 rw [e438] at K438c
 have K438 := K437.trans K438c all0
 have O438 := O437.keep K438c all0
 obtain ⟨cl439, Ar439, q439, S439, M439, H439, G439⟩ := id ((PV_b414.keep K437c nin0).keep K438c nin0)
 have hin439 := inb_of (j := (0 : Int32)) S439 ⟨by decide, by decide⟩
 obtain ⟨T439, h439, X439, e439, W439, st439⟩ := stC X438 hx hZ e438 Ar439 (j := (0 : Int32)) hin439 (g := (mkF m 34 #[cr b400, ci 0, ci 7, cr b414, ci 1, ci 0] [(.int c0_), (.int 0), (.ref b414)])) rfl rfl (hb hby d24_34)
 refine Ends.go st439 ?_
 have V439 : Arv Z h439 b414 k414 .char (7 : Int32) [(.int (nar .char c0_)), (.int 0), (.int 0), (.int 0), (.int 0), (.int 0), (.int 0)] (.int 0) := Arv.set Ar439 q439 S439 M439 H439 G439 (fits_nar_char _) W439 0 rfl (Nat.le_of_ble_eq_true rfl)
 rw [own_narc hc0_] at V439
 have K439 := K438.wr W439 (Or.inl (List.mem_of_getElem? (i := 0) rfl))
 have O439 := O438.wr W439 g_b414
 have N439 := Fr.snoc X439 N438 g_b414
 refine wii X439 hx hby d24_35 (l' := #[cr b400, ci 0, ci 7, cr b414, ci 1, ci 1]) rfl rfl ?_
 refine wgo (pc := 38) (pc' := 16) X439 hx hby d24_38 (by decide) (by decide) ?_
 refine wil X439 hx hby d24_16 rfl ?_
 show Ends _ _ _ _ T439 (mkF m 18 #[cr b400, ci 0, ci 7, cr b414, ci 1, ci 1] [(.int 1)]) _ _ _
 refine wilN X439 hx hby d24_18 rfl ?_
 refine wcn X439 hx hby d24_19 (tlt (by decide : (1 : Int32) < (7 : Int32))).2.1 ?_
 refine walN X439 hx hby d24_22 rfl rfl ?_
 refine wil X439 hx hby d24_23 rfl ?_
 refine wii X439 hx hby d24_25 (l' := #[cr b400, ci 0, ci 7, cr b414, ci 2, ci 1]) rfl rfl ?_
 show Ends _ _ _ _ T439 (mkF m 28 #[cr b400, ci 0, ci 7, cr b414, ci 2, ci 1] [(.int 1), (.ref b414)]) _ _ _
 refine walN X439 hx hby d24_28 rfl rfl ?_
 refine wil X439 hx hby d24_29 rfl ?_
 obtain ⟨_, _, ⟨T440, L440, k440, n440⟩, -, X440, ⟨Lc440, hQ440, l440, y440, z440⟩, st440⟩ := Jvm.LawKit.callS X439 hx (y := ym7) hown (mvT hZ (ow hw 47 rfl)) (mvT hZ (ow hw 48 rfl)) (mvT hZ (ow hw 25 rfl)) (mvT hZ (ow hw 49 rfl)) (by decide) (own_backOf (W := 2) (rx11_28 l Z a0 hw [] n0 h439 O439 G1 G3 GF b400 k401 c0_ c1_ c2_ c3_ c4_ c5_ c6_ (((PV_b400.keep K437c nin0).keep K438c nin0).other W439 ne_b400_b414) hc1_) hZ (ow hw 49 rfl) (ow hw 25 rfl) (by decide) (by decide)) (g := (mkF m 31 #[cr b400, ci 0, ci 7, cr b414, ci 2, ci 1] [(.int 1), (.ref b400), (.int 1), (.ref b414)])) rfl (by rw [hml]; rfl) (argsL := [(.ref b400), (.int 1)]) (rest := [(.int 1), (.ref b414)]) (lenOf pdx_22 rfl) rfl (by show 2 * 0 + _ ≤ _; exact Nat.le_of_eq rfl) (hb hby d24_31) (fun _ _ => ⟨rfl, e439, (by decide : 0 + 0 ≤ _), (by decide : 0 + 0 ≤ _)⟩)
 dsimp only [Pt.U, Pt.locs, Pt.cells, Pt.slots] at X440 l440 y440 z440 st440 hQ440
 subst l440 y440 z440
 obtain ⟨rfl, N440q, K440c⟩ := hQ440
 have N440 := Fr.app N439 N440q
 refine Ends.go st440 ?_
 obtain ⟨h440, e440⟩ : ∃ z, T440.heap = z := ⟨_, rfl⟩
 rw [e440] at K440c
 have K440 := K439.trans K440c all0
 have O440 := O439.keep K440c all0
 obtain ⟨cl441, Ar441, q441, S441, M441, H441, G441⟩ := id (V439.keep K440c nin0)
 have hin441 := inb_of (j := (1 : Int32)) S441 ⟨by decide, by decide⟩
 obtain ⟨T441, h441, X441, e441, W441, st441⟩ := stC X440 hx hZ e440 Ar441 (j := (1 : Int32)) hin441 (g := (mkF m 34 #[cr b400, ci 0, ci 7, cr b414, ci 2, ci 1] [(.int c1_), (.int 1), (.ref b414)])) rfl rfl (hb hby d24_34)
 refine Ends.go st441 ?_
 have V441 : Arv Z h441 b414 k414 .char (7 : Int32) [(.int c0_), (.int (nar .char c1_)), (.int 0), (.int 0), (.int 0), (.int 0), (.int 0)] (.int 0) := Arv.set Ar441 q441 S441 M441 H441 G441 (fits_nar_char _) W441 1 rfl (Nat.le_of_ble_eq_true rfl)
 rw [own_narc hc1_] at V441
 have K441 := K440.wr W441 (Or.inl (List.mem_of_getElem? (i := 0) rfl))
 have O441 := O440.wr W441 g_b414
 have N441 := Fr.snoc X441 N440 g_b414
 refine wii X441 hx hby d24_35 (l' := #[cr b400, ci 0, ci 7, cr b414, ci 2, ci 2]) rfl rfl ?_
 show Ends _ _ _ _ T441 (mkF m 38 #[cr b400, ci 0, ci 7, cr b414, ci 2, ci 2] []) _ _ _
 refine wgo (pc := 38) (pc' := 16) X441 hx hby d24_38 (by decide) (by decide) ?_
 refine wil X441 hx hby d24_16 rfl ?_
 refine wilN X441 hx hby d24_18 rfl ?_
 refine wcn X441 hx hby d24_19 (tlt (by decide : (2 : Int32) < (7 : Int32))).2.1 ?_
 refine walN X441 hx hby d24_22 rfl rfl ?_
 show Ends _ _ _ _ T441 (mkF m 23 #[cr b400, ci 0, ci 7, cr b414, ci 2, ci 2] [(.ref b414)]) _ _ _
 refine wil X441 hx hby d24_23 rfl ?_
 refine wii X441 hx hby d24_25 (l' := #[cr b400, ci 0, ci 7, cr b414, ci 3, ci 2]) rfl rfl ?_
 refine walN X441 hx hby d24_28 rfl rfl ?_
 refine wil X441 hx hby d24_29 rfl ?_
 obtain ⟨_, _, ⟨T442, L442, k442, n442⟩, -, X442, ⟨Lc442, hQ442, l442, y442, z442⟩, st442⟩ := Jvm.LawKit.callS X441 hx (y := ym7) hown (mvT hZ (ow hw 47 rfl)) (mvT hZ (ow hw 48 rfl)) (mvT hZ (ow hw 25 rfl)) (mvT hZ (ow hw 49 rfl)) (by decide) (own_backOf (W := 2) (rx11_34 l Z a0 hw [] n0 h441 O441 G1 G3 GF b400 k401 c0_ c1_ c2_ c3_ c4_ c5_ c6_ (((((PV_b400.keep K437c nin0).keep K438c nin0).other W439 ne_b400_b414).keep K440c nin0).other W441 ne_b400_b414) hc2_) hZ (ow hw 49 rfl) (ow hw 25 rfl) (by decide) (by decide)) (g := (mkF m 31 #[cr b400, ci 0, ci 7, cr b414, ci 3, ci 2] [(.int 2), (.ref b400), (.int 2), (.ref b414)])) rfl (by rw [hml]; rfl) (argsL := [(.ref b400), (.int 2)]) (rest := [(.int 2), (.ref b414)]) (lenOf pdx_22 rfl) rfl (by show 2 * 0 + _ ≤ _; exact Nat.le_of_eq rfl) (hb hby d24_31) (fun _ _ => ⟨rfl, e441, (by decide : 0 + 0 ≤ _), (by decide : 0 + 0 ≤ _)⟩)
 dsimp only [Pt.U, Pt.locs, Pt.cells, Pt.slots] at X442 l442 y442 z442 st442 hQ442
 subst l442 y442 z442
 obtain ⟨rfl, N442q, K442c⟩ := hQ442
 have N442 := Fr.app N441 N442q
 refine Ends.go st442 ?_
 obtain ⟨h442, e442⟩ : ∃ z, T442.heap = z := ⟨_, rfl⟩
 rw [e442] at K442c
 have K442 := K441.trans K442c all0
 have O442 := O441.keep K442c all0
 show Ends _ _ _ _ T442 (mkF m 34 #[cr b400, ci 0, ci 7, cr b414, ci 3, ci 2] [(.int c2_), (.int 2), (.ref b414)]) _ _ _
 obtain ⟨cl443, Ar443, q443, S443, M443, H443, G443⟩ := id (V441.keep K442c nin0)
 have hin443 := inb_of (j := (2 : Int32)) S443 ⟨by decide, by decide⟩
 obtain ⟨T443, h443, X443, e443, W443, st443⟩ := stC X442 hx hZ e442 Ar443 (j := (2 : Int32)) hin443 (g := (mkF m 34 #[cr b400, ci 0, ci 7, cr b414, ci 3, ci 2] [(.int c2_), (.int 2), (.ref b414)])) rfl rfl (hb hby d24_34)
 refine Ends.go st443 ?_
 have V443 : Arv Z h443 b414 k414 .char (7 : Int32) [(.int c0_), (.int c1_), (.int (nar .char c2_)), (.int 0), (.int 0), (.int 0), (.int 0)] (.int 0) := Arv.set Ar443 q443 S443 M443 H443 G443 (fits_nar_char _) W443 2 rfl (Nat.le_of_ble_eq_true rfl)
 rw [own_narc hc2_] at V443
 have K443 := K442.wr W443 (Or.inl (List.mem_of_getElem? (i := 0) rfl))
 have O443 := O442.wr W443 g_b414
 have N443 := Fr.snoc X443 N442 g_b414
 refine wii X443 hx hby d24_35 (l' := #[cr b400, ci 0, ci 7, cr b414, ci 3, ci 3]) rfl rfl ?_
 refine wgo (pc := 38) (pc' := 16) X443 hx hby d24_38 (by decide) (by decide) ?_
 refine wil X443 hx hby d24_16 rfl ?_
 refine wilN X443 hx hby d24_18 rfl ?_
 show Ends _ _ _ _ T443 (mkF m 19 #[cr b400, ci 0, ci 7, cr b414, ci 3, ci 3] [(.int 7), (.int 3)]) _ _ _
 refine wcn X443 hx hby d24_19 (tlt (by decide : (3 : Int32) < (7 : Int32))).2.1 ?_
 refine walN X443 hx hby d24_22 rfl rfl ?_
 refine wil X443 hx hby d24_23 rfl ?_
 refine wii X443 hx hby d24_25 (l' := #[cr b400, ci 0, ci 7, cr b414, ci 4, ci 3]) rfl rfl ?_
 refine walN X443 hx hby d24_28 rfl rfl ?_
 show Ends _ _ _ _ T443 (mkF m 29 #[cr b400, ci 0, ci 7, cr b414, ci 4, ci 3] [(.ref b400), (.int 3), (.ref b414)]) _ _ _
 refine wil X443 hx hby d24_29 rfl ?_
 obtain ⟨_, _, ⟨T444, L444, k444, n444⟩, -, X444, ⟨Lc444, hQ444, l444, y444, z444⟩, st444⟩ := Jvm.LawKit.callS X443 hx (y := ym7) hown (mvT hZ (ow hw 47 rfl)) (mvT hZ (ow hw 48 rfl)) (mvT hZ (ow hw 25 rfl)) (mvT hZ (ow hw 49 rfl)) (by decide) (own_backOf (W := 2) (rx11_40 l Z a0 hw [] n0 h443 O443 G1 G3 GF b400 k401 c0_ c1_ c2_ c3_ c4_ c5_ c6_ (((((((PV_b400.keep K437c nin0).keep K438c nin0).other W439 ne_b400_b414).keep K440c nin0).other W441 ne_b400_b414).keep K442c nin0).other W443 ne_b400_b414) hc3_) hZ (ow hw 49 rfl) (ow hw 25 rfl) (by decide) (by decide)) (g := (mkF m 31 #[cr b400, ci 0, ci 7, cr b414, ci 4, ci 3] [(.int 3), (.ref b400), (.int 3), (.ref b414)])) rfl (by rw [hml]; rfl) (argsL := [(.ref b400), (.int 3)]) (rest := [(.int 3), (.ref b414)]) (lenOf pdx_22 rfl) rfl (by show 2 * 0 + _ ≤ _; exact Nat.le_of_eq rfl) (hb hby d24_31) (fun _ _ => ⟨rfl, e443, (by decide : 0 + 0 ≤ _), (by decide : 0 + 0 ≤ _)⟩)
 dsimp only [Pt.U, Pt.locs, Pt.cells, Pt.slots] at X444 l444 y444 z444 st444 hQ444
 subst l444 y444 z444
 obtain ⟨rfl, N444q, K444c⟩ := hQ444
 have N444 := Fr.app N443 N444q
 refine Ends.go st444 ?_
 obtain ⟨h444, e444⟩ : ∃ z, T444.heap = z := ⟨_, rfl⟩
 rw [e444] at K444c
 have K444 := K443.trans K444c all0
 have O444 := O443.keep K444c all0
 obtain ⟨cl445, Ar445, q445, S445, M445, H445, G445⟩ := id (V443.keep K444c nin0)
 have hin445 := inb_of (j := (3 : Int32)) S445 ⟨by decide, by decide⟩
 obtain ⟨T445, h445, X445, e445, W445, st445⟩ := stC X444 hx hZ e444 Ar445 (j := (3 : Int32)) hin445 (g := (mkF m 34 #[cr b400, ci 0, ci 7, cr b414, ci 4, ci 3] [(.int c3_), (.int 3), (.ref b414)])) rfl rfl (hb hby d24_34)
 refine Ends.go st445 ?_
 have V445 : Arv Z h445 b414 k414 .char (7 : Int32) [(.int c0_), (.int c1_), (.int c2_), (.int (nar .char c3_)), (.int 0), (.int 0), (.int 0)] (.int 0) := Arv.set Ar445 q445 S445 M445 H445 G445 (fits_nar_char _) W445 3 rfl (Nat.le_of_ble_eq_true rfl)
 rw [own_narc hc3_] at V445
 have K445 := K444.wr W445 (Or.inl (List.mem_of_getElem? (i := 0) rfl))
 have O445 := O444.wr W445 g_b414
 have N445 := Fr.snoc X445 N444 g_b414
 refine wii X445 hx hby d24_35 (l' := #[cr b400, ci 0, ci 7, cr b414, ci 4, ci 4]) rfl rfl ?_
 refine wgo (pc := 38) (pc' := 16) X445 hx hby d24_38 (by decide) (by decide) ?_
 show Ends _ _ _ _ T445 (mkF m 16 #[cr b400, ci 0, ci 7, cr b414, ci 4, ci 4] []) _ _ _
 refine wil X445 hx hby d24_16 rfl ?_
 refine wilN X445 hx hby d24_18 rfl ?_
 refine wcn X445 hx hby d24_19 (tlt (by decide : (4 : Int32) < (7 : Int32))).2.1 ?_
 refine walN X445 hx hby d24_22 rfl rfl ?_
 refine wil X445 hx hby d24_23 rfl ?_
 show Ends _ _ _ _ T445 (mkF m 25 #[cr b400, ci 0, ci 7, cr b414, ci 4, ci 4] [(.int 4), (.ref b414)]) _ _ _
 refine wii X445 hx hby d24_25 (l' := #[cr b400, ci 0, ci 7, cr b414, ci 5, ci 4]) rfl rfl ?_
 refine walN X445 hx hby d24_28 rfl rfl ?_
 refine wil X445 hx hby d24_29 rfl ?_
 obtain ⟨_, _, ⟨T446, L446, k446, n446⟩, -, X446, ⟨Lc446, hQ446, l446, y446, z446⟩, st446⟩ := Jvm.LawKit.callS X445 hx (y := ym7) hown (mvT hZ (ow hw 47 rfl)) (mvT hZ (ow hw 48 rfl)) (mvT hZ (ow hw 25 rfl)) (mvT hZ (ow hw 49 rfl)) (by decide) (own_backOf (W := 2) (rx11_46 l Z a0 hw [] n0 h445 O445 G1 G3 GF b400 k401 c0_ c1_ c2_ c3_ c4_ c5_ c6_ (((((((((PV_b400.keep K437c nin0).keep K438c nin0).other W439 ne_b400_b414).keep K440c nin0).other W441 ne_b400_b414).keep K442c nin0).other W443 ne_b400_b414).keep K444c nin0).other W445 ne_b400_b414) hc4_) hZ (ow hw 49 rfl) (ow hw 25 rfl) (by decide) (by decide)) (g := (mkF m 31 #[cr b400, ci 0, ci 7, cr b414, ci 5, ci 4] [(.int 4), (.ref b400), (.int 4), (.ref b414)])) rfl (by rw [hml]; rfl) (argsL := [(.ref b400), (.int 4)]) (rest := [(.int 4), (.ref b414)]) (lenOf pdx_22 rfl) rfl (by show 2 * 0 + _ ≤ _; exact Nat.le_of_eq rfl) (hb hby d24_31) (fun _ _ => ⟨rfl, e445, (by decide : 0 + 0 ≤ _), (by decide : 0 + 0 ≤ _)⟩)
 dsimp only [Pt.U, Pt.locs, Pt.cells, Pt.slots] at X446 l446 y446 z446 st446 hQ446
 subst l446 y446 z446
 obtain ⟨rfl, N446q, K446c⟩ := hQ446
 have N446 := Fr.app N445 N446q
 refine Ends.go st446 ?_
 obtain ⟨h446, e446⟩ : ∃ z, T446.heap = z := ⟨_, rfl⟩
 rw [e446] at K446c
 have K446 := K445.trans K446c all0
 have O446 := O445.keep K446c all0
 obtain ⟨cl447, Ar447, q447, S447, M447, H447, G447⟩ := id (V445.keep K446c nin0)
 have hin447 := inb_of (j := (4 : Int32)) S447 ⟨by decide, by decide⟩
 obtain ⟨T447, h447, X447, e447, W447, st447⟩ := stC X446 hx hZ e446 Ar447 (j := (4 : Int32)) hin447 (g := (mkF m 34 #[cr b400, ci 0, ci 7, cr b414, ci 5, ci 4] [(.int c4_), (.int 4), (.ref b414)])) rfl rfl (hb hby d24_34)
 refine Ends.go st447 ?_
 have V447 : Arv Z h447 b414 k414 .char (7 : Int32) [(.int c0_), (.int c1_), (.int c2_), (.int c3_), (.int (nar .char c4_)), (.int 0), (.int 0)] (.int 0) := Arv.set Ar447 q447 S447 M447 H447 G447 (fits_nar_char _) W447 4 rfl (Nat.le_of_ble_eq_true rfl)
 rw [own_narc hc4_] at V447
 have K447 := K446.wr W447 (Or.inl (List.mem_of_getElem? (i := 0) rfl))
 have O447 := O446.wr W447 g_b414
 have N447 := Fr.snoc X447 N446 g_b414
 show Ends _ _ _ _ T447 (mkF m 35 #[cr b400, ci 0, ci 7, cr b414, ci 5, ci 4] []) _ _ _
 refine wii X447 hx hby d24_35 (l' := #[cr b400, ci 0, ci 7, cr b414, ci 5, ci 5]) rfl rfl ?_
 refine wgo (pc := 38) (pc' := 16) X447 hx hby d24_38 (by decide) (by decide) ?_
 refine wil X447 hx hby d24_16 rfl ?_
 refine wilN X447 hx hby d24_18 rfl ?_
 refine wcn X447 hx hby d24_19 (tlt (by decide : (5 : Int32) < (7 : Int32))).2.1 ?_
 show Ends _ _ _ _ T447 (mkF m 22 #[cr b400, ci 0, ci 7, cr b414, ci 5, ci 5] []) _ _ _
 refine walN X447 hx hby d24_22 rfl rfl ?_
 refine wil X447 hx hby d24_23 rfl ?_
 refine wii X447 hx hby d24_25 (l' := #[cr b400, ci 0, ci 7, cr b414, ci 6, ci 5]) rfl rfl ?_
 refine walN X447 hx hby d24_28 rfl rfl ?_
 refine wil X447 hx hby d24_29 rfl ?_
 show Ends _ _ _ _ T447 (mkF m 31 #[cr b400, ci 0, ci 7, cr b414, ci 6, ci 5] [(.int 5), (.ref b400), (.int 5), (.ref b414)]) _ _ _
 obtain ⟨_, _, ⟨T448, L448, k448, n448⟩, -, X448, ⟨Lc448, hQ448, l448, y448, z448⟩, st448⟩ := Jvm.LawKit.callS X447 hx (y := ym7) hown (mvT hZ (ow hw 47 rfl)) (mvT hZ (ow hw 48 rfl)) (mvT hZ (ow hw 25 rfl)) (mvT hZ (ow hw 49 rfl)) (by decide) (own_backOf (W := 2) (rx11_52 l Z a0 hw [] n0 h447 O447 G1 G3 GF b400 k401 c0_ c1_ c2_ c3_ c4_ c5_ c6_ (((((((((((PV_b400.keep K437c nin0).keep K438c nin0).other W439 ne_b400_b414).keep K440c nin0).other W441 ne_b400_b414).keep K442c nin0).other W443 ne_b400_b414).keep K444c nin0).other W445 ne_b400_b414).keep K446c nin0).other W447 ne_b400_b414) hc5_) hZ (ow hw 49 rfl) (ow hw 25 rfl) (by decide) (by decide)) (g := (mkF m 31 #[cr b400, ci 0, ci 7, cr b414, ci 6, ci 5] [(.int 5), (.ref b400), (.int 5), (.ref b414)])) rfl (by rw [hml]; rfl) (argsL := [(.ref b400), (.int 5)]) (rest := [(.int 5), (.ref b414)]) (lenOf pdx_22 rfl) rfl (by show 2 * 0 + _ ≤ _; exact Nat.le_of_eq rfl) (hb hby d24_31) (fun _ _ => ⟨rfl, e447, (by decide : 0 + 0 ≤ _), (by decide : 0 + 0 ≤ _)⟩)
 dsimp only [Pt.U, Pt.locs, Pt.cells, Pt.slots] at X448 l448 y448 z448 st448 hQ448
 subst l448 y448 z448
 obtain ⟨rfl, N448q, K448c⟩ := hQ448
 have N448 := Fr.app N447 N448q
 refine Ends.go st448 ?_
 obtain ⟨h448, e448⟩ : ∃ z, T448.heap = z := ⟨_, rfl⟩
 rw [e448] at K448c
 have K448 := K447.trans K448c all0
 have O448 := O447.keep K448c all0
 obtain ⟨cl449, Ar449, q449, S449, M449, H449, G449⟩ := id (V447.keep K448c nin0)
 have hin449 := inb_of (j := (5 : Int32)) S449 ⟨by decide, by decide⟩
 obtain ⟨T449, h449, X449, e449, W449, st449⟩ := stC X448 hx hZ e448 Ar449 (j := (5 : Int32)) hin449 (g := (mkF m 34 #[cr b400, ci 0, ci 7, cr b414, ci 6, ci 5] [(.int c5_), (.int 5), (.ref b414)])) rfl rfl (hb hby d24_34)
 refine Ends.go st449 ?_
 have V449 : Arv Z h449 b414 k414 .char (7 : Int32) [(.int c0_), (.int c1_), (.int c2_), (.int c3_), (.int c4_), (.int (nar .char c5_)), (.int 0)] (.int 0) := Arv.set Ar449 q449 S449 M449 H449 G449 (fits_nar_char _) W449 5 rfl (Nat.le_of_ble_eq_true rfl)
 rw [own_narc hc5_] at V449
 have K449 := K448.wr W449 (Or.inl (List.mem_of_getElem? (i := 0) rfl))
 have O449 := O448.wr W449 g_b414
 have N449 := Fr.snoc X449 N448 g_b414
 refine wii X449 hx hby d24_35 (l' := #[cr b400, ci 0, ci 7, cr b414, ci 6, ci 6]) rfl rfl ?_
 refine wgo (pc := 38) (pc' := 16) X449 hx hby d24_38 (by decide) (by decide) ?_
 refine wil X449 hx hby d24_16 rfl ?_
 show Ends _ _ _ _ T449 (mkF m 18 #[cr b400, ci 0, ci 7, cr b414, ci 6, ci 6] [(.int 6)]) _ _ _
 refine wilN X449 hx hby d24_18 rfl ?_
 refine wcn X449 hx hby d24_19 (tlt (by decide : (6 : Int32) < (7 : Int32))).2.1 ?_
 refine walN X449 hx hby d24_22 rfl rfl ?_
 refine wil X449 hx hby d24_23 rfl ?_
 refine wii X449 hx hby d24_25 (l' := #[cr b400, ci 0, ci 7, cr b414, ci 7, ci 6]) rfl rfl ?_
 show Ends _ _ _ _ T449 (mkF m 28 #[cr b400, ci 0, ci 7, cr b414, ci 7, ci 6] [(.int 6), (.ref b414)]) _ _ _
 refine walN X449 hx hby d24_28 rfl rfl ?_
 refine wil X449 hx hby d24_29 rfl ?_
 obtain ⟨_, _, ⟨T450, L450, k450, n450⟩, -, X450, ⟨Lc450, hQ450, l450, y450, z450⟩, st450⟩ := Jvm.LawKit.callS X449 hx (y := ym7) hown (mvT hZ (ow hw 47 rfl)) (mvT hZ (ow hw 48 rfl)) (mvT hZ (ow hw 25 rfl)) (mvT hZ (ow hw 49 rfl)) (by decide) (own_backOf (W := 2) (rx11_58 l Z a0 hw [] n0 h449 O449 G1 G3 GF b400 k401 c0_ c1_ c2_ c3_ c4_ c5_ c6_ (((((((((((((PV_b400.keep K437c nin0).keep K438c nin0).other W439 ne_b400_b414).keep K440c nin0).other W441 ne_b400_b414).keep K442c nin0).other W443 ne_b400_b414).keep K444c nin0).other W445 ne_b400_b414).keep K446c nin0).other W447 ne_b400_b414).keep K448c nin0).other W449 ne_b400_b414) hc6_) hZ (ow hw 49 rfl) (ow hw 25 rfl) (by decide) (by decide)) (g := (mkF m 31 #[cr b400, ci 0, ci 7, cr b414, ci 7, ci 6] [(.int 6), (.ref b400), (.int 6), (.ref b414)])) rfl (by rw [hml]; rfl) (argsL := [(.ref b400), (.int 6)]) (rest := [(.int 6), (.ref b414)]) (lenOf pdx_22 rfl) rfl (by show 2 * 0 + _ ≤ _; exact Nat.le_of_eq rfl) (hb hby d24_31) (fun _ _ => ⟨rfl, e449, (by decide : 0 + 0 ≤ _), (by decide : 0 + 0 ≤ _)⟩)
 dsimp only [Pt.U, Pt.locs, Pt.cells, Pt.slots] at X450 l450 y450 z450 st450 hQ450
 subst l450 y450 z450
 obtain ⟨rfl, N450q, K450c⟩ := hQ450
 have N450 := Fr.app N449 N450q
 refine Ends.go st450 ?_
 obtain ⟨h450, e450⟩ : ∃ z, T450.heap = z := ⟨_, rfl⟩
 rw [e450] at K450c
 have K450 := K449.trans K450c all0
 have O450 := O449.keep K450c all0
 obtain ⟨cl451, Ar451, q451, S451, M451, H451, G451⟩ := id (V449.keep K450c nin0)
 have hin451 := inb_of (j := (6 : Int32)) S451 ⟨by decide, by decide⟩
 obtain ⟨T451, h451, X451, e451, W451, st451⟩ := stC X450 hx hZ e450 Ar451 (j := (6 : Int32)) hin451 (g := (mkF m 34 #[cr b400, ci 0, ci 7, cr b414, ci 7, ci 6] [(.int c6_), (.int 6), (.ref b414)])) rfl rfl (hb hby d24_34)
 refine Ends.go st451 ?_
 have V451 : Arv Z h451 b414 k414 .char (7 : Int32) [(.int c0_), (.int c1_), (.int c2_), (.int c3_), (.int c4_), (.int c5_), (.int (nar .char c6_))] (.int 0) := Arv.set Ar451 q451 S451 M451 H451 G451 (fits_nar_char _) W451 6 rfl (Nat.le_of_ble_eq_true rfl)
 rw [own_narc hc6_] at V451
 have K451 := K450.wr W451 (Or.inl (List.mem_of_getElem? (i := 0) rfl))
 have O451 := O450.wr W451 g_b414
 have N451 := Fr.snoc X451 N450 g_b414
 refine wii X451 hx hby d24_35 (l' := #[cr b400, ci 0, ci 7, cr b414, ci 7, ci 7]) rfl rfl ?_
 show Ends _ _ _ _ T451 (mkF m 38 #[cr b400, ci 0, ci 7, cr b414, ci 7, ci 7] []) _ _ _
 refine wgo (pc := 38) (pc' := 16) X451 hx hby d24_38 (by decide) (by decide) ?_
 refine wil X451 hx hby d24_16 rfl ?_
 refine wilN X451 hx hby d24_18 rfl ?_
 refine wcy (pc := 19) (pc' := 41) X451 hx hby d24_19 (flt (by decide : ¬ ((7 : Int32) < (7 : Int32)))).2.1 (by decide) (by decide) ?_
 refine Ends.retV X451 hx Bd.notSynchronized Bd.returns (hb hby d24_41) (by decide) (by decide) ?_
 rw [e451]
 exact ⟨rfl, N451, K451, V451⟩

theorem d18_42 : decode jdk_42_method_61_code 42 = .ok (.aload_n 0, 1) := by decide +kernel
theorem d18_43 : decode jdk_42_method_61_code 43 = .ok (.getfield 9, 3) := by decide +kernel
theorem d18_46 : decode jdk_42_method_61_code 46 = .ok (.iload_n 1, 1) := by decide +kernel
theorem d18_47 : decode jdk_42_method_61_code 47 = .ok (.iload_n 2, 1) := by decide +kernel
theorem d18_48 : decode jdk_42_method_61_code 48 = .ok (.aload_n 3, 1) := by decide +kernel
theorem d18_49 : decode jdk_42_method_61_code 49 = .ok (.iload 4, 2) := by decide +kernel
theorem d18_51 : decode jdk_42_method_61_code 51 = .ok (.invokestatic 529, 3) := by decide +kernel
set_option maxRecDepth 65536 in
set_option maxHeartbeats 40000000 in
theorem rx18_421 (l : Launch) (Z : State) (a0 : Array Value) (hw : ∀ d ∈ tables_1, d.before a0 Z = true) (ws : List Jvm.Cond) (n0 : Nat) (h0 : Heap) (O0 : Old Z n0 h0) (G1 : Int32) (G3 : Value) (GF : GlobF Z G1 G3) (b216 : Addr) (b414 : Addr) (b400 : Addr) (k401 : ClassId) (c0_ : Int32) (c1_ : Int32) (c2_ : Int32) (c3_ : Int32) (c4_ : Int32) (c5_ : Int32) (c6_ : Int32) (k414 : ClassId) (PF_b216_value : Fld Z h0 b216 "java/lang/String" "value" "[B" (.ref b400)) (PV_b400 : Arv Z h0 b400 k401 .byte (14 : Int32) [(.int ((c0_ >>> ((0 : Int32) &&& 31)).toInt8.toInt32)), (.int ((c0_ >>> ((8 : Int32) &&& 31)).toInt8.toInt32)), (.int ((c1_ >>> ((0 : Int32) &&& 31)).toInt8.toInt32)), (.int ((c1_ >>> ((8 : Int32) &&& 31)).toInt8.toInt32)), (.int ((c2_ >>> ((0 : Int32) &&& 31)).toInt8.toInt32)), (.int ((c2_ >>> ((8 : Int32) &&& 31)).toInt8.toInt32)), (.int ((c3_ >>> ((0 : Int32) &&& 31)).toInt8.toInt32)), (.int ((c3_ >>> ((8 : Int32) &&& 31)).toInt8.toInt32)), (.int ((c4_ >>> ((0 : Int32) &&& 31)).toInt8.toInt32)), (.int ((c4_ >>> ((8 : Int32) &&& 31)).toInt8.toInt32)), (.int ((c5_ >>> ((0 : Int32) &&& 31)).toInt8.toInt32)), (.int ((c5_ >>> ((8 : Int32) &&& 31)).toInt8.toInt32)), (.int ((c6_ >>> ((0 : Int32) &&& 31)).toInt8.toInt32)), (.int ((c6_ >>> ((8 : Int32) &&& 31)).toInt8.toInt32))] (.int 0)) (PF_b216_coder : Fld Z h0 b216 "java/lang/String" "coder" "B" (.int 1)) (PE_b216 : Exa Z h0 b216 "java/lang/String") (PV_b414 : Arv Z h0 b414 k414 .char (7 : Int32) [(.int 0), (.int 0), (.int 0), (.int 0), (.int 0), (.int 0), (.int 0)] (.int 0)) (ne_b400_b414 : b400 ≠ b414) (g_b414 : n0 ≤ b414) (hc0_ : 0 ≤ c0_.toInt ∧ c0_.toInt < 65536) (hc1_ : 0 ≤ c1_.toInt ∧ c1_.toInt < 65536) (hc2_ : 0 ≤ c2_.toInt ∧ c2_.toInt < 65536) (hc3_ : 0 ≤ c3_.toInt ∧ c3_.toInt < 65536) (hc4_ : 0 ≤ c4_.toInt ∧ c4_.toInt < 65536) (hc5_ : 0 ≤ c5_.toInt ∧ c5_.toInt < 65536) (hc6_ : 0 ≤ c6_.toInt ∧ c6_.toInt < 65536) :
  Meets1 l ym21 jdk_42_method_61_code 5 none ws ({ frames := 4, cells := 0, slots := 0, locals := 60 } : Room) #[(.ref b216), (.int 0), (.int 7), (.ref b414), (.int 0)] Z h0 (fun v h L => v = none ∧ Fr n0 L ∧ Keep h0 h [b414] ∧ Arv Z h b414 k414 .char (7 : Int32) [(.int c0_), (.int c1_), (.int c2_), (.int c3_), (.int c4_), (.int c5_), (.int c6_)] (.int 0)) := by
 refine MetFree.of_bodySF (plainFor_of_name pn18) hisR ?_
 intro p e s m args below meth c s₁ Bd hml0 hP hK
 obtain ⟨rfl, hZ, hh⟩ := hP
 have hx := Bd.exec
 have hby := Bd.bytes
 have hml : c.maxLocals = 5 := hml0
 have hown : s.vm.findClass "java/lang/String" = some m.cls := findClass_of_methodNamed Bd.named
 have hnm := (name_of_methodNamed Bd.named Bd.method).1
 have X0 : Stand p l e ({ frames := 4, cells := 0, slots := 0, locals := 60 } : Room) s m #[(.ref b216), (.int 0), (.int 7), (.ref b414), (.int 0)] below meth c s₁ [] 0 0 := Stand.of_body Bd
 have e0 : s₁.heap = h0 := by rw [← hh, Bd.state]; rfl
 have N0 := Fr.nil n0
 have Z0 := own_old_le O0
 show Ends _ _ _ _ s₁ (entryFrame m #[(.ref b216), (.int 0), (.int 7), (.ref b414), (.int 0)] 5) ({ frames := 4, cells := 0, slots := 0, locals := 60 } : Room).cells ({ frames := 4, cells := 0, slots := 0, locals := 60 } : Room).slots (fun v h L => v = none ∧ Fr n0 L ∧ Keep h0 h [b414] ∧ Arv Z h b414 k414 .char (7 : Int32) [(.int c0_), (.int c1_), (.int c2_), (.int c3_), (.int c4_), (.int c5_), (.int c6_)] (.int 0))
 refine Ends.go (fun _ k => castTop (ef18_riiri m b216 (0 : Int32) (7 : Int32) b414 (0 : Int32)) k) ?_
 obtain ⟨SCS, P5, SAD, SHI, SLO, SSF, RG3⟩ := id GF
 have K0 := Keep.refl h0 [b414]
 show Ends _ _ _ _ s₁ (mkF m 0 #[cr b216, ci 0, ci 7, cr b414, ci 0] []) _ _ _
 refine wilN X0 hx hby d18_0 rfl ?_
 refine wilN X0 hx hby d18_1 rfl ?_
 refine walN X0 hx hby d18_2 rfl rfl ?_
 obtain ⟨cq422, kq422, q422a, q422b, q422c⟩ := isOf hZ e0 PE_b216
 obtain ⟨_, _, ⟨T422, L422, k422, n422⟩, -, X422, ⟨Lc422, hQ422, l422, y422, z422⟩, st422⟩ := X0.virtualBack hx (y := ym16) (z := ym16) hown (mvT hZ (ow hw 91 rfl)) (mvT hZ (ow hw 69 rfl)) (notFace_of_selects (args := #[]) (mvT hZ (ow hw 71 rfl))) (mvT hZ (ow hw 71 rfl)) (mvT hZ (ow hw 70 rfl)) (by decide) (own_backOf (W := 2) (rx15_405 l Z a0 hw [] n0 h0 O0 G1 G3 GF b216 b400 k401 c0_ c1_ c2_ c3_ c4_ c5_ c6_ PF_b216_value PV_b400 PF_b216_coder PE_b216) hZ (ow hw 72 rfl) (ow hw 11 rfl) (by decide) (by decide)) q422a q422c (g := (mkF m 3 #[cr b216, ci 0, ci 7, cr b414, ci 0] [(.ref b216), (.int 7), (.int 0)])) rfl (by rw [hml]; rfl) (Steps.refl _) (argsL := []) (rest := [(.int 7), (.int 0)]) (lenOf pdx_10 rfl) rfl (by show 2 * 0 + _ ≤ _; exact Nat.le_of_eq rfl) (hb hby d18_3) (fun _ _ => ⟨rfl, e0, (by decide : 0 + 0 ≤ _), (by decide : 0 + 0 ≤ _)⟩)
 dsimp only [Pt.U, Pt.locs, Pt.cells, Pt.slots] at X422 l422 y422 z422 st422 hQ422
 subst l422 y422 z422
 obtain ⟨rfl, N422q, K422c⟩ := hQ422
 have N422 := Fr.app N0 N422q
 refine Ends.go (fun _ k => st422.trans k) ?_
 obtain ⟨h422, e422⟩ : ∃ z, T422.heap = z := ⟨_, rfl⟩
 rw [e422] at K422c
 have K422 := K0.trans K422c all0
 have O422 := O0.keep K422c all0
 show Ends _ _ _ _ T422 (mkF m 6 #[cr b216, ci 0, ci 7, cr b414, ci 0] [(.int 7), (.int 7), (.int 0)]) _ _ _
 obtain ⟨_, _, ⟨T423, L423, k423, n423⟩, -, X423, ⟨Lc423, hQ423, l423, y423, z423⟩, st423⟩ := Jvm.LawKit.callS X422 hx (y := ym3) hown (mvT hZ (ow hw 92 rfl)) (mvT hZ (ow hw 93 rfl)) (mvT hZ (ow hw 11 rfl)) (mvT hZ (ow hw 94 rfl)) (by decide) (own_backOf (W := 0) (rm_checkBoundsBeginEnd l Z a0 hw [] n0 h422 O422 (0 : Int32) (7 : Int32) (7 : Int32) G1 G3 GF (by decide) (by decide) (by decide)) hZ (ow hw 94 rfl) (ow hw 11 rfl) (by decide) (by decide)) (g := (mkF m 6 #[cr b216, ci 0, ci 7, cr b414, ci 0] [(.int 7), (.int 7), (.int 0)])) rfl (by rw [hml]; rfl) (argsL := [(.int 0), (.int 7), (.int 7)]) (rest := []) (lenOf pdx_12 rfl) rfl (by show 2 * 0 + _ ≤ _; exact Nat.le_of_eq rfl) (hb hby d18_6) (fun _ _ => ⟨rfl, e422, (by decide : 0 + 0 ≤ _), (by decide : 0 + 0 ≤ _)⟩)
 dsimp only [Pt.U, Pt.locs, Pt.cells, Pt.slots] at X423 l423 y423 z423 st423 hQ423
 subst l423 y423 z423
 obtain ⟨rfl, N423q, e423q⟩ := hQ423
 have N423 := Fr.app N422 N423q
 refine Ends.go st423 ?_
 refine wil X423 hx hby d18_9 rfl ?_
 refine wilN X423 hx hby d18_11 rfl ?_
 refine wilN X423 hx hby d18_12 rfl ?_
 refine wis X423 hx hby d18_13 ?_
 show Ends _ _ _ _ T423 (mkF m 14 #[cr b216, ci 0, ci 7, cr b414, ci 0] [(.int 7), (.int 0)]) _ _ _
 refine walN X423 hx hby d18_14 rfl rfl ?_
 obtain ⟨cl424, Ar424, q424, S424, M424, H424, G424⟩ := id (PV_b414.keep K422c nin0)
 refine Ends.go (X423.arraylength hx (by rw [e423q]; exact Ar424.1) (State.isArrayOf_alike hZ.alike Ar424.2.1) (g := (mkF m 15 #[cr b216, ci 0, ci 7, cr b414, ci 0] [(.ref b414), (.int 7), (.int 0)])) rfl rfl (hb hby d18_15)) ?_
 rw [len_of S424 M424]
 obtain ⟨_, _, ⟨T425, L425, k425, n425⟩, -, X425, ⟨Lc425, hQ425, l425, y425, z425⟩, st425⟩ := Jvm.LawKit.callS X423 hx (y := ym5) hown (mvT hZ (ow hw 100 rfl)) (mvT hZ (ow hw 101 rfl)) (mvT hZ (ow hw 11 rfl)) (mvT hZ (ow hw 102 rfl)) (by decide) (own_backOf (W := 0) (rm_checkBoundsOffCount l Z a0 hw [] n0 h422 O422 (0 : Int32) (7 : Int32) (7 : Int32) G1 G3 GF (by decide) (by decide)) hZ (ow hw 102 rfl) (ow hw 11 rfl) (by decide) (by decide)) (g := (mkF m 16 #[cr b216, ci 0, ci 7, cr b414, ci 0] [(.int 7), (.int 7), (.int 0)])) rfl (by rw [hml]; rfl) (argsL := [(.int 0), (.int 7), (.int 7)]) (rest := []) (lenOf pdx_13 rfl) rfl (by show 2 * 0 + _ ≤ _; exact Nat.le_of_eq rfl) (hb hby d18_16) (fun _ _ => ⟨rfl, e423q, (by decide : 0 + 0 ≤ _), (by decide : 0 + 0 ≤ _)⟩)
 dsimp only [Pt.U, Pt.locs, Pt.cells, Pt.slots] at X425 l425 y425 z425 st425 hQ425
 subst l425 y425 z425
 obtain ⟨rfl, N425q, e425q⟩ := hQ425
 have N425 := Fr.app N423 N425q
 refine Ends.go st425 ?_
 refine .go (fun _ => XS.pop X425.here hx rfl (hb hby d18_19) rfl rfl) ?_
 refine walN X425 hx hby d18_20 rfl rfl ?_
 show Ends _ _ _ _ T425 (mkF m 21 #[cr b216, ci 0, ci 7, cr b414, ci 0] [(.ref b216)]) _ _ _
 obtain ⟨cq429, kq429, q429a, q429b, q429c⟩ := isOf hZ e425q (PE_b216.keep K422c)
 obtain ⟨_, _, ⟨T429, L429, k429, n429⟩, -, X429, ⟨Lc429, hQ429, l429, y429, z429⟩, st429⟩ := X425.virtualBack hx (y := ym18) (z := ym18) hown (mvT hZ (ow hw 106 rfl)) (mvT hZ (ow hw 107 rfl)) (notFace_of_selects (args := #[]) (mvT hZ (ow hw 109 rfl))) (mvT hZ (ow hw 109 rfl)) (mvT hZ (ow hw 108 rfl)) (by decide) (own_backOf (W := 0) (rx23_426 l Z a0 hw [] n0 h422 O422 G1 G3 GF b216 (PF_b216_coder.keep K422c nin0)) hZ (ow hw 110 rfl) (ow hw 11 rfl) (by decide) (by decide)) q429a q429c (g := (mkF m 21 #[cr b216, ci 0, ci 7, cr b414, ci 0] [(.ref b216)])) rfl (by rw [hml]; rfl) (Steps.refl _) (argsL := []) (rest := []) (lenOf pdx_14 rfl) rfl (by show 2 * 0 + _ ≤ _; exact Nat.le_of_eq rfl) (hb hby d18_21) (fun _ _ => ⟨rfl, e425q, (by decide : 0 + 0 ≤ _), (by decide : 0 + 0 ≤ _)⟩)
 dsimp only [Pt.U, Pt.locs, Pt.cells, Pt.slots] at X429 l429 y429 z429 st429 hQ429
 subst l429 y429 z429
 obtain ⟨rfl, N429q, K429c⟩ := hQ429
 have N429 := Fr.app N425 N429q
 refine Ends.go (fun _ k => st429.trans k) ?_
 obtain ⟨h429, e429⟩ : ∃ z, T429.heap = z := ⟨_, rfl⟩
 rw [e429] at K429c
 have K429 := K422.trans K429c all0
 have O429 := O422.keep K429c all0
 refine wiy (pc := 24) (pc' := 42) X429 hx hby d18_24 ((if0 _ _).trans (teq (by decide : (0 : Int32) = (0 : Int32))).1) (by decide) (by decide) ?_
 refine walN X429 hx hby d18_42 rfl rfl ?_
 obtain ⟨T430, X430, e430, st430⟩ := getF X429 hx hZ hown (host := "") (Or.inl (ow hw 55 rfl)) Via.refl e429 ((PF_b216_value.keep K422c nin0).keep K429c nin0) (g := (mkF m 43 #[cr b216, ci 0, ci 7, cr b414, ci 0] [(.ref b216)])) rfl rfl (hb hby d18_43)
 refine Ends.go st430 ?_
 refine wilN X430 hx hby d18_46 rfl ?_
 show Ends _ _ _ _ T430 (mkF m 47 #[cr b216, ci 0, ci 7, cr b414, ci 0] [(.int 0), (.ref b400)]) _ _ _
 refine wilN X430 hx hby d18_47 rfl ?_
 refine walN X430 hx hby d18_48 rfl rfl ?_
 refine wil X430 hx hby d18_49 rfl ?_
 obtain ⟨_, _, ⟨T452, L452, k452, n452⟩, -, X452, ⟨Lc452, hQ452, l452, y452, z452⟩, st452⟩ := Jvm.LawKit.callS X430 hx (y := ym29) hown (mvT hZ (ow hw 111 rfl)) (mvT hZ (ow hw 112 rfl)) (mvT hZ (ow hw 25 rfl)) (mvT hZ (ow hw 113 rfl)) (by decide) (own_backOf (W := 0) (rx24_431 l Z a0 hw [] n0 h429 O429 G1 G3 GF b400 b414 k401 c0_ c1_ c2_ c3_ c4_ c5_ c6_ k414 ((PV_b400.keep K422c nin0).keep K429c nin0) ((PV_b414.keep K422c nin0).keep K429c nin0) ne_b400_b414 g_b414 hc0_ hc1_ hc2_ hc3_ hc4_ hc5_ hc6_) hZ (ow hw 113 rfl) (ow hw 25 rfl) (by decide) (by decide)) (g := (mkF m 51 #[cr b216, ci 0, ci 7, cr b414, ci 0] [(.int 0), (.ref b414), (.int 7), (.int 0), (.ref b400)])) rfl (by rw [hml]; rfl) (argsL := [(.ref b400), (.int 0), (.int 7), (.ref b414), (.int 0)]) (rest := []) (lenOf pdx_16 rfl) rfl (by show 2 * 0 + _ ≤ _; exact Nat.le_of_eq rfl) (hb hby d18_51) (fun _ _ => ⟨rfl, e430, (by decide : 0 + 0 ≤ _), (by decide : 0 + 0 ≤ _)⟩)
 dsimp only [Pt.U, Pt.locs, Pt.cells, Pt.slots] at X452 l452 y452 z452 st452 hQ452
 subst l452 y452 z452
 obtain ⟨rfl, N452q, K452c, Y452_0⟩ := hQ452
 have N452 := Fr.app N429 N452q
 refine Ends.go st452 ?_
 obtain ⟨h452, e452⟩ : ∃ z, T452.heap = z := ⟨_, rfl⟩
 rw [e452] at K452c Y452_0
 have K452 := K429.trans K452c (allS (Or.inl (List.mem_of_getElem? (i := 0) rfl)) all0)
 have O452 := O429.keep K452c (allS g_b414 all0)
 refine Ends.retV X452 hx Bd.notSynchronized Bd.returns (hb hby d18_54) (by decide) (by decide) ?_
 rw [e452]
 exact ⟨rfl, N452, K452, Y452_0⟩

set_option maxRecDepth 65536 in
set_option maxHeartbeats 40000000 in
theorem rx13_402 (l : Launch) (Z : State) (a0 : Array Value) (hw : ∀ d ∈ tables_1, d.before a0 Z = true) (ws : List Jvm.Cond) (n0 : Nat) (h0 : Heap) (O0 : Old Z n0 h0) (G1 : Int32) (G3 : Value) (GF : GlobF Z G1 G3) (b215 : Addr) (b216 : Addr) (b400 : Addr) (k401 : ClassId) (c0_ : Int32) (c1_ : Int32) (c2_ : Int32) (c3_ : Int32) (c4_ : Int32) (c5_ : Int32) (c6_ : Int32) (PE_b215 : Exa Z h0 b215 cSI) (PF_b215_text : Fld Z h0 b215 cSI "text" "Ljava/lang/String;" .null) (PF_b216_value : Fld Z h0 b216 "java/lang/String" "value" "[B" (.ref b400)) (PV_b400 : Arv Z h0 b400 k401 .byte (14 : Int32) [(.int ((c0_ >>> ((0 : Int32) &&& 31)).toInt8.toInt32)), (.int ((c0_ >>> ((8 : Int32) &&& 31)).toInt8.toInt32)), (.int ((c1_ >>> ((0 : Int32) &&& 31)).toInt8.toInt32)), (.int ((c1_ >>> ((8 : Int32) &&& 31)).toInt8.toInt32)), (.int ((c2_ >>> ((0 : Int32) &&& 31)).toInt8.toInt32)), (.int ((c2_ >>> ((8 : Int32) &&& 31)).toInt8.toInt32)), (.int ((c3_ >>> ((0 : Int32) &&& 31)).toInt8.toInt32)), (.int ((c3_ >>> ((8 : Int32) &&& 31)).toInt8.toInt32)), (.int ((c4_ >>> ((0 : Int32) &&& 31)).toInt8.toInt32)), (.int ((c4_ >>> ((8 : Int32) &&& 31)).toInt8.toInt32)), (.int ((c5_ >>> ((0 : Int32) &&& 31)).toInt8.toInt32)), (.int ((c5_ >>> ((8 : Int32) &&& 31)).toInt8.toInt32)), (.int ((c6_ >>> ((0 : Int32) &&& 31)).toInt8.toInt32)), (.int ((c6_ >>> ((8 : Int32) &&& 31)).toInt8.toInt32))] (.int 0)) (PF_b216_coder : Fld Z h0 b216 "java/lang/String" "coder" "B" (.int 1)) (PE_b216 : Exa Z h0 b216 "java/lang/String") (PF_b215_chars : Fld Z h0 b215 cSI "chars" "[C" .null) (PF_b215_limit : Fld Z h0 b215 cSI "limit" "I" (.int 0)) (PF_b215_position : Fld Z h0 b215 cSI "position" "I" (.int 0)) (PF_b215_base : Fld Z h0 b215 cSI "base" "I" (.int 0)) (ne_b216_b215 : b216 ≠ b215) (ne_b400_b215 : b400 ≠ b215) (g_b215 : n0 ≤ b215) (hc0_ : 0 ≤ c0_.toInt ∧ c0_.toInt < 65536) (hc1_ : 0 ≤ c1_.toInt ∧ c1_.toInt < 65536) (hc2_ : 0 ≤ c2_.toInt ∧ c2_.toInt < 65536) (hc3_ : 0 ≤ c3_.toInt ∧ c3_.toInt < 65536) (hc4_ : 0 ≤ c4_.toInt ∧ c4_.toInt < 65536) (hc5_ : 0 ≤ c5_.toInt ∧ c5_.toInt < 65536) (hc6_ : 0 ≤ c6_.toInt ∧ c6_.toInt < 65536) :
  Meets1 l ym22 prog_85_method_1_code 2 none ws ({ frames := 5, cells := 1, slots := 7, locals := 76 } : Room) #[(.ref b215), (.ref b216)] Z h0 (fun v h L => ∃ (b414 : Addr) (k414 : ClassId), v = none ∧ Fr n0 L ∧ Keep h0 h [b215] ∧ h0.size ≤ b414 ∧ Fld Z h b215 cSI "text" "Ljava/lang/String;" (.ref b216) ∧ Fld Z h b215 cSI "chars" "[C" (.ref b414) ∧ Fld Z h b215 cSI "limit" "I" (.int 7) ∧ Arv Z h b414 k414 .char (7 : Int32) [(.int c0_), (.int c1_), (.int c2_), (.int c3_), (.int c4_), (.int c5_), (.int c6_)] (.int 0) ∧ Fld Z h b215 cSI "position" "I" (.int 0) ∧ Fld Z h b215 cSI "base" "I" (.int 0)) := by
 refine MetFree.of_bodySF (plainFor_of_name pn13) hisR ?_
 intro p e s m args below meth c s₁ Bd hml0 hP hK
 obtain ⟨rfl, hZ, hh⟩ := hP
 have hx := Bd.exec
 have hby := Bd.bytes
 have hml : c.maxLocals = 2 := hml0
 have hown : s.vm.findClass "com/example/ratatoskr/ratatoskr/core/internal/StringInput" = some m.cls := findClass_of_methodNamed Bd.named
 have hnm := (name_of_methodNamed Bd.named Bd.method).1
 have X0 : Stand p l e ({ frames := 5, cells := 1, slots := 7, locals := 76 } : Room) s m #[(.ref b215), (.ref b216)] below meth c s₁ [] 0 0 := Stand.of_body Bd
 have e0 : s₁.heap = h0 := by rw [← hh, Bd.state]; rfl
 have N0 := Fr.nil n0
 have Z0 := own_old_le O0
 show Ends _ _ _ _ s₁ (entryFrame m #[(.ref b215), (.ref b216)] 2) ({ frames := 5, cells := 1, slots := 7, locals := 76 } : Room).cells ({ frames := 5, cells := 1, slots := 7, locals := 76 } : Room).slots (fun v h L => ∃ (b414 : Addr) (k414 : ClassId), v = none ∧ Fr n0 L ∧ Keep h0 h [b215] ∧ h0.size ≤ b414 ∧ Fld Z h b215 cSI "text" "Ljava/lang/String;" (.ref b216) ∧ Fld Z h b215 cSI "chars" "[C" (.ref b414) ∧ Fld Z h b215 cSI "limit" "I" (.int 7) ∧ Arv Z h b414 k414 .char (7 : Int32) [(.int c0_), (.int c1_), (.int c2_), (.int c3_), (.int c4_), (.int c5_), (.int c6_)] (.int 0) ∧ Fld Z h b215 cSI "position" "I" (.int 0) ∧ Fld Z h b215 cSI "base" "I" (.int 0))
 refine Ends.go (fun _ k => castTop (ef13_rr m b215 b216) k) ?_
 obtain ⟨SCS, P5, SAD, SHI, SLO, SSF, RG3⟩ := id GF
 have K0 := Keep.refl h0 [b215]
 show Ends _ _ _ _ s₁ (mkF m 0 #[cr b215, cr b216] []) _ _ _
 refine walN X0 hx hby d13_0 rfl rfl ?_
 obtain ⟨_, _, ⟨T403, L403, k403, n403⟩, -, X403, ⟨Lc403, hQ403, l403, y403, z403⟩, st403⟩ := X0.specialBack hx (y := ym14) rfl hown (mvT hZ (ow hw 60 rfl)) (mvT hZ (ow hw 61 rfl)) (mvT hZ (ow hw 64 rfl)) (by decide) (own_backOf (W := 0) (rx14_255 l Z a0 hw [] n0 h0 O0  b215 ) hZ (ow hw 64 rfl) (ow hw 63 rfl) (by decide) (by decide)) (g := (mkF m 1 #[cr b215, cr b216] [(.ref b215)])) rfl (by rw [hml]; rfl) (Steps.refl _) (a := b215) (argsL := []) (rest := []) (lenOf pdx_3 rfl) rfl (by show 2 * 0 + _ ≤ _; exact Nat.le_of_eq rfl) (hb hby d13_1) (fun _ _ => ⟨rfl, e0, (by decide : 0 + 0 ≤ _), (by decide : 0 + 0 ≤ _)⟩)
 dsimp only [Pt.U, Pt.locs, Pt.cells, Pt.slots] at X403 l403 y403 z403 st403 hQ403
 subst l403 y403 z403
 obtain ⟨rfl, N403q, K403c⟩ := hQ403
 have N403 := Fr.app N0 N403q
 refine Ends.go (fun _ k => st403.trans k) ?_
 obtain ⟨h403, e403⟩ : ∃ z, T403.heap = z := ⟨_, rfl⟩
 rw [e403] at K403c
 have K403 := K0.trans K403c all0
 have O403 := O0.keep K403c all0
 refine walN X403 hx hby d13_4 rfl rfl ?_
 refine walN X403 hx hby d13_5 rfl rfl ?_
 show Ends _ _ _ _ T403 (mkF m 6 #[cr b215, cr b216] [(.ref b216), (.ref b215)]) _ _ _
 obtain ⟨T404, h404, X404, e404, W404, st404⟩ := putF X403 hx hZ hown (host := "") (Or.inl (ow hw 66 rfl)) Via.refl e403 (PF_b215_text.keep K403c nin0) (PE_b215.keep K403c) (Or.inr ⟨(ow hw 67 rfl), rfl, hnm⟩) (ow hw 7 rfl) (ty := (.object "java/lang/String")) (by decide) rfl rfl (g := (mkF m 6 #[cr b215, cr b216] [(.ref b216), (.ref b215)])) rfl rfl (hb hby d13_6)
 refine Ends.go st404 ?_
 have Fw404 := (PF_b215_text.keep K403c nin0).same W404
 have K404 := K403.wr W404 (Or.inl (List.mem_of_getElem? (i := 0) rfl))
 have O404 := O403.wr W404 g_b215
 have N404 := Fr.snoc X404 N403 g_b215
 refine walN X404 hx hby d13_9 rfl rfl ?_
 refine walN X404 hx hby d13_10 rfl rfl ?_
 obtain ⟨cq412, kq412, q412a, q412b, q412c⟩ := isOf hZ e404 ((PE_b216.keep K403c).wr W404)
 obtain ⟨_, _, ⟨T412, L412, k412, n412⟩, -, X412, ⟨Lc412, hQ412, l412, y412, z412⟩, st412⟩ := X404.virtualBack hx (y := ym16) (z := ym16) hown (mvT hZ (ow hw 68 rfl)) (mvT hZ (ow hw 69 rfl)) (notFace_of_selects (args := #[]) (mvT hZ (ow hw 71 rfl))) (mvT hZ (ow hw 71 rfl)) (mvT hZ (ow hw 70 rfl)) (by decide) (own_backOf (W := 1) (rx15_405 l Z a0 hw [] n0 h404 O404 G1 G3 GF b216 b400 k401 c0_ c1_ c2_ c3_ c4_ c5_ c6_ ((PF_b216_value.keep K403c nin0).other W404 (Or.inl ne_b216_b215)) ((PV_b400.keep K403c nin0).other W404 ne_b400_b215) ((PF_b216_coder.keep K403c nin0).other W404 (Or.inl ne_b216_b215)) ((PE_b216.keep K403c).wr W404)) hZ (ow hw 72 rfl) (ow hw 11 rfl) (by decide) (by decide)) q412a q412c (g := (mkF m 11 #[cr b215, cr b216] [(.ref b216), (.ref b215)])) rfl (by rw [hml]; rfl) (Steps.refl _) (argsL := []) (rest := [(.ref b215)]) (lenOf pdx_10 rfl) rfl (by show 2 * 0 + _ ≤ _; exact Nat.le_of_eq rfl) (hb hby d13_11) (fun _ _ => ⟨rfl, e404, (by decide : 0 + 0 ≤ _), (by decide : 0 + 0 ≤ _)⟩)
 dsimp only [Pt.U, Pt.locs, Pt.cells, Pt.slots] at X412 l412 y412 z412 st412 hQ412
 subst l412 y412 z412
 obtain ⟨rfl, N412q, K412c⟩ := hQ412
 have N412 := Fr.app N404 N412q
 refine Ends.go (fun _ k => st412.trans k) ?_
 obtain ⟨h412, e412⟩ : ∃ z, T412.heap = z := ⟨_, rfl⟩
 rw [e412] at K412c
 have K412 := K404.trans K412c all0
 have O412 := O404.keep K412c all0
 refine wsp X412 hx hby d13_14 ?_
 show Ends _ _ _ _ T412 (mkF m 17 #[cr b215, cr b216] [(.int 8192), (.int 7), (.ref b215)]) _ _ _
 obtain ⟨_, _, ⟨T413, L413, k413, n413⟩, -, X413, ⟨Lc413, hQ413, l413, y413, z413⟩, st413⟩ := Jvm.LawKit.callS X412 hx (y := ym17) hown (mvT hZ (ow hw 78 rfl)) (mvT hZ (ow hw 79 rfl)) (mvT hZ (ow hw 80 rfl)) (mvT hZ (ow hw 81 rfl)) (by decide) (own_backOf (W := 1) (rx17_267 l Z a0 hw [] n0 h412 O412   ) hZ (ow hw 81 rfl) (ow hw 80 rfl) (by decide) (by decide)) (g := (mkF m 17 #[cr b215, cr b216] [(.int 8192), (.int 7), (.ref b215)])) rfl (by rw [hml]; rfl) (argsL := [(.int 7), (.int 8192)]) (rest := [(.ref b215)]) (lenOf pdx_11 rfl) rfl (by show 2 * 0 + _ ≤ _; exact Nat.le_of_eq rfl) (hb hby d13_17) (fun _ _ => ⟨rfl, e412, (by decide : 0 + 0 ≤ _), (by decide : 0 + 0 ≤ _)⟩)
 dsimp only [Pt.U, Pt.locs, Pt.cells, Pt.slots] at X413 l413 y413 z413 st413 hQ413
 subst l413 y413 z413
 obtain ⟨rfl, N413q, K413c⟩ := hQ413
 have N413 := Fr.app N412 N413q
 refine Ends.go st413 ?_
 obtain ⟨h413, e413⟩ : ∃ z, T413.heap = z := ⟨_, rfl⟩
 rw [e413] at K413c
 have K413 := K412.trans K413c all0
 have O413 := O412.keep K413c all0
 obtain ⟨T414, h414, k414, X414, e414, E414, A414, st414⟩ := newP X413 hx hZ (ow hw 0 rfl) e413 (g := (mkF m 20 #[cr b215, cr b216] [(.int 7), (.ref b215)])) rfl (hb hby d13_20) rfl (by decide) (cap := 7) (by decide) (by decide) (by decide) (by decide)
 obtain ⟨b414, g414⟩ : ∃ z, z = h413.size := ⟨_, rfl⟩
 rw [← g414] at A414 st414
 refine Ends.go st414 ?_
 have g_b414 : n0 ≤ b414 := Nat.le_trans (own_old_le O413) (Nat.le_of_eq g414.symm)
 have sz_b414 : h0.size ≤ b414 := Nat.le_trans K413.1 (Nat.le_of_eq g414.symm)
 have K414 := K413.ext E414
 have O414 := O413.ext E414
 have V_b414 : Arv Z h414 b414 k414 .char (7 : Int32) [(.int 0), (.int 0), (.int 0), (.int 0), (.int 0), (.int 0), (.int 0)] (.int 0) := (Arv.new A414 (by decide)).pad (pad_rep [] (.int 0) 7)
 obtain ⟨T415, h415, X415, e415, W415, st415⟩ := putF X414 hx hZ hown (host := "") (Or.inl (ow hw 82 rfl)) Via.refl e414 (((((PF_b215_chars.keep K403c nin0).other W404 (Or.inr (slot_ne (Or.inr (ow hw 83 rfl)) (Or.inr (ow hw 67 rfl)) (by decide) (t := (.array .char)) (t' := (.object "java/lang/String")) (by decide) (by decide)))).keep K412c nin0).keep K413c nin0).ext E414) (((((PE_b215.keep K403c).wr W404).keep K412c).keep K413c).ext E414) (Or.inr ⟨(ow hw 83 rfl), rfl, hnm⟩) (ow hw 7 rfl) (ty := (.array .char)) (by decide) rfl rfl (g := (mkF m 22 #[cr b215, cr b216] [(.ref b414), (.ref b215)])) rfl rfl (hb hby d13_22)
 refine Ends.go st415 ?_
 have Fw415 := (((((PF_b215_chars.keep K403c nin0).other W404 (Or.inr (slot_ne (Or.inr (ow hw 83 rfl)) (Or.inr (ow hw 67 rfl)) (by decide) (t := (.array .char)) (t' := (.object "java/lang/String")) (by decide) (by decide)))).keep K412c nin0).keep K413c nin0).ext E414).same W415
 have K415 := K414.wr W415 (Or.inl (List.mem_of_getElem? (i := 0) rfl))
 have O415 := O414.wr W415 g_b215
 have N415 := Fr.snoc X415 N413 g_b215
 refine walN X415 hx hby d13_25 rfl rfl ?_
 refine walN X415 hx hby d13_26 rfl rfl ?_
 show Ends _ _ _ _ T415 (mkF m 27 #[cr b215, cr b216] [(.ref b215), (.ref b215)]) _ _ _
 obtain ⟨T416, X416, e416, st416⟩ := getF X415 hx hZ hown (host := "") (Or.inl (ow hw 82 rfl)) Via.refl e415 Fw415 (g := (mkF m 27 #[cr b215, cr b216] [(.ref b215), (.ref b215)])) rfl rfl (hb hby d13_27)
 refine Ends.go st416 ?_
 obtain ⟨cl417, Ar417, q417, S417, M417, H417, G417⟩ := id (V_b414.other W415 (Ne.symm (Nat.ne_of_lt (Nat.lt_of_lt_of_le PE_b215.lt sz_b414))))
 refine Ends.go (X416.arraylength hx (by rw [e416]; exact Ar417.1) (State.isArrayOf_alike hZ.alike Ar417.2.1) (g := (mkF m 30 #[cr b215, cr b216] [(.ref b414), (.ref b215)])) rfl rfl (hb hby d13_30)) ?_
 rw [len_of S417 M417]
 obtain ⟨T418, h418, X418, e418, W418, st418⟩ := putF X416 hx hZ hown (host := "") (Or.inl (ow hw 84 rfl)) Via.refl e416 ((((((PF_b215_limit.keep K403c nin0).other W404 (Or.inr (slot_ne (Or.inl (ow hw 85 rfl)) (Or.inr (ow hw 67 rfl)) (by decide) (t := .int) (t' := (.object "java/lang/String")) (by decide) (by decide)))).keep K412c nin0).keep K413c nin0).ext E414).other W415 (Or.inr (slot_ne (Or.inl (ow hw 85 rfl)) (Or.inr (ow hw 83 rfl)) (by decide) (t := .int) (t' := (.array .char)) (by decide) (by decide)))) ((((((PE_b215.keep K403c).wr W404).keep K412c).keep K413c).ext E414).wr W415) (Or.inl (ow hw 85 rfl)) (ow hw 7 rfl) (ty := .int) (by decide) rfl rfl (g := (mkF m 31 #[cr b215, cr b216] [(.int 7), (.ref b215)])) rfl rfl (hb hby d13_31)
 refine Ends.go st418 ?_
 have Fw418 := ((((((PF_b215_limit.keep K403c nin0).other W404 (Or.inr (slot_ne (Or.inl (ow hw 85 rfl)) (Or.inr (ow hw 67 rfl)) (by decide) (t := .int) (t' := (.object "java/lang/String")) (by decide) (by decide)))).keep K412c nin0).keep K413c nin0).ext E414).other W415 (Or.inr (slot_ne (Or.inl (ow hw 85 rfl)) (Or.inr (ow hw 83 rfl)) (by decide) (t := .int) (t' := (.array .char)) (by decide) (by decide)))).same W418
 have K418 := K415.wr W418 (Or.inl (List.mem_of_getElem? (i := 0) rfl))
 have O418 := O415.wr W418 g_b215
 have N418 := Fr.snoc X418 N415 g_b215
 refine walN X418 hx hby d13_34 rfl rfl ?_
 refine wic X418 hx hby d13_35 ?_
 show Ends _ _ _ _ T418 (mkF m 36 #[cr b215, cr b216] [(.int 0), (.ref b216)]) _ _ _
 refine walN X418 hx hby d13_36 rfl rfl ?_
 obtain ⟨T419, X419, e419, st419⟩ := getF X418 hx hZ hown (host := "") (Or.inl (ow hw 84 rfl)) Via.refl e418 Fw418 (g := (mkF m 37 #[cr b215, cr b216] [(.ref b215), (.int 0), (.ref b216)])) rfl rfl (hb hby d13_37)
 refine Ends.go st419 ?_
 refine walN X419 hx hby d13_40 rfl rfl ?_
 obtain ⟨T420, X420, e420, st420⟩ := getF X419 hx hZ hown (host := "") (Or.inl (ow hw 82 rfl)) Via.refl e419 (Fw415.other W418 (Or.inr (slot_ne (Or.inr (ow hw 83 rfl)) (Or.inl (ow hw 85 rfl)) (by decide) (t := (.array .char)) (t' := .int) (by decide) (by decide)))) (g := (mkF m 41 #[cr b215, cr b216] [(.ref b215), (.int 7), (.int 0), (.ref b216)])) rfl rfl (hb hby d13_41)
 refine Ends.go st420 ?_
 refine wic X420 hx hby d13_44 ?_
 show Ends _ _ _ _ T420 (mkF m 45 #[cr b215, cr b216] [(.int 0), (.ref b414), (.int 7), (.int 0), (.ref b216)]) _ _ _
 obtain ⟨cq453, kq453, q453a, q453b, q453c⟩ := isOf hZ e420 (((((((PE_b216.keep K403c).wr W404).keep K412c).keep K413c).ext E414).wr W415).wr W418)
 obtain ⟨_, _, ⟨T453, L453, k453, n453⟩, -, X453, ⟨Lc453, hQ453, l453, y453, z453⟩, st453⟩ := X420.virtualBack hx (y := ym21) (z := ym21) hown (mvT hZ (ow hw 86 rfl)) (mvT hZ (ow hw 87 rfl)) (notFace_of_selects (args := #[]) (mvT hZ (ow hw 89 rfl))) (mvT hZ (ow hw 89 rfl)) (mvT hZ (ow hw 88 rfl)) (by decide) (own_backOf (W := 0) (rx18_421 l Z a0 hw [] n0 h418 O418 G1 G3 GF b216 b414 b400 k401 c0_ c1_ c2_ c3_ c4_ c5_ c6_ k414 (((((((PF_b216_value.keep K403c nin0).other W404 (Or.inl ne_b216_b215)).keep K412c nin0).keep K413c nin0).ext E414).other W415 (Or.inl ne_b216_b215)).other W418 (Or.inl ne_b216_b215)) (((((((PV_b400.keep K403c nin0).other W404 ne_b400_b215).keep K412c nin0).keep K413c nin0).ext E414).other W415 ne_b400_b215).other W418 ne_b400_b215) (((((((PF_b216_coder.keep K403c nin0).other W404 (Or.inl ne_b216_b215)).keep K412c nin0).keep K413c nin0).ext E414).other W415 (Or.inl ne_b216_b215)).other W418 (Or.inl ne_b216_b215)) (((((((PE_b216.keep K403c).wr W404).keep K412c).keep K413c).ext E414).wr W415).wr W418) ((V_b414.other W415 (Ne.symm (Nat.ne_of_lt (Nat.lt_of_lt_of_le PE_b215.lt sz_b414)))).other W418 (Ne.symm (Nat.ne_of_lt (Nat.lt_of_lt_of_le PE_b215.lt sz_b414)))) (Nat.ne_of_lt (Nat.lt_of_lt_of_le PV_b400.lt sz_b414)) g_b414 hc0_ hc1_ hc2_ hc3_ hc4_ hc5_ hc6_) hZ (ow hw 90 rfl) (ow hw 11 rfl) (by decide) (by decide)) q453a q453c (g := (mkF m 45 #[cr b215, cr b216] [(.int 0), (.ref b414), (.int 7), (.int 0), (.ref b216)])) rfl (by rw [hml]; rfl) (Steps.refl _) (argsL := [(.int 0), (.int 7), (.ref b414), (.int 0)]) (rest := []) (lenOf pdx_17 rfl) rfl (by show 2 * 0 + _ ≤ _; exact Nat.le_of_eq rfl) (hb hby d13_45) (fun _ _ => ⟨rfl, e420, (by decide : 1 + 0 ≤ _), (by decide : 7 + 0 ≤ _)⟩)
 dsimp only [Pt.U, Pt.locs, Pt.cells, Pt.slots] at X453 l453 y453 z453 st453 hQ453
 subst l453 y453 z453
 obtain ⟨rfl, N453q, K453c, Y453_0⟩ := hQ453
 have N453 := Fr.app N418 N453q
 refine Ends.go (fun _ k => st453.trans k) ?_
 obtain ⟨h453, e453⟩ : ∃ z, T453.heap = z := ⟨_, rfl⟩
 rw [e453] at K453c Y453_0
 have K453 := K418.trans K453c (allS (Or.inr sz_b414) all0)
 have O453 := O418.keep K453c (allS g_b414 all0)
 refine Ends.retV X453 hx Bd.notSynchronized Bd.returns (hb hby d13_48) (by decide) (by decide) ?_
 rw [e453]
 exact ⟨b414, k414, rfl, N453, K453, sz_b414, ((((((Fw404.keep K412c nin0).keep K413c nin0).ext E414).other W415 (Or.inr (slot_ne (Or.inr (ow hw 67 rfl)) (Or.inr (ow hw 83 rfl)) (by decide) (t := (.object "java/lang/String")) (t' := (.array .char)) (by decide) (by decide)))).other W418 (Or.inr (slot_ne (Or.inr (ow hw 67 rfl)) (Or.inl (ow hw 85 rfl)) (by decide) (t := (.object "java/lang/String")) (t' := .int) (by decide) (by decide)))).keep K453c (ninS (Nat.ne_of_lt (Nat.lt_of_lt_of_le PE_b215.lt sz_b414)) nin0)), ((Fw415.other W418 (Or.inr (slot_ne (Or.inr (ow hw 83 rfl)) (Or.inl (ow hw 85 rfl)) (by decide) (t := (.array .char)) (t' := .int) (by decide) (by decide)))).keep K453c (ninS (Nat.ne_of_lt (Nat.lt_of_lt_of_le PE_b215.lt sz_b414)) nin0)), (Fw418.keep K453c (ninS (Nat.ne_of_lt (Nat.lt_of_lt_of_le PE_b215.lt sz_b414)) nin0)), Y453_0, ((((((((PF_b215_position.keep K403c nin0).other W404 (Or.inr (slot_ne (Or.inl (ow hw 127 rfl)) (Or.inr (ow hw 67 rfl)) (by decide) (t := .int) (t' := (.object "java/lang/String")) (by decide) (by decide)))).keep K412c nin0).keep K413c nin0).ext E414).other W415 (Or.inr (slot_ne (Or.inl (ow hw 127 rfl)) (Or.inr (ow hw 83 rfl)) (by decide) (t := .int) (t' := (.array .char)) (by decide) (by decide)))).other W418 (Or.inr (slot_ne (Or.inl (ow hw 127 rfl)) (Or.inl (ow hw 85 rfl)) (by decide) (t := .int) (t' := .int) (by decide) (by decide)))).keep K453c (ninS (Nat.ne_of_lt (Nat.lt_of_lt_of_le PE_b215.lt sz_b414)) nin0)), ((((((((PF_b215_base.keep K403c nin0).other W404 (Or.inr (slot_ne (Or.inl (ow hw 140 rfl)) (Or.inr (ow hw 67 rfl)) (by decide) (t := .int) (t' := (.object "java/lang/String")) (by decide) (by decide)))).keep K412c nin0).keep K413c nin0).ext E414).other W415 (Or.inr (slot_ne (Or.inl (ow hw 140 rfl)) (Or.inr (ow hw 83 rfl)) (by decide) (t := .int) (t' := (.array .char)) (by decide) (by decide)))).other W418 (Or.inr (slot_ne (Or.inl (ow hw 140 rfl)) (Or.inl (ow hw 85 rfl)) (by decide) (t := .int) (t' := .int) (by decide) (by decide)))).keep K453c (ninS (Nat.ne_of_lt (Nat.lt_of_lt_of_le PE_b215.lt sz_b414)) nin0))⟩
theorem pn0 : plainName "com/example/ratatoskr/ratatoskr/core/internal/StringInputSkipWordPinLaw" = true := by first | (simp [plainName, overriddenIn]; done) | decide +kernel
theorem ef0_jijji (m : MethodId) (x0 : Int64) (x1 : Int32) (x2 : Int64) (x3 : Int64) (x4 : Int32) : entryFrame m #[(.long x0), (.int x1), (.long x2), (.long x3), (.int x4)] maxLocals = mkF m 0 #[.val (.long x0), .second, .val (.int x1), .val (.long x2), .second, .val (.long x3), .second, .val (.int x4), .unset, .unset, .unset, .unset, .unset, .unset, .unset, .unset, .unset, .unset, .unset, .unset, .unset, .unset] [] := by first | (simp [entryFrame, mkF, argsToLocals, Value.category, maxLocals]; done) | rfl
set_option maxRecDepth 65536 in
set_option maxHeartbeats 40000000 in
theorem rm0 (l : Launch) (Z : State) (a0 : Array Value) (hw : ∀ d ∈ tables_1, d.before a0 Z = true) (ws : List Jvm.Cond) (n0 : Nat) (h0 : Heap) (O0 : Old Z n0 h0) (q0 : Int64) (p1 : Int32) (q2 : Int64) (q3 : Int64) (p4 : Int32) (G1 : Int32) (G3 : Value) (GF : GlobF Z G1 G3) :
  Meets1 l x code maxLocals ret ws room_1 #[(.long q0), (.int p1), (.long q2), (.long q3), (.int p4)] Z h0 (fun v h L => v = some (.int 1) ∧ Fr n0 L) := by
 refine MetFree.of_bodySF (plainFor_of_name pn0) hisR ?_
 intro p e s m args below meth c s₁ Bd hml0 hP hK
 obtain ⟨rfl, hZ, hh⟩ := hP
 have hx := Bd.exec
 have hby := Bd.bytes
 have hml : c.maxLocals = 22 := hml0
 have hown : s.vm.findClass "com/example/ratatoskr/ratatoskr/core/internal/StringInputSkipWordPinLaw" = some m.cls := findClass_of_methodNamed Bd.named
 have hnm := (name_of_methodNamed Bd.named Bd.method).1
 have X0 : Stand p l e room_1 s m #[(.long q0), (.int p1), (.long q2), (.long q3), (.int p4)] below meth c s₁ [] 0 0 := Stand.of_body Bd
 have e0 : s₁.heap = h0 := by rw [← hh, Bd.state]; rfl
 have N0 := Fr.nil n0
 have Z0 := own_old_le O0
 show Ends _ _ _ _ s₁ (entryFrame m #[(.long q0), (.int p1), (.long q2), (.long q3), (.int p4)] maxLocals) room_1.cells room_1.slots (fun v h L => v = some (.int 1) ∧ Fr n0 L)
 refine Ends.go (fun _ k => castTop (ef0_jijji m q0 p1 q2 q3 p4) k) ?_
 have K0 := Keep.refl h0 []
 obtain ⟨SCS, P5, SAD, SHI, SLO, SSF, RG3⟩ := id GF
 refine wic X0 hx hby at_0 ?_
 refine wilN X0 hx hby at_1 rfl ?_
 refine wic X0 hx hby at_2 ?_
 refine wan X0 hx hby at_3 ?_
 show Ends _ _ _ _ s₁ (mkF m 4 #[cj q0, cs, ci p1, cj q2, cs, cj q3, cs, ci p4, cu, cu, cu, cu, cu, cu, cu, cu, cu, cu, cu, cu, cu, cu] [(.int (p1 &&& (1 : Int32))), (.int 4)]) _ _ _
 refine wia X0 hx hby at_4 ?_
 show Ends _ _ _ _ s₁ (mkF m 5 #[cj q0, cs, ci p1, cj q2, cs, cj q3, cs, ci p4, cu, cu, cu, cu, cu, cu, cu, cu, cu, cu, cu, cu, cu, cu] [(.int ((4 : Int32) + (p1 &&& (1 : Int32))))]) _ _ _
 generalize hlg : ((4 : Int32) + (p1 &&& (1 : Int32))) = len_
 have hlen := own_len45 p1 len_ hlg
 show Ends _ _ _ _ s₁ (mkF m 5 #[cj q0, cs, ci p1, cj q2, cs, cj q3, cs, ci p4, cu, cu, cu, cu, cu, cu, cu, cu, cu, cu, cu, cu, cu, cu] [(.int len_)]) _ _ _
 refine wst X0 hx hby at_5 (l' := #[cj q0, cs, ci p1, cj q2, cs, cj q3, cs, ci p4, ci len_, cu, cu, cu, cu, cu, cu, cu, cu, cu, cu, cu, cu, cu]) rfl ?_
 refine wilN X0 hx hby at_7 rfl ?_
 show Ends _ _ _ _ s₁ (mkF m 8 #[cj q0, cs, ci p1, cj q2, cs, cj q3, cs, ci p4, ci len_, cu, cu, cu, cu, cu, cu, cu, cu, cu, cu, cu, cu, cu] [(.int p1)]) _ _ _
 refine wic X0 hx hby at_8 ?_
 refine .go (fun _ => XS.iushr X0.here hx rfl (hb hby at_9) rfl) ?_
 refine wbp X0 hx hby at_10 ?_
 refine wan X0 hx hby at_12 ?_
 refine wbp X0 hx hby at_13 ?_
 show Ends _ _ _ _ s₁ (mkF m 15 #[cj q0, cs, ci p1, cj q2, cs, cj q3, cs, ci p4, ci len_, cu, cu, cu, cu, cu, cu, cu, cu, cu, cu, cu, cu, cu] [(.int 7), (.int (((p1.toUInt32 >>> ((1 : Int32) &&& 31).toUInt32).toInt32) &&& (7 : Int32)))]) _ _ _
 refine .go (fun _ => iremM X0 hx rfl (hb hby at_15) rfl (by decide)) ?_
 show Ends _ _ _ _ s₁ (mkF m 16 #[cj q0, cs, ci p1, cj q2, cs, cj q3, cs, ci p4, ci len_, cu, cu, cu, cu, cu, cu, cu, cu, cu, cu, cu, cu, cu] [(.int ((((p1.toUInt32 >>> ((1 : Int32) &&& 31).toUInt32).toInt32) &&& (7 : Int32)) % (7 : Int32)))]) _ _ _
 generalize hag : ((((p1.toUInt32 >>> ((1 : Int32) &&& 31).toUInt32).toInt32) &&& (7 : Int32)) % (7 : Int32)) = at_
 have hat := own_at p1 at_ hag
 show Ends _ _ _ _ s₁ (mkF m 16 #[cj q0, cs, ci p1, cj q2, cs, cj q3, cs, ci p4, ci len_, cu, cu, cu, cu, cu, cu, cu, cu, cu, cu, cu, cu, cu] [(.int at_)]) _ _ _
 refine wst X0 hx hby at_16 (l' := #[cj q0, cs, ci p1, cj q2, cs, cj q3, cs, ci p4, ci len_, ci at_, cu, cu, cu, cu, cu, cu, cu, cu, cu, cu, cu, cu]) rfl ?_
 refine wbp X0 hx hby at_18 ?_
 show Ends _ _ _ _ s₁ (mkF m 20 #[cj q0, cs, ci p1, cj q2, cs, cj q3, cs, ci p4, ci len_, ci at_, cu, cu, cu, cu, cu, cu, cu, cu, cu, cu, cu, cu] [(.int 7)]) _ _ _
 obtain ⟨T161, h161, k161, X161, e161, E161, A161, st161⟩ := newP X0 hx hZ (ow hw 0 rfl) e0 (g := (mkF m 20 #[cj q0, cs, ci p1, cj q2, cs, cj q3, cs, ci p4, ci len_, ci at_, cu, cu, cu, cu, cu, cu, cu, cu, cu, cu, cu, cu] [(.int 7)])) rfl (hb hby at_20) rfl (by decide) (cap := 7) (by decide) (by decide) (by decide) (by decide)
 obtain ⟨b161, g161⟩ : ∃ z, z = h0.size := ⟨_, rfl⟩
 rw [← g161] at A161 st161
 refine Ends.go st161 ?_
 have g_b161 : n0 ≤ b161 := Nat.le_trans (own_old_le O0) (Nat.le_of_eq g161.symm)
 have sz_b161 : h0.size ≤ b161 := Nat.le_trans K0.1 (Nat.le_of_eq g161.symm)
 have K161 := K0.ext E161
 have O161 := O0.ext E161
 have V_b161 : Arv Z h161 b161 k161 .char (7 : Int32) [(.int 0), (.int 0), (.int 0), (.int 0), (.int 0), (.int 0), (.int 0)] (.int 0) := (Arv.new A161 (by decide)).pad (pad_rep [] (.int 0) 7)
 refine was X161 hx hby at_22 (l' := #[cj q0, cs, ci p1, cj q2, cs, cj q3, cs, ci p4, ci len_, ci at_, cr b161, cu, cu, cu, cu, cu, cu, cu, cu, cu, cu, cu]) rfl rfl ?_
 refine wal X161 hx hby at_24 rfl rfl ?_
 refine wic X161 hx hby at_26 ?_
 refine wic X161 hx hby at_27 ?_
 show Ends _ _ _ _ T161 (mkF m 28 #[cj q0, cs, ci p1, cj q2, cs, cj q3, cs, ci p4, ci len_, ci at_, cr b161, cu, cu, cu, cu, cu, cu, cu, cu, cu, cu, cu] [(.int 0), (.int 0), (.ref b161)]) _ _ _
 refine wil X161 hx hby at_28 rfl ?_
 refine .go (fun _ => XS.lloadN X161.here hx rfl (hb hby at_30) rfl) ?_
 refine wil X161 hx hby at_31 rfl ?_
 refine .go (fun _ => XS.lloadN X161.here hx rfl (hb hby at_33) rfl) ?_
 obtain ⟨_, _, ⟨T162, L162, k162, n162⟩, -, X162, ⟨Lc162, hQ162, l162, y162, z162⟩, st162⟩ := Jvm.LawKit.callS X161 hx (y := ym0) hown (mvT hZ (ow hw 1 rfl)) (mvT hZ (ow hw 2 rfl)) (mvT hZ (ow hw 3 rfl)) (mvT hZ (ow hw 4 rfl)) (by decide) (own_backOf (W := 2) (rmP l Z a0 hw [] n0 h161 O161 (0 : Int32) at_ q0 p4 q2) hZ (ow hw 4 rfl) (ow hw 3 rfl) (by decide) (by decide)) (g := (mkF m 34 #[cj q0, cs, ci p1, cj q2, cs, cj q3, cs, ci p4, ci len_, ci at_, cr b161, cu, cu, cu, cu, cu, cu, cu, cu, cu, cu, cu] [(.long q2), (.int p4), (.long q0), (.int at_), (.int 0), (.int 0), (.ref b161)])) rfl (by rw [hml]; rfl) (argsL := [(.int 0), (.int at_), (.long q0), (.int p4), (.long q2)]) (rest := [(.int 0), (.ref b161)]) (lenOf pdx_0 rfl) rfl (by show 2 * 0 + _ ≤ _; exact Nat.le_of_eq rfl) (hb hby at_34) (fun _ _ => ⟨rfl, e161, (by decide : 1 + 0 ≤ _), (by decide : 7 + 0 ≤ _)⟩)
 dsimp only [Pt.U, Pt.locs, Pt.cells, Pt.slots] at X162 l162 y162 z162 st162 hQ162
 subst l162 y162 z162
 obtain ⟨c0_, rfl, N162q, e162q, hr162⟩ := hQ162
 have N162 := Fr.app N0 N162q
 refine Ends.go st162 ?_
 have hc0_ := hr162
 show Ends _ _ _ _ T162 (mkF m 37 #[cj q0, cs, ci p1, cj q2, cs, cj q3, cs, ci p4, ci len_, ci at_, cr b161, cu, cu, cu, cu, cu, cu, cu, cu, cu, cu, cu] [(.int c0_), (.int 0), (.ref b161)]) _ _ _
 obtain ⟨cl163, Ar163, q163, S163, M163, H163, G163⟩ := id V_b161
 have hin163 := inb_of (j := (0 : Int32)) S163 ⟨by decide, by decide⟩
 obtain ⟨T163, h163, X163, e163, W163, st163⟩ := stC X162 hx hZ e162q Ar163 (j := (0 : Int32)) hin163 (g := (mkF m 37 #[cj q0, cs, ci p1, cj q2, cs, cj q3, cs, ci p4, ci len_, ci at_, cr b161, cu, cu, cu, cu, cu, cu, cu, cu, cu, cu, cu] [(.int c0_), (.int 0), (.ref b161)])) rfl rfl (hb hby at_37)
 refine Ends.go st163 ?_
 have V163 : Arv Z h163 b161 k161 .char (7 : Int32) [(.int (nar .char c0_)), (.int 0), (.int 0), (.int 0), (.int 0), (.int 0), (.int 0)] (.int 0) := Arv.set Ar163 q163 S163 M163 H163 G163 (fits_nar_char _) W163 0 rfl (Nat.le_of_ble_eq_true rfl)
 rw [own_narc hc0_] at V163
 have K163 := K161.wr W163 (Or.inr sz_b161)
 have O163 := O161.wr W163 g_b161
 have N163 := Fr.snoc X163 N162 g_b161
 refine wal X163 hx hby at_38 rfl rfl ?_
 refine wic X163 hx hby at_40 ?_
 refine wic X163 hx hby at_41 ?_
 refine wil X163 hx hby at_42 rfl ?_
 show Ends _ _ _ _ T163 (mkF m 44 #[cj q0, cs, ci p1, cj q2, cs, cj q3, cs, ci p4, ci len_, ci at_, cr b161, cu, cu, cu, cu, cu, cu, cu, cu, cu, cu, cu] [(.int at_), (.int 1), (.int 1), (.ref b161)]) _ _ _
 refine .go (fun _ => XS.lloadN X163.here hx rfl (hb hby at_44) rfl) ?_
 refine wil X163 hx hby at_45 rfl ?_
 refine .go (fun _ => XS.lloadN X163.here hx rfl (hb hby at_47) rfl) ?_
 refine wbp X163 hx hby at_48 ?_
 refine .go (fun _ => XS.lushr X163.here hx rfl (hb hby at_50) rfl) ?_
 show Ends _ _ _ _ T163 (mkF m 51 #[cj q0, cs, ci p1, cj q2, cs, cj q3, cs, ci p4, ci len_, ci at_, cr b161, cu, cu, cu, cu, cu, cu, cu, cu, cu, cu, cu] [(.long ((q2.toUInt64 >>> ((16 : Int32) &&& 0x3f).toInt64.toUInt64).toInt64)), (.int p4), (.long q0), (.int at_), (.int 1), (.int 1), (.ref b161)]) _ _ _
 obtain ⟨_, _, ⟨T164, L164, k164, n164⟩, -, X164, ⟨Lc164, hQ164, l164, y164, z164⟩, st164⟩ := Jvm.LawKit.callS X163 hx (y := ym0) hown (mvT hZ (ow hw 1 rfl)) (mvT hZ (ow hw 2 rfl)) (mvT hZ (ow hw 3 rfl)) (mvT hZ (ow hw 4 rfl)) (by decide) (own_backOf (W := 2) (rmP l Z a0 hw [] n0 h163 O163 (1 : Int32) at_ q0 p4 ((q2.toUInt64 >>> ((16 : Int32) &&& 0x3f).toInt64.toUInt64).toInt64)) hZ (ow hw 4 rfl) (ow hw 3 rfl) (by decide) (by decide)) (g := (mkF m 51 #[cj q0, cs, ci p1, cj q2, cs, cj q3, cs, ci p4, ci len_, ci at_, cr b161, cu, cu, cu, cu, cu, cu, cu, cu, cu, cu, cu] [(.long ((q2.toUInt64 >>> ((16 : Int32) &&& 0x3f).toInt64.toUInt64).toInt64)), (.int p4), (.long q0), (.int at_), (.int 1), (.int 1), (.ref b161)])) rfl (by rw [hml]; rfl) (argsL := [(.int 1), (.int at_), (.long q0), (.int p4), (.long ((q2.toUInt64 >>> ((16 : Int32) &&& 0x3f).toInt64.toUInt64).toInt64))]) (rest := [(.int 1), (.ref b161)]) (lenOf pdx_0 rfl) rfl (by show 2 * 0 + _ ≤ _; exact Nat.le_of_eq rfl) (hb hby at_51) (fun _ _ => ⟨rfl, e163, (by decide : 1 + 0 ≤ _), (by decide : 7 + 0 ≤ _)⟩)
 dsimp only [Pt.U, Pt.locs, Pt.cells, Pt.slots] at X164 l164 y164 z164 st164 hQ164
 subst l164 y164 z164
 obtain ⟨c1_, rfl, N164q, e164q, hr164⟩ := hQ164
 have N164 := Fr.app N163 N164q
 refine Ends.go st164 ?_
 have hc1_ := hr164
 obtain ⟨cl165, Ar165, q165, S165, M165, H165, G165⟩ := id V163
 have hin165 := inb_of (j := (1 : Int32)) S165 ⟨by decide, by decide⟩
 obtain ⟨T165, h165, X165, e165, W165, st165⟩ := stC X164 hx hZ e164q Ar165 (j := (1 : Int32)) hin165 (g := (mkF m 54 #[cj q0, cs, ci p1, cj q2, cs, cj q3, cs, ci p4, ci len_, ci at_, cr b161, cu, cu, cu, cu, cu, cu, cu, cu, cu, cu, cu] [(.int c1_), (.int 1), (.ref b161)])) rfl rfl (hb hby at_54)
 refine Ends.go st165 ?_
 have V165 : Arv Z h165 b161 k161 .char (7 : Int32) [(.int c0_), (.int (nar .char c1_)), (.int 0), (.int 0), (.int 0), (.int 0), (.int 0)] (.int 0) := Arv.set Ar165 q165 S165 M165 H165 G165 (fits_nar_char _) W165 1 rfl (Nat.le_of_ble_eq_true rfl)
 rw [own_narc hc1_] at V165
 have K165 := K163.wr W165 (Or.inr sz_b161)
 have O165 := O163.wr W165 g_b161
 have N165 := Fr.snoc X165 N164 g_b161
 refine wal X165 hx hby at_55 rfl rfl ?_
 refine wic X165 hx hby at_57 ?_
 refine wic X165 hx hby at_58 ?_
 show Ends _ _ _ _ T165 (mkF m 59 #[cj q0, cs, ci p1, cj q2, cs, cj q3, cs, ci p4, ci len_, ci at_, cr b161, cu, cu, cu, cu, cu, cu, cu, cu, cu, cu, cu] [(.int 2), (.int 2), (.ref b161)]) _ _ _
 refine wil X165 hx hby at_59 rfl ?_
 refine .go (fun _ => XS.lloadN X165.here hx rfl (hb hby at_61) rfl) ?_
 refine wil X165 hx hby at_62 rfl ?_
 refine .go (fun _ => XS.lloadN X165.here hx rfl (hb hby at_64) rfl) ?_
 refine wbp X165 hx hby at_65 ?_
 show Ends _ _ _ _ T165 (mkF m 67 #[cj q0, cs, ci p1, cj q2, cs, cj q3, cs, ci p4, ci len_, ci at_, cr b161, cu, cu, cu, cu, cu, cu, cu, cu, cu, cu, cu] [(.int 32), (.long q2), (.int p4), (.long q0), (.int at_), (.int 2), (.int 2), (.ref b161)]) _ _ _
 refine .go (fun _ => XS.lushr X165.here hx rfl (hb hby at_67) rfl) ?_
 obtain ⟨_, _, ⟨T166, L166, k166, n166⟩, -, X166, ⟨Lc166, hQ166, l166, y166, z166⟩, st166⟩ := Jvm.LawKit.callS X165 hx (y := ym0) hown (mvT hZ (ow hw 1 rfl)) (mvT hZ (ow hw 2 rfl)) (mvT hZ (ow hw 3 rfl)) (mvT hZ (ow hw 4 rfl)) (by decide) (own_backOf (W := 2) (rmP l Z a0 hw [] n0 h165 O165 (2 : Int32) at_ q0 p4 ((q2.toUInt64 >>> ((32 : Int32) &&& 0x3f).toInt64.toUInt64).toInt64)) hZ (ow hw 4 rfl) (ow hw 3 rfl) (by decide) (by decide)) (g := (mkF m 68 #[cj q0, cs, ci p1, cj q2, cs, cj q3, cs, ci p4, ci len_, ci at_, cr b161, cu, cu, cu, cu, cu, cu, cu, cu, cu, cu, cu] [(.long ((q2.toUInt64 >>> ((32 : Int32) &&& 0x3f).toInt64.toUInt64).toInt64)), (.int p4), (.long q0), (.int at_), (.int 2), (.int 2), (.ref b161)])) rfl (by rw [hml]; rfl) (argsL := [(.int 2), (.int at_), (.long q0), (.int p4), (.long ((q2.toUInt64 >>> ((32 : Int32) &&& 0x3f).toInt64.toUInt64).toInt64))]) (rest := [(.int 2), (.ref b161)]) (lenOf pdx_0 rfl) rfl (by show 2 * 0 + _ ≤ _; exact Nat.le_of_eq rfl) (hb hby at_68) (fun _ _ => ⟨rfl, e165, (by decide : 1 + 0 ≤ _), (by decide : 7 + 0 ≤ _)⟩)
 dsimp only [Pt.U, Pt.locs, Pt.cells, Pt.slots] at X166 l166 y166 z166 st166 hQ166
 subst l166 y166 z166
 obtain ⟨c2_, rfl, N166q, e166q, hr166⟩ := hQ166
 have N166 := Fr.app N165 N166q
 refine Ends.go st166 ?_
 have hc2_ := hr166
 obtain ⟨cl167, Ar167, q167, S167, M167, H167, G167⟩ := id V165
 have hin167 := inb_of (j := (2 : Int32)) S167 ⟨by decide, by decide⟩
 obtain ⟨T167, h167, X167, e167, W167, st167⟩ := stC X166 hx hZ e166q Ar167 (j := (2 : Int32)) hin167 (g := (mkF m 71 #[cj q0, cs, ci p1, cj q2, cs, cj q3, cs, ci p4, ci len_, ci at_, cr b161, cu, cu, cu, cu, cu, cu, cu, cu, cu, cu, cu] [(.int c2_), (.int 2), (.ref b161)])) rfl rfl (hb hby at_71)
 refine Ends.go st167 ?_
 have V167 : Arv Z h167 b161 k161 .char (7 : Int32) [(.int c0_), (.int c1_), (.int (nar .char c2_)), (.int 0), (.int 0), (.int 0), (.int 0)] (.int 0) := Arv.set Ar167 q167 S167 M167 H167 G167 (fits_nar_char _) W167 2 rfl (Nat.le_of_ble_eq_true rfl)
 rw [own_narc hc2_] at V167
 have K167 := K165.wr W167 (Or.inr sz_b161)
 have O167 := O165.wr W167 g_b161
 have N167 := Fr.snoc X167 N166 g_b161
 refine wal X167 hx hby at_72 rfl rfl ?_
 refine wic X167 hx hby at_74 ?_
 show Ends _ _ _ _ T167 (mkF m 75 #[cj q0, cs, ci p1, cj q2, cs, cj q3, cs, ci p4, ci len_, ci at_, cr b161, cu, cu, cu, cu, cu, cu, cu, cu, cu, cu, cu] [(.int 3), (.ref b161)]) _ _ _
 refine wic X167 hx hby at_75 ?_
 refine wil X167 hx hby at_76 rfl ?_
 refine .go (fun _ => XS.lloadN X167.here hx rfl (hb hby at_78) rfl) ?_
 refine wil X167 hx hby at_79 rfl ?_
 refine .go (fun _ => XS.lloadN X167.here hx rfl (hb hby at_81) rfl) ?_
 show Ends _ _ _ _ T167 (mkF m 82 #[cj q0, cs, ci p1, cj q2, cs, cj q3, cs, ci p4, ci len_, ci at_, cr b161, cu, cu, cu, cu, cu, cu, cu, cu, cu, cu, cu] [(.long q2), (.int p4), (.long q0), (.int at_), (.int 3), (.int 3), (.ref b161)]) _ _ _
 refine wbp X167 hx hby at_82 ?_
 refine .go (fun _ => XS.lushr X167.here hx rfl (hb hby at_84) rfl) ?_
 obtain ⟨_, _, ⟨T168, L168, k168, n168⟩, -, X168, ⟨Lc168, hQ168, l168, y168, z168⟩, st168⟩ := Jvm.LawKit.callS X167 hx (y := ym0) hown (mvT hZ (ow hw 1 rfl)) (mvT hZ (ow hw 2 rfl)) (mvT hZ (ow hw 3 rfl)) (mvT hZ (ow hw 4 rfl)) (by decide) (own_backOf (W := 2) (rmP l Z a0 hw [] n0 h167 O167 (3 : Int32) at_ q0 p4 ((q2.toUInt64 >>> ((48 : Int32) &&& 0x3f).toInt64.toUInt64).toInt64)) hZ (ow hw 4 rfl) (ow hw 3 rfl) (by decide) (by decide)) (g := (mkF m 85 #[cj q0, cs, ci p1, cj q2, cs, cj q3, cs, ci p4, ci len_, ci at_, cr b161, cu, cu, cu, cu, cu, cu, cu, cu, cu, cu, cu] [(.long ((q2.toUInt64 >>> ((48 : Int32) &&& 0x3f).toInt64.toUInt64).toInt64)), (.int p4), (.long q0), (.int at_), (.int 3), (.int 3), (.ref b161)])) rfl (by rw [hml]; rfl) (argsL := [(.int 3), (.int at_), (.long q0), (.int p4), (.long ((q2.toUInt64 >>> ((48 : Int32) &&& 0x3f).toInt64.toUInt64).toInt64))]) (rest := [(.int 3), (.ref b161)]) (lenOf pdx_0 rfl) rfl (by show 2 * 0 + _ ≤ _; exact Nat.le_of_eq rfl) (hb hby at_85) (fun _ _ => ⟨rfl, e167, (by decide : 1 + 0 ≤ _), (by decide : 7 + 0 ≤ _)⟩)
 dsimp only [Pt.U, Pt.locs, Pt.cells, Pt.slots] at X168 l168 y168 z168 st168 hQ168
 subst l168 y168 z168
 obtain ⟨c3_, rfl, N168q, e168q, hr168⟩ := hQ168
 have N168 := Fr.app N167 N168q
 refine Ends.go st168 ?_
 have hc3_ := hr168
 obtain ⟨cl169, Ar169, q169, S169, M169, H169, G169⟩ := id V167
 have hin169 := inb_of (j := (3 : Int32)) S169 ⟨by decide, by decide⟩
 obtain ⟨T169, h169, X169, e169, W169, st169⟩ := stC X168 hx hZ e168q Ar169 (j := (3 : Int32)) hin169 (g := (mkF m 88 #[cj q0, cs, ci p1, cj q2, cs, cj q3, cs, ci p4, ci len_, ci at_, cr b161, cu, cu, cu, cu, cu, cu, cu, cu, cu, cu, cu] [(.int c3_), (.int 3), (.ref b161)])) rfl rfl (hb hby at_88)
 refine Ends.go st169 ?_
 have V169 : Arv Z h169 b161 k161 .char (7 : Int32) [(.int c0_), (.int c1_), (.int c2_), (.int (nar .char c3_)), (.int 0), (.int 0), (.int 0)] (.int 0) := Arv.set Ar169 q169 S169 M169 H169 G169 (fits_nar_char _) W169 3 rfl (Nat.le_of_ble_eq_true rfl)
 rw [own_narc hc3_] at V169
 have K169 := K167.wr W169 (Or.inr sz_b161)
 have O169 := O167.wr W169 g_b161
 have N169 := Fr.snoc X169 N168 g_b161
 refine wal X169 hx hby at_89 rfl rfl ?_
 show Ends _ _ _ _ T169 (mkF m 91 #[cj q0, cs, ci p1, cj q2, cs, cj q3, cs, ci p4, ci len_, ci at_, cr b161, cu, cu, cu, cu, cu, cu, cu, cu, cu, cu, cu] [(.ref b161)]) _ _ _
 refine wic X169 hx hby at_91 ?_
 refine wic X169 hx hby at_92 ?_
 refine wil X169 hx hby at_93 rfl ?_
 refine .go (fun _ => XS.lloadN X169.here hx rfl (hb hby at_95) rfl) ?_
 refine wil X169 hx hby at_96 rfl ?_
 show Ends _ _ _ _ T169 (mkF m 98 #[cj q0, cs, ci p1, cj q2, cs, cj q3, cs, ci p4, ci len_, ci at_, cr b161, cu, cu, cu, cu, cu, cu, cu, cu, cu, cu, cu] [(.int p4), (.long q0), (.int at_), (.int 4), (.int 4), (.ref b161)]) _ _ _
 refine .go (fun _ => XS.lload X169.here hx rfl (hb hby at_98) rfl) ?_
 obtain ⟨_, _, ⟨T170, L170, k170, n170⟩, -, X170, ⟨Lc170, hQ170, l170, y170, z170⟩, st170⟩ := Jvm.LawKit.callS X169 hx (y := ym0) hown (mvT hZ (ow hw 1 rfl)) (mvT hZ (ow hw 2 rfl)) (mvT hZ (ow hw 3 rfl)) (mvT hZ (ow hw 4 rfl)) (by decide) (own_backOf (W := 2) (rmP l Z a0 hw [] n0 h169 O169 (4 : Int32) at_ q0 p4 q3) hZ (ow hw 4 rfl) (ow hw 3 rfl) (by decide) (by decide)) (g := (mkF m 100 #[cj q0, cs, ci p1, cj q2, cs, cj q3, cs, ci p4, ci len_, ci at_, cr b161, cu, cu, cu, cu, cu, cu, cu, cu, cu, cu, cu] [(.long q3), (.int p4), (.long q0), (.int at_), (.int 4), (.int 4), (.ref b161)])) rfl (by rw [hml]; rfl) (argsL := [(.int 4), (.int at_), (.long q0), (.int p4), (.long q3)]) (rest := [(.int 4), (.ref b161)]) (lenOf pdx_0 rfl) rfl (by show 2 * 0 + _ ≤ _; exact Nat.le_of_eq rfl) (hb hby at_100) (fun _ _ => ⟨rfl, e169, (by decide : 1 + 0 ≤ _), (by decide : 7 + 0 ≤ _)⟩)
 dsimp only [Pt.U, Pt.locs, Pt.cells, Pt.slots] at X170 l170 y170 z170 st170 hQ170
 subst l170 y170 z170
 obtain ⟨c4_, rfl, N170q, e170q, hr170⟩ := hQ170
 have N170 := Fr.app N169 N170q
 refine Ends.go st170 ?_
 have hc4_ := hr170
 obtain ⟨cl171, Ar171, q171, S171, M171, H171, G171⟩ := id V169
 have hin171 := inb_of (j := (4 : Int32)) S171 ⟨by decide, by decide⟩
 obtain ⟨T171, h171, X171, e171, W171, st171⟩ := stC X170 hx hZ e170q Ar171 (j := (4 : Int32)) hin171 (g := (mkF m 103 #[cj q0, cs, ci p1, cj q2, cs, cj q3, cs, ci p4, ci len_, ci at_, cr b161, cu, cu, cu, cu, cu, cu, cu, cu, cu, cu, cu] [(.int c4_), (.int 4), (.ref b161)])) rfl rfl (hb hby at_103)
 refine Ends.go st171 ?_
 have V171 : Arv Z h171 b161 k161 .char (7 : Int32) [(.int c0_), (.int c1_), (.int c2_), (.int c3_), (.int (nar .char c4_)), (.int 0), (.int 0)] (.int 0) := Arv.set Ar171 q171 S171 M171 H171 G171 (fits_nar_char _) W171 4 rfl (Nat.le_of_ble_eq_true rfl)
 rw [own_narc hc4_] at V171
 have K171 := K169.wr W171 (Or.inr sz_b161)
 have O171 := O169.wr W171 g_b161
 have N171 := Fr.snoc X171 N170 g_b161
 refine wal X171 hx hby at_104 rfl rfl ?_
 refine wic X171 hx hby at_106 ?_
 show Ends _ _ _ _ T171 (mkF m 107 #[cj q0, cs, ci p1, cj q2, cs, cj q3, cs, ci p4, ci len_, ci at_, cr b161, cu, cu, cu, cu, cu, cu, cu, cu, cu, cu, cu] [(.int 5), (.ref b161)]) _ _ _
 refine wic X171 hx hby at_107 ?_
 refine wil X171 hx hby at_108 rfl ?_
 refine .go (fun _ => XS.lloadN X171.here hx rfl (hb hby at_110) rfl) ?_
 refine wil X171 hx hby at_111 rfl ?_
 refine .go (fun _ => XS.lload X171.here hx rfl (hb hby at_113) rfl) ?_
 show Ends _ _ _ _ T171 (mkF m 115 #[cj q0, cs, ci p1, cj q2, cs, cj q3, cs, ci p4, ci len_, ci at_, cr b161, cu, cu, cu, cu, cu, cu, cu, cu, cu, cu, cu] [(.long q3), (.int p4), (.long q0), (.int at_), (.int 5), (.int 5), (.ref b161)]) _ _ _
 refine wbp X171 hx hby at_115 ?_
 refine .go (fun _ => XS.lushr X171.here hx rfl (hb hby at_117) rfl) ?_
 obtain ⟨_, _, ⟨T172, L172, k172, n172⟩, -, X172, ⟨Lc172, hQ172, l172, y172, z172⟩, st172⟩ := Jvm.LawKit.callS X171 hx (y := ym0) hown (mvT hZ (ow hw 1 rfl)) (mvT hZ (ow hw 2 rfl)) (mvT hZ (ow hw 3 rfl)) (mvT hZ (ow hw 4 rfl)) (by decide) (own_backOf (W := 2) (rmP l Z a0 hw [] n0 h171 O171 (5 : Int32) at_ q0 p4 ((q3.toUInt64 >>> ((16 : Int32) &&& 0x3f).toInt64.toUInt64).toInt64)) hZ (ow hw 4 rfl) (ow hw 3 rfl) (by decide) (by decide)) (g := (mkF m 118 #[cj q0, cs, ci p1, cj q2, cs, cj q3, cs, ci p4, ci len_, ci at_, cr b161, cu, cu, cu, cu, cu, cu, cu, cu, cu, cu, cu] [(.long ((q3.toUInt64 >>> ((16 : Int32) &&& 0x3f).toInt64.toUInt64).toInt64)), (.int p4), (.long q0), (.int at_), (.int 5), (.int 5), (.ref b161)])) rfl (by rw [hml]; rfl) (argsL := [(.int 5), (.int at_), (.long q0), (.int p4), (.long ((q3.toUInt64 >>> ((16 : Int32) &&& 0x3f).toInt64.toUInt64).toInt64))]) (rest := [(.int 5), (.ref b161)]) (lenOf pdx_0 rfl) rfl (by show 2 * 0 + _ ≤ _; exact Nat.le_of_eq rfl) (hb hby at_118) (fun _ _ => ⟨rfl, e171, (by decide : 1 + 0 ≤ _), (by decide : 7 + 0 ≤ _)⟩)
 dsimp only [Pt.U, Pt.locs, Pt.cells, Pt.slots] at X172 l172 y172 z172 st172 hQ172
 subst l172 y172 z172
 obtain ⟨c5_, rfl, N172q, e172q, hr172⟩ := hQ172
 have N172 := Fr.app N171 N172q
 refine Ends.go st172 ?_
 have hc5_ := hr172
 obtain ⟨cl173, Ar173, q173, S173, M173, H173, G173⟩ := id V171
 have hin173 := inb_of (j := (5 : Int32)) S173 ⟨by decide, by decide⟩
 obtain ⟨T173, h173, X173, e173, W173, st173⟩ := stC X172 hx hZ e172q Ar173 (j := (5 : Int32)) hin173 (g := (mkF m 121 #[cj q0, cs, ci p1, cj q2, cs, cj q3, cs, ci p4, ci len_, ci at_, cr b161, cu, cu, cu, cu, cu, cu, cu, cu, cu, cu, cu] [(.int c5_), (.int 5), (.ref b161)])) rfl rfl (hb hby at_121)
 refine Ends.go st173 ?_
 have V173 : Arv Z h173 b161 k161 .char (7 : Int32) [(.int c0_), (.int c1_), (.int c2_), (.int c3_), (.int c4_), (.int (nar .char c5_)), (.int 0)] (.int 0) := Arv.set Ar173 q173 S173 M173 H173 G173 (fits_nar_char _) W173 5 rfl (Nat.le_of_ble_eq_true rfl)
 rw [own_narc hc5_] at V173
 have K173 := K171.wr W173 (Or.inr sz_b161)
 have O173 := O171.wr W173 g_b161
 have N173 := Fr.snoc X173 N172 g_b161
 refine wal X173 hx hby at_122 rfl rfl ?_
 show Ends _ _ _ _ T173 (mkF m 124 #[cj q0, cs, ci p1, cj q2, cs, cj q3, cs, ci p4, ci len_, ci at_, cr b161, cu, cu, cu, cu, cu, cu, cu, cu, cu, cu, cu] [(.ref b161)]) _ _ _
 refine wbp X173 hx hby at_124 ?_
 refine wbp X173 hx hby at_126 ?_
 refine wil X173 hx hby at_128 rfl ?_
 refine .go (fun _ => XS.lloadN X173.here hx rfl (hb hby at_130) rfl) ?_
 refine wil X173 hx hby at_131 rfl ?_
 show Ends _ _ _ _ T173 (mkF m 133 #[cj q0, cs, ci p1, cj q2, cs, cj q3, cs, ci p4, ci len_, ci at_, cr b161, cu, cu, cu, cu, cu, cu, cu, cu, cu, cu, cu] [(.int p4), (.long q0), (.int at_), (.int 6), (.int 6), (.ref b161)]) _ _ _
 refine .go (fun _ => XS.lload X173.here hx rfl (hb hby at_133) rfl) ?_
 refine wbp X173 hx hby at_135 ?_
 refine .go (fun _ => XS.lushr X173.here hx rfl (hb hby at_137) rfl) ?_
 obtain ⟨_, _, ⟨T174, L174, k174, n174⟩, -, X174, ⟨Lc174, hQ174, l174, y174, z174⟩, st174⟩ := Jvm.LawKit.callS X173 hx (y := ym0) hown (mvT hZ (ow hw 1 rfl)) (mvT hZ (ow hw 2 rfl)) (mvT hZ (ow hw 3 rfl)) (mvT hZ (ow hw 4 rfl)) (by decide) (own_backOf (W := 2) (rmP l Z a0 hw [] n0 h173 O173 (6 : Int32) at_ q0 p4 ((q3.toUInt64 >>> ((32 : Int32) &&& 0x3f).toInt64.toUInt64).toInt64)) hZ (ow hw 4 rfl) (ow hw 3 rfl) (by decide) (by decide)) (g := (mkF m 138 #[cj q0, cs, ci p1, cj q2, cs, cj q3, cs, ci p4, ci len_, ci at_, cr b161, cu, cu, cu, cu, cu, cu, cu, cu, cu, cu, cu] [(.long ((q3.toUInt64 >>> ((32 : Int32) &&& 0x3f).toInt64.toUInt64).toInt64)), (.int p4), (.long q0), (.int at_), (.int 6), (.int 6), (.ref b161)])) rfl (by rw [hml]; rfl) (argsL := [(.int 6), (.int at_), (.long q0), (.int p4), (.long ((q3.toUInt64 >>> ((32 : Int32) &&& 0x3f).toInt64.toUInt64).toInt64))]) (rest := [(.int 6), (.ref b161)]) (lenOf pdx_0 rfl) rfl (by show 2 * 0 + _ ≤ _; exact Nat.le_of_eq rfl) (hb hby at_138) (fun _ _ => ⟨rfl, e173, (by decide : 1 + 0 ≤ _), (by decide : 7 + 0 ≤ _)⟩)
 dsimp only [Pt.U, Pt.locs, Pt.cells, Pt.slots] at X174 l174 y174 z174 st174 hQ174
 subst l174 y174 z174
 obtain ⟨c6_, rfl, N174q, e174q, hr174⟩ := hQ174
 have N174 := Fr.app N173 N174q
 refine Ends.go st174 ?_
 have hc6_ := hr174
 obtain ⟨cl175, Ar175, q175, S175, M175, H175, G175⟩ := id V173
 have hin175 := inb_of (j := (6 : Int32)) S175 ⟨by decide, by decide⟩
 obtain ⟨T175, h175, X175, e175, W175, st175⟩ := stC X174 hx hZ e174q Ar175 (j := (6 : Int32)) hin175 (g := (mkF m 141 #[cj q0, cs, ci p1, cj q2, cs, cj q3, cs, ci p4, ci len_, ci at_, cr b161, cu, cu, cu, cu, cu, cu, cu, cu, cu, cu, cu] [(.int c6_), (.int 6), (.ref b161)])) rfl rfl (hb hby at_141)
 refine Ends.go st175 ?_
 have V175 : Arv Z h175 b161 k161 .char (7 : Int32) [(.int c0_), (.int c1_), (.int c2_), (.int c3_), (.int c4_), (.int c5_), (.int (nar .char c6_))] (.int 0) := Arv.set Ar175 q175 S175 M175 H175 G175 (fits_nar_char _) W175 6 rfl (Nat.le_of_ble_eq_true rfl)
 rw [own_narc hc6_] at V175
 have K175 := K173.wr W175 (Or.inr sz_b161)
 have O175 := O173.wr W175 g_b161
 have N175 := Fr.snoc X175 N174 g_b161
 show Ends _ _ _ _ T175 (mkF m 142 #[cj q0, cs, ci p1, cj q2, cs, cj q3, cs, ci p4, ci len_, ci at_, cr b161, cu, cu, cu, cu, cu, cu, cu, cu, cu, cu, cu] []) _ _ _
 have J403u : ∀ (T5 : State) (h5 : Heap) (lcs : List Loc) (x10 : Addr) (si_ : Addr) (xa_ : Addr) (kxa_ : ClassId) (at_ : Int32) (len_ : Int32) (ex_ : Int32) (ft_ : Int32) (X5 : Stand p l e room_1 s m #[(.long q0), (.int p1), (.long q2), (.long q3), (.int p4)] below meth c T5 lcs 8 64) (eT5 : T5.heap = h5) (O5 : Old Z n0 h5) (N5 : Fr n0 lcs) (K5 : Keep h0 h5 []) (g_si_ : n0 ≤ si_) (sz_si_ : h0.size ≤ si_) (hox : si_ ≠ xa_) (E4 : Exa Z h5 si_ cSI) (Fl : Fld Z h5 si_ cSI "limit" "I" (.int 7)) (Fp : Fld Z h5 si_ cSI "position" "I" (.int at_)) (Fb : Fld Z h5 si_ cSI "base" "I" (.int 0)) (Fc : Fld Z h5 si_ cSI "chars" "[C" (.ref xa_)) (Vx : Arv Z h5 xa_ kxa_ .char (7 : Int32) [(.int c0_), (.int c1_), (.int c2_), (.int c3_), (.int c4_), (.int c5_), (.int c6_)] (.int 0)) (hat : at_ = 0 ∨ at_ = 1 ∨ at_ = 2 ∨ at_ = 3 ∨ at_ = 4 ∨ at_ = 5 ∨ at_ = 6) (hlen : len_ = 4 ∨ len_ = 5) (hex : (ex_ = 1 ∧ own_spec c0_ c1_ c2_ c3_ c4_ c5_ c6_ q0 at_ len_) ∨ (ex_ = 0 ∧ ¬ own_spec c0_ c1_ c2_ c3_ c4_ c5_ c6_ q0 at_ len_)), Ends p e below s T5 (mkF m 403 #[cj q0, cs, ci p1, cj q2, cs, cj q3, cs, ci p4, ci len_, ci at_, cr x10, ci ft_, ci ex_, cr si_, cu, cu, cu, cu, cu, cu, cu, cu] []) room_1.cells room_1.slots (fun v h L => v = some (.int 1) ∧ Fr n0 L) := by
  intro T5 h5 lcs x10 si_ xa_ kxa_ at_ len_ ex_ ft_ X5 eT5 O5 N5 K5 g_si_ sz_si_ hox E4 Fl Fp Fb Fc Vx hat hlen hex
  show Ends _ _ _ _ T5 (mkF m 403 #[cj q0, cs, ci p1, cj q2, cs, cj q3, cs, ci p4, ci len_, ci at_, cr x10, ci ft_, ci ex_, cr si_, cu, cu, cu, cu, cu, cu, cu, cu] []) _ _ _
  refine wal X5 hx hby at_403 rfl rfl ?_
  refine .go (fun _ => XS.lloadN X5.here hx rfl (hb hby at_405) rfl) ?_
  refine wil X5 hx hby at_406 rfl ?_
  obtain ⟨cq176, kq176, q176a, q176b, q176c⟩ := isOf hZ eT5 E4
  obtain ⟨_, _, ⟨T176, L176, k176, n176⟩, -, X176, ⟨Lc176, hQ176, l176, y176, z176⟩, st176⟩ := X5.virtualBack hx (y := ym6) (z := ym6) hown (mvT hZ (ow hw 128 rfl)) (mvT hZ (ow hw 129 rfl)) (notFace_of_selects (args := #[]) (mvT hZ (ow hw 131 rfl))) (mvT hZ (ow hw 131 rfl)) (mvT hZ (ow hw 130 rfl)) (by decide) (own_backOf (W := 0) (rmW l Z a0 hw [] n0 h5 O5 si_ xa_ kxa_ q0 c0_ c1_ c2_ c3_ c4_ c5_ c6_ at_ len_ (at_ + len_) g_si_ hox E4 Fl Fp Fb Fc Vx hat hlen rfl) hZ (ow hw 132 rfl) (ow hw 8 rfl) (by decide) (by decide)) q176a q176c (g := (mkF m 408 #[cj q0, cs, ci p1, cj q2, cs, cj q3, cs, ci p4, ci len_, ci at_, cr x10, ci ft_, ci ex_, cr si_, cu, cu, cu, cu, cu, cu, cu, cu] [(.int len_), (.long q0), (.ref si_)])) rfl (by rw [hml]; rfl) (Steps.refl _) (argsL := [(.long q0), (.int len_)]) (rest := []) (lenOf pdx_1 rfl) rfl (by show 2 * 0 + _ ≤ _; exact Nat.le_of_eq rfl) (hb hby at_408) (fun _ _ => ⟨rfl, eT5, (by decide : 8 + 0 ≤ _), (by decide : 64 + 0 ≤ _)⟩)
  dsimp only [Pt.U, Pt.locs, Pt.cells, Pt.slots] at X176 l176 y176 z176 st176 hQ176
  subst l176 y176 z176
  obtain ⟨r176, rfl, N176q, K176c, Eq176, Fb176, hr176⟩ := hQ176
  have N176 := Fr.app N5 N176q
  refine Ends.go (fun _ k => st176.trans k) ?_
  obtain ⟨h176, e176⟩ : ∃ z, T176.heap = z := ⟨_, rfl⟩
  rw [e176] at K176c Eq176 Fb176 hr176
  have K176 := K5.trans K176c (allS (Or.inr sz_si_) all0)
  have O176 := O5.keep K176c (allS g_si_ all0)
  show Ends _ _ _ _ T176 (mkF m 411 #[cj q0, cs, ci p1, cj q2, cs, cj q3, cs, ci p4, ci len_, ci at_, cr x10, ci ft_, ci ex_, cr si_, cu, cu, cu, cu, cu, cu, cu, cu] [(.int r176)]) _ _ _
  rcases hr176 with ⟨rfl, hP_, Fp176⟩ | ⟨rfl, hP_, Fp176⟩
  ·have hx_ : ex_ = 1 := own_ex1 hex hP_
   show Ends _ _ _ _ T176 (mkF m 411 #[cj q0, cs, ci p1, cj q2, cs, cj q3, cs, ci p4, ci len_, ci at_, cr x10, ci ft_, ci ex_, cr si_, cu, cu, cu, cu, cu, cu, cu, cu] [(.int 1)]) _ _ _
   refine wst X176 hx hby at_411 (l' := #[cj q0, cs, ci p1, cj q2, cs, cj q3, cs, ci p4, ci len_, ci at_, cr x10, ci ft_, ci ex_, cr si_, ci 1, cu, cu, cu, cu, cu, cu, cu]) rfl ?_
   refine wal X176 hx hby at_413 rfl rfl ?_
   obtain ⟨cq180, kq180, q180a, q180b, q180c⟩ := isOf hZ e176 Eq176
   obtain ⟨_, _, ⟨T180, L180, k180, n180⟩, -, X180, ⟨Lc180, hQ180, l180, y180, z180⟩, st180⟩ := X176.virtualBack hx (y := ym8) (z := ym8) hown (mvT hZ (ow hw 134 rfl)) (mvT hZ (ow hw 135 rfl)) (notFace_of_selects (args := #[]) (mvT hZ (ow hw 137 rfl))) (mvT hZ (ow hw 137 rfl)) (mvT hZ (ow hw 136 rfl)) (by decide) (own_backOf (W := 0) (rx29_177 l Z a0 hw [] n0 h176 O176  si_ at_ len_ Fb176 Fp176) hZ (ow hw 138 rfl) (ow hw 8 rfl) (by decide) (by decide)) q180a q180c (g := (mkF m 415 #[cj q0, cs, ci p1, cj q2, cs, cj q3, cs, ci p4, ci len_, ci at_, cr x10, ci ft_, ci ex_, cr si_, ci 1, cu, cu, cu, cu, cu, cu, cu] [(.ref si_)])) rfl (by rw [hml]; rfl) (Steps.refl _) (argsL := []) (rest := []) (lenOf pdx_2 rfl) rfl (by show 2 * 0 + _ ≤ _; exact Nat.le_of_eq rfl) (hb hby at_415) (fun _ _ => ⟨rfl, e176, (by decide : 8 + 0 ≤ _), (by decide : 64 + 0 ≤ _)⟩)
   dsimp only [Pt.U, Pt.locs, Pt.cells, Pt.slots] at X180 l180 y180 z180 st180 hQ180
   subst l180 y180 z180
   obtain ⟨rfl, N180q, K180c⟩ := hQ180
   have N180 := Fr.app N176 N180q
   refine Ends.go (fun _ k => st180.trans k) ?_
   obtain ⟨h180, e180⟩ : ∃ z, T180.heap = z := ⟨_, rfl⟩
   rw [e180] at K180c
   have K180 := K176.trans K180c all0
   have O180 := O176.keep K180c all0
   refine .go (fun _ => XS.lstore X180.here hx rfl (hb hby at_418) rfl (l' := #[cj q0, cs, ci p1, cj q2, cs, cj q3, cs, ci p4, ci len_, ci at_, cr x10, ci ft_, ci ex_, cr si_, ci 1, cj (((0 : Int32) + (at_ + len_)).toInt64), cs, cu, cu, cu, cu, cu]) rfl) ?_
   show Ends _ _ _ _ T180 (mkF m 420 #[cj q0, cs, ci p1, cj q2, cs, cj q3, cs, ci p4, ci len_, ci at_, cr x10, ci ft_, ci ex_, cr si_, ci 1, cj (((0 : Int32) + (at_ + len_)).toInt64), cs, cu, cu, cu, cu, cu] []) _ _ _
   refine wil X180 hx hby at_420 rfl ?_
   refine win X180 hx hby at_422 ((if0 _ _).trans (feq ((by rw [hx_]; decide) : ¬ (ex_ = (0 : Int32)))).1) ?_
   refine wil X180 hx hby at_425 rfl ?_
   refine wil X180 hx hby at_427 rfl ?_
   refine wia X180 hx hby at_429 ?_
   show Ends _ _ _ _ T180 (mkF m 430 #[cj q0, cs, ci p1, cj q2, cs, cj q3, cs, ci p4, ci len_, ci at_, cr x10, ci ft_, ci ex_, cr si_, ci 1, cj (((0 : Int32) + (at_ + len_)).toInt64), cs, cu, cu, cu, cu, cu] [(.int (at_ + len_))]) _ _ _
   refine .go (fun _ => XS.i2l X180.here hx rfl (hb hby at_430) rfl) ?_
   refine wgo (pc := 431) (pc' := 437) X180 hx hby at_431 (by decide) (by decide) ?_
   refine .go (fun _ => XS.lstore X180.here hx rfl (hb hby at_437) rfl (l' := #[cj q0, cs, ci p1, cj q2, cs, cj q3, cs, ci p4, ci len_, ci at_, cr x10, ci ft_, ci ex_, cr si_, ci 1, cj (((0 : Int32) + (at_ + len_)).toInt64), cs, cj ((at_ + len_).toInt64), cs, cu, cu, cu]) rfl) ?_
   refine wil X180 hx hby at_439 rfl ?_
   refine wil X180 hx hby at_441 rfl ?_
   show Ends _ _ _ _ T180 (mkF m 443 #[cj q0, cs, ci p1, cj q2, cs, cj q3, cs, ci p4, ci len_, ci at_, cr x10, ci ft_, ci ex_, cr si_, ci 1, cj (((0 : Int32) + (at_ + len_)).toInt64), cs, cj ((at_ + len_).toInt64), cs, cu, cu, cu] [(.int ex_), (.int 1)]) _ _ _
   refine wcn X180 hx hby at_443 (teq (hx_.symm : (1 : Int32) = ex_)).2 ?_
   refine .go (fun _ => XS.lload X180.here hx rfl (hb hby at_446) rfl) ?_
   refine .go (fun _ => XS.lload X180.here hx rfl (hb hby at_448) rfl) ?_
   refine .go (fun _ => XS.lcmp X180.here hx rfl (hb hby at_450) rfl) ?_
   refine win X180 hx hby at_451 ((if0 _ _).trans (teq (((lw_eq _ _).mpr own_off) : (lcmpW (((0 : Int32) + (at_ + len_)).toInt64) ((at_ + len_).toInt64)) = (0 : Int32))).2) ?_
   show Ends _ _ _ _ T180 (mkF m 454 #[cj q0, cs, ci p1, cj q2, cs, cj q3, cs, ci p4, ci len_, ci at_, cr x10, ci ft_, ci ex_, cr si_, ci 1, cj (((0 : Int32) + (at_ + len_)).toInt64), cs, cj ((at_ + len_).toInt64), cs, cu, cu, cu] []) _ _ _
   refine wic X180 hx hby at_454 ?_
   refine wgo (pc := 455) (pc' := 459) X180 hx hby at_455 (by decide) (by decide) ?_
   refine Ends.retZ X180 hx Bd.notSynchronized (t := .boolean) Bd.returns (by simp) (hb hby at_459) (by decide) (by decide) ?_
   exact ⟨rfl, N180⟩
  ·have hx_ : ex_ = 0 := own_ex0 hex hP_
   show Ends _ _ _ _ T176 (mkF m 411 #[cj q0, cs, ci p1, cj q2, cs, cj q3, cs, ci p4, ci len_, ci at_, cr x10, ci ft_, ci ex_, cr si_, cu, cu, cu, cu, cu, cu, cu, cu] [(.int 0)]) _ _ _
   refine wst X176 hx hby at_411 (l' := #[cj q0, cs, ci p1, cj q2, cs, cj q3, cs, ci p4, ci len_, ci at_, cr x10, ci ft_, ci ex_, cr si_, ci 0, cu, cu, cu, cu, cu, cu, cu]) rfl ?_
   refine wal X176 hx hby at_413 rfl rfl ?_
   show Ends _ _ _ _ T176 (mkF m 415 #[cj q0, cs, ci p1, cj q2, cs, cj q3, cs, ci p4, ci len_, ci at_, cr x10, ci ft_, ci ex_, cr si_, ci 0, cu, cu, cu, cu, cu, cu, cu] [(.ref si_)]) _ _ _
   obtain ⟨cq184, kq184, q184a, q184b, q184c⟩ := isOf hZ e176 Eq176
   obtain ⟨_, _, ⟨T184, L184, k184, n184⟩, -, X184, ⟨Lc184, hQ184, l184, y184, z184⟩, st184⟩ := X176.virtualBack hx (y := ym8) (z := ym8) hown (mvT hZ (ow hw 134 rfl)) (mvT hZ (ow hw 135 rfl)) (notFace_of_selects (args := #[]) (mvT hZ (ow hw 137 rfl))) (mvT hZ (ow hw 137 rfl)) (mvT hZ (ow hw 136 rfl)) (by decide) (own_backOf (W := 0) (rx29_181 l Z a0 hw [] n0 h176 O176  si_ at_ Fb176 Fp176) hZ (ow hw 138 rfl) (ow hw 8 rfl) (by decide) (by decide)) q184a q184c (g := (mkF m 415 #[cj q0, cs, ci p1, cj q2, cs, cj q3, cs, ci p4, ci len_, ci at_, cr x10, ci ft_, ci ex_, cr si_, ci 0, cu, cu, cu, cu, cu, cu, cu] [(.ref si_)])) rfl (by rw [hml]; rfl) (Steps.refl _) (argsL := []) (rest := []) (lenOf pdx_2 rfl) rfl (by show 2 * 0 + _ ≤ _; exact Nat.le_of_eq rfl) (hb hby at_415) (fun _ _ => ⟨rfl, e176, (by decide : 8 + 0 ≤ _), (by decide : 64 + 0 ≤ _)⟩)
   dsimp only [Pt.U, Pt.locs, Pt.cells, Pt.slots] at X184 l184 y184 z184 st184 hQ184
   subst l184 y184 z184
   obtain ⟨rfl, N184q, K184c⟩ := hQ184
   have N184 := Fr.app N176 N184q
   refine Ends.go (fun _ k => st184.trans k) ?_
   obtain ⟨h184, e184⟩ : ∃ z, T184.heap = z := ⟨_, rfl⟩
   rw [e184] at K184c
   have K184 := K176.trans K184c all0
   have O184 := O176.keep K184c all0
   refine .go (fun _ => XS.lstore X184.here hx rfl (hb hby at_418) rfl (l' := #[cj q0, cs, ci p1, cj q2, cs, cj q3, cs, ci p4, ci len_, ci at_, cr x10, ci ft_, ci ex_, cr si_, ci 0, cj (((0 : Int32) + at_).toInt64), cs, cu, cu, cu, cu, cu]) rfl) ?_
   refine wil X184 hx hby at_420 rfl ?_
   refine wiy (pc := 422) (pc' := 434) X184 hx hby at_422 ((if0 _ _).trans (teq (hx_ : ex_ = (0 : Int32))).1) (by decide) (by decide) ?_
   refine wil X184 hx hby at_434 rfl ?_
   show Ends _ _ _ _ T184 (mkF m 436 #[cj q0, cs, ci p1, cj q2, cs, cj q3, cs, ci p4, ci len_, ci at_, cr x10, ci ft_, ci ex_, cr si_, ci 0, cj (((0 : Int32) + at_).toInt64), cs, cu, cu, cu, cu, cu] [(.int at_)]) _ _ _
   refine .go (fun _ => XS.i2l X184.here hx rfl (hb hby at_436) rfl) ?_
   refine .go (fun _ => XS.lstore X184.here hx rfl (hb hby at_437) rfl (l' := #[cj q0, cs, ci p1, cj q2, cs, cj q3, cs, ci p4, ci len_, ci at_, cr x10, ci ft_, ci ex_, cr si_, ci 0, cj (((0 : Int32) + at_).toInt64), cs, cj (at_.toInt64), cs, cu, cu, cu]) rfl) ?_
   refine wil X184 hx hby at_439 rfl ?_
   refine wil X184 hx hby at_441 rfl ?_
   refine wcn X184 hx hby at_443 (teq (hx_.symm : (0 : Int32) = ex_)).2 ?_
   show Ends _ _ _ _ T184 (mkF m 446 #[cj q0, cs, ci p1, cj q2, cs, cj q3, cs, ci p4, ci len_, ci at_, cr x10, ci ft_, ci ex_, cr si_, ci 0, cj (((0 : Int32) + at_).toInt64), cs, cj (at_.toInt64), cs, cu, cu, cu] []) _ _ _
   refine .go (fun _ => XS.lload X184.here hx rfl (hb hby at_446) rfl) ?_
   refine .go (fun _ => XS.lload X184.here hx rfl (hb hby at_448) rfl) ?_
   refine .go (fun _ => XS.lcmp X184.here hx rfl (hb hby at_450) rfl) ?_
   refine win X184 hx hby at_451 ((if0 _ _).trans (teq (((lw_eq _ _).mpr own_off) : (lcmpW (((0 : Int32) + at_).toInt64) (at_.toInt64)) = (0 : Int32))).2) ?_
   refine wic X184 hx hby at_454 ?_
   show Ends _ _ _ _ T184 (mkF m 455 #[cj q0, cs, ci p1, cj q2, cs, cj q3, cs, ci p4, ci len_, ci at_, cr x10, ci ft_, ci ex_, cr si_, ci 0, cj (((0 : Int32) + at_).toInt64), cs, cj (at_.toInt64), cs, cu, cu, cu] [(.int 1)]) _ _ _
   refine wgo (pc := 455) (pc' := 459) X184 hx hby at_455 (by decide) (by decide) ?_
   refine Ends.retZ X184 hx Bd.notSynchronized (t := .boolean) Bd.returns (by simp) (hb hby at_459) (by decide) (by decide) ?_
   exact ⟨rfl, N184⟩
 have J338u : ∀ (T4 : State) (h4 : Heap) (lcs : List Loc) (x10 : Addr) (si_ : Addr) (xa_ : Addr) (kxa_ : ClassId) (at_ : Int32) (len_ : Int32) (ex_ : Int32) (ft_ : Int32) (X4 : Stand p l e room_1 s m #[(.long q0), (.int p1), (.long q2), (.long q3), (.int p4)] below meth c T4 lcs 8 64) (eT4 : T4.heap = h4) (O4 : Old Z n0 h4) (N4 : Fr n0 lcs) (K4 : Keep h0 h4 []) (g_si_ : n0 ≤ si_) (sz_si_ : h0.size ≤ si_) (hox : si_ ≠ xa_) (E4 : Exa Z h4 si_ cSI) (Fl : Fld Z h4 si_ cSI "limit" "I" (.int 7)) (Fp : Fld Z h4 si_ cSI "position" "I" (.int 0)) (Fb : Fld Z h4 si_ cSI "base" "I" (.int 0)) (Fc : Fld Z h4 si_ cSI "chars" "[C" (.ref xa_)) (Vx : Arv Z h4 xa_ kxa_ .char (7 : Int32) [(.int c0_), (.int c1_), (.int c2_), (.int c3_), (.int c4_), (.int c5_), (.int c6_)] (.int 0)) (hat : at_ = 0 ∨ at_ = 1 ∨ at_ = 2 ∨ at_ = 3 ∨ at_ = 4 ∨ at_ = 5 ∨ at_ = 6) (hlen : len_ = 4 ∨ len_ = 5) (hex : (ex_ = 1 ∧ own_spec c0_ c1_ c2_ c3_ c4_ c5_ c6_ q0 at_ len_) ∨ (ex_ = 0 ∧ ¬ own_spec c0_ c1_ c2_ c3_ c4_ c5_ c6_ q0 at_ len_)), Ends p e below s T4 (mkF m 338 #[cj q0, cs, ci p1, cj q2, cs, cj q3, cs, ci p4, ci len_, ci at_, cr x10, ci ft_, ci ex_, cr si_, cu, cu, cu, cu, cu, cu, cu, cu] []) room_1.cells room_1.slots (fun v h L => v = some (.int 1) ∧ Fr n0 L) := by
  intro T4 h4 lcs x10 si_ xa_ kxa_ at_ len_ ex_ ft_ X4 eT4 O4 N4 K4 g_si_ sz_si_ hox E4 Fl Fp Fb Fc Vx hat hlen hex
  show Ends _ _ _ _ T4 (mkF m 338 #[cj q0, cs, ci p1, cj q2, cs, cj q3, cs, ci p4, ci len_, ci at_, cr x10, ci ft_, ci ex_, cr si_, cu, cu, cu, cu, cu, cu, cu, cu] []) _ _ _
  refine wil X4 hx hby at_338 rfl ?_
  by_cases hc340_185 : (0 : Int32) < at_
  ·refine win X4 hx hby at_340 ((if0 _ _).trans (tlt hc340_185).2.2.2) ?_
   refine wal X4 hx hby at_343 rfl rfl ?_
   show Ends _ _ _ _ T4 (mkF m 345 #[cj q0, cs, ci p1, cj q2, cs, cj q3, cs, ci p4, ci len_, ci at_, cr x10, ci ft_, ci ex_, cr si_, cu, cu, cu, cu, cu, cu, cu, cu] [(.ref si_)]) _ _ _
   obtain ⟨cq189, kq189, q189a, q189b, q189c⟩ := isOf hZ eT4 E4
   obtain ⟨_, _, ⟨T189, L189, k189, n189⟩, -, X189, ⟨Lc189, hQ189, l189, y189, z189⟩, st189⟩ := X4.virtualBack hx (y := ym9) (z := ym9) hown (mvT hZ (ow hw 121 rfl)) (mvT hZ (ow hw 122 rfl)) (notFace_of_selects (args := #[]) (mvT hZ (ow hw 124 rfl))) (mvT hZ (ow hw 124 rfl)) (mvT hZ (ow hw 123 rfl)) (by decide) (own_backOf (W := 0) (rx27_186 l Z a0 hw [] n0 h4 O4  si_ xa_ Fp E4 Fl Fb Fc g_si_) hZ (ow hw 125 rfl) (ow hw 8 rfl) (by decide) (by decide)) q189a q189c (g := (mkF m 345 #[cj q0, cs, ci p1, cj q2, cs, cj q3, cs, ci p4, ci len_, ci at_, cr x10, ci ft_, ci ex_, cr si_, cu, cu, cu, cu, cu, cu, cu, cu] [(.ref si_)])) rfl (by rw [hml]; rfl) (Steps.refl _) (argsL := []) (rest := []) (lenOf pdx_3 rfl) rfl (by show 2 * 0 + _ ≤ _; exact Nat.le_of_eq rfl) (hb hby at_345) (fun _ _ => ⟨rfl, eT4, (by decide : 8 + 0 ≤ _), (by decide : 64 + 0 ≤ _)⟩)
   dsimp only [Pt.U, Pt.locs, Pt.cells, Pt.slots] at X189 l189 y189 z189 st189 hQ189
   subst l189 y189 z189
   obtain ⟨rfl, N189q, K189c, Y189_0, Y189_1, Y189_2, Y189_3⟩ := hQ189
   have N189 := Fr.app N4 N189q
   refine Ends.go (fun _ k => st189.trans k) ?_
   obtain ⟨h189, e189⟩ : ∃ z, T189.heap = z := ⟨_, rfl⟩
   rw [e189] at K189c Y189_0 Y189_1 Y189_2 Y189_3
   have K189 := K4.trans K189c (allS (Or.inr sz_si_) all0)
   have O189 := O4.keep K189c (allS g_si_ all0)
   refine wil X189 hx hby at_348 rfl ?_
   refine wic X189 hx hby at_350 ?_
   by_cases hc351_190 : (1 : Int32) < at_
   ·refine wcn X189 hx hby at_351 (tlt hc351_190).2.2.2 ?_
    refine wal X189 hx hby at_354 rfl rfl ?_
    show Ends _ _ _ _ T189 (mkF m 356 #[cj q0, cs, ci p1, cj q2, cs, cj q3, cs, ci p4, ci len_, ci at_, cr x10, ci ft_, ci ex_, cr si_, cu, cu, cu, cu, cu, cu, cu, cu] [(.ref si_)]) _ _ _
    obtain ⟨cq194, kq194, q194a, q194b, q194c⟩ := isOf hZ e189 (E4.keep K189c)
    obtain ⟨_, _, ⟨T194, L194, k194, n194⟩, -, X194, ⟨Lc194, hQ194, l194, y194, z194⟩, st194⟩ := X189.virtualBack hx (y := ym9) (z := ym9) hown (mvT hZ (ow hw 121 rfl)) (mvT hZ (ow hw 122 rfl)) (notFace_of_selects (args := #[]) (mvT hZ (ow hw 124 rfl))) (mvT hZ (ow hw 124 rfl)) (mvT hZ (ow hw 123 rfl)) (by decide) (own_backOf (W := 0) (rx27_191 l Z a0 hw [] n0 h189 O189  si_ xa_ Y189_0 (E4.keep K189c) Y189_1 Y189_2 Y189_3 g_si_) hZ (ow hw 125 rfl) (ow hw 8 rfl) (by decide) (by decide)) q194a q194c (g := (mkF m 356 #[cj q0, cs, ci p1, cj q2, cs, cj q3, cs, ci p4, ci len_, ci at_, cr x10, ci ft_, ci ex_, cr si_, cu, cu, cu, cu, cu, cu, cu, cu] [(.ref si_)])) rfl (by rw [hml]; rfl) (Steps.refl _) (argsL := []) (rest := []) (lenOf pdx_3 rfl) rfl (by show 2 * 0 + _ ≤ _; exact Nat.le_of_eq rfl) (hb hby at_356) (fun _ _ => ⟨rfl, e189, (by decide : 8 + 0 ≤ _), (by decide : 64 + 0 ≤ _)⟩)
    dsimp only [Pt.U, Pt.locs, Pt.cells, Pt.slots] at X194 l194 y194 z194 st194 hQ194
    subst l194 y194 z194
    obtain ⟨rfl, N194q, K194c, Y194_0, Y194_1, Y194_2, Y194_3⟩ := hQ194
    have N194 := Fr.app N189 N194q
    refine Ends.go (fun _ k => st194.trans k) ?_
    obtain ⟨h194, e194⟩ : ∃ z, T194.heap = z := ⟨_, rfl⟩
    rw [e194] at K194c Y194_0 Y194_1 Y194_2 Y194_3
    have K194 := K189.trans K194c (allS (Or.inr sz_si_) all0)
    have O194 := O189.keep K194c (allS g_si_ all0)
    refine wil X194 hx hby at_359 rfl ?_
    refine wic X194 hx hby at_361 ?_
    by_cases hc362_195 : (2 : Int32) < at_
    ·refine wcn X194 hx hby at_362 (tlt hc362_195).2.2.2 ?_
     refine wal X194 hx hby at_365 rfl rfl ?_
     show Ends _ _ _ _ T194 (mkF m 367 #[cj q0, cs, ci p1, cj q2, cs, cj q3, cs, ci p4, ci len_, ci at_, cr x10, ci ft_, ci ex_, cr si_, cu, cu, cu, cu, cu, cu, cu, cu] [(.ref si_)]) _ _ _
     obtain ⟨cq199, kq199, q199a, q199b, q199c⟩ := isOf hZ e194 ((E4.keep K189c).keep K194c)
     obtain ⟨_, _, ⟨T199, L199, k199, n199⟩, -, X199, ⟨Lc199, hQ199, l199, y199, z199⟩, st199⟩ := X194.virtualBack hx (y := ym9) (z := ym9) hown (mvT hZ (ow hw 121 rfl)) (mvT hZ (ow hw 122 rfl)) (notFace_of_selects (args := #[]) (mvT hZ (ow hw 124 rfl))) (mvT hZ (ow hw 124 rfl)) (mvT hZ (ow hw 123 rfl)) (by decide) (own_backOf (W := 0) (rx27_196 l Z a0 hw [] n0 h194 O194  si_ xa_ Y194_0 ((E4.keep K189c).keep K194c) Y194_1 Y194_2 Y194_3 g_si_) hZ (ow hw 125 rfl) (ow hw 8 rfl) (by decide) (by decide)) q199a q199c (g := (mkF m 367 #[cj q0, cs, ci p1, cj q2, cs, cj q3, cs, ci p4, ci len_, ci at_, cr x10, ci ft_, ci ex_, cr si_, cu, cu, cu, cu, cu, cu, cu, cu] [(.ref si_)])) rfl (by rw [hml]; rfl) (Steps.refl _) (argsL := []) (rest := []) (lenOf pdx_3 rfl) rfl (by show 2 * 0 + _ ≤ _; exact Nat.le_of_eq rfl) (hb hby at_367) (fun _ _ => ⟨rfl, e194, (by decide : 8 + 0 ≤ _), (by decide : 64 + 0 ≤ _)⟩)
     dsimp only [Pt.U, Pt.locs, Pt.cells, Pt.slots] at X199 l199 y199 z199 st199 hQ199
     subst l199 y199 z199
     obtain ⟨rfl, N199q, K199c, Y199_0, Y199_1, Y199_2, Y199_3⟩ := hQ199
     have N199 := Fr.app N194 N199q
     refine Ends.go (fun _ k => st199.trans k) ?_
     obtain ⟨h199, e199⟩ : ∃ z, T199.heap = z := ⟨_, rfl⟩
     rw [e199] at K199c Y199_0 Y199_1 Y199_2 Y199_3
     have K199 := K194.trans K199c (allS (Or.inr sz_si_) all0)
     have O199 := O194.keep K199c (allS g_si_ all0)
     refine wil X199 hx hby at_370 rfl ?_
     refine wic X199 hx hby at_372 ?_
     by_cases hc373_200 : (3 : Int32) < at_
     ·refine wcn X199 hx hby at_373 (tlt hc373_200).2.2.2 ?_
      refine wal X199 hx hby at_376 rfl rfl ?_
      show Ends _ _ _ _ T199 (mkF m 378 #[cj q0, cs, ci p1, cj q2, cs, cj q3, cs, ci p4, ci len_, ci at_, cr x10, ci ft_, ci ex_, cr si_, cu, cu, cu, cu, cu, cu, cu, cu] [(.ref si_)]) _ _ _
      obtain ⟨cq204, kq204, q204a, q204b, q204c⟩ := isOf hZ e199 (((E4.keep K189c).keep K194c).keep K199c)
      obtain ⟨_, _, ⟨T204, L204, k204, n204⟩, -, X204, ⟨Lc204, hQ204, l204, y204, z204⟩, st204⟩ := X199.virtualBack hx (y := ym9) (z := ym9) hown (mvT hZ (ow hw 121 rfl)) (mvT hZ (ow hw 122 rfl)) (notFace_of_selects (args := #[]) (mvT hZ (ow hw 124 rfl))) (mvT hZ (ow hw 124 rfl)) (mvT hZ (ow hw 123 rfl)) (by decide) (own_backOf (W := 0) (rx27_201 l Z a0 hw [] n0 h199 O199  si_ xa_ Y199_0 (((E4.keep K189c).keep K194c).keep K199c) Y199_1 Y199_2 Y199_3 g_si_) hZ (ow hw 125 rfl) (ow hw 8 rfl) (by decide) (by decide)) q204a q204c (g := (mkF m 378 #[cj q0, cs, ci p1, cj q2, cs, cj q3, cs, ci p4, ci len_, ci at_, cr x10, ci ft_, ci ex_, cr si_, cu, cu, cu, cu, cu, cu, cu, cu] [(.ref si_)])) rfl (by rw [hml]; rfl) (Steps.refl _) (argsL := []) (rest := []) (lenOf pdx_3 rfl) rfl (by show 2 * 0 + _ ≤ _; exact Nat.le_of_eq rfl) (hb hby at_378) (fun _ _ => ⟨rfl, e199, (by decide : 8 + 0 ≤ _), (by decide : 64 + 0 ≤ _)⟩)
      dsimp only [Pt.U, Pt.locs, Pt.cells, Pt.slots] at X204 l204 y204 z204 st204 hQ204
      subst l204 y204 z204
      obtain ⟨rfl, N204q, K204c, Y204_0, Y204_1, Y204_2, Y204_3⟩ := hQ204
      have N204 := Fr.app N199 N204q
      refine Ends.go (fun _ k => st204.trans k) ?_
      obtain ⟨h204, e204⟩ : ∃ z, T204.heap = z := ⟨_, rfl⟩
      rw [e204] at K204c Y204_0 Y204_1 Y204_2 Y204_3
      have K204 := K199.trans K204c (allS (Or.inr sz_si_) all0)
      have O204 := O199.keep K204c (allS g_si_ all0)
      refine wil X204 hx hby at_381 rfl ?_
      refine wic X204 hx hby at_383 ?_
      by_cases hc384_205 : (4 : Int32) < at_
      ·refine wcn X204 hx hby at_384 (tlt hc384_205).2.2.2 ?_
       refine wal X204 hx hby at_387 rfl rfl ?_
       show Ends _ _ _ _ T204 (mkF m 389 #[cj q0, cs, ci p1, cj q2, cs, cj q3, cs, ci p4, ci len_, ci at_, cr x10, ci ft_, ci ex_, cr si_, cu, cu, cu, cu, cu, cu, cu, cu] [(.ref si_)]) _ _ _
       obtain ⟨cq209, kq209, q209a, q209b, q209c⟩ := isOf hZ e204 ((((E4.keep K189c).keep K194c).keep K199c).keep K204c)
       obtain ⟨_, _, ⟨T209, L209, k209, n209⟩, -, X209, ⟨Lc209, hQ209, l209, y209, z209⟩, st209⟩ := X204.virtualBack hx (y := ym9) (z := ym9) hown (mvT hZ (ow hw 121 rfl)) (mvT hZ (ow hw 122 rfl)) (notFace_of_selects (args := #[]) (mvT hZ (ow hw 124 rfl))) (mvT hZ (ow hw 124 rfl)) (mvT hZ (ow hw 123 rfl)) (by decide) (own_backOf (W := 0) (rx27_206 l Z a0 hw [] n0 h204 O204  si_ xa_ Y204_0 ((((E4.keep K189c).keep K194c).keep K199c).keep K204c) Y204_1 Y204_2 Y204_3 g_si_) hZ (ow hw 125 rfl) (ow hw 8 rfl) (by decide) (by decide)) q209a q209c (g := (mkF m 389 #[cj q0, cs, ci p1, cj q2, cs, cj q3, cs, ci p4, ci len_, ci at_, cr x10, ci ft_, ci ex_, cr si_, cu, cu, cu, cu, cu, cu, cu, cu] [(.ref si_)])) rfl (by rw [hml]; rfl) (Steps.refl _) (argsL := []) (rest := []) (lenOf pdx_3 rfl) rfl (by show 2 * 0 + _ ≤ _; exact Nat.le_of_eq rfl) (hb hby at_389) (fun _ _ => ⟨rfl, e204, (by decide : 8 + 0 ≤ _), (by decide : 64 + 0 ≤ _)⟩)
       dsimp only [Pt.U, Pt.locs, Pt.cells, Pt.slots] at X209 l209 y209 z209 st209 hQ209
       subst l209 y209 z209
       obtain ⟨rfl, N209q, K209c, Y209_0, Y209_1, Y209_2, Y209_3⟩ := hQ209
       have N209 := Fr.app N204 N209q
       refine Ends.go (fun _ k => st209.trans k) ?_
       obtain ⟨h209, e209⟩ : ∃ z, T209.heap = z := ⟨_, rfl⟩
       rw [e209] at K209c Y209_0 Y209_1 Y209_2 Y209_3
       have K209 := K204.trans K209c (allS (Or.inr sz_si_) all0)
       have O209 := O204.keep K209c (allS g_si_ all0)
       refine wil X209 hx hby at_392 rfl ?_
       refine wic X209 hx hby at_394 ?_
       by_cases hc395_210 : (5 : Int32) < at_
       ·refine wcn X209 hx hby at_395 (tlt hc395_210).2.2.2 ?_
        obtain rfl : at_ = 6 := by
         revert hc340_185 hc351_190 hc362_195 hc373_200 hc384_205 hc395_210
         rcases hat with rfl | rfl | rfl | rfl | rfl | rfl | rfl <;> decide
        show Ends _ _ _ _ T209 (mkF m 398 #[cj q0, cs, ci p1, cj q2, cs, cj q3, cs, ci p4, ci len_, ci 6, cr x10, ci ft_, ci ex_, cr si_, cu, cu, cu, cu, cu, cu, cu, cu] []) _ _ _
        refine wal X209 hx hby at_398 rfl rfl ?_
        obtain ⟨cq214, kq214, q214a, q214b, q214c⟩ := isOf hZ e209 (((((E4.keep K189c).keep K194c).keep K199c).keep K204c).keep K209c)
        obtain ⟨_, _, ⟨T214, L214, k214, n214⟩, -, X214, ⟨Lc214, hQ214, l214, y214, z214⟩, st214⟩ := X209.virtualBack hx (y := ym9) (z := ym9) hown (mvT hZ (ow hw 121 rfl)) (mvT hZ (ow hw 122 rfl)) (notFace_of_selects (args := #[]) (mvT hZ (ow hw 124 rfl))) (mvT hZ (ow hw 124 rfl)) (mvT hZ (ow hw 123 rfl)) (by decide) (own_backOf (W := 0) (rx27_211 l Z a0 hw [] n0 h209 O209  si_ xa_ Y209_0 (((((E4.keep K189c).keep K194c).keep K199c).keep K204c).keep K209c) Y209_1 Y209_2 Y209_3 g_si_) hZ (ow hw 125 rfl) (ow hw 8 rfl) (by decide) (by decide)) q214a q214c (g := (mkF m 400 #[cj q0, cs, ci p1, cj q2, cs, cj q3, cs, ci p4, ci len_, ci 6, cr x10, ci ft_, ci ex_, cr si_, cu, cu, cu, cu, cu, cu, cu, cu] [(.ref si_)])) rfl (by rw [hml]; rfl) (Steps.refl _) (argsL := []) (rest := []) (lenOf pdx_3 rfl) rfl (by show 2 * 0 + _ ≤ _; exact Nat.le_of_eq rfl) (hb hby at_400) (fun _ _ => ⟨rfl, e209, (by decide : 8 + 0 ≤ _), (by decide : 64 + 0 ≤ _)⟩)
        dsimp only [Pt.U, Pt.locs, Pt.cells, Pt.slots] at X214 l214 y214 z214 st214 hQ214
        subst l214 y214 z214
        obtain ⟨rfl, N214q, K214c, Y214_0, Y214_1, Y214_2, Y214_3⟩ := hQ214
        have N214 := Fr.app N209 N214q
        refine Ends.go (fun _ k => st214.trans k) ?_
        obtain ⟨h214, e214⟩ : ∃ z, T214.heap = z := ⟨_, rfl⟩
        rw [e214] at K214c Y214_0 Y214_1 Y214_2 Y214_3
        have K214 := K209.trans K214c (allS (Or.inr sz_si_) all0)
        have O214 := O209.keep K214c (allS g_si_ all0)
        exact J403u _ _ _ x10 si_ xa_ kxa_ (6 : Int32) len_ ex_ ft_ X214 e214 O214 N214 K214 g_si_ sz_si_ hox ((((((E4.keep K189c).keep K194c).keep K199c).keep K204c).keep K209c).keep K214c) Y214_1 Y214_0 Y214_2 Y214_3 ((((((Vx.keep K189c (ninS (Ne.symm hox) nin0)).keep K194c (ninS (Ne.symm hox) nin0)).keep K199c (ninS (Ne.symm hox) nin0)).keep K204c (ninS (Ne.symm hox) nin0)).keep K209c (ninS (Ne.symm hox) nin0)).keep K214c (ninS (Ne.symm hox) nin0)) (by decide) hlen hex
       ·refine wcy (pc := 395) (pc' := 403) X209 hx hby at_395 (flt hc395_210).2.2.2 (by decide) (by decide) ?_
        obtain rfl : at_ = 5 := by
         revert hc340_185 hc351_190 hc362_195 hc373_200 hc384_205 hc395_210
         rcases hat with rfl | rfl | rfl | rfl | rfl | rfl | rfl <;> decide
        show Ends _ _ _ _ T209 (mkF m 403 #[cj q0, cs, ci p1, cj q2, cs, cj q3, cs, ci p4, ci len_, ci 5, cr x10, ci ft_, ci ex_, cr si_, cu, cu, cu, cu, cu, cu, cu, cu] []) _ _ _
        exact J403u _ _ _ x10 si_ xa_ kxa_ (5 : Int32) len_ ex_ ft_ X209 e209 O209 N209 K209 g_si_ sz_si_ hox (((((E4.keep K189c).keep K194c).keep K199c).keep K204c).keep K209c) Y209_1 Y209_0 Y209_2 Y209_3 (((((Vx.keep K189c (ninS (Ne.symm hox) nin0)).keep K194c (ninS (Ne.symm hox) nin0)).keep K199c (ninS (Ne.symm hox) nin0)).keep K204c (ninS (Ne.symm hox) nin0)).keep K209c (ninS (Ne.symm hox) nin0)) (by decide) hlen hex
      ·refine wcy (pc := 384) (pc' := 392) X204 hx hby at_384 (flt hc384_205).2.2.2 (by decide) (by decide) ?_
       show Ends _ _ _ _ T204 (mkF m 392 #[cj q0, cs, ci p1, cj q2, cs, cj q3, cs, ci p4, ci len_, ci at_, cr x10, ci ft_, ci ex_, cr si_, cu, cu, cu, cu, cu, cu, cu, cu] []) _ _ _
       obtain rfl : at_ = 4 := by
        revert hc340_185 hc351_190 hc362_195 hc373_200 hc384_205
        rcases hat with rfl | rfl | rfl | rfl | rfl | rfl | rfl <;> decide
       show Ends _ _ _ _ T204 (mkF m 392 #[cj q0, cs, ci p1, cj q2, cs, cj q3, cs, ci p4, ci len_, ci 4, cr x10, ci ft_, ci ex_, cr si_, cu, cu, cu, cu, cu, cu, cu, cu] []) _ _ _
       refine wil X204 hx hby at_392 rfl ?_
       refine wic X204 hx hby at_394 ?_
       refine wcy (pc := 395) (pc' := 403) X204 hx hby at_395 (flt (by decide : ¬ ((5 : Int32) < (4 : Int32)))).2.2.2 (by decide) (by decide) ?_
       exact J403u _ _ _ x10 si_ xa_ kxa_ (4 : Int32) len_ ex_ ft_ X204 e204 O204 N204 K204 g_si_ sz_si_ hox ((((E4.keep K189c).keep K194c).keep K199c).keep K204c) Y204_1 Y204_0 Y204_2 Y204_3 ((((Vx.keep K189c (ninS (Ne.symm hox) nin0)).keep K194c (ninS (Ne.symm hox) nin0)).keep K199c (ninS (Ne.symm hox) nin0)).keep K204c (ninS (Ne.symm hox) nin0)) (by decide) hlen hex
     ·refine wcy (pc := 373) (pc' := 381) X199 hx hby at_373 (flt hc373_200).2.2.2 (by decide) (by decide) ?_
      show Ends _ _ _ _ T199 (mkF m 381 #[cj q0, cs, ci p1, cj q2, cs, cj q3, cs, ci p4, ci len_, ci at_, cr x10, ci ft_, ci ex_, cr si_, cu, cu, cu, cu, cu, cu, cu, cu] []) _ _ _
      obtain rfl : at_ = 3 := by
       revert hc340_185 hc351_190 hc362_195 hc373_200
       rcases hat with rfl | rfl | rfl | rfl | rfl | rfl | rfl <;> decide
      show Ends _ _ _ _ T199 (mkF m 381 #[cj q0, cs, ci p1, cj q2, cs, cj q3, cs, ci p4, ci len_, ci 3, cr x10, ci ft_, ci ex_, cr si_, cu, cu, cu, cu, cu, cu, cu, cu] []) _ _ _
      refine wil X199 hx hby at_381 rfl ?_
      refine wic X199 hx hby at_383 ?_
      refine wcy (pc := 384) (pc' := 392) X199 hx hby at_384 (flt (by decide : ¬ ((4 : Int32) < (3 : Int32)))).2.2.2 (by decide) (by decide) ?_
      refine wil X199 hx hby at_392 rfl ?_
      show Ends _ _ _ _ T199 (mkF m 394 #[cj q0, cs, ci p1, cj q2, cs, cj q3, cs, ci p4, ci len_, ci 3, cr x10, ci ft_, ci ex_, cr si_, cu, cu, cu, cu, cu, cu, cu, cu] [(.int 3)]) _ _ _
      refine wic X199 hx hby at_394 ?_
      refine wcy (pc := 395) (pc' := 403) X199 hx hby at_395 (flt (by decide : ¬ ((5 : Int32) < (3 : Int32)))).2.2.2 (by decide) (by decide) ?_
      exact J403u _ _ _ x10 si_ xa_ kxa_ (3 : Int32) len_ ex_ ft_ X199 e199 O199 N199 K199 g_si_ sz_si_ hox (((E4.keep K189c).keep K194c).keep K199c) Y199_1 Y199_0 Y199_2 Y199_3 (((Vx.keep K189c (ninS (Ne.symm hox) nin0)).keep K194c (ninS (Ne.symm hox) nin0)).keep K199c (ninS (Ne.symm hox) nin0)) (by decide) hlen hex
    ·refine wcy (pc := 362) (pc' := 370) X194 hx hby at_362 (flt hc362_195).2.2.2 (by decide) (by decide) ?_
     obtain rfl : at_ = 2 := by
      revert hc340_185 hc351_190 hc362_195
      rcases hat with rfl | rfl | rfl | rfl | rfl | rfl | rfl <;> decide
     show Ends _ _ _ _ T194 (mkF m 370 #[cj q0, cs, ci p1, cj q2, cs, cj q3, cs, ci p4, ci len_, ci 2, cr x10, ci ft_, ci ex_, cr si_, cu, cu, cu, cu, cu, cu, cu, cu] []) _ _ _
     refine wil X194 hx hby at_370 rfl ?_
     show Ends _ _ _ _ T194 (mkF m 372 #[cj q0, cs, ci p1, cj q2, cs, cj q3, cs, ci p4, ci len_, ci 2, cr x10, ci ft_, ci ex_, cr si_, cu, cu, cu, cu, cu, cu, cu, cu] [(.int 2)]) _ _ _
     refine wic X194 hx hby at_372 ?_
     refine wcy (pc := 373) (pc' := 381) X194 hx hby at_373 (flt (by decide : ¬ ((3 : Int32) < (2 : Int32)))).2.2.2 (by decide) (by decide) ?_
     refine wil X194 hx hby at_381 rfl ?_
     refine wic X194 hx hby at_383 ?_
     refine wcy (pc := 384) (pc' := 392) X194 hx hby at_384 (flt (by decide : ¬ ((4 : Int32) < (2 : Int32)))).2.2.2 (by decide) (by decide) ?_
     show Ends _ _ _ _ T194 (mkF m 392 #[cj q0, cs, ci p1, cj q2, cs, cj q3, cs, ci p4, ci len_, ci 2, cr x10, ci ft_, ci ex_, cr si_, cu, cu, cu, cu, cu, cu, cu, cu] []) _ _ _
     refine wil X194 hx hby at_392 rfl ?_
     refine wic X194 hx hby at_394 ?_
     refine wcy (pc := 395) (pc' := 403) X194 hx hby at_395 (flt (by decide : ¬ ((5 : Int32) < (2 : Int32)))).2.2.2 (by decide) (by decide) ?_
     exact J403u _ _ _ x10 si_ xa_ kxa_ (2 : Int32) len_ ex_ ft_ X194 e194 O194 N194 K194 g_si_ sz_si_ hox ((E4.keep K189c).keep K194c) Y194_1 Y194_0 Y194_2 Y194_3 ((Vx.keep K189c (ninS (Ne.symm hox) nin0)).keep K194c (ninS (Ne.symm hox) nin0)) (by decide) hlen hex
   ·refine wcy (pc := 351) (pc' := 359) X189 hx hby at_351 (flt hc351_190).2.2.2 (by decide) (by decide) ?_
    obtain rfl : at_ = 1 := by
     revert hc340_185 hc351_190
     rcases hat with rfl | rfl | rfl | rfl | rfl | rfl | rfl <;> decide
    show Ends _ _ _ _ T189 (mkF m 359 #[cj q0, cs, ci p1, cj q2, cs, cj q3, cs, ci p4, ci len_, ci 1, cr x10, ci ft_, ci ex_, cr si_, cu, cu, cu, cu, cu, cu, cu, cu] []) _ _ _
    refine wil X189 hx hby at_359 rfl ?_
    refine wic X189 hx hby at_361 ?_
    refine wcy (pc := 362) (pc' := 370) X189 hx hby at_362 (flt (by decide : ¬ ((2 : Int32) < (1 : Int32)))).2.2.2 (by decide) (by decide) ?_
    refine wil X189 hx hby at_370 rfl ?_
    refine wic X189 hx hby at_372 ?_
    show Ends _ _ _ _ T189 (mkF m 373 #[cj q0, cs, ci p1, cj q2, cs, cj q3, cs, ci p4, ci len_, ci 1, cr x10, ci ft_, ci ex_, cr si_, cu, cu, cu, cu, cu, cu, cu, cu] [(.int 3), (.int 1)]) _ _ _
    refine wcy (pc := 373) (pc' := 381) X189 hx hby at_373 (flt (by decide : ¬ ((3 : Int32) < (1 : Int32)))).2.2.2 (by decide) (by decide) ?_
    refine wil X189 hx hby at_381 rfl ?_
    refine wic X189 hx hby at_383 ?_
    refine wcy (pc := 384) (pc' := 392) X189 hx hby at_384 (flt (by decide : ¬ ((4 : Int32) < (1 : Int32)))).2.2.2 (by decide) (by decide) ?_
    refine wil X189 hx hby at_392 rfl ?_
    show Ends _ _ _ _ T189 (mkF m 394 #[cj q0, cs, ci p1, cj q2, cs, cj q3, cs, ci p4, ci len_, ci 1, cr x10, ci ft_, ci ex_, cr si_, cu, cu, cu, cu, cu, cu, cu, cu] [(.int 1)]) _ _ _
    refine wic X189 hx hby at_394 ?_
    refine wcy (pc := 395) (pc' := 403) X189 hx hby at_395 (flt (by decide : ¬ ((5 : Int32) < (1 : Int32)))).2.2.2 (by decide) (by decide) ?_
    exact J403u _ _ _ x10 si_ xa_ kxa_ (1 : Int32) len_ ex_ ft_ X189 e189 O189 N189 K189 g_si_ sz_si_ hox (E4.keep K189c) Y189_1 Y189_0 Y189_2 Y189_3 (Vx.keep K189c (ninS (Ne.symm hox) nin0)) (by decide) hlen hex
  ·refine wiy (pc := 340) (pc' := 348) X4 hx hby at_340 ((if0 _ _).trans (flt hc340_185).2.2.2) (by decide) (by decide) ?_
   obtain rfl : at_ = 0 := by
    revert hc340_185
    rcases hat with rfl | rfl | rfl | rfl | rfl | rfl | rfl <;> decide
   show Ends _ _ _ _ T4 (mkF m 348 #[cj q0, cs, ci p1, cj q2, cs, cj q3, cs, ci p4, ci len_, ci 0, cr x10, ci ft_, ci ex_, cr si_, cu, cu, cu, cu, cu, cu, cu, cu] []) _ _ _
   refine wil X4 hx hby at_348 rfl ?_
   show Ends _ _ _ _ T4 (mkF m 350 #[cj q0, cs, ci p1, cj q2, cs, cj q3, cs, ci p4, ci len_, ci 0, cr x10, ci ft_, ci ex_, cr si_, cu, cu, cu, cu, cu, cu, cu, cu] [(.int 0)]) _ _ _
   refine wic X4 hx hby at_350 ?_
   refine wcy (pc := 351) (pc' := 359) X4 hx hby at_351 (flt (by decide : ¬ ((1 : Int32) < (0 : Int32)))).2.2.2 (by decide) (by decide) ?_
   refine wil X4 hx hby at_359 rfl ?_
   refine wic X4 hx hby at_361 ?_
   refine wcy (pc := 362) (pc' := 370) X4 hx hby at_362 (flt (by decide : ¬ ((2 : Int32) < (0 : Int32)))).2.2.2 (by decide) (by decide) ?_
   show Ends _ _ _ _ T4 (mkF m 370 #[cj q0, cs, ci p1, cj q2, cs, cj q3, cs, ci p4, ci len_, ci 0, cr x10, ci ft_, ci ex_, cr si_, cu, cu, cu, cu, cu, cu, cu, cu] []) _ _ _
   refine wil X4 hx hby at_370 rfl ?_
   refine wic X4 hx hby at_372 ?_
   refine wcy (pc := 373) (pc' := 381) X4 hx hby at_373 (flt (by decide : ¬ ((3 : Int32) < (0 : Int32)))).2.2.2 (by decide) (by decide) ?_
   refine wil X4 hx hby at_381 rfl ?_
   refine wic X4 hx hby at_383 ?_
   show Ends _ _ _ _ T4 (mkF m 384 #[cj q0, cs, ci p1, cj q2, cs, cj q3, cs, ci p4, ci len_, ci 0, cr x10, ci ft_, ci ex_, cr si_, cu, cu, cu, cu, cu, cu, cu, cu] [(.int 4), (.int 0)]) _ _ _
   refine wcy (pc := 384) (pc' := 392) X4 hx hby at_384 (flt (by decide : ¬ ((4 : Int32) < (0 : Int32)))).2.2.2 (by decide) (by decide) ?_
   refine wil X4 hx hby at_392 rfl ?_
   refine wic X4 hx hby at_394 ?_
   refine wcy (pc := 395) (pc' := 403) X4 hx hby at_395 (flt (by decide : ¬ ((5 : Int32) < (0 : Int32)))).2.2.2 (by decide) (by decide) ?_
   exact J403u _ _ _ x10 si_ xa_ kxa_ (0 : Int32) len_ ex_ ft_ X4 eT4 O4 N4 K4 g_si_ sz_si_ hox E4 Fl Fp Fb Fc Vx (by decide) hlen hex
 have J320u : ∀ (T3 : State) (h3 : Heap) (lcs : List Loc) (x10 : Addr) (kx10 : ClassId) (at_ : Int32) (len_ : Int32) (ex_ : Int32) (ft_ : Int32) (X3 : Stand p l e room_1 s m #[(.long q0), (.int p1), (.long q2), (.long q3), (.int p4)] below meth c T3 lcs 1 7) (eT3 : T3.heap = h3) (O3 : Old Z n0 h3) (N3 : Fr n0 lcs) (K3 : Keep h0 h3 []) (V3 : Arv Z h3 x10 kx10 .char (7 : Int32) [(.int c0_), (.int c1_), (.int c2_), (.int c3_), (.int c4_), (.int c5_), (.int c6_)] (.int 0)) (hat : at_ = 0 ∨ at_ = 1 ∨ at_ = 2 ∨ at_ = 3 ∨ at_ = 4 ∨ at_ = 5 ∨ at_ = 6) (hlen : len_ = 4 ∨ len_ = 5) (hex : (ex_ = 1 ∧ own_spec c0_ c1_ c2_ c3_ c4_ c5_ c6_ q0 at_ len_) ∨ (ex_ = 0 ∧ ¬ own_spec c0_ c1_ c2_ c3_ c4_ c5_ c6_ q0 at_ len_)), Ends p e below s T3 (mkF m 320 #[cj q0, cs, ci p1, cj q2, cs, cj q3, cs, ci p4, ci len_, ci at_, cr x10, ci ft_, ci ex_, cu, cu, cu, cu, cu, cu, cu, cu, cu] []) room_1.cells room_1.slots (fun v h L => v = some (.int 1) ∧ Fr n0 L) := by
  intro T3 h3 lcs x10 kx10 at_ len_ ex_ ft_ X3 eT3 O3 N3 K3 V3 hat hlen hex
  show Ends _ _ _ _ T3 (mkF m 320 #[cj q0, cs, ci p1, cj q2, cs, cj q3, cs, ci p4, ci len_, ci at_, cr x10, ci ft_, ci ex_, cu, cu, cu, cu, cu, cu, cu, cu, cu] []) _ _ _
  obtain ⟨T215, h215, X215, e215, E215, A215, D215, -, st215⟩ := newO X3 hx hZ hown (ow hw 6 rfl) (ow hw 7 rfl) (ow hw 8 rfl) eT3 (g := (mkF m 320 #[cj q0, cs, ci p1, cj q2, cs, cj q3, cs, ci p4, ci len_, ci at_, cr x10, ci ft_, ci ex_, cu, cu, cu, cu, cu, cu, cu, cu, cu] [])) rfl (hb hby at_320) (by decide) (by decide)
  obtain ⟨b215, g215⟩ : ∃ z, z = h3.size := ⟨_, rfl⟩
  rw [← g215] at A215 D215 st215
  refine Ends.go st215 ?_
  have g_b215 : n0 ≤ b215 := Nat.le_trans (own_old_le O3) (Nat.le_of_eq g215.symm)
  have sz_b215 : h0.size ≤ b215 := Nat.le_trans K3.1 (Nat.le_of_eq g215.symm)
  have K215 := K3.ext E215
  have O215 := O3.ext E215
  have F_text_b215 : Fld Z h215 b215 cSI "text" "Ljava/lang/String;" .null := D215 (Or.inr (ow hw 67 rfl)) (ty := (.object "java/lang/String")) (by decide)
  have F_chars_b215 : Fld Z h215 b215 cSI "chars" "[C" .null := D215 (Or.inr (ow hw 83 rfl)) (ty := (.array .char)) (by decide)
  have F_limit_b215 : Fld Z h215 b215 cSI "limit" "I" (.int 0) := D215 (Or.inl (ow hw 85 rfl)) (ty := .int) (by decide)
  have F_position_b215 : Fld Z h215 b215 cSI "position" "I" (.int 0) := D215 (Or.inl (ow hw 127 rfl)) (ty := .int) (by decide)
  have F_base_b215 : Fld Z h215 b215 cSI "base" "I" (.int 0) := D215 (Or.inl (ow hw 140 rfl)) (ty := .int) (by decide)
  refine wdu X215 hx hby at_323 rfl ?_
  obtain ⟨T216, h216, X216, e216, E216, A216, D216, -, st216⟩ := newO X215 hx hZ hown (ow hw 9 rfl) (ow hw 10 rfl) (ow hw 11 rfl) e215 (g := (mkF m 324 #[cj q0, cs, ci p1, cj q2, cs, cj q3, cs, ci p4, ci len_, ci at_, cr x10, ci ft_, ci ex_, cu, cu, cu, cu, cu, cu, cu, cu, cu] [(.ref b215), (.ref b215)])) rfl (hb hby at_324) (by decide) (by decide)
  obtain ⟨b216, g216⟩ : ∃ z, z = h215.size := ⟨_, rfl⟩
  rw [← g216] at A216 D216 st216
  refine Ends.go st216 ?_
  have g_b216 : n0 ≤ b216 := Nat.le_trans (own_old_le O215) (Nat.le_of_eq g216.symm)
  have sz_b216 : h0.size ≤ b216 := Nat.le_trans K215.1 (Nat.le_of_eq g216.symm)
  have K216 := K215.ext E216
  have O216 := O215.ext E216
  have F_coder_b216 : Fld Z h216 b216 "java/lang/String" "coder" "B" (.int 0) := D216 (Or.inr (ow hw 54 rfl)) (ty := .byte) (by decide)
  have F_value_b216 : Fld Z h216 b216 "java/lang/String" "value" "[B" .null := D216 (Or.inr (ow hw 56 rfl)) (ty := (.array .byte)) (by decide)
  refine wdu X216 hx hby at_327 rfl ?_
  refine wal X216 hx hby at_328 rfl rfl ?_
  show Ends _ _ _ _ T216 (mkF m 330 #[cj q0, cs, ci p1, cj q2, cs, cj q3, cs, ci p4, ci len_, ci at_, cr x10, ci ft_, ci ex_, cu, cu, cu, cu, cu, cu, cu, cu, cu] [(.ref x10), (.ref b216), (.ref b216), (.ref b215), (.ref b215)]) _ _ _
  rcases Classical.em (own_lat c0_ c1_ c2_ c3_ c4_ c5_ c6_) with hlat_ | hbig_
  ·obtain ⟨hk0_, hk1_, hk2_, hk3_, hk4_, hk5_, hk6_⟩ := id hlat_
   obtain ⟨_, _, ⟨T251, L251, k251, n251⟩, -, X251, ⟨Lc251, hQ251, l251, y251, z251⟩, st251⟩ := X216.specialBack hx (y := ym13) rfl hown (mvT hZ (ow hw 12 rfl)) (mvT hZ (ow hw 13 rfl)) (mvT hZ (ow hw 14 rfl)) (by decide) (own_backOf (W := 3) (rx2_217 l Z a0 hw [] n0 h216 O216 G1 G3 GF b216 x10 kx10 c0_ c1_ c2_ c3_ c4_ c5_ c6_ ((V3.ext E215).ext E216) A216 F_coder_b216 F_value_b216 g_b216 hk0_ hk1_ hk2_ hk3_ hk4_ hk5_ hk6_) hZ (ow hw 14 rfl) (ow hw 11 rfl) (by decide) (by decide)) (g := (mkF m 330 #[cj q0, cs, ci p1, cj q2, cs, cj q3, cs, ci p4, ci len_, ci at_, cr x10, ci ft_, ci ex_, cu, cu, cu, cu, cu, cu, cu, cu, cu] [(.ref x10), (.ref b216), (.ref b216), (.ref b215), (.ref b215)])) rfl (by rw [hml]; rfl) (Steps.refl _) (a := b216) (argsL := [(.ref x10)]) (rest := [(.ref b216), (.ref b215), (.ref b215)]) (lenOf pdx_8 rfl) rfl (by show 2 * 0 + _ ≤ _; exact Nat.le_of_eq rfl) (hb hby at_330) (fun _ _ => ⟨rfl, e216, (by decide : 3 + 1 ≤ _), (by decide : 23 + 7 ≤ _)⟩)
   dsimp only [Pt.U, Pt.locs, Pt.cells, Pt.slots] at X251 l251 y251 z251 st251 hQ251
   subst l251 y251 z251
   obtain ⟨b252, k253, rfl, N251q, K251c, hb251_b252, Y251_0, Y251_1, Y251_2⟩ := hQ251
   have N251 := Fr.app N3 N251q
   refine Ends.go (fun _ k => st251.trans k) ?_
   have g_b252 : n0 ≤ b252 := Nat.le_trans (own_old_le O216) hb251_b252
   have sz_b252 : h0.size ≤ b252 := Nat.le_trans K216.1 hb251_b252
   obtain ⟨h251, e251⟩ : ∃ z, T251.heap = z := ⟨_, rfl⟩
   rw [e251] at K251c Y251_0 Y251_1 Y251_2
   have K251 := K216.trans K251c (allS (Or.inr sz_b216) all0)
   have O251 := O216.keep K251c (allS g_b216 all0)
   have ne_b215_b216 : b215 ≠ b216 := Nat.ne_of_lt (Nat.lt_of_lt_of_le A215.lt (Nat.le_of_eq g216.symm))
   have ne_b215_b252 : b215 ≠ b252 := Nat.ne_of_lt (Nat.lt_of_lt_of_le (A215.ext E216).lt hb251_b252)
   obtain ⟨_, _, ⟨T305, L305, k305, n305⟩, -, X305, ⟨Lc305, hQ305, l305, y305, z305⟩, st305⟩ := X251.specialBack hx (y := ym22) rfl hown (mvT hZ (ow hw 57 rfl)) (mvT hZ (ow hw 58 rfl)) (mvT hZ (ow hw 59 rfl)) (by decide) (own_backOf (W := 1) (rx13_254 l Z a0 hw [] n0 h251 O251 G1 G3 GF b215 b216 b252 k253 c0_ c1_ c2_ c3_ c4_ c5_ c6_ ((A215.ext E216).keep K251c) ((F_text_b215.ext E216).keep K251c (ninS ne_b215_b216 nin0)) Y251_2 Y251_0 Y251_1 (A216.keep K251c) ((F_chars_b215.ext E216).keep K251c (ninS ne_b215_b216 nin0)) ((F_limit_b215.ext E216).keep K251c (ninS ne_b215_b216 nin0)) ((F_position_b215.ext E216).keep K251c (ninS ne_b215_b216 nin0)) ((F_base_b215.ext E216).keep K251c (ninS ne_b215_b216 nin0)) (Ne.symm ne_b215_b216) (Ne.symm ne_b215_b252) g_b215) hZ (ow hw 59 rfl) (ow hw 8 rfl) (by decide) (by decide)) (g := (mkF m 333 #[cj q0, cs, ci p1, cj q2, cs, cj q3, cs, ci p4, ci len_, ci at_, cr x10, ci ft_, ci ex_, cu, cu, cu, cu, cu, cu, cu, cu, cu] [(.ref b216), (.ref b215), (.ref b215)])) rfl (by rw [hml]; rfl) (Steps.refl _) (a := b215) (argsL := [(.ref b216)]) (rest := [(.ref b215)]) (lenOf pdx_18 rfl) rfl (by show 2 * 0 + _ ≤ _; exact Nat.le_of_eq rfl) (hb hby at_333) (fun _ _ => ⟨rfl, e251, (by decide : 4 + 1 ≤ _), (by decide : 30 + 7 ≤ _)⟩)
   dsimp only [Pt.U, Pt.locs, Pt.cells, Pt.slots] at X305 l305 y305 z305 st305 hQ305
   subst l305 y305 z305
   obtain ⟨b306, k307, rfl, N305q, K305c, hb305_b306, Y305_0, Y305_1, Y305_2, Y305_3, Y305_4, Y305_5⟩ := hQ305
   have N305 := Fr.app N251 N305q
   refine Ends.go (fun _ k => st305.trans k) ?_
   have g_b306 : n0 ≤ b306 := Nat.le_trans (own_old_le O251) hb305_b306
   have sz_b306 : h0.size ≤ b306 := Nat.le_trans K251.1 hb305_b306
   obtain ⟨h305, e305⟩ : ∃ z, T305.heap = z := ⟨_, rfl⟩
   rw [e305] at K305c Y305_0 Y305_1 Y305_2 Y305_3 Y305_4 Y305_5
   have K305 := K251.trans K305c (allS (Or.inr sz_b215) all0)
   have O305 := O251.keep K305c (allS g_b215 all0)
   refine was X305 hx hby at_336 (l' := #[cj q0, cs, ci p1, cj q2, cs, cj q3, cs, ci p4, ci len_, ci at_, cr x10, ci ft_, ci ex_, cr b215, cu, cu, cu, cu, cu, cu, cu, cu]) rfl rfl ?_
   have Vl308 := Y305_3
   rw [own_l1 hc0_ hk0_, own_l1 hc1_ hk1_, own_l1 hc2_ hk2_, own_l1 hc3_ hk3_, own_l1 hc4_ hk4_, own_l1 hc5_ hk5_, own_l1 hc6_ hk6_] at Vl308
   have ne_b215_b306 : b215 ≠ b306 := Nat.ne_of_lt (Nat.lt_of_lt_of_le ((A215.ext E216).keep K251c).lt hb305_b306)
   exact J338u _ _ _ x10 b215 b306 _ at_ len_ ex_ ft_ (own_mono X305 (by decide) (by decide)) e305 O305 N305 K305 g_b215 sz_b215 ne_b215_b306 (((A215.ext E216).keep K251c).keep K305c) Y305_2 Y305_4 Y305_5 Y305_1 Vl308 hat hlen hex
  ·obtain ⟨_, _, ⟨T398, L398, k398, n398⟩, -, X398, ⟨Lc398, hQ398, l398, y398, z398⟩, st398⟩ := X216.specialBack hx (y := ym13) rfl hown (mvT hZ (ow hw 12 rfl)) (mvT hZ (ow hw 13 rfl)) (mvT hZ (ow hw 14 rfl)) (by decide) (own_backOf (W := 3) (rx2_309 l Z a0 hw [] n0 h216 O216 G1 G3 GF b216 x10 kx10 c0_ c1_ c2_ c3_ c4_ c5_ c6_ ((V3.ext E215).ext E216) A216 F_coder_b216 F_value_b216 g_b216 hbig_ hc0_ hc1_ hc2_ hc3_ hc4_ hc5_ hc6_) hZ (ow hw 14 rfl) (ow hw 11 rfl) (by decide) (by decide)) (g := (mkF m 330 #[cj q0, cs, ci p1, cj q2, cs, cj q3, cs, ci p4, ci len_, ci at_, cr x10, ci ft_, ci ex_, cu, cu, cu, cu, cu, cu, cu, cu, cu] [(.ref x10), (.ref b216), (.ref b216), (.ref b215), (.ref b215)])) rfl (by rw [hml]; rfl) (Steps.refl _) (a := b216) (argsL := [(.ref x10)]) (rest := [(.ref b216), (.ref b215), (.ref b215)]) (lenOf pdx_8 rfl) rfl (by show 2 * 0 + _ ≤ _; exact Nat.le_of_eq rfl) (hb hby at_330) (fun _ _ => ⟨rfl, e216, (by decide : 3 + 2 ≤ _), (by decide : 23 + 21 ≤ _)⟩)
   dsimp only [Pt.U, Pt.locs, Pt.cells, Pt.slots] at X398 l398 y398 z398 st398 hQ398
   subst l398 y398 z398
   obtain ⟨b399, b400, k401, rfl, N398q, K398c, hb398_b399, hb398_b400, Y398_0, Y398_1, Y398_2⟩ := hQ398
   have N398 := Fr.app N3 N398q
   refine Ends.go (fun _ k => st398.trans k) ?_
   have g_b399 : n0 ≤ b399 := Nat.le_trans (own_old_le O216) hb398_b399
   have sz_b399 : h0.size ≤ b399 := Nat.le_trans K216.1 hb398_b399
   have g_b400 : n0 ≤ b400 := Nat.le_trans (own_old_le O216) hb398_b400
   have sz_b400 : h0.size ≤ b400 := Nat.le_trans K216.1 hb398_b400
   obtain ⟨h398, e398⟩ : ∃ z, T398.heap = z := ⟨_, rfl⟩
   rw [e398] at K398c Y398_0 Y398_1 Y398_2
   have K398 := K216.trans K398c (allS (Or.inr sz_b216) all0)
   have O398 := O216.keep K398c (allS g_b216 all0)
   have ne_b215_b216 : b215 ≠ b216 := Nat.ne_of_lt (Nat.lt_of_lt_of_le A215.lt (Nat.le_of_eq g216.symm))
   have ne_b215_b400 : b215 ≠ b400 := Nat.ne_of_lt (Nat.lt_of_lt_of_le (A215.ext E216).lt hb398_b400)
   obtain ⟨_, _, ⟨T454, L454, k454, n454⟩, -, X454, ⟨Lc454, hQ454, l454, y454, z454⟩, st454⟩ := X398.specialBack hx (y := ym22) rfl hown (mvT hZ (ow hw 57 rfl)) (mvT hZ (ow hw 58 rfl)) (mvT hZ (ow hw 59 rfl)) (by decide) (own_backOf (W := 1) (rx13_402 l Z a0 hw [] n0 h398 O398 G1 G3 GF b215 b216 b400 k401 c0_ c1_ c2_ c3_ c4_ c5_ c6_ ((A215.ext E216).keep K398c) ((F_text_b215.ext E216).keep K398c (ninS ne_b215_b216 nin0)) Y398_2 Y398_0 Y398_1 (A216.keep K398c) ((F_chars_b215.ext E216).keep K398c (ninS ne_b215_b216 nin0)) ((F_limit_b215.ext E216).keep K398c (ninS ne_b215_b216 nin0)) ((F_position_b215.ext E216).keep K398c (ninS ne_b215_b216 nin0)) ((F_base_b215.ext E216).keep K398c (ninS ne_b215_b216 nin0)) (Ne.symm ne_b215_b216) (Ne.symm ne_b215_b400) g_b215 hc0_ hc1_ hc2_ hc3_ hc4_ hc5_ hc6_) hZ (ow hw 59 rfl) (ow hw 8 rfl) (by decide) (by decide)) (g := (mkF m 333 #[cj q0, cs, ci p1, cj q2, cs, cj q3, cs, ci p4, ci len_, ci at_, cr x10, ci ft_, ci ex_, cu, cu, cu, cu, cu, cu, cu, cu, cu] [(.ref b216), (.ref b215), (.ref b215)])) rfl (by rw [hml]; rfl) (Steps.refl _) (a := b215) (argsL := [(.ref b216)]) (rest := [(.ref b215)]) (lenOf pdx_18 rfl) rfl (by show 2 * 0 + _ ≤ _; exact Nat.le_of_eq rfl) (hb hby at_333) (fun _ _ => ⟨rfl, e398, (by decide : 5 + 1 ≤ _), (by decide : 44 + 7 ≤ _)⟩)
   dsimp only [Pt.U, Pt.locs, Pt.cells, Pt.slots] at X454 l454 y454 z454 st454 hQ454
   subst l454 y454 z454
   obtain ⟨b455, k456, rfl, N454q, K454c, hb454_b455, Y454_0, Y454_1, Y454_2, Y454_3, Y454_4, Y454_5⟩ := hQ454
   have N454 := Fr.app N398 N454q
   refine Ends.go (fun _ k => st454.trans k) ?_
   have g_b455 : n0 ≤ b455 := Nat.le_trans (own_old_le O398) hb454_b455
   have sz_b455 : h0.size ≤ b455 := Nat.le_trans K398.1 hb454_b455
   obtain ⟨h454, e454⟩ : ∃ z, T454.heap = z := ⟨_, rfl⟩
   rw [e454] at K454c Y454_0 Y454_1 Y454_2 Y454_3 Y454_4 Y454_5
   have K454 := K398.trans K454c (allS (Or.inr sz_b215) all0)
   have O454 := O398.keep K454c (allS g_b215 all0)
   show Ends _ _ _ _ T454 (mkF m 336 #[cj q0, cs, ci p1, cj q2, cs, cj q3, cs, ci p4, ci len_, ci at_, cr x10, ci ft_, ci ex_, cu, cu, cu, cu, cu, cu, cu, cu, cu] [(.ref b215)]) _ _ _
   refine was X454 hx hby at_336 (l' := #[cj q0, cs, ci p1, cj q2, cs, cj q3, cs, ci p4, ci len_, ci at_, cr x10, ci ft_, ci ex_, cr b215, cu, cu, cu, cu, cu, cu, cu, cu]) rfl rfl ?_
   have ne_b215_b455 : b215 ≠ b455 := Nat.ne_of_lt (Nat.lt_of_lt_of_le ((A215.ext E216).keep K398c).lt hb454_b455)
   exact J338u _ _ _ x10 b215 b455 _ at_ len_ ex_ ft_ (own_mono X454 (by decide) (by decide)) e454 O454 N454 K454 g_b215 sz_b215 ne_b215_b455 (((A215.ext E216).keep K398c).keep K454c) Y454_2 Y454_4 Y454_5 Y454_1 Y454_3 hat hlen hex
 have J403s : ∀ (T5 : State) (h5 : Heap) (lcs : List Loc) (x10 : Addr) (si_ : Addr) (xa_ : Addr) (kxa_ : ClassId) (at_ : Int32) (len_ : Int32) (ex_ : Int32) (ft_ : Int32) (y14 : Int32) (y15 : Int32) (y16 : Int32) (y17 : Int32) (y18 : Int64) (y20 : Int64) (X5 : Stand p l e room_1 s m #[(.long q0), (.int p1), (.long q2), (.long q3), (.int p4)] below meth c T5 lcs 8 64) (eT5 : T5.heap = h5) (O5 : Old Z n0 h5) (N5 : Fr n0 lcs) (K5 : Keep h0 h5 []) (g_si_ : n0 ≤ si_) (sz_si_ : h0.size ≤ si_) (hox : si_ ≠ xa_) (E4 : Exa Z h5 si_ cSI) (Fl : Fld Z h5 si_ cSI "limit" "I" (.int 7)) (Fp : Fld Z h5 si_ cSI "position" "I" (.int at_)) (Fb : Fld Z h5 si_ cSI "base" "I" (.int 0)) (Fc : Fld Z h5 si_ cSI "chars" "[C" (.ref xa_)) (Vx : Arv Z h5 xa_ kxa_ .char (7 : Int32) [(.int c0_), (.int c1_), (.int c2_), (.int c3_), (.int c4_), (.int c5_), (.int c6_)] (.int 0)) (hat : at_ = 0 ∨ at_ = 1 ∨ at_ = 2 ∨ at_ = 3 ∨ at_ = 4 ∨ at_ = 5 ∨ at_ = 6) (hlen : len_ = 4 ∨ len_ = 5) (hex : (ex_ = 1 ∧ own_spec c0_ c1_ c2_ c3_ c4_ c5_ c6_ q0 at_ len_) ∨ (ex_ = 0 ∧ ¬ own_spec c0_ c1_ c2_ c3_ c4_ c5_ c6_ q0 at_ len_)), Ends p e below s T5 (mkF m 403 #[cj q0, cs, ci p1, cj q2, cs, cj q3, cs, ci p4, ci len_, ci at_, cr x10, ci ft_, ci ex_, cr si_, ci y14, ci y15, ci y16, ci y17, cj y18, cs, cj y20, cs] []) room_1.cells room_1.slots (fun v h L => v = some (.int 1) ∧ Fr n0 L) := by
  intro T5 h5 lcs x10 si_ xa_ kxa_ at_ len_ ex_ ft_ y14 y15 y16 y17 y18 y20 X5 eT5 O5 N5 K5 g_si_ sz_si_ hox E4 Fl Fp Fb Fc Vx hat hlen hex
  show Ends _ _ _ _ T5 (mkF m 403 #[cj q0, cs, ci p1, cj q2, cs, cj q3, cs, ci p4, ci len_, ci at_, cr x10, ci ft_, ci ex_, cr si_, ci y14, ci y15, ci y16, ci y17, cj y18, cs, cj y20, cs] []) _ _ _
  refine wal X5 hx hby at_403 rfl rfl ?_
  refine .go (fun _ => XS.lloadN X5.here hx rfl (hb hby at_405) rfl) ?_
  refine wil X5 hx hby at_406 rfl ?_
  show Ends _ _ _ _ T5 (mkF m 408 #[cj q0, cs, ci p1, cj q2, cs, cj q3, cs, ci p4, ci len_, ci at_, cr x10, ci ft_, ci ex_, cr si_, ci y14, ci y15, ci y16, ci y17, cj y18, cs, cj y20, cs] [(.int len_), (.long q0), (.ref si_)]) _ _ _
  obtain ⟨cq457, kq457, q457a, q457b, q457c⟩ := isOf hZ eT5 E4
  obtain ⟨_, _, ⟨T457, L457, k457, n457⟩, -, X457, ⟨Lc457, hQ457, l457, y457, z457⟩, st457⟩ := X5.virtualBack hx (y := ym6) (z := ym6) hown (mvT hZ (ow hw 128 rfl)) (mvT hZ (ow hw 129 rfl)) (notFace_of_selects (args := #[]) (mvT hZ (ow hw 131 rfl))) (mvT hZ (ow hw 131 rfl)) (mvT hZ (ow hw 130 rfl)) (by decide) (own_backOf (W := 0) (rmW l Z a0 hw [] n0 h5 O5 si_ xa_ kxa_ q0 c0_ c1_ c2_ c3_ c4_ c5_ c6_ at_ len_ (at_ + len_) g_si_ hox E4 Fl Fp Fb Fc Vx hat hlen rfl) hZ (ow hw 132 rfl) (ow hw 8 rfl) (by decide) (by decide)) q457a q457c (g := (mkF m 408 #[cj q0, cs, ci p1, cj q2, cs, cj q3, cs, ci p4, ci len_, ci at_, cr x10, ci ft_, ci ex_, cr si_, ci y14, ci y15, ci y16, ci y17, cj y18, cs, cj y20, cs] [(.int len_), (.long q0), (.ref si_)])) rfl (by rw [hml]; rfl) (Steps.refl _) (argsL := [(.long q0), (.int len_)]) (rest := []) (lenOf pdx_1 rfl) rfl (by show 2 * 0 + _ ≤ _; exact Nat.le_of_eq rfl) (hb hby at_408) (fun _ _ => ⟨rfl, eT5, (by decide : 8 + 0 ≤ _), (by decide : 64 + 0 ≤ _)⟩)
  dsimp only [Pt.U, Pt.locs, Pt.cells, Pt.slots] at X457 l457 y457 z457 st457 hQ457
  subst l457 y457 z457
  obtain ⟨r457, rfl, N457q, K457c, Eq457, Fb457, hr457⟩ := hQ457
  have N457 := Fr.app N5 N457q
  refine Ends.go (fun _ k => st457.trans k) ?_
  obtain ⟨h457, e457⟩ : ∃ z, T457.heap = z := ⟨_, rfl⟩
  rw [e457] at K457c Eq457 Fb457 hr457
  have K457 := K5.trans K457c (allS (Or.inr sz_si_) all0)
  have O457 := O5.keep K457c (allS g_si_ all0)
  rcases hr457 with ⟨rfl, hP_, Fp457⟩ | ⟨rfl, hP_, Fp457⟩
  ·have hx_ : ex_ = 1 := own_ex1 hex hP_
   show Ends _ _ _ _ T457 (mkF m 411 #[cj q0, cs, ci p1, cj q2, cs, cj q3, cs, ci p4, ci len_, ci at_, cr x10, ci ft_, ci ex_, cr si_, ci y14, ci y15, ci y16, ci y17, cj y18, cs, cj y20, cs] [(.int 1)]) _ _ _
   refine wst X457 hx hby at_411 (l' := #[cj q0, cs, ci p1, cj q2, cs, cj q3, cs, ci p4, ci len_, ci at_, cr x10, ci ft_, ci ex_, cr si_, ci 1, ci y15, ci y16, ci y17, cj y18, cs, cj y20, cs]) rfl ?_
   refine wal X457 hx hby at_413 rfl rfl ?_
   obtain ⟨cq458, kq458, q458a, q458b, q458c⟩ := isOf hZ e457 Eq457
   obtain ⟨_, _, ⟨T458, L458, k458, n458⟩, -, X458, ⟨Lc458, hQ458, l458, y458, z458⟩, st458⟩ := X457.virtualBack hx (y := ym8) (z := ym8) hown (mvT hZ (ow hw 134 rfl)) (mvT hZ (ow hw 135 rfl)) (notFace_of_selects (args := #[]) (mvT hZ (ow hw 137 rfl))) (mvT hZ (ow hw 137 rfl)) (mvT hZ (ow hw 136 rfl)) (by decide) (own_backOf (W := 0) (rx29_177 l Z a0 hw [] n0 h457 O457  si_ at_ len_ Fb457 Fp457) hZ (ow hw 138 rfl) (ow hw 8 rfl) (by decide) (by decide)) q458a q458c (g := (mkF m 415 #[cj q0, cs, ci p1, cj q2, cs, cj q3, cs, ci p4, ci len_, ci at_, cr x10, ci ft_, ci ex_, cr si_, ci 1, ci y15, ci y16, ci y17, cj y18, cs, cj y20, cs] [(.ref si_)])) rfl (by rw [hml]; rfl) (Steps.refl _) (argsL := []) (rest := []) (lenOf pdx_2 rfl) rfl (by show 2 * 0 + _ ≤ _; exact Nat.le_of_eq rfl) (hb hby at_415) (fun _ _ => ⟨rfl, e457, (by decide : 8 + 0 ≤ _), (by decide : 64 + 0 ≤ _)⟩)
   dsimp only [Pt.U, Pt.locs, Pt.cells, Pt.slots] at X458 l458 y458 z458 st458 hQ458
   subst l458 y458 z458
   obtain ⟨rfl, N458q, K458c⟩ := hQ458
   have N458 := Fr.app N457 N458q
   refine Ends.go (fun _ k => st458.trans k) ?_
   obtain ⟨h458, e458⟩ : ∃ z, T458.heap = z := ⟨_, rfl⟩
   rw [e458] at K458c
   have K458 := K457.trans K458c all0
   have O458 := O457.keep K458c all0
   show Ends _ _ _ _ T458 (mkF m 418 #[cj q0, cs, ci p1, cj q2, cs, cj q3, cs, ci p4, ci len_, ci at_, cr x10, ci ft_, ci ex_, cr si_, ci 1, ci y15, ci y16, ci y17, cj y18, cs, cj y20, cs] [(.long (((0 : Int32) + (at_ + len_)).toInt64))]) _ _ _
   refine .go (fun _ => XS.lstore X458.here hx rfl (hb hby at_418) rfl (l' := #[cj q0, cs, ci p1, cj q2, cs, cj q3, cs, ci p4, ci len_, ci at_, cr x10, ci ft_, ci ex_, cr si_, ci 1, cj (((0 : Int32) + (at_ + len_)).toInt64), cs, ci y17, cj y18, cs, cj y20, cs]) rfl) ?_
   refine wil X458 hx hby at_420 rfl ?_
   refine win X458 hx hby at_422 ((if0 _ _).trans (feq ((by rw [hx_]; decide) : ¬ (ex_ = (0 : Int32)))).1) ?_
   refine wil X458 hx hby at_425 rfl ?_
   refine wil X458 hx hby at_427 rfl ?_
   show Ends _ _ _ _ T458 (mkF m 429 #[cj q0, cs, ci p1, cj q2, cs, cj q3, cs, ci p4, ci len_, ci at_, cr x10, ci ft_, ci ex_, cr si_, ci 1, cj (((0 : Int32) + (at_ + len_)).toInt64), cs, ci y17, cj y18, cs, cj y20, cs] [(.int len_), (.int at_)]) _ _ _
   refine wia X458 hx hby at_429 ?_
   refine .go (fun _ => XS.i2l X458.here hx rfl (hb hby at_430) rfl) ?_
   refine wgo (pc := 431) (pc' := 437) X458 hx hby at_431 (by decide) (by decide) ?_
   refine .go (fun _ => XS.lstore X458.here hx rfl (hb hby at_437) rfl (l' := #[cj q0, cs, ci p1, cj q2, cs, cj q3, cs, ci p4, ci len_, ci at_, cr x10, ci ft_, ci ex_, cr si_, ci 1, cj (((0 : Int32) + (at_ + len_)).toInt64), cs, cj ((at_ + len_).toInt64), cs, cu, cj y20, cs]) rfl) ?_
   refine wil X458 hx hby at_439 rfl ?_
   show Ends _ _ _ _ T458 (mkF m 441 #[cj q0, cs, ci p1, cj q2, cs, cj q3, cs, ci p4, ci len_, ci at_, cr x10, ci ft_, ci ex_, cr si_, ci 1, cj (((0 : Int32) + (at_ + len_)).toInt64), cs, cj ((at_ + len_).toInt64), cs, cu, cj y20, cs] [(.int 1)]) _ _ _
   refine wil X458 hx hby at_441 rfl ?_
   refine wcn X458 hx hby at_443 (teq (hx_.symm : (1 : Int32) = ex_)).2 ?_
   refine .go (fun _ => XS.lload X458.here hx rfl (hb hby at_446) rfl) ?_
   refine .go (fun _ => XS.lload X458.here hx rfl (hb hby at_448) rfl) ?_
   refine .go (fun _ => XS.lcmp X458.here hx rfl (hb hby at_450) rfl) ?_
   show Ends _ _ _ _ T458 (mkF m 451 #[cj q0, cs, ci p1, cj q2, cs, cj q3, cs, ci p4, ci len_, ci at_, cr x10, ci ft_, ci ex_, cr si_, ci 1, cj (((0 : Int32) + (at_ + len_)).toInt64), cs, cj ((at_ + len_).toInt64), cs, cu, cj y20, cs] [(.int (lcmpW (((0 : Int32) + (at_ + len_)).toInt64) ((at_ + len_).toInt64)))]) _ _ _
   refine win X458 hx hby at_451 ((if0 _ _).trans (teq (((lw_eq _ _).mpr own_off) : (lcmpW (((0 : Int32) + (at_ + len_)).toInt64) ((at_ + len_).toInt64)) = (0 : Int32))).2) ?_
   refine wic X458 hx hby at_454 ?_
   refine wgo (pc := 455) (pc' := 459) X458 hx hby at_455 (by decide) (by decide) ?_
   refine Ends.retZ X458 hx Bd.notSynchronized (t := .boolean) Bd.returns (by simp) (hb hby at_459) (by decide) (by decide) ?_
   exact ⟨rfl, N458⟩
  ·have hx_ : ex_ = 0 := own_ex0 hex hP_
   show Ends _ _ _ _ T457 (mkF m 411 #[cj q0, cs, ci p1, cj q2, cs, cj q3, cs, ci p4, ci len_, ci at_, cr x10, ci ft_, ci ex_, cr si_, ci y14, ci y15, ci y16, ci y17, cj y18, cs, cj y20, cs] [(.int 0)]) _ _ _
   refine wst X457 hx hby at_411 (l' := #[cj q0, cs, ci p1, cj q2, cs, cj q3, cs, ci p4, ci len_, ci at_, cr x10, ci ft_, ci ex_, cr si_, ci 0, ci y15, ci y16, ci y17, cj y18, cs, cj y20, cs]) rfl ?_
   show Ends _ _ _ _ T457 (mkF m 413 #[cj q0, cs, ci p1, cj q2, cs, cj q3, cs, ci p4, ci len_, ci at_, cr x10, ci ft_, ci ex_, cr si_, ci 0, ci y15, ci y16, ci y17, cj y18, cs, cj y20, cs] []) _ _ _
   refine wal X457 hx hby at_413 rfl rfl ?_
   obtain ⟨cq459, kq459, q459a, q459b, q459c⟩ := isOf hZ e457 Eq457
   obtain ⟨_, _, ⟨T459, L459, k459, n459⟩, -, X459, ⟨Lc459, hQ459, l459, y459, z459⟩, st459⟩ := X457.virtualBack hx (y := ym8) (z := ym8) hown (mvT hZ (ow hw 134 rfl)) (mvT hZ (ow hw 135 rfl)) (notFace_of_selects (args := #[]) (mvT hZ (ow hw 137 rfl))) (mvT hZ (ow hw 137 rfl)) (mvT hZ (ow hw 136 rfl)) (by decide) (own_backOf (W := 0) (rx29_181 l Z a0 hw [] n0 h457 O457  si_ at_ Fb457 Fp457) hZ (ow hw 138 rfl) (ow hw 8 rfl) (by decide) (by decide)) q459a q459c (g := (mkF m 415 #[cj q0, cs, ci p1, cj q2, cs, cj q3, cs, ci p4, ci len_, ci at_, cr x10, ci ft_, ci ex_, cr si_, ci 0, ci y15, ci y16, ci y17, cj y18, cs, cj y20, cs] [(.ref si_)])) rfl (by rw [hml]; rfl) (Steps.refl _) (argsL := []) (rest := []) (lenOf pdx_2 rfl) rfl (by show 2 * 0 + _ ≤ _; exact Nat.le_of_eq rfl) (hb hby at_415) (fun _ _ => ⟨rfl, e457, (by decide : 8 + 0 ≤ _), (by decide : 64 + 0 ≤ _)⟩)
   dsimp only [Pt.U, Pt.locs, Pt.cells, Pt.slots] at X459 l459 y459 z459 st459 hQ459
   subst l459 y459 z459
   obtain ⟨rfl, N459q, K459c⟩ := hQ459
   have N459 := Fr.app N457 N459q
   refine Ends.go (fun _ k => st459.trans k) ?_
   obtain ⟨h459, e459⟩ : ∃ z, T459.heap = z := ⟨_, rfl⟩
   rw [e459] at K459c
   have K459 := K457.trans K459c all0
   have O459 := O457.keep K459c all0
   refine .go (fun _ => XS.lstore X459.here hx rfl (hb hby at_418) rfl (l' := #[cj q0, cs, ci p1, cj q2, cs, cj q3, cs, ci p4, ci len_, ci at_, cr x10, ci ft_, ci ex_, cr si_, ci 0, cj (((0 : Int32) + at_).toInt64), cs, ci y17, cj y18, cs, cj y20, cs]) rfl) ?_
   refine wil X459 hx hby at_420 rfl ?_
   refine wiy (pc := 422) (pc' := 434) X459 hx hby at_422 ((if0 _ _).trans (teq (hx_ : ex_ = (0 : Int32))).1) (by decide) (by decide) ?_
   show Ends _ _ _ _ T459 (mkF m 434 #[cj q0, cs, ci p1, cj q2, cs, cj q3, cs, ci p4, ci len_, ci at_, cr x10, ci ft_, ci ex_, cr si_, ci 0, cj (((0 : Int32) + at_).toInt64), cs, ci y17, cj y18, cs, cj y20, cs] []) _ _ _
   refine wil X459 hx hby at_434 rfl ?_
   refine .go (fun _ => XS.i2l X459.here hx rfl (hb hby at_436) rfl) ?_
   refine .go (fun _ => XS.lstore X459.here hx rfl (hb hby at_437) rfl (l' := #[cj q0, cs, ci p1, cj q2, cs, cj q3, cs, ci p4, ci len_, ci at_, cr x10, ci ft_, ci ex_, cr si_, ci 0, cj (((0 : Int32) + at_).toInt64), cs, cj (at_.toInt64), cs, cu, cj y20, cs]) rfl) ?_
   refine wil X459 hx hby at_439 rfl ?_
   refine wil X459 hx hby at_441 rfl ?_
   show Ends _ _ _ _ T459 (mkF m 443 #[cj q0, cs, ci p1, cj q2, cs, cj q3, cs, ci p4, ci len_, ci at_, cr x10, ci ft_, ci ex_, cr si_, ci 0, cj (((0 : Int32) + at_).toInt64), cs, cj (at_.toInt64), cs, cu, cj y20, cs] [(.int ex_), (.int 0)]) _ _ _
   refine wcn X459 hx hby at_443 (teq (hx_.symm : (0 : Int32) = ex_)).2 ?_
   refine .go (fun _ => XS.lload X459.here hx rfl (hb hby at_446) rfl) ?_
   refine .go (fun _ => XS.lload X459.here hx rfl (hb hby at_448) rfl) ?_
   refine .go (fun _ => XS.lcmp X459.here hx rfl (hb hby at_450) rfl) ?_
   refine win X459 hx hby at_451 ((if0 _ _).trans (teq (((lw_eq _ _).mpr own_off) : (lcmpW (((0 : Int32) + at_).toInt64) (at_.toInt64)) = (0 : Int32))).2) ?_
   show Ends _ _ _ _ T459 (mkF m 454 #[cj q0, cs, ci p1, cj q2, cs, cj q3, cs, ci p4, ci len_, ci at_, cr x10, ci ft_, ci ex_, cr si_, ci 0, cj (((0 : Int32) + at_).toInt64), cs, cj (at_.toInt64), cs, cu, cj y20, cs] []) _ _ _
   refine wic X459 hx hby at_454 ?_
   refine wgo (pc := 455) (pc' := 459) X459 hx hby at_455 (by decide) (by decide) ?_
   refine Ends.retZ X459 hx Bd.notSynchronized (t := .boolean) Bd.returns (by simp) (hb hby at_459) (by decide) (by decide) ?_
   exact ⟨rfl, N459⟩
 have J338s : ∀ (T4 : State) (h4 : Heap) (lcs : List Loc) (x10 : Addr) (si_ : Addr) (xa_ : Addr) (kxa_ : ClassId) (at_ : Int32) (len_ : Int32) (ex_ : Int32) (ft_ : Int32) (y14 : Int32) (y15 : Int32) (y16 : Int32) (y17 : Int32) (y18 : Int64) (y20 : Int64) (X4 : Stand p l e room_1 s m #[(.long q0), (.int p1), (.long q2), (.long q3), (.int p4)] below meth c T4 lcs 8 64) (eT4 : T4.heap = h4) (O4 : Old Z n0 h4) (N4 : Fr n0 lcs) (K4 : Keep h0 h4 []) (g_si_ : n0 ≤ si_) (sz_si_ : h0.size ≤ si_) (hox : si_ ≠ xa_) (E4 : Exa Z h4 si_ cSI) (Fl : Fld Z h4 si_ cSI "limit" "I" (.int 7)) (Fp : Fld Z h4 si_ cSI "position" "I" (.int 0)) (Fb : Fld Z h4 si_ cSI "base" "I" (.int 0)) (Fc : Fld Z h4 si_ cSI "chars" "[C" (.ref xa_)) (Vx : Arv Z h4 xa_ kxa_ .char (7 : Int32) [(.int c0_), (.int c1_), (.int c2_), (.int c3_), (.int c4_), (.int c5_), (.int c6_)] (.int 0)) (hat : at_ = 0 ∨ at_ = 1 ∨ at_ = 2 ∨ at_ = 3 ∨ at_ = 4 ∨ at_ = 5 ∨ at_ = 6) (hlen : len_ = 4 ∨ len_ = 5) (hex : (ex_ = 1 ∧ own_spec c0_ c1_ c2_ c3_ c4_ c5_ c6_ q0 at_ len_) ∨ (ex_ = 0 ∧ ¬ own_spec c0_ c1_ c2_ c3_ c4_ c5_ c6_ q0 at_ len_)), Ends p e below s T4 (mkF m 338 #[cj q0, cs, ci p1, cj q2, cs, cj q3, cs, ci p4, ci len_, ci at_, cr x10, ci ft_, ci ex_, cr si_, ci y14, ci y15, ci y16, ci y17, cj y18, cs, cj y20, cs] []) room_1.cells room_1.slots (fun v h L => v = some (.int 1) ∧ Fr n0 L) := by
  intro T4 h4 lcs x10 si_ xa_ kxa_ at_ len_ ex_ ft_ y14 y15 y16 y17 y18 y20 X4 eT4 O4 N4 K4 g_si_ sz_si_ hox E4 Fl Fp Fb Fc Vx hat hlen hex
  show Ends _ _ _ _ T4 (mkF m 338 #[cj q0, cs, ci p1, cj q2, cs, cj q3, cs, ci p4, ci len_, ci at_, cr x10, ci ft_, ci ex_, cr si_, ci y14, ci y15, ci y16, ci y17, cj y18, cs, cj y20, cs] []) _ _ _
  refine wil X4 hx hby at_338 rfl ?_
  by_cases hc340_460 : (0 : Int32) < at_
  ·refine win X4 hx hby at_340 ((if0 _ _).trans (tlt hc340_460).2.2.2) ?_
   show Ends _ _ _ _ T4 (mkF m 343 #[cj q0, cs, ci p1, cj q2, cs, cj q3, cs, ci p4, ci len_, ci at_, cr x10, ci ft_, ci ex_, cr si_, ci y14, ci y15, ci y16, ci y17, cj y18, cs, cj y20, cs] []) _ _ _
   refine wal X4 hx hby at_343 rfl rfl ?_
   obtain ⟨cq461, kq461, q461a, q461b, q461c⟩ := isOf hZ eT4 E4
   obtain ⟨_, _, ⟨T461, L461, k461, n461⟩, -, X461, ⟨Lc461, hQ461, l461, y461, z461⟩, st461⟩ := X4.virtualBack hx (y := ym9) (z := ym9) hown (mvT hZ (ow hw 121 rfl)) (mvT hZ (ow hw 122 rfl)) (notFace_of_selects (args := #[]) (mvT hZ (ow hw 124 rfl))) (mvT hZ (ow hw 124 rfl)) (mvT hZ (ow hw 123 rfl)) (by decide) (own_backOf (W := 0) (rx27_186 l Z a0 hw [] n0 h4 O4  si_ xa_ Fp E4 Fl Fb Fc g_si_) hZ (ow hw 125 rfl) (ow hw 8 rfl) (by decide) (by decide)) q461a q461c (g := (mkF m 345 #[cj q0, cs, ci p1, cj q2, cs, cj q3, cs, ci p4, ci len_, ci at_, cr x10, ci ft_, ci ex_, cr si_, ci y14, ci y15, ci y16, ci y17, cj y18, cs, cj y20, cs] [(.ref si_)])) rfl (by rw [hml]; rfl) (Steps.refl _) (argsL := []) (rest := []) (lenOf pdx_3 rfl) rfl (by show 2 * 0 + _ ≤ _; exact Nat.le_of_eq rfl) (hb hby at_345) (fun _ _ => ⟨rfl, eT4, (by decide : 8 + 0 ≤ _), (by decide : 64 + 0 ≤ _)⟩)
   dsimp only [Pt.U, Pt.locs, Pt.cells, Pt.slots] at X461 l461 y461 z461 st461 hQ461
   subst l461 y461 z461
   obtain ⟨rfl, N461q, K461c, Y461_0, Y461_1, Y461_2, Y461_3⟩ := hQ461
   have N461 := Fr.app N4 N461q
   refine Ends.go (fun _ k => st461.trans k) ?_
   obtain ⟨h461, e461⟩ : ∃ z, T461.heap = z := ⟨_, rfl⟩
   rw [e461] at K461c Y461_0 Y461_1 Y461_2 Y461_3
   have K461 := K4.trans K461c (allS (Or.inr sz_si_) all0)
   have O461 := O4.keep K461c (allS g_si_ all0)
   refine wil X461 hx hby at_348 rfl ?_
   refine wic X461 hx hby at_350 ?_
   by_cases hc351_462 : (1 : Int32) < at_
   ·refine wcn X461 hx hby at_351 (tlt hc351_462).2.2.2 ?_
    show Ends _ _ _ _ T461 (mkF m 354 #[cj q0, cs, ci p1, cj q2, cs, cj q3, cs, ci p4, ci len_, ci at_, cr x10, ci ft_, ci ex_, cr si_, ci y14, ci y15, ci y16, ci y17, cj y18, cs, cj y20, cs] []) _ _ _
    refine wal X461 hx hby at_354 rfl rfl ?_
    obtain ⟨cq463, kq463, q463a, q463b, q463c⟩ := isOf hZ e461 (E4.keep K461c)
    obtain ⟨_, _, ⟨T463, L463, k463, n463⟩, -, X463, ⟨Lc463, hQ463, l463, y463, z463⟩, st463⟩ := X461.virtualBack hx (y := ym9) (z := ym9) hown (mvT hZ (ow hw 121 rfl)) (mvT hZ (ow hw 122 rfl)) (notFace_of_selects (args := #[]) (mvT hZ (ow hw 124 rfl))) (mvT hZ (ow hw 124 rfl)) (mvT hZ (ow hw 123 rfl)) (by decide) (own_backOf (W := 0) (rx27_191 l Z a0 hw [] n0 h461 O461  si_ xa_ Y461_0 (E4.keep K461c) Y461_1 Y461_2 Y461_3 g_si_) hZ (ow hw 125 rfl) (ow hw 8 rfl) (by decide) (by decide)) q463a q463c (g := (mkF m 356 #[cj q0, cs, ci p1, cj q2, cs, cj q3, cs, ci p4, ci len_, ci at_, cr x10, ci ft_, ci ex_, cr si_, ci y14, ci y15, ci y16, ci y17, cj y18, cs, cj y20, cs] [(.ref si_)])) rfl (by rw [hml]; rfl) (Steps.refl _) (argsL := []) (rest := []) (lenOf pdx_3 rfl) rfl (by show 2 * 0 + _ ≤ _; exact Nat.le_of_eq rfl) (hb hby at_356) (fun _ _ => ⟨rfl, e461, (by decide : 8 + 0 ≤ _), (by decide : 64 + 0 ≤ _)⟩)
    dsimp only [Pt.U, Pt.locs, Pt.cells, Pt.slots] at X463 l463 y463 z463 st463 hQ463
    subst l463 y463 z463
    obtain ⟨rfl, N463q, K463c, Y463_0, Y463_1, Y463_2, Y463_3⟩ := hQ463
    have N463 := Fr.app N461 N463q
    refine Ends.go (fun _ k => st463.trans k) ?_
    obtain ⟨h463, e463⟩ : ∃ z, T463.heap = z := ⟨_, rfl⟩
    rw [e463] at K463c Y463_0 Y463_1 Y463_2 Y463_3
    have K463 := K461.trans K463c (allS (Or.inr sz_si_) all0)
    have O463 := O461.keep K463c (allS g_si_ all0)
    refine wil X463 hx hby at_359 rfl ?_
    refine wic X463 hx hby at_361 ?_
    by_cases hc362_464 : (2 : Int32) < at_
    ·refine wcn X463 hx hby at_362 (tlt hc362_464).2.2.2 ?_
     show Ends _ _ _ _ T463 (mkF m 365 #[cj q0, cs, ci p1, cj q2, cs, cj q3, cs, ci p4, ci len_, ci at_, cr x10, ci ft_, ci ex_, cr si_, ci y14, ci y15, ci y16, ci y17, cj y18, cs, cj y20, cs] []) _ _ _
     refine wal X463 hx hby at_365 rfl rfl ?_
     obtain ⟨cq465, kq465, q465a, q465b, q465c⟩ := isOf hZ e463 ((E4.keep K461c).keep K463c)
     obtain ⟨_, _, ⟨T465, L465, k465, n465⟩, -, X465, ⟨Lc465, hQ465, l465, y465, z465⟩, st465⟩ := X463.virtualBack hx (y := ym9) (z := ym9) hown (mvT hZ (ow hw 121 rfl)) (mvT hZ (ow hw 122 rfl)) (notFace_of_selects (args := #[]) (mvT hZ (ow hw 124 rfl))) (mvT hZ (ow hw 124 rfl)) (mvT hZ (ow hw 123 rfl)) (by decide) (own_backOf (W := 0) (rx27_196 l Z a0 hw [] n0 h463 O463  si_ xa_ Y463_0 ((E4.keep K461c).keep K463c) Y463_1 Y463_2 Y463_3 g_si_) hZ (ow hw 125 rfl) (ow hw 8 rfl) (by decide) (by decide)) q465a q465c (g := (mkF m 367 #[cj q0, cs, ci p1, cj q2, cs, cj q3, cs, ci p4, ci len_, ci at_, cr x10, ci ft_, ci ex_, cr si_, ci y14, ci y15, ci y16, ci y17, cj y18, cs, cj y20, cs] [(.ref si_)])) rfl (by rw [hml]; rfl) (Steps.refl _) (argsL := []) (rest := []) (lenOf pdx_3 rfl) rfl (by show 2 * 0 + _ ≤ _; exact Nat.le_of_eq rfl) (hb hby at_367) (fun _ _ => ⟨rfl, e463, (by decide : 8 + 0 ≤ _), (by decide : 64 + 0 ≤ _)⟩)
     dsimp only [Pt.U, Pt.locs, Pt.cells, Pt.slots] at X465 l465 y465 z465 st465 hQ465
     subst l465 y465 z465
     obtain ⟨rfl, N465q, K465c, Y465_0, Y465_1, Y465_2, Y465_3⟩ := hQ465
     have N465 := Fr.app N463 N465q
     refine Ends.go (fun _ k => st465.trans k) ?_
     obtain ⟨h465, e465⟩ : ∃ z, T465.heap = z := ⟨_, rfl⟩
     rw [e465] at K465c Y465_0 Y465_1 Y465_2 Y465_3
     have K465 := K463.trans K465c (allS (Or.inr sz_si_) all0)
     have O465 := O463.keep K465c (allS g_si_ all0)
     refine wil X465 hx hby at_370 rfl ?_
     refine wic X465 hx hby at_372 ?_
     by_cases hc373_466 : (3 : Int32) < at_
     ·refine wcn X465 hx hby at_373 (tlt hc373_466).2.2.2 ?_
      show Ends _ _ _ _ T465 (mkF m 376 #[cj q0, cs, ci p1, cj q2, cs, cj q3, cs, ci p4, ci len_, ci at_, cr x10, ci ft_, ci ex_, cr si_, ci y14, ci y15, ci y16, ci y17, cj y18, cs, cj y20, cs] []) _ _ _
      refine wal X465 hx hby at_376 rfl rfl ?_
      obtain ⟨cq467, kq467, q467a, q467b, q467c⟩ := isOf hZ e465 (((E4.keep K461c).keep K463c).keep K465c)
      obtain ⟨_, _, ⟨T467, L467, k467, n467⟩, -, X467, ⟨Lc467, hQ467, l467, y467, z467⟩, st467⟩ := X465.virtualBack hx (y := ym9) (z := ym9) hown (mvT hZ (ow hw 121 rfl)) (mvT hZ (ow hw 122 rfl)) (notFace_of_selects (args := #[]) (mvT hZ (ow hw 124 rfl))) (mvT hZ (ow hw 124 rfl)) (mvT hZ (ow hw 123 rfl)) (by decide) (own_backOf (W := 0) (rx27_201 l Z a0 hw [] n0 h465 O465  si_ xa_ Y465_0 (((E4.keep K461c).keep K463c).keep K465c) Y465_1 Y465_2 Y465_3 g_si_) hZ (ow hw 125 rfl) (ow hw 8 rfl) (by decide) (by decide)) q467a q467c (g := (mkF m 378 #[cj q0, cs, ci p1, cj q2, cs, cj q3, cs, ci p4, ci len_, ci at_, cr x10, ci ft_, ci ex_, cr si_, ci y14, ci y15, ci y16, ci y17, cj y18, cs, cj y20, cs] [(.ref si_)])) rfl (by rw [hml]; rfl) (Steps.refl _) (argsL := []) (rest := []) (lenOf pdx_3 rfl) rfl (by show 2 * 0 + _ ≤ _; exact Nat.le_of_eq rfl) (hb hby at_378) (fun _ _ => ⟨rfl, e465, (by decide : 8 + 0 ≤ _), (by decide : 64 + 0 ≤ _)⟩)
      dsimp only [Pt.U, Pt.locs, Pt.cells, Pt.slots] at X467 l467 y467 z467 st467 hQ467
      subst l467 y467 z467
      obtain ⟨rfl, N467q, K467c, Y467_0, Y467_1, Y467_2, Y467_3⟩ := hQ467
      have N467 := Fr.app N465 N467q
      refine Ends.go (fun _ k => st467.trans k) ?_
      obtain ⟨h467, e467⟩ : ∃ z, T467.heap = z := ⟨_, rfl⟩
      rw [e467] at K467c Y467_0 Y467_1 Y467_2 Y467_3
      have K467 := K465.trans K467c (allS (Or.inr sz_si_) all0)
      have O467 := O465.keep K467c (allS g_si_ all0)
      refine wil X467 hx hby at_381 rfl ?_
      refine wic X467 hx hby at_383 ?_
      by_cases hc384_468 : (4 : Int32) < at_
      ·refine wcn X467 hx hby at_384 (tlt hc384_468).2.2.2 ?_
       show Ends _ _ _ _ T467 (mkF m 387 #[cj q0, cs, ci p1, cj q2, cs, cj q3, cs, ci p4, ci len_, ci at_, cr x10, ci ft_, ci ex_, cr si_, ci y14, ci y15, ci y16, ci y17, cj y18, cs, cj y20, cs] []) _ _ _
       refine wal X467 hx hby at_387 rfl rfl ?_
       obtain ⟨cq469, kq469, q469a, q469b, q469c⟩ := isOf hZ e467 ((((E4.keep K461c).keep K463c).keep K465c).keep K467c)
       obtain ⟨_, _, ⟨T469, L469, k469, n469⟩, -, X469, ⟨Lc469, hQ469, l469, y469, z469⟩, st469⟩ := X467.virtualBack hx (y := ym9) (z := ym9) hown (mvT hZ (ow hw 121 rfl)) (mvT hZ (ow hw 122 rfl)) (notFace_of_selects (args := #[]) (mvT hZ (ow hw 124 rfl))) (mvT hZ (ow hw 124 rfl)) (mvT hZ (ow hw 123 rfl)) (by decide) (own_backOf (W := 0) (rx27_206 l Z a0 hw [] n0 h467 O467  si_ xa_ Y467_0 ((((E4.keep K461c).keep K463c).keep K465c).keep K467c) Y467_1 Y467_2 Y467_3 g_si_) hZ (ow hw 125 rfl) (ow hw 8 rfl) (by decide) (by decide)) q469a q469c (g := (mkF m 389 #[cj q0, cs, ci p1, cj q2, cs, cj q3, cs, ci p4, ci len_, ci at_, cr x10, ci ft_, ci ex_, cr si_, ci y14, ci y15, ci y16, ci y17, cj y18, cs, cj y20, cs] [(.ref si_)])) rfl (by rw [hml]; rfl) (Steps.refl _) (argsL := []) (rest := []) (lenOf pdx_3 rfl) rfl (by show 2 * 0 + _ ≤ _; exact Nat.le_of_eq rfl) (hb hby at_389) (fun _ _ => ⟨rfl, e467, (by decide : 8 + 0 ≤ _), (by decide : 64 + 0 ≤ _)⟩)
       dsimp only [Pt.U, Pt.locs, Pt.cells, Pt.slots] at X469 l469 y469 z469 st469 hQ469
       subst l469 y469 z469
       obtain ⟨rfl, N469q, K469c, Y469_0, Y469_1, Y469_2, Y469_3⟩ := hQ469
       have N469 := Fr.app N467 N469q
       refine Ends.go (fun _ k => st469.trans k) ?_
       obtain ⟨h469, e469⟩ : ∃ z, T469.heap = z := ⟨_, rfl⟩
       rw [e469] at K469c Y469_0 Y469_1 Y469_2 Y469_3
       have K469 := K467.trans K469c (allS (Or.inr sz_si_) all0)
       have O469 := O467.keep K469c (allS g_si_ all0)
       refine wil X469 hx hby at_392 rfl ?_
       refine wic X469 hx hby at_394 ?_
       by_cases hc395_470 : (5 : Int32) < at_
       ·refine wcn X469 hx hby at_395 (tlt hc395_470).2.2.2 ?_
        show Ends _ _ _ _ T469 (mkF m 398 #[cj q0, cs, ci p1, cj q2, cs, cj q3, cs, ci p4, ci len_, ci at_, cr x10, ci ft_, ci ex_, cr si_, ci y14, ci y15, ci y16, ci y17, cj y18, cs, cj y20, cs] []) _ _ _
        obtain rfl : at_ = 6 := by
         revert hc340_460 hc351_462 hc362_464 hc373_466 hc384_468 hc395_470
         rcases hat with rfl | rfl | rfl | rfl | rfl | rfl | rfl <;> decide
        show Ends _ _ _ _ T469 (mkF m 398 #[cj q0, cs, ci p1, cj q2, cs, cj q3, cs, ci p4, ci len_, ci 6, cr x10, ci ft_, ci ex_, cr si_, ci y14, ci y15, ci y16, ci y17, cj y18, cs, cj y20, cs] []) _ _ _
        refine wal X469 hx hby at_398 rfl rfl ?_
        obtain ⟨cq471, kq471, q471a, q471b, q471c⟩ := isOf hZ e469 (((((E4.keep K461c).keep K463c).keep K465c).keep K467c).keep K469c)
        obtain ⟨_, _, ⟨T471, L471, k471, n471⟩, -, X471, ⟨Lc471, hQ471, l471, y471, z471⟩, st471⟩ := X469.virtualBack hx (y := ym9) (z := ym9) hown (mvT hZ (ow hw 121 rfl)) (mvT hZ (ow hw 122 rfl)) (notFace_of_selects (args := #[]) (mvT hZ (ow hw 124 rfl))) (mvT hZ (ow hw 124 rfl)) (mvT hZ (ow hw 123 rfl)) (by decide) (own_backOf (W := 0) (rx27_211 l Z a0 hw [] n0 h469 O469  si_ xa_ Y469_0 (((((E4.keep K461c).keep K463c).keep K465c).keep K467c).keep K469c) Y469_1 Y469_2 Y469_3 g_si_) hZ (ow hw 125 rfl) (ow hw 8 rfl) (by decide) (by decide)) q471a q471c (g := (mkF m 400 #[cj q0, cs, ci p1, cj q2, cs, cj q3, cs, ci p4, ci len_, ci 6, cr x10, ci ft_, ci ex_, cr si_, ci y14, ci y15, ci y16, ci y17, cj y18, cs, cj y20, cs] [(.ref si_)])) rfl (by rw [hml]; rfl) (Steps.refl _) (argsL := []) (rest := []) (lenOf pdx_3 rfl) rfl (by show 2 * 0 + _ ≤ _; exact Nat.le_of_eq rfl) (hb hby at_400) (fun _ _ => ⟨rfl, e469, (by decide : 8 + 0 ≤ _), (by decide : 64 + 0 ≤ _)⟩)
        dsimp only [Pt.U, Pt.locs, Pt.cells, Pt.slots] at X471 l471 y471 z471 st471 hQ471
        subst l471 y471 z471
        obtain ⟨rfl, N471q, K471c, Y471_0, Y471_1, Y471_2, Y471_3⟩ := hQ471
        have N471 := Fr.app N469 N471q
        refine Ends.go (fun _ k => st471.trans k) ?_
        obtain ⟨h471, e471⟩ : ∃ z, T471.heap = z := ⟨_, rfl⟩
        rw [e471] at K471c Y471_0 Y471_1 Y471_2 Y471_3
        have K471 := K469.trans K471c (allS (Or.inr sz_si_) all0)
        have O471 := O469.keep K471c (allS g_si_ all0)
        exact J403s _ _ _ x10 si_ xa_ kxa_ (6 : Int32) len_ ex_ ft_ y14 y15 y16 y17 y18 y20 X471 e471 O471 N471 K471 g_si_ sz_si_ hox ((((((E4.keep K461c).keep K463c).keep K465c).keep K467c).keep K469c).keep K471c) Y471_1 Y471_0 Y471_2 Y471_3 ((((((Vx.keep K461c (ninS (Ne.symm hox) nin0)).keep K463c (ninS (Ne.symm hox) nin0)).keep K465c (ninS (Ne.symm hox) nin0)).keep K467c (ninS (Ne.symm hox) nin0)).keep K469c (ninS (Ne.symm hox) nin0)).keep K471c (ninS (Ne.symm hox) nin0)) (by decide) hlen hex
       ·refine wcy (pc := 395) (pc' := 403) X469 hx hby at_395 (flt hc395_470).2.2.2 (by decide) (by decide) ?_
        obtain rfl : at_ = 5 := by
         revert hc340_460 hc351_462 hc362_464 hc373_466 hc384_468 hc395_470
         rcases hat with rfl | rfl | rfl | rfl | rfl | rfl | rfl <;> decide
        show Ends _ _ _ _ T469 (mkF m 403 #[cj q0, cs, ci p1, cj q2, cs, cj q3, cs, ci p4, ci len_, ci 5, cr x10, ci ft_, ci ex_, cr si_, ci y14, ci y15, ci y16, ci y17, cj y18, cs, cj y20, cs] []) _ _ _
        exact J403s _ _ _ x10 si_ xa_ kxa_ (5 : Int32) len_ ex_ ft_ y14 y15 y16 y17 y18 y20 X469 e469 O469 N469 K469 g_si_ sz_si_ hox (((((E4.keep K461c).keep K463c).keep K465c).keep K467c).keep K469c) Y469_1 Y469_0 Y469_2 Y469_3 (((((Vx.keep K461c (ninS (Ne.symm hox) nin0)).keep K463c (ninS (Ne.symm hox) nin0)).keep K465c (ninS (Ne.symm hox) nin0)).keep K467c (ninS (Ne.symm hox) nin0)).keep K469c (ninS (Ne.symm hox) nin0)) (by decide) hlen hex
      ·refine wcy (pc := 384) (pc' := 392) X467 hx hby at_384 (flt hc384_468).2.2.2 (by decide) (by decide) ?_
       obtain rfl : at_ = 4 := by
        revert hc340_460 hc351_462 hc362_464 hc373_466 hc384_468
        rcases hat with rfl | rfl | rfl | rfl | rfl | rfl | rfl <;> decide
       show Ends _ _ _ _ T467 (mkF m 392 #[cj q0, cs, ci p1, cj q2, cs, cj q3, cs, ci p4, ci len_, ci 4, cr x10, ci ft_, ci ex_, cr si_, ci y14, ci y15, ci y16, ci y17, cj y18, cs, cj y20, cs] []) _ _ _
       refine wil X467 hx hby at_392 rfl ?_
       refine wic X467 hx hby at_394 ?_
       refine wcy (pc := 395) (pc' := 403) X467 hx hby at_395 (flt (by decide : ¬ ((5 : Int32) < (4 : Int32)))).2.2.2 (by decide) (by decide) ?_
       show Ends _ _ _ _ T467 (mkF m 403 #[cj q0, cs, ci p1, cj q2, cs, cj q3, cs, ci p4, ci len_, ci 4, cr x10, ci ft_, ci ex_, cr si_, ci y14, ci y15, ci y16, ci y17, cj y18, cs, cj y20, cs] []) _ _ _
       exact J403s _ _ _ x10 si_ xa_ kxa_ (4 : Int32) len_ ex_ ft_ y14 y15 y16 y17 y18 y20 X467 e467 O467 N467 K467 g_si_ sz_si_ hox ((((E4.keep K461c).keep K463c).keep K465c).keep K467c) Y467_1 Y467_0 Y467_2 Y467_3 ((((Vx.keep K461c (ninS (Ne.symm hox) nin0)).keep K463c (ninS (Ne.symm hox) nin0)).keep K465c (ninS (Ne.symm hox) nin0)).keep K467c (ninS (Ne.symm hox) nin0)) (by decide) hlen hex
     ·refine wcy (pc := 373) (pc' := 381) X465 hx hby at_373 (flt hc373_466).2.2.2 (by decide) (by decide) ?_
      obtain rfl : at_ = 3 := by
       revert hc340_460 hc351_462 hc362_464 hc373_466
       rcases hat with rfl | rfl | rfl | rfl | rfl | rfl | rfl <;> decide
      show Ends _ _ _ _ T465 (mkF m 381 #[cj q0, cs, ci p1, cj q2, cs, cj q3, cs, ci p4, ci len_, ci 3, cr x10, ci ft_, ci ex_, cr si_, ci y14, ci y15, ci y16, ci y17, cj y18, cs, cj y20, cs] []) _ _ _
      refine wil X465 hx hby at_381 rfl ?_
      refine wic X465 hx hby at_383 ?_
      refine wcy (pc := 384) (pc' := 392) X465 hx hby at_384 (flt (by decide : ¬ ((4 : Int32) < (3 : Int32)))).2.2.2 (by decide) (by decide) ?_
      show Ends _ _ _ _ T465 (mkF m 392 #[cj q0, cs, ci p1, cj q2, cs, cj q3, cs, ci p4, ci len_, ci 3, cr x10, ci ft_, ci ex_, cr si_, ci y14, ci y15, ci y16, ci y17, cj y18, cs, cj y20, cs] []) _ _ _
      refine wil X465 hx hby at_392 rfl ?_
      refine wic X465 hx hby at_394 ?_
      refine wcy (pc := 395) (pc' := 403) X465 hx hby at_395 (flt (by decide : ¬ ((5 : Int32) < (3 : Int32)))).2.2.2 (by decide) (by decide) ?_
      exact J403s _ _ _ x10 si_ xa_ kxa_ (3 : Int32) len_ ex_ ft_ y14 y15 y16 y17 y18 y20 X465 e465 O465 N465 K465 g_si_ sz_si_ hox (((E4.keep K461c).keep K463c).keep K465c) Y465_1 Y465_0 Y465_2 Y465_3 (((Vx.keep K461c (ninS (Ne.symm hox) nin0)).keep K463c (ninS (Ne.symm hox) nin0)).keep K465c (ninS (Ne.symm hox) nin0)) (by decide) hlen hex
    ·refine wcy (pc := 362) (pc' := 370) X463 hx hby at_362 (flt hc362_464).2.2.2 (by decide) (by decide) ?_
     obtain rfl : at_ = 2 := by
      revert hc340_460 hc351_462 hc362_464
      rcases hat with rfl | rfl | rfl | rfl | rfl | rfl | rfl <;> decide
     show Ends _ _ _ _ T463 (mkF m 370 #[cj q0, cs, ci p1, cj q2, cs, cj q3, cs, ci p4, ci len_, ci 2, cr x10, ci ft_, ci ex_, cr si_, ci y14, ci y15, ci y16, ci y17, cj y18, cs, cj y20, cs] []) _ _ _
     refine wil X463 hx hby at_370 rfl ?_
     refine wic X463 hx hby at_372 ?_
     refine wcy (pc := 373) (pc' := 381) X463 hx hby at_373 (flt (by decide : ¬ ((3 : Int32) < (2 : Int32)))).2.2.2 (by decide) (by decide) ?_
     refine wil X463 hx hby at_381 rfl ?_
     refine wic X463 hx hby at_383 ?_
     show Ends _ _ _ _ T463 (mkF m 384 #[cj q0, cs, ci p1, cj q2, cs, cj q3, cs, ci p4, ci len_, ci 2, cr x10, ci ft_, ci ex_, cr si_, ci y14, ci y15, ci y16, ci y17, cj y18, cs, cj y20, cs] [(.int 4), (.int 2)]) _ _ _
     refine wcy (pc := 384) (pc' := 392) X463 hx hby at_384 (flt (by decide : ¬ ((4 : Int32) < (2 : Int32)))).2.2.2 (by decide) (by decide) ?_
     refine wil X463 hx hby at_392 rfl ?_
     refine wic X463 hx hby at_394 ?_
     refine wcy (pc := 395) (pc' := 403) X463 hx hby at_395 (flt (by decide : ¬ ((5 : Int32) < (2 : Int32)))).2.2.2 (by decide) (by decide) ?_
     exact J403s _ _ _ x10 si_ xa_ kxa_ (2 : Int32) len_ ex_ ft_ y14 y15 y16 y17 y18 y20 X463 e463 O463 N463 K463 g_si_ sz_si_ hox ((E4.keep K461c).keep K463c) Y463_1 Y463_0 Y463_2 Y463_3 ((Vx.keep K461c (ninS (Ne.symm hox) nin0)).keep K463c (ninS (Ne.symm hox) nin0)) (by decide) hlen hex
   ·refine wcy (pc := 351) (pc' := 359) X461 hx hby at_351 (flt hc351_462).2.2.2 (by decide) (by decide) ?_
    show Ends _ _ _ _ T461 (mkF m 359 #[cj q0, cs, ci p1, cj q2, cs, cj q3, cs, ci p4, ci len_, ci at_, cr x10, ci ft_, ci ex_, cr si_, ci y14, ci y15, ci y16, ci y17, cj y18, cs, cj y20, cs] []) _ _ _
    obtain rfl : at_ = 1 := by
     revert hc340_460 hc351_462
     rcases hat with rfl | rfl | rfl | rfl | rfl | rfl | rfl <;> decide
    show Ends _ _ _ _ T461 (mkF m 359 #[cj q0, cs, ci p1, cj q2, cs, cj q3, cs, ci p4, ci len_, ci 1, cr x10, ci ft_, ci ex_, cr si_, ci y14, ci y15, ci y16, ci y17, cj y18, cs, cj y20, cs] []) _ _ _
    refine wil X461 hx hby at_359 rfl ?_
    refine wic X461 hx hby at_361 ?_
    refine wcy (pc := 362) (pc' := 370) X461 hx hby at_362 (flt (by decide : ¬ ((2 : Int32) < (1 : Int32)))).2.2.2 (by decide) (by decide) ?_
    refine wil X461 hx hby at_370 rfl ?_
    show Ends _ _ _ _ T461 (mkF m 372 #[cj q0, cs, ci p1, cj q2, cs, cj q3, cs, ci p4, ci len_, ci 1, cr x10, ci ft_, ci ex_, cr si_, ci y14, ci y15, ci y16, ci y17, cj y18, cs, cj y20, cs] [(.int 1)]) _ _ _
    refine wic X461 hx hby at_372 ?_
    refine wcy (pc := 373) (pc' := 381) X461 hx hby at_373 (flt (by decide : ¬ ((3 : Int32) < (1 : Int32)))).2.2.2 (by decide) (by decide) ?_
    refine wil X461 hx hby at_381 rfl ?_
    refine wic X461 hx hby at_383 ?_
    refine wcy (pc := 384) (pc' := 392) X461 hx hby at_384 (flt (by decide : ¬ ((4 : Int32) < (1 : Int32)))).2.2.2 (by decide) (by decide) ?_
    show Ends _ _ _ _ T461 (mkF m 392 #[cj q0, cs, ci p1, cj q2, cs, cj q3, cs, ci p4, ci len_, ci 1, cr x10, ci ft_, ci ex_, cr si_, ci y14, ci y15, ci y16, ci y17, cj y18, cs, cj y20, cs] []) _ _ _
    refine wil X461 hx hby at_392 rfl ?_
    refine wic X461 hx hby at_394 ?_
    refine wcy (pc := 395) (pc' := 403) X461 hx hby at_395 (flt (by decide : ¬ ((5 : Int32) < (1 : Int32)))).2.2.2 (by decide) (by decide) ?_
    exact J403s _ _ _ x10 si_ xa_ kxa_ (1 : Int32) len_ ex_ ft_ y14 y15 y16 y17 y18 y20 X461 e461 O461 N461 K461 g_si_ sz_si_ hox (E4.keep K461c) Y461_1 Y461_0 Y461_2 Y461_3 (Vx.keep K461c (ninS (Ne.symm hox) nin0)) (by decide) hlen hex
  ·refine wiy (pc := 340) (pc' := 348) X4 hx hby at_340 ((if0 _ _).trans (flt hc340_460).2.2.2) (by decide) (by decide) ?_
   obtain rfl : at_ = 0 := by
    revert hc340_460
    rcases hat with rfl | rfl | rfl | rfl | rfl | rfl | rfl <;> decide
   show Ends _ _ _ _ T4 (mkF m 348 #[cj q0, cs, ci p1, cj q2, cs, cj q3, cs, ci p4, ci len_, ci 0, cr x10, ci ft_, ci ex_, cr si_, ci y14, ci y15, ci y16, ci y17, cj y18, cs, cj y20, cs] []) _ _ _
   refine wil X4 hx hby at_348 rfl ?_
   refine wic X4 hx hby at_350 ?_
   refine wcy (pc := 351) (pc' := 359) X4 hx hby at_351 (flt (by decide : ¬ ((1 : Int32) < (0 : Int32)))).2.2.2 (by decide) (by decide) ?_
   refine wil X4 hx hby at_359 rfl ?_
   refine wic X4 hx hby at_361 ?_
   show Ends _ _ _ _ T4 (mkF m 362 #[cj q0, cs, ci p1, cj q2, cs, cj q3, cs, ci p4, ci len_, ci 0, cr x10, ci ft_, ci ex_, cr si_, ci y14, ci y15, ci y16, ci y17, cj y18, cs, cj y20, cs] [(.int 2), (.int 0)]) _ _ _
   refine wcy (pc := 362) (pc' := 370) X4 hx hby at_362 (flt (by decide : ¬ ((2 : Int32) < (0 : Int32)))).2.2.2 (by decide) (by decide) ?_
   refine wil X4 hx hby at_370 rfl ?_
   refine wic X4 hx hby at_372 ?_
   refine wcy (pc := 373) (pc' := 381) X4 hx hby at_373 (flt (by decide : ¬ ((3 : Int32) < (0 : Int32)))).2.2.2 (by decide) (by decide) ?_
   refine wil X4 hx hby at_381 rfl ?_
   show Ends _ _ _ _ T4 (mkF m 383 #[cj q0, cs, ci p1, cj q2, cs, cj q3, cs, ci p4, ci len_, ci 0, cr x10, ci ft_, ci ex_, cr si_, ci y14, ci y15, ci y16, ci y17, cj y18, cs, cj y20, cs] [(.int 0)]) _ _ _
   refine wic X4 hx hby at_383 ?_
   refine wcy (pc := 384) (pc' := 392) X4 hx hby at_384 (flt (by decide : ¬ ((4 : Int32) < (0 : Int32)))).2.2.2 (by decide) (by decide) ?_
   refine wil X4 hx hby at_392 rfl ?_
   refine wic X4 hx hby at_394 ?_
   refine wcy (pc := 395) (pc' := 403) X4 hx hby at_395 (flt (by decide : ¬ ((5 : Int32) < (0 : Int32)))).2.2.2 (by decide) (by decide) ?_
   show Ends _ _ _ _ T4 (mkF m 403 #[cj q0, cs, ci p1, cj q2, cs, cj q3, cs, ci p4, ci len_, ci 0, cr x10, ci ft_, ci ex_, cr si_, ci y14, ci y15, ci y16, ci y17, cj y18, cs, cj y20, cs] []) _ _ _
   exact J403s _ _ _ x10 si_ xa_ kxa_ (0 : Int32) len_ ex_ ft_ y14 y15 y16 y17 y18 y20 X4 eT4 O4 N4 K4 g_si_ sz_si_ hox E4 Fl Fp Fb Fc Vx (by decide) hlen hex
 have J320s : ∀ (T3 : State) (h3 : Heap) (lcs : List Loc) (x10 : Addr) (kx10 : ClassId) (at_ : Int32) (len_ : Int32) (ex_ : Int32) (ft_ : Int32) (y13 : Int32) (y14 : Int32) (y15 : Int32) (y16 : Int32) (y17 : Int32) (y18 : Int64) (y20 : Int64) (X3 : Stand p l e room_1 s m #[(.long q0), (.int p1), (.long q2), (.long q3), (.int p4)] below meth c T3 lcs 1 7) (eT3 : T3.heap = h3) (O3 : Old Z n0 h3) (N3 : Fr n0 lcs) (K3 : Keep h0 h3 []) (V3 : Arv Z h3 x10 kx10 .char (7 : Int32) [(.int c0_), (.int c1_), (.int c2_), (.int c3_), (.int c4_), (.int c5_), (.int c6_)] (.int 0)) (hat : at_ = 0 ∨ at_ = 1 ∨ at_ = 2 ∨ at_ = 3 ∨ at_ = 4 ∨ at_ = 5 ∨ at_ = 6) (hlen : len_ = 4 ∨ len_ = 5) (hex : (ex_ = 1 ∧ own_spec c0_ c1_ c2_ c3_ c4_ c5_ c6_ q0 at_ len_) ∨ (ex_ = 0 ∧ ¬ own_spec c0_ c1_ c2_ c3_ c4_ c5_ c6_ q0 at_ len_)), Ends p e below s T3 (mkF m 320 #[cj q0, cs, ci p1, cj q2, cs, cj q3, cs, ci p4, ci len_, ci at_, cr x10, ci ft_, ci ex_, ci y13, ci y14, ci y15, ci y16, ci y17, cj y18, cs, cj y20, cs] []) room_1.cells room_1.slots (fun v h L => v = some (.int 1) ∧ Fr n0 L) := by
  intro T3 h3 lcs x10 kx10 at_ len_ ex_ ft_ y13 y14 y15 y16 y17 y18 y20 X3 eT3 O3 N3 K3 V3 hat hlen hex
  show Ends _ _ _ _ T3 (mkF m 320 #[cj q0, cs, ci p1, cj q2, cs, cj q3, cs, ci p4, ci len_, ci at_, cr x10, ci ft_, ci ex_, ci y13, ci y14, ci y15, ci y16, ci y17, cj y18, cs, cj y20, cs] []) _ _ _
  obtain ⟨T472, h472, X472, e472, E472, A472, D472, -, st472⟩ := newO X3 hx hZ hown (ow hw 6 rfl) (ow hw 7 rfl) (ow hw 8 rfl) eT3 (g := (mkF m 320 #[cj q0, cs, ci p1, cj q2, cs, cj q3, cs, ci p4, ci len_, ci at_, cr x10, ci ft_, ci ex_, ci y13, ci y14, ci y15, ci y16, ci y17, cj y18, cs, cj y20, cs] [])) rfl (hb hby at_320) (by decide) (by decide)
  obtain ⟨b472, g472⟩ : ∃ z, z = h3.size := ⟨_, rfl⟩
  rw [← g472] at A472 D472 st472
  refine Ends.go st472 ?_
  have g_b472 : n0 ≤ b472 := Nat.le_trans (own_old_le O3) (Nat.le_of_eq g472.symm)
  have sz_b472 : h0.size ≤ b472 := Nat.le_trans K3.1 (Nat.le_of_eq g472.symm)
  have K472 := K3.ext E472
  have O472 := O3.ext E472
  have F_text_b472 : Fld Z h472 b472 cSI "text" "Ljava/lang/String;" .null := D472 (Or.inr (ow hw 67 rfl)) (ty := (.object "java/lang/String")) (by decide)
  have F_chars_b472 : Fld Z h472 b472 cSI "chars" "[C" .null := D472 (Or.inr (ow hw 83 rfl)) (ty := (.array .char)) (by decide)
  have F_limit_b472 : Fld Z h472 b472 cSI "limit" "I" (.int 0) := D472 (Or.inl (ow hw 85 rfl)) (ty := .int) (by decide)
  have F_position_b472 : Fld Z h472 b472 cSI "position" "I" (.int 0) := D472 (Or.inl (ow hw 127 rfl)) (ty := .int) (by decide)
  have F_base_b472 : Fld Z h472 b472 cSI "base" "I" (.int 0) := D472 (Or.inl (ow hw 140 rfl)) (ty := .int) (by decide)
  refine wdu X472 hx hby at_323 rfl ?_
  obtain ⟨T473, h473, X473, e473, E473, A473, D473, -, st473⟩ := newO X472 hx hZ hown (ow hw 9 rfl) (ow hw 10 rfl) (ow hw 11 rfl) e472 (g := (mkF m 324 #[cj q0, cs, ci p1, cj q2, cs, cj q3, cs, ci p4, ci len_, ci at_, cr x10, ci ft_, ci ex_, ci y13, ci y14, ci y15, ci y16, ci y17, cj y18, cs, cj y20, cs] [(.ref b472), (.ref b472)])) rfl (hb hby at_324) (by decide) (by decide)
  obtain ⟨b473, g473⟩ : ∃ z, z = h472.size := ⟨_, rfl⟩
  rw [← g473] at A473 D473 st473
  refine Ends.go st473 ?_
  have g_b473 : n0 ≤ b473 := Nat.le_trans (own_old_le O472) (Nat.le_of_eq g473.symm)
  have sz_b473 : h0.size ≤ b473 := Nat.le_trans K472.1 (Nat.le_of_eq g473.symm)
  have K473 := K472.ext E473
  have O473 := O472.ext E473
  have F_coder_b473 : Fld Z h473 b473 "java/lang/String" "coder" "B" (.int 0) := D473 (Or.inr (ow hw 54 rfl)) (ty := .byte) (by decide)
  have F_value_b473 : Fld Z h473 b473 "java/lang/String" "value" "[B" .null := D473 (Or.inr (ow hw 56 rfl)) (ty := (.array .byte)) (by decide)
  refine wdu X473 hx hby at_327 rfl ?_
  show Ends _ _ _ _ T473 (mkF m 328 #[cj q0, cs, ci p1, cj q2, cs, cj q3, cs, ci p4, ci len_, ci at_, cr x10, ci ft_, ci ex_, ci y13, ci y14, ci y15, ci y16, ci y17, cj y18, cs, cj y20, cs] [(.ref b473), (.ref b473), (.ref b472), (.ref b472)]) _ _ _
  refine wal X473 hx hby at_328 rfl rfl ?_
  rcases Classical.em (own_lat c0_ c1_ c2_ c3_ c4_ c5_ c6_) with hlat_ | hbig_
  ·obtain ⟨hk0_, hk1_, hk2_, hk3_, hk4_, hk5_, hk6_⟩ := id hlat_
   obtain ⟨_, _, ⟨T474, L474, k474, n474⟩, -, X474, ⟨Lc474, hQ474, l474, y474, z474⟩, st474⟩ := X473.specialBack hx (y := ym13) rfl hown (mvT hZ (ow hw 12 rfl)) (mvT hZ (ow hw 13 rfl)) (mvT hZ (ow hw 14 rfl)) (by decide) (own_backOf (W := 3) (rx2_217 l Z a0 hw [] n0 h473 O473 G1 G3 GF b473 x10 kx10 c0_ c1_ c2_ c3_ c4_ c5_ c6_ ((V3.ext E472).ext E473) A473 F_coder_b473 F_value_b473 g_b473 hk0_ hk1_ hk2_ hk3_ hk4_ hk5_ hk6_) hZ (ow hw 14 rfl) (ow hw 11 rfl) (by decide) (by decide)) (g := (mkF m 330 #[cj q0, cs, ci p1, cj q2, cs, cj q3, cs, ci p4, ci len_, ci at_, cr x10, ci ft_, ci ex_, ci y13, ci y14, ci y15, ci y16, ci y17, cj y18, cs, cj y20, cs] [(.ref x10), (.ref b473), (.ref b473), (.ref b472), (.ref b472)])) rfl (by rw [hml]; rfl) (Steps.refl _) (a := b473) (argsL := [(.ref x10)]) (rest := [(.ref b473), (.ref b472), (.ref b472)]) (lenOf pdx_8 rfl) rfl (by show 2 * 0 + _ ≤ _; exact Nat.le_of_eq rfl) (hb hby at_330) (fun _ _ => ⟨rfl, e473, (by decide : 3 + 1 ≤ _), (by decide : 23 + 7 ≤ _)⟩)
   dsimp only [Pt.U, Pt.locs, Pt.cells, Pt.slots] at X474 l474 y474 z474 st474 hQ474
   subst l474 y474 z474
   obtain ⟨b475, k476, rfl, N474q, K474c, hb474_b475, Y474_0, Y474_1, Y474_2⟩ := hQ474
   have N474 := Fr.app N3 N474q
   refine Ends.go (fun _ k => st474.trans k) ?_
   have g_b475 : n0 ≤ b475 := Nat.le_trans (own_old_le O473) hb474_b475
   have sz_b475 : h0.size ≤ b475 := Nat.le_trans K473.1 hb474_b475
   obtain ⟨h474, e474⟩ : ∃ z, T474.heap = z := ⟨_, rfl⟩
   rw [e474] at K474c Y474_0 Y474_1 Y474_2
   have K474 := K473.trans K474c (allS (Or.inr sz_b473) all0)
   have O474 := O473.keep K474c (allS g_b473 all0)
   have ne_b472_b473 : b472 ≠ b473 := Nat.ne_of_lt (Nat.lt_of_lt_of_le A472.lt (Nat.le_of_eq g473.symm))
   have ne_b472_b475 : b472 ≠ b475 := Nat.ne_of_lt (Nat.lt_of_lt_of_le (A472.ext E473).lt hb474_b475)
   obtain ⟨_, _, ⟨T477, L477, k477, n477⟩, -, X477, ⟨Lc477, hQ477, l477, y477, z477⟩, st477⟩ := X474.specialBack hx (y := ym22) rfl hown (mvT hZ (ow hw 57 rfl)) (mvT hZ (ow hw 58 rfl)) (mvT hZ (ow hw 59 rfl)) (by decide) (own_backOf (W := 1) (rx13_254 l Z a0 hw [] n0 h474 O474 G1 G3 GF b472 b473 b475 k476 c0_ c1_ c2_ c3_ c4_ c5_ c6_ ((A472.ext E473).keep K474c) ((F_text_b472.ext E473).keep K474c (ninS ne_b472_b473 nin0)) Y474_2 Y474_0 Y474_1 (A473.keep K474c) ((F_chars_b472.ext E473).keep K474c (ninS ne_b472_b473 nin0)) ((F_limit_b472.ext E473).keep K474c (ninS ne_b472_b473 nin0)) ((F_position_b472.ext E473).keep K474c (ninS ne_b472_b473 nin0)) ((F_base_b472.ext E473).keep K474c (ninS ne_b472_b473 nin0)) (Ne.symm ne_b472_b473) (Ne.symm ne_b472_b475) g_b472) hZ (ow hw 59 rfl) (ow hw 8 rfl) (by decide) (by decide)) (g := (mkF m 333 #[cj q0, cs, ci p1, cj q2, cs, cj q3, cs, ci p4, ci len_, ci at_, cr x10, ci ft_, ci ex_, ci y13, ci y14, ci y15, ci y16, ci y17, cj y18, cs, cj y20, cs] [(.ref b473), (.ref b472), (.ref b472)])) rfl (by rw [hml]; rfl) (Steps.refl _) (a := b472) (argsL := [(.ref b473)]) (rest := [(.ref b472)]) (lenOf pdx_18 rfl) rfl (by show 2 * 0 + _ ≤ _; exact Nat.le_of_eq rfl) (hb hby at_333) (fun _ _ => ⟨rfl, e474, (by decide : 4 + 1 ≤ _), (by decide : 30 + 7 ≤ _)⟩)
   dsimp only [Pt.U, Pt.locs, Pt.cells, Pt.slots] at X477 l477 y477 z477 st477 hQ477
   subst l477 y477 z477
   obtain ⟨b478, k479, rfl, N477q, K477c, hb477_b478, Y477_0, Y477_1, Y477_2, Y477_3, Y477_4, Y477_5⟩ := hQ477
   have N477 := Fr.app N474 N477q
   refine Ends.go (fun _ k => st477.trans k) ?_
   have g_b478 : n0 ≤ b478 := Nat.le_trans (own_old_le O474) hb477_b478
   have sz_b478 : h0.size ≤ b478 := Nat.le_trans K474.1 hb477_b478
   obtain ⟨h477, e477⟩ : ∃ z, T477.heap = z := ⟨_, rfl⟩
   rw [e477] at K477c Y477_0 Y477_1 Y477_2 Y477_3 Y477_4 Y477_5
   have K477 := K474.trans K477c (allS (Or.inr sz_b472) all0)
   have O477 := O474.keep K477c (allS g_b472 all0)
   refine was X477 hx hby at_336 (l' := #[cj q0, cs, ci p1, cj q2, cs, cj q3, cs, ci p4, ci len_, ci at_, cr x10, ci ft_, ci ex_, cr b472, ci y14, ci y15, ci y16, ci y17, cj y18, cs, cj y20, cs]) rfl rfl ?_
   have Vl480 := Y477_3
   rw [own_l1 hc0_ hk0_, own_l1 hc1_ hk1_, own_l1 hc2_ hk2_, own_l1 hc3_ hk3_, own_l1 hc4_ hk4_, own_l1 hc5_ hk5_, own_l1 hc6_ hk6_] at Vl480
   have ne_b472_b478 : b472 ≠ b478 := Nat.ne_of_lt (Nat.lt_of_lt_of_le ((A472.ext E473).keep K474c).lt hb477_b478)
   exact J338s _ _ _ x10 b472 b478 _ at_ len_ ex_ ft_ y14 y15 y16 y17 y18 y20 (own_mono X477 (by decide) (by decide)) e477 O477 N477 K477 g_b472 sz_b472 ne_b472_b478 (((A472.ext E473).keep K474c).keep K477c) Y477_2 Y477_4 Y477_5 Y477_1 Vl480 hat hlen hex
  ·obtain ⟨_, _, ⟨T481, L481, k481, n481⟩, -, X481, ⟨Lc481, hQ481, l481, y481, z481⟩, st481⟩ := X473.specialBack hx (y := ym13) rfl hown (mvT hZ (ow hw 12 rfl)) (mvT hZ (ow hw 13 rfl)) (mvT hZ (ow hw 14 rfl)) (by decide) (own_backOf (W := 3) (rx2_309 l Z a0 hw [] n0 h473 O473 G1 G3 GF b473 x10 kx10 c0_ c1_ c2_ c3_ c4_ c5_ c6_ ((V3.ext E472).ext E473) A473 F_coder_b473 F_value_b473 g_b473 hbig_ hc0_ hc1_ hc2_ hc3_ hc4_ hc5_ hc6_) hZ (ow hw 14 rfl) (ow hw 11 rfl) (by decide) (by decide)) (g := (mkF m 330 #[cj q0, cs, ci p1, cj q2, cs, cj q3, cs, ci p4, ci len_, ci at_, cr x10, ci ft_, ci ex_, ci y13, ci y14, ci y15, ci y16, ci y17, cj y18, cs, cj y20, cs] [(.ref x10), (.ref b473), (.ref b473), (.ref b472), (.ref b472)])) rfl (by rw [hml]; rfl) (Steps.refl _) (a := b473) (argsL := [(.ref x10)]) (rest := [(.ref b473), (.ref b472), (.ref b472)]) (lenOf pdx_8 rfl) rfl (by show 2 * 0 + _ ≤ _; exact Nat.le_of_eq rfl) (hb hby at_330) (fun _ _ => ⟨rfl, e473, (by decide : 3 + 2 ≤ _), (by decide : 23 + 21 ≤ _)⟩)
   dsimp only [Pt.U, Pt.locs, Pt.cells, Pt.slots] at X481 l481 y481 z481 st481 hQ481
   subst l481 y481 z481
   obtain ⟨b482, b483, k484, rfl, N481q, K481c, hb481_b482, hb481_b483, Y481_0, Y481_1, Y481_2⟩ := hQ481
   have N481 := Fr.app N3 N481q
   refine Ends.go (fun _ k => st481.trans k) ?_
   have g_b482 : n0 ≤ b482 := Nat.le_trans (own_old_le O473) hb481_b482
   have sz_b482 : h0.size ≤ b482 := Nat.le_trans K473.1 hb481_b482
   have g_b483 : n0 ≤ b483 := Nat.le_trans (own_old_le O473) hb481_b483
   have sz_b483 : h0.size ≤ b483 := Nat.le_trans K473.1 hb481_b483
   obtain ⟨h481, e481⟩ : ∃ z, T481.heap = z := ⟨_, rfl⟩
   rw [e481] at K481c Y481_0 Y481_1 Y481_2
   have K481 := K473.trans K481c (allS (Or.inr sz_b473) all0)
   have O481 := O473.keep K481c (allS g_b473 all0)
   show Ends _ _ _ _ T481 (mkF m 333 #[cj q0, cs, ci p1, cj q2, cs, cj q3, cs, ci p4, ci len_, ci at_, cr x10, ci ft_, ci ex_, ci y13, ci y14, ci y15, ci y16, ci y17, cj y18, cs, cj y20, cs] [(.ref b473), (.ref b472), (.ref b472)]) _ _ _
   have ne_b472_b473 : b472 ≠ b473 := Nat.ne_of_lt (Nat.lt_of_lt_of_le A472.lt (Nat.le_of_eq g473.symm))
   have ne_b472_b483 : b472 ≠ b483 := Nat.ne_of_lt (Nat.lt_of_lt_of_le (A472.ext E473).lt hb481_b483)
   obtain ⟨_, _, ⟨T485, L485, k485, n485⟩, -, X485, ⟨Lc485, hQ485, l485, y485, z485⟩, st485⟩ := X481.specialBack hx (y := ym22) rfl hown (mvT hZ (ow hw 57 rfl)) (mvT hZ (ow hw 58 rfl)) (mvT hZ (ow hw 59 rfl)) (by decide) (own_backOf (W := 1) (rx13_402 l Z a0 hw [] n0 h481 O481 G1 G3 GF b472 b473 b483 k484 c0_ c1_ c2_ c3_ c4_ c5_ c6_ ((A472.ext E473).keep K481c) ((F_text_b472.ext E473).keep K481c (ninS ne_b472_b473 nin0)) Y481_2 Y481_0 Y481_1 (A473.keep K481c) ((F_chars_b472.ext E473).keep K481c (ninS ne_b472_b473 nin0)) ((F_limit_b472.ext E473).keep K481c (ninS ne_b472_b473 nin0)) ((F_position_b472.ext E473).keep K481c (ninS ne_b472_b473 nin0)) ((F_base_b472.ext E473).keep K481c (ninS ne_b472_b473 nin0)) (Ne.symm ne_b472_b473) (Ne.symm ne_b472_b483) g_b472 hc0_ hc1_ hc2_ hc3_ hc4_ hc5_ hc6_) hZ (ow hw 59 rfl) (ow hw 8 rfl) (by decide) (by decide)) (g := (mkF m 333 #[cj q0, cs, ci p1, cj q2, cs, cj q3, cs, ci p4, ci len_, ci at_, cr x10, ci ft_, ci ex_, ci y13, ci y14, ci y15, ci y16, ci y17, cj y18, cs, cj y20, cs] [(.ref b473), (.ref b472), (.ref b472)])) rfl (by rw [hml]; rfl) (Steps.refl _) (a := b472) (argsL := [(.ref b473)]) (rest := [(.ref b472)]) (lenOf pdx_18 rfl) rfl (by show 2 * 0 + _ ≤ _; exact Nat.le_of_eq rfl) (hb hby at_333) (fun _ _ => ⟨rfl, e481, (by decide : 5 + 1 ≤ _), (by decide : 44 + 7 ≤ _)⟩)
   dsimp only [Pt.U, Pt.locs, Pt.cells, Pt.slots] at X485 l485 y485 z485 st485 hQ485
   subst l485 y485 z485
   obtain ⟨b486, k487, rfl, N485q, K485c, hb485_b486, Y485_0, Y485_1, Y485_2, Y485_3, Y485_4, Y485_5⟩ := hQ485
   have N485 := Fr.app N481 N485q
   refine Ends.go (fun _ k => st485.trans k) ?_
   have g_b486 : n0 ≤ b486 := Nat.le_trans (own_old_le O481) hb485_b486
   have sz_b486 : h0.size ≤ b486 := Nat.le_trans K481.1 hb485_b486
   obtain ⟨h485, e485⟩ : ∃ z, T485.heap = z := ⟨_, rfl⟩
   rw [e485] at K485c Y485_0 Y485_1 Y485_2 Y485_3 Y485_4 Y485_5
   have K485 := K481.trans K485c (allS (Or.inr sz_b472) all0)
   have O485 := O481.keep K485c (allS g_b472 all0)
   refine was X485 hx hby at_336 (l' := #[cj q0, cs, ci p1, cj q2, cs, cj q3, cs, ci p4, ci len_, ci at_, cr x10, ci ft_, ci ex_, cr b472, ci y14, ci y15, ci y16, ci y17, cj y18, cs, cj y20, cs]) rfl rfl ?_
   have ne_b472_b486 : b472 ≠ b486 := Nat.ne_of_lt (Nat.lt_of_lt_of_le ((A472.ext E473).keep K481c).lt hb485_b486)
   exact J338s _ _ _ x10 b472 b486 _ at_ len_ ex_ ft_ y14 y15 y16 y17 y18 y20 (own_mono X485 (by decide) (by decide)) e485 O485 N485 K485 g_b472 sz_b472 ne_b472_b486 (((A472.ext E473).keep K481c).keep K485c) Y485_2 Y485_4 Y485_5 Y485_1 Y485_3 hat hlen hex
 have J250_4 : ∀ (T6 : State) (h6 : Heap) (lcs : List Loc) (x10 : Addr) (kx10 : ClassId) (at_ : Int32) (y13 : Int32) (y14 : Int32) (y15 : Int32) (X6 : Stand p l e room_1 s m #[(.long q0), (.int p1), (.long q2), (.long q3), (.int p4)] below meth c T6 lcs 1 7) (eT6 : T6.heap = h6) (O6 : Old Z n0 h6) (N6 : Fr n0 lcs) (K6 : Keep h0 h6 []) (V6 : Arv Z h6 x10 kx10 .char (7 : Int32) [(.int c0_), (.int c1_), (.int c2_), (.int c3_), (.int c4_), (.int c5_), (.int c6_)] (.int 0)) (hat : at_ = 0 ∨ at_ = 1 ∨ at_ = 2 ∨ at_ = 3 ∨ at_ = 4 ∨ at_ = 5 ∨ at_ = 6) (hns : ¬ own_spec c0_ c1_ c2_ c3_ c4_ c5_ c6_ q0 at_ 4), Ends p e below s T6 (mkF m 250 #[cj q0, cs, ci p1, cj q2, cs, cj q3, cs, ci p4, ci 4, ci at_, cr x10, ci 1, ci 0, ci y13, ci y14, ci y15, ci 0, cu, cu, cu, cu, cu] [(.int 0)]) room_1.cells room_1.slots (fun v h L => v = some (.int 1) ∧ Fr n0 L) := by
  intro T6 h6 lcs x10 kx10 at_ y13 y14 y15 X6 eT6 O6 N6 K6 V6 hat hns
  show Ends _ _ _ _ T6 (mkF m 250 #[cj q0, cs, ci p1, cj q2, cs, cj q3, cs, ci p4, ci 4, ci at_, cr x10, ci 1, ci 0, ci y13, ci y14, ci y15, ci 0, cu, cu, cu, cu, cu] [(.int 0)]) _ _ _
  refine wst X6 hx hby at_250 (l' := #[cj q0, cs, ci p1, cj q2, cs, cj q3, cs, ci p4, ci 4, ci at_, cr x10, ci 1, ci 0, ci y13, ci y14, ci y15, ci 0, ci 0, cu, cu, cu, cu]) rfl ?_
  refine wil X6 hx hby at_252 rfl ?_
  show Ends _ _ _ _ T6 (mkF m 254 #[cj q0, cs, ci p1, cj q2, cs, cj q3, cs, ci p4, ci 4, ci at_, cr x10, ci 1, ci 0, ci y13, ci y14, ci y15, ci 0, ci 0, cu, cu, cu, cu] [(.int y13)]) _ _ _
  refine .go (fun _ => XS.i2l X6.here hx rfl (hb hby at_254) rfl) ?_
  refine wbp X6 hx hby at_255 ?_
  refine .go (fun _ => XS.lshl X6.here hx rfl (hb hby at_257) rfl) ?_
  refine wil X6 hx hby at_258 rfl ?_
  refine .go (fun _ => XS.i2l X6.here hx rfl (hb hby at_260) rfl) ?_
  show Ends _ _ _ _ T6 (mkF m 261 #[cj q0, cs, ci p1, cj q2, cs, cj q3, cs, ci p4, ci 4, ci at_, cr x10, ci 1, ci 0, ci y13, ci y14, ci y15, ci 0, ci 0, cu, cu, cu, cu] [(.long (y14.toInt64)), (.long ((y13.toInt64) <<< ((8 : Int32) &&& 0x3f).toInt64))]) _ _ _
  refine wbp X6 hx hby at_261 ?_
  refine .go (fun _ => XS.lshl X6.here hx rfl (hb hby at_263) rfl) ?_
  refine .go (fun _ => XS.lor X6.here hx rfl (hb hby at_264) rfl) ?_
  refine wil X6 hx hby at_265 rfl ?_
  refine .go (fun _ => XS.i2l X6.here hx rfl (hb hby at_267) rfl) ?_
  show Ends _ _ _ _ T6 (mkF m 268 #[cj q0, cs, ci p1, cj q2, cs, cj q3, cs, ci p4, ci 4, ci at_, cr x10, ci 1, ci 0, ci y13, ci y14, ci y15, ci 0, ci 0, cu, cu, cu, cu] [(.long (y15.toInt64)), (.long (((y13.toInt64) <<< ((8 : Int32) &&& 0x3f).toInt64) ||| ((y14.toInt64) <<< ((16 : Int32) &&& 0x3f).toInt64)))]) _ _ _
  refine wbp X6 hx hby at_268 ?_
  refine .go (fun _ => XS.lshl X6.here hx rfl (hb hby at_270) rfl) ?_
  refine .go (fun _ => XS.lor X6.here hx rfl (hb hby at_271) rfl) ?_
  refine wil X6 hx hby at_272 rfl ?_
  refine .go (fun _ => XS.i2l X6.here hx rfl (hb hby at_274) rfl) ?_
  show Ends _ _ _ _ T6 (mkF m 275 #[cj q0, cs, ci p1, cj q2, cs, cj q3, cs, ci p4, ci 4, ci at_, cr x10, ci 1, ci 0, ci y13, ci y14, ci y15, ci 0, ci 0, cu, cu, cu, cu] [(.long (0 : Int64)), (.long ((((y13.toInt64) <<< ((8 : Int32) &&& 0x3f).toInt64) ||| ((y14.toInt64) <<< ((16 : Int32) &&& 0x3f).toInt64)) ||| ((y15.toInt64) <<< ((24 : Int32) &&& 0x3f).toInt64)))]) _ _ _
  refine wbp X6 hx hby at_275 ?_
  refine .go (fun _ => XS.lshl X6.here hx rfl (hb hby at_277) rfl) ?_
  refine .go (fun _ => XS.lor X6.here hx rfl (hb hby at_278) rfl) ?_
  refine .go (fun _ => XS.lstore X6.here hx rfl (hb hby at_279) rfl (l' := #[cj q0, cs, ci p1, cj q2, cs, cj q3, cs, ci p4, ci 4, ci at_, cr x10, ci 1, ci 0, ci y13, ci y14, ci y15, ci 0, ci 0, cj (((((y13.toInt64) <<< ((8 : Int32) &&& 0x3f).toInt64) ||| ((y14.toInt64) <<< ((16 : Int32) &&& 0x3f).toInt64)) ||| ((y15.toInt64) <<< ((24 : Int32) &&& 0x3f).toInt64)) ||| (0 : Int64)), cs, cu, cu]) rfl) ?_
  refine wil X6 hx hby at_281 rfl ?_
  show Ends _ _ _ _ T6 (mkF m 283 #[cj q0, cs, ci p1, cj q2, cs, cj q3, cs, ci p4, ci 4, ci at_, cr x10, ci 1, ci 0, ci y13, ci y14, ci y15, ci 0, ci 0, cj (((((y13.toInt64) <<< ((8 : Int32) &&& 0x3f).toInt64) ||| ((y14.toInt64) <<< ((16 : Int32) &&& 0x3f).toInt64)) ||| ((y15.toInt64) <<< ((24 : Int32) &&& 0x3f).toInt64)) ||| (0 : Int64)), cs, cu, cu] [(.int 4)]) _ _ _
  refine wic X6 hx hby at_283 ?_
  refine wcn X6 hx hby at_284 (teq (by decide : (4 : Int32) = (4 : Int32))).2 ?_
  refine Ends.go (X6.ldc2Long hx hown (mvT hZ (ow hw 5 rfl)) (g := (mkF m 287 #[cj q0, cs, ci p1, cj q2, cs, cj q3, cs, ci p4, ci 4, ci at_, cr x10, ci 1, ci 0, ci y13, ci y14, ci y15, ci 0, ci 0, cj (((((y13.toInt64) <<< ((8 : Int32) &&& 0x3f).toInt64) ||| ((y14.toInt64) <<< ((16 : Int32) &&& 0x3f).toInt64)) ||| ((y15.toInt64) <<< ((24 : Int32) &&& 0x3f).toInt64)) ||| (0 : Int64)), cs, cu, cu] [])) rfl (hb hby at_287)) ?_
  refine wgo (pc := 290) (pc' := 296) X6 hx hby at_290 (by decide) (by decide) ?_
  refine .go (fun _ => XS.lstore X6.here hx rfl (hb hby at_296) rfl (l' := #[cj q0, cs, ci p1, cj q2, cs, cj q3, cs, ci p4, ci 4, ci at_, cr x10, ci 1, ci 0, ci y13, ci y14, ci y15, ci 0, ci 0, cj (((((y13.toInt64) <<< ((8 : Int32) &&& 0x3f).toInt64) ||| ((y14.toInt64) <<< ((16 : Int32) &&& 0x3f).toInt64)) ||| ((y15.toInt64) <<< ((24 : Int32) &&& 0x3f).toInt64)) ||| (0 : Int64)), cs, cj (4294967040 : Int64), cs]) rfl) ?_
  show Ends _ _ _ _ T6 (mkF m 298 #[cj q0, cs, ci p1, cj q2, cs, cj q3, cs, ci p4, ci 4, ci at_, cr x10, ci 1, ci 0, ci y13, ci y14, ci y15, ci 0, ci 0, cj (((((y13.toInt64) <<< ((8 : Int32) &&& 0x3f).toInt64) ||| ((y14.toInt64) <<< ((16 : Int32) &&& 0x3f).toInt64)) ||| ((y15.toInt64) <<< ((24 : Int32) &&& 0x3f).toInt64)) ||| (0 : Int64)), cs, cj (4294967040 : Int64), cs] []) _ _ _
  refine wil X6 hx hby at_298 rfl ?_
  refine wiy (pc := 300) (pc' := 317) X6 hx hby at_300 ((if0 _ _).trans (teq (by decide : (0 : Int32) = (0 : Int32))).1) (by decide) (by decide) ?_
  refine wic X6 hx hby at_317 ?_
  refine wst X6 hx hby at_318 (l' := #[cj q0, cs, ci p1, cj q2, cs, cj q3, cs, ci p4, ci 4, ci at_, cr x10, ci 1, ci 0, ci y13, ci y14, ci y15, ci 0, ci 0, cj (((((y13.toInt64) <<< ((8 : Int32) &&& 0x3f).toInt64) ||| ((y14.toInt64) <<< ((16 : Int32) &&& 0x3f).toInt64)) ||| ((y15.toInt64) <<< ((24 : Int32) &&& 0x3f).toInt64)) ||| (0 : Int64)), cs, cj (4294967040 : Int64), cs]) rfl ?_
  exact J320s _ _ _ x10 kx10 at_ (4 : Int32) (0 : Int32) (1 : Int32) y13 y14 y15 (0 : Int32) (0 : Int32) (((((y13.toInt64) <<< ((8 : Int32) &&& 0x3f).toInt64) ||| ((y14.toInt64) <<< ((16 : Int32) &&& 0x3f).toInt64)) ||| ((y15.toInt64) <<< ((24 : Int32) &&& 0x3f).toInt64)) ||| (0 : Int64)) (4294967040 : Int64) X6 eT6 O6 N6 K6 V6 hat (by decide) (Or.inr ⟨rfl, hns⟩)
 have J213_4 : ∀ (T7 : State) (h7 : Heap) (lcs : List Loc) (x10 : Addr) (kx10 : ClassId) (at_ : Int32) (y13 : Int32) (y14 : Int32) (y15 : Int32) (X7 : Stand p l e room_1 s m #[(.long q0), (.int p1), (.long q2), (.long q3), (.int p4)] below meth c T7 lcs 1 7) (eT7 : T7.heap = h7) (O7 : Old Z n0 h7) (N7 : Fr n0 lcs) (K7 : Keep h0 h7 []) (V7 : Arv Z h7 x10 kx10 .char (7 : Int32) [(.int c0_), (.int c1_), (.int c2_), (.int c3_), (.int c4_), (.int c5_), (.int c6_)] (.int 0)) (hat : at_ = 0 ∨ at_ = 1 ∨ at_ = 2 ∨ at_ = 3 ∨ at_ = 4 ∨ at_ = 5 ∨ at_ = 6) (hsp : own_spec c0_ c1_ c2_ c3_ c4_ c5_ c6_ q0 at_ 4 ↔ (y13 = (((((q0.toUInt64 >>> ((8 : Int32) &&& 0x3f).toInt64.toUInt64).toInt64) &&& (255 : Int64)).toInt32).toUInt32.toUInt16.toUInt32.toInt32) ∧ y14 = (((((q0.toUInt64 >>> ((16 : Int32) &&& 0x3f).toInt64.toUInt64).toInt64) &&& (255 : Int64)).toInt32).toUInt32.toUInt16.toUInt32.toInt32) ∧ y15 = (((((q0.toUInt64 >>> ((24 : Int32) &&& 0x3f).toInt64.toUInt64).toInt64) &&& (255 : Int64)).toInt32).toUInt32.toUInt16.toUInt32.toInt32))) (hy13 : 0 ≤ y13.toInt ∧ y13.toInt < 65536) (hy14 : 0 ≤ y14.toInt ∧ y14.toInt < 65536) (hy15 : 0 ≤ y15.toInt ∧ y15.toInt < 65536), Ends p e below s T7 (mkF m 213 #[cj q0, cs, ci p1, cj q2, cs, cj q3, cs, ci p4, ci 4, ci at_, cr x10, ci 1, ci 0, ci y13, ci y14, ci y15, ci 0, cu, cu, cu, cu, cu] []) room_1.cells room_1.slots (fun v h L => v = some (.int 1) ∧ Fr n0 L) := by
  intro T7 h7 lcs x10 kx10 at_ y13 y14 y15 X7 eT7 O7 N7 K7 V7 hat hsp hy13 hy14 hy15
  show Ends _ _ _ _ T7 (mkF m 213 #[cj q0, cs, ci p1, cj q2, cs, cj q3, cs, ci p4, ci 4, ci at_, cr x10, ci 1, ci 0, ci y13, ci y14, ci y15, ci 0, cu, cu, cu, cu, cu] []) _ _ _
  refine wil X7 hx hby at_213 rfl ?_
  refine wsp X7 hx hby at_215 ?_
  by_cases hc218_488 : y13 < (256 : Int32)
  ·refine wcn X7 hx hby at_218 (tlt hc218_488).2.1 ?_
   refine wil X7 hx hby at_221 rfl ?_
   refine wsp X7 hx hby at_223 ?_
   show Ends _ _ _ _ T7 (mkF m 226 #[cj q0, cs, ci p1, cj q2, cs, cj q3, cs, ci p4, ci 4, ci at_, cr x10, ci 1, ci 0, ci y13, ci y14, ci y15, ci 0, cu, cu, cu, cu, cu] [(.int 256), (.int y14)]) _ _ _
   by_cases hc226_489 : y14 < (256 : Int32)
   ·refine wcn X7 hx hby at_226 (tlt hc226_489).2.1 ?_
    refine wil X7 hx hby at_229 rfl ?_
    refine wsp X7 hx hby at_231 ?_
    by_cases hc234_490 : y15 < (256 : Int32)
    ·refine wcn X7 hx hby at_234 (tlt hc234_490).2.1 ?_
     refine wil X7 hx hby at_237 rfl ?_
     show Ends _ _ _ _ T7 (mkF m 239 #[cj q0, cs, ci p1, cj q2, cs, cj q3, cs, ci p4, ci 4, ci at_, cr x10, ci 1, ci 0, ci y13, ci y14, ci y15, ci 0, cu, cu, cu, cu, cu] [(.int 0)]) _ _ _
     refine wsp X7 hx hby at_239 ?_
     refine wcn X7 hx hby at_242 (tlt (by decide : (0 : Int32) < (256 : Int32))).2.1 ?_
     refine wic X7 hx hby at_245 ?_
     refine wgo (pc := 246) (pc' := 250) X7 hx hby at_246 (by decide) (by decide) ?_
     refine wst X7 hx hby at_250 (l' := #[cj q0, cs, ci p1, cj q2, cs, cj q3, cs, ci p4, ci 4, ci at_, cr x10, ci 1, ci 0, ci y13, ci y14, ci y15, ci 0, ci 1, cu, cu, cu, cu]) rfl ?_
     show Ends _ _ _ _ T7 (mkF m 252 #[cj q0, cs, ci p1, cj q2, cs, cj q3, cs, ci p4, ci 4, ci at_, cr x10, ci 1, ci 0, ci y13, ci y14, ci y15, ci 0, ci 1, cu, cu, cu, cu] []) _ _ _
     refine wil X7 hx hby at_252 rfl ?_
     refine .go (fun _ => XS.i2l X7.here hx rfl (hb hby at_254) rfl) ?_
     refine wbp X7 hx hby at_255 ?_
     refine .go (fun _ => XS.lshl X7.here hx rfl (hb hby at_257) rfl) ?_
     refine wil X7 hx hby at_258 rfl ?_
     show Ends _ _ _ _ T7 (mkF m 260 #[cj q0, cs, ci p1, cj q2, cs, cj q3, cs, ci p4, ci 4, ci at_, cr x10, ci 1, ci 0, ci y13, ci y14, ci y15, ci 0, ci 1, cu, cu, cu, cu] [(.int y14), (.long ((y13.toInt64) <<< ((8 : Int32) &&& 0x3f).toInt64))]) _ _ _
     refine .go (fun _ => XS.i2l X7.here hx rfl (hb hby at_260) rfl) ?_
     refine wbp X7 hx hby at_261 ?_
     refine .go (fun _ => XS.lshl X7.here hx rfl (hb hby at_263) rfl) ?_
     refine .go (fun _ => XS.lor X7.here hx rfl (hb hby at_264) rfl) ?_
     refine wil X7 hx hby at_265 rfl ?_
     show Ends _ _ _ _ T7 (mkF m 267 #[cj q0, cs, ci p1, cj q2, cs, cj q3, cs, ci p4, ci 4, ci at_, cr x10, ci 1, ci 0, ci y13, ci y14, ci y15, ci 0, ci 1, cu, cu, cu, cu] [(.int y15), (.long (((y13.toInt64) <<< ((8 : Int32) &&& 0x3f).toInt64) ||| ((y14.toInt64) <<< ((16 : Int32) &&& 0x3f).toInt64)))]) _ _ _
     refine .go (fun _ => XS.i2l X7.here hx rfl (hb hby at_267) rfl) ?_
     refine wbp X7 hx hby at_268 ?_
     refine .go (fun _ => XS.lshl X7.here hx rfl (hb hby at_270) rfl) ?_
     refine .go (fun _ => XS.lor X7.here hx rfl (hb hby at_271) rfl) ?_
     refine wil X7 hx hby at_272 rfl ?_
     show Ends _ _ _ _ T7 (mkF m 274 #[cj q0, cs, ci p1, cj q2, cs, cj q3, cs, ci p4, ci 4, ci at_, cr x10, ci 1, ci 0, ci y13, ci y14, ci y15, ci 0, ci 1, cu, cu, cu, cu] [(.int 0), (.long ((((y13.toInt64) <<< ((8 : Int32) &&& 0x3f).toInt64) ||| ((y14.toInt64) <<< ((16 : Int32) &&& 0x3f).toInt64)) ||| ((y15.toInt64) <<< ((24 : Int32) &&& 0x3f).toInt64)))]) _ _ _
     refine .go (fun _ => XS.i2l X7.here hx rfl (hb hby at_274) rfl) ?_
     refine wbp X7 hx hby at_275 ?_
     refine .go (fun _ => XS.lshl X7.here hx rfl (hb hby at_277) rfl) ?_
     refine .go (fun _ => XS.lor X7.here hx rfl (hb hby at_278) rfl) ?_
     refine .go (fun _ => XS.lstore X7.here hx rfl (hb hby at_279) rfl (l' := #[cj q0, cs, ci p1, cj q2, cs, cj q3, cs, ci p4, ci 4, ci at_, cr x10, ci 1, ci 0, ci y13, ci y14, ci y15, ci 0, ci 1, cj (((((y13.toInt64) <<< ((8 : Int32) &&& 0x3f).toInt64) ||| ((y14.toInt64) <<< ((16 : Int32) &&& 0x3f).toInt64)) ||| ((y15.toInt64) <<< ((24 : Int32) &&& 0x3f).toInt64)) ||| (0 : Int64)), cs, cu, cu]) rfl) ?_
     show Ends _ _ _ _ T7 (mkF m 281 #[cj q0, cs, ci p1, cj q2, cs, cj q3, cs, ci p4, ci 4, ci at_, cr x10, ci 1, ci 0, ci y13, ci y14, ci y15, ci 0, ci 1, cj (((((y13.toInt64) <<< ((8 : Int32) &&& 0x3f).toInt64) ||| ((y14.toInt64) <<< ((16 : Int32) &&& 0x3f).toInt64)) ||| ((y15.toInt64) <<< ((24 : Int32) &&& 0x3f).toInt64)) ||| (0 : Int64)), cs, cu, cu] []) _ _ _
     refine wil X7 hx hby at_281 rfl ?_
     refine wic X7 hx hby at_283 ?_
     refine wcn X7 hx hby at_284 (teq (by decide : (4 : Int32) = (4 : Int32))).2 ?_
     refine Ends.go (X7.ldc2Long hx hown (mvT hZ (ow hw 5 rfl)) (g := (mkF m 287 #[cj q0, cs, ci p1, cj q2, cs, cj q3, cs, ci p4, ci 4, ci at_, cr x10, ci 1, ci 0, ci y13, ci y14, ci y15, ci 0, ci 1, cj (((((y13.toInt64) <<< ((8 : Int32) &&& 0x3f).toInt64) ||| ((y14.toInt64) <<< ((16 : Int32) &&& 0x3f).toInt64)) ||| ((y15.toInt64) <<< ((24 : Int32) &&& 0x3f).toInt64)) ||| (0 : Int64)), cs, cu, cu] [])) rfl (hb hby at_287)) ?_
     refine wgo (pc := 290) (pc' := 296) X7 hx hby at_290 (by decide) (by decide) ?_
     show Ends _ _ _ _ T7 (mkF m 296 #[cj q0, cs, ci p1, cj q2, cs, cj q3, cs, ci p4, ci 4, ci at_, cr x10, ci 1, ci 0, ci y13, ci y14, ci y15, ci 0, ci 1, cj (((((y13.toInt64) <<< ((8 : Int32) &&& 0x3f).toInt64) ||| ((y14.toInt64) <<< ((16 : Int32) &&& 0x3f).toInt64)) ||| ((y15.toInt64) <<< ((24 : Int32) &&& 0x3f).toInt64)) ||| (0 : Int64)), cs, cu, cu] [(.long (4294967040 : Int64))]) _ _ _
     refine .go (fun _ => XS.lstore X7.here hx rfl (hb hby at_296) rfl (l' := #[cj q0, cs, ci p1, cj q2, cs, cj q3, cs, ci p4, ci 4, ci at_, cr x10, ci 1, ci 0, ci y13, ci y14, ci y15, ci 0, ci 1, cj (((((y13.toInt64) <<< ((8 : Int32) &&& 0x3f).toInt64) ||| ((y14.toInt64) <<< ((16 : Int32) &&& 0x3f).toInt64)) ||| ((y15.toInt64) <<< ((24 : Int32) &&& 0x3f).toInt64)) ||| (0 : Int64)), cs, cj (4294967040 : Int64), cs]) rfl) ?_
     refine wil X7 hx hby at_298 rfl ?_
     refine win X7 hx hby at_300 ((if0 _ _).trans (feq (by decide : ¬ ((1 : Int32) = (0 : Int32)))).1) ?_
     refine .go (fun _ => XS.lload X7.here hx rfl (hb hby at_303) rfl) ?_
     refine .go (fun _ => XS.lloadN X7.here hx rfl (hb hby at_305) rfl) ?_
     show Ends _ _ _ _ T7 (mkF m 306 #[cj q0, cs, ci p1, cj q2, cs, cj q3, cs, ci p4, ci 4, ci at_, cr x10, ci 1, ci 0, ci y13, ci y14, ci y15, ci 0, ci 1, cj (((((y13.toInt64) <<< ((8 : Int32) &&& 0x3f).toInt64) ||| ((y14.toInt64) <<< ((16 : Int32) &&& 0x3f).toInt64)) ||| ((y15.toInt64) <<< ((24 : Int32) &&& 0x3f).toInt64)) ||| (0 : Int64)), cs, cj (4294967040 : Int64), cs] [(.long q0), (.long (((((y13.toInt64) <<< ((8 : Int32) &&& 0x3f).toInt64) ||| ((y14.toInt64) <<< ((16 : Int32) &&& 0x3f).toInt64)) ||| ((y15.toInt64) <<< ((24 : Int32) &&& 0x3f).toInt64)) ||| (0 : Int64)))]) _ _ _
     refine .go (fun _ => XS.lload X7.here hx rfl (hb hby at_306) rfl) ?_
     refine .go (fun _ => XS.land X7.here hx rfl (hb hby at_308) rfl) ?_
     refine .go (fun _ => XS.lcmp X7.here hx rfl (hb hby at_309) rfl) ?_
     by_cases hc310_491 : (lcmpW (((((y13.toInt64) <<< ((8 : Int32) &&& 0x3f).toInt64) ||| ((y14.toInt64) <<< ((16 : Int32) &&& 0x3f).toInt64)) ||| ((y15.toInt64) <<< ((24 : Int32) &&& 0x3f).toInt64)) ||| (0 : Int64)) (q0 &&& (4294967040 : Int64))) = (0 : Int32)
     ·refine win X7 hx hby at_310 ((if0 _ _).trans (teq hc310_491).2) ?_
      refine wic X7 hx hby at_313 ?_
      show Ends _ _ _ _ T7 (mkF m 314 #[cj q0, cs, ci p1, cj q2, cs, cj q3, cs, ci p4, ci 4, ci at_, cr x10, ci 1, ci 0, ci y13, ci y14, ci y15, ci 0, ci 1, cj (((((y13.toInt64) <<< ((8 : Int32) &&& 0x3f).toInt64) ||| ((y14.toInt64) <<< ((16 : Int32) &&& 0x3f).toInt64)) ||| ((y15.toInt64) <<< ((24 : Int32) &&& 0x3f).toInt64)) ||| (0 : Int64)), cs, cj (4294967040 : Int64), cs] [(.int 1)]) _ _ _
      refine wgo (pc := 314) (pc' := 318) X7 hx hby at_314 (by decide) (by decide) ?_
      refine wst X7 hx hby at_318 (l' := #[cj q0, cs, ci p1, cj q2, cs, cj q3, cs, ci p4, ci 4, ci at_, cr x10, ci 1, ci 1, ci y13, ci y14, ci y15, ci 0, ci 1, cj (((((y13.toInt64) <<< ((8 : Int32) &&& 0x3f).toInt64) ||| ((y14.toInt64) <<< ((16 : Int32) &&& 0x3f).toInt64)) ||| ((y15.toInt64) <<< ((24 : Int32) &&& 0x3f).toInt64)) ||| (0 : Int64)), cs, cj (4294967040 : Int64), cs]) rfl ?_
      exact J320s _ _ _ x10 kx10 at_ (4 : Int32) (1 : Int32) (1 : Int32) y13 y14 y15 (0 : Int32) (1 : Int32) (((((y13.toInt64) <<< ((8 : Int32) &&& 0x3f).toInt64) ||| ((y14.toInt64) <<< ((16 : Int32) &&& 0x3f).toInt64)) ||| ((y15.toInt64) <<< ((24 : Int32) &&& 0x3f).toInt64)) ||| (0 : Int64)) (4294967040 : Int64) X7 eT7 O7 N7 K7 V7 hat (by decide) (Or.inl ⟨rfl, hsp.mpr ((own_got4 hy13 hc218_488 hy14 hc226_489 hy15 hc234_490).mp ((lw_eq _ _).mp hc310_491))⟩)
     ·refine wiy (pc := 310) (pc' := 317) X7 hx hby at_310 ((if0 _ _).trans (feq hc310_491).2) (by decide) (by decide) ?_
      refine wic X7 hx hby at_317 ?_
      refine wst X7 hx hby at_318 (l' := #[cj q0, cs, ci p1, cj q2, cs, cj q3, cs, ci p4, ci 4, ci at_, cr x10, ci 1, ci 0, ci y13, ci y14, ci y15, ci 0, ci 1, cj (((((y13.toInt64) <<< ((8 : Int32) &&& 0x3f).toInt64) ||| ((y14.toInt64) <<< ((16 : Int32) &&& 0x3f).toInt64)) ||| ((y15.toInt64) <<< ((24 : Int32) &&& 0x3f).toInt64)) ||| (0 : Int64)), cs, cj (4294967040 : Int64), cs]) rfl ?_
      show Ends _ _ _ _ T7 (mkF m 320 #[cj q0, cs, ci p1, cj q2, cs, cj q3, cs, ci p4, ci 4, ci at_, cr x10, ci 1, ci 0, ci y13, ci y14, ci y15, ci 0, ci 1, cj (((((y13.toInt64) <<< ((8 : Int32) &&& 0x3f).toInt64) ||| ((y14.toInt64) <<< ((16 : Int32) &&& 0x3f).toInt64)) ||| ((y15.toInt64) <<< ((24 : Int32) &&& 0x3f).toInt64)) ||| (0 : Int64)), cs, cj (4294967040 : Int64), cs] []) _ _ _
      exact J320s _ _ _ x10 kx10 at_ (4 : Int32) (0 : Int32) (1 : Int32) y13 y14 y15 (0 : Int32) (1 : Int32) (((((y13.toInt64) <<< ((8 : Int32) &&& 0x3f).toInt64) ||| ((y14.toInt64) <<< ((16 : Int32) &&& 0x3f).toInt64)) ||| ((y15.toInt64) <<< ((24 : Int32) &&& 0x3f).toInt64)) ||| (0 : Int64)) (4294967040 : Int64) X7 eT7 O7 N7 K7 V7 hat (by decide) (Or.inr ⟨rfl, fun q => hc310_491 ((lw_eq _ _).mpr ((own_got4 hy13 hc218_488 hy14 hc226_489 hy15 hc234_490).mpr (hsp.mp q)))⟩)
    ·refine wcy (pc := 234) (pc' := 249) X7 hx hby at_234 (flt hc234_490).2.1 (by decide) (by decide) ?_
     refine wic X7 hx hby at_249 ?_
     exact J250_4 _ _ _ x10 kx10 at_ y13 y14 y15 X7 eT7 O7 N7 K7 V7 hat (fun q => hc234_490 (own_small ((hsp.mp q).2.2)))
   ·refine wcy (pc := 226) (pc' := 249) X7 hx hby at_226 (flt hc226_489).2.1 (by decide) (by decide) ?_
    refine wic X7 hx hby at_249 ?_
    exact J250_4 _ _ _ x10 kx10 at_ y13 y14 y15 X7 eT7 O7 N7 K7 V7 hat (fun q => hc226_489 (own_small ((hsp.mp q).2.1)))
  ·refine wcy (pc := 218) (pc' := 249) X7 hx hby at_218 (flt hc218_488).2.1 (by decide) (by decide) ?_
   show Ends _ _ _ _ T7 (mkF m 249 #[cj q0, cs, ci p1, cj q2, cs, cj q3, cs, ci p4, ci 4, ci at_, cr x10, ci 1, ci 0, ci y13, ci y14, ci y15, ci 0, cu, cu, cu, cu, cu] []) _ _ _
   refine wic X7 hx hby at_249 ?_
   exact J250_4 _ _ _ x10 kx10 at_ y13 y14 y15 X7 eT7 O7 N7 K7 V7 hat (fun q => hc218_488 (own_small ((hsp.mp q).1)))
 have J250_5 : ∀ (T6 : State) (h6 : Heap) (lcs : List Loc) (x10 : Addr) (kx10 : ClassId) (at_ : Int32) (y13 : Int32) (y14 : Int32) (y15 : Int32) (y16 : Int32) (X6 : Stand p l e room_1 s m #[(.long q0), (.int p1), (.long q2), (.long q3), (.int p4)] below meth c T6 lcs 1 7) (eT6 : T6.heap = h6) (O6 : Old Z n0 h6) (N6 : Fr n0 lcs) (K6 : Keep h0 h6 []) (V6 : Arv Z h6 x10 kx10 .char (7 : Int32) [(.int c0_), (.int c1_), (.int c2_), (.int c3_), (.int c4_), (.int c5_), (.int c6_)] (.int 0)) (hat : at_ = 0 ∨ at_ = 1 ∨ at_ = 2 ∨ at_ = 3 ∨ at_ = 4 ∨ at_ = 5 ∨ at_ = 6) (hns : ¬ own_spec c0_ c1_ c2_ c3_ c4_ c5_ c6_ q0 at_ 5), Ends p e below s T6 (mkF m 250 #[cj q0, cs, ci p1, cj q2, cs, cj q3, cs, ci p4, ci 5, ci at_, cr x10, ci 1, ci 0, ci y13, ci y14, ci y15, ci y16, cu, cu, cu, cu, cu] [(.int 0)]) room_1.cells room_1.slots (fun v h L => v = some (.int 1) ∧ Fr n0 L) := by
  intro T6 h6 lcs x10 kx10 at_ y13 y14 y15 y16 X6 eT6 O6 N6 K6 V6 hat hns
  show Ends _ _ _ _ T6 (mkF m 250 #[cj q0, cs, ci p1, cj q2, cs, cj q3, cs, ci p4, ci 5, ci at_, cr x10, ci 1, ci 0, ci y13, ci y14, ci y15, ci y16, cu, cu, cu, cu, cu] [(.int 0)]) _ _ _
  refine wst X6 hx hby at_250 (l' := #[cj q0, cs, ci p1, cj q2, cs, cj q3, cs, ci p4, ci 5, ci at_, cr x10, ci 1, ci 0, ci y13, ci y14, ci y15, ci y16, ci 0, cu, cu, cu, cu]) rfl ?_
  refine wil X6 hx hby at_252 rfl ?_
  refine .go (fun _ => XS.i2l X6.here hx rfl (hb hby at_254) rfl) ?_
  show Ends _ _ _ _ T6 (mkF m 255 #[cj q0, cs, ci p1, cj q2, cs, cj q3, cs, ci p4, ci 5, ci at_, cr x10, ci 1, ci 0, ci y13, ci y14, ci y15, ci y16, ci 0, cu, cu, cu, cu] [(.long (y13.toInt64))]) _ _ _
  refine wbp X6 hx hby at_255 ?_
  refine .go (fun _ => XS.lshl X6.here hx rfl (hb hby at_257) rfl) ?_
  refine wil X6 hx hby at_258 rfl ?_
  refine .go (fun _ => XS.i2l X6.here hx rfl (hb hby at_260) rfl) ?_
  refine wbp X6 hx hby at_261 ?_
  show Ends _ _ _ _ T6 (mkF m 263 #[cj q0, cs, ci p1, cj q2, cs, cj q3, cs, ci p4, ci 5, ci at_, cr x10, ci 1, ci 0, ci y13, ci y14, ci y15, ci y16, ci 0, cu, cu, cu, cu] [(.int 16), (.long (y14.toInt64)), (.long ((y13.toInt64) <<< ((8 : Int32) &&& 0x3f).toInt64))]) _ _ _
  refine .go (fun _ => XS.lshl X6.here hx rfl (hb hby at_263) rfl) ?_
  refine .go (fun _ => XS.lor X6.here hx rfl (hb hby at_264) rfl) ?_
  refine wil X6 hx hby at_265 rfl ?_
  refine .go (fun _ => XS.i2l X6.here hx rfl (hb hby at_267) rfl) ?_
  refine wbp X6 hx hby at_268 ?_
  show Ends _ _ _ _ T6 (mkF m 270 #[cj q0, cs, ci p1, cj q2, cs, cj q3, cs, ci p4, ci 5, ci at_, cr x10, ci 1, ci 0, ci y13, ci y14, ci y15, ci y16, ci 0, cu, cu, cu, cu] [(.int 24), (.long (y15.toInt64)), (.long (((y13.toInt64) <<< ((8 : Int32) &&& 0x3f).toInt64) ||| ((y14.toInt64) <<< ((16 : Int32) &&& 0x3f).toInt64)))]) _ _ _
  refine .go (fun _ => XS.lshl X6.here hx rfl (hb hby at_270) rfl) ?_
  refine .go (fun _ => XS.lor X6.here hx rfl (hb hby at_271) rfl) ?_
  refine wil X6 hx hby at_272 rfl ?_
  refine .go (fun _ => XS.i2l X6.here hx rfl (hb hby at_274) rfl) ?_
  refine wbp X6 hx hby at_275 ?_
  show Ends _ _ _ _ T6 (mkF m 277 #[cj q0, cs, ci p1, cj q2, cs, cj q3, cs, ci p4, ci 5, ci at_, cr x10, ci 1, ci 0, ci y13, ci y14, ci y15, ci y16, ci 0, cu, cu, cu, cu] [(.int 32), (.long (y16.toInt64)), (.long ((((y13.toInt64) <<< ((8 : Int32) &&& 0x3f).toInt64) ||| ((y14.toInt64) <<< ((16 : Int32) &&& 0x3f).toInt64)) ||| ((y15.toInt64) <<< ((24 : Int32) &&& 0x3f).toInt64)))]) _ _ _
  refine .go (fun _ => XS.lshl X6.here hx rfl (hb hby at_277) rfl) ?_
  refine .go (fun _ => XS.lor X6.here hx rfl (hb hby at_278) rfl) ?_
  refine .go (fun _ => XS.lstore X6.here hx rfl (hb hby at_279) rfl (l' := #[cj q0, cs, ci p1, cj q2, cs, cj q3, cs, ci p4, ci 5, ci at_, cr x10, ci 1, ci 0, ci y13, ci y14, ci y15, ci y16, ci 0, cj (((((y13.toInt64) <<< ((8 : Int32) &&& 0x3f).toInt64) ||| ((y14.toInt64) <<< ((16 : Int32) &&& 0x3f).toInt64)) ||| ((y15.toInt64) <<< ((24 : Int32) &&& 0x3f).toInt64)) ||| ((y16.toInt64) <<< ((32 : Int32) &&& 0x3f).toInt64)), cs, cu, cu]) rfl) ?_
  refine wil X6 hx hby at_281 rfl ?_
  refine wic X6 hx hby at_283 ?_
  show Ends _ _ _ _ T6 (mkF m 284 #[cj q0, cs, ci p1, cj q2, cs, cj q3, cs, ci p4, ci 5, ci at_, cr x10, ci 1, ci 0, ci y13, ci y14, ci y15, ci y16, ci 0, cj (((((y13.toInt64) <<< ((8 : Int32) &&& 0x3f).toInt64) ||| ((y14.toInt64) <<< ((16 : Int32) &&& 0x3f).toInt64)) ||| ((y15.toInt64) <<< ((24 : Int32) &&& 0x3f).toInt64)) ||| ((y16.toInt64) <<< ((32 : Int32) &&& 0x3f).toInt64)), cs, cu, cu] [(.int 4), (.int 5)]) _ _ _
  refine wcy (pc := 284) (pc' := 293) X6 hx hby at_284 (feq (by decide : ¬ ((5 : Int32) = (4 : Int32)))).2 (by decide) (by decide) ?_
  refine Ends.go (X6.ldc2Long hx hown (mvT hZ (ow hw 149 rfl)) (g := (mkF m 293 #[cj q0, cs, ci p1, cj q2, cs, cj q3, cs, ci p4, ci 5, ci at_, cr x10, ci 1, ci 0, ci y13, ci y14, ci y15, ci y16, ci 0, cj (((((y13.toInt64) <<< ((8 : Int32) &&& 0x3f).toInt64) ||| ((y14.toInt64) <<< ((16 : Int32) &&& 0x3f).toInt64)) ||| ((y15.toInt64) <<< ((24 : Int32) &&& 0x3f).toInt64)) ||| ((y16.toInt64) <<< ((32 : Int32) &&& 0x3f).toInt64)), cs, cu, cu] [])) rfl (hb hby at_293)) ?_
  refine .go (fun _ => XS.lstore X6.here hx rfl (hb hby at_296) rfl (l' := #[cj q0, cs, ci p1, cj q2, cs, cj q3, cs, ci p4, ci 5, ci at_, cr x10, ci 1, ci 0, ci y13, ci y14, ci y15, ci y16, ci 0, cj (((((y13.toInt64) <<< ((8 : Int32) &&& 0x3f).toInt64) ||| ((y14.toInt64) <<< ((16 : Int32) &&& 0x3f).toInt64)) ||| ((y15.toInt64) <<< ((24 : Int32) &&& 0x3f).toInt64)) ||| ((y16.toInt64) <<< ((32 : Int32) &&& 0x3f).toInt64)), cs, cj (1099511627520 : Int64), cs]) rfl) ?_
  refine wil X6 hx hby at_298 rfl ?_
  refine wiy (pc := 300) (pc' := 317) X6 hx hby at_300 ((if0 _ _).trans (teq (by decide : (0 : Int32) = (0 : Int32))).1) (by decide) (by decide) ?_
  show Ends _ _ _ _ T6 (mkF m 317 #[cj q0, cs, ci p1, cj q2, cs, cj q3, cs, ci p4, ci 5, ci at_, cr x10, ci 1, ci 0, ci y13, ci y14, ci y15, ci y16, ci 0, cj (((((y13.toInt64) <<< ((8 : Int32) &&& 0x3f).toInt64) ||| ((y14.toInt64) <<< ((16 : Int32) &&& 0x3f).toInt64)) ||| ((y15.toInt64) <<< ((24 : Int32) &&& 0x3f).toInt64)) ||| ((y16.toInt64) <<< ((32 : Int32) &&& 0x3f).toInt64)), cs, cj (1099511627520 : Int64), cs] []) _ _ _
  refine wic X6 hx hby at_317 ?_
  refine wst X6 hx hby at_318 (l' := #[cj q0, cs, ci p1, cj q2, cs, cj q3, cs, ci p4, ci 5, ci at_, cr x10, ci 1, ci 0, ci y13, ci y14, ci y15, ci y16, ci 0, cj (((((y13.toInt64) <<< ((8 : Int32) &&& 0x3f).toInt64) ||| ((y14.toInt64) <<< ((16 : Int32) &&& 0x3f).toInt64)) ||| ((y15.toInt64) <<< ((24 : Int32) &&& 0x3f).toInt64)) ||| ((y16.toInt64) <<< ((32 : Int32) &&& 0x3f).toInt64)), cs, cj (1099511627520 : Int64), cs]) rfl ?_
  exact J320s _ _ _ x10 kx10 at_ (5 : Int32) (0 : Int32) (1 : Int32) y13 y14 y15 y16 (0 : Int32) (((((y13.toInt64) <<< ((8 : Int32) &&& 0x3f).toInt64) ||| ((y14.toInt64) <<< ((16 : Int32) &&& 0x3f).toInt64)) ||| ((y15.toInt64) <<< ((24 : Int32) &&& 0x3f).toInt64)) ||| ((y16.toInt64) <<< ((32 : Int32) &&& 0x3f).toInt64)) (1099511627520 : Int64) X6 eT6 O6 N6 K6 V6 hat (by decide) (Or.inr ⟨rfl, hns⟩)
 have J213_5 : ∀ (T7 : State) (h7 : Heap) (lcs : List Loc) (x10 : Addr) (kx10 : ClassId) (at_ : Int32) (y13 : Int32) (y14 : Int32) (y15 : Int32) (y16 : Int32) (X7 : Stand p l e room_1 s m #[(.long q0), (.int p1), (.long q2), (.long q3), (.int p4)] below meth c T7 lcs 1 7) (eT7 : T7.heap = h7) (O7 : Old Z n0 h7) (N7 : Fr n0 lcs) (K7 : Keep h0 h7 []) (V7 : Arv Z h7 x10 kx10 .char (7 : Int32) [(.int c0_), (.int c1_), (.int c2_), (.int c3_), (.int c4_), (.int c5_), (.int c6_)] (.int 0)) (hat : at_ = 0 ∨ at_ = 1 ∨ at_ = 2 ∨ at_ = 3 ∨ at_ = 4 ∨ at_ = 5 ∨ at_ = 6) (hsp : own_spec c0_ c1_ c2_ c3_ c4_ c5_ c6_ q0 at_ 5 ↔ (y13 = (((((q0.toUInt64 >>> ((8 : Int32) &&& 0x3f).toInt64.toUInt64).toInt64) &&& (255 : Int64)).toInt32).toUInt32.toUInt16.toUInt32.toInt32) ∧ y14 = (((((q0.toUInt64 >>> ((16 : Int32) &&& 0x3f).toInt64.toUInt64).toInt64) &&& (255 : Int64)).toInt32).toUInt32.toUInt16.toUInt32.toInt32) ∧ y15 = (((((q0.toUInt64 >>> ((24 : Int32) &&& 0x3f).toInt64.toUInt64).toInt64) &&& (255 : Int64)).toInt32).toUInt32.toUInt16.toUInt32.toInt32) ∧ y16 = (((((q0.toUInt64 >>> ((32 : Int32) &&& 0x3f).toInt64.toUInt64).toInt64) &&& (255 : Int64)).toInt32).toUInt32.toUInt16.toUInt32.toInt32))) (hy13 : 0 ≤ y13.toInt ∧ y13.toInt < 65536) (hy14 : 0 ≤ y14.toInt ∧ y14.toInt < 65536) (hy15 : 0 ≤ y15.toInt ∧ y15.toInt < 65536) (hy16 : 0 ≤ y16.toInt ∧ y16.toInt < 65536), Ends p e below s T7 (mkF m 213 #[cj q0, cs, ci p1, cj q2, cs, cj q3, cs, ci p4, ci 5, ci at_, cr x10, ci 1, ci 0, ci y13, ci y14, ci y15, ci y16, cu, cu, cu, cu, cu] []) room_1.cells room_1.slots (fun v h L => v = some (.int 1) ∧ Fr n0 L) := by
  intro T7 h7 lcs x10 kx10 at_ y13 y14 y15 y16 X7 eT7 O7 N7 K7 V7 hat hsp hy13 hy14 hy15 hy16
  show Ends _ _ _ _ T7 (mkF m 213 #[cj q0, cs, ci p1, cj q2, cs, cj q3, cs, ci p4, ci 5, ci at_, cr x10, ci 1, ci 0, ci y13, ci y14, ci y15, ci y16, cu, cu, cu, cu, cu] []) _ _ _
  refine wil X7 hx hby at_213 rfl ?_
  refine wsp X7 hx hby at_215 ?_
  show Ends _ _ _ _ T7 (mkF m 218 #[cj q0, cs, ci p1, cj q2, cs, cj q3, cs, ci p4, ci 5, ci at_, cr x10, ci 1, ci 0, ci y13, ci y14, ci y15, ci y16, cu, cu, cu, cu, cu] [(.int 256), (.int y13)]) _ _ _
  by_cases hc218_492 : y13 < (256 : Int32)
  ·refine wcn X7 hx hby at_218 (tlt hc218_492).2.1 ?_
   refine wil X7 hx hby at_221 rfl ?_
   refine wsp X7 hx hby at_223 ?_
   by_cases hc226_493 : y14 < (256 : Int32)
   ·refine wcn X7 hx hby at_226 (tlt hc226_493).2.1 ?_
    refine wil X7 hx hby at_229 rfl ?_
    show Ends _ _ _ _ T7 (mkF m 231 #[cj q0, cs, ci p1, cj q2, cs, cj q3, cs, ci p4, ci 5, ci at_, cr x10, ci 1, ci 0, ci y13, ci y14, ci y15, ci y16, cu, cu, cu, cu, cu] [(.int y15)]) _ _ _
    refine wsp X7 hx hby at_231 ?_
    by_cases hc234_494 : y15 < (256 : Int32)
    ·refine wcn X7 hx hby at_234 (tlt hc234_494).2.1 ?_
     refine wil X7 hx hby at_237 rfl ?_
     refine wsp X7 hx hby at_239 ?_
     by_cases hc242_495 : y16 < (256 : Int32)
     ·refine wcn X7 hx hby at_242 (tlt hc242_495).2.1 ?_
      show Ends _ _ _ _ T7 (mkF m 245 #[cj q0, cs, ci p1, cj q2, cs, cj q3, cs, ci p4, ci 5, ci at_, cr x10, ci 1, ci 0, ci y13, ci y14, ci y15, ci y16, cu, cu, cu, cu, cu] []) _ _ _
      refine wic X7 hx hby at_245 ?_
      refine wgo (pc := 246) (pc' := 250) X7 hx hby at_246 (by decide) (by decide) ?_
      refine wst X7 hx hby at_250 (l' := #[cj q0, cs, ci p1, cj q2, cs, cj q3, cs, ci p4, ci 5, ci at_, cr x10, ci 1, ci 0, ci y13, ci y14, ci y15, ci y16, ci 1, cu, cu, cu, cu]) rfl ?_
      refine wil X7 hx hby at_252 rfl ?_
      refine .go (fun _ => XS.i2l X7.here hx rfl (hb hby at_254) rfl) ?_
      show Ends _ _ _ _ T7 (mkF m 255 #[cj q0, cs, ci p1, cj q2, cs, cj q3, cs, ci p4, ci 5, ci at_, cr x10, ci 1, ci 0, ci y13, ci y14, ci y15, ci y16, ci 1, cu, cu, cu, cu] [(.long (y13.toInt64))]) _ _ _
      refine wbp X7 hx hby at_255 ?_
      refine .go (fun _ => XS.lshl X7.here hx rfl (hb hby at_257) rfl) ?_
      refine wil X7 hx hby at_258 rfl ?_
      refine .go (fun _ => XS.i2l X7.here hx rfl (hb hby at_260) rfl) ?_
      refine wbp X7 hx hby at_261 ?_
      show Ends _ _ _ _ T7 (mkF m 263 #[cj q0, cs, ci p1, cj q2, cs, cj q3, cs, ci p4, ci 5, ci at_, cr x10, ci 1, ci 0, ci y13, ci y14, ci y15, ci y16, ci 1, cu, cu, cu, cu] [(.int 16), (.long (y14.toInt64)), (.long ((y13.toInt64) <<< ((8 : Int32) &&& 0x3f).toInt64))]) _ _ _
      refine .go (fun _ => XS.lshl X7.here hx rfl (hb hby at_263) rfl) ?_
      refine .go (fun _ => XS.lor X7.here hx rfl (hb hby at_264) rfl) ?_
      refine wil X7 hx hby at_265 rfl ?_
      refine .go (fun _ => XS.i2l X7.here hx rfl (hb hby at_267) rfl) ?_
      refine wbp X7 hx hby at_268 ?_
      show Ends _ _ _ _ T7 (mkF m 270 #[cj q0, cs, ci p1, cj q2, cs, cj q3, cs, ci p4, ci 5, ci at_, cr x10, ci 1, ci 0, ci y13, ci y14, ci y15, ci y16, ci 1, cu, cu, cu, cu] [(.int 24), (.long (y15.toInt64)), (.long (((y13.toInt64) <<< ((8 : Int32) &&& 0x3f).toInt64) ||| ((y14.toInt64) <<< ((16 : Int32) &&& 0x3f).toInt64)))]) _ _ _
      refine .go (fun _ => XS.lshl X7.here hx rfl (hb hby at_270) rfl) ?_
      refine .go (fun _ => XS.lor X7.here hx rfl (hb hby at_271) rfl) ?_
      refine wil X7 hx hby at_272 rfl ?_
      refine .go (fun _ => XS.i2l X7.here hx rfl (hb hby at_274) rfl) ?_
      refine wbp X7 hx hby at_275 ?_
      show Ends _ _ _ _ T7 (mkF m 277 #[cj q0, cs, ci p1, cj q2, cs, cj q3, cs, ci p4, ci 5, ci at_, cr x10, ci 1, ci 0, ci y13, ci y14, ci y15, ci y16, ci 1, cu, cu, cu, cu] [(.int 32), (.long (y16.toInt64)), (.long ((((y13.toInt64) <<< ((8 : Int32) &&& 0x3f).toInt64) ||| ((y14.toInt64) <<< ((16 : Int32) &&& 0x3f).toInt64)) ||| ((y15.toInt64) <<< ((24 : Int32) &&& 0x3f).toInt64)))]) _ _ _
      refine .go (fun _ => XS.lshl X7.here hx rfl (hb hby at_277) rfl) ?_
      refine .go (fun _ => XS.lor X7.here hx rfl (hb hby at_278) rfl) ?_
      refine .go (fun _ => XS.lstore X7.here hx rfl (hb hby at_279) rfl (l' := #[cj q0, cs, ci p1, cj q2, cs, cj q3, cs, ci p4, ci 5, ci at_, cr x10, ci 1, ci 0, ci y13, ci y14, ci y15, ci y16, ci 1, cj (((((y13.toInt64) <<< ((8 : Int32) &&& 0x3f).toInt64) ||| ((y14.toInt64) <<< ((16 : Int32) &&& 0x3f).toInt64)) ||| ((y15.toInt64) <<< ((24 : Int32) &&& 0x3f).toInt64)) ||| ((y16.toInt64) <<< ((32 : Int32) &&& 0x3f).toInt64)), cs, cu, cu]) rfl) ?_
      refine wil X7 hx hby at_281 rfl ?_
      refine wic X7 hx hby at_283 ?_
      show Ends _ _ _ _ T7 (mkF m 284 #[cj q0, cs, ci p1, cj q2, cs, cj q3, cs, ci p4, ci 5, ci at_, cr x10, ci 1, ci 0, ci y13, ci y14, ci y15, ci y16, ci 1, cj (((((y13.toInt64) <<< ((8 : Int32) &&& 0x3f).toInt64) ||| ((y14.toInt64) <<< ((16 : Int32) &&& 0x3f).toInt64)) ||| ((y15.toInt64) <<< ((24 : Int32) &&& 0x3f).toInt64)) ||| ((y16.toInt64) <<< ((32 : Int32) &&& 0x3f).toInt64)), cs, cu, cu] [(.int 4), (.int 5)]) _ _ _
      refine wcy (pc := 284) (pc' := 293) X7 hx hby at_284 (feq (by decide : ¬ ((5 : Int32) = (4 : Int32)))).2 (by decide) (by decide) ?_
      refine Ends.go (X7.ldc2Long hx hown (mvT hZ (ow hw 149 rfl)) (g := (mkF m 293 #[cj q0, cs, ci p1, cj q2, cs, cj q3, cs, ci p4, ci 5, ci at_, cr x10, ci 1, ci 0, ci y13, ci y14, ci y15, ci y16, ci 1, cj (((((y13.toInt64) <<< ((8 : Int32) &&& 0x3f).toInt64) ||| ((y14.toInt64) <<< ((16 : Int32) &&& 0x3f).toInt64)) ||| ((y15.toInt64) <<< ((24 : Int32) &&& 0x3f).toInt64)) ||| ((y16.toInt64) <<< ((32 : Int32) &&& 0x3f).toInt64)), cs, cu, cu] [])) rfl (hb hby at_293)) ?_
      refine .go (fun _ => XS.lstore X7.here hx rfl (hb hby at_296) rfl (l' := #[cj q0, cs, ci p1, cj q2, cs, cj q3, cs, ci p4, ci 5, ci at_, cr x10, ci 1, ci 0, ci y13, ci y14, ci y15, ci y16, ci 1, cj (((((y13.toInt64) <<< ((8 : Int32) &&& 0x3f).toInt64) ||| ((y14.toInt64) <<< ((16 : Int32) &&& 0x3f).toInt64)) ||| ((y15.toInt64) <<< ((24 : Int32) &&& 0x3f).toInt64)) ||| ((y16.toInt64) <<< ((32 : Int32) &&& 0x3f).toInt64)), cs, cj (1099511627520 : Int64), cs]) rfl) ?_
      refine wil X7 hx hby at_298 rfl ?_
      refine win X7 hx hby at_300 ((if0 _ _).trans (feq (by decide : ¬ ((1 : Int32) = (0 : Int32)))).1) ?_
      show Ends _ _ _ _ T7 (mkF m 303 #[cj q0, cs, ci p1, cj q2, cs, cj q3, cs, ci p4, ci 5, ci at_, cr x10, ci 1, ci 0, ci y13, ci y14, ci y15, ci y16, ci 1, cj (((((y13.toInt64) <<< ((8 : Int32) &&& 0x3f).toInt64) ||| ((y14.toInt64) <<< ((16 : Int32) &&& 0x3f).toInt64)) ||| ((y15.toInt64) <<< ((24 : Int32) &&& 0x3f).toInt64)) ||| ((y16.toInt64) <<< ((32 : Int32) &&& 0x3f).toInt64)), cs, cj (1099511627520 : Int64), cs] []) _ _ _
      refine .go (fun _ => XS.lload X7.here hx rfl (hb hby at_303) rfl) ?_
      refine .go (fun _ => XS.lloadN X7.here hx rfl (hb hby at_305) rfl) ?_
      refine .go (fun _ => XS.lload X7.here hx rfl (hb hby at_306) rfl) ?_
      refine .go (fun _ => XS.land X7.here hx rfl (hb hby at_308) rfl) ?_
      refine .go (fun _ => XS.lcmp X7.here hx rfl (hb hby at_309) rfl) ?_
      show Ends _ _ _ _ T7 (mkF m 310 #[cj q0, cs, ci p1, cj q2, cs, cj q3, cs, ci p4, ci 5, ci at_, cr x10, ci 1, ci 0, ci y13, ci y14, ci y15, ci y16, ci 1, cj (((((y13.toInt64) <<< ((8 : Int32) &&& 0x3f).toInt64) ||| ((y14.toInt64) <<< ((16 : Int32) &&& 0x3f).toInt64)) ||| ((y15.toInt64) <<< ((24 : Int32) &&& 0x3f).toInt64)) ||| ((y16.toInt64) <<< ((32 : Int32) &&& 0x3f).toInt64)), cs, cj (1099511627520 : Int64), cs] [(.int (lcmpW (((((y13.toInt64) <<< ((8 : Int32) &&& 0x3f).toInt64) ||| ((y14.toInt64) <<< ((16 : Int32) &&& 0x3f).toInt64)) ||| ((y15.toInt64) <<< ((24 : Int32) &&& 0x3f).toInt64)) ||| ((y16.toInt64) <<< ((32 : Int32) &&& 0x3f).toInt64)) (q0 &&& (1099511627520 : Int64))))]) _ _ _
      by_cases hc310_496 : (lcmpW (((((y13.toInt64) <<< ((8 : Int32) &&& 0x3f).toInt64) ||| ((y14.toInt64) <<< ((16 : Int32) &&& 0x3f).toInt64)) ||| ((y15.toInt64) <<< ((24 : Int32) &&& 0x3f).toInt64)) ||| ((y16.toInt64) <<< ((32 : Int32) &&& 0x3f).toInt64)) (q0 &&& (1099511627520 : Int64))) = (0 : Int32)
      ·refine win X7 hx hby at_310 ((if0 _ _).trans (teq hc310_496).2) ?_
       refine wic X7 hx hby at_313 ?_
       refine wgo (pc := 314) (pc' := 318) X7 hx hby at_314 (by decide) (by decide) ?_
       refine wst X7 hx hby at_318 (l' := #[cj q0, cs, ci p1, cj q2, cs, cj q3, cs, ci p4, ci 5, ci at_, cr x10, ci 1, ci 1, ci y13, ci y14, ci y15, ci y16, ci 1, cj (((((y13.toInt64) <<< ((8 : Int32) &&& 0x3f).toInt64) ||| ((y14.toInt64) <<< ((16 : Int32) &&& 0x3f).toInt64)) ||| ((y15.toInt64) <<< ((24 : Int32) &&& 0x3f).toInt64)) ||| ((y16.toInt64) <<< ((32 : Int32) &&& 0x3f).toInt64)), cs, cj (1099511627520 : Int64), cs]) rfl ?_
       exact J320s _ _ _ x10 kx10 at_ (5 : Int32) (1 : Int32) (1 : Int32) y13 y14 y15 y16 (1 : Int32) (((((y13.toInt64) <<< ((8 : Int32) &&& 0x3f).toInt64) ||| ((y14.toInt64) <<< ((16 : Int32) &&& 0x3f).toInt64)) ||| ((y15.toInt64) <<< ((24 : Int32) &&& 0x3f).toInt64)) ||| ((y16.toInt64) <<< ((32 : Int32) &&& 0x3f).toInt64)) (1099511627520 : Int64) X7 eT7 O7 N7 K7 V7 hat (by decide) (Or.inl ⟨rfl, hsp.mpr ((own_got5 hy13 hc218_492 hy14 hc226_493 hy15 hc234_494 hy16 hc242_495).mp ((lw_eq _ _).mp hc310_496))⟩)
      ·refine wiy (pc := 310) (pc' := 317) X7 hx hby at_310 ((if0 _ _).trans (feq hc310_496).2) (by decide) (by decide) ?_
       show Ends _ _ _ _ T7 (mkF m 317 #[cj q0, cs, ci p1, cj q2, cs, cj q3, cs, ci p4, ci 5, ci at_, cr x10, ci 1, ci 0, ci y13, ci y14, ci y15, ci y16, ci 1, cj (((((y13.toInt64) <<< ((8 : Int32) &&& 0x3f).toInt64) ||| ((y14.toInt64) <<< ((16 : Int32) &&& 0x3f).toInt64)) ||| ((y15.toInt64) <<< ((24 : Int32) &&& 0x3f).toInt64)) ||| ((y16.toInt64) <<< ((32 : Int32) &&& 0x3f).toInt64)), cs, cj (1099511627520 : Int64), cs] []) _ _ _
       refine wic X7 hx hby at_317 ?_
       refine wst X7 hx hby at_318 (l' := #[cj q0, cs, ci p1, cj q2, cs, cj q3, cs, ci p4, ci 5, ci at_, cr x10, ci 1, ci 0, ci y13, ci y14, ci y15, ci y16, ci 1, cj (((((y13.toInt64) <<< ((8 : Int32) &&& 0x3f).toInt64) ||| ((y14.toInt64) <<< ((16 : Int32) &&& 0x3f).toInt64)) ||| ((y15.toInt64) <<< ((24 : Int32) &&& 0x3f).toInt64)) ||| ((y16.toInt64) <<< ((32 : Int32) &&& 0x3f).toInt64)), cs, cj (1099511627520 : Int64), cs]) rfl ?_
       exact J320s _ _ _ x10 kx10 at_ (5 : Int32) (0 : Int32) (1 : Int32) y13 y14 y15 y16 (1 : Int32) (((((y13.toInt64) <<< ((8 : Int32) &&& 0x3f).toInt64) ||| ((y14.toInt64) <<< ((16 : Int32) &&& 0x3f).toInt64)) ||| ((y15.toInt64) <<< ((24 : Int32) &&& 0x3f).toInt64)) ||| ((y16.toInt64) <<< ((32 : Int32) &&& 0x3f).toInt64)) (1099511627520 : Int64) X7 eT7 O7 N7 K7 V7 hat (by decide) (Or.inr ⟨rfl, fun q => hc310_496 ((lw_eq _ _).mpr ((own_got5 hy13 hc218_492 hy14 hc226_493 hy15 hc234_494 hy16 hc242_495).mpr (hsp.mp q)))⟩)
     ·refine wcy (pc := 242) (pc' := 249) X7 hx hby at_242 (flt hc242_495).2.1 (by decide) (by decide) ?_
      refine wic X7 hx hby at_249 ?_
      exact J250_5 _ _ _ x10 kx10 at_ y13 y14 y15 y16 X7 eT7 O7 N7 K7 V7 hat (fun q => hc242_495 (own_small ((hsp.mp q).2.2.2)))
    ·refine wcy (pc := 234) (pc' := 249) X7 hx hby at_234 (flt hc234_494).2.1 (by decide) (by decide) ?_
     show Ends _ _ _ _ T7 (mkF m 249 #[cj q0, cs, ci p1, cj q2, cs, cj q3, cs, ci p4, ci 5, ci at_, cr x10, ci 1, ci 0, ci y13, ci y14, ci y15, ci y16, cu, cu, cu, cu, cu] []) _ _ _
     refine wic X7 hx hby at_249 ?_
     exact J250_5 _ _ _ x10 kx10 at_ y13 y14 y15 y16 X7 eT7 O7 N7 K7 V7 hat (fun q => hc234_494 (own_small ((hsp.mp q).2.2.1)))
   ·refine wcy (pc := 226) (pc' := 249) X7 hx hby at_226 (flt hc226_493).2.1 (by decide) (by decide) ?_
    refine wic X7 hx hby at_249 ?_
    exact J250_5 _ _ _ x10 kx10 at_ y13 y14 y15 y16 X7 eT7 O7 N7 K7 V7 hat (fun q => hc226_493 (own_small ((hsp.mp q).2.1)))
  ·refine wcy (pc := 218) (pc' := 249) X7 hx hby at_218 (flt hc218_492).2.1 (by decide) (by decide) ?_
   refine wic X7 hx hby at_249 ?_
   show Ends _ _ _ _ T7 (mkF m 250 #[cj q0, cs, ci p1, cj q2, cs, cj q3, cs, ci p4, ci 5, ci at_, cr x10, ci 1, ci 0, ci y13, ci y14, ci y15, ci y16, cu, cu, cu, cu, cu] [(.int 0)]) _ _ _
   exact J250_5 _ _ _ x10 kx10 at_ y13 y14 y15 y16 X7 eT7 O7 N7 K7 V7 hat (fun q => hc218_492 (own_small ((hsp.mp q).1)))
 rcases hat with rfl | rfl | rfl | rfl | rfl | rfl | rfl
 ·rcases hlen with rfl | rfl
  ·show Ends _ _ _ _ T175 (mkF m 142 #[cj q0, cs, ci p1, cj q2, cs, cj q3, cs, ci p4, ci 4, ci 0, cr b161, cu, cu, cu, cu, cu, cu, cu, cu, cu, cu, cu] []) _ _ _
   refine wbp X175 hx hby at_142 ?_
   refine wil X175 hx hby at_144 rfl ?_
   refine wis X175 hx hby at_146 ?_
   refine wil X175 hx hby at_147 rfl ?_
   show Ends _ _ _ _ T175 (mkF m 149 #[cj q0, cs, ci p1, cj q2, cs, cj q3, cs, ci p4, ci 4, ci 0, cr b161, cu, cu, cu, cu, cu, cu, cu, cu, cu, cu, cu] [(.int 4), (.int 7)]) _ _ _
   refine wcn X175 hx hby at_149 (flt (by decide : ¬ ((7 : Int32) < (4 : Int32)))).1 ?_
   refine wic X175 hx hby at_152 ?_
   refine wgo (pc := 153) (pc' := 157) X175 hx hby at_153 (by decide) (by decide) ?_
   refine wst X175 hx hby at_157 (l' := #[cj q0, cs, ci p1, cj q2, cs, cj q3, cs, ci p4, ci 4, ci 0, cr b161, ci 1, cu, cu, cu, cu, cu, cu, cu, cu, cu, cu]) rfl ?_
   refine wic X175 hx hby at_159 ?_
   show Ends _ _ _ _ T175 (mkF m 160 #[cj q0, cs, ci p1, cj q2, cs, cj q3, cs, ci p4, ci 4, ci 0, cr b161, ci 1, cu, cu, cu, cu, cu, cu, cu, cu, cu, cu] [(.int 0)]) _ _ _
   refine wst X175 hx hby at_160 (l' := #[cj q0, cs, ci p1, cj q2, cs, cj q3, cs, ci p4, ci 4, ci 0, cr b161, ci 1, ci 0, cu, cu, cu, cu, cu, cu, cu, cu, cu]) rfl ?_
   refine wil X175 hx hby at_162 rfl ?_
   refine win X175 hx hby at_164 ((if0 _ _).trans (feq (by decide : ¬ ((1 : Int32) = (0 : Int32)))).1) ?_
   refine wal X175 hx hby at_167 rfl rfl ?_
   refine wil X175 hx hby at_169 rfl ?_
   show Ends _ _ _ _ T175 (mkF m 171 #[cj q0, cs, ci p1, cj q2, cs, cj q3, cs, ci p4, ci 4, ci 0, cr b161, ci 1, ci 0, cu, cu, cu, cu, cu, cu, cu, cu, cu] [(.int 0), (.ref b161)]) _ _ _
   refine wic X175 hx hby at_171 ?_
   refine wia X175 hx hby at_172 ?_
   obtain ⟨cl497, Ar497, q497, S497, M497, H497, G497⟩ := id V175
   have hin497 := inb_of (j := (1 : Int32)) S497 ⟨by decide, by decide⟩
   refine Ends.go (X175.caload hx (j := (1 : Int32)) (v := (.int c1_)) (by rw [e175]; exact Ar497.1) (State.isArrayOf_alike hZ.alike Ar497.2.1) Ar497.2.2 hin497 (H497.at hin497 rfl) (g := (mkF m 173 #[cj q0, cs, ci p1, cj q2, cs, cj q3, cs, ci p4, ci 4, ci 0, cr b161, ci 1, ci 0, cu, cu, cu, cu, cu, cu, cu, cu, cu] [(.int 1), (.ref b161)])) rfl rfl (hb hby at_173)) ?_
   refine wst X175 hx hby at_174 (l' := #[cj q0, cs, ci p1, cj q2, cs, cj q3, cs, ci p4, ci 4, ci 0, cr b161, ci 1, ci 0, ci c1_, cu, cu, cu, cu, cu, cu, cu, cu]) rfl ?_
   refine wal X175 hx hby at_176 rfl rfl ?_
   show Ends _ _ _ _ T175 (mkF m 178 #[cj q0, cs, ci p1, cj q2, cs, cj q3, cs, ci p4, ci 4, ci 0, cr b161, ci 1, ci 0, ci c1_, cu, cu, cu, cu, cu, cu, cu, cu] [(.ref b161)]) _ _ _
   refine wil X175 hx hby at_178 rfl ?_
   refine wic X175 hx hby at_180 ?_
   refine wia X175 hx hby at_181 ?_
   obtain ⟨cl498, Ar498, q498, S498, M498, H498, G498⟩ := id V175
   have hin498 := inb_of (j := (2 : Int32)) S498 ⟨by decide, by decide⟩
   refine Ends.go (X175.caload hx (j := (2 : Int32)) (v := (.int c2_)) (by rw [e175]; exact Ar498.1) (State.isArrayOf_alike hZ.alike Ar498.2.1) Ar498.2.2 hin498 (H498.at hin498 rfl) (g := (mkF m 182 #[cj q0, cs, ci p1, cj q2, cs, cj q3, cs, ci p4, ci 4, ci 0, cr b161, ci 1, ci 0, ci c1_, cu, cu, cu, cu, cu, cu, cu, cu] [(.int 2), (.ref b161)])) rfl rfl (hb hby at_182)) ?_
   refine wst X175 hx hby at_183 (l' := #[cj q0, cs, ci p1, cj q2, cs, cj q3, cs, ci p4, ci 4, ci 0, cr b161, ci 1, ci 0, ci c1_, ci c2_, cu, cu, cu, cu, cu, cu, cu]) rfl ?_
   show Ends _ _ _ _ T175 (mkF m 185 #[cj q0, cs, ci p1, cj q2, cs, cj q3, cs, ci p4, ci 4, ci 0, cr b161, ci 1, ci 0, ci c1_, ci c2_, cu, cu, cu, cu, cu, cu, cu] []) _ _ _
   refine wal X175 hx hby at_185 rfl rfl ?_
   refine wil X175 hx hby at_187 rfl ?_
   refine wic X175 hx hby at_189 ?_
   refine wia X175 hx hby at_190 ?_
   obtain ⟨cl499, Ar499, q499, S499, M499, H499, G499⟩ := id V175
   have hin499 := inb_of (j := (3 : Int32)) S499 ⟨by decide, by decide⟩
   refine Ends.go (X175.caload hx (j := (3 : Int32)) (v := (.int c3_)) (by rw [e175]; exact Ar499.1) (State.isArrayOf_alike hZ.alike Ar499.2.1) Ar499.2.2 hin499 (H499.at hin499 rfl) (g := (mkF m 191 #[cj q0, cs, ci p1, cj q2, cs, cj q3, cs, ci p4, ci 4, ci 0, cr b161, ci 1, ci 0, ci c1_, ci c2_, cu, cu, cu, cu, cu, cu, cu] [(.int 3), (.ref b161)])) rfl rfl (hb hby at_191)) ?_
   show Ends _ _ _ _ T175 (mkF m 192 #[cj q0, cs, ci p1, cj q2, cs, cj q3, cs, ci p4, ci 4, ci 0, cr b161, ci 1, ci 0, ci c1_, ci c2_, cu, cu, cu, cu, cu, cu, cu] [(.int c3_)]) _ _ _
   refine wst X175 hx hby at_192 (l' := #[cj q0, cs, ci p1, cj q2, cs, cj q3, cs, ci p4, ci 4, ci 0, cr b161, ci 1, ci 0, ci c1_, ci c2_, ci c3_, cu, cu, cu, cu, cu, cu]) rfl ?_
   refine wil X175 hx hby at_194 rfl ?_
   refine wic X175 hx hby at_196 ?_
   refine wcy (pc := 197) (pc' := 210) X175 hx hby at_197 (feq (by decide : ¬ ((4 : Int32) = (5 : Int32)))).2 (by decide) (by decide) ?_
   refine wic X175 hx hby at_210 ?_
   show Ends _ _ _ _ T175 (mkF m 211 #[cj q0, cs, ci p1, cj q2, cs, cj q3, cs, ci p4, ci 4, ci 0, cr b161, ci 1, ci 0, ci c1_, ci c2_, ci c3_, cu, cu, cu, cu, cu, cu] [(.int 0)]) _ _ _
   refine wst X175 hx hby at_211 (l' := #[cj q0, cs, ci p1, cj q2, cs, cj q3, cs, ci p4, ci 4, ci 0, cr b161, ci 1, ci 0, ci c1_, ci c2_, ci c3_, ci 0, cu, cu, cu, cu, cu]) rfl ?_
   exact J213_4 _ _ _ b161 _ (0 : Int32) c1_ c2_ c3_ X175 e175 O175 N175 K175 V175 (by decide) (own_spec_0_4 c0_ c1_ c2_ c3_ c4_ c5_ c6_ q0) hc1_ hc2_ hc3_
  ·show Ends _ _ _ _ T175 (mkF m 142 #[cj q0, cs, ci p1, cj q2, cs, cj q3, cs, ci p4, ci 5, ci 0, cr b161, cu, cu, cu, cu, cu, cu, cu, cu, cu, cu, cu] []) _ _ _
   refine wbp X175 hx hby at_142 ?_
   refine wil X175 hx hby at_144 rfl ?_
   refine wis X175 hx hby at_146 ?_
   show Ends _ _ _ _ T175 (mkF m 147 #[cj q0, cs, ci p1, cj q2, cs, cj q3, cs, ci p4, ci 5, ci 0, cr b161, cu, cu, cu, cu, cu, cu, cu, cu, cu, cu, cu] [(.int 7)]) _ _ _
   refine wil X175 hx hby at_147 rfl ?_
   refine wcn X175 hx hby at_149 (flt (by decide : ¬ ((7 : Int32) < (5 : Int32)))).1 ?_
   refine wic X175 hx hby at_152 ?_
   refine wgo (pc := 153) (pc' := 157) X175 hx hby at_153 (by decide) (by decide) ?_
   refine wst X175 hx hby at_157 (l' := #[cj q0, cs, ci p1, cj q2, cs, cj q3, cs, ci p4, ci 5, ci 0, cr b161, ci 1, cu, cu, cu, cu, cu, cu, cu, cu, cu, cu]) rfl ?_
   show Ends _ _ _ _ T175 (mkF m 159 #[cj q0, cs, ci p1, cj q2, cs, cj q3, cs, ci p4, ci 5, ci 0, cr b161, ci 1, cu, cu, cu, cu, cu, cu, cu, cu, cu, cu] []) _ _ _
   refine wic X175 hx hby at_159 ?_
   refine wst X175 hx hby at_160 (l' := #[cj q0, cs, ci p1, cj q2, cs, cj q3, cs, ci p4, ci 5, ci 0, cr b161, ci 1, ci 0, cu, cu, cu, cu, cu, cu, cu, cu, cu]) rfl ?_
   refine wil X175 hx hby at_162 rfl ?_
   refine win X175 hx hby at_164 ((if0 _ _).trans (feq (by decide : ¬ ((1 : Int32) = (0 : Int32)))).1) ?_
   refine wal X175 hx hby at_167 rfl rfl ?_
   show Ends _ _ _ _ T175 (mkF m 169 #[cj q0, cs, ci p1, cj q2, cs, cj q3, cs, ci p4, ci 5, ci 0, cr b161, ci 1, ci 0, cu, cu, cu, cu, cu, cu, cu, cu, cu] [(.ref b161)]) _ _ _
   refine wil X175 hx hby at_169 rfl ?_
   refine wic X175 hx hby at_171 ?_
   refine wia X175 hx hby at_172 ?_
   obtain ⟨cl500, Ar500, q500, S500, M500, H500, G500⟩ := id V175
   have hin500 := inb_of (j := (1 : Int32)) S500 ⟨by decide, by decide⟩
   refine Ends.go (X175.caload hx (j := (1 : Int32)) (v := (.int c1_)) (by rw [e175]; exact Ar500.1) (State.isArrayOf_alike hZ.alike Ar500.2.1) Ar500.2.2 hin500 (H500.at hin500 rfl) (g := (mkF m 173 #[cj q0, cs, ci p1, cj q2, cs, cj q3, cs, ci p4, ci 5, ci 0, cr b161, ci 1, ci 0, cu, cu, cu, cu, cu, cu, cu, cu, cu] [(.int 1), (.ref b161)])) rfl rfl (hb hby at_173)) ?_
   refine wst X175 hx hby at_174 (l' := #[cj q0, cs, ci p1, cj q2, cs, cj q3, cs, ci p4, ci 5, ci 0, cr b161, ci 1, ci 0, ci c1_, cu, cu, cu, cu, cu, cu, cu, cu]) rfl ?_
   show Ends _ _ _ _ T175 (mkF m 176 #[cj q0, cs, ci p1, cj q2, cs, cj q3, cs, ci p4, ci 5, ci 0, cr b161, ci 1, ci 0, ci c1_, cu, cu, cu, cu, cu, cu, cu, cu] []) _ _ _
   refine wal X175 hx hby at_176 rfl rfl ?_
   refine wil X175 hx hby at_178 rfl ?_
   refine wic X175 hx hby at_180 ?_
   refine wia X175 hx hby at_181 ?_
   obtain ⟨cl501, Ar501, q501, S501, M501, H501, G501⟩ := id V175
   have hin501 := inb_of (j := (2 : Int32)) S501 ⟨by decide, by decide⟩
   refine Ends.go (X175.caload hx (j := (2 : Int32)) (v := (.int c2_)) (by rw [e175]; exact Ar501.1) (State.isArrayOf_alike hZ.alike Ar501.2.1) Ar501.2.2 hin501 (H501.at hin501 rfl) (g := (mkF m 182 #[cj q0, cs, ci p1, cj q2, cs, cj q3, cs, ci p4, ci 5, ci 0, cr b161, ci 1, ci 0, ci c1_, cu, cu, cu, cu, cu, cu, cu, cu] [(.int 2), (.ref b161)])) rfl rfl (hb hby at_182)) ?_
   show Ends _ _ _ _ T175 (mkF m 183 #[cj q0, cs, ci p1, cj q2, cs, cj q3, cs, ci p4, ci 5, ci 0, cr b161, ci 1, ci 0, ci c1_, cu, cu, cu, cu, cu, cu, cu, cu] [(.int c2_)]) _ _ _
   refine wst X175 hx hby at_183 (l' := #[cj q0, cs, ci p1, cj q2, cs, cj q3, cs, ci p4, ci 5, ci 0, cr b161, ci 1, ci 0, ci c1_, ci c2_, cu, cu, cu, cu, cu, cu, cu]) rfl ?_
   refine wal X175 hx hby at_185 rfl rfl ?_
   refine wil X175 hx hby at_187 rfl ?_
   refine wic X175 hx hby at_189 ?_
   refine wia X175 hx hby at_190 ?_
   show Ends _ _ _ _ T175 (mkF m 191 #[cj q0, cs, ci p1, cj q2, cs, cj q3, cs, ci p4, ci 5, ci 0, cr b161, ci 1, ci 0, ci c1_, ci c2_, cu, cu, cu, cu, cu, cu, cu] [(.int 3), (.ref b161)]) _ _ _
   obtain ⟨cl502, Ar502, q502, S502, M502, H502, G502⟩ := id V175
   have hin502 := inb_of (j := (3 : Int32)) S502 ⟨by decide, by decide⟩
   refine Ends.go (X175.caload hx (j := (3 : Int32)) (v := (.int c3_)) (by rw [e175]; exact Ar502.1) (State.isArrayOf_alike hZ.alike Ar502.2.1) Ar502.2.2 hin502 (H502.at hin502 rfl) (g := (mkF m 191 #[cj q0, cs, ci p1, cj q2, cs, cj q3, cs, ci p4, ci 5, ci 0, cr b161, ci 1, ci 0, ci c1_, ci c2_, cu, cu, cu, cu, cu, cu, cu] [(.int 3), (.ref b161)])) rfl rfl (hb hby at_191)) ?_
   refine wst X175 hx hby at_192 (l' := #[cj q0, cs, ci p1, cj q2, cs, cj q3, cs, ci p4, ci 5, ci 0, cr b161, ci 1, ci 0, ci c1_, ci c2_, ci c3_, cu, cu, cu, cu, cu, cu]) rfl ?_
   refine wil X175 hx hby at_194 rfl ?_
   refine wic X175 hx hby at_196 ?_
   refine wcn X175 hx hby at_197 (teq (by decide : (5 : Int32) = (5 : Int32))).2 ?_
   show Ends _ _ _ _ T175 (mkF m 200 #[cj q0, cs, ci p1, cj q2, cs, cj q3, cs, ci p4, ci 5, ci 0, cr b161, ci 1, ci 0, ci c1_, ci c2_, ci c3_, cu, cu, cu, cu, cu, cu] []) _ _ _
   refine wal X175 hx hby at_200 rfl rfl ?_
   refine wil X175 hx hby at_202 rfl ?_
   refine wic X175 hx hby at_204 ?_
   refine wia X175 hx hby at_205 ?_
   obtain ⟨cl503, Ar503, q503, S503, M503, H503, G503⟩ := id V175
   have hin503 := inb_of (j := (4 : Int32)) S503 ⟨by decide, by decide⟩
   refine Ends.go (X175.caload hx (j := (4 : Int32)) (v := (.int c4_)) (by rw [e175]; exact Ar503.1) (State.isArrayOf_alike hZ.alike Ar503.2.1) Ar503.2.2 hin503 (H503.at hin503 rfl) (g := (mkF m 206 #[cj q0, cs, ci p1, cj q2, cs, cj q3, cs, ci p4, ci 5, ci 0, cr b161, ci 1, ci 0, ci c1_, ci c2_, ci c3_, cu, cu, cu, cu, cu, cu] [(.int 4), (.ref b161)])) rfl rfl (hb hby at_206)) ?_
   show Ends _ _ _ _ T175 (mkF m 207 #[cj q0, cs, ci p1, cj q2, cs, cj q3, cs, ci p4, ci 5, ci 0, cr b161, ci 1, ci 0, ci c1_, ci c2_, ci c3_, cu, cu, cu, cu, cu, cu] [(.int c4_)]) _ _ _
   refine wgo (pc := 207) (pc' := 211) X175 hx hby at_207 (by decide) (by decide) ?_
   refine wst X175 hx hby at_211 (l' := #[cj q0, cs, ci p1, cj q2, cs, cj q3, cs, ci p4, ci 5, ci 0, cr b161, ci 1, ci 0, ci c1_, ci c2_, ci c3_, ci c4_, cu, cu, cu, cu, cu]) rfl ?_
   exact J213_5 _ _ _ b161 _ (0 : Int32) c1_ c2_ c3_ c4_ X175 e175 O175 N175 K175 V175 (by decide) (own_spec_0_5 c0_ c1_ c2_ c3_ c4_ c5_ c6_ q0) hc1_ hc2_ hc3_ hc4_
 ·rcases hlen with rfl | rfl
  ·show Ends _ _ _ _ T175 (mkF m 142 #[cj q0, cs, ci p1, cj q2, cs, cj q3, cs, ci p4, ci 4, ci 1, cr b161, cu, cu, cu, cu, cu, cu, cu, cu, cu, cu, cu] []) _ _ _
   refine wbp X175 hx hby at_142 ?_
   refine wil X175 hx hby at_144 rfl ?_
   show Ends _ _ _ _ T175 (mkF m 146 #[cj q0, cs, ci p1, cj q2, cs, cj q3, cs, ci p4, ci 4, ci 1, cr b161, cu, cu, cu, cu, cu, cu, cu, cu, cu, cu, cu] [(.int 1), (.int 7)]) _ _ _
   refine wis X175 hx hby at_146 ?_
   refine wil X175 hx hby at_147 rfl ?_
   refine wcn X175 hx hby at_149 (flt (by decide : ¬ ((6 : Int32) < (4 : Int32)))).1 ?_
   refine wic X175 hx hby at_152 ?_
   refine wgo (pc := 153) (pc' := 157) X175 hx hby at_153 (by decide) (by decide) ?_
   show Ends _ _ _ _ T175 (mkF m 157 #[cj q0, cs, ci p1, cj q2, cs, cj q3, cs, ci p4, ci 4, ci 1, cr b161, cu, cu, cu, cu, cu, cu, cu, cu, cu, cu, cu] [(.int 1)]) _ _ _
   refine wst X175 hx hby at_157 (l' := #[cj q0, cs, ci p1, cj q2, cs, cj q3, cs, ci p4, ci 4, ci 1, cr b161, ci 1, cu, cu, cu, cu, cu, cu, cu, cu, cu, cu]) rfl ?_
   refine wic X175 hx hby at_159 ?_
   refine wst X175 hx hby at_160 (l' := #[cj q0, cs, ci p1, cj q2, cs, cj q3, cs, ci p4, ci 4, ci 1, cr b161, ci 1, ci 0, cu, cu, cu, cu, cu, cu, cu, cu, cu]) rfl ?_
   refine wil X175 hx hby at_162 rfl ?_
   refine win X175 hx hby at_164 ((if0 _ _).trans (feq (by decide : ¬ ((1 : Int32) = (0 : Int32)))).1) ?_
   show Ends _ _ _ _ T175 (mkF m 167 #[cj q0, cs, ci p1, cj q2, cs, cj q3, cs, ci p4, ci 4, ci 1, cr b161, ci 1, ci 0, cu, cu, cu, cu, cu, cu, cu, cu, cu] []) _ _ _
   refine wal X175 hx hby at_167 rfl rfl ?_
   refine wil X175 hx hby at_169 rfl ?_
   refine wic X175 hx hby at_171 ?_
   refine wia X175 hx hby at_172 ?_
   obtain ⟨cl504, Ar504, q504, S504, M504, H504, G504⟩ := id V175
   have hin504 := inb_of (j := (2 : Int32)) S504 ⟨by decide, by decide⟩
   refine Ends.go (X175.caload hx (j := (2 : Int32)) (v := (.int c2_)) (by rw [e175]; exact Ar504.1) (State.isArrayOf_alike hZ.alike Ar504.2.1) Ar504.2.2 hin504 (H504.at hin504 rfl) (g := (mkF m 173 #[cj q0, cs, ci p1, cj q2, cs, cj q3, cs, ci p4, ci 4, ci 1, cr b161, ci 1, ci 0, cu, cu, cu, cu, cu, cu, cu, cu, cu] [(.int 2), (.ref b161)])) rfl rfl (hb hby at_173)) ?_
   show Ends _ _ _ _ T175 (mkF m 174 #[cj q0, cs, ci p1, cj q2, cs, cj q3, cs, ci p4, ci 4, ci 1, cr b161, ci 1, ci 0, cu, cu, cu, cu, cu, cu, cu, cu, cu] [(.int c2_)]) _ _ _
   refine wst X175 hx hby at_174 (l' := #[cj q0, cs, ci p1, cj q2, cs, cj q3, cs, ci p4, ci 4, ci 1, cr b161, ci 1, ci 0, ci c2_, cu, cu, cu, cu, cu, cu, cu, cu]) rfl ?_
   refine wal X175 hx hby at_176 rfl rfl ?_
   refine wil X175 hx hby at_178 rfl ?_
   refine wic X175 hx hby at_180 ?_
   refine wia X175 hx hby at_181 ?_
   show Ends _ _ _ _ T175 (mkF m 182 #[cj q0, cs, ci p1, cj q2, cs, cj q3, cs, ci p4, ci 4, ci 1, cr b161, ci 1, ci 0, ci c2_, cu, cu, cu, cu, cu, cu, cu, cu] [(.int 3), (.ref b161)]) _ _ _
   obtain ⟨cl505, Ar505, q505, S505, M505, H505, G505⟩ := id V175
   have hin505 := inb_of (j := (3 : Int32)) S505 ⟨by decide, by decide⟩
   refine Ends.go (X175.caload hx (j := (3 : Int32)) (v := (.int c3_)) (by rw [e175]; exact Ar505.1) (State.isArrayOf_alike hZ.alike Ar505.2.1) Ar505.2.2 hin505 (H505.at hin505 rfl) (g := (mkF m 182 #[cj q0, cs, ci p1, cj q2, cs, cj q3, cs, ci p4, ci 4, ci 1, cr b161, ci 1, ci 0, ci c2_, cu, cu, cu, cu, cu, cu, cu, cu] [(.int 3), (.ref b161)])) rfl rfl (hb hby at_182)) ?_
   refine wst X175 hx hby at_183 (l' := #[cj q0, cs, ci p1, cj q2, cs, cj q3, cs, ci p4, ci 4, ci 1, cr b161, ci 1, ci 0, ci c2_, ci c3_, cu, cu, cu, cu, cu, cu, cu]) rfl ?_
   refine wal X175 hx hby at_185 rfl rfl ?_
   refine wil X175 hx hby at_187 rfl ?_
   refine wic X175 hx hby at_189 ?_
   show Ends _ _ _ _ T175 (mkF m 190 #[cj q0, cs, ci p1, cj q2, cs, cj q3, cs, ci p4, ci 4, ci 1, cr b161, ci 1, ci 0, ci c2_, ci c3_, cu, cu, cu, cu, cu, cu, cu] [(.int 3), (.int 1), (.ref b161)]) _ _ _
   refine wia X175 hx hby at_190 ?_
   obtain ⟨cl506, Ar506, q506, S506, M506, H506, G506⟩ := id V175
   have hin506 := inb_of (j := (4 : Int32)) S506 ⟨by decide, by decide⟩
   refine Ends.go (X175.caload hx (j := (4 : Int32)) (v := (.int c4_)) (by rw [e175]; exact Ar506.1) (State.isArrayOf_alike hZ.alike Ar506.2.1) Ar506.2.2 hin506 (H506.at hin506 rfl) (g := (mkF m 191 #[cj q0, cs, ci p1, cj q2, cs, cj q3, cs, ci p4, ci 4, ci 1, cr b161, ci 1, ci 0, ci c2_, ci c3_, cu, cu, cu, cu, cu, cu, cu] [(.int 4), (.ref b161)])) rfl rfl (hb hby at_191)) ?_
   refine wst X175 hx hby at_192 (l' := #[cj q0, cs, ci p1, cj q2, cs, cj q3, cs, ci p4, ci 4, ci 1, cr b161, ci 1, ci 0, ci c2_, ci c3_, ci c4_, cu, cu, cu, cu, cu, cu]) rfl ?_
   refine wil X175 hx hby at_194 rfl ?_
   refine wic X175 hx hby at_196 ?_
   show Ends _ _ _ _ T175 (mkF m 197 #[cj q0, cs, ci p1, cj q2, cs, cj q3, cs, ci p4, ci 4, ci 1, cr b161, ci 1, ci 0, ci c2_, ci c3_, ci c4_, cu, cu, cu, cu, cu, cu] [(.int 5), (.int 4)]) _ _ _
   refine wcy (pc := 197) (pc' := 210) X175 hx hby at_197 (feq (by decide : ¬ ((4 : Int32) = (5 : Int32)))).2 (by decide) (by decide) ?_
   refine wic X175 hx hby at_210 ?_
   refine wst X175 hx hby at_211 (l' := #[cj q0, cs, ci p1, cj q2, cs, cj q3, cs, ci p4, ci 4, ci 1, cr b161, ci 1, ci 0, ci c2_, ci c3_, ci c4_, ci 0, cu, cu, cu, cu, cu]) rfl ?_
   exact J213_4 _ _ _ b161 _ (1 : Int32) c2_ c3_ c4_ X175 e175 O175 N175 K175 V175 (by decide) (own_spec_1_4 c0_ c1_ c2_ c3_ c4_ c5_ c6_ q0) hc2_ hc3_ hc4_
  ·show Ends _ _ _ _ T175 (mkF m 142 #[cj q0, cs, ci p1, cj q2, cs, cj q3, cs, ci p4, ci 5, ci 1, cr b161, cu, cu, cu, cu, cu, cu, cu, cu, cu, cu, cu] []) _ _ _
   refine wbp X175 hx hby at_142 ?_
   show Ends _ _ _ _ T175 (mkF m 144 #[cj q0, cs, ci p1, cj q2, cs, cj q3, cs, ci p4, ci 5, ci 1, cr b161, cu, cu, cu, cu, cu, cu, cu, cu, cu, cu, cu] [(.int 7)]) _ _ _
   refine wil X175 hx hby at_144 rfl ?_
   refine wis X175 hx hby at_146 ?_
   refine wil X175 hx hby at_147 rfl ?_
   refine wcn X175 hx hby at_149 (flt (by decide : ¬ ((6 : Int32) < (5 : Int32)))).1 ?_
   refine wic X175 hx hby at_152 ?_
   show Ends _ _ _ _ T175 (mkF m 153 #[cj q0, cs, ci p1, cj q2, cs, cj q3, cs, ci p4, ci 5, ci 1, cr b161, cu, cu, cu, cu, cu, cu, cu, cu, cu, cu, cu] [(.int 1)]) _ _ _
   refine wgo (pc := 153) (pc' := 157) X175 hx hby at_153 (by decide) (by decide) ?_
   refine wst X175 hx hby at_157 (l' := #[cj q0, cs, ci p1, cj q2, cs, cj q3, cs, ci p4, ci 5, ci 1, cr b161, ci 1, cu, cu, cu, cu, cu, cu, cu, cu, cu, cu]) rfl ?_
   refine wic X175 hx hby at_159 ?_
   refine wst X175 hx hby at_160 (l' := #[cj q0, cs, ci p1, cj q2, cs, cj q3, cs, ci p4, ci 5, ci 1, cr b161, ci 1, ci 0, cu, cu, cu, cu, cu, cu, cu, cu, cu]) rfl ?_
   refine wil X175 hx hby at_162 rfl ?_
   show Ends _ _ _ _ T175 (mkF m 164 #[cj q0, cs, ci p1, cj q2, cs, cj q3, cs, ci p4, ci 5, ci 1, cr b161, ci 1, ci 0, cu, cu, cu, cu, cu, cu, cu, cu, cu] [(.int 1)]) _ _ _
   refine win X175 hx hby at_164 ((if0 _ _).trans (feq (by decide : ¬ ((1 : Int32) = (0 : Int32)))).1) ?_
   refine wal X175 hx hby at_167 rfl rfl ?_
   refine wil X175 hx hby at_169 rfl ?_
   refine wic X175 hx hby at_171 ?_
   refine wia X175 hx hby at_172 ?_
   show Ends _ _ _ _ T175 (mkF m 173 #[cj q0, cs, ci p1, cj q2, cs, cj q3, cs, ci p4, ci 5, ci 1, cr b161, ci 1, ci 0, cu, cu, cu, cu, cu, cu, cu, cu, cu] [(.int 2), (.ref b161)]) _ _ _
   obtain ⟨cl507, Ar507, q507, S507, M507, H507, G507⟩ := id V175
   have hin507 := inb_of (j := (2 : Int32)) S507 ⟨by decide, by decide⟩
   refine Ends.go (X175.caload hx (j := (2 : Int32)) (v := (.int c2_)) (by rw [e175]; exact Ar507.1) (State.isArrayOf_alike hZ.alike Ar507.2.1) Ar507.2.2 hin507 (H507.at hin507 rfl) (g := (mkF m 173 #[cj q0, cs, ci p1, cj q2, cs, cj q3, cs, ci p4, ci 5, ci 1, cr b161, ci 1, ci 0, cu, cu, cu, cu, cu, cu, cu, cu, cu] [(.int 2), (.ref b161)])) rfl rfl (hb hby at_173)) ?_
   refine wst X175 hx hby at_174 (l' := #[cj q0, cs, ci p1, cj q2, cs, cj q3, cs, ci p4, ci 5, ci 1, cr b161, ci 1, ci 0, ci c2_, cu, cu, cu, cu, cu, cu, cu, cu]) rfl ?_
   refine wal X175 hx hby at_176 rfl rfl ?_
   refine wil X175 hx hby at_178 rfl ?_
   refine wic X175 hx hby at_180 ?_
   show Ends _ _ _ _ T175 (mkF m 181 #[cj q0, cs, ci p1, cj q2, cs, cj q3, cs, ci p4, ci 5, ci 1, cr b161, ci 1, ci 0, ci c2_, cu, cu, cu, cu, cu, cu, cu, cu] [(.int 2), (.int 1), (.ref b161)]) _ _ _
   refine wia X175 hx hby at_181 ?_
   obtain ⟨cl508, Ar508, q508, S508, M508, H508, G508⟩ := id V175
   have hin508 := inb_of (j := (3 : Int32)) S508 ⟨by decide, by decide⟩
   refine Ends.go (X175.caload hx (j := (3 : Int32)) (v := (.int c3_)) (by rw [e175]; exact Ar508.1) (State.isArrayOf_alike hZ.alike Ar508.2.1) Ar508.2.2 hin508 (H508.at hin508 rfl) (g := (mkF m 182 #[cj q0, cs, ci p1, cj q2, cs, cj q3, cs, ci p4, ci 5, ci 1, cr b161, ci 1, ci 0, ci c2_, cu, cu, cu, cu, cu, cu, cu, cu] [(.int 3), (.ref b161)])) rfl rfl (hb hby at_182)) ?_
   refine wst X175 hx hby at_183 (l' := #[cj q0, cs, ci p1, cj q2, cs, cj q3, cs, ci p4, ci 5, ci 1, cr b161, ci 1, ci 0, ci c2_, ci c3_, cu, cu, cu, cu, cu, cu, cu]) rfl ?_
   refine wal X175 hx hby at_185 rfl rfl ?_
   refine wil X175 hx hby at_187 rfl ?_
   show Ends _ _ _ _ T175 (mkF m 189 #[cj q0, cs, ci p1, cj q2, cs, cj q3, cs, ci p4, ci 5, ci 1, cr b161, ci 1, ci 0, ci c2_, ci c3_, cu, cu, cu, cu, cu, cu, cu] [(.int 1), (.ref b161)]) _ _ _
   refine wic X175 hx hby at_189 ?_
   refine wia X175 hx hby at_190 ?_
   obtain ⟨cl509, Ar509, q509, S509, M509, H509, G509⟩ := id V175
   have hin509 := inb_of (j := (4 : Int32)) S509 ⟨by decide, by decide⟩
   refine Ends.go (X175.caload hx (j := (4 : Int32)) (v := (.int c4_)) (by rw [e175]; exact Ar509.1) (State.isArrayOf_alike hZ.alike Ar509.2.1) Ar509.2.2 hin509 (H509.at hin509 rfl) (g := (mkF m 191 #[cj q0, cs, ci p1, cj q2, cs, cj q3, cs, ci p4, ci 5, ci 1, cr b161, ci 1, ci 0, ci c2_, ci c3_, cu, cu, cu, cu, cu, cu, cu] [(.int 4), (.ref b161)])) rfl rfl (hb hby at_191)) ?_
   refine wst X175 hx hby at_192 (l' := #[cj q0, cs, ci p1, cj q2, cs, cj q3, cs, ci p4, ci 5, ci 1, cr b161, ci 1, ci 0, ci c2_, ci c3_, ci c4_, cu, cu, cu, cu, cu, cu]) rfl ?_
   refine wil X175 hx hby at_194 rfl ?_
   show Ends _ _ _ _ T175 (mkF m 196 #[cj q0, cs, ci p1, cj q2, cs, cj q3, cs, ci p4, ci 5, ci 1, cr b161, ci 1, ci 0, ci c2_, ci c3_, ci c4_, cu, cu, cu, cu, cu, cu] [(.int 5)]) _ _ _
   refine wic X175 hx hby at_196 ?_
   refine wcn X175 hx hby at_197 (teq (by decide : (5 : Int32) = (5 : Int32))).2 ?_
   refine wal X175 hx hby at_200 rfl rfl ?_
   refine wil X175 hx hby at_202 rfl ?_
   refine wic X175 hx hby at_204 ?_
   show Ends _ _ _ _ T175 (mkF m 205 #[cj q0, cs, ci p1, cj q2, cs, cj q3, cs, ci p4, ci 5, ci 1, cr b161, ci 1, ci 0, ci c2_, ci c3_, ci c4_, cu, cu, cu, cu, cu, cu] [(.int 4), (.int 1), (.ref b161)]) _ _ _
   refine wia X175 hx hby at_205 ?_
   obtain ⟨cl510, Ar510, q510, S510, M510, H510, G510⟩ := id V175
   have hin510 := inb_of (j := (5 : Int32)) S510 ⟨by decide, by decide⟩
   refine Ends.go (X175.caload hx (j := (5 : Int32)) (v := (.int c5_)) (by rw [e175]; exact Ar510.1) (State.isArrayOf_alike hZ.alike Ar510.2.1) Ar510.2.2 hin510 (H510.at hin510 rfl) (g := (mkF m 206 #[cj q0, cs, ci p1, cj q2, cs, cj q3, cs, ci p4, ci 5, ci 1, cr b161, ci 1, ci 0, ci c2_, ci c3_, ci c4_, cu, cu, cu, cu, cu, cu] [(.int 5), (.ref b161)])) rfl rfl (hb hby at_206)) ?_
   refine wgo (pc := 207) (pc' := 211) X175 hx hby at_207 (by decide) (by decide) ?_
   refine wst X175 hx hby at_211 (l' := #[cj q0, cs, ci p1, cj q2, cs, cj q3, cs, ci p4, ci 5, ci 1, cr b161, ci 1, ci 0, ci c2_, ci c3_, ci c4_, ci c5_, cu, cu, cu, cu, cu]) rfl ?_
   exact J213_5 _ _ _ b161 _ (1 : Int32) c2_ c3_ c4_ c5_ X175 e175 O175 N175 K175 V175 (by decide) (own_spec_1_5 c0_ c1_ c2_ c3_ c4_ c5_ c6_ q0) hc2_ hc3_ hc4_ hc5_
 ·rcases hlen with rfl | rfl
  ·show Ends _ _ _ _ T175 (mkF m 142 #[cj q0, cs, ci p1, cj q2, cs, cj q3, cs, ci p4, ci 4, ci 2, cr b161, cu, cu, cu, cu, cu, cu, cu, cu, cu, cu, cu] []) _ _ _
   refine wbp X175 hx hby at_142 ?_
   refine wil X175 hx hby at_144 rfl ?_
   refine wis X175 hx hby at_146 ?_
   refine wil X175 hx hby at_147 rfl ?_
   refine wcn X175 hx hby at_149 (flt (by decide : ¬ ((5 : Int32) < (4 : Int32)))).1 ?_
   show Ends _ _ _ _ T175 (mkF m 152 #[cj q0, cs, ci p1, cj q2, cs, cj q3, cs, ci p4, ci 4, ci 2, cr b161, cu, cu, cu, cu, cu, cu, cu, cu, cu, cu, cu] []) _ _ _
   refine wic X175 hx hby at_152 ?_
   refine wgo (pc := 153) (pc' := 157) X175 hx hby at_153 (by decide) (by decide) ?_
   refine wst X175 hx hby at_157 (l' := #[cj q0, cs, ci p1, cj q2, cs, cj q3, cs, ci p4, ci 4, ci 2, cr b161, ci 1, cu, cu, cu, cu, cu, cu, cu, cu, cu, cu]) rfl ?_
   refine wic X175 hx hby at_159 ?_
   refine wst X175 hx hby at_160 (l' := #[cj q0, cs, ci p1, cj q2, cs, cj q3, cs, ci p4, ci 4, ci 2, cr b161, ci 1, ci 0, cu, cu, cu, cu, cu, cu, cu, cu, cu]) rfl ?_
   show Ends _ _ _ _ T175 (mkF m 162 #[cj q0, cs, ci p1, cj q2, cs, cj q3, cs, ci p4, ci 4, ci 2, cr b161, ci 1, ci 0, cu, cu, cu, cu, cu, cu, cu, cu, cu] []) _ _ _
   refine wil X175 hx hby at_162 rfl ?_
   refine win X175 hx hby at_164 ((if0 _ _).trans (feq (by decide : ¬ ((1 : Int32) = (0 : Int32)))).1) ?_
   refine wal X175 hx hby at_167 rfl rfl ?_
   refine wil X175 hx hby at_169 rfl ?_
   refine wic X175 hx hby at_171 ?_
   show Ends _ _ _ _ T175 (mkF m 172 #[cj q0, cs, ci p1, cj q2, cs, cj q3, cs, ci p4, ci 4, ci 2, cr b161, ci 1, ci 0, cu, cu, cu, cu, cu, cu, cu, cu, cu] [(.int 1), (.int 2), (.ref b161)]) _ _ _
   refine wia X175 hx hby at_172 ?_
   obtain ⟨cl511, Ar511, q511, S511, M511, H511, G511⟩ := id V175
   have hin511 := inb_of (j := (3 : Int32)) S511 ⟨by decide, by decide⟩
   refine Ends.go (X175.caload hx (j := (3 : Int32)) (v := (.int c3_)) (by rw [e175]; exact Ar511.1) (State.isArrayOf_alike hZ.alike Ar511.2.1) Ar511.2.2 hin511 (H511.at hin511 rfl) (g := (mkF m 173 #[cj q0, cs, ci p1, cj q2, cs, cj q3, cs, ci p4, ci 4, ci 2, cr b161, ci 1, ci 0, cu, cu, cu, cu, cu, cu, cu, cu, cu] [(.int 3), (.ref b161)])) rfl rfl (hb hby at_173)) ?_
   refine wst X175 hx hby at_174 (l' := #[cj q0, cs, ci p1, cj q2, cs, cj q3, cs, ci p4, ci 4, ci 2, cr b161, ci 1, ci 0, ci c3_, cu, cu, cu, cu, cu, cu, cu, cu]) rfl ?_
   refine wal X175 hx hby at_176 rfl rfl ?_
   refine wil X175 hx hby at_178 rfl ?_
   show Ends _ _ _ _ T175 (mkF m 180 #[cj q0, cs, ci p1, cj q2, cs, cj q3, cs, ci p4, ci 4, ci 2, cr b161, ci 1, ci 0, ci c3_, cu, cu, cu, cu, cu, cu, cu, cu] [(.int 2), (.ref b161)]) _ _ _
   refine wic X175 hx hby at_180 ?_
   refine wia X175 hx hby at_181 ?_
   obtain ⟨cl512, Ar512, q512, S512, M512, H512, G512⟩ := id V175
   have hin512 := inb_of (j := (4 : Int32)) S512 ⟨by decide, by decide⟩
   refine Ends.go (X175.caload hx (j := (4 : Int32)) (v := (.int c4_)) (by rw [e175]; exact Ar512.1) (State.isArrayOf_alike hZ.alike Ar512.2.1) Ar512.2.2 hin512 (H512.at hin512 rfl) (g := (mkF m 182 #[cj q0, cs, ci p1, cj q2, cs, cj q3, cs, ci p4, ci 4, ci 2, cr b161, ci 1, ci 0, ci c3_, cu, cu, cu, cu, cu, cu, cu, cu] [(.int 4), (.ref b161)])) rfl rfl (hb hby at_182)) ?_
   refine wst X175 hx hby at_183 (l' := #[cj q0, cs, ci p1, cj q2, cs, cj q3, cs, ci p4, ci 4, ci 2, cr b161, ci 1, ci 0, ci c3_, ci c4_, cu, cu, cu, cu, cu, cu, cu]) rfl ?_
   refine wal X175 hx hby at_185 rfl rfl ?_
   show Ends _ _ _ _ T175 (mkF m 187 #[cj q0, cs, ci p1, cj q2, cs, cj q3, cs, ci p4, ci 4, ci 2, cr b161, ci 1, ci 0, ci c3_, ci c4_, cu, cu, cu, cu, cu, cu, cu] [(.ref b161)]) _ _ _
   refine wil X175 hx hby at_187 rfl ?_
   refine wic X175 hx hby at_189 ?_
   refine wia X175 hx hby at_190 ?_
   obtain ⟨cl513, Ar513, q513, S513, M513, H513, G513⟩ := id V175
   have hin513 := inb_of (j := (5 : Int32)) S513 ⟨by decide, by decide⟩
   refine Ends.go (X175.caload hx (j := (5 : Int32)) (v := (.int c5_)) (by rw [e175]; exact Ar513.1) (State.isArrayOf_alike hZ.alike Ar513.2.1) Ar513.2.2 hin513 (H513.at hin513 rfl) (g := (mkF m 191 #[cj q0, cs, ci p1, cj q2, cs, cj q3, cs, ci p4, ci 4, ci 2, cr b161, ci 1, ci 0, ci c3_, ci c4_, cu, cu, cu, cu, cu, cu, cu] [(.int 5), (.ref b161)])) rfl rfl (hb hby at_191)) ?_
   refine wst X175 hx hby at_192 (l' := #[cj q0, cs, ci p1, cj q2, cs, cj q3, cs, ci p4, ci 4, ci 2, cr b161, ci 1, ci 0, ci c3_, ci c4_, ci c5_, cu, cu, cu, cu, cu, cu]) rfl ?_
   show Ends _ _ _ _ T175 (mkF m 194 #[cj q0, cs, ci p1, cj q2, cs, cj q3, cs, ci p4, ci 4, ci 2, cr b161, ci 1, ci 0, ci c3_, ci c4_, ci c5_, cu, cu, cu, cu, cu, cu] []) _ _ _
   refine wil X175 hx hby at_194 rfl ?_
   refine wic X175 hx hby at_196 ?_
   refine wcy (pc := 197) (pc' := 210) X175 hx hby at_197 (feq (by decide : ¬ ((4 : Int32) = (5 : Int32)))).2 (by decide) (by decide) ?_
   refine wic X175 hx hby at_210 ?_
   refine wst X175 hx hby at_211 (l' := #[cj q0, cs, ci p1, cj q2, cs, cj q3, cs, ci p4, ci 4, ci 2, cr b161, ci 1, ci 0, ci c3_, ci c4_, ci c5_, ci 0, cu, cu, cu, cu, cu]) rfl ?_
   show Ends _ _ _ _ T175 (mkF m 213 #[cj q0, cs, ci p1, cj q2, cs, cj q3, cs, ci p4, ci 4, ci 2, cr b161, ci 1, ci 0, ci c3_, ci c4_, ci c5_, ci 0, cu, cu, cu, cu, cu] []) _ _ _
   exact J213_4 _ _ _ b161 _ (2 : Int32) c3_ c4_ c5_ X175 e175 O175 N175 K175 V175 (by decide) (own_spec_2_4 c0_ c1_ c2_ c3_ c4_ c5_ c6_ q0) hc3_ hc4_ hc5_
  ·show Ends _ _ _ _ T175 (mkF m 142 #[cj q0, cs, ci p1, cj q2, cs, cj q3, cs, ci p4, ci 5, ci 2, cr b161, cu, cu, cu, cu, cu, cu, cu, cu, cu, cu, cu] []) _ _ _
   refine wbp X175 hx hby at_142 ?_
   refine wil X175 hx hby at_144 rfl ?_
   refine wis X175 hx hby at_146 ?_
   refine wil X175 hx hby at_147 rfl ?_
   show Ends _ _ _ _ T175 (mkF m 149 #[cj q0, cs, ci p1, cj q2, cs, cj q3, cs, ci p4, ci 5, ci 2, cr b161, cu, cu, cu, cu, cu, cu, cu, cu, cu, cu, cu] [(.int 5), (.int 5)]) _ _ _
   refine wcn X175 hx hby at_149 (flt (by decide : ¬ ((5 : Int32) < (5 : Int32)))).1 ?_
   refine wic X175 hx hby at_152 ?_
   refine wgo (pc := 153) (pc' := 157) X175 hx hby at_153 (by decide) (by decide) ?_
   refine wst X175 hx hby at_157 (l' := #[cj q0, cs, ci p1, cj q2, cs, cj q3, cs, ci p4, ci 5, ci 2, cr b161, ci 1, cu, cu, cu, cu, cu, cu, cu, cu, cu, cu]) rfl ?_
   refine wic X175 hx hby at_159 ?_
   show Ends _ _ _ _ T175 (mkF m 160 #[cj q0, cs, ci p1, cj q2, cs, cj q3, cs, ci p4, ci 5, ci 2, cr b161, ci 1, cu, cu, cu, cu, cu, cu, cu, cu, cu, cu] [(.int 0)]) _ _ _
   refine wst X175 hx hby at_160 (l' := #[cj q0, cs, ci p1, cj q2, cs, cj q3, cs, ci p4, ci 5, ci 2, cr b161, ci 1, ci 0, cu, cu, cu, cu, cu, cu, cu, cu, cu]) rfl ?_
   refine wil X175 hx hby at_162 rfl ?_
   refine win X175 hx hby at_164 ((if0 _ _).trans (feq (by decide : ¬ ((1 : Int32) = (0 : Int32)))).1) ?_
   refine wal X175 hx hby at_167 rfl rfl ?_
   refine wil X175 hx hby at_169 rfl ?_
   show Ends _ _ _ _ T175 (mkF m 171 #[cj q0, cs, ci p1, cj q2, cs, cj q3, cs, ci p4, ci 5, ci 2, cr b161, ci 1, ci 0, cu, cu, cu, cu, cu, cu, cu, cu, cu] [(.int 2), (.ref b161)]) _ _ _
   refine wic X175 hx hby at_171 ?_
   refine wia X175 hx hby at_172 ?_
   obtain ⟨cl514, Ar514, q514, S514, M514, H514, G514⟩ := id V175
   have hin514 := inb_of (j := (3 : Int32)) S514 ⟨by decide, by decide⟩
   refine Ends.go (X175.caload hx (j := (3 : Int32)) (v := (.int c3_)) (by rw [e175]; exact Ar514.1) (State.isArrayOf_alike hZ.alike Ar514.2.1) Ar514.2.2 hin514 (H514.at hin514 rfl) (g := (mkF m 173 #[cj q0, cs, ci p1, cj q2, cs, cj q3, cs, ci p4, ci 5, ci 2, cr b161, ci 1, ci 0, cu, cu, cu, cu, cu, cu, cu, cu, cu] [(.int 3), (.ref b161)])) rfl rfl (hb hby at_173)) ?_
   refine wst X175 hx hby at_174 (l' := #[cj q0, cs, ci p1, cj q2, cs, cj q3, cs, ci p4, ci 5, ci 2, cr b161, ci 1, ci 0, ci c3_, cu, cu, cu, cu, cu, cu, cu, cu]) rfl ?_
   refine wal X175 hx hby at_176 rfl rfl ?_
   show Ends _ _ _ _ T175 (mkF m 178 #[cj q0, cs, ci p1, cj q2, cs, cj q3, cs, ci p4, ci 5, ci 2, cr b161, ci 1, ci 0, ci c3_, cu, cu, cu, cu, cu, cu, cu, cu] [(.ref b161)]) _ _ _
   refine wil X175 hx hby at_178 rfl ?_
   refine wic X175 hx hby at_180 ?_
   refine wia X175 hx hby at_181 ?_
   obtain ⟨cl515, Ar515, q515, S515, M515, H515, G515⟩ := id V175
   have hin515 := inb_of (j := (4 : Int32)) S515 ⟨by decide, by decide⟩
   refine Ends.go (X175.caload hx (j := (4 : Int32)) (v := (.int c4_)) (by rw [e175]; exact Ar515.1) (State.isArrayOf_alike hZ.alike Ar515.2.1) Ar515.2.2 hin515 (H515.at hin515 rfl) (g := (mkF m 182 #[cj q0, cs, ci p1, cj q2, cs, cj q3, cs, ci p4, ci 5, ci 2, cr b161, ci 1, ci 0, ci c3_, cu, cu, cu, cu, cu, cu, cu, cu] [(.int 4), (.ref b161)])) rfl rfl (hb hby at_182)) ?_
   refine wst X175 hx hby at_183 (l' := #[cj q0, cs, ci p1, cj q2, cs, cj q3, cs, ci p4, ci 5, ci 2, cr b161, ci 1, ci 0, ci c3_, ci c4_, cu, cu, cu, cu, cu, cu, cu]) rfl ?_
   show Ends _ _ _ _ T175 (mkF m 185 #[cj q0, cs, ci p1, cj q2, cs, cj q3, cs, ci p4, ci 5, ci 2, cr b161, ci 1, ci 0, ci c3_, ci c4_, cu, cu, cu, cu, cu, cu, cu] []) _ _ _
   refine wal X175 hx hby at_185 rfl rfl ?_
   refine wil X175 hx hby at_187 rfl ?_
   refine wic X175 hx hby at_189 ?_
   refine wia X175 hx hby at_190 ?_
   obtain ⟨cl516, Ar516, q516, S516, M516, H516, G516⟩ := id V175
   have hin516 := inb_of (j := (5 : Int32)) S516 ⟨by decide, by decide⟩
   refine Ends.go (X175.caload hx (j := (5 : Int32)) (v := (.int c5_)) (by rw [e175]; exact Ar516.1) (State.isArrayOf_alike hZ.alike Ar516.2.1) Ar516.2.2 hin516 (H516.at hin516 rfl) (g := (mkF m 191 #[cj q0, cs, ci p1, cj q2, cs, cj q3, cs, ci p4, ci 5, ci 2, cr b161, ci 1, ci 0, ci c3_, ci c4_, cu, cu, cu, cu, cu, cu, cu] [(.int 5), (.ref b161)])) rfl rfl (hb hby at_191)) ?_
   show Ends _ _ _ _ T175 (mkF m 192 #[cj q0, cs, ci p1, cj q2, cs, cj q3, cs, ci p4, ci 5, ci 2, cr b161, ci 1, ci 0, ci c3_, ci c4_, cu, cu, cu, cu, cu, cu, cu] [(.int c5_)]) _ _ _
   refine wst X175 hx hby at_192 (l' := #[cj q0, cs, ci p1, cj q2, cs, cj q3, cs, ci p4, ci 5, ci 2, cr b161, ci 1, ci 0, ci c3_, ci c4_, ci c5_, cu, cu, cu, cu, cu, cu]) rfl ?_
   refine wil X175 hx hby at_194 rfl ?_
   refine wic X175 hx hby at_196 ?_
   refine wcn X175 hx hby at_197 (teq (by decide : (5 : Int32) = (5 : Int32))).2 ?_
   refine wal X175 hx hby at_200 rfl rfl ?_
   show Ends _ _ _ _ T175 (mkF m 202 #[cj q0, cs, ci p1, cj q2, cs, cj q3, cs, ci p4, ci 5, ci 2, cr b161, ci 1, ci 0, ci c3_, ci c4_, ci c5_, cu, cu, cu, cu, cu, cu] [(.ref b161)]) _ _ _
   refine wil X175 hx hby at_202 rfl ?_
   refine wic X175 hx hby at_204 ?_
   refine wia X175 hx hby at_205 ?_
   obtain ⟨cl517, Ar517, q517, S517, M517, H517, G517⟩ := id V175
   have hin517 := inb_of (j := (6 : Int32)) S517 ⟨by decide, by decide⟩
   refine Ends.go (X175.caload hx (j := (6 : Int32)) (v := (.int c6_)) (by rw [e175]; exact Ar517.1) (State.isArrayOf_alike hZ.alike Ar517.2.1) Ar517.2.2 hin517 (H517.at hin517 rfl) (g := (mkF m 206 #[cj q0, cs, ci p1, cj q2, cs, cj q3, cs, ci p4, ci 5, ci 2, cr b161, ci 1, ci 0, ci c3_, ci c4_, ci c5_, cu, cu, cu, cu, cu, cu] [(.int 6), (.ref b161)])) rfl rfl (hb hby at_206)) ?_
   refine wgo (pc := 207) (pc' := 211) X175 hx hby at_207 (by decide) (by decide) ?_
   show Ends _ _ _ _ T175 (mkF m 211 #[cj q0, cs, ci p1, cj q2, cs, cj q3, cs, ci p4, ci 5, ci 2, cr b161, ci 1, ci 0, ci c3_, ci c4_, ci c5_, cu, cu, cu, cu, cu, cu] [(.int c6_)]) _ _ _
   refine wst X175 hx hby at_211 (l' := #[cj q0, cs, ci p1, cj q2, cs, cj q3, cs, ci p4, ci 5, ci 2, cr b161, ci 1, ci 0, ci c3_, ci c4_, ci c5_, ci c6_, cu, cu, cu, cu, cu]) rfl ?_
   exact J213_5 _ _ _ b161 _ (2 : Int32) c3_ c4_ c5_ c6_ X175 e175 O175 N175 K175 V175 (by decide) (own_spec_2_5 c0_ c1_ c2_ c3_ c4_ c5_ c6_ q0) hc3_ hc4_ hc5_ hc6_
 ·rcases hlen with rfl | rfl
  ·show Ends _ _ _ _ T175 (mkF m 142 #[cj q0, cs, ci p1, cj q2, cs, cj q3, cs, ci p4, ci 4, ci 3, cr b161, cu, cu, cu, cu, cu, cu, cu, cu, cu, cu, cu] []) _ _ _
   refine wbp X175 hx hby at_142 ?_
   refine wil X175 hx hby at_144 rfl ?_
   refine wis X175 hx hby at_146 ?_
   show Ends _ _ _ _ T175 (mkF m 147 #[cj q0, cs, ci p1, cj q2, cs, cj q3, cs, ci p4, ci 4, ci 3, cr b161, cu, cu, cu, cu, cu, cu, cu, cu, cu, cu, cu] [(.int 4)]) _ _ _
   refine wil X175 hx hby at_147 rfl ?_
   refine wcn X175 hx hby at_149 (flt (by decide : ¬ ((4 : Int32) < (4 : Int32)))).1 ?_
   refine wic X175 hx hby at_152 ?_
   refine wgo (pc := 153) (pc' := 157) X175 hx hby at_153 (by decide) (by decide) ?_
   refine wst X175 hx hby at_157 (l' := #[cj q0, cs, ci p1, cj q2, cs, cj q3, cs, ci p4, ci 4, ci 3, cr b161, ci 1, cu, cu, cu, cu, cu, cu, cu, cu, cu, cu]) rfl ?_
   show Ends _ _ _ _ T175 (mkF m 159 #[cj q0, cs, ci p1, cj q2, cs, cj q3, cs, ci p4, ci 4, ci 3, cr b161, ci 1, cu, cu, cu, cu, cu, cu, cu, cu, cu, cu] []) _ _ _
   refine wic X175 hx hby at_159 ?_
   refine wst X175 hx hby at_160 (l' := #[cj q0, cs, ci p1, cj q2, cs, cj q3, cs, ci p4, ci 4, ci 3, cr b161, ci 1, ci 0, cu, cu, cu, cu, cu, cu, cu, cu, cu]) rfl ?_
   refine wil X175 hx hby at_162 rfl ?_
   refine win X175 hx hby at_164 ((if0 _ _).trans (feq (by decide : ¬ ((1 : Int32) = (0 : Int32)))).1) ?_
   refine wal X175 hx hby at_167 rfl rfl ?_
   show Ends _ _ _ _ T175 (mkF m 169 #[cj q0, cs, ci p1, cj q2, cs, cj q3, cs, ci p4, ci 4, ci 3, cr b161, ci 1, ci 0, cu, cu, cu, cu, cu, cu, cu, cu, cu] [(.ref b161)]) _ _ _
   refine wil X175 hx hby at_169 rfl ?_
   refine wic X175 hx hby at_171 ?_
   refine wia X175 hx hby at_172 ?_
   obtain ⟨cl518, Ar518, q518, S518, M518, H518, G518⟩ := id V175
   have hin518 := inb_of (j := (4 : Int32)) S518 ⟨by decide, by decide⟩
   refine Ends.go (X175.caload hx (j := (4 : Int32)) (v := (.int c4_)) (by rw [e175]; exact Ar518.1) (State.isArrayOf_alike hZ.alike Ar518.2.1) Ar518.2.2 hin518 (H518.at hin518 rfl) (g := (mkF m 173 #[cj q0, cs, ci p1, cj q2, cs, cj q3, cs, ci p4, ci 4, ci 3, cr b161, ci 1, ci 0, cu, cu, cu, cu, cu, cu, cu, cu, cu] [(.int 4), (.ref b161)])) rfl rfl (hb hby at_173)) ?_
   refine wst X175 hx hby at_174 (l' := #[cj q0, cs, ci p1, cj q2, cs, cj q3, cs, ci p4, ci 4, ci 3, cr b161, ci 1, ci 0, ci c4_, cu, cu, cu, cu, cu, cu, cu, cu]) rfl ?_
   show Ends _ _ _ _ T175 (mkF m 176 #[cj q0, cs, ci p1, cj q2, cs, cj q3, cs, ci p4, ci 4, ci 3, cr b161, ci 1, ci 0, ci c4_, cu, cu, cu, cu, cu, cu, cu, cu] []) _ _ _
   refine wal X175 hx hby at_176 rfl rfl ?_
   refine wil X175 hx hby at_178 rfl ?_
   refine wic X175 hx hby at_180 ?_
   refine wia X175 hx hby at_181 ?_
   obtain ⟨cl519, Ar519, q519, S519, M519, H519, G519⟩ := id V175
   have hin519 := inb_of (j := (5 : Int32)) S519 ⟨by decide, by decide⟩
   refine Ends.go (X175.caload hx (j := (5 : Int32)) (v := (.int c5_)) (by rw [e175]; exact Ar519.1) (State.isArrayOf_alike hZ.alike Ar519.2.1) Ar519.2.2 hin519 (H519.at hin519 rfl) (g := (mkF m 182 #[cj q0, cs, ci p1, cj q2, cs, cj q3, cs, ci p4, ci 4, ci 3, cr b161, ci 1, ci 0, ci c4_, cu, cu, cu, cu, cu, cu, cu, cu] [(.int 5), (.ref b161)])) rfl rfl (hb hby at_182)) ?_
   show Ends _ _ _ _ T175 (mkF m 183 #[cj q0, cs, ci p1, cj q2, cs, cj q3, cs, ci p4, ci 4, ci 3, cr b161, ci 1, ci 0, ci c4_, cu, cu, cu, cu, cu, cu, cu, cu] [(.int c5_)]) _ _ _
   refine wst X175 hx hby at_183 (l' := #[cj q0, cs, ci p1, cj q2, cs, cj q3, cs, ci p4, ci 4, ci 3, cr b161, ci 1, ci 0, ci c4_, ci c5_, cu, cu, cu, cu, cu, cu, cu]) rfl ?_
   refine wal X175 hx hby at_185 rfl rfl ?_
   refine wil X175 hx hby at_187 rfl ?_
   refine wic X175 hx hby at_189 ?_
   refine wia X175 hx hby at_190 ?_
   show Ends _ _ _ _ T175 (mkF m 191 #[cj q0, cs, ci p1, cj q2, cs, cj q3, cs, ci p4, ci 4, ci 3, cr b161, ci 1, ci 0, ci c4_, ci c5_, cu, cu, cu, cu, cu, cu, cu] [(.int 6), (.ref b161)]) _ _ _
   obtain ⟨cl520, Ar520, q520, S520, M520, H520, G520⟩ := id V175
   have hin520 := inb_of (j := (6 : Int32)) S520 ⟨by decide, by decide⟩
   refine Ends.go (X175.caload hx (j := (6 : Int32)) (v := (.int c6_)) (by rw [e175]; exact Ar520.1) (State.isArrayOf_alike hZ.alike Ar520.2.1) Ar520.2.2 hin520 (H520.at hin520 rfl) (g := (mkF m 191 #[cj q0, cs, ci p1, cj q2, cs, cj q3, cs, ci p4, ci 4, ci 3, cr b161, ci 1, ci 0, ci c4_, ci c5_, cu, cu, cu, cu, cu, cu, cu] [(.int 6), (.ref b161)])) rfl rfl (hb hby at_191)) ?_
   refine wst X175 hx hby at_192 (l' := #[cj q0, cs, ci p1, cj q2, cs, cj q3, cs, ci p4, ci 4, ci 3, cr b161, ci 1, ci 0, ci c4_, ci c5_, ci c6_, cu, cu, cu, cu, cu, cu]) rfl ?_
   refine wil X175 hx hby at_194 rfl ?_
   refine wic X175 hx hby at_196 ?_
   refine wcy (pc := 197) (pc' := 210) X175 hx hby at_197 (feq (by decide : ¬ ((4 : Int32) = (5 : Int32)))).2 (by decide) (by decide) ?_
   show Ends _ _ _ _ T175 (mkF m 210 #[cj q0, cs, ci p1, cj q2, cs, cj q3, cs, ci p4, ci 4, ci 3, cr b161, ci 1, ci 0, ci c4_, ci c5_, ci c6_, cu, cu, cu, cu, cu, cu] []) _ _ _
   refine wic X175 hx hby at_210 ?_
   refine wst X175 hx hby at_211 (l' := #[cj q0, cs, ci p1, cj q2, cs, cj q3, cs, ci p4, ci 4, ci 3, cr b161, ci 1, ci 0, ci c4_, ci c5_, ci c6_, ci 0, cu, cu, cu, cu, cu]) rfl ?_
   exact J213_4 _ _ _ b161 _ (3 : Int32) c4_ c5_ c6_ X175 e175 O175 N175 K175 V175 (by decide) (own_spec_3_4 c0_ c1_ c2_ c3_ c4_ c5_ c6_ q0) hc4_ hc5_ hc6_
  ·show Ends _ _ _ _ T175 (mkF m 142 #[cj q0, cs, ci p1, cj q2, cs, cj q3, cs, ci p4, ci 5, ci 3, cr b161, cu, cu, cu, cu, cu, cu, cu, cu, cu, cu, cu] []) _ _ _
   refine wbp X175 hx hby at_142 ?_
   refine wil X175 hx hby at_144 rfl ?_
   show Ends _ _ _ _ T175 (mkF m 146 #[cj q0, cs, ci p1, cj q2, cs, cj q3, cs, ci p4, ci 5, ci 3, cr b161, cu, cu, cu, cu, cu, cu, cu, cu, cu, cu, cu] [(.int 3), (.int 7)]) _ _ _
   refine wis X175 hx hby at_146 ?_
   refine wil X175 hx hby at_147 rfl ?_
   refine wcy (pc := 149) (pc' := 156) X175 hx hby at_149 (tlt (by decide : (4 : Int32) < (5 : Int32))).1 (by decide) (by decide) ?_
   refine wic X175 hx hby at_156 ?_
   refine wst X175 hx hby at_157 (l' := #[cj q0, cs, ci p1, cj q2, cs, cj q3, cs, ci p4, ci 5, ci 3, cr b161, ci 0, cu, cu, cu, cu, cu, cu, cu, cu, cu, cu]) rfl ?_
   show Ends _ _ _ _ T175 (mkF m 159 #[cj q0, cs, ci p1, cj q2, cs, cj q3, cs, ci p4, ci 5, ci 3, cr b161, ci 0, cu, cu, cu, cu, cu, cu, cu, cu, cu, cu] []) _ _ _
   refine wic X175 hx hby at_159 ?_
   refine wst X175 hx hby at_160 (l' := #[cj q0, cs, ci p1, cj q2, cs, cj q3, cs, ci p4, ci 5, ci 3, cr b161, ci 0, ci 0, cu, cu, cu, cu, cu, cu, cu, cu, cu]) rfl ?_
   refine wil X175 hx hby at_162 rfl ?_
   refine wiy (pc := 164) (pc' := 320) X175 hx hby at_164 ((if0 _ _).trans (teq (by decide : (0 : Int32) = (0 : Int32))).1) (by decide) (by decide) ?_
   exact J320u _ _ _ b161 _ (3 : Int32) (5 : Int32) (0 : Int32) (0 : Int32) X175 e175 O175 N175 K175 V175 (by decide) (by decide) (Or.inr ⟨rfl, fun q => (own_spec_3_5 c0_ c1_ c2_ c3_ c4_ c5_ c6_ q0).mp q⟩)
 ·rcases hlen with rfl | rfl
  ·show Ends _ _ _ _ T175 (mkF m 142 #[cj q0, cs, ci p1, cj q2, cs, cj q3, cs, ci p4, ci 4, ci 4, cr b161, cu, cu, cu, cu, cu, cu, cu, cu, cu, cu, cu] []) _ _ _
   refine wbp X175 hx hby at_142 ?_
   refine wil X175 hx hby at_144 rfl ?_
   refine wis X175 hx hby at_146 ?_
   refine wil X175 hx hby at_147 rfl ?_
   refine wcy (pc := 149) (pc' := 156) X175 hx hby at_149 (tlt (by decide : (3 : Int32) < (4 : Int32))).1 (by decide) (by decide) ?_
   show Ends _ _ _ _ T175 (mkF m 156 #[cj q0, cs, ci p1, cj q2, cs, cj q3, cs, ci p4, ci 4, ci 4, cr b161, cu, cu, cu, cu, cu, cu, cu, cu, cu, cu, cu] []) _ _ _
   refine wic X175 hx hby at_156 ?_
   refine wst X175 hx hby at_157 (l' := #[cj q0, cs, ci p1, cj q2, cs, cj q3, cs, ci p4, ci 4, ci 4, cr b161, ci 0, cu, cu, cu, cu, cu, cu, cu, cu, cu, cu]) rfl ?_
   refine wic X175 hx hby at_159 ?_
   refine wst X175 hx hby at_160 (l' := #[cj q0, cs, ci p1, cj q2, cs, cj q3, cs, ci p4, ci 4, ci 4, cr b161, ci 0, ci 0, cu, cu, cu, cu, cu, cu, cu, cu, cu]) rfl ?_
   refine wil X175 hx hby at_162 rfl ?_
   show Ends _ _ _ _ T175 (mkF m 164 #[cj q0, cs, ci p1, cj q2, cs, cj q3, cs, ci p4, ci 4, ci 4, cr b161, ci 0, ci 0, cu, cu, cu, cu, cu, cu, cu, cu, cu] [(.int 0)]) _ _ _
   refine wiy (pc := 164) (pc' := 320) X175 hx hby at_164 ((if0 _ _).trans (teq (by decide : (0 : Int32) = (0 : Int32))).1) (by decide) (by decide) ?_
   exact J320u _ _ _ b161 _ (4 : Int32) (4 : Int32) (0 : Int32) (0 : Int32) X175 e175 O175 N175 K175 V175 (by decide) (by decide) (Or.inr ⟨rfl, fun q => (own_spec_4_4 c0_ c1_ c2_ c3_ c4_ c5_ c6_ q0).mp q⟩)
  ·show Ends _ _ _ _ T175 (mkF m 142 #[cj q0, cs, ci p1, cj q2, cs, cj q3, cs, ci p4, ci 5, ci 4, cr b161, cu, cu, cu, cu, cu, cu, cu, cu, cu, cu, cu] []) _ _ _
   refine wbp X175 hx hby at_142 ?_
   refine wil X175 hx hby at_144 rfl ?_
   refine wis X175 hx hby at_146 ?_
   show Ends _ _ _ _ T175 (mkF m 147 #[cj q0, cs, ci p1, cj q2, cs, cj q3, cs, ci p4, ci 5, ci 4, cr b161, cu, cu, cu, cu, cu, cu, cu, cu, cu, cu, cu] [(.int 3)]) _ _ _
   refine wil X175 hx hby at_147 rfl ?_
   refine wcy (pc := 149) (pc' := 156) X175 hx hby at_149 (tlt (by decide : (3 : Int32) < (5 : Int32))).1 (by decide) (by decide) ?_
   refine wic X175 hx hby at_156 ?_
   refine wst X175 hx hby at_157 (l' := #[cj q0, cs, ci p1, cj q2, cs, cj q3, cs, ci p4, ci 5, ci 4, cr b161, ci 0, cu, cu, cu, cu, cu, cu, cu, cu, cu, cu]) rfl ?_
   refine wic X175 hx hby at_159 ?_
   show Ends _ _ _ _ T175 (mkF m 160 #[cj q0, cs, ci p1, cj q2, cs, cj q3, cs, ci p4, ci 5, ci 4, cr b161, ci 0, cu, cu, cu, cu, cu, cu, cu, cu, cu, cu] [(.int 0)]) _ _ _
   refine wst X175 hx hby at_160 (l' := #[cj q0, cs, ci p1, cj q2, cs, cj q3, cs, ci p4, ci 5, ci 4, cr b161, ci 0, ci 0, cu, cu, cu, cu, cu, cu, cu, cu, cu]) rfl ?_
   refine wil X175 hx hby at_162 rfl ?_
   refine wiy (pc := 164) (pc' := 320) X175 hx hby at_164 ((if0 _ _).trans (teq (by decide : (0 : Int32) = (0 : Int32))).1) (by decide) (by decide) ?_
   exact J320u _ _ _ b161 _ (4 : Int32) (5 : Int32) (0 : Int32) (0 : Int32) X175 e175 O175 N175 K175 V175 (by decide) (by decide) (Or.inr ⟨rfl, fun q => (own_spec_4_5 c0_ c1_ c2_ c3_ c4_ c5_ c6_ q0).mp q⟩)
 ·rcases hlen with rfl | rfl
  ·show Ends _ _ _ _ T175 (mkF m 142 #[cj q0, cs, ci p1, cj q2, cs, cj q3, cs, ci p4, ci 4, ci 5, cr b161, cu, cu, cu, cu, cu, cu, cu, cu, cu, cu, cu] []) _ _ _
   refine wbp X175 hx hby at_142 ?_
   show Ends _ _ _ _ T175 (mkF m 144 #[cj q0, cs, ci p1, cj q2, cs, cj q3, cs, ci p4, ci 4, ci 5, cr b161, cu, cu, cu, cu, cu, cu, cu, cu, cu, cu, cu] [(.int 7)]) _ _ _
   refine wil X175 hx hby at_144 rfl ?_
   refine wis X175 hx hby at_146 ?_
   refine wil X175 hx hby at_147 rfl ?_
   refine wcy (pc := 149) (pc' := 156) X175 hx hby at_149 (tlt (by decide : (2 : Int32) < (4 : Int32))).1 (by decide) (by decide) ?_
   refine wic X175 hx hby at_156 ?_
   show Ends _ _ _ _ T175 (mkF m 157 #[cj q0, cs, ci p1, cj q2, cs, cj q3, cs, ci p4, ci 4, ci 5, cr b161, cu, cu, cu, cu, cu, cu, cu, cu, cu, cu, cu] [(.int 0)]) _ _ _
   refine wst X175 hx hby at_157 (l' := #[cj q0, cs, ci p1, cj q2, cs, cj q3, cs, ci p4, ci 4, ci 5, cr b161, ci 0, cu, cu, cu, cu, cu, cu, cu, cu, cu, cu]) rfl ?_
   refine wic X175 hx hby at_159 ?_
   refine wst X175 hx hby at_160 (l' := #[cj q0, cs, ci p1, cj q2, cs, cj q3, cs, ci p4, ci 4, ci 5, cr b161, ci 0, ci 0, cu, cu, cu, cu, cu, cu, cu, cu, cu]) rfl ?_
   refine wil X175 hx hby at_162 rfl ?_
   refine wiy (pc := 164) (pc' := 320) X175 hx hby at_164 ((if0 _ _).trans (teq (by decide : (0 : Int32) = (0 : Int32))).1) (by decide) (by decide) ?_
   show Ends _ _ _ _ T175 (mkF m 320 #[cj q0, cs, ci p1, cj q2, cs, cj q3, cs, ci p4, ci 4, ci 5, cr b161, ci 0, ci 0, cu, cu, cu, cu, cu, cu, cu, cu, cu] []) _ _ _
   exact J320u _ _ _ b161 _ (5 : Int32) (4 : Int32) (0 : Int32) (0 : Int32) X175 e175 O175 N175 K175 V175 (by decide) (by decide) (Or.inr ⟨rfl, fun q => (own_spec_5_4 c0_ c1_ c2_ c3_ c4_ c5_ c6_ q0).mp q⟩)
  ·show Ends _ _ _ _ T175 (mkF m 142 #[cj q0, cs, ci p1, cj q2, cs, cj q3, cs, ci p4, ci 5, ci 5, cr b161, cu, cu, cu, cu, cu, cu, cu, cu, cu, cu, cu] []) _ _ _
   refine wbp X175 hx hby at_142 ?_
   refine wil X175 hx hby at_144 rfl ?_
   refine wis X175 hx hby at_146 ?_
   refine wil X175 hx hby at_147 rfl ?_
   show Ends _ _ _ _ T175 (mkF m 149 #[cj q0, cs, ci p1, cj q2, cs, cj q3, cs, ci p4, ci 5, ci 5, cr b161, cu, cu, cu, cu, cu, cu, cu, cu, cu, cu, cu] [(.int 5), (.int 2)]) _ _ _
   refine wcy (pc := 149) (pc' := 156) X175 hx hby at_149 (tlt (by decide : (2 : Int32) < (5 : Int32))).1 (by decide) (by decide) ?_
   refine wic X175 hx hby at_156 ?_
   refine wst X175 hx hby at_157 (l' := #[cj q0, cs, ci p1, cj q2, cs, cj q3, cs, ci p4, ci 5, ci 5, cr b161, ci 0, cu, cu, cu, cu, cu, cu, cu, cu, cu, cu]) rfl ?_
   refine wic X175 hx hby at_159 ?_
   refine wst X175 hx hby at_160 (l' := #[cj q0, cs, ci p1, cj q2, cs, cj q3, cs, ci p4, ci 5, ci 5, cr b161, ci 0, ci 0, cu, cu, cu, cu, cu, cu, cu, cu, cu]) rfl ?_
   show Ends _ _ _ _ T175 (mkF m 162 #[cj q0, cs, ci p1, cj q2, cs, cj q3, cs, ci p4, ci 5, ci 5, cr b161, ci 0, ci 0, cu, cu, cu, cu, cu, cu, cu, cu, cu] []) _ _ _
   refine wil X175 hx hby at_162 rfl ?_
   refine wiy (pc := 164) (pc' := 320) X175 hx hby at_164 ((if0 _ _).trans (teq (by decide : (0 : Int32) = (0 : Int32))).1) (by decide) (by decide) ?_
   exact J320u _ _ _ b161 _ (5 : Int32) (5 : Int32) (0 : Int32) (0 : Int32) X175 e175 O175 N175 K175 V175 (by decide) (by decide) (Or.inr ⟨rfl, fun q => (own_spec_5_5 c0_ c1_ c2_ c3_ c4_ c5_ c6_ q0).mp q⟩)
 ·rcases hlen with rfl | rfl
  ·show Ends _ _ _ _ T175 (mkF m 142 #[cj q0, cs, ci p1, cj q2, cs, cj q3, cs, ci p4, ci 4, ci 6, cr b161, cu, cu, cu, cu, cu, cu, cu, cu, cu, cu, cu] []) _ _ _
   refine wbp X175 hx hby at_142 ?_
   refine wil X175 hx hby at_144 rfl ?_
   show Ends _ _ _ _ T175 (mkF m 146 #[cj q0, cs, ci p1, cj q2, cs, cj q3, cs, ci p4, ci 4, ci 6, cr b161, cu, cu, cu, cu, cu, cu, cu, cu, cu, cu, cu] [(.int 6), (.int 7)]) _ _ _
   refine wis X175 hx hby at_146 ?_
   refine wil X175 hx hby at_147 rfl ?_
   refine wcy (pc := 149) (pc' := 156) X175 hx hby at_149 (tlt (by decide : (1 : Int32) < (4 : Int32))).1 (by decide) (by decide) ?_
   refine wic X175 hx hby at_156 ?_
   refine wst X175 hx hby at_157 (l' := #[cj q0, cs, ci p1, cj q2, cs, cj q3, cs, ci p4, ci 4, ci 6, cr b161, ci 0, cu, cu, cu, cu, cu, cu, cu, cu, cu, cu]) rfl ?_
   show Ends _ _ _ _ T175 (mkF m 159 #[cj q0, cs, ci p1, cj q2, cs, cj q3, cs, ci p4, ci 4, ci 6, cr b161, ci 0, cu, cu, cu, cu, cu, cu, cu, cu, cu, cu] []) _ _ _
   refine wic X175 hx hby at_159 ?_
   refine wst X175 hx hby at_160 (l' := #[cj q0, cs, ci p1, cj q2, cs, cj q3, cs, ci p4, ci 4, ci 6, cr b161, ci 0, ci 0, cu, cu, cu, cu, cu, cu, cu, cu, cu]) rfl ?_
   refine wil X175 hx hby at_162 rfl ?_
   refine wiy (pc := 164) (pc' := 320) X175 hx hby at_164 ((if0 _ _).trans (teq (by decide : (0 : Int32) = (0 : Int32))).1) (by decide) (by decide) ?_
   exact J320u _ _ _ b161 _ (6 : Int32) (4 : Int32) (0 : Int32) (0 : Int32) X175 e175 O175 N175 K175 V175 (by decide) (by decide) (Or.inr ⟨rfl, fun q => (own_spec_6_4 c0_ c1_ c2_ c3_ c4_ c5_ c6_ q0).mp q⟩)
  ·show Ends _ _ _ _ T175 (mkF m 142 #[cj q0, cs, ci p1, cj q2, cs, cj q3, cs, ci p4, ci 5, ci 6, cr b161, cu, cu, cu, cu, cu, cu, cu, cu, cu, cu, cu] []) _ _ _
   refine wbp X175 hx hby at_142 ?_
   refine wil X175 hx hby at_144 rfl ?_
   refine wis X175 hx hby at_146 ?_
   refine wil X175 hx hby at_147 rfl ?_
   refine wcy (pc := 149) (pc' := 156) X175 hx hby at_149 (tlt (by decide : (1 : Int32) < (5 : Int32))).1 (by decide) (by decide) ?_
   show Ends _ _ _ _ T175 (mkF m 156 #[cj q0, cs, ci p1, cj q2, cs, cj q3, cs, ci p4, ci 5, ci 6, cr b161, cu, cu, cu, cu, cu, cu, cu, cu, cu, cu, cu] []) _ _ _
   refine wic X175 hx hby at_156 ?_
   refine wst X175 hx hby at_157 (l' := #[cj q0, cs, ci p1, cj q2, cs, cj q3, cs, ci p4, ci 5, ci 6, cr b161, ci 0, cu, cu, cu, cu, cu, cu, cu, cu, cu, cu]) rfl ?_
   refine wic X175 hx hby at_159 ?_
   refine wst X175 hx hby at_160 (l' := #[cj q0, cs, ci p1, cj q2, cs, cj q3, cs, ci p4, ci 5, ci 6, cr b161, ci 0, ci 0, cu, cu, cu, cu, cu, cu, cu, cu, cu]) rfl ?_
   refine wil X175 hx hby at_162 rfl ?_
   show Ends _ _ _ _ T175 (mkF m 164 #[cj q0, cs, ci p1, cj q2, cs, cj q3, cs, ci p4, ci 5, ci 6, cr b161, ci 0, ci 0, cu, cu, cu, cu, cu, cu, cu, cu, cu] [(.int 0)]) _ _ _
   refine wiy (pc := 164) (pc' := 320) X175 hx hby at_164 ((if0 _ _).trans (teq (by decide : (0 : Int32) = (0 : Int32))).1) (by decide) (by decide) ?_
   exact J320u _ _ _ b161 _ (6 : Int32) (5 : Int32) (0 : Int32) (0 : Int32) X175 e175 O175 N175 K175 V175 (by decide) (by decide) (Or.inr ⟨rfl, fun q => (own_spec_6_5 c0_ c1_ c2_ c3_ c4_ c5_ c6_ q0).mp q⟩)
set_option maxRecDepth 65536 in
set_option maxHeartbeats 40000000 in
theorem comes_1 {Post : Tables → Env → Array Value → State → Outcome → State → Prop} (hpost : ∀ tb e args s v u, (limb_1_1.after args s (.returned v) u = true ∧ limb_1_2.after args s (.returned v) u = true ∧ True) → FrameEnd s (.returned v) u (Jvm.fieldLocs frame_1_writes args s ++ Jvm.arrayLocs frame_1_arrays args s ++ Jvm.staticLocs frame_1_statics s) 24 192 → Post tb e args s (.returned v) u) :
  ArmFor flags0 classFile x code maxLocals ret World_1 tables_1 room_1 Calls_1 rest_1 Pre_1 Post := by
 intro l hfl _ _ p e ha hc hk s m args below hf hA hF happ hP
 obtain ⟨hcalls, hrest, hpre⟩ := hP
 obtain ⟨-, -, -, hnamed, -, -, -, hat⟩ := (Spec.applies_iff hf).mp happ
 obtain ⟨hg, hn⟩ := and_e (Cond.before_iff.mp (show (Jvm.Cond.and given_1 narrow_1).before args s = true from hpre))
 obtain ⟨g0a, g0b⟩ := and_e hg
 obtain ⟨g1a, g1b⟩ := and_e g0b
 obtain ⟨g2a, g2b⟩ := and_e g1b
 obtain ⟨g3a, g3b⟩ := and_e g2b
 obtain ⟨g4a, g4b⟩ := and_e g3b
 obtain ⟨w0, w1, w2, w3, w4, rfl⟩ : ∃ w0 w1 w2 w3 w4 : Value, args = #[w0, w1, w2, w3, w4] := by
  have hs : args.size = 5 := by simpa [Cond.value, given_1] using g0a
  obtain ⟨L⟩ := args
  match L, hs with
  | [w0, w1, w2, w3, w4], _ => exact ⟨w0, w1, w2, w3, w4, rfl⟩
 have hw := fun d (hd : d ∈ tables_1) => atoms_spec (ws := Jvm.Cond.code x code maxLocals ret :: tables_1) hat d (List.mem_cons_of_mem _ hd)
 have hfit : Fit s := fun {y c} hc i hi => by
  obtain ⟨ha, rfl⟩ := Array.getElem?_eq_some_iff.mp hc
  have q := List.all_eq_true.mp ((Array.all_eq_true_iff_forall_mem.mp hF) _ (Array.getElem_mem ha)) i (List.mem_range.mpr hi)
  simpa [Array.getElem?_eq_getElem hi] using q
 obtain ⟨hsets, hown0⟩ := atoms_of _ (rest_1_c_eq ▸ (show rest_1_c.before _ s = true from hrest))
 have hr0 := Cond.before_iff.mp hown0
 obtain ⟨i0, ei0⟩ := isL_v g1a
 obtain rfl : w0 = (.long i0) := Option.some.inj ei0
 obtain ⟨i1, ei1⟩ := is_v g2a
 obtain rfl : w1 = (.int i1) := Option.some.inj ei1
 obtain ⟨i2, ei2⟩ := isL_v g3a
 obtain rfl : w2 = (.long i2) := Option.some.inj ei2
 obtain ⟨i3, ei3⟩ := isL_v g4a
 obtain rfl : w3 = (.long i3) := Option.some.inj ei3
 obtain ⟨i4, ei4⟩ := is_v g4b
 obtain rfl : w4 = (.int i4) := Option.some.inj ei4
 obtain ⟨G1, ev1⟩ := is_v (Cond.before_iff.mp (hsets _ (List.mem_of_getElem? (i := 1) rfl)))
 have SCS := Sta.start ev1 (Or.inl (hsets _ (List.mem_of_getElem? (i := 0) rfl)))
 have P5 : ¬ G1 = (0 : Int32) := gotF (Cond.eq_ints ev1 rfl) (not_v (Cond.before_iff.mp (hsets _ (List.mem_of_getElem? (i := 2) rfl))))
 obtain ⟨G3, ev3, RG3⟩ := isR_v (Cond.before_iff.mp (hsets _ (List.mem_of_getElem? (i := 8) rfl)))
 have SSF := Sta.start ev3 (Or.inl (hsets _ (List.mem_of_getElem? (i := 7) rfl)))
 have SAD := Sta.start (own_eqI (Cond.before_iff.mp (hsets _ (List.mem_of_getElem? (i := 12) rfl)))) (Or.inl (hsets _ (List.mem_of_getElem? (i := 11) rfl)))
 have SHI := Sta.start (own_eqI (Cond.before_iff.mp (hsets _ (List.mem_of_getElem? (i := 15) rfl)))) (Or.inl (hsets _ (List.mem_of_getElem? (i := 14) rfl)))
 have SLO := Sta.start (own_eqI (Cond.before_iff.mp (hsets _ (List.mem_of_getElem? (i := 18) rfl)))) (Or.inl (hsets _ (List.mem_of_getElem? (i := 17) rfl)))
 obtain ⟨n, o, h1, h2, h3, _, L, rfl, ⟨rfl, N⟩, hq⟩ := rm0 l s _ hw tables_1 s.heap.size s.heap (Old.start s) i0 i1 i2 i3 i4 G1 G3 ⟨SCS, P5, SAD, SHI, SLO, SSF, RG3⟩ p e ha hc hk s m _ below hf ((Spec.applies_iff_loose hf).mp happ).1 ⟨rfl, State.Warmed39.refl s, rfl⟩ trivial
 refine ⟨n, _, h1, h2, h3, hpost _ _ _ _ _ _ ⟨Cond.after_iff.mpr rfl, Cond.after_iff.mpr (eq_i res_at (Term.int_eval (1)) rfl), trivial⟩ ⟨hq.1, hq.2.1, (hq.2.2.sift fun y hy => Or.inr (N y hy)).mono (by decide) (by decide)⟩⟩
theorem main_1_1 : Claimed_1_1 := comes_1 fun _ _ _ _ _ _ h hF => ⟨h.1, hF⟩
theorem main_1_2 : Claimed_1_2 := comes_1 fun _ _ _ _ _ _ h hF => ⟨h.2.1, hF⟩
end Jvm.Pilot.@@N@@
namespace Jvm.Pilot.@@N@@
open Jvm Jvm.ClassFile Sem Op Lib Jvm.Free Jvm.Stand Jvm.Pilot.@@N@@.Jvm.D
/-! MADE BY PROGRAM (witnessworld.py) out of the Statement's table words and the real class files: 22 classes; the members and pool entries that the words name. The judged class is class 1, her method 2. -/
namespace start1
open Jvm.ClassFile
def u (s : String) : CpInfo := .utf8 (stringToUtf16 s)
/-- a pool by its gaps: so many unusable entries, then the entry; so many at the end -/
def gap : Nat → List CpInfo → List CpInfo
  | 0, r => r
  | n + 1, r => .unusable :: gap n r
def poolList (es : List (Nat × CpInfo)) (last : Nat) : List CpInfo := es.foldr (fun e r => gap e.1 (e.2 :: r)) (gap last [])
def pool (es : List (Nat × CpInfo)) (last : Nat) : Array CpInfo := ⟨poolList es last⟩
def fileOf (pool : Array CpInfo) (this : Nat) (attrs : Array Attribute := #[]) (ms : Array MethodInfo := #[]) (fl : Nat := 33) (sup : Nat := 0) (ifs : Array Nat := #[]) (fds : Array FieldInfo := #[]) : ClassFile where
  minorVersion := 0
  majorVersion := 65
  constantPool := pool
  accessFlags := fl
  thisClass := this
  superClass := sup
  interfaces := ifs
  fields := fds
  methods := ms
  attributes := attrs
def plain (name : String) (sup : Option ClassId) : Class where
  name := name
  kind := .ordinary
  loader := none
  accessFlags := 33
  super := sup
  interfaces := #[]
  cf := none
  fields := #[]
  methods := #[]
  instanceTypes := #[]
  staticTypes := #[]
  resolved := #[]
  callSites := []
  init := .initialized
  statics := none
  mirror := none

def pool0 : Array CpInfo := pool [(5, u "<init>"), (0, u "()V"), (1, .class_ 10), (1, u "java/lang/Object")] 113

def k0c0 : Code := { maxStack := 0, maxLocals := 1, code := object_method_1_code, exceptionTable := #[], attributes := #[] }
def k0m0 : Method := { name := "<init>", desc := "()V", sig := { parameters := [], returnType := none }, accessFlags := 1, code := some k0c0 }
/-- java/lang/Object -/
def k0 : Class := { plain "java/lang/Object" none with
  accessFlags := 33
  interfaces := #[]
  cf := some (fileOf pool0 8 #[] #[{ accessFlags := 1, nameIndex := 5, descriptorIndex := 6, attributes := #[] }] 33 0 #[] #[])
  fields := #[]
  methods := #[k0m0]
  instanceTypes := #[]
  staticTypes := #[]
  resolved := Array.replicate 124 none
  statics := none }

def pool1 : Array CpInfo := pool [(2, .class_ 4), (1, u "java/lang/Object"), (0, u "<init>"), (0, u "()V"), (0, .long 255), (1, .methodref 10 11), (0, .class_ 12), (0, .nameAndType 13 14), (0, u "com/example/ratatoskr/ratatoskr/core/internal/StringInputSkipWordPinLaw"), (0, u "pick"), (0, u "(IIJIJ)C"), (0, .long 4294967040), (1, .long 1099511627520), (1, .class_ 20), (0, u "com/example/ratatoskr/ratatoskr/core/internal/StringInput"), (0, .class_ 22), (0, u "java/lang/String"), (0, .methodref 21 24), (0, .nameAndType 5 25), (0, u "([C)V"), (0, .methodref 19 27), (0, .nameAndType 5 28), (0, u "(Ljava/lang/String;)V"), (0, .methodref 19 30), (0, .nameAndType 31 6), (0, u "skip"), (0, .methodref 19 33), (0, .nameAndType 34 35), (0, u "skipWord"), (0, u "(JI)Z"), (0, .methodref 19 37), (0, .nameAndType 38 39), (0, u "offset"), (0, u "()J"), (3, u "law"), (0, u "(JIJJI)Z")] 4

def k1m0 : Method := { name := "<init>", desc := "()V", sig := { parameters := [], returnType := none }, accessFlags := 2, code := none }
def k1c1 : Code := { maxStack := 4, maxLocals := 8, code := method_2_code, exceptionTable := #[], attributes := #[] }
def k1m1 : Method := { name := "pick", desc := "(IIJIJ)C", sig := { parameters := [.int, .int, .long, .int, .long], returnType := some .char }, accessFlags := 10, code := some k1c1 }
def k1c2 : Code := { maxStack := 10, maxLocals := 22, code := code, exceptionTable := #[], attributes := #[] }
def k1m2 : Method := { name := "law", desc := "(JIJJI)Z", sig := { parameters := [.long, .int, .long, .long, .int], returnType := some .boolean }, accessFlags := 9, code := some k1c2 }
/-- com/example/ratatoskr/ratatoskr/core/internal/StringInputSkipWordPinLaw -/
def k1 : Class := { plain "com/example/ratatoskr/ratatoskr/core/internal/StringInputSkipWordPinLaw" (some 0) with
  accessFlags := 49
  interfaces := #[]
  cf := some (fileOf pool1 10 #[] #[{ accessFlags := 2, nameIndex := 5, descriptorIndex := 6, attributes := #[] }, { accessFlags := 10, nameIndex := 13, descriptorIndex := 14, attributes := #[] }, { accessFlags := 9, nameIndex := 43, descriptorIndex := 44, attributes := #[] }] 49 2 #[] #[])
  fields := #[]
  methods := #[k1m0, k1m1, k1m2]
  instanceTypes := #[]
  staticTypes := #[]
  resolved := Array.replicate 49 none
  statics := none }

def pool2 : Array CpInfo := pool [(3, .methodref 4 5), (0, .class_ 6), (0, .nameAndType 7 8), (0, u "java/lang/Object"), (0, u "<init>"), (0, u "()V"), (0, .class_ 10), (0, u "com/example/ratatoskr/ratatoskr/core/internal/Input"), (4, u "takenSignificand"), (0, u "J"), (2, u "takenLayout"), (0, u "I"), (20, u "keepsNames"), (0, u "Z"), (8, u "names"), (0, u "Lcom/example/ratatoskr/ratatoskr/core/internal/NameCache;"), (5, u "decoded"), (12, u "Lcom/example/ratatoskr/ratatoskr/core/internal/DecodedChars;"), (30, u "NOT_TAKEN"), (1, u "MARKED"), (2, u "TAKEN")] 59

def k2c0 : Code := { maxStack := 1, maxLocals := 1, code := prog_74_method_1_code, exceptionTable := #[], attributes := #[] }
def k2m0 : Method := { name := "<init>", desc := "()V", sig := { parameters := [], returnType := none }, accessFlags := 0, code := some k2c0 }
/-- com/example/ratatoskr/ratatoskr/core/internal/Input -/
def k2 : Class := { plain "com/example/ratatoskr/ratatoskr/core/internal/Input" (some 0) with
  accessFlags := 1056
  interfaces := #[]
  cf := some (fileOf pool2 9 #[] #[{ accessFlags := 0, nameIndex := 7, descriptorIndex := 8, attributes := #[] }] 1056 4 #[] #[{ accessFlags := 24, nameIndex := 102, descriptorIndex := 16, attributes := #[] }, { accessFlags := 24, nameIndex := 104, descriptorIndex := 16, attributes := #[] }, { accessFlags := 24, nameIndex := 107, descriptorIndex := 16, attributes := #[] }, { accessFlags := 0, nameIndex := 15, descriptorIndex := 16, attributes := #[] }, { accessFlags := 0, nameIndex := 19, descriptorIndex := 20, attributes := #[] }, { accessFlags := 2, nameIndex := 58, descriptorIndex := 71, attributes := #[] }, { accessFlags := 2, nameIndex := 41, descriptorIndex := 42, attributes := #[] }, { accessFlags := 2, nameIndex := 51, descriptorIndex := 52, attributes := #[] }])
  fields := #[{ name := "NOT_TAKEN", type := .long, accessFlags := 24, slot := 0, constantValue := 0 }, { name := "MARKED", type := .long, accessFlags := 24, slot := 1, constantValue := 0 }, { name := "TAKEN", type := .long, accessFlags := 24, slot := 2, constantValue := 0 }, { name := "takenSignificand", type := .long, accessFlags := 0, slot := 0, constantValue := 0 }, { name := "takenLayout", type := .int, accessFlags := 0, slot := 1, constantValue := 0 }, { name := "decoded", type := (.object "com/example/ratatoskr/ratatoskr/core/internal/DecodedChars"), accessFlags := 2, slot := 2, constantValue := 0 }, { name := "keepsNames", type := .boolean, accessFlags := 2, slot := 3, constantValue := 0 }, { name := "names", type := (.object "com/example/ratatoskr/ratatoskr/core/internal/NameCache"), accessFlags := 2, slot := 4, constantValue := 0 }]
  methods := #[k2m0]
  instanceTypes := #[.long, .int, (.object "com/example/ratatoskr/ratatoskr/core/internal/DecodedChars"), .boolean, (.object "com/example/ratatoskr/ratatoskr/core/internal/NameCache")]
  staticTypes := #[.long, .long, .long]
  resolved := Array.replicate 167 none
  statics := none }

def pool3 : Array CpInfo := pool [(1, .methodref 2 3), (0, .class_ 4), (0, .nameAndType 5 6), (0, u "com/example/ratatoskr/ratatoskr/core/internal/Input"), (0, u "<init>"), (0, u "()V"), (0, .fieldref 8 9), (0, .class_ 10), (0, .nameAndType 11 12), (0, u "com/example/ratatoskr/ratatoskr/core/internal/StringInput"), (0, u "text"), (0, u "Ljava/lang/String;"), (0, .methodref 14 15), (0, .class_ 16), (0, .nameAndType 17 18), (0, u "java/lang/String"), (0, u "length"), (0, u "()I"), (0, .methodref 20 21), (0, .class_ 22), (0, .nameAndType 23 24), (0, u "java/lang/Math"), (0, u "min"), (0, u "(II)I"), (0, .fieldref 8 26), (0, .nameAndType 27 28), (0, u "chars"), (0, u "[C"), (0, .fieldref 8 30), (0, .nameAndType 31 32), (0, u "limit"), (0, u "I"), (0, .methodref 14 34), (0, .nameAndType 35 36), (0, u "getChars"), (0, u "(II[CI)V"), (0, .fieldref 8 38), (0, .nameAndType 39 32), (0, u "position"), (6, u "ascii"), (0, u "Z"), (0, .fieldref 8 49), (0, .nameAndType 50 32), (0, u "base"), (32, u "mark"), (39, .long 255), (60, u "WINDOW"), (2, u "(Ljava/lang/String;)V"), (3, u "skip"), (8, u "skipWord"), (0, u "(JI)Z"), (6, u "offset"), (0, u "()J")] 6

def k3c0 : Code := { maxStack := 5, maxLocals := 2, code := prog_85_method_1_code, exceptionTable := #[], attributes := #[] }
def k3m0 : Method := { name := "<init>", desc := "(Ljava/lang/String;)V", sig := { parameters := [(.object "java/lang/String")], returnType := none }, accessFlags := 0, code := some k3c0 }
def k3c1 : Code := { maxStack := 3, maxLocals := 1, code := prog_85_method_3_code, exceptionTable := #[], attributes := #[] }
def k3m1 : Method := { name := "skip", desc := "()V", sig := { parameters := [], returnType := none }, accessFlags := 0, code := some k3c1 }
def k3c2 : Code := { maxStack := 5, maxLocals := 7, code := prog_85_method_12_code, exceptionTable := #[], attributes := #[] }
def k3m2 : Method := { name := "skipWord", desc := "(JI)Z", sig := { parameters := [.long, .int], returnType := some .boolean }, accessFlags := 0, code := some k3c2 }
def k3c3 : Code := { maxStack := 2, maxLocals := 1, code := prog_85_method_19_code, exceptionTable := #[], attributes := #[] }
def k3m3 : Method := { name := "offset", desc := "()J", sig := { parameters := [], returnType := some .long }, accessFlags := 0, code := some k3c3 }
/-- com/example/ratatoskr/ratatoskr/core/internal/StringInput -/
def k3 : Class := { plain "com/example/ratatoskr/ratatoskr/core/internal/StringInput" (some 2) with
  accessFlags := 48
  interfaces := #[]
  cf := some (fileOf pool3 8 #[] #[{ accessFlags := 0, nameIndex := 5, descriptorIndex := 187, attributes := #[] }, { accessFlags := 0, nameIndex := 191, descriptorIndex := 6, attributes := #[] }, { accessFlags := 0, nameIndex := 200, descriptorIndex := 201, attributes := #[] }, { accessFlags := 0, nameIndex := 208, descriptorIndex := 209, attributes := #[] }] 48 2 #[] #[{ accessFlags := 24, nameIndex := 184, descriptorIndex := 32, attributes := #[] }, { accessFlags := 18, nameIndex := 11, descriptorIndex := 12, attributes := #[] }, { accessFlags := 18, nameIndex := 27, descriptorIndex := 28, attributes := #[] }, { accessFlags := 2, nameIndex := 50, descriptorIndex := 32, attributes := #[] }, { accessFlags := 2, nameIndex := 31, descriptorIndex := 32, attributes := #[] }, { accessFlags := 2, nameIndex := 39, descriptorIndex := 32, attributes := #[] }, { accessFlags := 2, nameIndex := 83, descriptorIndex := 32, attributes := #[] }, { accessFlags := 2, nameIndex := 46, descriptorIndex := 47, attributes := #[] }])
  fields := #[{ name := "WINDOW", type := .int, accessFlags := 24, slot := 0, constantValue := 0 }, { name := "text", type := (.object "java/lang/String"), accessFlags := 18, slot := 5, constantValue := 0 }, { name := "chars", type := (.array .char), accessFlags := 18, slot := 6, constantValue := 0 }, { name := "base", type := .int, accessFlags := 2, slot := 7, constantValue := 0 }, { name := "limit", type := .int, accessFlags := 2, slot := 8, constantValue := 0 }, { name := "position", type := .int, accessFlags := 2, slot := 9, constantValue := 0 }, { name := "mark", type := .int, accessFlags := 2, slot := 10, constantValue := 0 }, { name := "ascii", type := .boolean, accessFlags := 2, slot := 11, constantValue := 0 }]
  methods := #[k3m0, k3m1, k3m2, k3m3]
  instanceTypes := #[.long, .int, (.object "com/example/ratatoskr/ratatoskr/core/internal/DecodedChars"), .boolean, (.object "com/example/ratatoskr/ratatoskr/core/internal/NameCache"), (.object "java/lang/String"), (.array .char), .int, .int, .int, .int, .boolean]
  staticTypes := #[.int]
  resolved := Array.replicate 216 none
  statics := none }

def pool4 : Array CpInfo := pool [(1, .class_ 2), (0, u "java/io/Serializable"), (0, .class_ 4), (0, u "java/lang/Object")] 2

/-- java/io/Serializable -/
def k4 : Class := { plain "java/io/Serializable" (some 0) with
  accessFlags := 1537
  interfaces := #[]
  cf := some (fileOf pool4 1 #[] #[] 1537 3 #[] #[])
  fields := #[]
  methods := #[]
  instanceTypes := #[]
  staticTypes := #[]
  resolved := Array.replicate 7 none
  statics := none }

def pool5 : Array CpInfo := pool [(1, .class_ 2), (0, u "java/lang/Comparable"), (0, .class_ 4), (0, u "java/lang/Object")] 7

/-- java/lang/Comparable -/
def k5 : Class := { plain "java/lang/Comparable" (some 0) with
  accessFlags := 1537
  interfaces := #[]
  cf := some (fileOf pool5 1 #[] #[] 1537 3 #[] #[])
  fields := #[]
  methods := #[]
  instanceTypes := #[]
  staticTypes := #[]
  resolved := Array.replicate 12 none
  statics := none }

def pool6 : Array CpInfo := pool [(2, .class_ 4), (1, u "java/lang/CharSequence"), (42, .class_ 48), (0, u "java/lang/CharSequence$1CodePointIterator"), (10, .class_ 60), (0, u "java/lang/CharSequence$1CharIterator"), (5, .class_ 67), (0, u "java/lang/Object")] 63

/-- java/lang/CharSequence -/
def k6 : Class := { plain "java/lang/CharSequence" (some 0) with
  accessFlags := 1537
  interfaces := #[]
  cf := some (fileOf pool6 2 #[.nestMembers #[47, 59]] #[] 1537 66 #[] #[])
  fields := #[]
  methods := #[]
  instanceTypes := #[]
  staticTypes := #[]
  resolved := Array.replicate 131 none
  statics := none }

def pool7 : Array CpInfo := pool [(1, .class_ 2), (0, u "java/lang/constant/Constable"), (0, .class_ 4), (0, u "java/lang/Object")] 6

/-- java/lang/constant/Constable -/
def k7 : Class := { plain "java/lang/constant/Constable" (some 0) with
  accessFlags := 1537
  interfaces := #[]
  cf := some (fileOf pool7 1 #[] #[] 1537 3 #[] #[])
  fields := #[]
  methods := #[]
  instanceTypes := #[]
  staticTypes := #[]
  resolved := Array.replicate 11 none
  statics := none }

def pool8 : Array CpInfo := pool [(1, .class_ 2), (0, u "java/lang/constant/ConstantDesc"), (0, .class_ 4), (0, u "java/lang/Object")] 32

/-- java/lang/constant/ConstantDesc -/
def k8 : Class := { plain "java/lang/constant/ConstantDesc" (some 0) with
  accessFlags := 1537
  interfaces := #[]
  cf := some (fileOf pool8 1 #[] #[] 1537 3 #[] #[])
  fields := #[]
  methods := #[]
  instanceTypes := #[]
  staticTypes := #[]
  resolved := Array.replicate 37 none
  statics := none }

def pool9 : Array CpInfo := pool [(1, .methodref 2 3), (0, .class_ 4), (0, .nameAndType 5 6), (0, u "java/lang/Object"), (0, u "<init>"), (0, u "()V"), (2, .fieldref 10 11), (0, .class_ 12), (0, .nameAndType 13 14), (0, u "java/lang/String"), (0, u "value"), (0, u "[B"), (0, .fieldref 10 16), (0, .nameAndType 17 18), (0, u "coder"), (0, u "B"), (2, u "hash"), (0, u "I"), (2, u "hashIsZero"), (0, u "Z"), (0, .methodref 10 28), (0, .nameAndType 5 29), (0, u "([CIILjava/lang/Void;)V"), (4, .methodref 10 35), (0, .nameAndType 36 37), (0, u "checkBoundsOffCount"), (0, u "(III)I"), (0, .fieldref 10 39), (0, .nameAndType 40 26), (0, u "COMPACT_STRINGS"), (1, .class_ 44), (1, u "java/lang/StringUTF16"), (0, u "compress"), (1, .methodref 42 48), (0, .nameAndType 49 50), (0, u "coderFromArrayLen"), (0, u "([BI)B"), (56, .class_ 109), (1, u "java/lang/StringLatin1"), (32, u "()Z"), (34, .methodref 42 178), (0, .nameAndType 45 179), (0, u "([CII)[B"), (154, u "()I"), (0, .methodref 10 336), (0, .nameAndType 17 337), (0, u "()B"), (154, .methodref 10 493), (0, .nameAndType 494 142), (0, u "isLatin1"), (10, .methodref 10 506), (0, .nameAndType 507 334), (0, u "length"), (5, u "checkFromToIndex"), (7, .methodref 10 522), (0, .nameAndType 523 524), (0, u "checkBoundsBeginEnd"), (0, u "(III)V"), (0, .methodref 107 526), (0, .nameAndType 527 528), (0, u "getChars"), (0, u "([BII[CI)V"), (0, .methodref 42 526), (45, .class_ 576), (0, u "java/lang/CharSequence"), (22, u "CASE_INSENSITIVE_ORDER"), (0, u "Ljava/util/Comparator;"), (409, u "([C)V"), (42, .fieldref 1054 1055), (0, .class_ 1056), (0, .nameAndType 1057 1058), (0, u "jdk/internal/util/Preconditions"), (0, u "SIOOBE_FORMATTER"), (0, u "Ljava/util/function/BiFunction;"), (3, .methodref 1054 1063), (0, .nameAndType 513 1064), (0, u "(IIILjava/util/function/BiFunction;)I"), (0, .methodref 1054 1066), (0, .nameAndType 1067 1064), (0, u "checkFromIndexSize"), (33, u "serialPersistentFields"), (0, u "[Ljava/io/ObjectStreamField;"), (0, .class_ 1104), (0, u "java/lang/String$CaseInsensitiveComparator"), (1, .class_ 1107), (0, u "java/io/Serializable"), (0, .class_ 1109), (0, u "java/lang/Comparable"), (0, .class_ 1111), (0, u "java/lang/constant/Constable"), (0, .class_ 1113), (0, u "java/lang/constant/ConstantDesc"), (2, u "serialVersionUID"), (0, u "J"), (3, u "REPL"), (0, u "C"), (2, u "LATIN1"), (1, u "UTF16"), (112, u "(II[CI)V")] 210

def k9m0 : Method := { name := "<init>", desc := "()V", sig := { parameters := [], returnType := none }, accessFlags := 1, code := none }
def k9c1 : Code := { maxStack := 5, maxLocals := 2, code := jdk_42_method_3_code, exceptionTable := #[], attributes := #[] }
def k9m1 : Method := { name := "<init>", desc := "([C)V", sig := { parameters := [(.array .char)], returnType := none }, accessFlags := 1, code := some k9c1 }
def k9c2 : Code := { maxStack := 2, maxLocals := 1, code := jdk_42_method_54_code, exceptionTable := #[], attributes := #[] }
def k9m2 : Method := { name := "length", desc := "()I", sig := { parameters := [], returnType := some .int }, accessFlags := 1, code := some k9c2 }
def k9c3 : Code := { maxStack := 5, maxLocals := 5, code := jdk_42_method_61_code, exceptionTable := #[], attributes := #[] }
def k9m3 : Method := { name := "getChars", desc := "(II[CI)V", sig := { parameters := [.int, .int, (.array .char), .int], returnType := none }, accessFlags := 1, code := some k9c3 }
def k9c4 : Code := { maxStack := 4, maxLocals := 6, code := jdk_42_method_149_code, exceptionTable := #[], attributes := #[] }
def k9m4 : Method := { name := "<init>", desc := "([CIILjava/lang/Void;)V", sig := { parameters := [(.array .char), .int, .int, (.object "java/lang/Void")], returnType := none }, accessFlags := 2, code := some k9c4 }
def k9c5 : Code := { maxStack := 1, maxLocals := 1, code := jdk_42_method_152_code, exceptionTable := #[], attributes := #[] }
def k9m5 : Method := { name := "coder", desc := "()B", sig := { parameters := [], returnType := some .byte }, accessFlags := 0, code := some k9c5 }
def k9c6 : Code := { maxStack := 1, maxLocals := 1, code := jdk_42_method_154_code, exceptionTable := #[], attributes := #[] }
def k9m6 : Method := { name := "isLatin1", desc := "()Z", sig := { parameters := [], returnType := some .boolean }, accessFlags := 0, code := some k9c6 }
def k9c7 : Code := { maxStack := 4, maxLocals := 3, code := jdk_42_method_157_code, exceptionTable := #[], attributes := #[] }
def k9m7 : Method := { name := "checkBoundsOffCount", desc := "(III)I", sig := { parameters := [.int, .int, .int], returnType := some .int }, accessFlags := 8, code := some k9c7 }
def k9c8 : Code := { maxStack := 4, maxLocals := 3, code := jdk_42_method_158_code, exceptionTable := #[], attributes := #[] }
def k9m8 : Method := { name := "checkBoundsBeginEnd", desc := "(III)V", sig := { parameters := [.int, .int, .int], returnType := none }, accessFlags := 8, code := some k9c8 }
/-- java/lang/String -/
def k9 : Class := { plain "java/lang/String" (some 0) with
  accessFlags := 49
  interfaces := #[4, 5, 6, 7, 8]
  cf := some (fileOf pool9 10 #[.nestMembers #[1103]] #[{ accessFlags := 1, nameIndex := 5, descriptorIndex := 6, attributes := #[] }, { accessFlags := 1, nameIndex := 5, descriptorIndex := 1010, attributes := #[] }, { accessFlags := 1, nameIndex := 507, descriptorIndex := 334, attributes := #[] }, { accessFlags := 1, nameIndex := 527, descriptorIndex := 1240, attributes := #[] }, { accessFlags := 2, nameIndex := 5, descriptorIndex := 29, attributes := #[] }, { accessFlags := 0, nameIndex := 17, descriptorIndex := 337, attributes := #[] }, { accessFlags := 0, nameIndex := 494, descriptorIndex := 142, attributes := #[] }, { accessFlags := 8, nameIndex := 36, descriptorIndex := 37, attributes := #[] }, { accessFlags := 8, nameIndex := 523, descriptorIndex := 524, attributes := #[] }] 49 2 #[1106, 1108, 575, 1110, 1112] #[{ accessFlags := 18, nameIndex := 13, descriptorIndex := 14, attributes := #[] }, { accessFlags := 18, nameIndex := 17, descriptorIndex := 18, attributes := #[] }, { accessFlags := 2, nameIndex := 21, descriptorIndex := 22, attributes := #[] }, { accessFlags := 2, nameIndex := 25, descriptorIndex := 26, attributes := #[] }, { accessFlags := 26, nameIndex := 1116, descriptorIndex := 1117, attributes := #[] }, { accessFlags := 24, nameIndex := 40, descriptorIndex := 26, attributes := #[] }, { accessFlags := 26, nameIndex := 1101, descriptorIndex := 1102, attributes := #[] }, { accessFlags := 26, nameIndex := 1121, descriptorIndex := 1122, attributes := #[] }, { accessFlags := 25, nameIndex := 599, descriptorIndex := 600, attributes := #[] }, { accessFlags := 24, nameIndex := 1125, descriptorIndex := 18, attributes := #[] }, { accessFlags := 24, nameIndex := 1127, descriptorIndex := 18, attributes := #[] }])
  fields := #[{ name := "value", type := (.array .byte), accessFlags := 18, slot := 0, constantValue := 0 }, { name := "coder", type := .byte, accessFlags := 18, slot := 1, constantValue := 0 }, { name := "hash", type := .int, accessFlags := 2, slot := 2, constantValue := 0 }, { name := "hashIsZero", type := .boolean, accessFlags := 2, slot := 3, constantValue := 0 }, { name := "serialVersionUID", type := .long, accessFlags := 26, slot := 0, constantValue := 0 }, { name := "COMPACT_STRINGS", type := .boolean, accessFlags := 24, slot := 1, constantValue := 0 }, { name := "serialPersistentFields", type := (.array (.object "java/io/ObjectStreamField")), accessFlags := 26, slot := 2, constantValue := 0 }, { name := "REPL", type := .char, accessFlags := 26, slot := 3, constantValue := 0 }, { name := "CASE_INSENSITIVE_ORDER", type := (.object "java/util/Comparator"), accessFlags := 25, slot := 4, constantValue := 0 }, { name := "LATIN1", type := .byte, accessFlags := 24, slot := 5, constantValue := 0 }, { name := "UTF16", type := .byte, accessFlags := 24, slot := 6, constantValue := 0 }]
  methods := #[k9m0, k9m1, k9m2, k9m3, k9m4, k9m5, k9m6, k9m7, k9m8]
  instanceTypes := #[(.array .byte), .byte, .int, .boolean]
  staticTypes := #[.long, .boolean, (.array (.object "java/io/ObjectStreamField")), .char, (.object "java/util/Comparator"), .byte, .byte]
  resolved := Array.replicate 1451 none
  statics := some 0 }

def pool10 : Array CpInfo := pool [(3, .class_ 4), (0, u "java/lang/String"), (1, .class_ 8), (1, u "java/lang/Object"), (0, u "<init>"), (0, u "()V"), (0, .methodref 12 13), (0, .class_ 14), (0, .nameAndType 15 16), (0, u "java/lang/StringUTF16"), (0, u "newBytesLength"), (0, u "(I)I"), (3, .integer 1073741823), (23, .fieldref 12 45), (0, .nameAndType 46 47), (0, u "$assertionsDisabled"), (0, u "Z"), (0, .methodref 12 49), (0, .nameAndType 50 51), (0, u "length"), (0, u "([B)I"), (7, .fieldref 12 60), (0, .nameAndType 61 62), (0, u "HI_BYTE_SHIFT"), (0, u "I"), (0, .fieldref 12 64), (0, .nameAndType 65 62), (0, u "LO_BYTE_SHIFT"), (5, .methodref 12 72), (0, .nameAndType 73 74), (0, u "getChar"), (0, u "([BI)C"), (24, u "(II[B)V"), (5, u "getChars"), (0, u "([BII[CI)V"), (0, .methodref 12 108), (0, .nameAndType 109 110), (0, u "newBytesFor"), (0, u "(I)[B"), (0, .methodref 12 112), (0, .nameAndType 113 114), (0, u "putChar"), (0, u "([BII)V"), (0, .methodref 12 116), (0, .nameAndType 117 118), (0, u "compress"), (0, u "([CI[BII)I"), (0, .methodref 12 120), (0, .nameAndType 121 122), (0, u "toBytes"), (0, u "([CII)[B"), (50, .methodref 12 174), (0, .nameAndType 175 99), (0, u "checkBoundsOffCount"), (85, u "coderFromArrayLen"), (0, u "([BI)B"), (18, u "(III)I"), (87, .class_ 371), (1, u "java/lang/StringUTF16$LinesSpliterator"), (47, .methodref 3 420), (0, .nameAndType 175 281), (9, u "MAX_LENGTH"), (196, .class_ 628), (0, u "java/lang/StringUTF16$CodePointsSpliterator"), (0, .class_ 630), (0, u "java/lang/StringUTF16$CharsSpliterator")] 4

def k10m0 : Method := { name := "<init>", desc := "()V", sig := { parameters := [], returnType := none }, accessFlags := 0, code := none }
def k10c1 : Code := { maxStack := 1, maxLocals := 1, code := jdk_52_method_2_code, exceptionTable := #[], attributes := #[] }
def k10m1 : Method := { name := "newBytesFor", desc := "(I)[B", sig := { parameters := [.int], returnType := some (.array .byte) }, accessFlags := 9, code := some k10c1 }
def k10c2 : Code := { maxStack := 4, maxLocals := 1, code := jdk_52_method_3_code, exceptionTable := #[], attributes := #[] }
def k10m2 : Method := { name := "newBytesLength", desc := "(I)I", sig := { parameters := [.int], returnType := some .int }, accessFlags := 9, code := some k10c2 }
def k10c3 : Code := { maxStack := 4, maxLocals := 3, code := jdk_52_method_4_code, exceptionTable := #[], attributes := #[] }
def k10m3 : Method := { name := "putChar", desc := "([BII)V", sig := { parameters := [(.array .byte), .int, .int], returnType := none }, accessFlags := 8, code := some k10c3 }
def k10c4 : Code := { maxStack := 3, maxLocals := 2, code := jdk_52_method_5_code, exceptionTable := #[], attributes := #[] }
def k10m4 : Method := { name := "getChar", desc := "([BI)C", sig := { parameters := [(.array .byte), .int], returnType := some .char }, accessFlags := 8, code := some k10c4 }
def k10c5 : Code := { maxStack := 2, maxLocals := 1, code := jdk_52_method_6_code, exceptionTable := #[], attributes := #[] }
def k10m5 : Method := { name := "length", desc := "([B)I", sig := { parameters := [(.array .byte)], returnType := some .int }, accessFlags := 9, code := some k10c5 }
def k10c6 : Code := { maxStack := 4, maxLocals := 5, code := jdk_52_method_14_code, exceptionTable := #[], attributes := #[] }
def k10m6 : Method := { name := "toBytes", desc := "([CII)[B", sig := { parameters := [(.array .char), .int, .int], returnType := some (.array .byte) }, accessFlags := 9, code := some k10c6 }
def k10c7 : Code := { maxStack := 2, maxLocals := 2, code := jdk_52_method_15_code, exceptionTable := #[], attributes := #[] }
def k10m7 : Method := { name := "coderFromArrayLen", desc := "([BI)B", sig := { parameters := [(.array .byte), .int], returnType := some .byte }, accessFlags := 8, code := some k10c7 }
def k10c8 : Code := { maxStack := 5, maxLocals := 6, code := jdk_52_method_16_code, exceptionTable := #[], attributes := #[] }
def k10m8 : Method := { name := "compress", desc := "([CII)[B", sig := { parameters := [(.array .char), .int, .int], returnType := some (.array .byte) }, accessFlags := 9, code := some k10c8 }
def k10c9 : Code := { maxStack := 3, maxLocals := 7, code := jdk_52_method_21_code, exceptionTable := #[], attributes := #[] }
def k10m9 : Method := { name := "compress", desc := "([CI[BII)I", sig := { parameters := [(.array .char), .int, (.array .byte), .int, .int], returnType := some .int }, accessFlags := 9, code := some k10c9 }
def k10c10 : Code := { maxStack := 4, maxLocals := 6, code := jdk_52_method_26_code, exceptionTable := #[], attributes := #[] }
def k10m10 : Method := { name := "getChars", desc := "([BII[CI)V", sig := { parameters := [(.array .byte), .int, .int, (.array .char), .int], returnType := none }, accessFlags := 9, code := some k10c10 }
def k10c11 : Code := { maxStack := 3, maxLocals := 3, code := jdk_52_method_94_code, exceptionTable := #[], attributes := #[] }
def k10m11 : Method := { name := "checkBoundsOffCount", desc := "(II[B)V", sig := { parameters := [.int, .int, (.array .byte)], returnType := none }, accessFlags := 9, code := some k10c11 }
/-- java/lang/StringUTF16 -/
def k10 : Class := { plain "java/lang/StringUTF16" (some 0) with
  accessFlags := 48
  interfaces := #[]
  cf := some (fileOf pool10 12 #[.nestMembers #[627, 629, 369]] #[{ accessFlags := 0, nameIndex := 9, descriptorIndex := 10, attributes := #[] }, { accessFlags := 9, nameIndex := 109, descriptorIndex := 110, attributes := #[] }, { accessFlags := 9, nameIndex := 15, descriptorIndex := 16, attributes := #[] }, { accessFlags := 8, nameIndex := 113, descriptorIndex := 114, attributes := #[] }, { accessFlags := 8, nameIndex := 73, descriptorIndex := 74, attributes := #[] }, { accessFlags := 9, nameIndex := 50, descriptorIndex := 51, attributes := #[] }, { accessFlags := 9, nameIndex := 121, descriptorIndex := 122, attributes := #[] }, { accessFlags := 8, nameIndex := 261, descriptorIndex := 262, attributes := #[] }, { accessFlags := 9, nameIndex := 117, descriptorIndex := 122, attributes := #[] }, { accessFlags := 9, nameIndex := 117, descriptorIndex := 118, attributes := #[] }, { accessFlags := 9, nameIndex := 105, descriptorIndex := 106, attributes := #[] }, { accessFlags := 9, nameIndex := 175, descriptorIndex := 99, attributes := #[] }] 48 6 #[] #[{ accessFlags := 26, nameIndex := 61, descriptorIndex := 62, attributes := #[] }, { accessFlags := 26, nameIndex := 65, descriptorIndex := 62, attributes := #[] }, { accessFlags := 24, nameIndex := 430, descriptorIndex := 62, attributes := #[] }, { accessFlags := 4120, nameIndex := 46, descriptorIndex := 47, attributes := #[] }])
  fields := #[{ name := "HI_BYTE_SHIFT", type := .int, accessFlags := 26, slot := 0, constantValue := 0 }, { name := "LO_BYTE_SHIFT", type := .int, accessFlags := 26, slot := 1, constantValue := 0 }, { name := "MAX_LENGTH", type := .int, accessFlags := 24, slot := 2, constantValue := 0 }, { name := "$assertionsDisabled", type := .boolean, accessFlags := 4120, slot := 3, constantValue := 0 }]
  methods := #[k10m0, k10m1, k10m2, k10m3, k10m4, k10m5, k10m6, k10m7, k10m8, k10m9, k10m10, k10m11]
  instanceTypes := #[]
  staticTypes := #[.int, .int, .int, .boolean]
  resolved := Array.replicate 635 none
  statics := some 1 }

def pool11 : Array CpInfo := pool [(1, .class_ 2), (0, u "java/lang/Math"), (1, .class_ 6), (1, u "java/lang/Object"), (0, u "<init>"), (0, u "()V"), (89, .class_ 100), (1, u "java/lang/Math$RandomNumberGeneratorHolder"), (71, u "negativeZeroFloatBits"), (0, u "J"), (2, u "negativeZeroDoubleBits"), (24, u "min"), (43, u "$assertionsDisabled"), (0, u "Z"), (88, u "(II)I"), (2, u "twoToTheDoubleScaleDown"), (0, u "D"), (4, u "twoToTheDoubleScaleUp"), (9, u "E"), (3, u "PI"), (2, u "TAU"), (2, u "DEGREES_TO_RADIANS"), (0, u "RADIANS_TO_DEGREES")] 94

def k11m0 : Method := { name := "<init>", desc := "()V", sig := { parameters := [], returnType := none }, accessFlags := 2, code := none }
def k11c1 : Code := { maxStack := 2, maxLocals := 2, code := jdk_29_method_69_code, exceptionTable := #[], attributes := #[] }
def k11m1 : Method := { name := "min", desc := "(II)I", sig := { parameters := [.int, .int], returnType := some .int }, accessFlags := 9, code := some k11c1 }
/-- java/lang/Math -/
def k11 : Class := { plain "java/lang/Math" (some 0) with
  accessFlags := 49
  interfaces := #[]
  cf := some (fileOf pool11 1 #[.nestMembers #[98]] #[{ accessFlags := 2, nameIndex := 7, descriptorIndex := 8, attributes := #[] }, { accessFlags := 9, nameIndex := 201, descriptorIndex := 335, attributes := #[] }] 49 4 #[] #[{ accessFlags := 25, nameIndex := 354, descriptorIndex := 339, attributes := #[] }, { accessFlags := 25, nameIndex := 358, descriptorIndex := 339, attributes := #[] }, { accessFlags := 25, nameIndex := 361, descriptorIndex := 339, attributes := #[] }, { accessFlags := 26, nameIndex := 364, descriptorIndex := 339, attributes := #[] }, { accessFlags := 26, nameIndex := 365, descriptorIndex := 339, attributes := #[] }, { accessFlags := 26, nameIndex := 172, descriptorIndex := 173, attributes := #[] }, { accessFlags := 26, nameIndex := 176, descriptorIndex := 173, attributes := #[] }, { accessFlags := 8, nameIndex := 344, descriptorIndex := 339, attributes := #[] }, { accessFlags := 8, nameIndex := 338, descriptorIndex := 339, attributes := #[] }, { accessFlags := 4120, nameIndex := 245, descriptorIndex := 246, attributes := #[] }])
  fields := #[{ name := "E", type := .double, accessFlags := 25, slot := 0, constantValue := 0 }, { name := "PI", type := .double, accessFlags := 25, slot := 1, constantValue := 0 }, { name := "TAU", type := .double, accessFlags := 25, slot := 2, constantValue := 0 }, { name := "DEGREES_TO_RADIANS", type := .double, accessFlags := 26, slot := 3, constantValue := 0 }, { name := "RADIANS_TO_DEGREES", type := .double, accessFlags := 26, slot := 4, constantValue := 0 }, { name := "negativeZeroFloatBits", type := .long, accessFlags := 26, slot := 5, constantValue := 0 }, { name := "negativeZeroDoubleBits", type := .long, accessFlags := 26, slot := 6, constantValue := 0 }, { name := "twoToTheDoubleScaleUp", type := .double, accessFlags := 8, slot := 7, constantValue := 0 }, { name := "twoToTheDoubleScaleDown", type := .double, accessFlags := 8, slot := 8, constantValue := 0 }, { name := "$assertionsDisabled", type := .boolean, accessFlags := 4120, slot := 9, constantValue := 0 }]
  methods := #[k11m0, k11m1]
  instanceTypes := #[]
  staticTypes := #[.double, .double, .double, .double, .double, .long, .long, .double, .double, .boolean]
  resolved := Array.replicate 460 none
  statics := none }

def pool12 : Array CpInfo := pool [(2, .class_ 4), (1, u "java/lang/Object"), (0, u "<init>"), (0, u "()V"), (17, .class_ 26), (1, u "jdk/internal/util/Preconditions"), (20, u "checkFromToIndex"), (1, u "checkFromIndexSize"), (5, .class_ 56), (0, u "jdk/internal/util/Preconditions$4"), (57, .class_ 115), (0, u "jdk/internal/util/Preconditions$1"), (7, u "SIOOBE_FORMATTER"), (0, u "Ljava/util/function/BiFunction;"), (0, .class_ 126), (0, u "jdk/internal/util/Preconditions$2"), (3, u "AIOOBE_FORMATTER"), (0, .class_ 132), (0, u "jdk/internal/util/Preconditions$3"), (3, u "IOOBE_FORMATTER"), (46, u "(IIILjava/util/function/BiFunction;)I")] 10

def k12m0 : Method := { name := "<init>", desc := "()V", sig := { parameters := [], returnType := none }, accessFlags := 1, code := none }
def k12c1 : Code := { maxStack := 4, maxLocals := 4, code := jdk_41_method_12_code, exceptionTable := #[], attributes := #[] }
def k12m1 : Method := { name := "checkFromToIndex", desc := "(IIILjava/util/function/BiFunction;)I", sig := { parameters := [.int, .int, .int, (.object "java/util/function/BiFunction")], returnType := some .int }, accessFlags := 9, code := some k12c1 }
def k12c2 : Code := { maxStack := 4, maxLocals := 4, code := jdk_41_method_13_code, exceptionTable := #[], attributes := #[] }
def k12m2 : Method := { name := "checkFromIndexSize", desc := "(IIILjava/util/function/BiFunction;)I", sig := { parameters := [.int, .int, .int, (.object "java/util/function/BiFunction")], returnType := some .int }, accessFlags := 9, code := some k12c2 }
/-- jdk/internal/util/Preconditions -/
def k12 : Class := { plain "jdk/internal/util/Preconditions" (some 0) with
  accessFlags := 33
  interfaces := #[]
  cf := some (fileOf pool12 24 #[.nestMembers #[55, 131, 125, 114]] #[{ accessFlags := 1, nameIndex := 5, descriptorIndex := 6, attributes := #[] }, { accessFlags := 9, nameIndex := 47, descriptorIndex := 183, attributes := #[] }, { accessFlags := 9, nameIndex := 49, descriptorIndex := 183, attributes := #[] }] 33 2 #[] #[{ accessFlags := 25, nameIndex := 123, descriptorIndex := 124, attributes := #[] }, { accessFlags := 25, nameIndex := 130, descriptorIndex := 124, attributes := #[] }, { accessFlags := 25, nameIndex := 136, descriptorIndex := 124, attributes := #[] }])
  fields := #[{ name := "SIOOBE_FORMATTER", type := (.object "java/util/function/BiFunction"), accessFlags := 25, slot := 0, constantValue := 0 }, { name := "AIOOBE_FORMATTER", type := (.object "java/util/function/BiFunction"), accessFlags := 25, slot := 1, constantValue := 0 }, { name := "IOOBE_FORMATTER", type := (.object "java/util/function/BiFunction"), accessFlags := 25, slot := 2, constantValue := 0 }]
  methods := #[k12m0, k12m1, k12m2]
  instanceTypes := #[]
  staticTypes := #[(.object "java/util/function/BiFunction"), (.object "java/util/function/BiFunction"), (.object "java/util/function/BiFunction")]
  resolved := Array.replicate 194 none
  statics := some 2 }

def pool13 : Array CpInfo := pool [(4, .class_ 6), (1, u "java/lang/Object"), (0, u "<init>"), (0, u "()V"), (4, .methodref 14 15), (0, .class_ 16), (0, .nameAndType 17 18), (0, u "java/lang/StringLatin1"), (0, u "inflate"), (0, u "([BI[CII)V"), (102, u "$assertionsDisabled"), (0, u "Z"), (98, .class_ 223), (1, u "java/lang/StringLatin1$LinesSpliterator"), (50, u "getChars"), (0, u "([BII[CI)V"), (114, .class_ 391), (0, u "java/lang/StringLatin1$CharsSpliterator")] 3

def k13m0 : Method := { name := "<init>", desc := "()V", sig := { parameters := [], returnType := none }, accessFlags := 0, code := none }
def k13c1 : Code := { maxStack := 6, maxLocals := 5, code := jdk_43_method_11_code, exceptionTable := #[], attributes := #[] }
def k13m1 : Method := { name := "getChars", desc := "([BII[CI)V", sig := { parameters := [(.array .byte), .int, .int, (.array .char), .int], returnType := none }, accessFlags := 9, code := some k13c1 }
def k13c2 : Code := { maxStack := 4, maxLocals := 6, code := jdk_43_method_49_code, exceptionTable := #[], attributes := #[] }
def k13m2 : Method := { name := "inflate", desc := "([BI[CII)V", sig := { parameters := [(.array .byte), .int, (.array .char), .int, .int], returnType := none }, accessFlags := 9, code := some k13c2 }
/-- java/lang/StringLatin1 -/
def k13 : Class := { plain "java/lang/StringLatin1" (some 0) with
  accessFlags := 48
  interfaces := #[]
  cf := some (fileOf pool13 14 #[.nestMembers #[390, 221]] #[{ accessFlags := 0, nameIndex := 7, descriptorIndex := 8, attributes := #[] }, { accessFlags := 9, nameIndex := 274, descriptorIndex := 275, attributes := #[] }, { accessFlags := 9, nameIndex := 17, descriptorIndex := 18, attributes := #[] }] 48 4 #[] #[{ accessFlags := 4120, nameIndex := 121, descriptorIndex := 122, attributes := #[] }])
  fields := #[{ name := "$assertionsDisabled", type := .boolean, accessFlags := 4120, slot := 0, constantValue := 0 }]
  methods := #[k13m0, k13m1, k13m2]
  instanceTypes := #[]
  staticTypes := #[.boolean]
  resolved := Array.replicate 395 none
  statics := none }

def pool14 : Array CpInfo := pool [(9, u "<init>"), (6, .class_ 18), (1, u "java/lang/Object"), (0, u "()V"), (1, .class_ 23), (1, u "jdk/internal/util/ArraysSupport"), (0, u "LOG2_ARRAY_LONG_INDEX_SCALE"), (0, u "I"), (2, u "U"), (0, u "Ljdk/internal/misc/Unsafe;"), (8, u "BIG_ENDIAN"), (0, u "Z"), (8, u "LOG2_BYTE_BIT_SIZE"), (4, u "LOG2_ARRAY_INT_INDEX_SCALE"), (54, u "JLA"), (0, u "Ljdk/internal/access/JavaLangAccess;"), (11, u "LOG2_ARRAY_BOOLEAN_INDEX_SCALE"), (9, u "LOG2_ARRAY_BYTE_INDEX_SCALE"), (5, u "LOG2_ARRAY_CHAR_INDEX_SCALE"), (5, u "LOG2_ARRAY_SHORT_INDEX_SCALE"), (18, u "LOG2_ARRAY_FLOAT_INDEX_SCALE"), (24, u "LOG2_ARRAY_DOUBLE_INDEX_SCALE"), (89, u "T_BOOLEAN"), (2, u "T_CHAR"), (1, u "T_FLOAT"), (1, u "T_DOUBLE"), (1, u "T_BYTE"), (1, u "T_SHORT"), (1, u "T_INT"), (1, u "T_LONG"), (1, u "SOFT_MAX_ARRAY_LENGTH")] 83

def k14m0 : Method := { name := "<init>", desc := "()V", sig := { parameters := [], returnType := none }, accessFlags := 2, code := none }
/-- jdk/internal/util/ArraysSupport -/
def k14 : Class := { plain "jdk/internal/util/ArraysSupport" (some 0) with
  accessFlags := 33
  interfaces := #[]
  cf := some (fileOf pool14 21 #[] #[{ accessFlags := 2, nameIndex := 9, descriptorIndex := 19, attributes := #[] }] 33 16 #[] #[{ accessFlags := 24, nameIndex := 28, descriptorIndex := 29, attributes := #[] }, { accessFlags := 26, nameIndex := 38, descriptorIndex := 39, attributes := #[] }, { accessFlags := 25, nameIndex := 121, descriptorIndex := 25, attributes := #[] }, { accessFlags := 25, nameIndex := 131, descriptorIndex := 25, attributes := #[] }, { accessFlags := 25, nameIndex := 137, descriptorIndex := 25, attributes := #[] }, { accessFlags := 25, nameIndex := 143, descriptorIndex := 25, attributes := #[] }, { accessFlags := 25, nameIndex := 53, descriptorIndex := 25, attributes := #[] }, { accessFlags := 25, nameIndex := 24, descriptorIndex := 25, attributes := #[] }, { accessFlags := 25, nameIndex := 162, descriptorIndex := 25, attributes := #[] }, { accessFlags := 25, nameIndex := 187, descriptorIndex := 25, attributes := #[] }, { accessFlags := 26, nameIndex := 48, descriptorIndex := 25, attributes := #[] }, { accessFlags := 25, nameIndex := 277, descriptorIndex := 25, attributes := #[] }, { accessFlags := 25, nameIndex := 280, descriptorIndex := 25, attributes := #[] }, { accessFlags := 25, nameIndex := 282, descriptorIndex := 25, attributes := #[] }, { accessFlags := 25, nameIndex := 284, descriptorIndex := 25, attributes := #[] }, { accessFlags := 25, nameIndex := 286, descriptorIndex := 25, attributes := #[] }, { accessFlags := 25, nameIndex := 288, descriptorIndex := 25, attributes := #[] }, { accessFlags := 25, nameIndex := 290, descriptorIndex := 25, attributes := #[] }, { accessFlags := 25, nameIndex := 292, descriptorIndex := 25, attributes := #[] }, { accessFlags := 26, nameIndex := 108, descriptorIndex := 109, attributes := #[] }, { accessFlags := 25, nameIndex := 294, descriptorIndex := 25, attributes := #[] }])
  fields := #[{ name := "U", type := (.object "jdk/internal/misc/Unsafe"), accessFlags := 24, slot := 0, constantValue := 0 }, { name := "BIG_ENDIAN", type := .boolean, accessFlags := 26, slot := 1, constantValue := 0 }, { name := "LOG2_ARRAY_BOOLEAN_INDEX_SCALE", type := .int, accessFlags := 25, slot := 2, constantValue := 0 }, { name := "LOG2_ARRAY_BYTE_INDEX_SCALE", type := .int, accessFlags := 25, slot := 3, constantValue := 0 }, { name := "LOG2_ARRAY_CHAR_INDEX_SCALE", type := .int, accessFlags := 25, slot := 4, constantValue := 0 }, { name := "LOG2_ARRAY_SHORT_INDEX_SCALE", type := .int, accessFlags := 25, slot := 5, constantValue := 0 }, { name := "LOG2_ARRAY_INT_INDEX_SCALE", type := .int, accessFlags := 25, slot := 6, constantValue := 0 }, { name := "LOG2_ARRAY_LONG_INDEX_SCALE", type := .int, accessFlags := 25, slot := 7, constantValue := 0 }, { name := "LOG2_ARRAY_FLOAT_INDEX_SCALE", type := .int, accessFlags := 25, slot := 8, constantValue := 0 }, { name := "LOG2_ARRAY_DOUBLE_INDEX_SCALE", type := .int, accessFlags := 25, slot := 9, constantValue := 0 }, { name := "LOG2_BYTE_BIT_SIZE", type := .int, accessFlags := 26, slot := 10, constantValue := 0 }, { name := "T_BOOLEAN", type := .int, accessFlags := 25, slot := 11, constantValue := 0 }, { name := "T_CHAR", type := .int, accessFlags := 25, slot := 12, constantValue := 0 }, { name := "T_FLOAT", type := .int, accessFlags := 25, slot := 13, constantValue := 0 }, { name := "T_DOUBLE", type := .int, accessFlags := 25, slot := 14, constantValue := 0 }, { name := "T_BYTE", type := .int, accessFlags := 25, slot := 15, constantValue := 0 }, { name := "T_SHORT", type := .int, accessFlags := 25, slot := 16, constantValue := 0 }, { name := "T_INT", type := .int, accessFlags := 25, slot := 17, constantValue := 0 }, { name := "T_LONG", type := .int, accessFlags := 25, slot := 18, constantValue := 0 }, { name := "JLA", type := (.object "jdk/internal/access/JavaLangAccess"), accessFlags := 26, slot := 19, constantValue := 0 }, { name := "SOFT_MAX_ARRAY_LENGTH", type := .int, accessFlags := 25, slot := 20, constantValue := 0 }]
  methods := #[k14m0]
  instanceTypes := #[]
  staticTypes := #[(.object "jdk/internal/misc/Unsafe"), .boolean, .int, .int, .int, .int, .int, .int, .int, .int, .int, .int, .int, .int, .int, .int, .int, .int, .int, (.object "jdk/internal/access/JavaLangAccess"), .int]
  resolved := Array.replicate 378 none
  statics := none }

def pool15 : Array CpInfo := pool [(1, u "java/lang/Cloneable"), (0, .class_ 1), (0, u "java/lang/Object"), (0, .class_ 3)] 3

/-- java/lang/Cloneable -/
def k15 : Class := { plain "java/lang/Cloneable" (some 0) with
  accessFlags := 1537
  interfaces := #[]
  cf := some (fileOf pool15 2 #[] #[] 1537 4 #[] #[])
  fields := #[]
  methods := #[]
  instanceTypes := #[]
  staticTypes := #[]
  resolved := Array.replicate 8 none
  statics := none }

/-- the primitive byte -/
def k16 : Class := { plain "byte" none with kind := .primitive 'B', accessFlags := 0x411 }
/-- [B -/
def k17 : Class := { plain "[B" (some 0) with kind := .array 16 .byte, interfaces := #[15, 4], accessFlags := 1041 }

/-- the primitive char -/
def k18 : Class := { plain "char" none with kind := .primitive 'C', accessFlags := 0x411 }
/-- [C -/
def k19 : Class := { plain "[C" (some 0) with kind := .array 18 .char, interfaces := #[15, 4], accessFlags := 1041 }

/-- the primitive int -/
def k20 : Class := { plain "int" none with kind := .primitive 'I', accessFlags := 0x411 }
/-- [I -/
def k21 : Class := { plain "[I" (some 0) with kind := .array 20 .int, interfaces := #[15, 4], accessFlags := 1041 }

def heap : Heap := #[{ cls := 9, slots := #[.long 0, .int 1, .null, .int 0, .null, .int 0, .int 0], vm := .statics 9 },
  { cls := 10, slots := #[.int 0, .int 8, .int 0, .int 1], vm := .statics 10 },
  { cls := 12, slots := #[.null, .null, .null], vm := .statics 12 }]
def classes : Array Class := #[k0, k1, k2, k3, k4, k5, k6, k7, k8, k9, k10, k11, k12, k13, k14, k15, k16, k17, k18, k19, k20, k21]
def interned : List (Array UInt16 × Addr) := []
def slotsUsed : Nat := 14
def theMethod : MethodId := ⟨1, 2⟩
def args0 : Array Value := #[.long 5, .int 3, .long 7, .long 9, .int 2]
def aboutOver (below : List Frame) : State where
  vm := { classes := classes, interned := interned.toArray }
  heap := heap
  slotsUsed := slotsUsed
  threads := #[{ frames := .invoking theMethod args0 :: below }]
def below0 : List Frame := [.native { method := ⟨0, 0⟩, args := #[] }]
def about1 : State := aboutOver below0
def p0 : Program := .bare "" "" ""
def e0 : Env := launch0.env 0 0 0
theorem w_frames : about1.frames = Frame.invoking theMethod args0 :: below0 := rfl
set_option maxRecDepth 65536 in
theorem w_args : argsFit about1.vm theMethod args0 = true := by decide +kernel
set_option maxRecDepth 65536 in
theorem w_heap : heapFits about1 = true := by decide +kernel
set_option maxRecDepth 65536 in
theorem w_runnable : about1.curStatus? = some .runnable := by decide +kernel
set_option maxRecDepth 65536 in
theorem w_alone : about1.alone = true := by decide +kernel
set_option maxRecDepth 65536 in
theorem w_named : about1.methodNamed? x = some theMethod := by decide +kernel
set_option maxRecDepth 65536 in
theorem w_hears : about1.hears theMethod below0 = true := by decide +kernel
set_option maxRecDepth 65536 in
theorem w_ripe : about1.ripe theMethod args0 below0 = true := by decide +kernel
theorem w_running : about1.status = .running := rfl
set_option maxRecDepth 65536 in
theorem w_room : about1.hasRoom e0.platform room_1 = true :=
  launch0.hasRoom_least _ room_1 (by decide +kernel) (by decide +kernel) (by decide +kernel) (by decide +kernel) (by decide +kernel) (by decide +kernel)
theorem allAtoms_all (ts : List Jvm.Cond) (a : Array Jvm.Value) (st : Jvm.State) : (allAtoms ts).before a st = ts.all (fun c => c.before a st) := by
  induction ts with
  | nil => rfl
  | cons c t ih =>
    show (Jvm.Cond.and c (allAtoms t)).before a st = _
    rw [Jvm.Cond.before_and, ih, List.all_cons]
def words1 : List Jvm.Cond := Jvm.Cond.code x code maxLocals ret :: tables_1
/-- a 'code' word, met by the world's own term for the bytes: nothing is compared byte by byte -/
theorem code_word {y : MethodName} {bytes : ByteArray} {mx : Nat} {rt : Option FieldType} {a : Array Value} {s : State} {m : MethodId} {meth : Method} {c : Code} (h1 : s.methodNamed? y = some m) (h2 : s.vm.method? m = some meth) (h3 : meth.code = some c) (h4 : c.code = bytes)
    (h5 : (c.maxLocals == mx && c.exceptionTable.isEmpty && decide (c.maxStack ≤ mostOperands) && decide (meth.sig.returnType = rt) && !meth.locks && decide (parseMethodDescriptor y.desc = some meth.sig)) = true) : (Jvm.Cond.code y bytes mx rt).before a s = true := by
  simp only [Bool.and_eq_true, beq_iff_eq, Bool.not_eq_true', decide_eq_true_eq] at h5
  obtain ⟨⟨⟨⟨⟨g1, g2⟩, g3⟩, g4⟩, g5⟩, g6⟩ := h5
  simp [Cond.before, Cond.holds, Cond.value, h1, h2, h3, h4, g1, g2, g3, g4, g5, g6]
def isCode : Jvm.Cond → Bool
  | .code _ _ _ _ => true
  | _ => false
theorem all_split {L : List Jvm.Cond} {P : Jvm.Cond → Bool} (h1 : L.all (fun c => isCode c || P c) = true) (h2 : ∀ c ∈ L.filter isCode, P c = true) : L.all P = true := by
  refine List.all_eq_true.mpr fun c hc => ?_
  have h := List.all_eq_true.mp h1 c hc
  rcases Bool.eq_false_or_eq_true (isCode c) with hi | hi
  · exact h2 c (List.mem_filter.mpr ⟨hc, hi⟩)
  · simpa [hi] using h
set_option maxRecDepth 65536 in
theorem w_c0 : (Jvm.Cond.code x code maxLocals ret).before args0 about1 = true := code_word (m := ⟨1, 2⟩) (meth := k1m2) (c := k1c2) (by decide +kernel) rfl rfl rfl (by decide +kernel)
set_option maxRecDepth 65536 in
theorem w_c1 : (Jvm.Cond.code ({ cls := "com/example/ratatoskr/ratatoskr/core/internal/StringInputSkipWordPinLaw", name := "pick", desc := "(IIJIJ)C" } : Jvm.MethodName) method_2_code (8 : Nat) (Option.some Jvm.ClassFile.FieldType.char)).before args0 about1 = true := code_word (m := ⟨1, 1⟩) (meth := k1m1) (c := k1c1) (by decide +kernel) rfl rfl rfl (by decide +kernel)
set_option maxRecDepth 65536 in
theorem w_c2 : (Jvm.Cond.code ({ cls := "java/lang/String", name := "<init>", desc := "([C)V" } : Jvm.MethodName) jdk_42_method_3_code (2 : Nat) (Option.none : Option Jvm.ClassFile.FieldType)).before args0 about1 = true := code_word (m := ⟨9, 1⟩) (meth := k9m1) (c := k9c1) (by decide +kernel) rfl rfl rfl (by decide +kernel)
set_option maxRecDepth 65536 in
theorem w_c3 : (Jvm.Cond.code ({ cls := "java/lang/String", name := "<init>", desc := "([CIILjava/lang/Void;)V" } : Jvm.MethodName) jdk_42_method_149_code (6 : Nat) (Option.none : Option Jvm.ClassFile.FieldType)).before args0 about1 = true := code_word (m := ⟨9, 4⟩) (meth := k9m4) (c := k9c4) (by decide +kernel) rfl rfl rfl (by decide +kernel)
set_option maxRecDepth 65536 in
theorem w_c4 : (Jvm.Cond.code ({ cls := "java/lang/Object", name := "<init>", desc := "()V" } : Jvm.MethodName) object_method_1_code (1 : Nat) (Option.none : Option Jvm.ClassFile.FieldType)).before args0 about1 = true := code_word (m := ⟨0, 0⟩) (meth := k0m0) (c := k0c0) (by decide +kernel) rfl rfl rfl (by decide +kernel)
set_option maxRecDepth 65536 in
theorem w_c5 : (Jvm.Cond.code ({ cls := "java/lang/StringUTF16", name := "compress", desc := "([CII)[B" } : Jvm.MethodName) jdk_52_method_16_code (6 : Nat) (Option.some (Jvm.ClassFile.FieldType.array Jvm.ClassFile.FieldType.byte))).before args0 about1 = true := code_word (m := ⟨10, 8⟩) (meth := k10m8) (c := k10c8) (by decide +kernel) rfl rfl rfl (by decide +kernel)
set_option maxRecDepth 65536 in
theorem w_c6 : (Jvm.Cond.code ({ cls := "java/lang/StringUTF16", name := "compress", desc := "([CI[BII)I" } : Jvm.MethodName) jdk_52_method_21_code (7 : Nat) (Option.some Jvm.ClassFile.FieldType.int)).before args0 about1 = true := code_word (m := ⟨10, 9⟩) (meth := k10m9) (c := k10c9) (by decide +kernel) rfl rfl rfl (by decide +kernel)
set_option maxRecDepth 65536 in
theorem w_c7 : (Jvm.Cond.code ({ cls := "java/lang/StringUTF16", name := "toBytes", desc := "([CII)[B" } : Jvm.MethodName) jdk_52_method_14_code (5 : Nat) (Option.some (Jvm.ClassFile.FieldType.array Jvm.ClassFile.FieldType.byte))).before args0 about1 = true := code_word (m := ⟨10, 6⟩) (meth := k10m6) (c := k10c6) (by decide +kernel) rfl rfl rfl (by decide +kernel)
set_option maxRecDepth 65536 in
theorem w_c8 : (Jvm.Cond.code ({ cls := "java/lang/StringUTF16", name := "newBytesFor", desc := "(I)[B" } : Jvm.MethodName) jdk_52_method_2_code (1 : Nat) (Option.some (Jvm.ClassFile.FieldType.array Jvm.ClassFile.FieldType.byte))).before args0 about1 = true := code_word (m := ⟨10, 1⟩) (meth := k10m1) (c := k10c1) (by decide +kernel) rfl rfl rfl (by decide +kernel)
set_option maxRecDepth 65536 in
theorem w_c9 : (Jvm.Cond.code ({ cls := "java/lang/StringUTF16", name := "newBytesLength", desc := "(I)I" } : Jvm.MethodName) jdk_52_method_3_code (1 : Nat) (Option.some Jvm.ClassFile.FieldType.int)).before args0 about1 = true := code_word (m := ⟨10, 2⟩) (meth := k10m2) (c := k10c2) (by decide +kernel) rfl rfl rfl (by decide +kernel)
set_option maxRecDepth 65536 in
theorem w_c10 : (Jvm.Cond.code ({ cls := "java/lang/StringUTF16", name := "putChar", desc := "([BII)V" } : Jvm.MethodName) jdk_52_method_4_code (3 : Nat) (Option.none : Option Jvm.ClassFile.FieldType)).before args0 about1 = true := code_word (m := ⟨10, 3⟩) (meth := k10m3) (c := k10c3) (by decide +kernel) rfl rfl rfl (by decide +kernel)
set_option maxRecDepth 65536 in
theorem w_c11 : (Jvm.Cond.code ({ cls := "java/lang/StringUTF16", name := "getChar", desc := "([BI)C" } : Jvm.MethodName) jdk_52_method_5_code (2 : Nat) (Option.some Jvm.ClassFile.FieldType.char)).before args0 about1 = true := code_word (m := ⟨10, 4⟩) (meth := k10m4) (c := k10c4) (by decide +kernel) rfl rfl rfl (by decide +kernel)
set_option maxRecDepth 65536 in
theorem w_c12 : (Jvm.Cond.code ({ cls := "java/lang/StringUTF16", name := "coderFromArrayLen", desc := "([BI)B" } : Jvm.MethodName) jdk_52_method_15_code (2 : Nat) (Option.some Jvm.ClassFile.FieldType.byte)).before args0 about1 = true := code_word (m := ⟨10, 7⟩) (meth := k10m7) (c := k10c7) (by decide +kernel) rfl rfl rfl (by decide +kernel)
set_option maxRecDepth 65536 in
theorem w_c13 : (Jvm.Cond.code ({ cls := "com/example/ratatoskr/ratatoskr/core/internal/StringInput", name := "<init>", desc := "(Ljava/lang/String;)V" } : Jvm.MethodName) prog_85_method_1_code (2 : Nat) (Option.none : Option Jvm.ClassFile.FieldType)).before args0 about1 = true := code_word (m := ⟨3, 0⟩) (meth := k3m0) (c := k3c0) (by decide +kernel) rfl rfl rfl (by decide +kernel)
set_option maxRecDepth 65536 in
theorem w_c14 : (Jvm.Cond.code ({ cls := "com/example/ratatoskr/ratatoskr/core/internal/Input", name := "<init>", desc := "()V" } : Jvm.MethodName) prog_74_method_1_code (1 : Nat) (Option.none : Option Jvm.ClassFile.FieldType)).before args0 about1 = true := code_word (m := ⟨2, 0⟩) (meth := k2m0) (c := k2c0) (by decide +kernel) rfl rfl rfl (by decide +kernel)
set_option maxRecDepth 65536 in
theorem w_c15 : (Jvm.Cond.code ({ cls := "java/lang/String", name := "length", desc := "()I" } : Jvm.MethodName) jdk_42_method_54_code (1 : Nat) (Option.some Jvm.ClassFile.FieldType.int)).before args0 about1 = true := code_word (m := ⟨9, 2⟩) (meth := k9m2) (c := k9c2) (by decide +kernel) rfl rfl rfl (by decide +kernel)
set_option maxRecDepth 65536 in
theorem w_c16 : (Jvm.Cond.code ({ cls := "java/lang/String", name := "coder", desc := "()B" } : Jvm.MethodName) jdk_42_method_152_code (1 : Nat) (Option.some Jvm.ClassFile.FieldType.byte)).before args0 about1 = true := code_word (m := ⟨9, 5⟩) (meth := k9m5) (c := k9c5) (by decide +kernel) rfl rfl rfl (by decide +kernel)
set_option maxRecDepth 65536 in
theorem w_c17 : (Jvm.Cond.code ({ cls := "java/lang/Math", name := "min", desc := "(II)I" } : Jvm.MethodName) jdk_29_method_69_code (2 : Nat) (Option.some Jvm.ClassFile.FieldType.int)).before args0 about1 = true := code_word (m := ⟨11, 1⟩) (meth := k11m1) (c := k11c1) (by decide +kernel) rfl rfl rfl (by decide +kernel)
set_option maxRecDepth 65536 in
theorem w_c18 : (Jvm.Cond.code ({ cls := "java/lang/String", name := "getChars", desc := "(II[CI)V" } : Jvm.MethodName) jdk_42_method_61_code (5 : Nat) (Option.none : Option Jvm.ClassFile.FieldType)).before args0 about1 = true := code_word (m := ⟨9, 3⟩) (meth := k9m3) (c := k9c3) (by decide +kernel) rfl rfl rfl (by decide +kernel)
set_option maxRecDepth 65536 in
theorem w_c19 : (Jvm.Cond.code ({ cls := "java/lang/String", name := "checkBoundsBeginEnd", desc := "(III)V" } : Jvm.MethodName) jdk_42_method_158_code (3 : Nat) (Option.none : Option Jvm.ClassFile.FieldType)).before args0 about1 = true := code_word (m := ⟨9, 8⟩) (meth := k9m8) (c := k9c8) (by decide +kernel) rfl rfl rfl (by decide +kernel)
set_option maxRecDepth 65536 in
theorem w_c20 : (Jvm.Cond.code ({ cls := "jdk/internal/util/Preconditions", name := "checkFromToIndex", desc := "(IIILjava/util/function/BiFunction;)I" } : Jvm.MethodName) jdk_41_method_12_code (4 : Nat) (Option.some Jvm.ClassFile.FieldType.int)).before args0 about1 = true := code_word (m := ⟨12, 1⟩) (meth := k12m1) (c := k12c1) (by decide +kernel) rfl rfl rfl (by decide +kernel)
set_option maxRecDepth 65536 in
theorem w_c21 : (Jvm.Cond.code ({ cls := "java/lang/String", name := "checkBoundsOffCount", desc := "(III)I" } : Jvm.MethodName) jdk_42_method_157_code (3 : Nat) (Option.some Jvm.ClassFile.FieldType.int)).before args0 about1 = true := code_word (m := ⟨9, 7⟩) (meth := k9m7) (c := k9c7) (by decide +kernel) rfl rfl rfl (by decide +kernel)
set_option maxRecDepth 65536 in
theorem w_c22 : (Jvm.Cond.code ({ cls := "jdk/internal/util/Preconditions", name := "checkFromIndexSize", desc := "(IIILjava/util/function/BiFunction;)I" } : Jvm.MethodName) jdk_41_method_13_code (4 : Nat) (Option.some Jvm.ClassFile.FieldType.int)).before args0 about1 = true := code_word (m := ⟨12, 2⟩) (meth := k12m2) (c := k12c2) (by decide +kernel) rfl rfl rfl (by decide +kernel)
set_option maxRecDepth 65536 in
theorem w_c23 : (Jvm.Cond.code ({ cls := "java/lang/String", name := "isLatin1", desc := "()Z" } : Jvm.MethodName) jdk_42_method_154_code (1 : Nat) (Option.some Jvm.ClassFile.FieldType.boolean)).before args0 about1 = true := code_word (m := ⟨9, 6⟩) (meth := k9m6) (c := k9c6) (by decide +kernel) rfl rfl rfl (by decide +kernel)
set_option maxRecDepth 65536 in
theorem w_c24 : (Jvm.Cond.code ({ cls := "java/lang/StringUTF16", name := "getChars", desc := "([BII[CI)V" } : Jvm.MethodName) jdk_52_method_26_code (6 : Nat) (Option.none : Option Jvm.ClassFile.FieldType)).before args0 about1 = true := code_word (m := ⟨10, 10⟩) (meth := k10m10) (c := k10c10) (by decide +kernel) rfl rfl rfl (by decide +kernel)
set_option maxRecDepth 65536 in
theorem w_c25 : (Jvm.Cond.code ({ cls := "java/lang/StringUTF16", name := "checkBoundsOffCount", desc := "(II[B)V" } : Jvm.MethodName) jdk_52_method_94_code (3 : Nat) (Option.none : Option Jvm.ClassFile.FieldType)).before args0 about1 = true := code_word (m := ⟨10, 11⟩) (meth := k10m11) (c := k10c11) (by decide +kernel) rfl rfl rfl (by decide +kernel)
set_option maxRecDepth 65536 in
theorem w_c26 : (Jvm.Cond.code ({ cls := "java/lang/StringUTF16", name := "length", desc := "([B)I" } : Jvm.MethodName) jdk_52_method_6_code (1 : Nat) (Option.some Jvm.ClassFile.FieldType.int)).before args0 about1 = true := code_word (m := ⟨10, 5⟩) (meth := k10m5) (c := k10c5) (by decide +kernel) rfl rfl rfl (by decide +kernel)
set_option maxRecDepth 65536 in
theorem w_c27 : (Jvm.Cond.code ({ cls := "com/example/ratatoskr/ratatoskr/core/internal/StringInput", name := "skip", desc := "()V" } : Jvm.MethodName) prog_85_method_3_code (1 : Nat) (Option.none : Option Jvm.ClassFile.FieldType)).before args0 about1 = true := code_word (m := ⟨3, 1⟩) (meth := k3m1) (c := k3c1) (by decide +kernel) rfl rfl rfl (by decide +kernel)
set_option maxRecDepth 65536 in
theorem w_c28 : (Jvm.Cond.code ({ cls := "com/example/ratatoskr/ratatoskr/core/internal/StringInput", name := "skipWord", desc := "(JI)Z" } : Jvm.MethodName) prog_85_method_12_code (7 : Nat) (Option.some Jvm.ClassFile.FieldType.boolean)).before args0 about1 = true := code_word (m := ⟨3, 2⟩) (meth := k3m2) (c := k3c2) (by decide +kernel) rfl rfl rfl (by decide +kernel)
set_option maxRecDepth 65536 in
theorem w_c29 : (Jvm.Cond.code ({ cls := "com/example/ratatoskr/ratatoskr/core/internal/StringInput", name := "offset", desc := "()J" } : Jvm.MethodName) prog_85_method_19_code (1 : Nat) (Option.some Jvm.ClassFile.FieldType.long)).before args0 about1 = true := code_word (m := ⟨3, 3⟩) (meth := k3m3) (c := k3c3) (by decide +kernel) rfl rfl rfl (by decide +kernel)
set_option maxRecDepth 65536 in
theorem w_c30 : (Jvm.Cond.code ({ cls := "java/lang/StringLatin1", name := "getChars", desc := "([BII[CI)V" } : Jvm.MethodName) jdk_43_method_11_code (5 : Nat) (Option.none : Option Jvm.ClassFile.FieldType)).before args0 about1 = true := code_word (m := ⟨13, 1⟩) (meth := k13m1) (c := k13c1) (by decide +kernel) rfl rfl rfl (by decide +kernel)
set_option maxRecDepth 65536 in
theorem w_c31 : (Jvm.Cond.code ({ cls := "java/lang/StringLatin1", name := "inflate", desc := "([BI[CII)V" } : Jvm.MethodName) jdk_43_method_49_code (6 : Nat) (Option.none : Option Jvm.ClassFile.FieldType)).before args0 about1 = true := code_word (m := ⟨13, 2⟩) (meth := k13m2) (c := k13c2) (by decide +kernel) rfl rfl rfl (by decide +kernel)
def codes1 : List Jvm.Cond := [Jvm.Cond.code x code maxLocals ret, Jvm.Cond.code ({ cls := "com/example/ratatoskr/ratatoskr/core/internal/StringInputSkipWordPinLaw", name := "pick", desc := "(IIJIJ)C" } : Jvm.MethodName) method_2_code (8 : Nat) (Option.some Jvm.ClassFile.FieldType.char), Jvm.Cond.code ({ cls := "java/lang/String", name := "<init>", desc := "([C)V" } : Jvm.MethodName) jdk_42_method_3_code (2 : Nat) (Option.none : Option Jvm.ClassFile.FieldType), Jvm.Cond.code ({ cls := "java/lang/String", name := "<init>", desc := "([CIILjava/lang/Void;)V" } : Jvm.MethodName) jdk_42_method_149_code (6 : Nat) (Option.none : Option Jvm.ClassFile.FieldType), Jvm.Cond.code ({ cls := "java/lang/Object", name := "<init>", desc := "()V" } : Jvm.MethodName) object_method_1_code (1 : Nat) (Option.none : Option Jvm.ClassFile.FieldType), Jvm.Cond.code ({ cls := "java/lang/StringUTF16", name := "compress", desc := "([CII)[B" } : Jvm.MethodName) jdk_52_method_16_code (6 : Nat) (Option.some (Jvm.ClassFile.FieldType.array Jvm.ClassFile.FieldType.byte)), Jvm.Cond.code ({ cls := "java/lang/StringUTF16", name := "compress", desc := "([CI[BII)I" } : Jvm.MethodName) jdk_52_method_21_code (7 : Nat) (Option.some Jvm.ClassFile.FieldType.int), Jvm.Cond.code ({ cls := "java/lang/StringUTF16", name := "toBytes", desc := "([CII)[B" } : Jvm.MethodName) jdk_52_method_14_code (5 : Nat) (Option.some (Jvm.ClassFile.FieldType.array Jvm.ClassFile.FieldType.byte)), Jvm.Cond.code ({ cls := "java/lang/StringUTF16", name := "newBytesFor", desc := "(I)[B" } : Jvm.MethodName) jdk_52_method_2_code (1 : Nat) (Option.some (Jvm.ClassFile.FieldType.array Jvm.ClassFile.FieldType.byte)), Jvm.Cond.code ({ cls := "java/lang/StringUTF16", name := "newBytesLength", desc := "(I)I" } : Jvm.MethodName) jdk_52_method_3_code (1 : Nat) (Option.some Jvm.ClassFile.FieldType.int), Jvm.Cond.code ({ cls := "java/lang/StringUTF16", name := "putChar", desc := "([BII)V" } : Jvm.MethodName) jdk_52_method_4_code (3 : Nat) (Option.none : Option Jvm.ClassFile.FieldType), Jvm.Cond.code ({ cls := "java/lang/StringUTF16", name := "getChar", desc := "([BI)C" } : Jvm.MethodName) jdk_52_method_5_code (2 : Nat) (Option.some Jvm.ClassFile.FieldType.char), Jvm.Cond.code ({ cls := "java/lang/StringUTF16", name := "coderFromArrayLen", desc := "([BI)B" } : Jvm.MethodName) jdk_52_method_15_code (2 : Nat) (Option.some Jvm.ClassFile.FieldType.byte), Jvm.Cond.code ({ cls := "com/example/ratatoskr/ratatoskr/core/internal/StringInput", name := "<init>", desc := "(Ljava/lang/String;)V" } : Jvm.MethodName) prog_85_method_1_code (2 : Nat) (Option.none : Option Jvm.ClassFile.FieldType), Jvm.Cond.code ({ cls := "com/example/ratatoskr/ratatoskr/core/internal/Input", name := "<init>", desc := "()V" } : Jvm.MethodName) prog_74_method_1_code (1 : Nat) (Option.none : Option Jvm.ClassFile.FieldType), Jvm.Cond.code ({ cls := "java/lang/String", name := "length", desc := "()I" } : Jvm.MethodName) jdk_42_method_54_code (1 : Nat) (Option.some Jvm.ClassFile.FieldType.int), Jvm.Cond.code ({ cls := "java/lang/String", name := "coder", desc := "()B" } : Jvm.MethodName) jdk_42_method_152_code (1 : Nat) (Option.some Jvm.ClassFile.FieldType.byte), Jvm.Cond.code ({ cls := "java/lang/Math", name := "min", desc := "(II)I" } : Jvm.MethodName) jdk_29_method_69_code (2 : Nat) (Option.some Jvm.ClassFile.FieldType.int), Jvm.Cond.code ({ cls := "java/lang/String", name := "getChars", desc := "(II[CI)V" } : Jvm.MethodName) jdk_42_method_61_code (5 : Nat) (Option.none : Option Jvm.ClassFile.FieldType), Jvm.Cond.code ({ cls := "java/lang/String", name := "checkBoundsBeginEnd", desc := "(III)V" } : Jvm.MethodName) jdk_42_method_158_code (3 : Nat) (Option.none : Option Jvm.ClassFile.FieldType), Jvm.Cond.code ({ cls := "jdk/internal/util/Preconditions", name := "checkFromToIndex", desc := "(IIILjava/util/function/BiFunction;)I" } : Jvm.MethodName) jdk_41_method_12_code (4 : Nat) (Option.some Jvm.ClassFile.FieldType.int), Jvm.Cond.code ({ cls := "java/lang/String", name := "checkBoundsOffCount", desc := "(III)I" } : Jvm.MethodName) jdk_42_method_157_code (3 : Nat) (Option.some Jvm.ClassFile.FieldType.int), Jvm.Cond.code ({ cls := "jdk/internal/util/Preconditions", name := "checkFromIndexSize", desc := "(IIILjava/util/function/BiFunction;)I" } : Jvm.MethodName) jdk_41_method_13_code (4 : Nat) (Option.some Jvm.ClassFile.FieldType.int), Jvm.Cond.code ({ cls := "java/lang/String", name := "isLatin1", desc := "()Z" } : Jvm.MethodName) jdk_42_method_154_code (1 : Nat) (Option.some Jvm.ClassFile.FieldType.boolean), Jvm.Cond.code ({ cls := "java/lang/StringUTF16", name := "getChars", desc := "([BII[CI)V" } : Jvm.MethodName) jdk_52_method_26_code (6 : Nat) (Option.none : Option Jvm.ClassFile.FieldType), Jvm.Cond.code ({ cls := "java/lang/StringUTF16", name := "checkBoundsOffCount", desc := "(II[B)V" } : Jvm.MethodName) jdk_52_method_94_code (3 : Nat) (Option.none : Option Jvm.ClassFile.FieldType), Jvm.Cond.code ({ cls := "java/lang/StringUTF16", name := "length", desc := "([B)I" } : Jvm.MethodName) jdk_52_method_6_code (1 : Nat) (Option.some Jvm.ClassFile.FieldType.int), Jvm.Cond.code ({ cls := "com/example/ratatoskr/ratatoskr/core/internal/StringInput", name := "skip", desc := "()V" } : Jvm.MethodName) prog_85_method_3_code (1 : Nat) (Option.none : Option Jvm.ClassFile.FieldType), Jvm.Cond.code ({ cls := "com/example/ratatoskr/ratatoskr/core/internal/StringInput", name := "skipWord", desc := "(JI)Z" } : Jvm.MethodName) prog_85_method_12_code (7 : Nat) (Option.some Jvm.ClassFile.FieldType.boolean), Jvm.Cond.code ({ cls := "com/example/ratatoskr/ratatoskr/core/internal/StringInput", name := "offset", desc := "()J" } : Jvm.MethodName) prog_85_method_19_code (1 : Nat) (Option.some Jvm.ClassFile.FieldType.long), Jvm.Cond.code ({ cls := "java/lang/StringLatin1", name := "getChars", desc := "([BII[CI)V" } : Jvm.MethodName) jdk_43_method_11_code (5 : Nat) (Option.none : Option Jvm.ClassFile.FieldType), Jvm.Cond.code ({ cls := "java/lang/StringLatin1", name := "inflate", desc := "([BI[CII)V" } : Jvm.MethodName) jdk_43_method_49_code (6 : Nat) (Option.none : Option Jvm.ClassFile.FieldType)]
set_option maxRecDepth 65536 in
theorem codes_eq : words1.filter isCode = codes1 := rfl
theorem w_codes : ∀ c ∈ words1.filter isCode, c.before args0 about1 = true := by
  rw [codes_eq]
  intro c hc
  simp only [codes1, List.mem_cons, List.not_mem_nil, or_false] at hc
  rcases hc with rfl | rfl | rfl | rfl | rfl | rfl | rfl | rfl | rfl | rfl | rfl | rfl | rfl | rfl | rfl | rfl | rfl | rfl | rfl | rfl | rfl | rfl | rfl | rfl | rfl | rfl | rfl | rfl | rfl | rfl | rfl | rfl
  · exact w_c0
  · exact w_c1
  · exact w_c2
  · exact w_c3
  · exact w_c4
  · exact w_c5
  · exact w_c6
  · exact w_c7
  · exact w_c8
  · exact w_c9
  · exact w_c10
  · exact w_c11
  · exact w_c12
  · exact w_c13
  · exact w_c14
  · exact w_c15
  · exact w_c16
  · exact w_c17
  · exact w_c18
  · exact w_c19
  · exact w_c20
  · exact w_c21
  · exact w_c22
  · exact w_c23
  · exact w_c24
  · exact w_c25
  · exact w_c26
  · exact w_c27
  · exact w_c28
  · exact w_c29
  · exact w_c30
  · exact w_c31
set_option maxRecDepth 65536 in
theorem w_t1 : (words1.take 24).all (fun c => isCode c || c.before args0 about1) = true := by decide +kernel
set_option maxRecDepth 65536 in
theorem w_t2 : ((words1.drop 24).take 24).all (fun c => isCode c || c.before args0 about1) = true := by decide +kernel
set_option maxRecDepth 65536 in
theorem w_t3 : (((words1.drop 24).drop 24).take 24).all (fun c => isCode c || c.before args0 about1) = true := by decide +kernel
set_option maxRecDepth 65536 in
theorem w_t4 : ((((words1.drop 24).drop 24).drop 24).take 24).all (fun c => isCode c || c.before args0 about1) = true := by decide +kernel
set_option maxRecDepth 65536 in
theorem w_t5 : (((((words1.drop 24).drop 24).drop 24).drop 24).take 24).all (fun c => isCode c || c.before args0 about1) = true := by decide +kernel
set_option maxRecDepth 65536 in
theorem w_t6 : ((((((words1.drop 24).drop 24).drop 24).drop 24).drop 24).take 24).all (fun c => isCode c || c.before args0 about1) = true := by decide +kernel
set_option maxRecDepth 65536 in
theorem w_t7 : ((((((words1.drop 24).drop 24).drop 24).drop 24).drop 24).drop 24).all (fun c => isCode c || c.before args0 about1) = true := by decide +kernel
theorem w_tables : (allAtoms (Jvm.Cond.code x code maxLocals ret :: tables_1)).before args0 about1 = true := by
  rw [allAtoms_all]
  show words1.all (fun c => c.before args0 about1) = true
  refine all_split ?_ w_codes
  rw [← List.take_append_drop 24 words1, List.all_append, w_t1, ← List.take_append_drop 24 (words1.drop 24), List.all_append, w_t2, ← List.take_append_drop 24 ((words1.drop 24).drop 24), List.all_append, w_t3, ← List.take_append_drop 24 (((words1.drop 24).drop 24).drop 24), List.all_append, w_t4, ← List.take_append_drop 24 ((((words1.drop 24).drop 24).drop 24).drop 24), List.all_append, w_t5, ← List.take_append_drop 24 (((((words1.drop 24).drop 24).drop 24).drop 24).drop 24), List.all_append, w_t6, w_t7]
  rfl
set_option maxRecDepth 65536 in
theorem w_rest : rest_1_c.before args0 about1 = true := by decide +kernel
set_option maxRecDepth 65536 in
theorem w_case : (Jvm.Cond.and given_1 narrow_1).before args0 about1 = true := by decide +kernel
theorem w_applies : (headSpec (Jvm.Cond.code x code maxLocals ret :: tables_1) room_1).applies x e0.platform about1 = true :=
  (Spec.applies_iff w_frames).mpr ⟨w_running, w_runnable, w_alone, w_named, w_hears, w_ripe, w_room, w_tables⟩
theorem atStart : AtStart classFile x code maxLocals ret World_1 tables_1 room_1 Calls_1 rest_1 Pre_1 launch0 p0 e0 about1 theMethod args0 below0 :=
  ⟨lists_1, trivial, launch0.admits_env _ _ _, launch0.least_env, fairChoices_fair.cas, fairChoices_fair.clock, w_frames, w_args, w_heap, w_applies, trivial, w_rest, w_case⟩
end start1
theorem witness_1 : WitnessClaimed_1 := ⟨start1.p0, start1.e0, start1.about1, start1.theMethod, start1.args0, start1.below0, start1.atStart⟩
end Jvm.Pilot.@@N@@
