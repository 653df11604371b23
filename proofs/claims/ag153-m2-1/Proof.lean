import JvmDerived
import JvmDerived.Pilot.@@N@@Statement
import JvmDerived.Pilot.@@N@@Code
set_option linter.unusedVariables false
set_option linter.unusedSimpArgs false
namespace Jvm.Pilot.@@N@@
open Jvm Jvm.ClassFile Sem Op Lib Jvm.Free Jvm.Stand Jvm.LawKit Jvm.RoadKit Bundle Jvm.Pilot.@@N@@.Jvm.D

abbrev ci (x : Int32) : Slot := .val (.int x)
abbrev cj (x : Int64) : Slot := .val (.long x)
abbrev cr (x : Addr) : Slot := .val (.ref x)
abbrev cs : Slot := .second
abbrev cu : Slot := .unset
abbrev ym0 : MethodName := ⟨"jdk/internal/util/Preconditions", "checkIndex", "(IILjava/util/function/BiFunction;)I"⟩
abbrev ym1 : MethodName := ⟨"java/lang/String", "checkIndex", "(II)V"⟩
abbrev ym2 : MethodName := ⟨"java/lang/Record", "<init>", "()V"⟩
abbrev ym3 : MethodName := ⟨"java/util/Objects", "requireNonNull", "(Ljava/lang/Object;Ljava/lang/String;)Ljava/lang/Object;"⟩
abbrev ym4 : MethodName := ⟨"com/example/wakeline/wakeline/event/Value", "<init>", "(Lcom/example/wakeline/wakeline/event/Value$Kind;Ljava/lang/String;)V"⟩
abbrev ym5 : MethodName := ⟨"com/example/wakeline/wakeline/event/Value", "isNull", "()Z"⟩
abbrev ym6 : MethodName := ⟨"com/example/wakeline/wakeline/event/Value", "text", "()Ljava/lang/String;"⟩
abbrev ym7 : MethodName := ⟨"com/example/wakeline/wakeline/event/Value", "kind", "()Lcom/example/wakeline/wakeline/event/Value$Kind;"⟩
abbrev ym8 : MethodName := ⟨"java/lang/StringLatin1", "canEncode", "(C)Z"⟩
abbrev ym9 : MethodName := ⟨"java/lang/StringLatin1", "toBytes", "(C)[B"⟩
abbrev ym10 : MethodName := ⟨"java/lang/String", "<init>", "([BB)V"⟩
abbrev ym11 : MethodName := ⟨"java/lang/String", "valueOf", "(C)Ljava/lang/String;"⟩
abbrev ym12 : MethodName := ⟨"com/example/wakeline/wakeline/event/ValueIsNullPinLaw", "drawnNumber", "(II)Ljava/lang/String;"⟩
abbrev ym13 : MethodName := ⟨"java/lang/String", "coder", "()B"⟩
abbrev ym14 : MethodName := ⟨"java/lang/String", "length", "()I"⟩
abbrev ym15 : MethodName := ⟨"java/lang/String", "isLatin1", "()Z"⟩
abbrev ym16 : MethodName := ⟨"java/lang/StringLatin1", "charAt", "([BI)C"⟩
abbrev ym17 : MethodName := ⟨"java/lang/String", "charAt", "(I)C"⟩
abbrev ym18 : MethodName := ⟨"com/example/wakeline/wakeline/event/NumberSyntax", "integerEnd", "(Ljava/lang/String;)I"⟩
abbrev ym19 : MethodName := ⟨"com/example/wakeline/wakeline/event/NumberSyntax", "isNumber", "(Ljava/lang/String;)Z"⟩
abbrev ym20 : MethodName := ⟨"com/example/wakeline/wakeline/event/NumberSyntax", "digitsEnd", "(Ljava/lang/String;I)I"⟩
abbrev ym21 : MethodName := ⟨"java/lang/StringUTF16", "compress", "([CI[BII)I"⟩
abbrev ym22 : MethodName := ⟨"java/lang/StringUTF16", "compress", "([CII)[B"⟩
abbrev ym23 : MethodName := ⟨"java/lang/StringUTF16", "coderFromArrayLen", "([BI)B"⟩
abbrev ym24 : MethodName := ⟨"java/lang/String", "<init>", "([CIILjava/lang/Void;)V"⟩
abbrev ym25 : MethodName := ⟨"java/lang/String", "<init>", "([C)V"⟩
abbrev ym26 : MethodName := ⟨"com/example/wakeline/wakeline/event/ValueIsNullPinLaw", "drawnString", "(III)Ljava/lang/String;"⟩
section OwnEnds
variable {p : Program} {l : Launch} {e : Env} {R : Room} {s : State} {m : MethodId} {args : Array Value} {below : List Frame} {meth : Method} {c : Code} {T : State} {locs : List Loc} {cells slots : Nat}
/-- from here the body comes to its end, returns, and leaves what Q says -/
def Ends (p : Program) (e : Env) (below : List Frame) (s T : State) (g : JFrame) (kc ks : Nat) (Q : Option Value → Heap → List Loc → Prop) : Prop :=
 ∃ s₂ o, Steps p.tables e below (T.setTop g) s₂ ∧ s₂.status = .running ∧ Ended s₂ below o ∧ ∃ v L, o = .returned v ∧ Q v s₂.heap L ∧ FrameEnd s o s₂ L kc ks
theorem Ends.go {T' : State} {g g' : JFrame} {kc ks : Nat} {Q : Option Value → Heap → List Loc → Prop} (h : ∀ target, Steps p.tables e below (T'.setTop g') target → Steps p.tables e below (T.setTop g) target) (k : Ends p e below s T' g' kc ks Q) : Ends p e below s T g kc ks Q := by
 obtain ⟨s₂, o, h1, h2⟩ := k
 exact ⟨s₂, o, h _ h1, h2⟩
theorem Ends.ret (X : Stand p l e R s m args below meth c T locs cells slots) (hx : p.tables.exec = Jvm.exec) (hlocks : meth.locks = false) {pc : Nat} {Ls : Array Slot} {w : Value} {t : FieldType} {i : Instr} {rest : List Value} (hret : meth.sig.returnType = some t) (hn : narrow t w = w)
  (hi : (i = .ireturn ∧ (t = .int ∨ t = .boolean ∨ t = .byte ∨ t = .char ∨ t = .short) ∧ ∃ z, w = .int z) ∨ (i = .lreturn ∧ t = .long ∧ ∃ z, w = .long z) ∨ (i = .dreturn ∧ t = .double ∧ ∃ z, w = .double z) ∨ (i = .freturn ∧ t = .float ∧ ∃ z, w = .float z) ∨ (i = .areturn ∧ t.isReference = true ∧ w.isRef = true))
  (hd : decode c.code pc = .ok (i, 1)) {kc ks : Nat} {Q : Option Value → Heap → List Loc → Prop} (hc : cells ≤ kc) (hs : slots ≤ ks) (hq : Q (some w) T.heap locs) : Ends p e below s T (mkF m pc Ls (w :: rest)) kc ks Q := by
 obtain ⟨fs, hr, hrun, hended, hW, hsame⟩ := X.leave (v := some w) (fun h => by rw [hret] at h; cases h) hlocks
 exact ⟨_, _, retOut X hx hret hn hi hd hr, hrun, hended, _, _, rfl, hq, ⟨_, rfl⟩, hW, hsame.mono hc hs⟩
theorem Ends.retZ (X : Stand p l e R s m args below meth c T locs cells slots) (hx : p.tables.exec = Jvm.exec) (hlocks : meth.locks = false) {pc : Nat} {Ls : Array Slot} {z : Int32} {t : FieldType} {rest : List Value} (hret : meth.sig.returnType = some t) (ht : t = .boolean ∨ t = .byte ∨ t = .char ∨ t = .short)
  (hd : decode c.code pc = .ok (.ireturn, 1)) {kc ks : Nat} {Q : Option Value → Heap → List Loc → Prop} (hc : cells ≤ kc) (hs : slots ≤ ks) (hq : Q (some (.int (nar t z))) T.heap locs) : Ends p e below s T (mkF m pc Ls (.int z :: rest)) kc ks Q := by
 obtain ⟨fs, hr, hrun, hended, hW, hsame⟩ := X.leave (v := some (.int (nar t z))) (fun h => by rw [hret] at h; cases h) hlocks
 exact ⟨_, _, retN X hx hret ht hd hr, hrun, hended, _, _, rfl, hq, ⟨_, rfl⟩, hW, hsame.mono hc hs⟩
theorem Ends.retV (X : Stand p l e R s m args below meth c T locs cells slots) (hx : p.tables.exec = Jvm.exec) (hlocks : meth.locks = false) {pc : Nat} {Ls : Array Slot} (hret : meth.sig.returnType = none)
  (hd : decode c.code pc = .ok (.return_, 1)) {kc ks : Nat} {Q : Option Value → Heap → List Loc → Prop} (hc : cells ≤ kc) (hs : slots ≤ ks) (hq : Q none T.heap locs) : Ends p e below s T (mkF m pc Ls []) kc ks Q := by
 obtain ⟨fs, hr, hrun, hended, hW, hsame⟩ := X.leave (v := none) (fun _ => rfl) hlocks
 exact ⟨_, _, X.returnOut hx hret hd hr, hrun, hended, _, _, rfl, hq, ⟨_, rfl⟩, hW, hsame.mono hc hs⟩
theorem own_mono (X : Stand p l e R s m args below meth c T locs cells slots) {kc ks : Nat} (hc : cells ≤ kc) (hs : slots ≤ ks) : Stand p l e R s m args below meth c T locs kc ks := { X with same := X.same.mono hc hs }
theorem wil {kc ks : Nat} {Q : Option Value → Heap → List Loc → Prop} {pc : Nat} {L : Array Slot} {S : List Value} {B : ByteArray} {k : Nat} {v : Int32} (X : Stand p l e R s m args below meth c T locs cells slots) (hx : p.tables.exec = Jvm.exec) (hby : c.code = B) (hd : decode B pc = .ok (.iload k, 2)) (hl : L[k]? = some (.val (.int v))) (q : Ends p e below s T (mkF m (pc + 2) L (.int v :: S)) kc ks Q) : Ends p e below s T (mkF m pc L S) kc ks Q := Ends.go (fun _ k => XS.iload X.here hx rfl (hb hby hd) hl k) q
theorem wilN {kc ks : Nat} {Q : Option Value → Heap → List Loc → Prop} {pc : Nat} {L : Array Slot} {S : List Value} {B : ByteArray} {k : Fin 4} {v : Int32} (X : Stand p l e R s m args below meth c T locs cells slots) (hx : p.tables.exec = Jvm.exec) (hby : c.code = B) (hd : decode B pc = .ok (.iload_n k, 1)) (hl : L[k.val]? = some (.val (.int v))) (q : Ends p e below s T (mkF m (pc + 1) L (.int v :: S)) kc ks Q) : Ends p e below s T (mkF m pc L S) kc ks Q := Ends.go (fun _ k => XS.iloadN X.here hx rfl (hb hby hd) hl k) q
theorem wal {kc ks : Nat} {Q : Option Value → Heap → List Loc → Prop} {pc : Nat} {L : Array Slot} {S : List Value} {B : ByteArray} {k : Nat} {v : Value} (X : Stand p l e R s m args below meth c T locs cells slots) (hx : p.tables.exec = Jvm.exec) (hby : c.code = B) (hd : decode B pc = .ok (.aload k, 2)) (hl : L[k]? = some (.val v)) (hv : v.isRef = true) (q : Ends p e below s T (mkF m (pc + 2) L (v :: S)) kc ks Q) : Ends p e below s T (mkF m pc L S) kc ks Q := Ends.go (fun _ k => XS.aload X.here hx rfl (hb hby hd) hl hv k) q
theorem walN {kc ks : Nat} {Q : Option Value → Heap → List Loc → Prop} {pc : Nat} {L : Array Slot} {S : List Value} {B : ByteArray} {k : Fin 4} {v : Value} (X : Stand p l e R s m args below meth c T locs cells slots) (hx : p.tables.exec = Jvm.exec) (hby : c.code = B) (hd : decode B pc = .ok (.aload_n k, 1)) (hl : L[k.val]? = some (.val v)) (hv : v.isRef = true) (q : Ends p e below s T (mkF m (pc + 1) L (v :: S)) kc ks Q) : Ends p e below s T (mkF m pc L S) kc ks Q := Ends.go (fun _ k => XS.aloadN X.here hx rfl (hb hby hd) hl hv k) q
theorem wic {kc ks : Nat} {Q : Option Value → Heap → List Loc → Prop} {pc : Nat} {L : Array Slot} {S : List Value} {B : ByteArray} {i : Int} (X : Stand p l e R s m args below meth c T locs cells slots) (hx : p.tables.exec = Jvm.exec) (hby : c.code = B) (hd : decode B pc = .ok (.iconst i, 1)) (q : Ends p e below s T (mkF m (pc + 1) L (.int (Int32.ofInt i) :: S)) kc ks Q) : Ends p e below s T (mkF m pc L S) kc ks Q := Ends.go (fun _ k => XS.iconst X.here hx rfl (hb hby hd)  k) q
theorem wbp {kc ks : Nat} {Q : Option Value → Heap → List Loc → Prop} {pc : Nat} {L : Array Slot} {S : List Value} {B : ByteArray} {i : Int} (X : Stand p l e R s m args below meth c T locs cells slots) (hx : p.tables.exec = Jvm.exec) (hby : c.code = B) (hd : decode B pc = .ok (.bipush i, 2)) (q : Ends p e below s T (mkF m (pc + 2) L (.int (Int8.ofInt i).toInt32 :: S)) kc ks Q) : Ends p e below s T (mkF m pc L S) kc ks Q := Ends.go (fun _ k => XS.bipush X.here hx rfl (hb hby hd)  k) q
theorem wsp {kc ks : Nat} {Q : Option Value → Heap → List Loc → Prop} {pc : Nat} {L : Array Slot} {S : List Value} {B : ByteArray} {i : Int} (X : Stand p l e R s m args below meth c T locs cells slots) (hx : p.tables.exec = Jvm.exec) (hby : c.code = B) (hd : decode B pc = .ok (.sipush i, 3)) (q : Ends p e below s T (mkF m (pc + 3) L (.int (Int16.ofInt i).toInt32 :: S)) kc ks Q) : Ends p e below s T (mkF m pc L S) kc ks Q := Ends.go (fun _ k => XS.sipush X.here hx rfl (hb hby hd)  k) q
theorem wia {kc ks : Nat} {Q : Option Value → Heap → List Loc → Prop} {pc : Nat} {L : Array Slot} {S : List Value} {B : ByteArray} {x y : Int32} (X : Stand p l e R s m args below meth c T locs cells slots) (hx : p.tables.exec = Jvm.exec) (hby : c.code = B) (hd : decode B pc = .ok (.iadd, 1)) (q : Ends p e below s T (mkF m (pc + 1) L (.int (x + y) :: S)) kc ks Q) : Ends p e below s T (mkF m pc L (.int y :: .int x :: S)) kc ks Q := Ends.go (fun _ k => XS.iadd X.here hx rfl (hb hby hd) rfl k) q
theorem wis {kc ks : Nat} {Q : Option Value → Heap → List Loc → Prop} {pc : Nat} {L : Array Slot} {S : List Value} {B : ByteArray} {x y : Int32} (X : Stand p l e R s m args below meth c T locs cells slots) (hx : p.tables.exec = Jvm.exec) (hby : c.code = B) (hd : decode B pc = .ok (.isub, 1)) (q : Ends p e below s T (mkF m (pc + 1) L (.int (x - y) :: S)) kc ks Q) : Ends p e below s T (mkF m pc L (.int y :: .int x :: S)) kc ks Q := Ends.go (fun _ k => XS.isub X.here hx rfl (hb hby hd) rfl k) q
theorem wst {kc ks : Nat} {Q : Option Value → Heap → List Loc → Prop} {pc : Nat} {L : Array Slot} {S : List Value} {B : ByteArray} {k : Nat} {x : Int32} {l' : Array Slot} (X : Stand p l e R s m args below meth c T locs cells slots) (hx : p.tables.exec = Jvm.exec) (hby : c.code = B) (hd : decode B pc = .ok (.istore k, 2)) (hl : storeLocals L k (.int x) = some l') (q : Ends p e below s T (mkF m (pc + 2) l' S) kc ks Q) : Ends p e below s T (mkF m pc L (.int x :: S)) kc ks Q := Ends.go (fun _ k => XS.istore X.here hx rfl (hb hby hd) rfl hl k) q
theorem wstN {kc ks : Nat} {Q : Option Value → Heap → List Loc → Prop} {pc : Nat} {L : Array Slot} {S : List Value} {B : ByteArray} {k : Fin 4} {x : Int32} {l' : Array Slot} (X : Stand p l e R s m args below meth c T locs cells slots) (hx : p.tables.exec = Jvm.exec) (hby : c.code = B) (hd : decode B pc = .ok (.istore_n k, 1)) (hl : storeLocals L k.val (.int x) = some l') (q : Ends p e below s T (mkF m (pc + 1) l' S) kc ks Q) : Ends p e below s T (mkF m pc L (.int x :: S)) kc ks Q := Ends.go (fun _ k => XS.istoreN X.here hx rfl (hb hby hd) rfl hl k) q
theorem was {kc ks : Nat} {Q : Option Value → Heap → List Loc → Prop} {pc : Nat} {L : Array Slot} {S : List Value} {B : ByteArray} {k : Nat} {x : Value} {l' : Array Slot} (X : Stand p l e R s m args below meth c T locs cells slots) (hx : p.tables.exec = Jvm.exec) (hby : c.code = B) (hd : decode B pc = .ok (.astore k, 2)) (hv : x.isRef = true) (hl : storeLocals L k x = some l') (q : Ends p e below s T (mkF m (pc + 2) l' S) kc ks Q) : Ends p e below s T (mkF m pc L (x :: S)) kc ks Q := Ends.go (fun _ k => XS.astore X.here hx rfl (hb hby hd) rfl hv hl k) q
theorem wasN {kc ks : Nat} {Q : Option Value → Heap → List Loc → Prop} {pc : Nat} {L : Array Slot} {S : List Value} {B : ByteArray} {k : Fin 4} {x : Value} {l' : Array Slot} (X : Stand p l e R s m args below meth c T locs cells slots) (hx : p.tables.exec = Jvm.exec) (hby : c.code = B) (hd : decode B pc = .ok (.astore_n k, 1)) (hv : x.isRef = true) (hl : storeLocals L k.val x = some l') (q : Ends p e below s T (mkF m (pc + 1) l' S) kc ks Q) : Ends p e below s T (mkF m pc L (x :: S)) kc ks Q := Ends.go (fun _ k => XS.astoreN X.here hx rfl (hb hby hd) rfl hv hl k) q
theorem wii {kc ks : Nat} {Q : Option Value → Heap → List Loc → Prop} {pc : Nat} {L : Array Slot} {S : List Value} {B : ByteArray} {k : Nat} {cst : Int} {x : Int32} {l' : Array Slot} (X : Stand p l e R s m args below meth c T locs cells slots) (hx : p.tables.exec = Jvm.exec) (hby : c.code = B) (hd : decode B pc = .ok (.iinc k cst, 3)) (hl : L[k]? = some (.val (.int x))) (hl' : storeLocals L k (.int (x + Int32.ofInt cst)) = some l') (q : Ends p e below s T (mkF m (pc + 3) l' S) kc ks Q) : Ends p e below s T (mkF m pc L S) kc ks Q := Ends.go (fun _ k => XS.iinc X.here hx rfl (hb hby hd) hl hl' k) q
theorem wgo {kc ks : Nat} {Q : Option Value → Heap → List Loc → Prop} {pc : Nat} {L : Array Slot} {S : List Value} {B : ByteArray} {o : Int} {pc' : Nat} (X : Stand p l e R s m args below meth c T locs cells slots) (hx : p.tables.exec = Jvm.exec) (hby : c.code = B) (hd : decode B pc = .ok (.goto o, 3)) (ho : 0 ≤ (pc : Int) + o) (hp : ((pc : Int) + o).toNat = pc') (q : Ends p e below s T (mkF m pc' L S) kc ks Q) : Ends p e below s T (mkF m pc L S) kc ks Q := Ends.go (fun _ k => XS.goto X.here hx rfl rfl (hb hby hd) ho hp k) q
theorem wcy {kc ks : Nat} {Q : Option Value → Heap → List Loc → Prop} {pc : Nat} {L : Array Slot} {S : List Value} {B : ByteArray} {cd : ClassFile.Cond} {x y : Int32} {o : Int} {pc' : Nat} (X : Stand p l e R s m args below meth c T locs cells slots) (hx : p.tables.exec = Jvm.exec) (hby : c.code = B) (hd : decode B pc = .ok (.if_icmp cd o, 3)) (hc : if_icmp.holds cd x y = true) (ho : 0 ≤ (pc : Int) + o) (hp : ((pc : Int) + o).toNat = pc') (q : Ends p e below s T (mkF m pc' L S) kc ks Q) : Ends p e below s T (mkF m pc L (.int y :: .int x :: S)) kc ks Q := Ends.go (fun _ k => XS.icmpYes X.here hx rfl rfl (hb hby hd) rfl hc ho hp k) q
theorem wcn {kc ks : Nat} {Q : Option Value → Heap → List Loc → Prop} {pc : Nat} {L : Array Slot} {S : List Value} {B : ByteArray} {cd : ClassFile.Cond} {x y : Int32} {o : Int} (X : Stand p l e R s m args below meth c T locs cells slots) (hx : p.tables.exec = Jvm.exec) (hby : c.code = B) (hd : decode B pc = .ok (.if_icmp cd o, 3)) (hc : if_icmp.holds cd x y = false) (q : Ends p e below s T (mkF m (pc + 3) L S) kc ks Q) : Ends p e below s T (mkF m pc L (.int y :: .int x :: S)) kc ks Q := Ends.go (fun _ k => XS.icmpNo X.here hx rfl (hb hby hd) rfl hc k) q
theorem wiy {kc ks : Nat} {Q : Option Value → Heap → List Loc → Prop} {pc : Nat} {L : Array Slot} {S : List Value} {B : ByteArray} {cd : ClassFile.Cond} {x : Int32} {o : Int} {pc' : Nat} (X : Stand p l e R s m args below meth c T locs cells slots) (hx : p.tables.exec = Jvm.exec) (hby : c.code = B) (hd : decode B pc = .ok (.ifCond cd o, 3)) (hc : ifCond.holds cd x = true) (ho : 0 ≤ (pc : Int) + o) (hp : ((pc : Int) + o).toNat = pc') (q : Ends p e below s T (mkF m pc' L S) kc ks Q) : Ends p e below s T (mkF m pc L (.int x :: S)) kc ks Q := Ends.go (fun _ k => XS.ifYes X.here hx rfl rfl (hb hby hd) rfl hc ho hp k) q
theorem win {kc ks : Nat} {Q : Option Value → Heap → List Loc → Prop} {pc : Nat} {L : Array Slot} {S : List Value} {B : ByteArray} {cd : ClassFile.Cond} {x : Int32} {o : Int} (X : Stand p l e R s m args below meth c T locs cells slots) (hx : p.tables.exec = Jvm.exec) (hby : c.code = B) (hd : decode B pc = .ok (.ifCond cd o, 3)) (hc : ifCond.holds cd x = false) (q : Ends p e below s T (mkF m (pc + 3) L S) kc ks Q) : Ends p e below s T (mkF m pc L (.int x :: S)) kc ks Q := Ends.go (fun _ k => XS.ifNo X.here hx rfl (hb hby hd) rfl hc k) q
theorem wan {kc ks : Nat} {Q : Option Value → Heap → List Loc → Prop} {pc : Nat} {L : Array Slot} {S : List Value} {B : ByteArray} {x y : Int32} (X : Stand p l e R s m args below meth c T locs cells slots) (hx : p.tables.exec = Jvm.exec) (hby : c.code = B) (hd : decode B pc = .ok (.iand, 1)) (q : Ends p e below s T (mkF m (pc + 1) L (.int (x &&& y) :: S)) kc ks Q) : Ends p e below s T (mkF m pc L (.int y :: .int x :: S)) kc ks Q := Ends.go (fun _ k => XS.iand X.here hx rfl (hb hby hd) rfl k) q
theorem wdu {kc ks : Nat} {Q : Option Value → Heap → List Loc → Prop} {pc : Nat} {L : Array Slot} {S : List Value} {B : ByteArray} {x : Value} (X : Stand p l e R s m args below meth c T locs cells slots) (hx : p.tables.exec = Jvm.exec) (hby : c.code = B) (hd : decode B pc = .ok (.dup, 1)) (hv : x.category = 1) (q : Ends p e below s T (mkF m (pc + 1) L (x :: x :: S)) kc ks Q) : Ends p e below s T (mkF m pc L (x :: S)) kc ks Q := Ends.go (fun _ k => XS.dup X.here hx rfl (hb hby hd) rfl hv k) q
end OwnEnds
abbrev Meets1 (l : Launch) (y : MethodName) (bytes : ByteArray) (ml : Nat) (rt : Option FieldType) (ws : List Jvm.Cond) (rm : Room) (av : Array Value) (Z : State) (h0 : Heap) (Q : Option Value → Heap → List Loc → Prop) : Prop :=
 MetFree l y (head1 (Jvm.Cond.code y bytes ml rt :: ws) rm) (fun a U => a = av ∧ Z.Warmed39 U.vm ∧ U.heap = h0) (fun _ _ _ _ _ => True) (fun _ U o U' => ∃ v L, o = .returned v ∧ Q v U'.heap L ∧ FrameEnd U o U' L rm.cells rm.slots)
theorem own_backOf {p : Program} {l : Launch} {e : Env} {R : Room} {s : State} {args : Array Value} {below : List Frame} {Z : State} {a0 : Array Value} {h : Heap} {y : MethodName} {bytes : ByteArray} {maxL : Nat} {ret : Option FieldType} {rm : Room} {len W : Nat} {as' : Array Value} {Q : Option Value → Heap → List Loc → Prop}
  (hM : Meets1 l y bytes maxL ret [] rm as' Z h Q) (hZ : Z.Warmed39 s.vm) (wc : (Jvm.Cond.code y bytes maxL ret).before a0 Z = true) (wz : (Jvm.Cond.initialized y.cls).before a0 Z = true) (hf : rm.frames + 1 ≤ R.frames) (hl : W + (maxL + 11) + rm.locals ≤ R.locals) :
  Back l R p e below s args y len W (fun A a => a = as' ∧ A.U.heap = h ∧ A.cells + rm.cells ≤ R.cells ∧ A.slots + rm.slots ≤ R.slots)
   (fun A _ v B => ∃ L, Q v B.U.heap L ∧ B.locs = A.locs ++ L ∧ B.cells = A.cells + rm.cells ∧ B.slots = A.slots + rm.slots) := backOf (Q := Q) hM hZ wc wz hf hl
theorem ow {Z : State} {a0 : Array Value} (hw : ∀ d ∈ tables_1, d.before a0 Z = true) {d : Jvm.Cond} (i : Nat) (h : tables_1[i]? = some d) : d.before a0 Z = true := hw d (List.mem_of_getElem? h)
theorem own_old_le {Z : State} {n0 : Nat} {h : Heap} (O : Old Z n0 h) : n0 ≤ h.size := O.1 ▸ O.2.1
section OwnEndsW
variable {p : Program} {l : Launch} {e : Env} {R : Room} {s : State} {vm : Vm} {m : MethodId} {args : Array Value} {below : List Frame} {meth : Method} {c : Code} {T : State} {locs : List Loc} {cells slots : Nat}
/-- as Ends, for a body that may load a String constant -/
def EndsW (p : Program) (e : Env) (below : List Frame) (s T : State) (g : JFrame) (kc ks : Nat) (Q : Option Value → Heap → List Loc → Prop) : Prop :=
 ∃ s₂ o, Steps p.tables e below (T.setTop g) s₂ ∧ s₂.status = .running ∧ Ended s₂ below o ∧ ∃ v L, o = .returned v ∧ Q v s₂.heap L ∧ ReturnedEndW s o s₂ L kc ks
theorem EndsW.go {T' : State} {g g' : JFrame} {kc ks : Nat} {Q : Option Value → Heap → List Loc → Prop} (h : ∀ target, Steps p.tables e below (T'.setTop g') target → Steps p.tables e below (T.setTop g) target) (k : EndsW p e below s T' g' kc ks Q) : EndsW p e below s T g kc ks Q := by
 obtain ⟨s₂, o, h1, h2⟩ := k
 exact ⟨s₂, o, h _ h1, h2⟩
theorem own_wmono {o : Outcome} {t : State} {L : List Loc} {k n kc ks : Nat} (h : ReturnedEndW s o t L k n) (hc : k ≤ kc) (hs : n ≤ ks) : ReturnedEndW s o t L kc ks := ⟨h.1, h.2.1, h.2.2.1, h.2.2.2.mono hc hs⟩
theorem EndsW.ret (X : Stand p l e R (s.setVm vm) m args below meth c T locs cells slots) (hx : p.tables.exec = Jvm.exec) {kk : Nat} (hS : s.Since vm kk) (hk : kk ≤ T.heap.size) (hlocks : meth.locks = false) {pc : Nat} {Ls : Array Slot} {w : Value} {t : FieldType} {i : Instr} {rest : List Value} (hret : meth.sig.returnType = some t) (hn : narrow t w = w)
  (hi : (i = .ireturn ∧ (t = .int ∨ t = .boolean ∨ t = .byte ∨ t = .char ∨ t = .short) ∧ ∃ z, w = .int z) ∨ (i = .lreturn ∧ t = .long ∧ ∃ z, w = .long z) ∨ (i = .dreturn ∧ t = .double ∧ ∃ z, w = .double z) ∨ (i = .freturn ∧ t = .float ∧ ∃ z, w = .float z) ∨ (i = .areturn ∧ t.isReference = true ∧ w.isRef = true))
  (hd : decode c.code pc = .ok (i, 1)) {kc ks : Nat} {Q : Option Value → Heap → List Loc → Prop} (hc : cells ≤ kc) (hs : slots ≤ ks) (hq : Q (some w) T.heap locs) : EndsW p e below s T (mkF m pc Ls (w :: rest)) kc ks Q := by
 obtain ⟨fs, hr, hrun, hended, hW⟩ := X.leaveW hS hk (v := some w) (fun h => by rw [hret] at h; cases h) hlocks
 exact ⟨_, _, retOut X hx hret hn hi hd hr, hrun, hended, _, _, rfl, hq, own_wmono hW hc hs⟩
theorem EndsW.retZ (X : Stand p l e R (s.setVm vm) m args below meth c T locs cells slots) (hx : p.tables.exec = Jvm.exec) {kk : Nat} (hS : s.Since vm kk) (hk : kk ≤ T.heap.size) (hlocks : meth.locks = false) {pc : Nat} {Ls : Array Slot} {z : Int32} {t : FieldType} {rest : List Value} (hret : meth.sig.returnType = some t) (ht : t = .boolean ∨ t = .byte ∨ t = .char ∨ t = .short)
  (hd : decode c.code pc = .ok (.ireturn, 1)) {kc ks : Nat} {Q : Option Value → Heap → List Loc → Prop} (hc : cells ≤ kc) (hs : slots ≤ ks) (hq : Q (some (.int (nar t z))) T.heap locs) : EndsW p e below s T (mkF m pc Ls (.int z :: rest)) kc ks Q := by
 obtain ⟨fs, hr, hrun, hended, hW⟩ := X.leaveW hS hk (v := some (.int (nar t z))) (fun h => by rw [hret] at h; cases h) hlocks
 exact ⟨_, _, retN X hx hret ht hd hr, hrun, hended, _, _, rfl, hq, own_wmono hW hc hs⟩
theorem EndsW.retV (X : Stand p l e R (s.setVm vm) m args below meth c T locs cells slots) (hx : p.tables.exec = Jvm.exec) {kk : Nat} (hS : s.Since vm kk) (hk : kk ≤ T.heap.size) (hlocks : meth.locks = false) {pc : Nat} {Ls : Array Slot} (hret : meth.sig.returnType = none)
  (hd : decode c.code pc = .ok (.return_, 1)) {kc ks : Nat} {Q : Option Value → Heap → List Loc → Prop} (hc : cells ≤ kc) (hs : slots ≤ ks) (hq : Q none T.heap locs) : EndsW p e below s T (mkF m pc Ls []) kc ks Q := by
 obtain ⟨fs, hr, hrun, hended, hW⟩ := X.leaveW hS hk (v := none) (fun _ => rfl) hlocks
 exact ⟨_, _, X.returnOut hx hret hd hr, hrun, hended, _, _, rfl, hq, own_wmono hW hc hs⟩
theorem own_since0 (s : State) : s.Since s.vm s.heap.size := ⟨State.Warmed39.refl s, fun j q h1 h2 => absurd h2 (by rw [Array.getElem?_eq_none h1]; simp)⟩
theorem own_wrsz {h h' : Heap} {a : Addr} {sl : Nat} {v : Value} (W : Wr h h' a sl v) : h.size ≤ h'.size := by obtain ⟨c0, -, -, -, rfl⟩ := W; simp
theorem own_ib {Z : State} {vm : Vm} (h : vm.interned = Z.vm.interned) : IB Z vm [] := ⟨#[], by simp [h], fun q hq => by simp at hq⟩
theorem wilW {kc ks : Nat} {Q : Option Value → Heap → List Loc → Prop} {pc : Nat} {L : Array Slot} {S : List Value} {B : ByteArray} {k : Nat} {v : Int32} {s' : State} (X : Stand p l e R s' m args below meth c T locs cells slots) (hx : p.tables.exec = Jvm.exec) (hby : c.code = B) (hd : decode B pc = .ok (.iload k, 2)) (hl : L[k]? = some (.val (.int v))) (q : EndsW p e below s T (mkF m (pc + 2) L (.int v :: S)) kc ks Q) : EndsW p e below s T (mkF m pc L S) kc ks Q := EndsW.go (fun _ k => XS.iload X.here hx rfl (hb hby hd) hl k) q
theorem wilNW {kc ks : Nat} {Q : Option Value → Heap → List Loc → Prop} {pc : Nat} {L : Array Slot} {S : List Value} {B : ByteArray} {k : Fin 4} {v : Int32} {s' : State} (X : Stand p l e R s' m args below meth c T locs cells slots) (hx : p.tables.exec = Jvm.exec) (hby : c.code = B) (hd : decode B pc = .ok (.iload_n k, 1)) (hl : L[k.val]? = some (.val (.int v))) (q : EndsW p e below s T (mkF m (pc + 1) L (.int v :: S)) kc ks Q) : EndsW p e below s T (mkF m pc L S) kc ks Q := EndsW.go (fun _ k => XS.iloadN X.here hx rfl (hb hby hd) hl k) q
theorem walW {kc ks : Nat} {Q : Option Value → Heap → List Loc → Prop} {pc : Nat} {L : Array Slot} {S : List Value} {B : ByteArray} {k : Nat} {v : Value} {s' : State} (X : Stand p l e R s' m args below meth c T locs cells slots) (hx : p.tables.exec = Jvm.exec) (hby : c.code = B) (hd : decode B pc = .ok (.aload k, 2)) (hl : L[k]? = some (.val v)) (hv : v.isRef = true) (q : EndsW p e below s T (mkF m (pc + 2) L (v :: S)) kc ks Q) : EndsW p e below s T (mkF m pc L S) kc ks Q := EndsW.go (fun _ k => XS.aload X.here hx rfl (hb hby hd) hl hv k) q
theorem walNW {kc ks : Nat} {Q : Option Value → Heap → List Loc → Prop} {pc : Nat} {L : Array Slot} {S : List Value} {B : ByteArray} {k : Fin 4} {v : Value} {s' : State} (X : Stand p l e R s' m args below meth c T locs cells slots) (hx : p.tables.exec = Jvm.exec) (hby : c.code = B) (hd : decode B pc = .ok (.aload_n k, 1)) (hl : L[k.val]? = some (.val v)) (hv : v.isRef = true) (q : EndsW p e below s T (mkF m (pc + 1) L (v :: S)) kc ks Q) : EndsW p e below s T (mkF m pc L S) kc ks Q := EndsW.go (fun _ k => XS.aloadN X.here hx rfl (hb hby hd) hl hv k) q
theorem wicW {kc ks : Nat} {Q : Option Value → Heap → List Loc → Prop} {pc : Nat} {L : Array Slot} {S : List Value} {B : ByteArray} {i : Int} {s' : State} (X : Stand p l e R s' m args below meth c T locs cells slots) (hx : p.tables.exec = Jvm.exec) (hby : c.code = B) (hd : decode B pc = .ok (.iconst i, 1)) (q : EndsW p e below s T (mkF m (pc + 1) L (.int (Int32.ofInt i) :: S)) kc ks Q) : EndsW p e below s T (mkF m pc L S) kc ks Q := EndsW.go (fun _ k => XS.iconst X.here hx rfl (hb hby hd)  k) q
theorem wbpW {kc ks : Nat} {Q : Option Value → Heap → List Loc → Prop} {pc : Nat} {L : Array Slot} {S : List Value} {B : ByteArray} {i : Int} {s' : State} (X : Stand p l e R s' m args below meth c T locs cells slots) (hx : p.tables.exec = Jvm.exec) (hby : c.code = B) (hd : decode B pc = .ok (.bipush i, 2)) (q : EndsW p e below s T (mkF m (pc + 2) L (.int (Int8.ofInt i).toInt32 :: S)) kc ks Q) : EndsW p e below s T (mkF m pc L S) kc ks Q := EndsW.go (fun _ k => XS.bipush X.here hx rfl (hb hby hd)  k) q
theorem wspW {kc ks : Nat} {Q : Option Value → Heap → List Loc → Prop} {pc : Nat} {L : Array Slot} {S : List Value} {B : ByteArray} {i : Int} {s' : State} (X : Stand p l e R s' m args below meth c T locs cells slots) (hx : p.tables.exec = Jvm.exec) (hby : c.code = B) (hd : decode B pc = .ok (.sipush i, 3)) (q : EndsW p e below s T (mkF m (pc + 3) L (.int (Int16.ofInt i).toInt32 :: S)) kc ks Q) : EndsW p e below s T (mkF m pc L S) kc ks Q := EndsW.go (fun _ k => XS.sipush X.here hx rfl (hb hby hd)  k) q
theorem wiaW {kc ks : Nat} {Q : Option Value → Heap → List Loc → Prop} {pc : Nat} {L : Array Slot} {S : List Value} {B : ByteArray} {x y : Int32} {s' : State} (X : Stand p l e R s' m args below meth c T locs cells slots) (hx : p.tables.exec = Jvm.exec) (hby : c.code = B) (hd : decode B pc = .ok (.iadd, 1)) (q : EndsW p e below s T (mkF m (pc + 1) L (.int (x + y) :: S)) kc ks Q) : EndsW p e below s T (mkF m pc L (.int y :: .int x :: S)) kc ks Q := EndsW.go (fun _ k => XS.iadd X.here hx rfl (hb hby hd) rfl k) q
theorem wisW {kc ks : Nat} {Q : Option Value → Heap → List Loc → Prop} {pc : Nat} {L : Array Slot} {S : List Value} {B : ByteArray} {x y : Int32} {s' : State} (X : Stand p l e R s' m args below meth c T locs cells slots) (hx : p.tables.exec = Jvm.exec) (hby : c.code = B) (hd : decode B pc = .ok (.isub, 1)) (q : EndsW p e below s T (mkF m (pc + 1) L (.int (x - y) :: S)) kc ks Q) : EndsW p e below s T (mkF m pc L (.int y :: .int x :: S)) kc ks Q := EndsW.go (fun _ k => XS.isub X.here hx rfl (hb hby hd) rfl k) q
theorem wstW {kc ks : Nat} {Q : Option Value → Heap → List Loc → Prop} {pc : Nat} {L : Array Slot} {S : List Value} {B : ByteArray} {k : Nat} {x : Int32} {l' : Array Slot} {s' : State} (X : Stand p l e R s' m args below meth c T locs cells slots) (hx : p.tables.exec = Jvm.exec) (hby : c.code = B) (hd : decode B pc = .ok (.istore k, 2)) (hl : storeLocals L k (.int x) = some l') (q : EndsW p e below s T (mkF m (pc + 2) l' S) kc ks Q) : EndsW p e below s T (mkF m pc L (.int x :: S)) kc ks Q := EndsW.go (fun _ k => XS.istore X.here hx rfl (hb hby hd) rfl hl k) q
theorem wstNW {kc ks : Nat} {Q : Option Value → Heap → List Loc → Prop} {pc : Nat} {L : Array Slot} {S : List Value} {B : ByteArray} {k : Fin 4} {x : Int32} {l' : Array Slot} {s' : State} (X : Stand p l e R s' m args below meth c T locs cells slots) (hx : p.tables.exec = Jvm.exec) (hby : c.code = B) (hd : decode B pc = .ok (.istore_n k, 1)) (hl : storeLocals L k.val (.int x) = some l') (q : EndsW p e below s T (mkF m (pc + 1) l' S) kc ks Q) : EndsW p e below s T (mkF m pc L (.int x :: S)) kc ks Q := EndsW.go (fun _ k => XS.istoreN X.here hx rfl (hb hby hd) rfl hl k) q
theorem wasW {kc ks : Nat} {Q : Option Value → Heap → List Loc → Prop} {pc : Nat} {L : Array Slot} {S : List Value} {B : ByteArray} {k : Nat} {x : Value} {l' : Array Slot} {s' : State} (X : Stand p l e R s' m args below meth c T locs cells slots) (hx : p.tables.exec = Jvm.exec) (hby : c.code = B) (hd : decode B pc = .ok (.astore k, 2)) (hv : x.isRef = true) (hl : storeLocals L k x = some l') (q : EndsW p e below s T (mkF m (pc + 2) l' S) kc ks Q) : EndsW p e below s T (mkF m pc L (x :: S)) kc ks Q := EndsW.go (fun _ k => XS.astore X.here hx rfl (hb hby hd) rfl hv hl k) q
theorem wasNW {kc ks : Nat} {Q : Option Value → Heap → List Loc → Prop} {pc : Nat} {L : Array Slot} {S : List Value} {B : ByteArray} {k : Fin 4} {x : Value} {l' : Array Slot} {s' : State} (X : Stand p l e R s' m args below meth c T locs cells slots) (hx : p.tables.exec = Jvm.exec) (hby : c.code = B) (hd : decode B pc = .ok (.astore_n k, 1)) (hv : x.isRef = true) (hl : storeLocals L k.val x = some l') (q : EndsW p e below s T (mkF m (pc + 1) l' S) kc ks Q) : EndsW p e below s T (mkF m pc L (x :: S)) kc ks Q := EndsW.go (fun _ k => XS.astoreN X.here hx rfl (hb hby hd) rfl hv hl k) q
theorem wiiW {kc ks : Nat} {Q : Option Value → Heap → List Loc → Prop} {pc : Nat} {L : Array Slot} {S : List Value} {B : ByteArray} {k : Nat} {cst : Int} {x : Int32} {l' : Array Slot} {s' : State} (X : Stand p l e R s' m args below meth c T locs cells slots) (hx : p.tables.exec = Jvm.exec) (hby : c.code = B) (hd : decode B pc = .ok (.iinc k cst, 3)) (hl : L[k]? = some (.val (.int x))) (hl' : storeLocals L k (.int (x + Int32.ofInt cst)) = some l') (q : EndsW p e below s T (mkF m (pc + 3) l' S) kc ks Q) : EndsW p e below s T (mkF m pc L S) kc ks Q := EndsW.go (fun _ k => XS.iinc X.here hx rfl (hb hby hd) hl hl' k) q
theorem wgoW {kc ks : Nat} {Q : Option Value → Heap → List Loc → Prop} {pc : Nat} {L : Array Slot} {S : List Value} {B : ByteArray} {o : Int} {pc' : Nat} {s' : State} (X : Stand p l e R s' m args below meth c T locs cells slots) (hx : p.tables.exec = Jvm.exec) (hby : c.code = B) (hd : decode B pc = .ok (.goto o, 3)) (ho : 0 ≤ (pc : Int) + o) (hp : ((pc : Int) + o).toNat = pc') (q : EndsW p e below s T (mkF m pc' L S) kc ks Q) : EndsW p e below s T (mkF m pc L S) kc ks Q := EndsW.go (fun _ k => XS.goto X.here hx rfl rfl (hb hby hd) ho hp k) q
theorem wcyW {kc ks : Nat} {Q : Option Value → Heap → List Loc → Prop} {pc : Nat} {L : Array Slot} {S : List Value} {B : ByteArray} {cd : ClassFile.Cond} {x y : Int32} {o : Int} {pc' : Nat} {s' : State} (X : Stand p l e R s' m args below meth c T locs cells slots) (hx : p.tables.exec = Jvm.exec) (hby : c.code = B) (hd : decode B pc = .ok (.if_icmp cd o, 3)) (hc : if_icmp.holds cd x y = true) (ho : 0 ≤ (pc : Int) + o) (hp : ((pc : Int) + o).toNat = pc') (q : EndsW p e below s T (mkF m pc' L S) kc ks Q) : EndsW p e below s T (mkF m pc L (.int y :: .int x :: S)) kc ks Q := EndsW.go (fun _ k => XS.icmpYes X.here hx rfl rfl (hb hby hd) rfl hc ho hp k) q
theorem wcnW {kc ks : Nat} {Q : Option Value → Heap → List Loc → Prop} {pc : Nat} {L : Array Slot} {S : List Value} {B : ByteArray} {cd : ClassFile.Cond} {x y : Int32} {o : Int} {s' : State} (X : Stand p l e R s' m args below meth c T locs cells slots) (hx : p.tables.exec = Jvm.exec) (hby : c.code = B) (hd : decode B pc = .ok (.if_icmp cd o, 3)) (hc : if_icmp.holds cd x y = false) (q : EndsW p e below s T (mkF m (pc + 3) L S) kc ks Q) : EndsW p e below s T (mkF m pc L (.int y :: .int x :: S)) kc ks Q := EndsW.go (fun _ k => XS.icmpNo X.here hx rfl (hb hby hd) rfl hc k) q
theorem wiyW {kc ks : Nat} {Q : Option Value → Heap → List Loc → Prop} {pc : Nat} {L : Array Slot} {S : List Value} {B : ByteArray} {cd : ClassFile.Cond} {x : Int32} {o : Int} {pc' : Nat} {s' : State} (X : Stand p l e R s' m args below meth c T locs cells slots) (hx : p.tables.exec = Jvm.exec) (hby : c.code = B) (hd : decode B pc = .ok (.ifCond cd o, 3)) (hc : ifCond.holds cd x = true) (ho : 0 ≤ (pc : Int) + o) (hp : ((pc : Int) + o).toNat = pc') (q : EndsW p e below s T (mkF m pc' L S) kc ks Q) : EndsW p e below s T (mkF m pc L (.int x :: S)) kc ks Q := EndsW.go (fun _ k => XS.ifYes X.here hx rfl rfl (hb hby hd) rfl hc ho hp k) q
theorem winW {kc ks : Nat} {Q : Option Value → Heap → List Loc → Prop} {pc : Nat} {L : Array Slot} {S : List Value} {B : ByteArray} {cd : ClassFile.Cond} {x : Int32} {o : Int} {s' : State} (X : Stand p l e R s' m args below meth c T locs cells slots) (hx : p.tables.exec = Jvm.exec) (hby : c.code = B) (hd : decode B pc = .ok (.ifCond cd o, 3)) (hc : ifCond.holds cd x = false) (q : EndsW p e below s T (mkF m (pc + 3) L S) kc ks Q) : EndsW p e below s T (mkF m pc L (.int x :: S)) kc ks Q := EndsW.go (fun _ k => XS.ifNo X.here hx rfl (hb hby hd) rfl hc k) q
theorem wanW {kc ks : Nat} {Q : Option Value → Heap → List Loc → Prop} {pc : Nat} {L : Array Slot} {S : List Value} {B : ByteArray} {x y : Int32} {s' : State} (X : Stand p l e R s' m args below meth c T locs cells slots) (hx : p.tables.exec = Jvm.exec) (hby : c.code = B) (hd : decode B pc = .ok (.iand, 1)) (q : EndsW p e below s T (mkF m (pc + 1) L (.int (x &&& y) :: S)) kc ks Q) : EndsW p e below s T (mkF m pc L (.int y :: .int x :: S)) kc ks Q := EndsW.go (fun _ k => XS.iand X.here hx rfl (hb hby hd) rfl k) q
theorem wduW {kc ks : Nat} {Q : Option Value → Heap → List Loc → Prop} {pc : Nat} {L : Array Slot} {S : List Value} {B : ByteArray} {x : Value} {s' : State} (X : Stand p l e R s' m args below meth c T locs cells slots) (hx : p.tables.exec = Jvm.exec) (hby : c.code = B) (hd : decode B pc = .ok (.dup, 1)) (hv : x.category = 1) (q : EndsW p e below s T (mkF m (pc + 1) L (x :: x :: S)) kc ks Q) : EndsW p e below s T (mkF m pc L (x :: S)) kc ks Q := EndsW.go (fun _ k => XS.dup X.here hx rfl (hb hby hd) rfl hv k) q
end OwnEndsW
/-- a body that may load String constants; I: it asks that none has been interned since Z -/
abbrev Meets1W (l : Launch) (y : MethodName) (bytes : ByteArray) (ml : Nat) (rt : Option FieldType) (ws : List Jvm.Cond) (rm : Room) (av : Array Value) (Z : State) (h0 : Heap) (I : Bool) (Q : Option Value → Heap → List Loc → Prop) : Prop :=
 MetFree l y (head1 (Jvm.Cond.code y bytes ml rt :: ws) rm) (fun a U => a = av ∧ Z.Warmed39 U.vm ∧ U.heap = h0 ∧ (I = true → U.vm.interned = Z.vm.interned)) (fun _ _ _ _ _ => True) (fun _ U o U' => ∃ v L, o = .returned v ∧ Q v U'.heap L ∧ ReturnedEndW U o U' L rm.cells rm.slots)
theorem own_backOfS {p : Program} {l : Launch} {e : Env} {R : Room} {s : State} {args : Array Value} {below : List Frame} {Z : State} {a0 : Array Value} {h : Heap} {y : MethodName} {bytes : ByteArray} {maxL : Nat} {ret : Option FieldType} {rm : Room} {len W : Nat} {as' : Array Value} {I : Bool} {Q : Option Value → Heap → List Loc → Prop}
  (hM : Meets1W l y bytes maxL ret [] rm as' Z h I Q) (hZ : Z.Warmed39 s.vm) (wc : (Jvm.Cond.code y bytes maxL ret).before a0 Z = true) (wz : (Jvm.Cond.initialized y.cls).before a0 Z = true) (hf : rm.frames + 1 ≤ R.frames) (hl : W + (maxL + 11) + rm.locals ≤ R.locals) (hI : I = true → s.vm.interned = Z.vm.interned) :
  BackS l R p e below s args y len W (fun A a => a = as' ∧ A.U.heap = h ∧ A.cells + rm.cells ≤ R.cells ∧ A.slots + rm.slots ≤ R.slots)
   (fun A _ v B => ∃ L, Q v B.U.heap L ∧ B.locs = A.locs ++ L ∧ B.cells = A.cells + rm.cells ∧ B.slots = A.slots + rm.slots) :=
 BackS.of_freeW (bytes := bytes) (maxL := maxL) (ret := ret) (E := fun _ _ o t L k n => k = rm.cells ∧ n = rm.slots ∧ ∃ v, o = .returned v ∧ Q v t.heap L) hM hf hl
  (fun m meth c A a Y hp => have hU : Z.Warmed39 A.U.vm := wtrans hZ Y.warmed
   ⟨by show (Cond.and _ .tt).before a A.U = true; rw [Cond.before_and, mv hU wc]; rfl, mv hU wc, mv hU wz, hp.2.2.1, hp.2.2.2⟩)
  (fun m meth c A a g mk Y hp => ⟨hp.1, wtrans hZ Y.warmed, hp.2.1, fun i => (Y.warmed.interned_eq).trans (hI i)⟩) (fun _ _ _ _ _ _ _ _ _ => trivial)
  (fun _ _ _ _ ⟨v, L, h1, h2, h3⟩ => ⟨L, _, _, h3, rfl, rfl, v, h1, h2⟩)
  (fun m meth c A a g mk v t L k n Y hp _ _ ⟨e1, e2, v', e3, e4⟩ => by cases e3; subst e1 e2; exact ⟨L, e4, rfl, rfl, rfl⟩)
theorem own_eqI {args : Array Value} {s : State} {t : Term} {k : Int32} (h : (Jvm.Cond.eq t (.int k)).value args s none s [] = some true) : t.eval args s none [] s = some (.int k) := by
 cases ht : t.eval args s none [] s with
 | none => simp [Cond.value, ht] at h
 | some x => cases x <;> simp_all [Cond.value, Term.eval]
theorem own_eqR {args : Array Value} {s : State} {t u : Term} {a : Addr} (ev : u.eval args s none [] s = some (.ref a)) (h : (Jvm.Cond.eq t u).value args s none s [] = some true) : t.eval args s none [] s = some (.ref a) := by
 cases ht : t.eval args s none [] s with
 | none => simp [Cond.value, ht] at h
 | some x => cases x <;> simp_all [Cond.value]
theorem own_atoms {Z : State} {a0 : Array Value} (hw : ∀ d ∈ tables_1, d.before a0 Z = true) : ∀ a ∈ Bundle.stringAtoms, a.before a0 Z = true := by
 intro a ha
 simp only [Bundle.stringAtoms, List.mem_cons, List.not_mem_nil, or_false] at ha
 rcases ha with rfl | rfl | rfl | rfl | rfl | rfl | rfl
 ·exact ow hw 19 rfl
 ·exact ow hw 20 rfl
 ·exact ow hw 21 rfl
 ·exact ow hw 22 rfl
 ·exact ow hw 23 rfl
 ·exact ow hw 24 rfl
 ·exact ow hw 25 rfl
theorem own_narb {r : Int32} : nar .byte (r.toInt8.toInt32) = r.toInt8.toInt32 := by
 have a1 := c_i2b r
 have a2 := c_i2b r.toInt8.toInt32
 exact Int32.toInt_inj.mp (by show r.toInt8.toInt32.toInt8.toInt32.toInt = r.toInt8.toInt32.toInt; omega)
theorem own_narcc {y : Int32} : nar .char (y.toUInt32.toUInt16.toUInt32.toInt32) = y.toUInt32.toUInt16.toUInt32.toInt32 := by
 have a1 := c_i2c y
 have a2 := c_i2c y.toUInt32.toUInt16.toUInt32.toInt32
 exact Int32.toInt_inj.mp (by show y.toUInt32.toUInt16.toUInt32.toInt32.toUInt32.toUInt16.toUInt32.toInt32.toInt = y.toUInt32.toUInt16.toUInt32.toInt32.toInt; omega)
def own_dig (d : Int32) : Prop := 48 ≤ d.toInt ∧ d.toInt ≤ 57
theorem own_digp (p : Int32) : own_dig (((48 : Int32) + ((p &&& (2147483647 : Int32)) % (10 : Int32))).toUInt32.toUInt16.toUInt32.toInt32) := by
 have h1 := c_and p 2147483647 (by decide)
 have h2 := (c_irem (p &&& 2147483647) 10 10 (by decide)).1 h1.1
 generalize (p &&& 2147483647) % 10 = r at *
 have h3 := c_iadd 48 r
 have e48 : (48 : Int32).toInt = 48 := by decide
 generalize (48 : Int32) + r = w at *
 have r3 := rng32 w
 have h4 := c_i2c w
 unfold own_dig
 generalize w.toUInt32.toUInt16.toUInt32.toInt32 = z at *
 omega
theorem own_dlo {d : Int32} (h : own_dig d) : ¬ d < 48 := fun q => by
 have q' : d.toInt < 48 := Int32.lt_iff_toInt_lt.mp q
 have := h.1
 omega
theorem own_dhi {d : Int32} (h : own_dig d) : ¬ (57 : Int32) < d := fun q => by
 have q' : 57 < d.toInt := Int32.lt_iff_toInt_lt.mp q
 have := h.2
 omega
theorem own_d255 {d : Int32} (h : own_dig d) : ¬ (255 : Int32) < d := fun q => by
 have q' : 255 < d.toInt := Int32.lt_iff_toInt_lt.mp q
 have := h.2
 omega
theorem own_dne {d k : Int32} (h : own_dig d) (hk : k.toInt < 48 ∨ 57 < k.toInt) : ¬ d = k := fun q => by
 subst q
 have := h.1
 have := h.2
 omega
theorem own_ush8 {d : Int32} (h : 0 ≤ d.toInt ∧ d.toInt < 256) : (d.toUInt32 >>> ((8 : Int32) &&& 31).toUInt32).toInt32 = 0 := by
 have h1 := c_iushr d 8 8 (by decide) (by decide)
 exact Int32.toInt_inj.mp (by rw [h1]; show _ = (0 : Int); omega)
theorem own_dush {d : Int32} (h : own_dig d) : (d.toUInt32 >>> ((8 : Int32) &&& 31).toUInt32).toInt32 = 0 := own_ush8 ⟨by have := h.1; omega, by have := h.2; omega⟩
theorem own_brng (x : Int32) : 0 ≤ ((x &&& (255 : Int32)).toUInt32.toUInt16.toUInt32.toInt32).toInt ∧ ((x &&& (255 : Int32)).toUInt32.toUInt16.toUInt32.toInt32).toInt < 256 := by
 have h1 : 0 ≤ (x &&& (255 : Int32)).toInt ∧ (x &&& (255 : Int32)).toInt ≤ 255 := c_and x 255 (by decide)
 have h2 := c_i2c (x &&& (255 : Int32))
 omega
theorem own_b255 (x : Int32) : ¬ (255 : Int32) < ((x &&& (255 : Int32)).toUInt32.toUInt16.toUInt32.toInt32) := fun q => by
 have q' : 255 < ((x &&& (255 : Int32)).toUInt32.toUInt16.toUInt32.toInt32).toInt := Int32.lt_iff_toInt_lt.mp q
 have := own_brng x
 omega
theorem own_bush (x : Int32) : ((((x &&& (255 : Int32)).toUInt32.toUInt16.toUInt32.toInt32)).toUInt32 >>> ((8 : Int32) &&& 31).toUInt32).toInt32 = 0 := own_ush8 (own_brng x)
theorem own_l1d {c : Int32} (h : own_dig c) : nar .char (((c.toInt8.toInt32) &&& (255 : Int32)).toUInt32.toUInt16.toUInt32.toInt32) = c := by
 have h1 := h.1
 have h2 := h.2
 have b1 := c_i2b c
 generalize c.toInt8.toInt32 = u1 at *
 have d1 : (u1 &&& (255 : Int32)).toInt = u1.toInt % ((2 ^ 8 : Nat) : Int) := c_mask u1 255 8 (by decide) (by decide)
 generalize u1 &&& (255 : Int32) = u2 at *
 have g1 := c_i2c u2
 generalize u2.toUInt32.toUInt16.toUInt32.toInt32 = w1 at *
 have g2 := c_i2c w1
 exact Int32.toInt_inj.mp (by show w1.toUInt32.toUInt16.toUInt32.toInt32.toInt = c.toInt; omega)
theorem own_m3 (p0 i : Int32) (h : ((p0 &&& (2147483647 : Int32)) % (3 : Int32)) = i) : i = 0 ∨ i = 1 ∨ i = 2 := by
 have h1 := c_and p0 2147483647 (by decide)
 have h2 := (c_irem (p0 &&& 2147483647) 3 3 (by decide)).1 h1.1
 rw [h] at h2
 have h3 : i.toInt = 0 ∨ i.toInt = 1 ∨ i.toInt = 2 := by omega
 rcases h3 with q | q | q
 ·exact Or.inl (Int32.toInt_inj.mp q)
 ·exact Or.inr (Or.inl (Int32.toInt_inj.mp q))
 ·exact Or.inr (Or.inr (Int32.toInt_inj.mp q))
def GlobF (Z : State) (a0 : Array Value) (G1 : Int32) (G3 : Value) (w_NULL : Addr) (w_NUMBER : Addr) (w_NULL2 : Addr) (w_STRING : Addr) : Prop := Sta Z Z.heap "java/lang/String" "COMPACT_STRINGS" "Z" (.int G1) ∧ ¬ G1 = (0 : Int32) ∧ Sta Z Z.heap "jdk/internal/util/Preconditions" "SIOOBE_FORMATTER" "Ljava/util/function/BiFunction;" G3 ∧ G3.isRef = true ∧ Jvm.Lit.constHeld Z "java/lang/String" 7 ∧ Jvm.Lit.compactW.before a0 Z = true ∧
 Sta Z Z.heap "com/example/wakeline/wakeline/event/Value$Kind" "NULL" "Lcom/example/wakeline/wakeline/event/Value$Kind;" (.ref w_NULL) ∧
 Exa Z Z.heap w_NULL "com/example/wakeline/wakeline/event/Value$Kind" ∧
 Sta Z Z.heap "com/example/wakeline/wakeline/event/Value$Kind" "NUMBER" "Lcom/example/wakeline/wakeline/event/Value$Kind;" (.ref w_NUMBER) ∧
 Exa Z Z.heap w_NUMBER "com/example/wakeline/wakeline/event/Value$Kind" ∧
 Fld Z Z.heap w_NULL "java/lang/Enum" "ordinal" "I" (.int 0) ∧
 Fld Z Z.heap w_NUMBER "java/lang/Enum" "ordinal" "I" (.int 1) ∧
 Sta Z Z.heap "com/example/wakeline/wakeline/event/Value" "NULL" "Lcom/example/wakeline/wakeline/event/Value;" (.ref w_NULL2) ∧
 Exa Z Z.heap w_NULL2 "com/example/wakeline/wakeline/event/Value" ∧
 Fld Z Z.heap w_NULL2 "com/example/wakeline/wakeline/event/Value" "kind" "Lcom/example/wakeline/wakeline/event/Value$Kind;" (.ref w_NULL) ∧
 Sta Z Z.heap "com/example/wakeline/wakeline/event/Value$Kind" "STRING" "Lcom/example/wakeline/wakeline/event/Value$Kind;" (.ref w_STRING) ∧
 Exa Z Z.heap w_STRING "com/example/wakeline/wakeline/event/Value$Kind" ∧
 Fld Z Z.heap w_STRING "java/lang/Enum" "ordinal" "I" (.int 2)
theorem dqn21_0 : decode jdk_41_method_11_code 0 = .ok (.iload_n 0, 1) := by decide +kernel
theorem dqn21_1 : decode jdk_41_method_11_code 1 = .ok (.ifCond .lt 8, 3) := by decide +kernel
theorem dqn21_4 : decode jdk_41_method_11_code 4 = .ok (.iload_n 0, 1) := by decide +kernel
theorem dqn21_5 : decode jdk_41_method_11_code 5 = .ok (.iload_n 1, 1) := by decide +kernel
theorem dqn21_6 : decode jdk_41_method_11_code 6 = .ok (.if_icmp .lt 10, 3) := by decide +kernel
theorem dqn21_16 : decode jdk_41_method_11_code 16 = .ok (.iload_n 0, 1) := by decide +kernel
theorem dqn21_17 : decode jdk_41_method_11_code 17 = .ok (.ireturn, 1) := by decide +kernel
theorem pnqn21 : plainName "jdk/internal/util/Preconditions" = true := by first | (simp [plainName, overriddenIn]; done) | decide +kernel
theorem efqn21 (m : MethodId) (p0 : Int32) (p1 : Int32) : entryFrame m #[(.int p0), (.int p1), .null] 3 = mkF m 0 #[.val (.int p0), .val (.int p1), .val .null] [] := by first | (simp [entryFrame, mkF, argsToLocals, Value.category]; done) | rfl
set_option maxRecDepth 65536 in
set_option maxHeartbeats 40000000 in
theorem rm_pci_n (l : Launch) (Z : State) (a0 : Array Value) (hw : ∀ d ∈ tables_1, d.before a0 Z = true) (ws : List Jvm.Cond) (n0 : Nat) (h0 : Heap) (O0 : Old Z n0 h0) (p0 : Int32) (p1 : Int32) (ha : ¬ p0 < 0) (hb' : p0 < p1) :
  Meets1 l ym0 jdk_41_method_11_code 3 (some .int) ws ({ frames := 0, cells := 0, slots := 0, locals := 0 } : Room) #[(.int p0), (.int p1), .null] Z h0 (fun v h L => v = some (.int p0) ∧ Fr n0 L ∧ h = h0) := by
 refine MetFree.of_bodySF (plainFor_of_name pnqn21) hisR ?_
 intro p e s m args below meth c s₁ Bd hml0 hP hK
 obtain ⟨rfl, hZ, hh⟩ := hP
 have hx := Bd.exec
 have hby := Bd.bytes
 have hml : c.maxLocals = 3 := hml0
 have hown : s.vm.findClass "jdk/internal/util/Preconditions" = some m.cls := findClass_of_methodNamed Bd.named
 have hnm := (name_of_methodNamed Bd.named Bd.method).1
 have X0 : Stand p l e ({ frames := 0, cells := 0, slots := 0, locals := 0 } : Room) s m #[(.int p0), (.int p1), .null] below meth c s₁ [] 0 0 := Stand.of_body Bd
 have e0 : s₁.heap = h0 := by rw [← hh, Bd.state]; rfl
 have N0 := Fr.nil n0
 have Z0 := own_old_le O0
 show Ends _ _ _ _ s₁ (entryFrame m #[(.int p0), (.int p1), .null] 3) ({ frames := 0, cells := 0, slots := 0, locals := 0 } : Room).cells ({ frames := 0, cells := 0, slots := 0, locals := 0 } : Room).slots (fun v h L => v = some (.int p0) ∧ Fr n0 L ∧ h = h0)
 refine Ends.go (fun _ k => castTop (efqn21 m p0 p1) k) ?_
 have K0 := Keep.refl h0 []
 refine wilN X0 hx hby dqn21_0 rfl ?_
 refine win X0 hx hby dqn21_1 ((if0 _ _).trans (flt (ha : ¬ (p0 < (0 : Int32)))).1) ?_
 refine wilN X0 hx hby dqn21_4 rfl ?_
 show Ends _ _ _ _ s₁ (mkF m 5 #[ci p0, ci p1, .val .null] [(.int p0)]) _ _ _
 refine wilN X0 hx hby dqn21_5 rfl ?_
 refine wcy (pc := 6) (pc' := 16) X0 hx hby dqn21_6 (tlt (hb' : p0 < p1)).1 (by decide) (by decide) ?_
 refine wilN X0 hx hby dqn21_16 rfl ?_
 refine Ends.ret X0 hx Bd.notSynchronized (t := .int) Bd.returns rfl (Or.inl ⟨rfl, by simp, _, rfl⟩) (hb hby dqn21_17) (by decide) (by decide) ?_
 exact ⟨rfl, N0, e0⟩
theorem dqr21_0 : decode jdk_41_method_11_code 0 = .ok (.iload_n 0, 1) := by decide +kernel
theorem dqr21_1 : decode jdk_41_method_11_code 1 = .ok (.ifCond .lt 8, 3) := by decide +kernel
theorem dqr21_4 : decode jdk_41_method_11_code 4 = .ok (.iload_n 0, 1) := by decide +kernel
theorem dqr21_5 : decode jdk_41_method_11_code 5 = .ok (.iload_n 1, 1) := by decide +kernel
theorem dqr21_6 : decode jdk_41_method_11_code 6 = .ok (.if_icmp .lt 10, 3) := by decide +kernel
theorem dqr21_16 : decode jdk_41_method_11_code 16 = .ok (.iload_n 0, 1) := by decide +kernel
theorem dqr21_17 : decode jdk_41_method_11_code 17 = .ok (.ireturn, 1) := by decide +kernel
theorem pnqr21 : plainName "jdk/internal/util/Preconditions" = true := by first | (simp [plainName, overriddenIn]; done) | decide +kernel
theorem efqr21 (m : MethodId) (p0 : Int32) (p1 : Int32) (o2 : Addr) : entryFrame m #[(.int p0), (.int p1), (.ref o2)] 3 = mkF m 0 #[.val (.int p0), .val (.int p1), .val (.ref o2)] [] := by first | (simp [entryFrame, mkF, argsToLocals, Value.category]; done) | rfl
set_option maxRecDepth 65536 in
set_option maxHeartbeats 40000000 in
theorem rm_pci_r (l : Launch) (Z : State) (a0 : Array Value) (hw : ∀ d ∈ tables_1, d.before a0 Z = true) (ws : List Jvm.Cond) (n0 : Nat) (h0 : Heap) (O0 : Old Z n0 h0) (p0 : Int32) (p1 : Int32) (o2 : Addr) (ha : ¬ p0 < 0) (hb' : p0 < p1) :
  Meets1 l ym0 jdk_41_method_11_code 3 (some .int) ws ({ frames := 0, cells := 0, slots := 0, locals := 0 } : Room) #[(.int p0), (.int p1), (.ref o2)] Z h0 (fun v h L => v = some (.int p0) ∧ Fr n0 L ∧ h = h0) := by
 refine MetFree.of_bodySF (plainFor_of_name pnqr21) hisR ?_
 intro p e s m args below meth c s₁ Bd hml0 hP hK
 obtain ⟨rfl, hZ, hh⟩ := hP
 have hx := Bd.exec
 have hby := Bd.bytes
 have hml : c.maxLocals = 3 := hml0
 have hown : s.vm.findClass "jdk/internal/util/Preconditions" = some m.cls := findClass_of_methodNamed Bd.named
 have hnm := (name_of_methodNamed Bd.named Bd.method).1
 have X0 : Stand p l e ({ frames := 0, cells := 0, slots := 0, locals := 0 } : Room) s m #[(.int p0), (.int p1), (.ref o2)] below meth c s₁ [] 0 0 := Stand.of_body Bd
 have e0 : s₁.heap = h0 := by rw [← hh, Bd.state]; rfl
 have N0 := Fr.nil n0
 have Z0 := own_old_le O0
 show Ends _ _ _ _ s₁ (entryFrame m #[(.int p0), (.int p1), (.ref o2)] 3) ({ frames := 0, cells := 0, slots := 0, locals := 0 } : Room).cells ({ frames := 0, cells := 0, slots := 0, locals := 0 } : Room).slots (fun v h L => v = some (.int p0) ∧ Fr n0 L ∧ h = h0)
 refine Ends.go (fun _ k => castTop (efqr21 m p0 p1 o2) k) ?_
 have K0 := Keep.refl h0 []
 refine wilN X0 hx hby dqr21_0 rfl ?_
 refine win X0 hx hby dqr21_1 ((if0 _ _).trans (flt (ha : ¬ (p0 < (0 : Int32)))).1) ?_
 refine wilN X0 hx hby dqr21_4 rfl ?_
 show Ends _ _ _ _ s₁ (mkF m 5 #[ci p0, ci p1, cr o2] [(.int p0)]) _ _ _
 refine wilN X0 hx hby dqr21_5 rfl ?_
 refine wcy (pc := 6) (pc' := 16) X0 hx hby dqr21_6 (tlt (hb' : p0 < p1)).1 (by decide) (by decide) ?_
 refine wilN X0 hx hby dqr21_16 rfl ?_
 refine Ends.ret X0 hx Bd.notSynchronized (t := .int) Bd.returns rfl (Or.inl ⟨rfl, by simp, _, rfl⟩) (hb hby dqr21_17) (by decide) (by decide) ?_
 exact ⟨rfl, N0, e0⟩
theorem dq20_0 : decode jdk_42_method_155_code 0 = .ok (.iload_n 0, 1) := by decide +kernel
theorem dq20_1 : decode jdk_42_method_155_code 1 = .ok (.iload_n 1, 1) := by decide +kernel
theorem dq20_2 : decode jdk_42_method_155_code 2 = .ok (.getstatic 1053, 3) := by decide +kernel
theorem dq20_5 : decode jdk_42_method_155_code 5 = .ok (.invokestatic 1059, 3) := by decide +kernel
theorem dq20_8 : decode jdk_42_method_155_code 8 = .ok (.pop, 1) := by decide +kernel
theorem dq20_9 : decode jdk_42_method_155_code 9 = .ok (.return_, 1) := by decide +kernel
theorem pnq20 : plainName "java/lang/String" = true := by first | (simp [plainName, overriddenIn]; done) | decide +kernel
theorem pdq20_0 : parseMethodDescriptor "(IILjava/util/function/BiFunction;)I" = some ⟨[.int, .int, (.object "java/util/function/BiFunction")], some .int⟩ := by decide +kernel
theorem efq20 (m : MethodId) (p0 : Int32) (p1 : Int32) : entryFrame m #[(.int p0), (.int p1)] 2 = mkF m 0 #[.val (.int p0), .val (.int p1)] [] := by first | (simp [entryFrame, mkF, argsToLocals, Value.category]; done) | rfl
set_option maxRecDepth 65536 in
set_option maxHeartbeats 40000000 in
theorem rm_ci (l : Launch) (Z : State) (a0 : Array Value) (hw : ∀ d ∈ tables_1, d.before a0 Z = true) (ws : List Jvm.Cond) (n0 : Nat) (h0 : Heap) (O0 : Old Z n0 h0) (p0 : Int32) (p1 : Int32) (G1 : Int32) (G3 : Value) (w_NULL : Addr) (w_NUMBER : Addr) (w_NULL2 : Addr) (w_STRING : Addr) (GF : GlobF Z a0 G1 G3 w_NULL w_NUMBER w_NULL2 w_STRING) (ha : ¬ p0 < 0) (hb' : p0 < p1) :
  Meets1 l ym1 jdk_42_method_155_code 2 none ws ({ frames := 1, cells := 0, slots := 0, locals := 14 } : Room) #[(.int p0), (.int p1)] Z h0 (fun v h L => v = none ∧ Fr n0 L ∧ h = h0) := by
 refine MetFree.of_bodySF (plainFor_of_name pnq20) hisR ?_
 intro p e s m args below meth c s₁ Bd hml0 hP hK
 obtain ⟨rfl, hZ, hh⟩ := hP
 have hx := Bd.exec
 have hby := Bd.bytes
 have hml : c.maxLocals = 2 := hml0
 have hown : s.vm.findClass "java/lang/String" = some m.cls := findClass_of_methodNamed Bd.named
 have hnm := (name_of_methodNamed Bd.named Bd.method).1
 have X0 : Stand p l e ({ frames := 1, cells := 0, slots := 0, locals := 14 } : Room) s m #[(.int p0), (.int p1)] below meth c s₁ [] 0 0 := Stand.of_body Bd
 have e0 : s₁.heap = h0 := by rw [← hh, Bd.state]; rfl
 have N0 := Fr.nil n0
 have Z0 := own_old_le O0
 show Ends _ _ _ _ s₁ (entryFrame m #[(.int p0), (.int p1)] 2) ({ frames := 1, cells := 0, slots := 0, locals := 14 } : Room).cells ({ frames := 1, cells := 0, slots := 0, locals := 14 } : Room).slots (fun v h L => v = none ∧ Fr n0 L ∧ h = h0)
 refine Ends.go (fun _ k => castTop (efq20 m p0 p1) k) ?_
 have K0 := Keep.refl h0 []
 obtain ⟨SCS, P5, SSF, RG3, HCST, HCW, S_NULL, E_NULL, S_NUMBER, E_NUMBER, F_ordinal_NULL, F_ordinal_NUMBER, S_NULL2, E_NULL2, F_kind_NULL2, S_STRING, E_STRING, F_ordinal_STRING⟩ := id GF
 rcases ref_cases RG3 with rfl | ⟨fm, rfl⟩
 ·show Ends _ _ _ _ s₁ (mkF m 0 #[ci p0, ci p1] []) _ _ _
  refine wilN X0 hx hby dq20_0 rfl ?_
  refine wilN X0 hx hby dq20_1 rfl ?_
  obtain ⟨T1, X1, e1, st1⟩ := getS2 X0 hx hZ hown (host := "") (Or.inl (ow hw 111 rfl)) Via.refl e0 (SSF.ext O0.2) (g := (mkF m 2 #[ci p0, ci p1] [(.int p1), (.int p0)])) rfl (hb hby dq20_2)
  refine Ends.go st1 ?_
  show Ends _ _ _ _ T1 (mkF m 5 #[ci p0, ci p1] [.null, (.int p1), (.int p0)]) _ _ _
  obtain ⟨_, _, ⟨T2, L2, k2, n2⟩, -, X2, ⟨Lc2, hQ2, l2, y2, z2⟩, st2⟩ := Jvm.LawKit.callS X1 hx (y := ym0) hown (mvT hZ (ow hw 113 rfl)) (mvT hZ (ow hw 114 rfl)) (mvT hZ (ow hw 112 rfl)) (mvT hZ (ow hw 115 rfl)) (by decide) (own_backOf (W := 0) (rm_pci_n l Z a0 hw [] n0 h0 O0 p0 p1 ha hb') hZ (ow hw 115 rfl) (ow hw 112 rfl) (by decide) (by decide)) (g := (mkF m 5 #[ci p0, ci p1] [.null, (.int p1), (.int p0)])) rfl (by rw [hml]; rfl) (argsL := [(.int p0), (.int p1), .null]) (rest := []) (lenOf pdq20_0 rfl) rfl (by show 2 * 0 + _ ≤ _; exact Nat.le_of_eq rfl) (hb hby dq20_5) (fun _ _ => ⟨rfl, e1, (by decide : 0 + 0 ≤ _), (by decide : 0 + 0 ≤ _)⟩)
  dsimp only [Pt.U, Pt.locs, Pt.cells, Pt.slots] at X2 l2 y2 z2 st2 hQ2
  subst l2 y2 z2
  obtain ⟨rfl, N2q, e2q⟩ := hQ2
  have N2 := Fr.app N0 N2q
  refine Ends.go st2 ?_
  refine .go (fun _ => XS.pop X2.here hx rfl (hb hby dq20_8) rfl rfl) ?_
  refine Ends.retV X2 hx Bd.notSynchronized Bd.returns (hb hby dq20_9) (by decide) (by decide) ?_
  exact ⟨rfl, N2, e2q⟩
 ·show Ends _ _ _ _ s₁ (mkF m 0 #[ci p0, ci p1] []) _ _ _
  refine wilN X0 hx hby dq20_0 rfl ?_
  show Ends _ _ _ _ s₁ (mkF m 1 #[ci p0, ci p1] [(.int p0)]) _ _ _
  refine wilN X0 hx hby dq20_1 rfl ?_
  obtain ⟨T3, X3, e3, st3⟩ := getS2 X0 hx hZ hown (host := "") (Or.inl (ow hw 111 rfl)) Via.refl e0 (SSF.ext O0.2) (g := (mkF m 2 #[ci p0, ci p1] [(.int p1), (.int p0)])) rfl (hb hby dq20_2)
  refine Ends.go st3 ?_
  obtain ⟨_, _, ⟨T4, L4, k4, n4⟩, -, X4, ⟨Lc4, hQ4, l4, y4, z4⟩, st4⟩ := Jvm.LawKit.callS X3 hx (y := ym0) hown (mvT hZ (ow hw 113 rfl)) (mvT hZ (ow hw 114 rfl)) (mvT hZ (ow hw 112 rfl)) (mvT hZ (ow hw 115 rfl)) (by decide) (own_backOf (W := 0) (rm_pci_r l Z a0 hw [] n0 h0 O0 p0 p1 fm ha hb') hZ (ow hw 115 rfl) (ow hw 112 rfl) (by decide) (by decide)) (g := (mkF m 5 #[ci p0, ci p1] [(.ref fm), (.int p1), (.int p0)])) rfl (by rw [hml]; rfl) (argsL := [(.int p0), (.int p1), (.ref fm)]) (rest := []) (lenOf pdq20_0 rfl) rfl (by show 2 * 0 + _ ≤ _; exact Nat.le_of_eq rfl) (hb hby dq20_5) (fun _ _ => ⟨rfl, e3, (by decide : 0 + 0 ≤ _), (by decide : 0 + 0 ≤ _)⟩)
  dsimp only [Pt.U, Pt.locs, Pt.cells, Pt.slots] at X4 l4 y4 z4 st4 hQ4
  subst l4 y4 z4
  obtain ⟨rfl, N4q, e4q⟩ := hQ4
  have N4 := Fr.app N0 N4q
  refine Ends.go st4 ?_
  refine .go (fun _ => XS.pop X4.here hx rfl (hb hby dq20_8) rfl rfl) ?_
  show Ends _ _ _ _ T4 (mkF m 9 #[ci p0, ci p1] []) _ _ _
  refine Ends.retV X4 hx Bd.notSynchronized Bd.returns (hb hby dq20_9) (by decide) (by decide) ?_
  exact ⟨rfl, N4, e4q⟩
theorem d2_0 : decode jdk_30_method_1_code 0 = .ok (.aload_n 0, 1) := by decide +kernel
theorem d2_1 : decode jdk_30_method_1_code 1 = .ok (.invokespecial 1, 3) := by decide +kernel
theorem d2_4 : decode jdk_30_method_1_code 4 = .ok (.return_, 1) := by decide +kernel
theorem pn2 : plainName "java/lang/Record" = true := by first | (simp [plainName, overriddenIn]; done) | decide +kernel
theorem ef2_r (m : MethodId) (x0 : Addr) : entryFrame m #[(.ref x0)] 1 = mkF m 0 #[.val (.ref x0)] [] := by first | (simp [entryFrame, mkF, argsToLocals, Value.category]; done) | rfl
set_option maxRecDepth 65536 in
set_option maxHeartbeats 40000000 in
theorem rx2_5 (l : Launch) (Z : State) (a0 : Array Value) (hw : ∀ d ∈ tables_1, d.before a0 Z = true) (ws : List Jvm.Cond) (n0 : Nat) (h0 : Heap) (O0 : Old Z n0 h0)  (b3 : Addr)  :
  Meets1 l ym2 jdk_30_method_1_code 1 none ws ({ frames := 1, cells := 0, slots := 0, locals := 12 } : Room) #[(.ref b3)] Z h0 (fun v h L => v = none ∧ Fr n0 L ∧ Keep h0 h []) := by
 refine MetFree.of_bodySF (plainFor_of_name pn2) hisR ?_
 intro p e s m args below meth c s₁ Bd hml0 hP hK
 obtain ⟨rfl, hZ, hh⟩ := hP
 have hx := Bd.exec
 have hby := Bd.bytes
 have hml : c.maxLocals = 1 := hml0
 have hown : s.vm.findClass "java/lang/Record" = some m.cls := findClass_of_methodNamed Bd.named
 have hnm := (name_of_methodNamed Bd.named Bd.method).1
 have X0 : Stand p l e ({ frames := 1, cells := 0, slots := 0, locals := 12 } : Room) s m #[(.ref b3)] below meth c s₁ [] 0 0 := Stand.of_body Bd
 have e0 : s₁.heap = h0 := by rw [← hh, Bd.state]; rfl
 have N0 := Fr.nil n0
 have Z0 := own_old_le O0
 show Ends _ _ _ _ s₁ (entryFrame m #[(.ref b3)] 1) ({ frames := 1, cells := 0, slots := 0, locals := 12 } : Room).cells ({ frames := 1, cells := 0, slots := 0, locals := 12 } : Room).slots (fun v h L => v = none ∧ Fr n0 L ∧ Keep h0 h [])
 refine Ends.go (fun _ k => castTop (ef2_r m b3) k) ?_
 have K0 := Keep.refl h0 []
 show Ends _ _ _ _ s₁ (mkF m 0 #[cr b3] []) _ _ _
 refine walN X0 hx hby d2_0 rfl rfl ?_
 obtain ⟨T6, X6, e6, st6⟩ := initO X0 hx hZ hown (ow hw 15 rfl) (ow hw 16 rfl) (ow hw 17 rfl) e0 (g := (mkF m 1 #[cr b3] [(.ref b3)])) rfl (by rw [hml]; rfl) rfl (hb hby d2_1) (by decide) (W := 0) (by show 2 * 0 + _ ≤ _; exact Nat.le_of_eq rfl) (by decide)
 refine Ends.go st6 ?_
 refine Ends.retV X6 hx Bd.notSynchronized Bd.returns (hb hby d2_4) (by decide) (by decide) ?_
 rw [e6]
 exact ⟨rfl, N0, K0⟩

theorem d4_0 : decode jdk_31_method_11_code 0 = .ok (.aload_n 0, 1) := by decide +kernel
theorem d4_1 : decode jdk_31_method_11_code 1 = .ok (.ifnonnull 12, 3) := by decide +kernel
theorem d4_13 : decode jdk_31_method_11_code 13 = .ok (.aload_n 0, 1) := by decide +kernel
theorem d4_14 : decode jdk_31_method_11_code 14 = .ok (.areturn, 1) := by decide +kernel
theorem pn4 : plainName "java/util/Objects" = true := by first | (simp [plainName, overriddenIn]; done) | decide +kernel
theorem pdx_0 : parseMethodDescriptor "()V" = some ⟨[], none⟩ := by decide +kernel
theorem ef4_rr (m : MethodId) (x0 : Addr) (x1 : Addr) : entryFrame m #[(.ref x0), (.ref x1)] 2 = mkF m 0 #[.val (.ref x0), .val (.ref x1)] [] := by first | (simp [entryFrame, mkF, argsToLocals, Value.category]; done) | rfl
set_option maxRecDepth 65536 in
set_option maxHeartbeats 40000000 in
theorem rx4_9 (l : Launch) (Z : State) (a0 : Array Value) (hw : ∀ d ∈ tables_1, d.before a0 Z = true) (ws : List Jvm.Cond) (n0 : Nat) (h0 : Heap) (O0 : Old Z n0 h0) (G1 : Int32) (G3 : Value) (w_NULL : Addr) (w_NUMBER : Addr) (w_NULL2 : Addr) (w_STRING : Addr) (GF : GlobF Z a0 G1 G3 w_NULL w_NUMBER w_NULL2 w_STRING) (a8 : Addr)  :
  Meets1 l ym3 jdk_31_method_11_code 2 (some (.object "java/lang/Object")) ws ({ frames := 0, cells := 0, slots := 0, locals := 0 } : Room) #[(.ref w_NULL), (.ref a8)] Z h0 (fun v h L => v = some (.ref w_NULL) ∧ Fr n0 L ∧ Keep h0 h []) := by
 refine MetFree.of_bodySF (plainFor_of_name pn4) hisR ?_
 intro p e s m args below meth c s₁ Bd hml0 hP hK
 obtain ⟨rfl, hZ, hh⟩ := hP
 have hx := Bd.exec
 have hby := Bd.bytes
 have hml : c.maxLocals = 2 := hml0
 have hown : s.vm.findClass "java/util/Objects" = some m.cls := findClass_of_methodNamed Bd.named
 have hnm := (name_of_methodNamed Bd.named Bd.method).1
 have X0 : Stand p l e ({ frames := 0, cells := 0, slots := 0, locals := 0 } : Room) s m #[(.ref w_NULL), (.ref a8)] below meth c s₁ [] 0 0 := Stand.of_body Bd
 have e0 : s₁.heap = h0 := by rw [← hh, Bd.state]; rfl
 have N0 := Fr.nil n0
 have Z0 := own_old_le O0
 show Ends _ _ _ _ s₁ (entryFrame m #[(.ref w_NULL), (.ref a8)] 2) ({ frames := 0, cells := 0, slots := 0, locals := 0 } : Room).cells ({ frames := 0, cells := 0, slots := 0, locals := 0 } : Room).slots (fun v h L => v = some (.ref w_NULL) ∧ Fr n0 L ∧ Keep h0 h [])
 refine Ends.go (fun _ k => castTop (ef4_rr m w_NULL a8) k) ?_
 obtain ⟨SCS, P5, SSF, RG3, HCST, HCW, S_NULL, E_NULL, S_NUMBER, E_NUMBER, F_ordinal_NULL, F_ordinal_NUMBER, S_NULL2, E_NULL2, F_kind_NULL2, S_STRING, E_STRING, F_ordinal_STRING⟩ := id GF
 have K0 := Keep.refl h0 []
 show Ends _ _ _ _ s₁ (mkF m 0 #[cr w_NULL, cr a8] []) _ _ _
 refine walN X0 hx hby d4_0 rfl rfl ?_
 refine .go (fun _ => XS.ifnonnullYes X0.here hx rfl (pc0 := 1) (pc' := 13) rfl (hb hby d4_1) rfl (by decide) (by decide)) ?_
 refine walN X0 hx hby d4_13 rfl rfl ?_
 show Ends _ _ _ _ s₁ (mkF m 14 #[cr w_NULL, cr a8] [(.ref w_NULL)]) _ _ _
 refine Ends.ret X0 hx Bd.notSynchronized (t := (.object "java/lang/Object")) Bd.returns rfl (Or.inr (Or.inr (Or.inr (Or.inr ⟨rfl, rfl, rfl⟩)))) (hb hby d4_14) (by decide) (by decide) ?_
 rw [e0]
 exact ⟨rfl, N0, K0⟩

theorem d1_0 : decode prog_15_method_1_code 0 = .ok (.aload_n 0, 1) := by decide +kernel
theorem d1_1 : decode prog_15_method_1_code 1 = .ok (.invokespecial 1, 3) := by decide +kernel
theorem d1_4 : decode prog_15_method_1_code 4 = .ok (.aload_n 1, 1) := by decide +kernel
theorem d1_5 : decode prog_15_method_1_code 5 = .ok (.ldc 7, 2) := by decide +kernel
theorem d1_7 : decode prog_15_method_1_code 7 = .ok (.invokestatic 9, 3) := by decide +kernel
theorem d1_10 : decode prog_15_method_1_code 10 = .ok (.pop, 1) := by decide +kernel
theorem d1_11 : decode prog_15_method_1_code 11 = .ok (.aload_n 1, 1) := by decide +kernel
theorem d1_12 : decode prog_15_method_1_code 12 = .ok (.getstatic 15, 3) := by decide +kernel
theorem d1_15 : decode prog_15_method_1_code 15 = .ok (.if_acmp .ne 7, 3) := by decide +kernel
theorem d1_18 : decode prog_15_method_1_code 18 = .ok (.iconst 1, 1) := by decide +kernel
theorem d1_19 : decode prog_15_method_1_code 19 = .ok (.goto 4, 3) := by decide +kernel
theorem d1_23 : decode prog_15_method_1_code 23 = .ok (.aload_n 2, 1) := by decide +kernel
theorem d1_24 : decode prog_15_method_1_code 24 = .ok (.ifnonnull 7, 3) := by decide +kernel
theorem d1_27 : decode prog_15_method_1_code 27 = .ok (.iconst 1, 1) := by decide +kernel
theorem d1_28 : decode prog_15_method_1_code 28 = .ok (.goto 4, 3) := by decide +kernel
theorem d1_32 : decode prog_15_method_1_code 32 = .ok (.if_icmp .eq 31, 3) := by decide +kernel
theorem d1_63 : decode prog_15_method_1_code 63 = .ok (.aload_n 1, 1) := by decide +kernel
theorem d1_64 : decode prog_15_method_1_code 64 = .ok (.getstatic 40, 3) := by decide +kernel
theorem d1_67 : decode prog_15_method_1_code 67 = .ok (.if_acmp .ne 24, 3) := by decide +kernel
theorem d1_91 : decode prog_15_method_1_code 91 = .ok (.aload_n 0, 1) := by decide +kernel
theorem d1_92 : decode prog_15_method_1_code 92 = .ok (.aload_n 1, 1) := by decide +kernel
theorem d1_93 : decode prog_15_method_1_code 93 = .ok (.putfield 52, 3) := by decide +kernel
theorem d1_96 : decode prog_15_method_1_code 96 = .ok (.aload_n 0, 1) := by decide +kernel
theorem d1_97 : decode prog_15_method_1_code 97 = .ok (.aload_n 2, 1) := by decide +kernel
theorem d1_98 : decode prog_15_method_1_code 98 = .ok (.putfield 56, 3) := by decide +kernel
theorem d1_101 : decode prog_15_method_1_code 101 = .ok (.return_, 1) := by decide +kernel
theorem pn1 : plainName "com/example/wakeline/wakeline/event/Value" = true := by first | (simp [plainName, overriddenIn]; done) | decide +kernel
theorem pdx_1 : parseMethodDescriptor "(Ljava/lang/Object;Ljava/lang/String;)Ljava/lang/Object;" = some ⟨[(.object "java/lang/Object"), (.object "java/lang/String")], some (.object "java/lang/Object")⟩ := by decide +kernel
theorem ef1_rrn (m : MethodId) (x0 : Addr) (x1 : Addr) : entryFrame m #[(.ref x0), (.ref x1), .null] 3 = mkF m 0 #[.val (.ref x0), .val (.ref x1), .val .null] [] := by first | (simp [entryFrame, mkF, argsToLocals, Value.category]; done) | rfl
set_option maxRecDepth 65536 in
set_option maxHeartbeats 40000000 in
theorem rx1_4 (l : Launch) (Z : State) (a0 : Array Value) (hw : ∀ d ∈ tables_1, d.before a0 Z = true) (ws : List Jvm.Cond) (n0 : Nat) (h0 : Heap) (O0 : Old Z n0 h0) (G1 : Int32) (G3 : Value) (w_NULL : Addr) (w_NUMBER : Addr) (w_NULL2 : Addr) (w_STRING : Addr) (GF : GlobF Z a0 G1 G3 w_NULL w_NUMBER w_NULL2 w_STRING) (b3 : Addr) (PE_b3 : Exa Z h0 b3 "com/example/wakeline/wakeline/event/Value") (PF_b3_kind : Fld Z h0 b3 "com/example/wakeline/wakeline/event/Value" "kind" "Lcom/example/wakeline/wakeline/event/Value$Kind;" .null) (PF_b3_text : Fld Z h0 b3 "com/example/wakeline/wakeline/event/Value" "text" "Ljava/lang/String;" .null) (g_b3 : n0 ≤ b3) :
  Meets1W l ym4 prog_15_method_1_code 3 none ws ({ frames := 2, cells := 2, slots := 20, locals := 24 } : Room) #[(.ref b3), (.ref w_NULL), .null] Z h0 false (fun v h L => v = none ∧ Fr n0 L ∧ Keep h0 h [b3] ∧ Fld Z h b3 "com/example/wakeline/wakeline/event/Value" "kind" "Lcom/example/wakeline/wakeline/event/Value$Kind;" (.ref w_NULL) ∧ Fld Z h b3 "com/example/wakeline/wakeline/event/Value" "text" "Ljava/lang/String;" .null) := by
 refine MetFree.of_bodySF (plainFor_of_name pn1) hisR ?_
 intro p e s m args below meth c s₁ Bd hml0 hP hK
 obtain ⟨rfl, hZ, hh, hI⟩ := hP
 have hx := Bd.exec
 have hby := Bd.bytes
 have hml : c.maxLocals = 3 := hml0
 have hown : s.vm.findClass "com/example/wakeline/wakeline/event/Value" = some m.cls := findClass_of_methodNamed Bd.named
 have hnm := (name_of_methodNamed Bd.named Bd.method).1
 have X0 : Stand p l e ({ frames := 2, cells := 2, slots := 20, locals := 24 } : Room) s m #[(.ref b3), (.ref w_NULL), .null] below meth c s₁ [] 0 0 := Stand.of_body Bd
 have e0 : s₁.heap = h0 := by rw [← hh, Bd.state]; rfl
 have N0 := Fr.nil n0
 have hS0 := own_since0 s
 have hk0 : s.heap.size ≤ h0.size := Nat.le_of_eq (congrArg Array.size hh)
 have Z0 := own_old_le O0
 show EndsW _ _ _ _ s₁ (entryFrame m #[(.ref b3), (.ref w_NULL), .null] 3) ({ frames := 2, cells := 2, slots := 20, locals := 24 } : Room).cells ({ frames := 2, cells := 2, slots := 20, locals := 24 } : Room).slots (fun v h L => v = none ∧ Fr n0 L ∧ Keep h0 h [b3] ∧ Fld Z h b3 "com/example/wakeline/wakeline/event/Value" "kind" "Lcom/example/wakeline/wakeline/event/Value$Kind;" (.ref w_NULL) ∧ Fld Z h b3 "com/example/wakeline/wakeline/event/Value" "text" "Ljava/lang/String;" .null)
 refine EndsW.go (fun _ k => castTop (ef1_rrn m b3 w_NULL) k) ?_
 obtain ⟨SCS, P5, SSF, RG3, HCST, HCW, S_NULL, E_NULL, S_NUMBER, E_NUMBER, F_ordinal_NULL, F_ordinal_NUMBER, S_NULL2, E_NULL2, F_kind_NULL2, S_STRING, E_STRING, F_ordinal_STRING⟩ := id GF
 have K0 := Keep.refl h0 [b3]
 show EndsW _ _ _ _ s₁ (mkF m 0 #[cr b3, cr w_NULL, .val .null] []) _ _ _
 refine walNW X0 hx hby d1_0 rfl rfl ?_
 obtain ⟨_, _, ⟨T7, L7, k7, n7⟩, -, X7, ⟨Lc7, hQ7, l7, y7, z7⟩, st7⟩ := X0.specialBack hx (y := ym2) rfl hown (mvT hZ (ow hw 10 rfl)) (mvT hZ (ow hw 11 rfl)) (mvT hZ (ow hw 14 rfl)) (by decide) (own_backOf (W := 0) (rx2_5 l Z a0 hw [] n0 h0 O0  b3 ) hZ (ow hw 14 rfl) (ow hw 13 rfl) (by decide) (by decide)) (g := (mkF m 1 #[cr b3, cr w_NULL, .val .null] [(.ref b3)])) rfl (by rw [hml]; rfl) (Steps.refl _) (a := b3) (argsL := []) (rest := []) (lenOf pdx_0 rfl) rfl (by show 2 * 0 + _ ≤ _; exact Nat.le_of_eq rfl) (hb hby d1_1) (fun _ _ => ⟨rfl, e0, (by decide : 0 + 0 ≤ _), (by decide : 0 + 0 ≤ _)⟩)
 dsimp only [Pt.U, Pt.locs, Pt.cells, Pt.slots] at X7 l7 y7 z7 st7 hQ7
 subst l7 y7 z7
 obtain ⟨rfl, N7q, K7c⟩ := hQ7
 have N7 := Fr.app N0 N7q
 refine EndsW.go (fun _ k => st7.trans k) ?_
 obtain ⟨h7, e7⟩ : ∃ z, T7.heap = z := ⟨_, rfl⟩
 rw [e7] at K7c
 have K7 := K0.trans K7c all0
 have O7 := O0.keep K7c all0
 refine walNW X7 hx hby d1_4 rfl rfl ?_
 show EndsW _ _ _ _ T7 (mkF m 5 #[cr b3, cr w_NULL, .val .null] [(.ref w_NULL)]) _ _ _
 obtain ⟨a8, T8, h8, k8, X8, e8, E8, hS8, hk8, hZ, hown, st8⟩ := ldcS (s := s) (vm0 := s.vm) X7 hx hZ hown (ow hw 18 rfl) (own_atoms hw) e7 hS0 (Nat.le_trans hk0 K7c.1) (g := (mkF m 5 #[cr b3, cr w_NULL, .val .null] [(.ref w_NULL)])) rfl (hb hby d1_5) (n := 16) (by decide) (by decide) (by decide) (by decide)
 refine EndsW.go st8 ?_
 have K8 := K7.ext E8
 have O8 := O7.ext E8
 obtain ⟨_, _, ⟨T10, L10, k10, n10⟩, -, X10, ⟨Lc10, hQ10, l10, y10, z10⟩, st10⟩ := Jvm.LawKit.callS X8 hx (y := ym3) hown (mvT hZ (ow hw 26 rfl)) (mvT hZ (ow hw 27 rfl)) (mvT hZ (ow hw 28 rfl)) (mvT hZ (ow hw 29 rfl)) (by decide) (own_backOf (W := 0) (rx4_9 l Z a0 hw [] n0 h8 O8 G1 G3 w_NULL w_NUMBER w_NULL2 w_STRING GF a8 ) hZ (ow hw 29 rfl) (ow hw 28 rfl) (by decide) (by decide)) (g := (mkF m 7 #[cr b3, cr w_NULL, .val .null] [(.ref a8), (.ref w_NULL)])) rfl (by rw [hml]; rfl) (argsL := [(.ref w_NULL), (.ref a8)]) (rest := []) (lenOf pdx_1 rfl) rfl (by show 2 * 0 + _ ≤ _; exact Nat.le_of_eq rfl) (hb hby d1_7) (fun _ _ => ⟨rfl, e8, (by decide : 2 + 0 ≤ _), (by decide : 20 + 0 ≤ _)⟩)
 dsimp only [Pt.U, Pt.locs, Pt.cells, Pt.slots] at X10 l10 y10 z10 st10 hQ10
 subst l10 y10 z10
 obtain ⟨rfl, N10q, K10c⟩ := hQ10
 have N10 := Fr.app N7 N10q
 refine EndsW.go st10 ?_
 obtain ⟨h10, e10⟩ : ∃ z, T10.heap = z := ⟨_, rfl⟩
 rw [e10] at K10c
 have K10 := K8.trans K10c all0
 have O10 := O8.keep K10c all0
 refine .go (fun _ => XS.pop X10.here hx rfl (hb hby d1_10) rfl rfl) ?_
 refine walNW X10 hx hby d1_11 rfl rfl ?_
 show EndsW _ _ _ _ T10 (mkF m 12 #[cr b3, cr w_NULL, .val .null] [(.ref w_NULL)]) _ _ _
 obtain ⟨T11, X11, e11, st11⟩ := getS2 X10 hx hZ hown (host := "") (Or.inl (ow hw 30 rfl)) Via.refl e10 (S_NULL.ext O10.2) (g := (mkF m 12 #[cr b3, cr w_NULL, .val .null] [(.ref w_NULL)])) rfl (hb hby d1_12)
 refine EndsW.go st11 ?_
 refine .go (fun _ => Jvm.RoadKit.acmp (g := (mkF m 15 #[cr b3, cr w_NULL, .val .null] [(.ref w_NULL), (.ref w_NULL)])) X11 hx rfl rfl rfl (pc0 := 15) (pc' := 18) (same := true) rfl (hb hby d1_15) rfl (decide_eq_true rfl) (by decide) (by decide)) ?_
 refine wicW X11 hx hby d1_18 ?_
 refine wgoW (pc := 19) (pc' := 23) X11 hx hby d1_19 (by decide) (by decide) ?_
 show EndsW _ _ _ _ T11 (mkF m 23 #[cr b3, cr w_NULL, .val .null] [(.int 1)]) _ _ _
 refine walNW X11 hx hby d1_23 rfl rfl ?_
 refine .go (fun _ => XS.ifnonnullNo X11.here hx rfl (hb hby d1_24) rfl) ?_
 refine wicW X11 hx hby d1_27 ?_
 refine wgoW (pc := 28) (pc' := 32) X11 hx hby d1_28 (by decide) (by decide) ?_
 show EndsW _ _ _ _ T11 (mkF m 32 #[cr b3, cr w_NULL, .val .null] [(.int 1), (.int 1)]) _ _ _
 refine wcyW (pc := 32) (pc' := 63) X11 hx hby d1_32 (teq (by decide : (1 : Int32) = (1 : Int32))).1 (by decide) (by decide) ?_
 refine walNW X11 hx hby d1_63 rfl rfl ?_
 obtain ⟨T12, X12, e12, st12⟩ := getS2 X11 hx hZ hown (host := "") (Or.inl (ow hw 31 rfl)) Via.refl e11 (S_NUMBER.ext O10.2) (g := (mkF m 64 #[cr b3, cr w_NULL, .val .null] [(.ref w_NULL)])) rfl (hb hby d1_64)
 refine EndsW.go st12 ?_
 refine .go (fun _ => Jvm.RoadKit.acmp (g := (mkF m 67 #[cr b3, cr w_NULL, .val .null] [(.ref w_NUMBER), (.ref w_NULL)])) X12 hx rfl rfl rfl (pc0 := 67) (pc' := 91) (same := false) rfl (hb hby d1_67) rfl (decide_eq_false fun q => (Fld.ne F_ordinal_NULL F_ordinal_NUMBER (by decide)) (Value.ref.inj q)) (by decide) (by decide)) ?_
 show EndsW _ _ _ _ T12 (mkF m 91 #[cr b3, cr w_NULL, .val .null] []) _ _ _
 refine walNW X12 hx hby d1_91 rfl rfl ?_
 refine walNW X12 hx hby d1_92 rfl rfl ?_
 obtain ⟨T13, h13, X13, e13, W13, st13⟩ := putF X12 hx hZ hown (host := "") (Or.inl (ow hw 33 rfl)) Via.refl e12 (((PF_b3_kind.keep K7c nin0).ext E8).keep K10c nin0) (((PE_b3.keep K7c).ext E8).keep K10c) (Or.inr ⟨(ow hw 34 rfl), rfl, hnm⟩) (ow hw 5 rfl) (ty := (.object "com/example/wakeline/wakeline/event/Value$Kind")) (by decide) rfl rfl (g := (mkF m 93 #[cr b3, cr w_NULL, .val .null] [(.ref w_NULL), (.ref b3)])) rfl rfl (hb hby d1_93)
 refine EndsW.go st13 ?_
 have Fw13 := (((PF_b3_kind.keep K7c nin0).ext E8).keep K10c nin0).same W13
 have K13 := K10.wr W13 (Or.inl (List.mem_of_getElem? (i := 0) rfl))
 have O13 := O10.wr W13 g_b3
 have N13 := Fr.snoc X13 N10 g_b3
 refine walNW X13 hx hby d1_96 rfl rfl ?_
 show EndsW _ _ _ _ T13 (mkF m 97 #[cr b3, cr w_NULL, .val .null] [(.ref b3)]) _ _ _
 refine walNW X13 hx hby d1_97 rfl rfl ?_
 obtain ⟨T14, h14, X14, e14, W14, st14⟩ := putF X13 hx hZ hown (host := "") (Or.inl (ow hw 35 rfl)) Via.refl e13 ((((PF_b3_text.keep K7c nin0).ext E8).keep K10c nin0).other W13 (Or.inr (slot_ne (Or.inr (ow hw 36 rfl)) (Or.inr (ow hw 34 rfl)) (by decide) (t := (.object "java/lang/String")) (t' := (.object "com/example/wakeline/wakeline/event/Value$Kind")) (by decide) (by decide)))) ((((PE_b3.keep K7c).ext E8).keep K10c).wr W13) (Or.inr ⟨(ow hw 36 rfl), rfl, hnm⟩) (ow hw 5 rfl) (ty := (.object "java/lang/String")) (by decide) rfl rfl (g := (mkF m 98 #[cr b3, cr w_NULL, .val .null] [.null, (.ref b3)])) rfl rfl (hb hby d1_98)
 refine EndsW.go st14 ?_
 have Fw14 := ((((PF_b3_text.keep K7c nin0).ext E8).keep K10c nin0).other W13 (Or.inr (slot_ne (Or.inr (ow hw 36 rfl)) (Or.inr (ow hw 34 rfl)) (by decide) (t := (.object "java/lang/String")) (t' := (.object "com/example/wakeline/wakeline/event/Value$Kind")) (by decide) (by decide)))).same W14
 have K14 := K13.wr W14 (Or.inl (List.mem_of_getElem? (i := 0) rfl))
 have O14 := O13.wr W14 g_b3
 have N14 := Fr.snoc X14 N13 g_b3
 refine EndsW.retV (s := s) (vm := T8.vm) X14 hx hS8 (Nat.le_trans (Nat.le_trans (Nat.le_trans (Nat.le_trans hk8 K10c.1) (own_wrsz W13)) (own_wrsz W14)) (Nat.le_of_eq (congrArg Array.size e14.symm))) Bd.notSynchronized Bd.returns (hb hby d1_101) (by decide) (by decide) ?_
 rw [e14]
 exact ⟨rfl, N14, K14, (Fw13.other W14 (Or.inr (slot_ne (Or.inr (ow hw 34 rfl)) (Or.inr (ow hw 36 rfl)) (by decide) (t := (.object "com/example/wakeline/wakeline/event/Value$Kind")) (t' := (.object "java/lang/String")) (by decide) (by decide)))), Fw14⟩

theorem d5_0 : decode prog_15_method_4_code 0 = .ok (.aload_n 0, 1) := by decide +kernel
theorem d5_1 : decode prog_15_method_4_code 1 = .ok (.getfield 52, 3) := by decide +kernel
theorem d5_4 : decode prog_15_method_4_code 4 = .ok (.getstatic 15, 3) := by decide +kernel
theorem d5_7 : decode prog_15_method_4_code 7 = .ok (.if_acmp .ne 7, 3) := by decide +kernel
theorem d5_10 : decode prog_15_method_4_code 10 = .ok (.iconst 1, 1) := by decide +kernel
theorem d5_11 : decode prog_15_method_4_code 11 = .ok (.goto 4, 3) := by decide +kernel
theorem d5_15 : decode prog_15_method_4_code 15 = .ok (.ireturn, 1) := by decide +kernel
theorem pn5 : plainName "com/example/wakeline/wakeline/event/Value" = true := by first | (simp [plainName, overriddenIn]; done) | decide +kernel
theorem pdx_2 : parseMethodDescriptor "(Lcom/example/wakeline/wakeline/event/Value$Kind;Ljava/lang/String;)V" = some ⟨[(.object "com/example/wakeline/wakeline/event/Value$Kind"), (.object "java/lang/String")], none⟩ := by decide +kernel
theorem ef5_r (m : MethodId) (x0 : Addr) : entryFrame m #[(.ref x0)] 1 = mkF m 0 #[.val (.ref x0)] [] := by first | (simp [entryFrame, mkF, argsToLocals, Value.category]; done) | rfl
set_option maxRecDepth 65536 in
set_option maxHeartbeats 40000000 in
theorem rx5_16 (l : Launch) (Z : State) (a0 : Array Value) (hw : ∀ d ∈ tables_1, d.before a0 Z = true) (ws : List Jvm.Cond) (n0 : Nat) (h0 : Heap) (O0 : Old Z n0 h0) (G1 : Int32) (G3 : Value) (w_NULL : Addr) (w_NUMBER : Addr) (w_NULL2 : Addr) (w_STRING : Addr) (GF : GlobF Z a0 G1 G3 w_NULL w_NUMBER w_NULL2 w_STRING) (b3 : Addr) (PF_b3_kind : Fld Z h0 b3 "com/example/wakeline/wakeline/event/Value" "kind" "Lcom/example/wakeline/wakeline/event/Value$Kind;" (.ref w_NULL)) :
  Meets1 l ym5 prog_15_method_4_code 1 (some .boolean) ws ({ frames := 0, cells := 0, slots := 0, locals := 0 } : Room) #[(.ref b3)] Z h0 (fun v h L => v = some (.int 1) ∧ Fr n0 L ∧ Keep h0 h []) := by
 refine MetFree.of_bodySF (plainFor_of_name pn5) hisR ?_
 intro p e s m args below meth c s₁ Bd hml0 hP hK
 obtain ⟨rfl, hZ, hh⟩ := hP
 have hx := Bd.exec
 have hby := Bd.bytes
 have hml : c.maxLocals = 1 := hml0
 have hown : s.vm.findClass "com/example/wakeline/wakeline/event/Value" = some m.cls := findClass_of_methodNamed Bd.named
 have hnm := (name_of_methodNamed Bd.named Bd.method).1
 have X0 : Stand p l e ({ frames := 0, cells := 0, slots := 0, locals := 0 } : Room) s m #[(.ref b3)] below meth c s₁ [] 0 0 := Stand.of_body Bd
 have e0 : s₁.heap = h0 := by rw [← hh, Bd.state]; rfl
 have N0 := Fr.nil n0
 have Z0 := own_old_le O0
 show Ends _ _ _ _ s₁ (entryFrame m #[(.ref b3)] 1) ({ frames := 0, cells := 0, slots := 0, locals := 0 } : Room).cells ({ frames := 0, cells := 0, slots := 0, locals := 0 } : Room).slots (fun v h L => v = some (.int 1) ∧ Fr n0 L ∧ Keep h0 h [])
 refine Ends.go (fun _ k => castTop (ef5_r m b3) k) ?_
 obtain ⟨SCS, P5, SSF, RG3, HCST, HCW, S_NULL, E_NULL, S_NUMBER, E_NUMBER, F_ordinal_NULL, F_ordinal_NUMBER, S_NULL2, E_NULL2, F_kind_NULL2, S_STRING, E_STRING, F_ordinal_STRING⟩ := id GF
 have K0 := Keep.refl h0 []
 show Ends _ _ _ _ s₁ (mkF m 0 #[cr b3] []) _ _ _
 refine walN X0 hx hby d5_0 rfl rfl ?_
 obtain ⟨T17, X17, e17, st17⟩ := getF X0 hx hZ hown (host := "") (Or.inl (ow hw 33 rfl)) Via.refl e0 PF_b3_kind (g := (mkF m 1 #[cr b3] [(.ref b3)])) rfl rfl (hb hby d5_1)
 refine Ends.go st17 ?_
 obtain ⟨T18, X18, e18, st18⟩ := getS2 X17 hx hZ hown (host := "") (Or.inl (ow hw 30 rfl)) Via.refl e17 (S_NULL.ext O0.2) (g := (mkF m 4 #[cr b3] [(.ref w_NULL)])) rfl (hb hby d5_4)
 refine Ends.go st18 ?_
 show Ends _ _ _ _ T18 (mkF m 7 #[cr b3] [(.ref w_NULL), (.ref w_NULL)]) _ _ _
 refine .go (fun _ => Jvm.RoadKit.acmp (g := (mkF m 7 #[cr b3] [(.ref w_NULL), (.ref w_NULL)])) X18 hx rfl rfl rfl (pc0 := 7) (pc' := 10) (same := true) rfl (hb hby d5_7) rfl (decide_eq_true rfl) (by decide) (by decide)) ?_
 refine wic X18 hx hby d5_10 ?_
 refine wgo (pc := 11) (pc' := 15) X18 hx hby d5_11 (by decide) (by decide) ?_
 refine Ends.retZ X18 hx Bd.notSynchronized (t := .boolean) Bd.returns (by simp) (hb hby d5_15) (by decide) (by decide) ?_
 rw [e18]
 exact ⟨rfl, N0, K0⟩

theorem d6_0 : decode prog_15_method_10_code 0 = .ok (.aload_n 0, 1) := by decide +kernel
theorem d6_1 : decode prog_15_method_10_code 1 = .ok (.getfield 56, 3) := by decide +kernel
theorem d6_4 : decode prog_15_method_10_code 4 = .ok (.areturn, 1) := by decide +kernel
theorem pn6 : plainName "com/example/wakeline/wakeline/event/Value" = true := by first | (simp [plainName, overriddenIn]; done) | decide +kernel
theorem pdx_3 : parseMethodDescriptor "()Z" = some ⟨[], some .boolean⟩ := by decide +kernel
theorem ef6_r (m : MethodId) (x0 : Addr) : entryFrame m #[(.ref x0)] 1 = mkF m 0 #[.val (.ref x0)] [] := by first | (simp [entryFrame, mkF, argsToLocals, Value.category]; done) | rfl
set_option maxRecDepth 65536 in
set_option maxHeartbeats 40000000 in
theorem rx6_20 (l : Launch) (Z : State) (a0 : Array Value) (hw : ∀ d ∈ tables_1, d.before a0 Z = true) (ws : List Jvm.Cond) (n0 : Nat) (h0 : Heap) (O0 : Old Z n0 h0)  (b3 : Addr) (PF_b3_text : Fld Z h0 b3 "com/example/wakeline/wakeline/event/Value" "text" "Ljava/lang/String;" .null) :
  Meets1 l ym6 prog_15_method_10_code 1 (some (.object "java/lang/String")) ws ({ frames := 0, cells := 0, slots := 0, locals := 0 } : Room) #[(.ref b3)] Z h0 (fun v h L => v = some .null ∧ Fr n0 L ∧ Keep h0 h []) := by
 refine MetFree.of_bodySF (plainFor_of_name pn6) hisR ?_
 intro p e s m args below meth c s₁ Bd hml0 hP hK
 obtain ⟨rfl, hZ, hh⟩ := hP
 have hx := Bd.exec
 have hby := Bd.bytes
 have hml : c.maxLocals = 1 := hml0
 have hown : s.vm.findClass "com/example/wakeline/wakeline/event/Value" = some m.cls := findClass_of_methodNamed Bd.named
 have hnm := (name_of_methodNamed Bd.named Bd.method).1
 have X0 : Stand p l e ({ frames := 0, cells := 0, slots := 0, locals := 0 } : Room) s m #[(.ref b3)] below meth c s₁ [] 0 0 := Stand.of_body Bd
 have e0 : s₁.heap = h0 := by rw [← hh, Bd.state]; rfl
 have N0 := Fr.nil n0
 have Z0 := own_old_le O0
 show Ends _ _ _ _ s₁ (entryFrame m #[(.ref b3)] 1) ({ frames := 0, cells := 0, slots := 0, locals := 0 } : Room).cells ({ frames := 0, cells := 0, slots := 0, locals := 0 } : Room).slots (fun v h L => v = some .null ∧ Fr n0 L ∧ Keep h0 h [])
 refine Ends.go (fun _ k => castTop (ef6_r m b3) k) ?_
 have K0 := Keep.refl h0 []
 show Ends _ _ _ _ s₁ (mkF m 0 #[cr b3] []) _ _ _
 refine walN X0 hx hby d6_0 rfl rfl ?_
 obtain ⟨T21, X21, e21, st21⟩ := getF X0 hx hZ hown (host := "") (Or.inl (ow hw 35 rfl)) Via.refl e0 PF_b3_text (g := (mkF m 1 #[cr b3] [(.ref b3)])) rfl rfl (hb hby d6_1)
 refine Ends.go st21 ?_
 refine Ends.ret X21 hx Bd.notSynchronized (t := (.object "java/lang/String")) Bd.returns rfl (Or.inr (Or.inr (Or.inr (Or.inr ⟨rfl, rfl, rfl⟩)))) (hb hby d6_4) (by decide) (by decide) ?_
 rw [e21]
 exact ⟨rfl, N0, K0⟩

theorem d7_0 : decode prog_15_method_9_code 0 = .ok (.aload_n 0, 1) := by decide +kernel
theorem d7_1 : decode prog_15_method_9_code 1 = .ok (.getfield 52, 3) := by decide +kernel
theorem d7_4 : decode prog_15_method_9_code 4 = .ok (.areturn, 1) := by decide +kernel
theorem pn7 : plainName "com/example/wakeline/wakeline/event/Value" = true := by first | (simp [plainName, overriddenIn]; done) | decide +kernel
theorem pdx_4 : parseMethodDescriptor "()Ljava/lang/String;" = some ⟨[], some (.object "java/lang/String")⟩ := by decide +kernel
theorem ef7_r (m : MethodId) (x0 : Addr) : entryFrame m #[(.ref x0)] 1 = mkF m 0 #[.val (.ref x0)] [] := by first | (simp [entryFrame, mkF, argsToLocals, Value.category]; done) | rfl
set_option maxRecDepth 65536 in
set_option maxHeartbeats 40000000 in
theorem rx7_23 (l : Launch) (Z : State) (a0 : Array Value) (hw : ∀ d ∈ tables_1, d.before a0 Z = true) (ws : List Jvm.Cond) (n0 : Nat) (h0 : Heap) (O0 : Old Z n0 h0) (G1 : Int32) (G3 : Value) (w_NULL : Addr) (w_NUMBER : Addr) (w_NULL2 : Addr) (w_STRING : Addr) (GF : GlobF Z a0 G1 G3 w_NULL w_NUMBER w_NULL2 w_STRING) (b3 : Addr) (PF_b3_kind : Fld Z h0 b3 "com/example/wakeline/wakeline/event/Value" "kind" "Lcom/example/wakeline/wakeline/event/Value$Kind;" (.ref w_NULL)) :
  Meets1 l ym7 prog_15_method_9_code 1 (some (.object "com/example/wakeline/wakeline/event/Value$Kind")) ws ({ frames := 0, cells := 0, slots := 0, locals := 0 } : Room) #[(.ref b3)] Z h0 (fun v h L => v = some (.ref w_NULL) ∧ Fr n0 L ∧ Keep h0 h []) := by
 refine MetFree.of_bodySF (plainFor_of_name pn7) hisR ?_
 intro p e s m args below meth c s₁ Bd hml0 hP hK
 obtain ⟨rfl, hZ, hh⟩ := hP
 have hx := Bd.exec
 have hby := Bd.bytes
 have hml : c.maxLocals = 1 := hml0
 have hown : s.vm.findClass "com/example/wakeline/wakeline/event/Value" = some m.cls := findClass_of_methodNamed Bd.named
 have hnm := (name_of_methodNamed Bd.named Bd.method).1
 have X0 : Stand p l e ({ frames := 0, cells := 0, slots := 0, locals := 0 } : Room) s m #[(.ref b3)] below meth c s₁ [] 0 0 := Stand.of_body Bd
 have e0 : s₁.heap = h0 := by rw [← hh, Bd.state]; rfl
 have N0 := Fr.nil n0
 have Z0 := own_old_le O0
 show Ends _ _ _ _ s₁ (entryFrame m #[(.ref b3)] 1) ({ frames := 0, cells := 0, slots := 0, locals := 0 } : Room).cells ({ frames := 0, cells := 0, slots := 0, locals := 0 } : Room).slots (fun v h L => v = some (.ref w_NULL) ∧ Fr n0 L ∧ Keep h0 h [])
 refine Ends.go (fun _ k => castTop (ef7_r m b3) k) ?_
 obtain ⟨SCS, P5, SSF, RG3, HCST, HCW, S_NULL, E_NULL, S_NUMBER, E_NUMBER, F_ordinal_NULL, F_ordinal_NUMBER, S_NULL2, E_NULL2, F_kind_NULL2, S_STRING, E_STRING, F_ordinal_STRING⟩ := id GF
 have K0 := Keep.refl h0 []
 show Ends _ _ _ _ s₁ (mkF m 0 #[cr b3] []) _ _ _
 refine walN X0 hx hby d7_0 rfl rfl ?_
 obtain ⟨T24, X24, e24, st24⟩ := getF X0 hx hZ hown (host := "") (Or.inl (ow hw 33 rfl)) Via.refl e0 PF_b3_kind (g := (mkF m 1 #[cr b3] [(.ref b3)])) rfl rfl (hb hby d7_1)
 refine Ends.go st24 ?_
 refine Ends.ret X24 hx Bd.notSynchronized (t := (.object "com/example/wakeline/wakeline/event/Value$Kind")) Bd.returns rfl (Or.inr (Or.inr (Or.inr (Or.inr ⟨rfl, rfl, rfl⟩)))) (hb hby d7_4) (by decide) (by decide) ?_
 rw [e24]
 exact ⟨rfl, N0, K0⟩

theorem pdx_5 : parseMethodDescriptor "()Lcom/example/wakeline/wakeline/event/Value$Kind;" = some ⟨[], some (.object "com/example/wakeline/wakeline/event/Value$Kind")⟩ := by decide +kernel
set_option maxRecDepth 65536 in
set_option maxHeartbeats 40000000 in
theorem rx5_27 (l : Launch) (Z : State) (a0 : Array Value) (hw : ∀ d ∈ tables_1, d.before a0 Z = true) (ws : List Jvm.Cond) (n0 : Nat) (h0 : Heap) (O0 : Old Z n0 h0) (G1 : Int32) (G3 : Value) (w_NULL : Addr) (w_NUMBER : Addr) (w_NULL2 : Addr) (w_STRING : Addr) (GF : GlobF Z a0 G1 G3 w_NULL w_NUMBER w_NULL2 w_STRING)   :
  Meets1 l ym5 prog_15_method_4_code 1 (some .boolean) ws ({ frames := 0, cells := 0, slots := 0, locals := 0 } : Room) #[(.ref w_NULL2)] Z h0 (fun v h L => v = some (.int 1) ∧ Fr n0 L ∧ Keep h0 h []) := by
 refine MetFree.of_bodySF (plainFor_of_name pn5) hisR ?_
 intro p e s m args below meth c s₁ Bd hml0 hP hK
 obtain ⟨rfl, hZ, hh⟩ := hP
 have hx := Bd.exec
 have hby := Bd.bytes
 have hml : c.maxLocals = 1 := hml0
 have hown : s.vm.findClass "com/example/wakeline/wakeline/event/Value" = some m.cls := findClass_of_methodNamed Bd.named
 have hnm := (name_of_methodNamed Bd.named Bd.method).1
 have X0 : Stand p l e ({ frames := 0, cells := 0, slots := 0, locals := 0 } : Room) s m #[(.ref w_NULL2)] below meth c s₁ [] 0 0 := Stand.of_body Bd
 have e0 : s₁.heap = h0 := by rw [← hh, Bd.state]; rfl
 have N0 := Fr.nil n0
 have Z0 := own_old_le O0
 show Ends _ _ _ _ s₁ (entryFrame m #[(.ref w_NULL2)] 1) ({ frames := 0, cells := 0, slots := 0, locals := 0 } : Room).cells ({ frames := 0, cells := 0, slots := 0, locals := 0 } : Room).slots (fun v h L => v = some (.int 1) ∧ Fr n0 L ∧ Keep h0 h [])
 refine Ends.go (fun _ k => castTop (ef5_r m w_NULL2) k) ?_
 obtain ⟨SCS, P5, SSF, RG3, HCST, HCW, S_NULL, E_NULL, S_NUMBER, E_NUMBER, F_ordinal_NULL, F_ordinal_NUMBER, S_NULL2, E_NULL2, F_kind_NULL2, S_STRING, E_STRING, F_ordinal_STRING⟩ := id GF
 have K0 := Keep.refl h0 []
 show Ends _ _ _ _ s₁ (mkF m 0 #[cr w_NULL2] []) _ _ _
 refine walN X0 hx hby d5_0 rfl rfl ?_
 obtain ⟨T28, X28, e28, st28⟩ := getF X0 hx hZ hown (host := "") (Or.inl (ow hw 33 rfl)) Via.refl e0 (F_kind_NULL2.ext O0.2) (g := (mkF m 1 #[cr w_NULL2] [(.ref w_NULL2)])) rfl rfl (hb hby d5_1)
 refine Ends.go st28 ?_
 obtain ⟨T29, X29, e29, st29⟩ := getS2 X28 hx hZ hown (host := "") (Or.inl (ow hw 30 rfl)) Via.refl e28 (S_NULL.ext O0.2) (g := (mkF m 4 #[cr w_NULL2] [(.ref w_NULL)])) rfl (hb hby d5_4)
 refine Ends.go st29 ?_
 show Ends _ _ _ _ T29 (mkF m 7 #[cr w_NULL2] [(.ref w_NULL), (.ref w_NULL)]) _ _ _
 refine .go (fun _ => Jvm.RoadKit.acmp (g := (mkF m 7 #[cr w_NULL2] [(.ref w_NULL), (.ref w_NULL)])) X29 hx rfl rfl rfl (pc0 := 7) (pc' := 10) (same := true) rfl (hb hby d5_7) rfl (decide_eq_true rfl) (by decide) (by decide)) ?_
 refine wic X29 hx hby d5_10 ?_
 refine wgo (pc := 11) (pc' := 15) X29 hx hby d5_11 (by decide) (by decide) ?_
 refine Ends.retZ X29 hx Bd.notSynchronized (t := .boolean) Bd.returns (by simp) (hb hby d5_15) (by decide) (by decide) ?_
 rw [e29]
 exact ⟨rfl, N0, K0⟩

theorem d10_0 : decode jdk_43_method_3_code 0 = .ok (.iload_n 0, 1) := by decide +kernel
theorem d10_1 : decode jdk_43_method_3_code 1 = .ok (.sipush 255, 3) := by decide +kernel
theorem d10_4 : decode jdk_43_method_3_code 4 = .ok (.if_icmp .gt 7, 3) := by decide +kernel
theorem d10_7 : decode jdk_43_method_3_code 7 = .ok (.iconst 1, 1) := by decide +kernel
theorem d10_8 : decode jdk_43_method_3_code 8 = .ok (.goto 4, 3) := by decide +kernel
theorem d10_12 : decode jdk_43_method_3_code 12 = .ok (.ireturn, 1) := by decide +kernel
theorem pn10 : plainName "java/lang/StringLatin1" = true := by first | (simp [plainName, overriddenIn]; done) | decide +kernel
theorem ef10_i (m : MethodId) (x0 : Int32) : entryFrame m #[(.int x0)] 1 = mkF m 0 #[.val (.int x0)] [] := by first | (simp [entryFrame, mkF, argsToLocals, Value.category]; done) | rfl
set_option maxRecDepth 65536 in
set_option maxHeartbeats 40000000 in
theorem rx10_36 (l : Launch) (Z : State) (a0 : Array Value) (hw : ∀ d ∈ tables_1, d.before a0 Z = true) (ws : List Jvm.Cond) (n0 : Nat) (h0 : Heap) (O0 : Old Z n0 h0)  (p1 : Int32) (hDG : own_dig (((48 : Int32) + ((p1 &&& (2147483647 : Int32)) % (10 : Int32))).toUInt32.toUInt16.toUInt32.toInt32)) :
  Meets1 l ym8 jdk_43_method_3_code 1 (some .boolean) ws ({ frames := 0, cells := 0, slots := 0, locals := 0 } : Room) #[(.int (((48 : Int32) + ((p1 &&& (2147483647 : Int32)) % (10 : Int32))).toUInt32.toUInt16.toUInt32.toInt32))] Z h0 (fun v h L => v = some (.int 1) ∧ Fr n0 L ∧ Keep h0 h []) := by
 refine MetFree.of_bodySF (plainFor_of_name pn10) hisR ?_
 intro p e s m args below meth c s₁ Bd hml0 hP hK
 obtain ⟨rfl, hZ, hh⟩ := hP
 have hx := Bd.exec
 have hby := Bd.bytes
 have hml : c.maxLocals = 1 := hml0
 have hown : s.vm.findClass "java/lang/StringLatin1" = some m.cls := findClass_of_methodNamed Bd.named
 have hnm := (name_of_methodNamed Bd.named Bd.method).1
 have X0 : Stand p l e ({ frames := 0, cells := 0, slots := 0, locals := 0 } : Room) s m #[(.int (((48 : Int32) + ((p1 &&& (2147483647 : Int32)) % (10 : Int32))).toUInt32.toUInt16.toUInt32.toInt32))] below meth c s₁ [] 0 0 := Stand.of_body Bd
 have e0 : s₁.heap = h0 := by rw [← hh, Bd.state]; rfl
 have N0 := Fr.nil n0
 have Z0 := own_old_le O0
 show Ends _ _ _ _ s₁ (entryFrame m #[(.int (((48 : Int32) + ((p1 &&& (2147483647 : Int32)) % (10 : Int32))).toUInt32.toUInt16.toUInt32.toInt32))] 1) ({ frames := 0, cells := 0, slots := 0, locals := 0 } : Room).cells ({ frames := 0, cells := 0, slots := 0, locals := 0 } : Room).slots (fun v h L => v = some (.int 1) ∧ Fr n0 L ∧ Keep h0 h [])
 refine Ends.go (fun _ k => castTop (ef10_i m (((48 : Int32) + ((p1 &&& (2147483647 : Int32)) % (10 : Int32))).toUInt32.toUInt16.toUInt32.toInt32)) k) ?_
 have K0 := Keep.refl h0 []
 show Ends _ _ _ _ s₁ (mkF m 0 #[ci (((48 : Int32) + ((p1 &&& (2147483647 : Int32)) % (10 : Int32))).toUInt32.toUInt16.toUInt32.toInt32)] []) _ _ _
 refine wilN X0 hx hby d10_0 rfl ?_
 refine wsp X0 hx hby d10_1 ?_
 refine wcn X0 hx hby d10_4 (flt ((own_d255 hDG) : ¬ ((255 : Int32) < (((48 : Int32) + ((p1 &&& (2147483647 : Int32)) % (10 : Int32))).toUInt32.toUInt16.toUInt32.toInt32)))).2.2.1 ?_
 show Ends _ _ _ _ s₁ (mkF m 7 #[ci (((48 : Int32) + ((p1 &&& (2147483647 : Int32)) % (10 : Int32))).toUInt32.toUInt16.toUInt32.toInt32)] []) _ _ _
 refine wic X0 hx hby d10_7 ?_
 refine wgo (pc := 8) (pc' := 12) X0 hx hby d10_8 (by decide) (by decide) ?_
 refine Ends.retZ X0 hx Bd.notSynchronized (t := .boolean) Bd.returns (by simp) (hb hby d10_12) (by decide) (by decide) ?_
 rw [e0]
 exact ⟨rfl, N0, K0⟩

theorem d11_0 : decode jdk_43_method_46_code 0 = .ok (.iconst 1, 1) := by decide +kernel
theorem d11_1 : decode jdk_43_method_46_code 1 = .ok (.newarray .byte, 2) := by decide +kernel
theorem d11_3 : decode jdk_43_method_46_code 3 = .ok (.dup, 1) := by decide +kernel
theorem d11_4 : decode jdk_43_method_46_code 4 = .ok (.iconst 0, 1) := by decide +kernel
theorem d11_5 : decode jdk_43_method_46_code 5 = .ok (.iload_n 0, 1) := by decide +kernel
theorem d11_6 : decode jdk_43_method_46_code 6 = .ok (.i2b, 1) := by decide +kernel
theorem d11_7 : decode jdk_43_method_46_code 7 = .ok (.bastore, 1) := by decide +kernel
theorem d11_8 : decode jdk_43_method_46_code 8 = .ok (.areturn, 1) := by decide +kernel
theorem pn11 : plainName "java/lang/StringLatin1" = true := by first | (simp [plainName, overriddenIn]; done) | decide +kernel
theorem pdx_6 : parseMethodDescriptor "(C)Z" = some ⟨[.char], some .boolean⟩ := by decide +kernel
theorem ef11_i (m : MethodId) (x0 : Int32) : entryFrame m #[(.int x0)] 1 = mkF m 0 #[.val (.int x0)] [] := by first | (simp [entryFrame, mkF, argsToLocals, Value.category]; done) | rfl
set_option maxRecDepth 65536 in
set_option maxHeartbeats 40000000 in
theorem rx11_39 (l : Launch) (Z : State) (a0 : Array Value) (hw : ∀ d ∈ tables_1, d.before a0 Z = true) (ws : List Jvm.Cond) (n0 : Nat) (h0 : Heap) (O0 : Old Z n0 h0)  (p1 : Int32)  :
  Meets1 l ym9 jdk_43_method_46_code 1 (some (.array .byte)) ws ({ frames := 0, cells := 1, slots := 1, locals := 0 } : Room) #[(.int (((48 : Int32) + ((p1 &&& (2147483647 : Int32)) % (10 : Int32))).toUInt32.toUInt16.toUInt32.toInt32))] Z h0 (fun v h L => ∃ (b40 : Addr) (k40 : ClassId), v = some (.ref b40) ∧ Fr n0 L ∧ Keep h0 h [] ∧ h0.size ≤ b40 ∧ Arv Z h b40 k40 .byte (1 : Int32) [(.int ((((48 : Int32) + ((p1 &&& (2147483647 : Int32)) % (10 : Int32))).toUInt32.toUInt16.toUInt32.toInt32).toInt8.toInt32))] (.int 0)) := by
 refine MetFree.of_bodySF (plainFor_of_name pn11) hisR ?_
 intro p e s m args below meth c s₁ Bd hml0 hP hK
 obtain ⟨rfl, hZ, hh⟩ := hP
 have hx := Bd.exec
 have hby := Bd.bytes
 have hml : c.maxLocals = 1 := hml0
 have hown : s.vm.findClass "java/lang/StringLatin1" = some m.cls := findClass_of_methodNamed Bd.named
 have hnm := (name_of_methodNamed Bd.named Bd.method).1
 have X0 : Stand p l e ({ frames := 0, cells := 1, slots := 1, locals := 0 } : Room) s m #[(.int (((48 : Int32) + ((p1 &&& (2147483647 : Int32)) % (10 : Int32))).toUInt32.toUInt16.toUInt32.toInt32))] below meth c s₁ [] 0 0 := Stand.of_body Bd
 have e0 : s₁.heap = h0 := by rw [← hh, Bd.state]; rfl
 have N0 := Fr.nil n0
 have Z0 := own_old_le O0
 show Ends _ _ _ _ s₁ (entryFrame m #[(.int (((48 : Int32) + ((p1 &&& (2147483647 : Int32)) % (10 : Int32))).toUInt32.toUInt16.toUInt32.toInt32))] 1) ({ frames := 0, cells := 1, slots := 1, locals := 0 } : Room).cells ({ frames := 0, cells := 1, slots := 1, locals := 0 } : Room).slots (fun v h L => ∃ (b40 : Addr) (k40 : ClassId), v = some (.ref b40) ∧ Fr n0 L ∧ Keep h0 h [] ∧ h0.size ≤ b40 ∧ Arv Z h b40 k40 .byte (1 : Int32) [(.int ((((48 : Int32) + ((p1 &&& (2147483647 : Int32)) % (10 : Int32))).toUInt32.toUInt16.toUInt32.toInt32).toInt8.toInt32))] (.int 0))
 refine Ends.go (fun _ k => castTop (ef11_i m (((48 : Int32) + ((p1 &&& (2147483647 : Int32)) % (10 : Int32))).toUInt32.toUInt16.toUInt32.toInt32)) k) ?_
 have K0 := Keep.refl h0 []
 show Ends _ _ _ _ s₁ (mkF m 0 #[ci (((48 : Int32) + ((p1 &&& (2147483647 : Int32)) % (10 : Int32))).toUInt32.toUInt16.toUInt32.toInt32)] []) _ _ _
 refine wic X0 hx hby d11_0 ?_
 obtain ⟨T40, h40, k40, X40, e40, E40, A40, st40⟩ := newP X0 hx hZ (ow hw 21 rfl) e0 (g := (mkF m 1 #[ci (((48 : Int32) + ((p1 &&& (2147483647 : Int32)) % (10 : Int32))).toUInt32.toUInt16.toUInt32.toInt32)] [(.int 1)])) rfl (hb hby d11_1) rfl (by decide) (cap := 1) (by decide) (by decide) (by decide) (by decide)
 obtain ⟨b40, g40⟩ : ∃ z, z = h0.size := ⟨_, rfl⟩
 rw [← g40] at A40 st40
 refine Ends.go st40 ?_
 have g_b40 : n0 ≤ b40 := Nat.le_trans (own_old_le O0) (Nat.le_of_eq g40.symm)
 have sz_b40 : h0.size ≤ b40 := Nat.le_trans K0.1 (Nat.le_of_eq g40.symm)
 have K40 := K0.ext E40
 have O40 := O0.ext E40
 have V_b40 : Arv Z h40 b40 k40 .byte (1 : Int32) [(.int 0)] (.int 0) := (Arv.new A40 (by decide)).pad (pad_rep [] (.int 0) 1)
 refine wdu X40 hx hby d11_3 rfl ?_
 show Ends _ _ _ _ T40 (mkF m 4 #[ci (((48 : Int32) + ((p1 &&& (2147483647 : Int32)) % (10 : Int32))).toUInt32.toUInt16.toUInt32.toInt32)] [(.ref b40), (.ref b40)]) _ _ _
 refine wic X40 hx hby d11_4 ?_
 refine wilN X40 hx hby d11_5 rfl ?_
 refine .go (fun _ => XS.i2b X40.here hx rfl (hb hby d11_6) rfl) ?_
 obtain ⟨cl41, Ar41, q41, S41, M41, H41, G41⟩ := id V_b40
 have hin41 := inb_of (j := (0 : Int32)) S41 ⟨by decide, by decide⟩
 obtain ⟨T41, h41, X41, e41, W41, st41⟩ := stB X40 hx hZ e40 Ar41 (j := (0 : Int32)) hin41 (g := (mkF m 7 #[ci (((48 : Int32) + ((p1 &&& (2147483647 : Int32)) % (10 : Int32))).toUInt32.toUInt16.toUInt32.toInt32)] [(.int ((((48 : Int32) + ((p1 &&& (2147483647 : Int32)) % (10 : Int32))).toUInt32.toUInt16.toUInt32.toInt32).toInt8.toInt32)), (.int 0), (.ref b40), (.ref b40)])) rfl rfl (hb hby d11_7)
 refine Ends.go st41 ?_
 have V41 : Arv Z h41 b40 k40 .byte (1 : Int32) [(.int (nar .byte ((((48 : Int32) + ((p1 &&& (2147483647 : Int32)) % (10 : Int32))).toUInt32.toUInt16.toUInt32.toInt32).toInt8.toInt32)))] (.int 0) := Arv.set Ar41 q41 S41 M41 H41 G41 (fits_nar_byte _) W41 0 rfl (Nat.le_of_ble_eq_true rfl)
 rw [own_narb] at V41
 have K41 := K40.wr W41 (Or.inr sz_b40)
 have O41 := O40.wr W41 g_b40
 have N41 := Fr.snoc X41 N0 g_b40
 show Ends _ _ _ _ T41 (mkF m 8 #[ci (((48 : Int32) + ((p1 &&& (2147483647 : Int32)) % (10 : Int32))).toUInt32.toUInt16.toUInt32.toInt32)] [(.ref b40)]) _ _ _
 refine Ends.ret X41 hx Bd.notSynchronized (t := (.array .byte)) Bd.returns rfl (Or.inr (Or.inr (Or.inr (Or.inr ⟨rfl, rfl, rfl⟩)))) (hb hby d11_8) (by decide) (by decide) ?_
 rw [e41]
 exact ⟨b40, k40, rfl, N41, K41, sz_b40, V41⟩

theorem d12_0 : decode jdk_42_method_151_code 0 = .ok (.aload_n 0, 1) := by decide +kernel
theorem d12_1 : decode jdk_42_method_151_code 1 = .ok (.invokespecial 1, 3) := by decide +kernel
theorem d12_4 : decode jdk_42_method_151_code 4 = .ok (.aload_n 0, 1) := by decide +kernel
theorem d12_5 : decode jdk_42_method_151_code 5 = .ok (.aload_n 1, 1) := by decide +kernel
theorem d12_6 : decode jdk_42_method_151_code 6 = .ok (.putfield 9, 3) := by decide +kernel
theorem d12_9 : decode jdk_42_method_151_code 9 = .ok (.aload_n 0, 1) := by decide +kernel
theorem d12_10 : decode jdk_42_method_151_code 10 = .ok (.iload_n 2, 1) := by decide +kernel
theorem d12_11 : decode jdk_42_method_151_code 11 = .ok (.putfield 15, 3) := by decide +kernel
theorem d12_14 : decode jdk_42_method_151_code 14 = .ok (.return_, 1) := by decide +kernel
theorem pn12 : plainName "java/lang/String" = true := by first | (simp [plainName, overriddenIn]; done) | decide +kernel
theorem pdx_7 : parseMethodDescriptor "(C)[B" = some ⟨[.char], some (.array .byte)⟩ := by decide +kernel
theorem ef12_rri (m : MethodId) (x0 : Addr) (x1 : Addr) (x2 : Int32) : entryFrame m #[(.ref x0), (.ref x1), (.int x2)] 3 = mkF m 0 #[.val (.ref x0), .val (.ref x1), .val (.int x2)] [] := by first | (simp [entryFrame, mkF, argsToLocals, Value.category]; done) | rfl
set_option maxRecDepth 65536 in
set_option maxHeartbeats 40000000 in
theorem rx12_45 (l : Launch) (Z : State) (a0 : Array Value) (hw : ∀ d ∈ tables_1, d.before a0 Z = true) (ws : List Jvm.Cond) (n0 : Nat) (h0 : Heap) (O0 : Old Z n0 h0)  (b38 : Addr) (b43 : Addr) (PE_b38 : Exa Z h0 b38 "java/lang/String") (PF_b38_value : Fld Z h0 b38 "java/lang/String" "value" "[B" .null) (PF_b38_coder : Fld Z h0 b38 "java/lang/String" "coder" "B" (.int 0)) (g_b38 : n0 ≤ b38) :
  Meets1 l ym10 jdk_42_method_151_code 3 none ws ({ frames := 1, cells := 0, slots := 0, locals := 12 } : Room) #[(.ref b38), (.ref b43), (.int 0)] Z h0 (fun v h L => v = none ∧ Fr n0 L ∧ Keep h0 h [b38] ∧ Fld Z h b38 "java/lang/String" "value" "[B" (.ref b43) ∧ Fld Z h b38 "java/lang/String" "coder" "B" (.int 0)) := by
 refine MetFree.of_bodySF (plainFor_of_name pn12) hisR ?_
 intro p e s m args below meth c s₁ Bd hml0 hP hK
 obtain ⟨rfl, hZ, hh⟩ := hP
 have hx := Bd.exec
 have hby := Bd.bytes
 have hml : c.maxLocals = 3 := hml0
 have hown : s.vm.findClass "java/lang/String" = some m.cls := findClass_of_methodNamed Bd.named
 have hnm := (name_of_methodNamed Bd.named Bd.method).1
 have X0 : Stand p l e ({ frames := 1, cells := 0, slots := 0, locals := 12 } : Room) s m #[(.ref b38), (.ref b43), (.int 0)] below meth c s₁ [] 0 0 := Stand.of_body Bd
 have e0 : s₁.heap = h0 := by rw [← hh, Bd.state]; rfl
 have N0 := Fr.nil n0
 have Z0 := own_old_le O0
 show Ends _ _ _ _ s₁ (entryFrame m #[(.ref b38), (.ref b43), (.int 0)] 3) ({ frames := 1, cells := 0, slots := 0, locals := 12 } : Room).cells ({ frames := 1, cells := 0, slots := 0, locals := 12 } : Room).slots (fun v h L => v = none ∧ Fr n0 L ∧ Keep h0 h [b38] ∧ Fld Z h b38 "java/lang/String" "value" "[B" (.ref b43) ∧ Fld Z h b38 "java/lang/String" "coder" "B" (.int 0))
 refine Ends.go (fun _ k => castTop (ef12_rri m b38 b43 (0 : Int32)) k) ?_
 have K0 := Keep.refl h0 [b38]
 show Ends _ _ _ _ s₁ (mkF m 0 #[cr b38, cr b43, ci 0] []) _ _ _
 refine walN X0 hx hby d12_0 rfl rfl ?_
 obtain ⟨T46, X46, e46, st46⟩ := initO X0 hx hZ hown (ow hw 75 rfl) (ow hw 16 rfl) (ow hw 17 rfl) e0 (g := (mkF m 1 #[cr b38, cr b43, ci 0] [(.ref b38)])) rfl (by rw [hml]; rfl) rfl (hb hby d12_1) (by decide) (W := 0) (by show 2 * 0 + _ ≤ _; exact Nat.le_of_eq rfl) (by decide)
 refine Ends.go st46 ?_
 refine walN X46 hx hby d12_4 rfl rfl ?_
 show Ends _ _ _ _ T46 (mkF m 5 #[cr b38, cr b43, ci 0] [(.ref b38)]) _ _ _
 refine walN X46 hx hby d12_5 rfl rfl ?_
 obtain ⟨T47, h47, X47, e47, W47, st47⟩ := putF X46 hx hZ hown (host := "") (Or.inl (ow hw 76 rfl)) Via.refl e46 PF_b38_value PE_b38 (Or.inr ⟨(ow hw 22 rfl), rfl, hnm⟩) (ow hw 20 rfl) (ty := (.array .byte)) (by decide) rfl rfl (g := (mkF m 6 #[cr b38, cr b43, ci 0] [(.ref b43), (.ref b38)])) rfl rfl (hb hby d12_6)
 refine Ends.go st47 ?_
 have Fw47 := PF_b38_value.same W47
 have K47 := K0.wr W47 (Or.inl (List.mem_of_getElem? (i := 0) rfl))
 have O47 := O0.wr W47 g_b38
 have N47 := Fr.snoc X47 N0 g_b38
 refine walN X47 hx hby d12_9 rfl rfl ?_
 refine wilN X47 hx hby d12_10 rfl ?_
 show Ends _ _ _ _ T47 (mkF m 11 #[cr b38, cr b43, ci 0] [(.int 0), (.ref b38)]) _ _ _
 obtain ⟨T48, h48, X48, e48, W48, st48⟩ := putFN X47 hx hZ hown (ow hw 77 rfl) Via.refl e47 (PF_b38_coder.other W47 (Or.inr (slot_ne (Or.inr (ow hw 23 rfl)) (Or.inr (ow hw 22 rfl)) (by decide) (t := .byte) (t' := (.array .byte)) (by decide) (by decide)))) (PE_b38.wr W47) (Or.inr ⟨(ow hw 23 rfl), rfl, hnm⟩) (ow hw 20 rfl) (ty := .byte) (v' := (.int 0)) (by decide) rfl (by decide) (g := (mkF m 11 #[cr b38, cr b43, ci 0] [(.int 0), (.ref b38)])) rfl rfl (hb hby d12_11)
 refine Ends.go st48 ?_
 have Fw48 := (PF_b38_coder.other W47 (Or.inr (slot_ne (Or.inr (ow hw 23 rfl)) (Or.inr (ow hw 22 rfl)) (by decide) (t := .byte) (t' := (.array .byte)) (by decide) (by decide)))).same W48
 have K48 := K47.wr W48 (Or.inl (List.mem_of_getElem? (i := 0) rfl))
 have O48 := O47.wr W48 g_b38
 have N48 := Fr.snoc X48 N47 g_b38
 refine Ends.retV X48 hx Bd.notSynchronized Bd.returns (hb hby d12_14) (by decide) (by decide) ?_
 rw [e48]
 exact ⟨rfl, N48, K48, (Fw47.other W48 (Or.inr (slot_ne (Or.inr (ow hw 22 rfl)) (Or.inr (ow hw 23 rfl)) (by decide) (t := (.array .byte)) (t' := .byte) (by decide) (by decide)))), Fw48⟩

theorem d9_0 : decode jdk_42_method_139_code 0 = .ok (.getstatic 38, 3) := by decide +kernel
theorem d9_3 : decode jdk_42_method_139_code 3 = .ok (.ifCond .eq 23, 3) := by decide +kernel
theorem d9_6 : decode jdk_42_method_139_code 6 = .ok (.iload_n 0, 1) := by decide +kernel
theorem d9_7 : decode jdk_42_method_139_code 7 = .ok (.invokestatic 1015, 3) := by decide +kernel
theorem d9_10 : decode jdk_42_method_139_code 10 = .ok (.ifCond .eq 16, 3) := by decide +kernel
theorem d9_13 : decode jdk_42_method_139_code 13 = .ok (.new 10, 3) := by decide +kernel
theorem d9_16 : decode jdk_42_method_139_code 16 = .ok (.dup, 1) := by decide +kernel
theorem d9_17 : decode jdk_42_method_139_code 17 = .ok (.iload_n 0, 1) := by decide +kernel
theorem d9_18 : decode jdk_42_method_139_code 18 = .ok (.invokestatic 1018, 3) := by decide +kernel
theorem d9_21 : decode jdk_42_method_139_code 21 = .ok (.iconst 0, 1) := by decide +kernel
theorem d9_22 : decode jdk_42_method_139_code 22 = .ok (.invokespecial 209, 3) := by decide +kernel
theorem d9_25 : decode jdk_42_method_139_code 25 = .ok (.areturn, 1) := by decide +kernel
theorem pn9 : plainName "java/lang/String" = true := by first | (simp [plainName, overriddenIn]; done) | decide +kernel
theorem pdx_8 : parseMethodDescriptor "([BB)V" = some ⟨[(.array .byte), .byte], none⟩ := by decide +kernel
theorem ef9_i (m : MethodId) (x0 : Int32) : entryFrame m #[(.int x0)] 1 = mkF m 0 #[.val (.int x0)] [] := by first | (simp [entryFrame, mkF, argsToLocals, Value.category]; done) | rfl
set_option maxRecDepth 65536 in
set_option maxHeartbeats 40000000 in
theorem rx9_34 (l : Launch) (Z : State) (a0 : Array Value) (hw : ∀ d ∈ tables_1, d.before a0 Z = true) (ws : List Jvm.Cond) (n0 : Nat) (h0 : Heap) (O0 : Old Z n0 h0) (G1 : Int32) (G3 : Value) (w_NULL : Addr) (w_NUMBER : Addr) (w_NULL2 : Addr) (w_STRING : Addr) (GF : GlobF Z a0 G1 G3 w_NULL w_NUMBER w_NULL2 w_STRING) (p1 : Int32) (hDG : own_dig (((48 : Int32) + ((p1 &&& (2147483647 : Int32)) % (10 : Int32))).toUInt32.toUInt16.toUInt32.toInt32)) :
  Meets1 l ym11 jdk_42_method_139_code 1 (some (.object "java/lang/String")) ws ({ frames := 2, cells := 2, slots := 5, locals := 27 } : Room) #[(.int (((48 : Int32) + ((p1 &&& (2147483647 : Int32)) % (10 : Int32))).toUInt32.toUInt16.toUInt32.toInt32))] Z h0 (fun v h L => ∃ (b38 : Addr) (b43 : Addr) (k44 : ClassId), v = some (.ref b38) ∧ Fr n0 L ∧ Keep h0 h [] ∧ h0.size ≤ b38 ∧ h0.size ≤ b43 ∧ b38 ≠ b43 ∧ Exa Z h b38 "java/lang/String" ∧ Arv Z h b43 k44 .byte (1 : Int32) [(.int ((((48 : Int32) + ((p1 &&& (2147483647 : Int32)) % (10 : Int32))).toUInt32.toUInt16.toUInt32.toInt32).toInt8.toInt32))] (.int 0) ∧ Fld Z h b38 "java/lang/String" "value" "[B" (.ref b43) ∧ Fld Z h b38 "java/lang/String" "coder" "B" (.int 0)) := by
 refine MetFree.of_bodySF (plainFor_of_name pn9) hisR ?_
 intro p e s m args below meth c s₁ Bd hml0 hP hK
 obtain ⟨rfl, hZ, hh⟩ := hP
 have hx := Bd.exec
 have hby := Bd.bytes
 have hml : c.maxLocals = 1 := hml0
 have hown : s.vm.findClass "java/lang/String" = some m.cls := findClass_of_methodNamed Bd.named
 have hnm := (name_of_methodNamed Bd.named Bd.method).1
 have X0 : Stand p l e ({ frames := 2, cells := 2, slots := 5, locals := 27 } : Room) s m #[(.int (((48 : Int32) + ((p1 &&& (2147483647 : Int32)) % (10 : Int32))).toUInt32.toUInt16.toUInt32.toInt32))] below meth c s₁ [] 0 0 := Stand.of_body Bd
 have e0 : s₁.heap = h0 := by rw [← hh, Bd.state]; rfl
 have N0 := Fr.nil n0
 have Z0 := own_old_le O0
 show Ends _ _ _ _ s₁ (entryFrame m #[(.int (((48 : Int32) + ((p1 &&& (2147483647 : Int32)) % (10 : Int32))).toUInt32.toUInt16.toUInt32.toInt32))] 1) ({ frames := 2, cells := 2, slots := 5, locals := 27 } : Room).cells ({ frames := 2, cells := 2, slots := 5, locals := 27 } : Room).slots (fun v h L => ∃ (b38 : Addr) (b43 : Addr) (k44 : ClassId), v = some (.ref b38) ∧ Fr n0 L ∧ Keep h0 h [] ∧ h0.size ≤ b38 ∧ h0.size ≤ b43 ∧ b38 ≠ b43 ∧ Exa Z h b38 "java/lang/String" ∧ Arv Z h b43 k44 .byte (1 : Int32) [(.int ((((48 : Int32) + ((p1 &&& (2147483647 : Int32)) % (10 : Int32))).toUInt32.toUInt16.toUInt32.toInt32).toInt8.toInt32))] (.int 0) ∧ Fld Z h b38 "java/lang/String" "value" "[B" (.ref b43) ∧ Fld Z h b38 "java/lang/String" "coder" "B" (.int 0))
 refine Ends.go (fun _ k => castTop (ef9_i m (((48 : Int32) + ((p1 &&& (2147483647 : Int32)) % (10 : Int32))).toUInt32.toUInt16.toUInt32.toInt32)) k) ?_
 obtain ⟨SCS, P5, SSF, RG3, HCST, HCW, S_NULL, E_NULL, S_NUMBER, E_NUMBER, F_ordinal_NULL, F_ordinal_NUMBER, S_NULL2, E_NULL2, F_kind_NULL2, S_STRING, E_STRING, F_ordinal_STRING⟩ := id GF
 have K0 := Keep.refl h0 []
 show Ends _ _ _ _ s₁ (mkF m 0 #[ci (((48 : Int32) + ((p1 &&& (2147483647 : Int32)) % (10 : Int32))).toUInt32.toUInt16.toUInt32.toInt32)] []) _ _ _
 obtain ⟨T35, X35, e35, st35⟩ := getS2 X0 hx hZ hown (host := "") (Or.inl (ow hw 62 rfl)) Via.refl e0 (SCS.ext O0.2) (g := (mkF m 0 #[ci (((48 : Int32) + ((p1 &&& (2147483647 : Int32)) % (10 : Int32))).toUInt32.toUInt16.toUInt32.toInt32)] [])) rfl (hb hby d9_0)
 refine Ends.go st35 ?_
 refine win X35 hx hby d9_3 ((if0 _ _).trans (feq (P5 : ¬ (G1 = (0 : Int32)))).1) ?_
 refine wilN X35 hx hby d9_6 rfl ?_
 show Ends _ _ _ _ T35 (mkF m 7 #[ci (((48 : Int32) + ((p1 &&& (2147483647 : Int32)) % (10 : Int32))).toUInt32.toUInt16.toUInt32.toInt32)] [(.int (((48 : Int32) + ((p1 &&& (2147483647 : Int32)) % (10 : Int32))).toUInt32.toUInt16.toUInt32.toInt32))]) _ _ _
 obtain ⟨_, _, ⟨T37, L37, k37, n37⟩, -, X37, ⟨Lc37, hQ37, l37, y37, z37⟩, st37⟩ := Jvm.LawKit.callS X35 hx (y := ym8) hown (mvT hZ (ow hw 63 rfl)) (mvT hZ (ow hw 64 rfl)) (mvT hZ (ow hw 65 rfl)) (mvT hZ (ow hw 66 rfl)) (by decide) (own_backOf (W := 0) (rx10_36 l Z a0 hw [] n0 h0 O0  p1 hDG) hZ (ow hw 66 rfl) (ow hw 65 rfl) (by decide) (by decide)) (g := (mkF m 7 #[ci (((48 : Int32) + ((p1 &&& (2147483647 : Int32)) % (10 : Int32))).toUInt32.toUInt16.toUInt32.toInt32)] [(.int (((48 : Int32) + ((p1 &&& (2147483647 : Int32)) % (10 : Int32))).toUInt32.toUInt16.toUInt32.toInt32))])) rfl (by rw [hml]; rfl) (argsL := [(.int (((48 : Int32) + ((p1 &&& (2147483647 : Int32)) % (10 : Int32))).toUInt32.toUInt16.toUInt32.toInt32))]) (rest := []) (lenOf pdx_6 rfl) rfl (by show 2 * 0 + _ ≤ _; exact Nat.le_of_eq rfl) (hb hby d9_7) (fun _ _ => ⟨rfl, e35, (by decide : 0 + 0 ≤ _), (by decide : 0 + 0 ≤ _)⟩)
 dsimp only [Pt.U, Pt.locs, Pt.cells, Pt.slots] at X37 l37 y37 z37 st37 hQ37
 subst l37 y37 z37
 obtain ⟨rfl, N37q, K37c⟩ := hQ37
 have N37 := Fr.app N0 N37q
 refine Ends.go st37 ?_
 obtain ⟨h37, e37⟩ : ∃ z, T37.heap = z := ⟨_, rfl⟩
 rw [e37] at K37c
 have K37 := K0.trans K37c all0
 have O37 := O0.keep K37c all0
 refine win X37 hx hby d9_10 ((if0 _ _).trans (feq (by decide : ¬ ((1 : Int32) = (0 : Int32)))).1) ?_
 obtain ⟨T38, h38, X38, e38, E38, A38, D38, -, st38⟩ := newO X37 hx hZ hown (ow hw 67 rfl) (ow hw 20 rfl) (ow hw 19 rfl) e37 (g := (mkF m 13 #[ci (((48 : Int32) + ((p1 &&& (2147483647 : Int32)) % (10 : Int32))).toUInt32.toUInt16.toUInt32.toInt32)] [])) rfl (hb hby d9_13) (by decide) (by decide)
 obtain ⟨b38, g38⟩ : ∃ z, z = h37.size := ⟨_, rfl⟩
 rw [← g38] at A38 D38 st38
 refine Ends.go st38 ?_
 have g_b38 : n0 ≤ b38 := Nat.le_trans (own_old_le O37) (Nat.le_of_eq g38.symm)
 have sz_b38 : h0.size ≤ b38 := Nat.le_trans K37.1 (Nat.le_of_eq g38.symm)
 have K38 := K37.ext E38
 have O38 := O37.ext E38
 have F_value_b38 : Fld Z h38 b38 "java/lang/String" "value" "[B" .null := D38 (Or.inr (ow hw 22 rfl)) (ty := (.array .byte)) (by decide)
 have F_coder_b38 : Fld Z h38 b38 "java/lang/String" "coder" "B" (.int 0) := D38 (Or.inr (ow hw 23 rfl)) (ty := .byte) (by decide)
 refine wdu X38 hx hby d9_16 rfl ?_
 show Ends _ _ _ _ T38 (mkF m 17 #[ci (((48 : Int32) + ((p1 &&& (2147483647 : Int32)) % (10 : Int32))).toUInt32.toUInt16.toUInt32.toInt32)] [(.ref b38), (.ref b38)]) _ _ _
 refine wilN X38 hx hby d9_17 rfl ?_
 obtain ⟨_, _, ⟨T42, L42, k42, n42⟩, -, X42, ⟨Lc42, hQ42, l42, y42, z42⟩, st42⟩ := Jvm.LawKit.callS X38 hx (y := ym9) hown (mvT hZ (ow hw 68 rfl)) (mvT hZ (ow hw 69 rfl)) (mvT hZ (ow hw 65 rfl)) (mvT hZ (ow hw 70 rfl)) (by decide) (own_backOf (W := 2) (rx11_39 l Z a0 hw [] n0 h38 O38  p1 ) hZ (ow hw 70 rfl) (ow hw 65 rfl) (by decide) (by decide)) (g := (mkF m 18 #[ci (((48 : Int32) + ((p1 &&& (2147483647 : Int32)) % (10 : Int32))).toUInt32.toUInt16.toUInt32.toInt32)] [(.int (((48 : Int32) + ((p1 &&& (2147483647 : Int32)) % (10 : Int32))).toUInt32.toUInt16.toUInt32.toInt32)), (.ref b38), (.ref b38)])) rfl (by rw [hml]; rfl) (argsL := [(.int (((48 : Int32) + ((p1 &&& (2147483647 : Int32)) % (10 : Int32))).toUInt32.toUInt16.toUInt32.toInt32))]) (rest := [(.ref b38), (.ref b38)]) (lenOf pdx_7 rfl) rfl (by show 2 * 0 + _ ≤ _; exact Nat.le_of_eq rfl) (hb hby d9_18) (fun _ _ => ⟨rfl, e38, (by decide : 1 + 1 ≤ _), (by decide : 4 + 1 ≤ _)⟩)
 dsimp only [Pt.U, Pt.locs, Pt.cells, Pt.slots] at X42 l42 y42 z42 st42 hQ42
 subst l42 y42 z42
 obtain ⟨b43, k44, rfl, N42q, K42c, hb42_b43, Y42_0⟩ := hQ42
 have N42 := Fr.app N37 N42q
 refine Ends.go st42 ?_
 have g_b43 : n0 ≤ b43 := Nat.le_trans (own_old_le O38) hb42_b43
 have sz_b43 : h0.size ≤ b43 := Nat.le_trans K38.1 hb42_b43
 obtain ⟨h42, e42⟩ : ∃ z, T42.heap = z := ⟨_, rfl⟩
 rw [e42] at K42c Y42_0
 have K42 := K38.trans K42c all0
 have O42 := O38.keep K42c all0
 refine wic X42 hx hby d9_21 ?_
 obtain ⟨_, _, ⟨T49, L49, k49, n49⟩, -, X49, ⟨Lc49, hQ49, l49, y49, z49⟩, st49⟩ := X42.specialBack hx (y := ym10) rfl hown (mvT hZ (ow hw 71 rfl)) (mvT hZ (ow hw 72 rfl)) (mvT hZ (ow hw 74 rfl)) (by decide) (own_backOf (W := 1) (rx12_45 l Z a0 hw [] n0 h42 O42  b38 b43 (A38.keep K42c) (F_value_b38.keep K42c nin0) (F_coder_b38.keep K42c nin0) g_b38) hZ (ow hw 74 rfl) (ow hw 19 rfl) (by decide) (by decide)) (g := (mkF m 22 #[ci (((48 : Int32) + ((p1 &&& (2147483647 : Int32)) % (10 : Int32))).toUInt32.toUInt16.toUInt32.toInt32)] [(.int 0), (.ref b43), (.ref b38), (.ref b38)])) rfl (by rw [hml]; rfl) (Steps.refl _) (a := b38) (argsL := [(.ref b43), (.int 0)]) (rest := [(.ref b38)]) (lenOf pdx_8 rfl) rfl (by show 2 * 0 + _ ≤ _; exact Nat.le_of_eq rfl) (hb hby d9_22) (fun _ _ => ⟨rfl, e42, (by decide : 2 + 0 ≤ _), (by decide : 5 + 0 ≤ _)⟩)
 dsimp only [Pt.U, Pt.locs, Pt.cells, Pt.slots] at X49 l49 y49 z49 st49 hQ49
 subst l49 y49 z49
 obtain ⟨rfl, N49q, K49c, Y49_0, Y49_1⟩ := hQ49
 have N49 := Fr.app N42 N49q
 refine Ends.go (fun _ k => st49.trans k) ?_
 obtain ⟨h49, e49⟩ : ∃ z, T49.heap = z := ⟨_, rfl⟩
 rw [e49] at K49c Y49_0 Y49_1
 have K49 := K42.trans K49c (allS (Or.inr sz_b38) all0)
 have O49 := O42.keep K49c (allS g_b38 all0)
 show Ends _ _ _ _ T49 (mkF m 25 #[ci (((48 : Int32) + ((p1 &&& (2147483647 : Int32)) % (10 : Int32))).toUInt32.toUInt16.toUInt32.toInt32)] [(.ref b38)]) _ _ _
 refine Ends.ret X49 hx Bd.notSynchronized (t := (.object "java/lang/String")) Bd.returns rfl (Or.inr (Or.inr (Or.inr (Or.inr ⟨rfl, rfl, rfl⟩)))) (hb hby d9_25) (by decide) (by decide) ?_
 rw [e49]
 have ne_b38_b43 : b38 ≠ b43 := Nat.ne_of_lt (Nat.lt_of_lt_of_le A38.lt hb42_b43)
 exact ⟨b38, b43, k44, rfl, N49, K49, sz_b38, sz_b43, ne_b38_b43, ((A38.keep K42c).keep K49c), (Y42_0.keep K49c (ninS (Ne.symm ne_b38_b43) nin0)), Y49_0, Y49_1⟩

theorem d8_0 : decode method_3_code 0 = .ok (.iload_n 0, 1) := by decide +kernel
theorem d8_1 : decode method_3_code 1 = .ok (.ldc 16, 2) := by decide +kernel
theorem d8_3 : decode method_3_code 3 = .ok (.iand, 1) := by decide +kernel
theorem d8_4 : decode method_3_code 4 = .ok (.bipush 10, 2) := by decide +kernel
theorem d8_6 : decode method_3_code 6 = .ok (.irem, 1) := by decide +kernel
theorem d8_7 : decode method_3_code 7 = .ok (.istore_n 2, 1) := by decide +kernel
theorem d8_8 : decode method_3_code 8 = .ok (.bipush 48, 2) := by decide +kernel
theorem d8_10 : decode method_3_code 10 = .ok (.iload_n 2, 1) := by decide +kernel
theorem d8_11 : decode method_3_code 11 = .ok (.iadd, 1) := by decide +kernel
theorem d8_12 : decode method_3_code 12 = .ok (.i2c, 1) := by decide +kernel
theorem d8_13 : decode method_3_code 13 = .ok (.istore_n 3, 1) := by decide +kernel
theorem d8_14 : decode method_3_code 14 = .ok (.iload_n 1, 1) := by decide +kernel
theorem d8_15 : decode method_3_code 15 = .ok (.iconst 1, 1) := by decide +kernel
theorem d8_16 : decode method_3_code 16 = .ok (.iand, 1) := by decide +kernel
theorem d8_17 : decode method_3_code 17 = .ok (.ifCond .eq 23, 3) := by decide +kernel
theorem d8_40 : decode method_3_code 40 = .ok (.iload_n 3, 1) := by decide +kernel
theorem d8_41 : decode method_3_code 41 = .ok (.invokestatic 12, 3) := by decide +kernel
theorem d8_44 : decode method_3_code 44 = .ok (.areturn, 1) := by decide +kernel
theorem pn8 : plainName "com/example/wakeline/wakeline/event/ValueIsNullPinLaw" = true := by first | (simp [plainName, overriddenIn]; done) | decide +kernel
theorem pdx_9 : parseMethodDescriptor "(C)Ljava/lang/String;" = some ⟨[.char], some (.object "java/lang/String")⟩ := by decide +kernel
theorem ef8_ii (m : MethodId) (x0 : Int32) (x1 : Int32) : entryFrame m #[(.int x0), (.int x1)] 4 = mkF m 0 #[.val (.int x0), .val (.int x1), .unset, .unset] [] := by first | (simp [entryFrame, mkF, argsToLocals, Value.category]; done) | rfl
set_option maxRecDepth 65536 in
set_option maxHeartbeats 40000000 in
theorem rx8_33 (l : Launch) (Z : State) (a0 : Array Value) (hw : ∀ d ∈ tables_1, d.before a0 Z = true) (ws : List Jvm.Cond) (n0 : Nat) (h0 : Heap) (O0 : Old Z n0 h0) (G1 : Int32) (G3 : Value) (w_NULL : Addr) (w_NUMBER : Addr) (w_NULL2 : Addr) (w_STRING : Addr) (GF : GlobF Z a0 G1 G3 w_NULL w_NUMBER w_NULL2 w_STRING) (p1 : Int32) (p2 : Int32) (hbit_ : (p2 &&& (1 : Int32)) = (0 : Int32)) (hDG : own_dig (((48 : Int32) + ((p1 &&& (2147483647 : Int32)) % (10 : Int32))).toUInt32.toUInt16.toUInt32.toInt32)) :
  Meets1 l ym12 method_3_code 4 (some (.object "java/lang/String")) ws ({ frames := 3, cells := 2, slots := 5, locals := 39 } : Room) #[(.int p1), (.int p2)] Z h0 (fun v h L => ∃ (b51 : Addr) (b52 : Addr) (k53 : ClassId), v = some (.ref b51) ∧ Fr n0 L ∧ Keep h0 h [] ∧ h0.size ≤ b51 ∧ h0.size ≤ b52 ∧ b51 ≠ b52 ∧ Exa Z h b51 "java/lang/String" ∧ Arv Z h b52 k53 .byte (1 : Int32) [(.int ((((48 : Int32) + ((p1 &&& (2147483647 : Int32)) % (10 : Int32))).toUInt32.toUInt16.toUInt32.toInt32).toInt8.toInt32))] (.int 0) ∧ Fld Z h b51 "java/lang/String" "value" "[B" (.ref b52) ∧ Fld Z h b51 "java/lang/String" "coder" "B" (.int 0)) := by
 refine MetFree.of_bodySF (plainFor_of_name pn8) hisR ?_
 intro p e s m args below meth c s₁ Bd hml0 hP hK
 obtain ⟨rfl, hZ, hh⟩ := hP
 have hx := Bd.exec
 have hby := Bd.bytes
 have hml : c.maxLocals = 4 := hml0
 have hown : s.vm.findClass "com/example/wakeline/wakeline/event/ValueIsNullPinLaw" = some m.cls := findClass_of_methodNamed Bd.named
 have hnm := (name_of_methodNamed Bd.named Bd.method).1
 have X0 : Stand p l e ({ frames := 3, cells := 2, slots := 5, locals := 39 } : Room) s m #[(.int p1), (.int p2)] below meth c s₁ [] 0 0 := Stand.of_body Bd
 have e0 : s₁.heap = h0 := by rw [← hh, Bd.state]; rfl
 have N0 := Fr.nil n0
 have Z0 := own_old_le O0
 show Ends _ _ _ _ s₁ (entryFrame m #[(.int p1), (.int p2)] 4) ({ frames := 3, cells := 2, slots := 5, locals := 39 } : Room).cells ({ frames := 3, cells := 2, slots := 5, locals := 39 } : Room).slots (fun v h L => ∃ (b51 : Addr) (b52 : Addr) (k53 : ClassId), v = some (.ref b51) ∧ Fr n0 L ∧ Keep h0 h [] ∧ h0.size ≤ b51 ∧ h0.size ≤ b52 ∧ b51 ≠ b52 ∧ Exa Z h b51 "java/lang/String" ∧ Arv Z h b52 k53 .byte (1 : Int32) [(.int ((((48 : Int32) + ((p1 &&& (2147483647 : Int32)) % (10 : Int32))).toUInt32.toUInt16.toUInt32.toInt32).toInt8.toInt32))] (.int 0) ∧ Fld Z h b51 "java/lang/String" "value" "[B" (.ref b52) ∧ Fld Z h b51 "java/lang/String" "coder" "B" (.int 0))
 refine Ends.go (fun _ k => castTop (ef8_ii m p1 p2) k) ?_
 obtain ⟨SCS, P5, SSF, RG3, HCST, HCW, S_NULL, E_NULL, S_NUMBER, E_NUMBER, F_ordinal_NULL, F_ordinal_NUMBER, S_NULL2, E_NULL2, F_kind_NULL2, S_STRING, E_STRING, F_ordinal_STRING⟩ := id GF
 have K0 := Keep.refl h0 []
 show Ends _ _ _ _ s₁ (mkF m 0 #[ci p1, ci p2, cu, cu] []) _ _ _
 refine wilN X0 hx hby d8_0 rfl ?_
 refine Ends.go (X0.ldcInt hx hown (mvT hZ (ow hw 0 rfl)) (g := (mkF m 1 #[ci p1, ci p2, cu, cu] [(.int p1)])) rfl (hb hby d8_1)) ?_
 refine wan X0 hx hby d8_3 ?_
 show Ends _ _ _ _ s₁ (mkF m 4 #[ci p1, ci p2, cu, cu] [(.int (p1 &&& (2147483647 : Int32)))]) _ _ _
 refine wbp X0 hx hby d8_4 ?_
 refine .go (fun _ => iremM X0 hx rfl (hb hby d8_6) rfl (by decide)) ?_
 refine wstN X0 hx hby d8_7 (l' := #[ci p1, ci p2, ci ((p1 &&& (2147483647 : Int32)) % (10 : Int32)), cu]) rfl ?_
 refine wbp X0 hx hby d8_8 ?_
 show Ends _ _ _ _ s₁ (mkF m 10 #[ci p1, ci p2, ci ((p1 &&& (2147483647 : Int32)) % (10 : Int32)), cu] [(.int 48)]) _ _ _
 refine wilN X0 hx hby d8_10 rfl ?_
 refine wia X0 hx hby d8_11 ?_
 refine .go (fun _ => XS.i2c X0.here hx rfl (hb hby d8_12) rfl) ?_
 refine wstN X0 hx hby d8_13 (l' := #[ci p1, ci p2, ci ((p1 &&& (2147483647 : Int32)) % (10 : Int32)), ci (((48 : Int32) + ((p1 &&& (2147483647 : Int32)) % (10 : Int32))).toUInt32.toUInt16.toUInt32.toInt32)]) rfl ?_
 show Ends _ _ _ _ s₁ (mkF m 14 #[ci p1, ci p2, ci ((p1 &&& (2147483647 : Int32)) % (10 : Int32)), ci (((48 : Int32) + ((p1 &&& (2147483647 : Int32)) % (10 : Int32))).toUInt32.toUInt16.toUInt32.toInt32)] []) _ _ _
 refine wilN X0 hx hby d8_14 rfl ?_
 refine wic X0 hx hby d8_15 ?_
 refine wan X0 hx hby d8_16 ?_
 refine wiy (pc := 17) (pc' := 40) X0 hx hby d8_17 ((if0 _ _).trans (teq (hbit_ : (p2 &&& (1 : Int32)) = (0 : Int32))).1) (by decide) (by decide) ?_
 show Ends _ _ _ _ s₁ (mkF m 40 #[ci p1, ci p2, ci ((p1 &&& (2147483647 : Int32)) % (10 : Int32)), ci (((48 : Int32) + ((p1 &&& (2147483647 : Int32)) % (10 : Int32))).toUInt32.toUInt16.toUInt32.toInt32)] []) _ _ _
 refine wilN X0 hx hby d8_40 rfl ?_
 obtain ⟨_, _, ⟨T50, L50, k50, n50⟩, -, X50, ⟨Lc50, hQ50, l50, y50, z50⟩, st50⟩ := Jvm.LawKit.callS X0 hx (y := ym11) hown (mvT hZ (ow hw 59 rfl)) (mvT hZ (ow hw 60 rfl)) (mvT hZ (ow hw 19 rfl)) (mvT hZ (ow hw 61 rfl)) (by decide) (own_backOf (W := 0) (rx9_34 l Z a0 hw [] n0 h0 O0 G1 G3 w_NULL w_NUMBER w_NULL2 w_STRING GF p1 hDG) hZ (ow hw 61 rfl) (ow hw 19 rfl) (by decide) (by decide)) (g := (mkF m 41 #[ci p1, ci p2, ci ((p1 &&& (2147483647 : Int32)) % (10 : Int32)), ci (((48 : Int32) + ((p1 &&& (2147483647 : Int32)) % (10 : Int32))).toUInt32.toUInt16.toUInt32.toInt32)] [(.int (((48 : Int32) + ((p1 &&& (2147483647 : Int32)) % (10 : Int32))).toUInt32.toUInt16.toUInt32.toInt32))])) rfl (by rw [hml]; rfl) (argsL := [(.int (((48 : Int32) + ((p1 &&& (2147483647 : Int32)) % (10 : Int32))).toUInt32.toUInt16.toUInt32.toInt32))]) (rest := []) (lenOf pdx_9 rfl) rfl (by show 2 * 0 + _ ≤ _; exact Nat.le_of_eq rfl) (hb hby d8_41) (fun _ _ => ⟨rfl, e0, (by decide : 0 + 2 ≤ _), (by decide : 0 + 5 ≤ _)⟩)
 dsimp only [Pt.U, Pt.locs, Pt.cells, Pt.slots] at X50 l50 y50 z50 st50 hQ50
 subst l50 y50 z50
 obtain ⟨b51, b52, k53, rfl, N50q, K50c, hb50_b51, hb50_b52, hne50_b51_b52, Y50_0, Y50_1, Y50_2, Y50_3⟩ := hQ50
 have N50 := Fr.app N0 N50q
 refine Ends.go st50 ?_
 have g_b51 : n0 ≤ b51 := Nat.le_trans (own_old_le O0) hb50_b51
 have sz_b51 : h0.size ≤ b51 := Nat.le_trans K0.1 hb50_b51
 have g_b52 : n0 ≤ b52 := Nat.le_trans (own_old_le O0) hb50_b52
 have sz_b52 : h0.size ≤ b52 := Nat.le_trans K0.1 hb50_b52
 obtain ⟨h50, e50⟩ : ∃ z, T50.heap = z := ⟨_, rfl⟩
 rw [e50] at K50c Y50_0 Y50_1 Y50_2 Y50_3
 have K50 := K0.trans K50c all0
 have O50 := O0.keep K50c all0
 refine Ends.ret X50 hx Bd.notSynchronized (t := (.object "java/lang/String")) Bd.returns rfl (Or.inr (Or.inr (Or.inr (Or.inr ⟨rfl, rfl, rfl⟩)))) (hb hby d8_44) (by decide) (by decide) ?_
 rw [e50]
 exact ⟨b51, b52, k53, rfl, N50, K50, sz_b51, sz_b52, hne50_b51_b52, Y50_0, Y50_1, Y50_2, Y50_3⟩

theorem pdx_10 : parseMethodDescriptor "(II)Ljava/lang/String;" = some ⟨[.int, .int], some (.object "java/lang/String")⟩ := by decide +kernel
set_option maxRecDepth 65536 in
set_option maxHeartbeats 40000000 in
theorem rx4_61 (l : Launch) (Z : State) (a0 : Array Value) (hw : ∀ d ∈ tables_1, d.before a0 Z = true) (ws : List Jvm.Cond) (n0 : Nat) (h0 : Heap) (O0 : Old Z n0 h0) (G1 : Int32) (G3 : Value) (w_NULL : Addr) (w_NUMBER : Addr) (w_NULL2 : Addr) (w_STRING : Addr) (GF : GlobF Z a0 G1 G3 w_NULL w_NUMBER w_NULL2 w_STRING) (a60 : Addr)  :
  Meets1 l ym3 jdk_31_method_11_code 2 (some (.object "java/lang/Object")) ws ({ frames := 0, cells := 0, slots := 0, locals := 0 } : Room) #[(.ref w_NUMBER), (.ref a60)] Z h0 (fun v h L => v = some (.ref w_NUMBER) ∧ Fr n0 L ∧ Keep h0 h []) := by
 refine MetFree.of_bodySF (plainFor_of_name pn4) hisR ?_
 intro p e s m args below meth c s₁ Bd hml0 hP hK
 obtain ⟨rfl, hZ, hh⟩ := hP
 have hx := Bd.exec
 have hby := Bd.bytes
 have hml : c.maxLocals = 2 := hml0
 have hown : s.vm.findClass "java/util/Objects" = some m.cls := findClass_of_methodNamed Bd.named
 have hnm := (name_of_methodNamed Bd.named Bd.method).1
 have X0 : Stand p l e ({ frames := 0, cells := 0, slots := 0, locals := 0 } : Room) s m #[(.ref w_NUMBER), (.ref a60)] below meth c s₁ [] 0 0 := Stand.of_body Bd
 have e0 : s₁.heap = h0 := by rw [← hh, Bd.state]; rfl
 have N0 := Fr.nil n0
 have Z0 := own_old_le O0
 show Ends _ _ _ _ s₁ (entryFrame m #[(.ref w_NUMBER), (.ref a60)] 2) ({ frames := 0, cells := 0, slots := 0, locals := 0 } : Room).cells ({ frames := 0, cells := 0, slots := 0, locals := 0 } : Room).slots (fun v h L => v = some (.ref w_NUMBER) ∧ Fr n0 L ∧ Keep h0 h [])
 refine Ends.go (fun _ k => castTop (ef4_rr m w_NUMBER a60) k) ?_
 obtain ⟨SCS, P5, SSF, RG3, HCST, HCW, S_NULL, E_NULL, S_NUMBER, E_NUMBER, F_ordinal_NULL, F_ordinal_NUMBER, S_NULL2, E_NULL2, F_kind_NULL2, S_STRING, E_STRING, F_ordinal_STRING⟩ := id GF
 have K0 := Keep.refl h0 []
 show Ends _ _ _ _ s₁ (mkF m 0 #[cr w_NUMBER, cr a60] []) _ _ _
 refine walN X0 hx hby d4_0 rfl rfl ?_
 refine .go (fun _ => XS.ifnonnullYes X0.here hx rfl (pc0 := 1) (pc' := 13) rfl (hb hby d4_1) rfl (by decide) (by decide)) ?_
 refine walN X0 hx hby d4_13 rfl rfl ?_
 show Ends _ _ _ _ s₁ (mkF m 14 #[cr w_NUMBER, cr a60] [(.ref w_NUMBER)]) _ _ _
 refine Ends.ret X0 hx Bd.notSynchronized (t := (.object "java/lang/Object")) Bd.returns rfl (Or.inr (Or.inr (Or.inr (Or.inr ⟨rfl, rfl, rfl⟩)))) (hb hby d4_14) (by decide) (by decide) ?_
 rw [e0]
 exact ⟨rfl, N0, K0⟩

theorem d16_0 : decode jdk_42_method_152_code 0 = .ok (.getstatic 38, 3) := by decide +kernel
theorem d16_3 : decode jdk_42_method_152_code 3 = .ok (.ifCond .eq 10, 3) := by decide +kernel
theorem d16_6 : decode jdk_42_method_152_code 6 = .ok (.aload_n 0, 1) := by decide +kernel
theorem d16_7 : decode jdk_42_method_152_code 7 = .ok (.getfield 15, 3) := by decide +kernel
theorem d16_10 : decode jdk_42_method_152_code 10 = .ok (.goto 4, 3) := by decide +kernel
theorem d16_14 : decode jdk_42_method_152_code 14 = .ok (.ireturn, 1) := by decide +kernel
theorem pn16 : plainName "java/lang/String" = true := by first | (simp [plainName, overriddenIn]; done) | decide +kernel
theorem ef16_r (m : MethodId) (x0 : Addr) : entryFrame m #[(.ref x0)] 1 = mkF m 0 #[.val (.ref x0)] [] := by first | (simp [entryFrame, mkF, argsToLocals, Value.category]; done) | rfl
set_option maxRecDepth 65536 in
set_option maxHeartbeats 40000000 in
theorem rx16_70 (l : Launch) (Z : State) (a0 : Array Value) (hw : ∀ d ∈ tables_1, d.before a0 Z = true) (ws : List Jvm.Cond) (n0 : Nat) (h0 : Heap) (O0 : Old Z n0 h0) (G1 : Int32) (G3 : Value) (w_NULL : Addr) (w_NUMBER : Addr) (w_NULL2 : Addr) (w_STRING : Addr) (GF : GlobF Z a0 G1 G3 w_NULL w_NUMBER w_NULL2 w_STRING) (b55 : Addr) (PF_b55_coder : Fld Z h0 b55 "java/lang/String" "coder" "B" (.int 0)) :
  Meets1 l ym13 jdk_42_method_152_code 1 (some .byte) ws ({ frames := 0, cells := 0, slots := 0, locals := 0 } : Room) #[(.ref b55)] Z h0 (fun v h L => v = some (.int 0) ∧ Fr n0 L ∧ Keep h0 h []) := by
 refine MetFree.of_bodySF (plainFor_of_name pn16) hisR ?_
 intro p e s m args below meth c s₁ Bd hml0 hP hK
 obtain ⟨rfl, hZ, hh⟩ := hP
 have hx := Bd.exec
 have hby := Bd.bytes
 have hml : c.maxLocals = 1 := hml0
 have hown : s.vm.findClass "java/lang/String" = some m.cls := findClass_of_methodNamed Bd.named
 have hnm := (name_of_methodNamed Bd.named Bd.method).1
 have X0 : Stand p l e ({ frames := 0, cells := 0, slots := 0, locals := 0 } : Room) s m #[(.ref b55)] below meth c s₁ [] 0 0 := Stand.of_body Bd
 have e0 : s₁.heap = h0 := by rw [← hh, Bd.state]; rfl
 have N0 := Fr.nil n0
 have Z0 := own_old_le O0
 show Ends _ _ _ _ s₁ (entryFrame m #[(.ref b55)] 1) ({ frames := 0, cells := 0, slots := 0, locals := 0 } : Room).cells ({ frames := 0, cells := 0, slots := 0, locals := 0 } : Room).slots (fun v h L => v = some (.int 0) ∧ Fr n0 L ∧ Keep h0 h [])
 refine Ends.go (fun _ k => castTop (ef16_r m b55) k) ?_
 obtain ⟨SCS, P5, SSF, RG3, HCST, HCW, S_NULL, E_NULL, S_NUMBER, E_NUMBER, F_ordinal_NULL, F_ordinal_NUMBER, S_NULL2, E_NULL2, F_kind_NULL2, S_STRING, E_STRING, F_ordinal_STRING⟩ := id GF
 have K0 := Keep.refl h0 []
 show Ends _ _ _ _ s₁ (mkF m 0 #[cr b55] []) _ _ _
 obtain ⟨T71, X71, e71, st71⟩ := getS2 X0 hx hZ hown (host := "") (Or.inl (ow hw 62 rfl)) Via.refl e0 (SCS.ext O0.2) (g := (mkF m 0 #[cr b55] [])) rfl (hb hby d16_0)
 refine Ends.go st71 ?_
 refine win X71 hx hby d16_3 ((if0 _ _).trans (feq (P5 : ¬ (G1 = (0 : Int32)))).1) ?_
 refine walN X71 hx hby d16_6 rfl rfl ?_
 show Ends _ _ _ _ T71 (mkF m 7 #[cr b55] [(.ref b55)]) _ _ _
 obtain ⟨T72, X72, e72, st72⟩ := getF X71 hx hZ hown (host := "") (Or.inl (ow hw 77 rfl)) Via.refl e71 PF_b55_coder (g := (mkF m 7 #[cr b55] [(.ref b55)])) rfl rfl (hb hby d16_7)
 refine Ends.go st72 ?_
 refine wgo (pc := 10) (pc' := 14) X72 hx hby d16_10 (by decide) (by decide) ?_
 refine Ends.retZ X72 hx Bd.notSynchronized (t := .byte) Bd.returns (by simp) (hb hby d16_14) (by decide) (by decide) ?_
 rw [e72]
 exact ⟨rfl, N0, K0⟩

theorem d15_0 : decode jdk_42_method_54_code 0 = .ok (.aload_n 0, 1) := by decide +kernel
theorem d15_1 : decode jdk_42_method_54_code 1 = .ok (.getfield 9, 3) := by decide +kernel
theorem d15_4 : decode jdk_42_method_54_code 4 = .ok (.arraylength, 1) := by decide +kernel
theorem d15_5 : decode jdk_42_method_54_code 5 = .ok (.aload_n 0, 1) := by decide +kernel
theorem d15_6 : decode jdk_42_method_54_code 6 = .ok (.invokevirtual 335, 3) := by decide +kernel
theorem d15_9 : decode jdk_42_method_54_code 9 = .ok (.ishr, 1) := by decide +kernel
theorem d15_10 : decode jdk_42_method_54_code 10 = .ok (.ireturn, 1) := by decide +kernel
theorem pn15 : plainName "java/lang/String" = true := by first | (simp [plainName, overriddenIn]; done) | decide +kernel
theorem pdx_11 : parseMethodDescriptor "()B" = some ⟨[], some .byte⟩ := by decide +kernel
theorem ef15_r (m : MethodId) (x0 : Addr) : entryFrame m #[(.ref x0)] 1 = mkF m 0 #[.val (.ref x0)] [] := by first | (simp [entryFrame, mkF, argsToLocals, Value.category]; done) | rfl
set_option maxRecDepth 65536 in
set_option maxHeartbeats 40000000 in
theorem rx15_67 (l : Launch) (Z : State) (a0 : Array Value) (hw : ∀ d ∈ tables_1, d.before a0 Z = true) (ws : List Jvm.Cond) (n0 : Nat) (h0 : Heap) (O0 : Old Z n0 h0) (G1 : Int32) (G3 : Value) (w_NULL : Addr) (w_NUMBER : Addr) (w_NULL2 : Addr) (w_STRING : Addr) (GF : GlobF Z a0 G1 G3 w_NULL w_NUMBER w_NULL2 w_STRING) (b55 : Addr) (b56 : Addr) (k57 : ClassId) (p1 : Int32) (PF_b55_value : Fld Z h0 b55 "java/lang/String" "value" "[B" (.ref b56)) (PV_b56 : Arv Z h0 b56 k57 .byte (1 : Int32) [(.int ((((48 : Int32) + ((p1 &&& (2147483647 : Int32)) % (10 : Int32))).toUInt32.toUInt16.toUInt32.toInt32).toInt8.toInt32))] (.int 0)) (PF_b55_coder : Fld Z h0 b55 "java/lang/String" "coder" "B" (.int 0)) (PE_b55 : Exa Z h0 b55 "java/lang/String") :
  Meets1 l ym14 jdk_42_method_54_code 1 (some .int) ws ({ frames := 1, cells := 0, slots := 0, locals := 13 } : Room) #[(.ref b55)] Z h0 (fun v h L => v = some (.int 1) ∧ Fr n0 L ∧ Keep h0 h []) := by
 refine MetFree.of_bodySF (plainFor_of_name pn15) hisR ?_
 intro p e s m args below meth c s₁ Bd hml0 hP hK
 obtain ⟨rfl, hZ, hh⟩ := hP
 have hx := Bd.exec
 have hby := Bd.bytes
 have hml : c.maxLocals = 1 := hml0
 have hown : s.vm.findClass "java/lang/String" = some m.cls := findClass_of_methodNamed Bd.named
 have hnm := (name_of_methodNamed Bd.named Bd.method).1
 have X0 : Stand p l e ({ frames := 1, cells := 0, slots := 0, locals := 13 } : Room) s m #[(.ref b55)] below meth c s₁ [] 0 0 := Stand.of_body Bd
 have e0 : s₁.heap = h0 := by rw [← hh, Bd.state]; rfl
 have N0 := Fr.nil n0
 have Z0 := own_old_le O0
 show Ends _ _ _ _ s₁ (entryFrame m #[(.ref b55)] 1) ({ frames := 1, cells := 0, slots := 0, locals := 13 } : Room).cells ({ frames := 1, cells := 0, slots := 0, locals := 13 } : Room).slots (fun v h L => v = some (.int 1) ∧ Fr n0 L ∧ Keep h0 h [])
 refine Ends.go (fun _ k => castTop (ef15_r m b55) k) ?_
 obtain ⟨SCS, P5, SSF, RG3, HCST, HCW, S_NULL, E_NULL, S_NUMBER, E_NUMBER, F_ordinal_NULL, F_ordinal_NUMBER, S_NULL2, E_NULL2, F_kind_NULL2, S_STRING, E_STRING, F_ordinal_STRING⟩ := id GF
 have K0 := Keep.refl h0 []
 show Ends _ _ _ _ s₁ (mkF m 0 #[cr b55] []) _ _ _
 refine walN X0 hx hby d15_0 rfl rfl ?_
 obtain ⟨T68, X68, e68, st68⟩ := getF X0 hx hZ hown (host := "") (Or.inl (ow hw 76 rfl)) Via.refl e0 PF_b55_value (g := (mkF m 1 #[cr b55] [(.ref b55)])) rfl rfl (hb hby d15_1)
 refine Ends.go st68 ?_
 obtain ⟨cl69, Ar69, q69, S69, M69, H69, G69⟩ := id PV_b56
 refine Ends.go (X68.arraylength hx (by rw [e68]; exact Ar69.1) (State.isArrayOf_alike hZ.alike Ar69.2.1) (g := (mkF m 4 #[cr b55] [(.ref b56)])) rfl rfl (hb hby d15_4)) ?_
 rw [len_of S69 M69]
 show Ends _ _ _ _ T68 (mkF m 5 #[cr b55] [(.int 1)]) _ _ _
 refine walN X68 hx hby d15_5 rfl rfl ?_
 obtain ⟨cq73, kq73, q73a, q73b, q73c⟩ := isOf hZ e68 PE_b55
 obtain ⟨_, _, ⟨T73, L73, k73, n73⟩, -, X73, ⟨Lc73, hQ73, l73, y73, z73⟩, st73⟩ := X68.virtualBack hx (y := ym13) (z := ym13) hown (mvT hZ (ow hw 90 rfl)) (mvT hZ (ow hw 91 rfl)) (notFace_of_selects (args := #[]) (mvT hZ (ow hw 93 rfl))) (mvT hZ (ow hw 93 rfl)) (mvT hZ (ow hw 92 rfl)) (by decide) (own_backOf (W := 1) (rx16_70 l Z a0 hw [] n0 h0 O0 G1 G3 w_NULL w_NUMBER w_NULL2 w_STRING GF b55 PF_b55_coder) hZ (ow hw 94 rfl) (ow hw 19 rfl) (by decide) (by decide)) q73a q73c (g := (mkF m 6 #[cr b55] [(.ref b55), (.int 1)])) rfl (by rw [hml]; rfl) (Steps.refl _) (argsL := []) (rest := [(.int 1)]) (lenOf pdx_11 rfl) rfl (by show 2 * 0 + _ ≤ _; exact Nat.le_of_eq rfl) (hb hby d15_6) (fun _ _ => ⟨rfl, e68, (by decide : 0 + 0 ≤ _), (by decide : 0 + 0 ≤ _)⟩)
 dsimp only [Pt.U, Pt.locs, Pt.cells, Pt.slots] at X73 l73 y73 z73 st73 hQ73
 subst l73 y73 z73
 obtain ⟨rfl, N73q, K73c⟩ := hQ73
 have N73 := Fr.app N0 N73q
 refine Ends.go (fun _ k => st73.trans k) ?_
 obtain ⟨h73, e73⟩ : ∃ z, T73.heap = z := ⟨_, rfl⟩
 rw [e73] at K73c
 have K73 := K0.trans K73c all0
 have O73 := O0.keep K73c all0
 refine .go (fun _ => XS.ishr X73.here hx rfl (hb hby d15_9) rfl) ?_
 refine Ends.ret X73 hx Bd.notSynchronized (t := .int) Bd.returns rfl (Or.inl ⟨rfl, by simp, _, rfl⟩) (hb hby d15_10) (by decide) (by decide) ?_
 rw [e73]
 exact ⟨rfl, N73, K73⟩

theorem d18_0 : decode jdk_42_method_154_code 0 = .ok (.getstatic 38, 3) := by decide +kernel
theorem d18_3 : decode jdk_42_method_154_code 3 = .ok (.ifCond .eq 14, 3) := by decide +kernel
theorem d18_6 : decode jdk_42_method_154_code 6 = .ok (.aload_n 0, 1) := by decide +kernel
theorem d18_7 : decode jdk_42_method_154_code 7 = .ok (.getfield 15, 3) := by decide +kernel
theorem d18_10 : decode jdk_42_method_154_code 10 = .ok (.ifCond .ne 7, 3) := by decide +kernel
theorem d18_13 : decode jdk_42_method_154_code 13 = .ok (.iconst 1, 1) := by decide +kernel
theorem d18_14 : decode jdk_42_method_154_code 14 = .ok (.goto 4, 3) := by decide +kernel
theorem d18_18 : decode jdk_42_method_154_code 18 = .ok (.ireturn, 1) := by decide +kernel
theorem pn18 : plainName "java/lang/String" = true := by first | (simp [plainName, overriddenIn]; done) | decide +kernel
theorem pdx_12 : parseMethodDescriptor "()I" = some ⟨[], some .int⟩ := by decide +kernel
theorem ef18_r (m : MethodId) (x0 : Addr) : entryFrame m #[(.ref x0)] 1 = mkF m 0 #[.val (.ref x0)] [] := by first | (simp [entryFrame, mkF, argsToLocals, Value.category]; done) | rfl
set_option maxRecDepth 65536 in
set_option maxHeartbeats 40000000 in
theorem rx18_76 (l : Launch) (Z : State) (a0 : Array Value) (hw : ∀ d ∈ tables_1, d.before a0 Z = true) (ws : List Jvm.Cond) (n0 : Nat) (h0 : Heap) (O0 : Old Z n0 h0) (G1 : Int32) (G3 : Value) (w_NULL : Addr) (w_NUMBER : Addr) (w_NULL2 : Addr) (w_STRING : Addr) (GF : GlobF Z a0 G1 G3 w_NULL w_NUMBER w_NULL2 w_STRING) (b55 : Addr) (PF_b55_coder : Fld Z h0 b55 "java/lang/String" "coder" "B" (.int 0)) :
  Meets1 l ym15 jdk_42_method_154_code 1 (some .boolean) ws ({ frames := 0, cells := 0, slots := 0, locals := 0 } : Room) #[(.ref b55)] Z h0 (fun v h L => v = some (.int 1) ∧ Fr n0 L ∧ Keep h0 h []) := by
 refine MetFree.of_bodySF (plainFor_of_name pn18) hisR ?_
 intro p e s m args below meth c s₁ Bd hml0 hP hK
 obtain ⟨rfl, hZ, hh⟩ := hP
 have hx := Bd.exec
 have hby := Bd.bytes
 have hml : c.maxLocals = 1 := hml0
 have hown : s.vm.findClass "java/lang/String" = some m.cls := findClass_of_methodNamed Bd.named
 have hnm := (name_of_methodNamed Bd.named Bd.method).1
 have X0 : Stand p l e ({ frames := 0, cells := 0, slots := 0, locals := 0 } : Room) s m #[(.ref b55)] below meth c s₁ [] 0 0 := Stand.of_body Bd
 have e0 : s₁.heap = h0 := by rw [← hh, Bd.state]; rfl
 have N0 := Fr.nil n0
 have Z0 := own_old_le O0
 show Ends _ _ _ _ s₁ (entryFrame m #[(.ref b55)] 1) ({ frames := 0, cells := 0, slots := 0, locals := 0 } : Room).cells ({ frames := 0, cells := 0, slots := 0, locals := 0 } : Room).slots (fun v h L => v = some (.int 1) ∧ Fr n0 L ∧ Keep h0 h [])
 refine Ends.go (fun _ k => castTop (ef18_r m b55) k) ?_
 obtain ⟨SCS, P5, SSF, RG3, HCST, HCW, S_NULL, E_NULL, S_NUMBER, E_NUMBER, F_ordinal_NULL, F_ordinal_NUMBER, S_NULL2, E_NULL2, F_kind_NULL2, S_STRING, E_STRING, F_ordinal_STRING⟩ := id GF
 have K0 := Keep.refl h0 []
 show Ends _ _ _ _ s₁ (mkF m 0 #[cr b55] []) _ _ _
 obtain ⟨T77, X77, e77, st77⟩ := getS2 X0 hx hZ hown (host := "") (Or.inl (ow hw 62 rfl)) Via.refl e0 (SCS.ext O0.2) (g := (mkF m 0 #[cr b55] [])) rfl (hb hby d18_0)
 refine Ends.go st77 ?_
 refine win X77 hx hby d18_3 ((if0 _ _).trans (feq (P5 : ¬ (G1 = (0 : Int32)))).1) ?_
 refine walN X77 hx hby d18_6 rfl rfl ?_
 show Ends _ _ _ _ T77 (mkF m 7 #[cr b55] [(.ref b55)]) _ _ _
 obtain ⟨T78, X78, e78, st78⟩ := getF X77 hx hZ hown (host := "") (Or.inl (ow hw 77 rfl)) Via.refl e77 PF_b55_coder (g := (mkF m 7 #[cr b55] [(.ref b55)])) rfl rfl (hb hby d18_7)
 refine Ends.go st78 ?_
 refine win X78 hx hby d18_10 ((if0 _ _).trans (teq (by decide : (0 : Int32) = (0 : Int32))).2) ?_
 refine wic X78 hx hby d18_13 ?_
 refine wgo (pc := 14) (pc' := 18) X78 hx hby d18_14 (by decide) (by decide) ?_
 show Ends _ _ _ _ T78 (mkF m 18 #[cr b55] [(.int 1)]) _ _ _
 refine Ends.retZ X78 hx Bd.notSynchronized (t := .boolean) Bd.returns (by simp) (hb hby d18_18) (by decide) (by decide) ?_
 rw [e78]
 exact ⟨rfl, N0, K0⟩

theorem d19_0 : decode jdk_43_method_2_code 0 = .ok (.iload_n 1, 1) := by decide +kernel
theorem d19_1 : decode jdk_43_method_2_code 1 = .ok (.aload_n 0, 1) := by decide +kernel
theorem d19_2 : decode jdk_43_method_2_code 2 = .ok (.arraylength, 1) := by decide +kernel
theorem d19_3 : decode jdk_43_method_2_code 3 = .ok (.invokestatic 9, 3) := by decide +kernel
theorem d19_6 : decode jdk_43_method_2_code 6 = .ok (.aload_n 0, 1) := by decide +kernel
theorem d19_7 : decode jdk_43_method_2_code 7 = .ok (.iload_n 1, 1) := by decide +kernel
theorem d19_8 : decode jdk_43_method_2_code 8 = .ok (.baload, 1) := by decide +kernel
theorem d19_9 : decode jdk_43_method_2_code 9 = .ok (.sipush 255, 3) := by decide +kernel
theorem d19_12 : decode jdk_43_method_2_code 12 = .ok (.iand, 1) := by decide +kernel
theorem d19_13 : decode jdk_43_method_2_code 13 = .ok (.i2c, 1) := by decide +kernel
theorem d19_14 : decode jdk_43_method_2_code 14 = .ok (.ireturn, 1) := by decide +kernel
theorem pn19 : plainName "java/lang/StringLatin1" = true := by first | (simp [plainName, overriddenIn]; done) | decide +kernel
theorem pdx_13 : parseMethodDescriptor "(II)V" = some ⟨[.int, .int], none⟩ := by decide +kernel
theorem ef19_ri (m : MethodId) (x0 : Addr) (x1 : Int32) : entryFrame m #[(.ref x0), (.int x1)] 2 = mkF m 0 #[.val (.ref x0), .val (.int x1)] [] := by first | (simp [entryFrame, mkF, argsToLocals, Value.category]; done) | rfl
set_option maxRecDepth 65536 in
set_option maxHeartbeats 40000000 in
theorem rx19_81 (l : Launch) (Z : State) (a0 : Array Value) (hw : ∀ d ∈ tables_1, d.before a0 Z = true) (ws : List Jvm.Cond) (n0 : Nat) (h0 : Heap) (O0 : Old Z n0 h0) (G1 : Int32) (G3 : Value) (w_NULL : Addr) (w_NUMBER : Addr) (w_NULL2 : Addr) (w_STRING : Addr) (GF : GlobF Z a0 G1 G3 w_NULL w_NUMBER w_NULL2 w_STRING) (b56 : Addr) (k57 : ClassId) (p1 : Int32) (PV_b56 : Arv Z h0 b56 k57 .byte (1 : Int32) [(.int ((((48 : Int32) + ((p1 &&& (2147483647 : Int32)) % (10 : Int32))).toUInt32.toUInt16.toUInt32.toInt32).toInt8.toInt32))] (.int 0)) (hDG : own_dig (((48 : Int32) + ((p1 &&& (2147483647 : Int32)) % (10 : Int32))).toUInt32.toUInt16.toUInt32.toInt32)) :
  Meets1 l ym16 jdk_43_method_2_code 2 (some .char) ws ({ frames := 2, cells := 0, slots := 0, locals := 27 } : Room) #[(.ref b56), (.int 0)] Z h0 (fun v h L => v = some (.int (((48 : Int32) + ((p1 &&& (2147483647 : Int32)) % (10 : Int32))).toUInt32.toUInt16.toUInt32.toInt32)) ∧ Fr n0 L ∧ Keep h0 h []) := by
 refine MetFree.of_bodySF (plainFor_of_name pn19) hisR ?_
 intro p e s m args below meth c s₁ Bd hml0 hP hK
 obtain ⟨rfl, hZ, hh⟩ := hP
 have hx := Bd.exec
 have hby := Bd.bytes
 have hml : c.maxLocals = 2 := hml0
 have hown : s.vm.findClass "java/lang/StringLatin1" = some m.cls := findClass_of_methodNamed Bd.named
 have hnm := (name_of_methodNamed Bd.named Bd.method).1
 have X0 : Stand p l e ({ frames := 2, cells := 0, slots := 0, locals := 27 } : Room) s m #[(.ref b56), (.int 0)] below meth c s₁ [] 0 0 := Stand.of_body Bd
 have e0 : s₁.heap = h0 := by rw [← hh, Bd.state]; rfl
 have N0 := Fr.nil n0
 have Z0 := own_old_le O0
 show Ends _ _ _ _ s₁ (entryFrame m #[(.ref b56), (.int 0)] 2) ({ frames := 2, cells := 0, slots := 0, locals := 27 } : Room).cells ({ frames := 2, cells := 0, slots := 0, locals := 27 } : Room).slots (fun v h L => v = some (.int (((48 : Int32) + ((p1 &&& (2147483647 : Int32)) % (10 : Int32))).toUInt32.toUInt16.toUInt32.toInt32)) ∧ Fr n0 L ∧ Keep h0 h [])
 refine Ends.go (fun _ k => castTop (ef19_ri m b56 (0 : Int32)) k) ?_
 obtain ⟨SCS, P5, SSF, RG3, HCST, HCW, S_NULL, E_NULL, S_NUMBER, E_NUMBER, F_ordinal_NULL, F_ordinal_NUMBER, S_NULL2, E_NULL2, F_kind_NULL2, S_STRING, E_STRING, F_ordinal_STRING⟩ := id GF
 have K0 := Keep.refl h0 []
 show Ends _ _ _ _ s₁ (mkF m 0 #[cr b56, ci 0] []) _ _ _
 refine wilN X0 hx hby d19_0 rfl ?_
 refine walN X0 hx hby d19_1 rfl rfl ?_
 obtain ⟨cl82, Ar82, q82, S82, M82, H82, G82⟩ := id PV_b56
 refine Ends.go (X0.arraylength hx (by rw [e0]; exact Ar82.1) (State.isArrayOf_alike hZ.alike Ar82.2.1) (g := (mkF m 2 #[cr b56, ci 0] [(.ref b56), (.int 0)])) rfl rfl (hb hby d19_2)) ?_
 rw [len_of S82 M82]
 show Ends _ _ _ _ s₁ (mkF m 3 #[cr b56, ci 0] [(.int 1), (.int 0)]) _ _ _
 obtain ⟨_, _, ⟨T83, L83, k83, n83⟩, -, X83, ⟨Lc83, hQ83, l83, y83, z83⟩, st83⟩ := Jvm.LawKit.callS X0 hx (y := ym1) hown (mvT hZ (ow hw 108 rfl)) (mvT hZ (ow hw 109 rfl)) (mvT hZ (ow hw 19 rfl)) (mvT hZ (ow hw 110 rfl)) (by decide) (own_backOf (W := 0) (rm_ci l Z a0 hw [] n0 h0 O0 (0 : Int32) (1 : Int32) G1 G3 w_NULL w_NUMBER w_NULL2 w_STRING GF (by decide) (by decide)) hZ (ow hw 110 rfl) (ow hw 19 rfl) (by decide) (by decide)) (g := (mkF m 3 #[cr b56, ci 0] [(.int 1), (.int 0)])) rfl (by rw [hml]; rfl) (argsL := [(.int 0), (.int 1)]) (rest := []) (lenOf pdx_13 rfl) rfl (by show 2 * 0 + _ ≤ _; exact Nat.le_of_eq rfl) (hb hby d19_3) (fun _ _ => ⟨rfl, e0, (by decide : 0 + 0 ≤ _), (by decide : 0 + 0 ≤ _)⟩)
 dsimp only [Pt.U, Pt.locs, Pt.cells, Pt.slots] at X83 l83 y83 z83 st83 hQ83
 subst l83 y83 z83
 obtain ⟨rfl, N83q, e83q⟩ := hQ83
 have N83 := Fr.app N0 N83q
 refine Ends.go st83 ?_
 refine walN X83 hx hby d19_6 rfl rfl ?_
 refine wilN X83 hx hby d19_7 rfl ?_
 obtain ⟨cl84, Ar84, q84, S84, M84, H84, G84⟩ := id PV_b56
 have hin84 := inb_of (j := (0 : Int32)) S84 ⟨by decide, by decide⟩
 refine Ends.go (X83.baloadBytes hx (j := (0 : Int32)) (v := (.int ((((48 : Int32) + ((p1 &&& (2147483647 : Int32)) % (10 : Int32))).toUInt32.toUInt16.toUInt32.toInt32).toInt8.toInt32))) (by rw [e83q]; exact Ar84.1) (State.isArrayOf_alike hZ.alike Ar84.2.1) Ar84.2.2 hin84 (H84.at hin84 rfl) (g := (mkF m 8 #[cr b56, ci 0] [(.int 0), (.ref b56)])) rfl rfl (hb hby d19_8)) ?_
 show Ends _ _ _ _ T83 (mkF m 9 #[cr b56, ci 0] [(.int ((((48 : Int32) + ((p1 &&& (2147483647 : Int32)) % (10 : Int32))).toUInt32.toUInt16.toUInt32.toInt32).toInt8.toInt32))]) _ _ _
 refine wsp X83 hx hby d19_9 ?_
 refine wan X83 hx hby d19_12 ?_
 refine .go (fun _ => XS.i2c X83.here hx rfl (hb hby d19_13) rfl) ?_
 refine Ends.retZ X83 hx Bd.notSynchronized (t := .char) Bd.returns (by simp) (hb hby d19_14) (by decide) (by decide) ?_
 rw [e83q]
 exact ⟨(congrArg (fun z => some (Value.int z)) (own_l1d hDG)), N83, K0⟩

theorem d17_0 : decode jdk_42_method_56_code 0 = .ok (.aload_n 0, 1) := by decide +kernel
theorem d17_1 : decode jdk_42_method_56_code 1 = .ok (.invokevirtual 492, 3) := by decide +kernel
theorem d17_4 : decode jdk_42_method_56_code 4 = .ok (.ifCond .eq 12, 3) := by decide +kernel
theorem d17_7 : decode jdk_42_method_56_code 7 = .ok (.aload_n 0, 1) := by decide +kernel
theorem d17_8 : decode jdk_42_method_56_code 8 = .ok (.getfield 9, 3) := by decide +kernel
theorem d17_11 : decode jdk_42_method_56_code 11 = .ok (.iload_n 1, 1) := by decide +kernel
theorem d17_12 : decode jdk_42_method_56_code 12 = .ok (.invokestatic 495, 3) := by decide +kernel
theorem d17_15 : decode jdk_42_method_56_code 15 = .ok (.ireturn, 1) := by decide +kernel
theorem pn17 : plainName "java/lang/String" = true := by first | (simp [plainName, overriddenIn]; done) | decide +kernel
theorem pdx_14 : parseMethodDescriptor "([BI)C" = some ⟨[(.array .byte), .int], some .char⟩ := by decide +kernel
theorem ef17_ri (m : MethodId) (x0 : Addr) (x1 : Int32) : entryFrame m #[(.ref x0), (.int x1)] 2 = mkF m 0 #[.val (.ref x0), .val (.int x1)] [] := by first | (simp [entryFrame, mkF, argsToLocals, Value.category]; done) | rfl
set_option maxRecDepth 65536 in
set_option maxHeartbeats 40000000 in
theorem rx17_75 (l : Launch) (Z : State) (a0 : Array Value) (hw : ∀ d ∈ tables_1, d.before a0 Z = true) (ws : List Jvm.Cond) (n0 : Nat) (h0 : Heap) (O0 : Old Z n0 h0) (G1 : Int32) (G3 : Value) (w_NULL : Addr) (w_NUMBER : Addr) (w_NULL2 : Addr) (w_STRING : Addr) (GF : GlobF Z a0 G1 G3 w_NULL w_NUMBER w_NULL2 w_STRING) (b55 : Addr) (b56 : Addr) (k57 : ClassId) (p1 : Int32) (PF_b55_coder : Fld Z h0 b55 "java/lang/String" "coder" "B" (.int 0)) (PE_b55 : Exa Z h0 b55 "java/lang/String") (PF_b55_value : Fld Z h0 b55 "java/lang/String" "value" "[B" (.ref b56)) (PV_b56 : Arv Z h0 b56 k57 .byte (1 : Int32) [(.int ((((48 : Int32) + ((p1 &&& (2147483647 : Int32)) % (10 : Int32))).toUInt32.toUInt16.toUInt32.toInt32).toInt8.toInt32))] (.int 0)) (hDG : own_dig (((48 : Int32) + ((p1 &&& (2147483647 : Int32)) % (10 : Int32))).toUInt32.toUInt16.toUInt32.toInt32)) :
  Meets1 l ym17 jdk_42_method_56_code 2 (some .char) ws ({ frames := 3, cells := 0, slots := 0, locals := 40 } : Room) #[(.ref b55), (.int 0)] Z h0 (fun v h L => v = some (.int (((48 : Int32) + ((p1 &&& (2147483647 : Int32)) % (10 : Int32))).toUInt32.toUInt16.toUInt32.toInt32)) ∧ Fr n0 L ∧ Keep h0 h []) := by
 refine MetFree.of_bodySF (plainFor_of_name pn17) hisR ?_
 intro p e s m args below meth c s₁ Bd hml0 hP hK
 obtain ⟨rfl, hZ, hh⟩ := hP
 have hx := Bd.exec
 have hby := Bd.bytes
 have hml : c.maxLocals = 2 := hml0
 have hown : s.vm.findClass "java/lang/String" = some m.cls := findClass_of_methodNamed Bd.named
 have hnm := (name_of_methodNamed Bd.named Bd.method).1
 have X0 : Stand p l e ({ frames := 3, cells := 0, slots := 0, locals := 40 } : Room) s m #[(.ref b55), (.int 0)] below meth c s₁ [] 0 0 := Stand.of_body Bd
 have e0 : s₁.heap = h0 := by rw [← hh, Bd.state]; rfl
 have N0 := Fr.nil n0
 have Z0 := own_old_le O0
 show Ends _ _ _ _ s₁ (entryFrame m #[(.ref b55), (.int 0)] 2) ({ frames := 3, cells := 0, slots := 0, locals := 40 } : Room).cells ({ frames := 3, cells := 0, slots := 0, locals := 40 } : Room).slots (fun v h L => v = some (.int (((48 : Int32) + ((p1 &&& (2147483647 : Int32)) % (10 : Int32))).toUInt32.toUInt16.toUInt32.toInt32)) ∧ Fr n0 L ∧ Keep h0 h [])
 refine Ends.go (fun _ k => castTop (ef17_ri m b55 (0 : Int32)) k) ?_
 obtain ⟨SCS, P5, SSF, RG3, HCST, HCW, S_NULL, E_NULL, S_NUMBER, E_NUMBER, F_ordinal_NULL, F_ordinal_NUMBER, S_NULL2, E_NULL2, F_kind_NULL2, S_STRING, E_STRING, F_ordinal_STRING⟩ := id GF
 have K0 := Keep.refl h0 []
 show Ends _ _ _ _ s₁ (mkF m 0 #[cr b55, ci 0] []) _ _ _
 refine walN X0 hx hby d17_0 rfl rfl ?_
 obtain ⟨cq79, kq79, q79a, q79b, q79c⟩ := isOf hZ e0 PE_b55
 obtain ⟨_, _, ⟨T79, L79, k79, n79⟩, -, X79, ⟨Lc79, hQ79, l79, y79, z79⟩, st79⟩ := X0.virtualBack hx (y := ym15) (z := ym15) hown (mvT hZ (ow hw 100 rfl)) (mvT hZ (ow hw 101 rfl)) (notFace_of_selects (args := #[]) (mvT hZ (ow hw 103 rfl))) (mvT hZ (ow hw 103 rfl)) (mvT hZ (ow hw 102 rfl)) (by decide) (own_backOf (W := 0) (rx18_76 l Z a0 hw [] n0 h0 O0 G1 G3 w_NULL w_NUMBER w_NULL2 w_STRING GF b55 PF_b55_coder) hZ (ow hw 104 rfl) (ow hw 19 rfl) (by decide) (by decide)) q79a q79c (g := (mkF m 1 #[cr b55, ci 0] [(.ref b55)])) rfl (by rw [hml]; rfl) (Steps.refl _) (argsL := []) (rest := []) (lenOf pdx_3 rfl) rfl (by show 2 * 0 + _ ≤ _; exact Nat.le_of_eq rfl) (hb hby d17_1) (fun _ _ => ⟨rfl, e0, (by decide : 0 + 0 ≤ _), (by decide : 0 + 0 ≤ _)⟩)
 dsimp only [Pt.U, Pt.locs, Pt.cells, Pt.slots] at X79 l79 y79 z79 st79 hQ79
 subst l79 y79 z79
 obtain ⟨rfl, N79q, K79c⟩ := hQ79
 have N79 := Fr.app N0 N79q
 refine Ends.go (fun _ k => st79.trans k) ?_
 obtain ⟨h79, e79⟩ : ∃ z, T79.heap = z := ⟨_, rfl⟩
 rw [e79] at K79c
 have K79 := K0.trans K79c all0
 have O79 := O0.keep K79c all0
 refine win X79 hx hby d17_4 ((if0 _ _).trans (feq (by decide : ¬ ((1 : Int32) = (0 : Int32)))).1) ?_
 show Ends _ _ _ _ T79 (mkF m 7 #[cr b55, ci 0] []) _ _ _
 refine walN X79 hx hby d17_7 rfl rfl ?_
 obtain ⟨T80, X80, e80, st80⟩ := getF X79 hx hZ hown (host := "") (Or.inl (ow hw 76 rfl)) Via.refl e79 (PF_b55_value.keep K79c nin0) (g := (mkF m 8 #[cr b55, ci 0] [(.ref b55)])) rfl rfl (hb hby d17_8)
 refine Ends.go st80 ?_
 refine wilN X80 hx hby d17_11 rfl ?_
 obtain ⟨_, _, ⟨T85, L85, k85, n85⟩, -, X85, ⟨Lc85, hQ85, l85, y85, z85⟩, st85⟩ := Jvm.LawKit.callS X80 hx (y := ym16) hown (mvT hZ (ow hw 105 rfl)) (mvT hZ (ow hw 106 rfl)) (mvT hZ (ow hw 65 rfl)) (mvT hZ (ow hw 107 rfl)) (by decide) (own_backOf (W := 0) (rx19_81 l Z a0 hw [] n0 h79 O79 G1 G3 w_NULL w_NUMBER w_NULL2 w_STRING GF b56 k57 p1 (PV_b56.keep K79c nin0) hDG) hZ (ow hw 107 rfl) (ow hw 65 rfl) (by decide) (by decide)) (g := (mkF m 12 #[cr b55, ci 0] [(.int 0), (.ref b56)])) rfl (by rw [hml]; rfl) (argsL := [(.ref b56), (.int 0)]) (rest := []) (lenOf pdx_14 rfl) rfl (by show 2 * 0 + _ ≤ _; exact Nat.le_of_eq rfl) (hb hby d17_12) (fun _ _ => ⟨rfl, e80, (by decide : 0 + 0 ≤ _), (by decide : 0 + 0 ≤ _)⟩)
 dsimp only [Pt.U, Pt.locs, Pt.cells, Pt.slots] at X85 l85 y85 z85 st85 hQ85
 subst l85 y85 z85
 obtain ⟨rfl, N85q, K85c⟩ := hQ85
 have N85 := Fr.app N79 N85q
 refine Ends.go st85 ?_
 obtain ⟨h85, e85⟩ : ∃ z, T85.heap = z := ⟨_, rfl⟩
 rw [e85] at K85c
 have K85 := K79.trans K85c all0
 have O85 := O79.keep K85c all0
 show Ends _ _ _ _ T85 (mkF m 15 #[cr b55, ci 0] [(.int (((48 : Int32) + ((p1 &&& (2147483647 : Int32)) % (10 : Int32))).toUInt32.toUInt16.toUInt32.toInt32))]) _ _ _
 refine Ends.retZ X85 hx Bd.notSynchronized (t := .char) Bd.returns (by simp) (hb hby d17_15) (by decide) (by decide) ?_
 rw [e85]
 exact ⟨(congrArg (fun z => some (Value.int z)) own_narcc), N85, K85⟩

theorem d14_0 : decode prog_10_method_4_code 0 = .ok (.iconst 0, 1) := by decide +kernel
theorem d14_1 : decode prog_10_method_4_code 1 = .ok (.istore_n 1, 1) := by decide +kernel
theorem d14_2 : decode prog_10_method_4_code 2 = .ok (.iload_n 1, 1) := by decide +kernel
theorem d14_3 : decode prog_10_method_4_code 3 = .ok (.aload_n 0, 1) := by decide +kernel
theorem d14_4 : decode prog_10_method_4_code 4 = .ok (.invokevirtual 13, 3) := by decide +kernel
theorem d14_7 : decode prog_10_method_4_code 7 = .ok (.if_icmp .ge 16, 3) := by decide +kernel
theorem d14_10 : decode prog_10_method_4_code 10 = .ok (.aload_n 0, 1) := by decide +kernel
theorem d14_11 : decode prog_10_method_4_code 11 = .ok (.iload_n 1, 1) := by decide +kernel
theorem d14_12 : decode prog_10_method_4_code 12 = .ok (.invokevirtual 19, 3) := by decide +kernel
theorem d14_15 : decode prog_10_method_4_code 15 = .ok (.bipush 45, 2) := by decide +kernel
theorem d14_17 : decode prog_10_method_4_code 17 = .ok (.if_icmp .ne 6, 3) := by decide +kernel
theorem d14_23 : decode prog_10_method_4_code 23 = .ok (.iload_n 1, 1) := by decide +kernel
theorem d14_24 : decode prog_10_method_4_code 24 = .ok (.aload_n 0, 1) := by decide +kernel
theorem d14_25 : decode prog_10_method_4_code 25 = .ok (.invokevirtual 13, 3) := by decide +kernel
theorem d14_28 : decode prog_10_method_4_code 28 = .ok (.if_icmp .ge 17, 3) := by decide +kernel
theorem d14_31 : decode prog_10_method_4_code 31 = .ok (.aload_n 0, 1) := by decide +kernel
theorem d14_32 : decode prog_10_method_4_code 32 = .ok (.iload_n 1, 1) := by decide +kernel
theorem d14_33 : decode prog_10_method_4_code 33 = .ok (.invokevirtual 19, 3) := by decide +kernel
theorem d14_36 : decode prog_10_method_4_code 36 = .ok (.bipush 48, 2) := by decide +kernel
theorem d14_38 : decode prog_10_method_4_code 38 = .ok (.if_icmp .ne 7, 3) := by decide +kernel
theorem d14_41 : decode prog_10_method_4_code 41 = .ok (.iload_n 1, 1) := by decide +kernel
theorem d14_42 : decode prog_10_method_4_code 42 = .ok (.iconst 1, 1) := by decide +kernel
theorem d14_43 : decode prog_10_method_4_code 43 = .ok (.iadd, 1) := by decide +kernel
theorem d14_44 : decode prog_10_method_4_code 44 = .ok (.ireturn, 1) := by decide +kernel
theorem pn14 : plainName "com/example/wakeline/wakeline/event/NumberSyntax" = true := by first | (simp [plainName, overriddenIn]; done) | decide +kernel
theorem pdx_15 : parseMethodDescriptor "(I)C" = some ⟨[.int], some .char⟩ := by decide +kernel
theorem ef14_r (m : MethodId) (x0 : Addr) : entryFrame m #[(.ref x0)] 2 = mkF m 0 #[.val (.ref x0), .unset] [] := by first | (simp [entryFrame, mkF, argsToLocals, Value.category]; done) | rfl
set_option maxRecDepth 65536 in
set_option maxHeartbeats 40000000 in
theorem rx14_66 (l : Launch) (Z : State) (a0 : Array Value) (hw : ∀ d ∈ tables_1, d.before a0 Z = true) (ws : List Jvm.Cond) (n0 : Nat) (h0 : Heap) (O0 : Old Z n0 h0) (G1 : Int32) (G3 : Value) (w_NULL : Addr) (w_NUMBER : Addr) (w_NULL2 : Addr) (w_STRING : Addr) (GF : GlobF Z a0 G1 G3 w_NULL w_NUMBER w_NULL2 w_STRING) (b55 : Addr) (b56 : Addr) (k57 : ClassId) (p1 : Int32) (PF_b55_value : Fld Z h0 b55 "java/lang/String" "value" "[B" (.ref b56)) (PV_b56 : Arv Z h0 b56 k57 .byte (1 : Int32) [(.int ((((48 : Int32) + ((p1 &&& (2147483647 : Int32)) % (10 : Int32))).toUInt32.toUInt16.toUInt32.toInt32).toInt8.toInt32))] (.int 0)) (PF_b55_coder : Fld Z h0 b55 "java/lang/String" "coder" "B" (.int 0)) (PE_b55 : Exa Z h0 b55 "java/lang/String") (hDG : own_dig (((48 : Int32) + ((p1 &&& (2147483647 : Int32)) % (10 : Int32))).toUInt32.toUInt16.toUInt32.toInt32)) (hd48_ : (((48 : Int32) + ((p1 &&& (2147483647 : Int32)) % (10 : Int32))).toUInt32.toUInt16.toUInt32.toInt32) = (48 : Int32)) :
  Meets1 l ym18 prog_10_method_4_code 2 (some .int) ws ({ frames := 4, cells := 0, slots := 0, locals := 53 } : Room) #[(.ref b55)] Z h0 (fun v h L => v = some (.int 1) ∧ Fr n0 L ∧ Keep h0 h []) := by
 refine MetFree.of_bodySF (plainFor_of_name pn14) hisR ?_
 intro p e s m args below meth c s₁ Bd hml0 hP hK
 obtain ⟨rfl, hZ, hh⟩ := hP
 have hx := Bd.exec
 have hby := Bd.bytes
 have hml : c.maxLocals = 2 := hml0
 have hown : s.vm.findClass "com/example/wakeline/wakeline/event/NumberSyntax" = some m.cls := findClass_of_methodNamed Bd.named
 have hnm := (name_of_methodNamed Bd.named Bd.method).1
 have X0 : Stand p l e ({ frames := 4, cells := 0, slots := 0, locals := 53 } : Room) s m #[(.ref b55)] below meth c s₁ [] 0 0 := Stand.of_body Bd
 have e0 : s₁.heap = h0 := by rw [← hh, Bd.state]; rfl
 have N0 := Fr.nil n0
 have Z0 := own_old_le O0
 show Ends _ _ _ _ s₁ (entryFrame m #[(.ref b55)] 2) ({ frames := 4, cells := 0, slots := 0, locals := 53 } : Room).cells ({ frames := 4, cells := 0, slots := 0, locals := 53 } : Room).slots (fun v h L => v = some (.int 1) ∧ Fr n0 L ∧ Keep h0 h [])
 refine Ends.go (fun _ k => castTop (ef14_r m b55) k) ?_
 obtain ⟨SCS, P5, SSF, RG3, HCST, HCW, S_NULL, E_NULL, S_NUMBER, E_NUMBER, F_ordinal_NULL, F_ordinal_NUMBER, S_NULL2, E_NULL2, F_kind_NULL2, S_STRING, E_STRING, F_ordinal_STRING⟩ := id GF
 have K0 := Keep.refl h0 []
 show Ends _ _ _ _ s₁ (mkF m 0 #[cr b55, cu] []) _ _ _
 refine wic X0 hx hby d14_0 ?_
 refine wstN X0 hx hby d14_1 (l' := #[cr b55, ci 0]) rfl ?_
 refine wilN X0 hx hby d14_2 rfl ?_
 show Ends _ _ _ _ s₁ (mkF m 3 #[cr b55, ci 0] [(.int 0)]) _ _ _
 refine walN X0 hx hby d14_3 rfl rfl ?_
 obtain ⟨cq74, kq74, q74a, q74b, q74c⟩ := isOf hZ e0 PE_b55
 obtain ⟨_, _, ⟨T74, L74, k74, n74⟩, -, X74, ⟨Lc74, hQ74, l74, y74, z74⟩, st74⟩ := X0.virtualBack hx (y := ym14) (z := ym14) hown (mvT hZ (ow hw 85 rfl)) (mvT hZ (ow hw 86 rfl)) (notFace_of_selects (args := #[]) (mvT hZ (ow hw 88 rfl))) (mvT hZ (ow hw 88 rfl)) (mvT hZ (ow hw 87 rfl)) (by decide) (own_backOf (W := 1) (rx15_67 l Z a0 hw [] n0 h0 O0 G1 G3 w_NULL w_NUMBER w_NULL2 w_STRING GF b55 b56 k57 p1 PF_b55_value PV_b56 PF_b55_coder PE_b55) hZ (ow hw 89 rfl) (ow hw 19 rfl) (by decide) (by decide)) q74a q74c (g := (mkF m 4 #[cr b55, ci 0] [(.ref b55), (.int 0)])) rfl (by rw [hml]; rfl) (Steps.refl _) (argsL := []) (rest := [(.int 0)]) (lenOf pdx_12 rfl) rfl (by show 2 * 0 + _ ≤ _; exact Nat.le_of_eq rfl) (hb hby d14_4) (fun _ _ => ⟨rfl, e0, (by decide : 0 + 0 ≤ _), (by decide : 0 + 0 ≤ _)⟩)
 dsimp only [Pt.U, Pt.locs, Pt.cells, Pt.slots] at X74 l74 y74 z74 st74 hQ74
 subst l74 y74 z74
 obtain ⟨rfl, N74q, K74c⟩ := hQ74
 have N74 := Fr.app N0 N74q
 refine Ends.go (fun _ k => st74.trans k) ?_
 obtain ⟨h74, e74⟩ : ∃ z, T74.heap = z := ⟨_, rfl⟩
 rw [e74] at K74c
 have K74 := K0.trans K74c all0
 have O74 := O0.keep K74c all0
 refine wcn X74 hx hby d14_7 (tlt (by decide : (0 : Int32) < (1 : Int32))).2.1 ?_
 refine walN X74 hx hby d14_10 rfl rfl ?_
 show Ends _ _ _ _ T74 (mkF m 11 #[cr b55, ci 0] [(.ref b55)]) _ _ _
 refine wilN X74 hx hby d14_11 rfl ?_
 obtain ⟨cq86, kq86, q86a, q86b, q86c⟩ := isOf hZ e74 (PE_b55.keep K74c)
 obtain ⟨_, _, ⟨T86, L86, k86, n86⟩, -, X86, ⟨Lc86, hQ86, l86, y86, z86⟩, st86⟩ := X74.virtualBack hx (y := ym17) (z := ym17) hown (mvT hZ (ow hw 95 rfl)) (mvT hZ (ow hw 96 rfl)) (notFace_of_selects (args := #[]) (mvT hZ (ow hw 98 rfl))) (mvT hZ (ow hw 98 rfl)) (mvT hZ (ow hw 97 rfl)) (by decide) (own_backOf (W := 0) (rx17_75 l Z a0 hw [] n0 h74 O74 G1 G3 w_NULL w_NUMBER w_NULL2 w_STRING GF b55 b56 k57 p1 (PF_b55_coder.keep K74c nin0) (PE_b55.keep K74c) (PF_b55_value.keep K74c nin0) (PV_b56.keep K74c nin0) hDG) hZ (ow hw 99 rfl) (ow hw 19 rfl) (by decide) (by decide)) q86a q86c (g := (mkF m 12 #[cr b55, ci 0] [(.int 0), (.ref b55)])) rfl (by rw [hml]; rfl) (Steps.refl _) (argsL := [(.int 0)]) (rest := []) (lenOf pdx_15 rfl) rfl (by show 2 * 0 + _ ≤ _; exact Nat.le_of_eq rfl) (hb hby d14_12) (fun _ _ => ⟨rfl, e74, (by decide : 0 + 0 ≤ _), (by decide : 0 + 0 ≤ _)⟩)
 dsimp only [Pt.U, Pt.locs, Pt.cells, Pt.slots] at X86 l86 y86 z86 st86 hQ86
 subst l86 y86 z86
 obtain ⟨rfl, N86q, K86c⟩ := hQ86
 have N86 := Fr.app N74 N86q
 refine Ends.go (fun _ k => st86.trans k) ?_
 obtain ⟨h86, e86⟩ : ∃ z, T86.heap = z := ⟨_, rfl⟩
 rw [e86] at K86c
 have K86 := K74.trans K86c all0
 have O86 := O74.keep K86c all0
 refine wbp X86 hx hby d14_15 ?_
 refine wcy (pc := 17) (pc' := 23) X86 hx hby d14_17 (feq ((own_dne hDG (by decide)) : ¬ ((((48 : Int32) + ((p1 &&& (2147483647 : Int32)) % (10 : Int32))).toUInt32.toUInt16.toUInt32.toInt32) = (45 : Int32)))).2 (by decide) (by decide) ?_
 show Ends _ _ _ _ T86 (mkF m 23 #[cr b55, ci 0] []) _ _ _
 refine wilN X86 hx hby d14_23 rfl ?_
 refine walN X86 hx hby d14_24 rfl rfl ?_
 obtain ⟨cq87, kq87, q87a, q87b, q87c⟩ := isOf hZ e86 ((PE_b55.keep K74c).keep K86c)
 obtain ⟨_, _, ⟨T87, L87, k87, n87⟩, -, X87, ⟨Lc87, hQ87, l87, y87, z87⟩, st87⟩ := X86.virtualBack hx (y := ym14) (z := ym14) hown (mvT hZ (ow hw 85 rfl)) (mvT hZ (ow hw 86 rfl)) (notFace_of_selects (args := #[]) (mvT hZ (ow hw 88 rfl))) (mvT hZ (ow hw 88 rfl)) (mvT hZ (ow hw 87 rfl)) (by decide) (own_backOf (W := 1) (rx15_67 l Z a0 hw [] n0 h86 O86 G1 G3 w_NULL w_NUMBER w_NULL2 w_STRING GF b55 b56 k57 p1 ((PF_b55_value.keep K74c nin0).keep K86c nin0) ((PV_b56.keep K74c nin0).keep K86c nin0) ((PF_b55_coder.keep K74c nin0).keep K86c nin0) ((PE_b55.keep K74c).keep K86c)) hZ (ow hw 89 rfl) (ow hw 19 rfl) (by decide) (by decide)) q87a q87c (g := (mkF m 25 #[cr b55, ci 0] [(.ref b55), (.int 0)])) rfl (by rw [hml]; rfl) (Steps.refl _) (argsL := []) (rest := [(.int 0)]) (lenOf pdx_12 rfl) rfl (by show 2 * 0 + _ ≤ _; exact Nat.le_of_eq rfl) (hb hby d14_25) (fun _ _ => ⟨rfl, e86, (by decide : 0 + 0 ≤ _), (by decide : 0 + 0 ≤ _)⟩)
 dsimp only [Pt.U, Pt.locs, Pt.cells, Pt.slots] at X87 l87 y87 z87 st87 hQ87
 subst l87 y87 z87
 obtain ⟨rfl, N87q, K87c⟩ := hQ87
 have N87 := Fr.app N86 N87q
 refine Ends.go (fun _ k => st87.trans k) ?_
 obtain ⟨h87, e87⟩ : ∃ z, T87.heap = z := ⟨_, rfl⟩
 rw [e87] at K87c
 have K87 := K86.trans K87c all0
 have O87 := O86.keep K87c all0
 refine wcn X87 hx hby d14_28 (tlt (by decide : (0 : Int32) < (1 : Int32))).2.1 ?_
 show Ends _ _ _ _ T87 (mkF m 31 #[cr b55, ci 0] []) _ _ _
 refine walN X87 hx hby d14_31 rfl rfl ?_
 refine wilN X87 hx hby d14_32 rfl ?_
 obtain ⟨cq88, kq88, q88a, q88b, q88c⟩ := isOf hZ e87 (((PE_b55.keep K74c).keep K86c).keep K87c)
 obtain ⟨_, _, ⟨T88, L88, k88, n88⟩, -, X88, ⟨Lc88, hQ88, l88, y88, z88⟩, st88⟩ := X87.virtualBack hx (y := ym17) (z := ym17) hown (mvT hZ (ow hw 95 rfl)) (mvT hZ (ow hw 96 rfl)) (notFace_of_selects (args := #[]) (mvT hZ (ow hw 98 rfl))) (mvT hZ (ow hw 98 rfl)) (mvT hZ (ow hw 97 rfl)) (by decide) (own_backOf (W := 0) (rx17_75 l Z a0 hw [] n0 h87 O87 G1 G3 w_NULL w_NUMBER w_NULL2 w_STRING GF b55 b56 k57 p1 (((PF_b55_coder.keep K74c nin0).keep K86c nin0).keep K87c nin0) (((PE_b55.keep K74c).keep K86c).keep K87c) (((PF_b55_value.keep K74c nin0).keep K86c nin0).keep K87c nin0) (((PV_b56.keep K74c nin0).keep K86c nin0).keep K87c nin0) hDG) hZ (ow hw 99 rfl) (ow hw 19 rfl) (by decide) (by decide)) q88a q88c (g := (mkF m 33 #[cr b55, ci 0] [(.int 0), (.ref b55)])) rfl (by rw [hml]; rfl) (Steps.refl _) (argsL := [(.int 0)]) (rest := []) (lenOf pdx_15 rfl) rfl (by show 2 * 0 + _ ≤ _; exact Nat.le_of_eq rfl) (hb hby d14_33) (fun _ _ => ⟨rfl, e87, (by decide : 0 + 0 ≤ _), (by decide : 0 + 0 ≤ _)⟩)
 dsimp only [Pt.U, Pt.locs, Pt.cells, Pt.slots] at X88 l88 y88 z88 st88 hQ88
 subst l88 y88 z88
 obtain ⟨rfl, N88q, K88c⟩ := hQ88
 have N88 := Fr.app N87 N88q
 refine Ends.go (fun _ k => st88.trans k) ?_
 obtain ⟨h88, e88⟩ : ∃ z, T88.heap = z := ⟨_, rfl⟩
 rw [e88] at K88c
 have K88 := K87.trans K88c all0
 have O88 := O87.keep K88c all0
 refine wbp X88 hx hby d14_36 ?_
 show Ends _ _ _ _ T88 (mkF m 38 #[cr b55, ci 0] [(.int 48), (.int (((48 : Int32) + ((p1 &&& (2147483647 : Int32)) % (10 : Int32))).toUInt32.toUInt16.toUInt32.toInt32))]) _ _ _
 refine wcn X88 hx hby d14_38 (teq (hd48_ : (((48 : Int32) + ((p1 &&& (2147483647 : Int32)) % (10 : Int32))).toUInt32.toUInt16.toUInt32.toInt32) = (48 : Int32))).2 ?_
 refine wilN X88 hx hby d14_41 rfl ?_
 refine wic X88 hx hby d14_42 ?_
 refine wia X88 hx hby d14_43 ?_
 show Ends _ _ _ _ T88 (mkF m 44 #[cr b55, ci 0] [(.int 1)]) _ _ _
 refine Ends.ret X88 hx Bd.notSynchronized (t := .int) Bd.returns rfl (Or.inl ⟨rfl, by simp, _, rfl⟩) (hb hby d14_44) (by decide) (by decide) ?_
 rw [e88]
 exact ⟨rfl, N88, K88⟩

theorem d13_0 : decode prog_10_method_3_code 0 = .ok (.aload_n 0, 1) := by decide +kernel
theorem d13_1 : decode prog_10_method_3_code 1 = .ok (.invokestatic 7, 3) := by decide +kernel
theorem d13_4 : decode prog_10_method_3_code 4 = .ok (.istore_n 1, 1) := by decide +kernel
theorem d13_5 : decode prog_10_method_3_code 5 = .ok (.iload_n 1, 1) := by decide +kernel
theorem d13_6 : decode prog_10_method_3_code 6 = .ok (.ifCond .ge 5, 3) := by decide +kernel
theorem d13_11 : decode prog_10_method_3_code 11 = .ok (.iload_n 1, 1) := by decide +kernel
theorem d13_12 : decode prog_10_method_3_code 12 = .ok (.aload_n 0, 1) := by decide +kernel
theorem d13_13 : decode prog_10_method_3_code 13 = .ok (.invokevirtual 13, 3) := by decide +kernel
theorem d13_16 : decode prog_10_method_3_code 16 = .ok (.if_icmp .ge 27, 3) := by decide +kernel
theorem d13_43 : decode prog_10_method_3_code 43 = .ok (.iload_n 1, 1) := by decide +kernel
theorem d13_44 : decode prog_10_method_3_code 44 = .ok (.aload_n 0, 1) := by decide +kernel
theorem d13_45 : decode prog_10_method_3_code 45 = .ok (.invokevirtual 13, 3) := by decide +kernel
theorem d13_48 : decode prog_10_method_3_code 48 = .ok (.if_icmp .ge 63, 3) := by decide +kernel
theorem d13_111 : decode prog_10_method_3_code 111 = .ok (.iload_n 1, 1) := by decide +kernel
theorem d13_112 : decode prog_10_method_3_code 112 = .ok (.aload_n 0, 1) := by decide +kernel
theorem d13_113 : decode prog_10_method_3_code 113 = .ok (.invokevirtual 13, 3) := by decide +kernel
theorem d13_116 : decode prog_10_method_3_code 116 = .ok (.if_icmp .ne 7, 3) := by decide +kernel
theorem d13_119 : decode prog_10_method_3_code 119 = .ok (.iconst 1, 1) := by decide +kernel
theorem d13_120 : decode prog_10_method_3_code 120 = .ok (.goto 4, 3) := by decide +kernel
theorem d13_124 : decode prog_10_method_3_code 124 = .ok (.ireturn, 1) := by decide +kernel
theorem pn13 : plainName "com/example/wakeline/wakeline/event/NumberSyntax" = true := by first | (simp [plainName, overriddenIn]; done) | decide +kernel
theorem pdx_16 : parseMethodDescriptor "(Ljava/lang/String;)I" = some ⟨[(.object "java/lang/String")], some .int⟩ := by decide +kernel
theorem ef13_r (m : MethodId) (x0 : Addr) : entryFrame m #[(.ref x0)] 2 = mkF m 0 #[.val (.ref x0), .unset] [] := by first | (simp [entryFrame, mkF, argsToLocals, Value.category]; done) | rfl
set_option maxRecDepth 65536 in
set_option maxHeartbeats 40000000 in
theorem rx13_65 (l : Launch) (Z : State) (a0 : Array Value) (hw : ∀ d ∈ tables_1, d.before a0 Z = true) (ws : List Jvm.Cond) (n0 : Nat) (h0 : Heap) (O0 : Old Z n0 h0) (G1 : Int32) (G3 : Value) (w_NULL : Addr) (w_NUMBER : Addr) (w_NULL2 : Addr) (w_STRING : Addr) (GF : GlobF Z a0 G1 G3 w_NULL w_NUMBER w_NULL2 w_STRING) (b55 : Addr) (b56 : Addr) (k57 : ClassId) (p1 : Int32) (PF_b55_value : Fld Z h0 b55 "java/lang/String" "value" "[B" (.ref b56)) (PV_b56 : Arv Z h0 b56 k57 .byte (1 : Int32) [(.int ((((48 : Int32) + ((p1 &&& (2147483647 : Int32)) % (10 : Int32))).toUInt32.toUInt16.toUInt32.toInt32).toInt8.toInt32))] (.int 0)) (PF_b55_coder : Fld Z h0 b55 "java/lang/String" "coder" "B" (.int 0)) (PE_b55 : Exa Z h0 b55 "java/lang/String") (hDG : own_dig (((48 : Int32) + ((p1 &&& (2147483647 : Int32)) % (10 : Int32))).toUInt32.toUInt16.toUInt32.toInt32)) (hd48_ : (((48 : Int32) + ((p1 &&& (2147483647 : Int32)) % (10 : Int32))).toUInt32.toUInt16.toUInt32.toInt32) = (48 : Int32)) :
  Meets1 l ym19 prog_10_method_3_code 2 (some .boolean) ws ({ frames := 5, cells := 0, slots := 0, locals := 66 } : Room) #[(.ref b55)] Z h0 (fun v h L => v = some (.int 1) ∧ Fr n0 L ∧ Keep h0 h []) := by
 refine MetFree.of_bodySF (plainFor_of_name pn13) hisR ?_
 intro p e s m args below meth c s₁ Bd hml0 hP hK
 obtain ⟨rfl, hZ, hh⟩ := hP
 have hx := Bd.exec
 have hby := Bd.bytes
 have hml : c.maxLocals = 2 := hml0
 have hown : s.vm.findClass "com/example/wakeline/wakeline/event/NumberSyntax" = some m.cls := findClass_of_methodNamed Bd.named
 have hnm := (name_of_methodNamed Bd.named Bd.method).1
 have X0 : Stand p l e ({ frames := 5, cells := 0, slots := 0, locals := 66 } : Room) s m #[(.ref b55)] below meth c s₁ [] 0 0 := Stand.of_body Bd
 have e0 : s₁.heap = h0 := by rw [← hh, Bd.state]; rfl
 have N0 := Fr.nil n0
 have Z0 := own_old_le O0
 show Ends _ _ _ _ s₁ (entryFrame m #[(.ref b55)] 2) ({ frames := 5, cells := 0, slots := 0, locals := 66 } : Room).cells ({ frames := 5, cells := 0, slots := 0, locals := 66 } : Room).slots (fun v h L => v = some (.int 1) ∧ Fr n0 L ∧ Keep h0 h [])
 refine Ends.go (fun _ k => castTop (ef13_r m b55) k) ?_
 obtain ⟨SCS, P5, SSF, RG3, HCST, HCW, S_NULL, E_NULL, S_NUMBER, E_NUMBER, F_ordinal_NULL, F_ordinal_NUMBER, S_NULL2, E_NULL2, F_kind_NULL2, S_STRING, E_STRING, F_ordinal_STRING⟩ := id GF
 have K0 := Keep.refl h0 []
 show Ends _ _ _ _ s₁ (mkF m 0 #[cr b55, cu] []) _ _ _
 refine walN X0 hx hby d13_0 rfl rfl ?_
 obtain ⟨_, _, ⟨T89, L89, k89, n89⟩, -, X89, ⟨Lc89, hQ89, l89, y89, z89⟩, st89⟩ := Jvm.LawKit.callS X0 hx (y := ym18) hown (mvT hZ (ow hw 82 rfl)) (mvT hZ (ow hw 83 rfl)) (mvT hZ (ow hw 80 rfl)) (mvT hZ (ow hw 84 rfl)) (by decide) (own_backOf (W := 0) (rx14_66 l Z a0 hw [] n0 h0 O0 G1 G3 w_NULL w_NUMBER w_NULL2 w_STRING GF b55 b56 k57 p1 PF_b55_value PV_b56 PF_b55_coder PE_b55 hDG hd48_) hZ (ow hw 84 rfl) (ow hw 80 rfl) (by decide) (by decide)) (g := (mkF m 1 #[cr b55, cu] [(.ref b55)])) rfl (by rw [hml]; rfl) (argsL := [(.ref b55)]) (rest := []) (lenOf pdx_16 rfl) rfl (by show 2 * 0 + _ ≤ _; exact Nat.le_of_eq rfl) (hb hby d13_1) (fun _ _ => ⟨rfl, e0, (by decide : 0 + 0 ≤ _), (by decide : 0 + 0 ≤ _)⟩)
 dsimp only [Pt.U, Pt.locs, Pt.cells, Pt.slots] at X89 l89 y89 z89 st89 hQ89
 subst l89 y89 z89
 obtain ⟨rfl, N89q, K89c⟩ := hQ89
 have N89 := Fr.app N0 N89q
 refine Ends.go st89 ?_
 obtain ⟨h89, e89⟩ : ∃ z, T89.heap = z := ⟨_, rfl⟩
 rw [e89] at K89c
 have K89 := K0.trans K89c all0
 have O89 := O0.keep K89c all0
 refine wstN X89 hx hby d13_4 (l' := #[cr b55, ci 1]) rfl ?_
 show Ends _ _ _ _ T89 (mkF m 5 #[cr b55, ci 1] []) _ _ _
 refine wilN X89 hx hby d13_5 rfl ?_
 refine wiy (pc := 6) (pc' := 11) X89 hx hby d13_6 ((if0 _ _).trans (flt (by decide : ¬ ((1 : Int32) < (0 : Int32)))).2.1) (by decide) (by decide) ?_
 refine wilN X89 hx hby d13_11 rfl ?_
 refine walN X89 hx hby d13_12 rfl rfl ?_
 show Ends _ _ _ _ T89 (mkF m 13 #[cr b55, ci 1] [(.ref b55), (.int 1)]) _ _ _
 obtain ⟨cq90, kq90, q90a, q90b, q90c⟩ := isOf hZ e89 (PE_b55.keep K89c)
 obtain ⟨_, _, ⟨T90, L90, k90, n90⟩, -, X90, ⟨Lc90, hQ90, l90, y90, z90⟩, st90⟩ := X89.virtualBack hx (y := ym14) (z := ym14) hown (mvT hZ (ow hw 85 rfl)) (mvT hZ (ow hw 86 rfl)) (notFace_of_selects (args := #[]) (mvT hZ (ow hw 88 rfl))) (mvT hZ (ow hw 88 rfl)) (mvT hZ (ow hw 87 rfl)) (by decide) (own_backOf (W := 1) (rx15_67 l Z a0 hw [] n0 h89 O89 G1 G3 w_NULL w_NUMBER w_NULL2 w_STRING GF b55 b56 k57 p1 (PF_b55_value.keep K89c nin0) (PV_b56.keep K89c nin0) (PF_b55_coder.keep K89c nin0) (PE_b55.keep K89c)) hZ (ow hw 89 rfl) (ow hw 19 rfl) (by decide) (by decide)) q90a q90c (g := (mkF m 13 #[cr b55, ci 1] [(.ref b55), (.int 1)])) rfl (by rw [hml]; rfl) (Steps.refl _) (argsL := []) (rest := [(.int 1)]) (lenOf pdx_12 rfl) rfl (by show 2 * 0 + _ ≤ _; exact Nat.le_of_eq rfl) (hb hby d13_13) (fun _ _ => ⟨rfl, e89, (by decide : 0 + 0 ≤ _), (by decide : 0 + 0 ≤ _)⟩)
 dsimp only [Pt.U, Pt.locs, Pt.cells, Pt.slots] at X90 l90 y90 z90 st90 hQ90
 subst l90 y90 z90
 obtain ⟨rfl, N90q, K90c⟩ := hQ90
 have N90 := Fr.app N89 N90q
 refine Ends.go (fun _ k => st90.trans k) ?_
 obtain ⟨h90, e90⟩ : ∃ z, T90.heap = z := ⟨_, rfl⟩
 rw [e90] at K90c
 have K90 := K89.trans K90c all0
 have O90 := O89.keep K90c all0
 refine wcy (pc := 16) (pc' := 43) X90 hx hby d13_16 (flt (by decide : ¬ ((1 : Int32) < (1 : Int32)))).2.1 (by decide) (by decide) ?_
 refine wilN X90 hx hby d13_43 rfl ?_
 refine walN X90 hx hby d13_44 rfl rfl ?_
 show Ends _ _ _ _ T90 (mkF m 45 #[cr b55, ci 1] [(.ref b55), (.int 1)]) _ _ _
 obtain ⟨cq91, kq91, q91a, q91b, q91c⟩ := isOf hZ e90 ((PE_b55.keep K89c).keep K90c)
 obtain ⟨_, _, ⟨T91, L91, k91, n91⟩, -, X91, ⟨Lc91, hQ91, l91, y91, z91⟩, st91⟩ := X90.virtualBack hx (y := ym14) (z := ym14) hown (mvT hZ (ow hw 85 rfl)) (mvT hZ (ow hw 86 rfl)) (notFace_of_selects (args := #[]) (mvT hZ (ow hw 88 rfl))) (mvT hZ (ow hw 88 rfl)) (mvT hZ (ow hw 87 rfl)) (by decide) (own_backOf (W := 1) (rx15_67 l Z a0 hw [] n0 h90 O90 G1 G3 w_NULL w_NUMBER w_NULL2 w_STRING GF b55 b56 k57 p1 ((PF_b55_value.keep K89c nin0).keep K90c nin0) ((PV_b56.keep K89c nin0).keep K90c nin0) ((PF_b55_coder.keep K89c nin0).keep K90c nin0) ((PE_b55.keep K89c).keep K90c)) hZ (ow hw 89 rfl) (ow hw 19 rfl) (by decide) (by decide)) q91a q91c (g := (mkF m 45 #[cr b55, ci 1] [(.ref b55), (.int 1)])) rfl (by rw [hml]; rfl) (Steps.refl _) (argsL := []) (rest := [(.int 1)]) (lenOf pdx_12 rfl) rfl (by show 2 * 0 + _ ≤ _; exact Nat.le_of_eq rfl) (hb hby d13_45) (fun _ _ => ⟨rfl, e90, (by decide : 0 + 0 ≤ _), (by decide : 0 + 0 ≤ _)⟩)
 dsimp only [Pt.U, Pt.locs, Pt.cells, Pt.slots] at X91 l91 y91 z91 st91 hQ91
 subst l91 y91 z91
 obtain ⟨rfl, N91q, K91c⟩ := hQ91
 have N91 := Fr.app N90 N91q
 refine Ends.go (fun _ k => st91.trans k) ?_
 obtain ⟨h91, e91⟩ : ∃ z, T91.heap = z := ⟨_, rfl⟩
 rw [e91] at K91c
 have K91 := K90.trans K91c all0
 have O91 := O90.keep K91c all0
 refine wcy (pc := 48) (pc' := 111) X91 hx hby d13_48 (flt (by decide : ¬ ((1 : Int32) < (1 : Int32)))).2.1 (by decide) (by decide) ?_
 refine wilN X91 hx hby d13_111 rfl ?_
 refine walN X91 hx hby d13_112 rfl rfl ?_
 show Ends _ _ _ _ T91 (mkF m 113 #[cr b55, ci 1] [(.ref b55), (.int 1)]) _ _ _
 obtain ⟨cq92, kq92, q92a, q92b, q92c⟩ := isOf hZ e91 (((PE_b55.keep K89c).keep K90c).keep K91c)
 obtain ⟨_, _, ⟨T92, L92, k92, n92⟩, -, X92, ⟨Lc92, hQ92, l92, y92, z92⟩, st92⟩ := X91.virtualBack hx (y := ym14) (z := ym14) hown (mvT hZ (ow hw 85 rfl)) (mvT hZ (ow hw 86 rfl)) (notFace_of_selects (args := #[]) (mvT hZ (ow hw 88 rfl))) (mvT hZ (ow hw 88 rfl)) (mvT hZ (ow hw 87 rfl)) (by decide) (own_backOf (W := 1) (rx15_67 l Z a0 hw [] n0 h91 O91 G1 G3 w_NULL w_NUMBER w_NULL2 w_STRING GF b55 b56 k57 p1 (((PF_b55_value.keep K89c nin0).keep K90c nin0).keep K91c nin0) (((PV_b56.keep K89c nin0).keep K90c nin0).keep K91c nin0) (((PF_b55_coder.keep K89c nin0).keep K90c nin0).keep K91c nin0) (((PE_b55.keep K89c).keep K90c).keep K91c)) hZ (ow hw 89 rfl) (ow hw 19 rfl) (by decide) (by decide)) q92a q92c (g := (mkF m 113 #[cr b55, ci 1] [(.ref b55), (.int 1)])) rfl (by rw [hml]; rfl) (Steps.refl _) (argsL := []) (rest := [(.int 1)]) (lenOf pdx_12 rfl) rfl (by show 2 * 0 + _ ≤ _; exact Nat.le_of_eq rfl) (hb hby d13_113) (fun _ _ => ⟨rfl, e91, (by decide : 0 + 0 ≤ _), (by decide : 0 + 0 ≤ _)⟩)
 dsimp only [Pt.U, Pt.locs, Pt.cells, Pt.slots] at X92 l92 y92 z92 st92 hQ92
 subst l92 y92 z92
 obtain ⟨rfl, N92q, K92c⟩ := hQ92
 have N92 := Fr.app N91 N92q
 refine Ends.go (fun _ k => st92.trans k) ?_
 obtain ⟨h92, e92⟩ : ∃ z, T92.heap = z := ⟨_, rfl⟩
 rw [e92] at K92c
 have K92 := K91.trans K92c all0
 have O92 := O91.keep K92c all0
 refine wcn X92 hx hby d13_116 (teq (by decide : (1 : Int32) = (1 : Int32))).2 ?_
 refine wic X92 hx hby d13_119 ?_
 refine wgo (pc := 120) (pc' := 124) X92 hx hby d13_120 (by decide) (by decide) ?_
 show Ends _ _ _ _ T92 (mkF m 124 #[cr b55, ci 1] [(.int 1)]) _ _ _
 refine Ends.retZ X92 hx Bd.notSynchronized (t := .boolean) Bd.returns (by simp) (hb hby d13_124) (by decide) (by decide) ?_
 rw [e92]
 exact ⟨rfl, N92, K92⟩

theorem d1_22 : decode prog_15_method_1_code 22 = .ok (.iconst 0, 1) := by decide +kernel
theorem d1_31 : decode prog_15_method_1_code 31 = .ok (.iconst 0, 1) := by decide +kernel
theorem d1_70 : decode prog_15_method_1_code 70 = .ok (.aload_n 2, 1) := by decide +kernel
theorem d1_71 : decode prog_15_method_1_code 71 = .ok (.invokestatic 43, 3) := by decide +kernel
theorem d1_74 : decode prog_15_method_1_code 74 = .ok (.ifCond .ne 17, 3) := by decide +kernel
theorem pdx_17 : parseMethodDescriptor "(Ljava/lang/String;)Z" = some ⟨[(.object "java/lang/String")], some .boolean⟩ := by decide +kernel
theorem ef1_rrr (m : MethodId) (x0 : Addr) (x1 : Addr) (x2 : Addr) : entryFrame m #[(.ref x0), (.ref x1), (.ref x2)] 3 = mkF m 0 #[.val (.ref x0), .val (.ref x1), .val (.ref x2)] [] := by first | (simp [entryFrame, mkF, argsToLocals, Value.category]; done) | rfl
set_option maxRecDepth 65536 in
set_option maxHeartbeats 40000000 in
theorem rx1_58 (l : Launch) (Z : State) (a0 : Array Value) (hw : ∀ d ∈ tables_1, d.before a0 Z = true) (ws : List Jvm.Cond) (n0 : Nat) (h0 : Heap) (O0 : Old Z n0 h0) (G1 : Int32) (G3 : Value) (w_NULL : Addr) (w_NUMBER : Addr) (w_NULL2 : Addr) (w_STRING : Addr) (GF : GlobF Z a0 G1 G3 w_NULL w_NUMBER w_NULL2 w_STRING) (b32 : Addr) (b55 : Addr) (b56 : Addr) (k57 : ClassId) (p1 : Int32) (PF_b55_value : Fld Z h0 b55 "java/lang/String" "value" "[B" (.ref b56)) (PV_b56 : Arv Z h0 b56 k57 .byte (1 : Int32) [(.int ((((48 : Int32) + ((p1 &&& (2147483647 : Int32)) % (10 : Int32))).toUInt32.toUInt16.toUInt32.toInt32).toInt8.toInt32))] (.int 0)) (PF_b55_coder : Fld Z h0 b55 "java/lang/String" "coder" "B" (.int 0)) (PE_b55 : Exa Z h0 b55 "java/lang/String") (PE_b32 : Exa Z h0 b32 "com/example/wakeline/wakeline/event/Value") (PF_b32_kind : Fld Z h0 b32 "com/example/wakeline/wakeline/event/Value" "kind" "Lcom/example/wakeline/wakeline/event/Value$Kind;" .null) (PF_b32_text : Fld Z h0 b32 "com/example/wakeline/wakeline/event/Value" "text" "Ljava/lang/String;" .null) (g_b32 : n0 ≤ b32) (hDG : own_dig (((48 : Int32) + ((p1 &&& (2147483647 : Int32)) % (10 : Int32))).toUInt32.toUInt16.toUInt32.toInt32)) (hd48_ : (((48 : Int32) + ((p1 &&& (2147483647 : Int32)) % (10 : Int32))).toUInt32.toUInt16.toUInt32.toInt32) = (48 : Int32)) :
  Meets1W l ym4 prog_15_method_1_code 3 none ws ({ frames := 6, cells := 2, slots := 20, locals := 79 } : Room) #[(.ref b32), (.ref w_NUMBER), (.ref b55)] Z h0 false (fun v h L => v = none ∧ Fr n0 L ∧ Keep h0 h [b32] ∧ Fld Z h b32 "com/example/wakeline/wakeline/event/Value" "kind" "Lcom/example/wakeline/wakeline/event/Value$Kind;" (.ref w_NUMBER) ∧ Fld Z h b32 "com/example/wakeline/wakeline/event/Value" "text" "Ljava/lang/String;" (.ref b55)) := by
 refine MetFree.of_bodySF (plainFor_of_name pn1) hisR ?_
 intro p e s m args below meth c s₁ Bd hml0 hP hK
 obtain ⟨rfl, hZ, hh, hI⟩ := hP
 have hx := Bd.exec
 have hby := Bd.bytes
 have hml : c.maxLocals = 3 := hml0
 have hown : s.vm.findClass "com/example/wakeline/wakeline/event/Value" = some m.cls := findClass_of_methodNamed Bd.named
 have hnm := (name_of_methodNamed Bd.named Bd.method).1
 have X0 : Stand p l e ({ frames := 6, cells := 2, slots := 20, locals := 79 } : Room) s m #[(.ref b32), (.ref w_NUMBER), (.ref b55)] below meth c s₁ [] 0 0 := Stand.of_body Bd
 have e0 : s₁.heap = h0 := by rw [← hh, Bd.state]; rfl
 have N0 := Fr.nil n0
 have hS0 := own_since0 s
 have hk0 : s.heap.size ≤ h0.size := Nat.le_of_eq (congrArg Array.size hh)
 have Z0 := own_old_le O0
 show EndsW _ _ _ _ s₁ (entryFrame m #[(.ref b32), (.ref w_NUMBER), (.ref b55)] 3) ({ frames := 6, cells := 2, slots := 20, locals := 79 } : Room).cells ({ frames := 6, cells := 2, slots := 20, locals := 79 } : Room).slots (fun v h L => v = none ∧ Fr n0 L ∧ Keep h0 h [b32] ∧ Fld Z h b32 "com/example/wakeline/wakeline/event/Value" "kind" "Lcom/example/wakeline/wakeline/event/Value$Kind;" (.ref w_NUMBER) ∧ Fld Z h b32 "com/example/wakeline/wakeline/event/Value" "text" "Ljava/lang/String;" (.ref b55))
 refine EndsW.go (fun _ k => castTop (ef1_rrr m b32 w_NUMBER b55) k) ?_
 obtain ⟨SCS, P5, SSF, RG3, HCST, HCW, S_NULL, E_NULL, S_NUMBER, E_NUMBER, F_ordinal_NULL, F_ordinal_NUMBER, S_NULL2, E_NULL2, F_kind_NULL2, S_STRING, E_STRING, F_ordinal_STRING⟩ := id GF
 have K0 := Keep.refl h0 [b32]
 show EndsW _ _ _ _ s₁ (mkF m 0 #[cr b32, cr w_NUMBER, cr b55] []) _ _ _
 refine walNW X0 hx hby d1_0 rfl rfl ?_
 obtain ⟨_, _, ⟨T59, L59, k59, n59⟩, -, X59, ⟨Lc59, hQ59, l59, y59, z59⟩, st59⟩ := X0.specialBack hx (y := ym2) rfl hown (mvT hZ (ow hw 10 rfl)) (mvT hZ (ow hw 11 rfl)) (mvT hZ (ow hw 14 rfl)) (by decide) (own_backOf (W := 0) (rx2_5 l Z a0 hw [] n0 h0 O0  b32 ) hZ (ow hw 14 rfl) (ow hw 13 rfl) (by decide) (by decide)) (g := (mkF m 1 #[cr b32, cr w_NUMBER, cr b55] [(.ref b32)])) rfl (by rw [hml]; rfl) (Steps.refl _) (a := b32) (argsL := []) (rest := []) (lenOf pdx_0 rfl) rfl (by show 2 * 0 + _ ≤ _; exact Nat.le_of_eq rfl) (hb hby d1_1) (fun _ _ => ⟨rfl, e0, (by decide : 0 + 0 ≤ _), (by decide : 0 + 0 ≤ _)⟩)
 dsimp only [Pt.U, Pt.locs, Pt.cells, Pt.slots] at X59 l59 y59 z59 st59 hQ59
 subst l59 y59 z59
 obtain ⟨rfl, N59q, K59c⟩ := hQ59
 have N59 := Fr.app N0 N59q
 refine EndsW.go (fun _ k => st59.trans k) ?_
 obtain ⟨h59, e59⟩ : ∃ z, T59.heap = z := ⟨_, rfl⟩
 rw [e59] at K59c
 have K59 := K0.trans K59c all0
 have O59 := O0.keep K59c all0
 refine walNW X59 hx hby d1_4 rfl rfl ?_
 show EndsW _ _ _ _ T59 (mkF m 5 #[cr b32, cr w_NUMBER, cr b55] [(.ref w_NUMBER)]) _ _ _
 obtain ⟨a60, T60, h60, k60, X60, e60, E60, hS60, hk60, hZ, hown, st60⟩ := ldcS (s := s) (vm0 := s.vm) X59 hx hZ hown (ow hw 18 rfl) (own_atoms hw) e59 hS0 (Nat.le_trans hk0 K59c.1) (g := (mkF m 5 #[cr b32, cr w_NUMBER, cr b55] [(.ref w_NUMBER)])) rfl (hb hby d1_5) (n := 16) (by decide) (by decide) (by decide) (by decide)
 refine EndsW.go st60 ?_
 have K60 := K59.ext E60
 have O60 := O59.ext E60
 obtain ⟨_, _, ⟨T62, L62, k62, n62⟩, -, X62, ⟨Lc62, hQ62, l62, y62, z62⟩, st62⟩ := Jvm.LawKit.callS X60 hx (y := ym3) hown (mvT hZ (ow hw 26 rfl)) (mvT hZ (ow hw 27 rfl)) (mvT hZ (ow hw 28 rfl)) (mvT hZ (ow hw 29 rfl)) (by decide) (own_backOf (W := 0) (rx4_61 l Z a0 hw [] n0 h60 O60 G1 G3 w_NULL w_NUMBER w_NULL2 w_STRING GF a60 ) hZ (ow hw 29 rfl) (ow hw 28 rfl) (by decide) (by decide)) (g := (mkF m 7 #[cr b32, cr w_NUMBER, cr b55] [(.ref a60), (.ref w_NUMBER)])) rfl (by rw [hml]; rfl) (argsL := [(.ref w_NUMBER), (.ref a60)]) (rest := []) (lenOf pdx_1 rfl) rfl (by show 2 * 0 + _ ≤ _; exact Nat.le_of_eq rfl) (hb hby d1_7) (fun _ _ => ⟨rfl, e60, (by decide : 2 + 0 ≤ _), (by decide : 20 + 0 ≤ _)⟩)
 dsimp only [Pt.U, Pt.locs, Pt.cells, Pt.slots] at X62 l62 y62 z62 st62 hQ62
 subst l62 y62 z62
 obtain ⟨rfl, N62q, K62c⟩ := hQ62
 have N62 := Fr.app N59 N62q
 refine EndsW.go st62 ?_
 obtain ⟨h62, e62⟩ : ∃ z, T62.heap = z := ⟨_, rfl⟩
 rw [e62] at K62c
 have K62 := K60.trans K62c all0
 have O62 := O60.keep K62c all0
 refine .go (fun _ => XS.pop X62.here hx rfl (hb hby d1_10) rfl rfl) ?_
 refine walNW X62 hx hby d1_11 rfl rfl ?_
 show EndsW _ _ _ _ T62 (mkF m 12 #[cr b32, cr w_NUMBER, cr b55] [(.ref w_NUMBER)]) _ _ _
 obtain ⟨T63, X63, e63, st63⟩ := getS2 X62 hx hZ hown (host := "") (Or.inl (ow hw 30 rfl)) Via.refl e62 (S_NULL.ext O62.2) (g := (mkF m 12 #[cr b32, cr w_NUMBER, cr b55] [(.ref w_NUMBER)])) rfl (hb hby d1_12)
 refine EndsW.go st63 ?_
 refine .go (fun _ => Jvm.RoadKit.acmp (g := (mkF m 15 #[cr b32, cr w_NUMBER, cr b55] [(.ref w_NULL), (.ref w_NUMBER)])) X63 hx rfl rfl rfl (pc0 := 15) (pc' := 22) (same := false) rfl (hb hby d1_15) rfl (decide_eq_false fun q => (Fld.ne F_ordinal_NUMBER F_ordinal_NULL (by decide)) (Value.ref.inj q)) (by decide) (by decide)) ?_
 refine wicW X63 hx hby d1_22 ?_
 refine walNW X63 hx hby d1_23 rfl rfl ?_
 show EndsW _ _ _ _ T63 (mkF m 24 #[cr b32, cr w_NUMBER, cr b55] [(.ref b55), (.int 0)]) _ _ _
 refine .go (fun _ => XS.ifnonnullYes X63.here hx rfl (pc0 := 24) (pc' := 31) rfl (hb hby d1_24) rfl (by decide) (by decide)) ?_
 refine wicW X63 hx hby d1_31 ?_
 refine wcyW (pc := 32) (pc' := 63) X63 hx hby d1_32 (teq (by decide : (0 : Int32) = (0 : Int32))).1 (by decide) (by decide) ?_
 refine walNW X63 hx hby d1_63 rfl rfl ?_
 show EndsW _ _ _ _ T63 (mkF m 64 #[cr b32, cr w_NUMBER, cr b55] [(.ref w_NUMBER)]) _ _ _
 obtain ⟨T64, X64, e64, st64⟩ := getS2 X63 hx hZ hown (host := "") (Or.inl (ow hw 31 rfl)) Via.refl e63 (S_NUMBER.ext O62.2) (g := (mkF m 64 #[cr b32, cr w_NUMBER, cr b55] [(.ref w_NUMBER)])) rfl (hb hby d1_64)
 refine EndsW.go st64 ?_
 refine .go (fun _ => Jvm.RoadKit.acmp (g := (mkF m 67 #[cr b32, cr w_NUMBER, cr b55] [(.ref w_NUMBER), (.ref w_NUMBER)])) X64 hx rfl rfl rfl (pc0 := 67) (pc' := 70) (same := true) rfl (hb hby d1_67) rfl (decide_eq_true rfl) (by decide) (by decide)) ?_
 refine walNW X64 hx hby d1_70 rfl rfl ?_
 obtain ⟨_, _, ⟨T93, L93, k93, n93⟩, -, X93, ⟨Lc93, hQ93, l93, y93, z93⟩, st93⟩ := Jvm.LawKit.callS X64 hx (y := ym19) hown (mvT hZ (ow hw 78 rfl)) (mvT hZ (ow hw 79 rfl)) (mvT hZ (ow hw 80 rfl)) (mvT hZ (ow hw 81 rfl)) (by decide) (own_backOf (W := 0) (rx13_65 l Z a0 hw [] n0 h62 O62 G1 G3 w_NULL w_NUMBER w_NULL2 w_STRING GF b55 b56 k57 p1 (((PF_b55_value.keep K59c nin0).ext E60).keep K62c nin0) (((PV_b56.keep K59c nin0).ext E60).keep K62c nin0) (((PF_b55_coder.keep K59c nin0).ext E60).keep K62c nin0) (((PE_b55.keep K59c).ext E60).keep K62c) hDG hd48_) hZ (ow hw 81 rfl) (ow hw 80 rfl) (by decide) (by decide)) (g := (mkF m 71 #[cr b32, cr w_NUMBER, cr b55] [(.ref b55)])) rfl (by rw [hml]; rfl) (argsL := [(.ref b55)]) (rest := []) (lenOf pdx_17 rfl) rfl (by show 2 * 0 + _ ≤ _; exact Nat.le_of_eq rfl) (hb hby d1_71) (fun _ _ => ⟨rfl, e64, (by decide : 2 + 0 ≤ _), (by decide : 20 + 0 ≤ _)⟩)
 dsimp only [Pt.U, Pt.locs, Pt.cells, Pt.slots] at X93 l93 y93 z93 st93 hQ93
 subst l93 y93 z93
 obtain ⟨rfl, N93q, K93c⟩ := hQ93
 have N93 := Fr.app N62 N93q
 refine EndsW.go st93 ?_
 obtain ⟨h93, e93⟩ : ∃ z, T93.heap = z := ⟨_, rfl⟩
 rw [e93] at K93c
 have K93 := K62.trans K93c all0
 have O93 := O62.keep K93c all0
 show EndsW _ _ _ _ T93 (mkF m 74 #[cr b32, cr w_NUMBER, cr b55] [(.int 1)]) _ _ _
 refine wiyW (pc := 74) (pc' := 91) X93 hx hby d1_74 ((if0 _ _).trans (feq (by decide : ¬ ((1 : Int32) = (0 : Int32)))).2) (by decide) (by decide) ?_
 refine walNW X93 hx hby d1_91 rfl rfl ?_
 refine walNW X93 hx hby d1_92 rfl rfl ?_
 obtain ⟨T94, h94, X94, e94, W94, st94⟩ := putF X93 hx hZ hown (host := "") (Or.inl (ow hw 33 rfl)) Via.refl e93 ((((PF_b32_kind.keep K59c nin0).ext E60).keep K62c nin0).keep K93c nin0) ((((PE_b32.keep K59c).ext E60).keep K62c).keep K93c) (Or.inr ⟨(ow hw 34 rfl), rfl, hnm⟩) (ow hw 5 rfl) (ty := (.object "com/example/wakeline/wakeline/event/Value$Kind")) (by decide) rfl rfl (g := (mkF m 93 #[cr b32, cr w_NUMBER, cr b55] [(.ref w_NUMBER), (.ref b32)])) rfl rfl (hb hby d1_93)
 refine EndsW.go st94 ?_
 have Fw94 := ((((PF_b32_kind.keep K59c nin0).ext E60).keep K62c nin0).keep K93c nin0).same W94
 have K94 := K93.wr W94 (Or.inl (List.mem_of_getElem? (i := 0) rfl))
 have O94 := O93.wr W94 g_b32
 have N94 := Fr.snoc X94 N93 g_b32
 show EndsW _ _ _ _ T94 (mkF m 96 #[cr b32, cr w_NUMBER, cr b55] []) _ _ _
 refine walNW X94 hx hby d1_96 rfl rfl ?_
 refine walNW X94 hx hby d1_97 rfl rfl ?_
 obtain ⟨T95, h95, X95, e95, W95, st95⟩ := putF X94 hx hZ hown (host := "") (Or.inl (ow hw 35 rfl)) Via.refl e94 (((((PF_b32_text.keep K59c nin0).ext E60).keep K62c nin0).keep K93c nin0).other W94 (Or.inr (slot_ne (Or.inr (ow hw 36 rfl)) (Or.inr (ow hw 34 rfl)) (by decide) (t := (.object "java/lang/String")) (t' := (.object "com/example/wakeline/wakeline/event/Value$Kind")) (by decide) (by decide)))) (((((PE_b32.keep K59c).ext E60).keep K62c).keep K93c).wr W94) (Or.inr ⟨(ow hw 36 rfl), rfl, hnm⟩) (ow hw 5 rfl) (ty := (.object "java/lang/String")) (by decide) rfl rfl (g := (mkF m 98 #[cr b32, cr w_NUMBER, cr b55] [(.ref b55), (.ref b32)])) rfl rfl (hb hby d1_98)
 refine EndsW.go st95 ?_
 have Fw95 := (((((PF_b32_text.keep K59c nin0).ext E60).keep K62c nin0).keep K93c nin0).other W94 (Or.inr (slot_ne (Or.inr (ow hw 36 rfl)) (Or.inr (ow hw 34 rfl)) (by decide) (t := (.object "java/lang/String")) (t' := (.object "com/example/wakeline/wakeline/event/Value$Kind")) (by decide) (by decide)))).same W95
 have K95 := K94.wr W95 (Or.inl (List.mem_of_getElem? (i := 0) rfl))
 have O95 := O94.wr W95 g_b32
 have N95 := Fr.snoc X95 N94 g_b32
 refine EndsW.retV (s := s) (vm := T60.vm) X95 hx hS60 (Nat.le_trans (Nat.le_trans (Nat.le_trans (Nat.le_trans (Nat.le_trans hk60 K62c.1) K93c.1) (own_wrsz W94)) (own_wrsz W95)) (Nat.le_of_eq (congrArg Array.size e95.symm))) Bd.notSynchronized Bd.returns (hb hby d1_101) (by decide) (by decide) ?_
 rw [e95]
 exact ⟨rfl, N95, K95, (Fw94.other W95 (Or.inr (slot_ne (Or.inr (ow hw 34 rfl)) (Or.inr (ow hw 36 rfl)) (by decide) (t := (.object "com/example/wakeline/wakeline/event/Value$Kind")) (t' := (.object "java/lang/String")) (by decide) (by decide)))), Fw95⟩

theorem d5_14 : decode prog_15_method_4_code 14 = .ok (.iconst 0, 1) := by decide +kernel
set_option maxRecDepth 65536 in
set_option maxHeartbeats 40000000 in
theorem rx5_97 (l : Launch) (Z : State) (a0 : Array Value) (hw : ∀ d ∈ tables_1, d.before a0 Z = true) (ws : List Jvm.Cond) (n0 : Nat) (h0 : Heap) (O0 : Old Z n0 h0) (G1 : Int32) (G3 : Value) (w_NULL : Addr) (w_NUMBER : Addr) (w_NULL2 : Addr) (w_STRING : Addr) (GF : GlobF Z a0 G1 G3 w_NULL w_NUMBER w_NULL2 w_STRING) (b32 : Addr) (PF_b32_kind : Fld Z h0 b32 "com/example/wakeline/wakeline/event/Value" "kind" "Lcom/example/wakeline/wakeline/event/Value$Kind;" (.ref w_NUMBER)) :
  Meets1 l ym5 prog_15_method_4_code 1 (some .boolean) ws ({ frames := 0, cells := 0, slots := 0, locals := 0 } : Room) #[(.ref b32)] Z h0 (fun v h L => v = some (.int 0) ∧ Fr n0 L ∧ Keep h0 h []) := by
 refine MetFree.of_bodySF (plainFor_of_name pn5) hisR ?_
 intro p e s m args below meth c s₁ Bd hml0 hP hK
 obtain ⟨rfl, hZ, hh⟩ := hP
 have hx := Bd.exec
 have hby := Bd.bytes
 have hml : c.maxLocals = 1 := hml0
 have hown : s.vm.findClass "com/example/wakeline/wakeline/event/Value" = some m.cls := findClass_of_methodNamed Bd.named
 have hnm := (name_of_methodNamed Bd.named Bd.method).1
 have X0 : Stand p l e ({ frames := 0, cells := 0, slots := 0, locals := 0 } : Room) s m #[(.ref b32)] below meth c s₁ [] 0 0 := Stand.of_body Bd
 have e0 : s₁.heap = h0 := by rw [← hh, Bd.state]; rfl
 have N0 := Fr.nil n0
 have Z0 := own_old_le O0
 show Ends _ _ _ _ s₁ (entryFrame m #[(.ref b32)] 1) ({ frames := 0, cells := 0, slots := 0, locals := 0 } : Room).cells ({ frames := 0, cells := 0, slots := 0, locals := 0 } : Room).slots (fun v h L => v = some (.int 0) ∧ Fr n0 L ∧ Keep h0 h [])
 refine Ends.go (fun _ k => castTop (ef5_r m b32) k) ?_
 obtain ⟨SCS, P5, SSF, RG3, HCST, HCW, S_NULL, E_NULL, S_NUMBER, E_NUMBER, F_ordinal_NULL, F_ordinal_NUMBER, S_NULL2, E_NULL2, F_kind_NULL2, S_STRING, E_STRING, F_ordinal_STRING⟩ := id GF
 have K0 := Keep.refl h0 []
 show Ends _ _ _ _ s₁ (mkF m 0 #[cr b32] []) _ _ _
 refine walN X0 hx hby d5_0 rfl rfl ?_
 obtain ⟨T98, X98, e98, st98⟩ := getF X0 hx hZ hown (host := "") (Or.inl (ow hw 33 rfl)) Via.refl e0 PF_b32_kind (g := (mkF m 1 #[cr b32] [(.ref b32)])) rfl rfl (hb hby d5_1)
 refine Ends.go st98 ?_
 obtain ⟨T99, X99, e99, st99⟩ := getS2 X98 hx hZ hown (host := "") (Or.inl (ow hw 30 rfl)) Via.refl e98 (S_NULL.ext O0.2) (g := (mkF m 4 #[cr b32] [(.ref w_NUMBER)])) rfl (hb hby d5_4)
 refine Ends.go st99 ?_
 show Ends _ _ _ _ T99 (mkF m 7 #[cr b32] [(.ref w_NULL), (.ref w_NUMBER)]) _ _ _
 refine .go (fun _ => Jvm.RoadKit.acmp (g := (mkF m 7 #[cr b32] [(.ref w_NULL), (.ref w_NUMBER)])) X99 hx rfl rfl rfl (pc0 := 7) (pc' := 14) (same := false) rfl (hb hby d5_7) rfl (decide_eq_false fun q => (Fld.ne F_ordinal_NUMBER F_ordinal_NULL (by decide)) (Value.ref.inj q)) (by decide) (by decide)) ?_
 refine wic X99 hx hby d5_14 ?_
 refine Ends.retZ X99 hx Bd.notSynchronized (t := .boolean) Bd.returns (by simp) (hb hby d5_15) (by decide) (by decide) ?_
 rw [e99]
 exact ⟨rfl, N0, K0⟩

set_option maxRecDepth 65536 in
set_option maxHeartbeats 40000000 in
theorem rx6_101 (l : Launch) (Z : State) (a0 : Array Value) (hw : ∀ d ∈ tables_1, d.before a0 Z = true) (ws : List Jvm.Cond) (n0 : Nat) (h0 : Heap) (O0 : Old Z n0 h0)  (b32 : Addr) (b55 : Addr) (PF_b32_text : Fld Z h0 b32 "com/example/wakeline/wakeline/event/Value" "text" "Ljava/lang/String;" (.ref b55)) :
  Meets1 l ym6 prog_15_method_10_code 1 (some (.object "java/lang/String")) ws ({ frames := 0, cells := 0, slots := 0, locals := 0 } : Room) #[(.ref b32)] Z h0 (fun v h L => v = some (.ref b55) ∧ Fr n0 L ∧ Keep h0 h []) := by
 refine MetFree.of_bodySF (plainFor_of_name pn6) hisR ?_
 intro p e s m args below meth c s₁ Bd hml0 hP hK
 obtain ⟨rfl, hZ, hh⟩ := hP
 have hx := Bd.exec
 have hby := Bd.bytes
 have hml : c.maxLocals = 1 := hml0
 have hown : s.vm.findClass "com/example/wakeline/wakeline/event/Value" = some m.cls := findClass_of_methodNamed Bd.named
 have hnm := (name_of_methodNamed Bd.named Bd.method).1
 have X0 : Stand p l e ({ frames := 0, cells := 0, slots := 0, locals := 0 } : Room) s m #[(.ref b32)] below meth c s₁ [] 0 0 := Stand.of_body Bd
 have e0 : s₁.heap = h0 := by rw [← hh, Bd.state]; rfl
 have N0 := Fr.nil n0
 have Z0 := own_old_le O0
 show Ends _ _ _ _ s₁ (entryFrame m #[(.ref b32)] 1) ({ frames := 0, cells := 0, slots := 0, locals := 0 } : Room).cells ({ frames := 0, cells := 0, slots := 0, locals := 0 } : Room).slots (fun v h L => v = some (.ref b55) ∧ Fr n0 L ∧ Keep h0 h [])
 refine Ends.go (fun _ k => castTop (ef6_r m b32) k) ?_
 have K0 := Keep.refl h0 []
 show Ends _ _ _ _ s₁ (mkF m 0 #[cr b32] []) _ _ _
 refine walN X0 hx hby d6_0 rfl rfl ?_
 obtain ⟨T102, X102, e102, st102⟩ := getF X0 hx hZ hown (host := "") (Or.inl (ow hw 35 rfl)) Via.refl e0 PF_b32_text (g := (mkF m 1 #[cr b32] [(.ref b32)])) rfl rfl (hb hby d6_1)
 refine Ends.go st102 ?_
 refine Ends.ret X102 hx Bd.notSynchronized (t := (.object "java/lang/String")) Bd.returns rfl (Or.inr (Or.inr (Or.inr (Or.inr ⟨rfl, rfl, rfl⟩)))) (hb hby d6_4) (by decide) (by decide) ?_
 rw [e102]
 exact ⟨rfl, N0, K0⟩

set_option maxRecDepth 65536 in
set_option maxHeartbeats 40000000 in
theorem rx7_104 (l : Launch) (Z : State) (a0 : Array Value) (hw : ∀ d ∈ tables_1, d.before a0 Z = true) (ws : List Jvm.Cond) (n0 : Nat) (h0 : Heap) (O0 : Old Z n0 h0) (G1 : Int32) (G3 : Value) (w_NULL : Addr) (w_NUMBER : Addr) (w_NULL2 : Addr) (w_STRING : Addr) (GF : GlobF Z a0 G1 G3 w_NULL w_NUMBER w_NULL2 w_STRING) (b32 : Addr) (PF_b32_kind : Fld Z h0 b32 "com/example/wakeline/wakeline/event/Value" "kind" "Lcom/example/wakeline/wakeline/event/Value$Kind;" (.ref w_NUMBER)) :
  Meets1 l ym7 prog_15_method_9_code 1 (some (.object "com/example/wakeline/wakeline/event/Value$Kind")) ws ({ frames := 0, cells := 0, slots := 0, locals := 0 } : Room) #[(.ref b32)] Z h0 (fun v h L => v = some (.ref w_NUMBER) ∧ Fr n0 L ∧ Keep h0 h []) := by
 refine MetFree.of_bodySF (plainFor_of_name pn7) hisR ?_
 intro p e s m args below meth c s₁ Bd hml0 hP hK
 obtain ⟨rfl, hZ, hh⟩ := hP
 have hx := Bd.exec
 have hby := Bd.bytes
 have hml : c.maxLocals = 1 := hml0
 have hown : s.vm.findClass "com/example/wakeline/wakeline/event/Value" = some m.cls := findClass_of_methodNamed Bd.named
 have hnm := (name_of_methodNamed Bd.named Bd.method).1
 have X0 : Stand p l e ({ frames := 0, cells := 0, slots := 0, locals := 0 } : Room) s m #[(.ref b32)] below meth c s₁ [] 0 0 := Stand.of_body Bd
 have e0 : s₁.heap = h0 := by rw [← hh, Bd.state]; rfl
 have N0 := Fr.nil n0
 have Z0 := own_old_le O0
 show Ends _ _ _ _ s₁ (entryFrame m #[(.ref b32)] 1) ({ frames := 0, cells := 0, slots := 0, locals := 0 } : Room).cells ({ frames := 0, cells := 0, slots := 0, locals := 0 } : Room).slots (fun v h L => v = some (.ref w_NUMBER) ∧ Fr n0 L ∧ Keep h0 h [])
 refine Ends.go (fun _ k => castTop (ef7_r m b32) k) ?_
 obtain ⟨SCS, P5, SSF, RG3, HCST, HCW, S_NULL, E_NULL, S_NUMBER, E_NUMBER, F_ordinal_NULL, F_ordinal_NUMBER, S_NULL2, E_NULL2, F_kind_NULL2, S_STRING, E_STRING, F_ordinal_STRING⟩ := id GF
 have K0 := Keep.refl h0 []
 show Ends _ _ _ _ s₁ (mkF m 0 #[cr b32] []) _ _ _
 refine walN X0 hx hby d7_0 rfl rfl ?_
 obtain ⟨T105, X105, e105, st105⟩ := getF X0 hx hZ hown (host := "") (Or.inl (ow hw 33 rfl)) Via.refl e0 PF_b32_kind (g := (mkF m 1 #[cr b32] [(.ref b32)])) rfl rfl (hb hby d7_1)
 refine Ends.go st105 ?_
 refine Ends.ret X105 hx Bd.notSynchronized (t := (.object "com/example/wakeline/wakeline/event/Value$Kind")) Bd.returns rfl (Or.inr (Or.inr (Or.inr (Or.inr ⟨rfl, rfl, rfl⟩)))) (hb hby d7_4) (by decide) (by decide) ?_
 rw [e105]
 exact ⟨rfl, N0, K0⟩

theorem d22_0 : decode prog_10_method_5_code 0 = .ok (.iload_n 1, 1) := by decide +kernel
theorem d22_1 : decode prog_10_method_5_code 1 = .ok (.istore_n 2, 1) := by decide +kernel
theorem d22_2 : decode prog_10_method_5_code 2 = .ok (.iload_n 2, 1) := by decide +kernel
theorem d22_3 : decode prog_10_method_5_code 3 = .ok (.aload_n 0, 1) := by decide +kernel
theorem d22_4 : decode prog_10_method_5_code 4 = .ok (.invokevirtual 13, 3) := by decide +kernel
theorem d22_7 : decode prog_10_method_5_code 7 = .ok (.if_icmp .ge 29, 3) := by decide +kernel
theorem d22_10 : decode prog_10_method_5_code 10 = .ok (.aload_n 0, 1) := by decide +kernel
theorem d22_11 : decode prog_10_method_5_code 11 = .ok (.iload_n 2, 1) := by decide +kernel
theorem d22_12 : decode prog_10_method_5_code 12 = .ok (.invokevirtual 19, 3) := by decide +kernel
theorem d22_15 : decode prog_10_method_5_code 15 = .ok (.bipush 48, 2) := by decide +kernel
theorem d22_17 : decode prog_10_method_5_code 17 = .ok (.if_icmp .lt 19, 3) := by decide +kernel
theorem d22_20 : decode prog_10_method_5_code 20 = .ok (.aload_n 0, 1) := by decide +kernel
theorem d22_21 : decode prog_10_method_5_code 21 = .ok (.iload_n 2, 1) := by decide +kernel
theorem d22_22 : decode prog_10_method_5_code 22 = .ok (.invokevirtual 19, 3) := by decide +kernel
theorem d22_25 : decode prog_10_method_5_code 25 = .ok (.bipush 57, 2) := by decide +kernel
theorem d22_27 : decode prog_10_method_5_code 27 = .ok (.if_icmp .gt 9, 3) := by decide +kernel
theorem d22_30 : decode prog_10_method_5_code 30 = .ok (.iinc 2 1, 3) := by decide +kernel
theorem d22_33 : decode prog_10_method_5_code 33 = .ok (.goto (-31), 3) := by decide +kernel
theorem d22_36 : decode prog_10_method_5_code 36 = .ok (.iload_n 2, 1) := by decide +kernel
theorem d22_37 : decode prog_10_method_5_code 37 = .ok (.iload_n 1, 1) := by decide +kernel
theorem d22_38 : decode prog_10_method_5_code 38 = .ok (.if_icmp .le 7, 3) := by decide +kernel
theorem d22_41 : decode prog_10_method_5_code 41 = .ok (.iload_n 2, 1) := by decide +kernel
theorem d22_42 : decode prog_10_method_5_code 42 = .ok (.goto 4, 3) := by decide +kernel
theorem d22_46 : decode prog_10_method_5_code 46 = .ok (.ireturn, 1) := by decide +kernel
theorem pn22 : plainName "com/example/wakeline/wakeline/event/NumberSyntax" = true := by first | (simp [plainName, overriddenIn]; done) | decide +kernel
theorem ef22_ri (m : MethodId) (x0 : Addr) (x1 : Int32) : entryFrame m #[(.ref x0), (.int x1)] 3 = mkF m 0 #[.val (.ref x0), .val (.int x1), .unset] [] := by first | (simp [entryFrame, mkF, argsToLocals, Value.category]; done) | rfl
set_option maxRecDepth 65536 in
set_option maxHeartbeats 40000000 in
theorem rx22_125 (l : Launch) (Z : State) (a0 : Array Value) (hw : ∀ d ∈ tables_1, d.before a0 Z = true) (ws : List Jvm.Cond) (n0 : Nat) (h0 : Heap) (O0 : Old Z n0 h0) (G1 : Int32) (G3 : Value) (w_NULL : Addr) (w_NUMBER : Addr) (w_NULL2 : Addr) (w_STRING : Addr) (GF : GlobF Z a0 G1 G3 w_NULL w_NUMBER w_NULL2 w_STRING) (b110 : Addr) (b111 : Addr) (k112 : ClassId) (p1 : Int32) (PF_b110_value : Fld Z h0 b110 "java/lang/String" "value" "[B" (.ref b111)) (PV_b111 : Arv Z h0 b111 k112 .byte (1 : Int32) [(.int ((((48 : Int32) + ((p1 &&& (2147483647 : Int32)) % (10 : Int32))).toUInt32.toUInt16.toUInt32.toInt32).toInt8.toInt32))] (.int 0)) (PF_b110_coder : Fld Z h0 b110 "java/lang/String" "coder" "B" (.int 0)) (PE_b110 : Exa Z h0 b110 "java/lang/String") (hDG : own_dig (((48 : Int32) + ((p1 &&& (2147483647 : Int32)) % (10 : Int32))).toUInt32.toUInt16.toUInt32.toInt32)) :
  Meets1 l ym20 prog_10_method_5_code 3 (some .int) ws ({ frames := 4, cells := 0, slots := 0, locals := 53 } : Room) #[(.ref b110), (.int 0)] Z h0 (fun v h L => v = some (.int 1) ∧ Fr n0 L ∧ Keep h0 h []) := by
 refine MetFree.of_bodySF (plainFor_of_name pn22) hisR ?_
 intro p e s m args below meth c s₁ Bd hml0 hP hK
 obtain ⟨rfl, hZ, hh⟩ := hP
 have hx := Bd.exec
 have hby := Bd.bytes
 have hml : c.maxLocals = 3 := hml0
 have hown : s.vm.findClass "com/example/wakeline/wakeline/event/NumberSyntax" = some m.cls := findClass_of_methodNamed Bd.named
 have hnm := (name_of_methodNamed Bd.named Bd.method).1
 have X0 : Stand p l e ({ frames := 4, cells := 0, slots := 0, locals := 53 } : Room) s m #[(.ref b110), (.int 0)] below meth c s₁ [] 0 0 := Stand.of_body Bd
 have e0 : s₁.heap = h0 := by rw [← hh, Bd.state]; rfl
 have N0 := Fr.nil n0
 have Z0 := own_old_le O0
 show Ends _ _ _ _ s₁ (entryFrame m #[(.ref b110), (.int 0)] 3) ({ frames := 4, cells := 0, slots := 0, locals := 53 } : Room).cells ({ frames := 4, cells := 0, slots := 0, locals := 53 } : Room).slots (fun v h L => v = some (.int 1) ∧ Fr n0 L ∧ Keep h0 h [])
 refine Ends.go (fun _ k => castTop (ef22_ri m b110 (0 : Int32)) k) ?_
 obtain ⟨SCS, P5, SSF, RG3, HCST, HCW, S_NULL, E_NULL, S_NUMBER, E_NUMBER, F_ordinal_NULL, F_ordinal_NUMBER, S_NULL2, E_NULL2, F_kind_NULL2, S_STRING, E_STRING, F_ordinal_STRING⟩ := id GF
 have K0 := Keep.refl h0 []
 show Ends _ _ _ _ s₁ (mkF m 0 #[cr b110, ci 0, cu] []) _ _ _
 refine wilN X0 hx hby d22_0 rfl ?_
 refine wstN X0 hx hby d22_1 (l' := #[cr b110, ci 0, ci 0]) rfl ?_
 refine wilN X0 hx hby d22_2 rfl ?_
 show Ends _ _ _ _ s₁ (mkF m 3 #[cr b110, ci 0, ci 0] [(.int 0)]) _ _ _
 refine walN X0 hx hby d22_3 rfl rfl ?_
 obtain ⟨cq126, kq126, q126a, q126b, q126c⟩ := isOf hZ e0 PE_b110
 obtain ⟨_, _, ⟨T126, L126, k126, n126⟩, -, X126, ⟨Lc126, hQ126, l126, y126, z126⟩, st126⟩ := X0.virtualBack hx (y := ym14) (z := ym14) hown (mvT hZ (ow hw 85 rfl)) (mvT hZ (ow hw 86 rfl)) (notFace_of_selects (args := #[]) (mvT hZ (ow hw 88 rfl))) (mvT hZ (ow hw 88 rfl)) (mvT hZ (ow hw 87 rfl)) (by decide) (own_backOf (W := 1) (rx15_67 l Z a0 hw [] n0 h0 O0 G1 G3 w_NULL w_NUMBER w_NULL2 w_STRING GF b110 b111 k112 p1 PF_b110_value PV_b111 PF_b110_coder PE_b110) hZ (ow hw 89 rfl) (ow hw 19 rfl) (by decide) (by decide)) q126a q126c (g := (mkF m 4 #[cr b110, ci 0, ci 0] [(.ref b110), (.int 0)])) rfl (by rw [hml]; rfl) (Steps.refl _) (argsL := []) (rest := [(.int 0)]) (lenOf pdx_12 rfl) rfl (by show 2 * 0 + _ ≤ _; exact Nat.le_of_eq rfl) (hb hby d22_4) (fun _ _ => ⟨rfl, e0, (by decide : 0 + 0 ≤ _), (by decide : 0 + 0 ≤ _)⟩)
 dsimp only [Pt.U, Pt.locs, Pt.cells, Pt.slots] at X126 l126 y126 z126 st126 hQ126
 subst l126 y126 z126
 obtain ⟨rfl, N126q, K126c⟩ := hQ126
 have N126 := Fr.app N0 N126q
 refine Ends.go (fun _ k => st126.trans k) ?_
 obtain ⟨h126, e126⟩ : ∃ z, T126.heap = z := ⟨_, rfl⟩
 rw [e126] at K126c
 have K126 := K0.trans K126c all0
 have O126 := O0.keep K126c all0
 refine wcn X126 hx hby d22_7 (tlt (by decide : (0 : Int32) < (1 : Int32))).2.1 ?_
 refine walN X126 hx hby d22_10 rfl rfl ?_
 show Ends _ _ _ _ T126 (mkF m 11 #[cr b110, ci 0, ci 0] [(.ref b110)]) _ _ _
 refine wilN X126 hx hby d22_11 rfl ?_
 obtain ⟨cq127, kq127, q127a, q127b, q127c⟩ := isOf hZ e126 (PE_b110.keep K126c)
 obtain ⟨_, _, ⟨T127, L127, k127, n127⟩, -, X127, ⟨Lc127, hQ127, l127, y127, z127⟩, st127⟩ := X126.virtualBack hx (y := ym17) (z := ym17) hown (mvT hZ (ow hw 95 rfl)) (mvT hZ (ow hw 96 rfl)) (notFace_of_selects (args := #[]) (mvT hZ (ow hw 98 rfl))) (mvT hZ (ow hw 98 rfl)) (mvT hZ (ow hw 97 rfl)) (by decide) (own_backOf (W := 0) (rx17_75 l Z a0 hw [] n0 h126 O126 G1 G3 w_NULL w_NUMBER w_NULL2 w_STRING GF b110 b111 k112 p1 (PF_b110_coder.keep K126c nin0) (PE_b110.keep K126c) (PF_b110_value.keep K126c nin0) (PV_b111.keep K126c nin0) hDG) hZ (ow hw 99 rfl) (ow hw 19 rfl) (by decide) (by decide)) q127a q127c (g := (mkF m 12 #[cr b110, ci 0, ci 0] [(.int 0), (.ref b110)])) rfl (by rw [hml]; rfl) (Steps.refl _) (argsL := [(.int 0)]) (rest := []) (lenOf pdx_15 rfl) rfl (by show 2 * 0 + _ ≤ _; exact Nat.le_of_eq rfl) (hb hby d22_12) (fun _ _ => ⟨rfl, e126, (by decide : 0 + 0 ≤ _), (by decide : 0 + 0 ≤ _)⟩)
 dsimp only [Pt.U, Pt.locs, Pt.cells, Pt.slots] at X127 l127 y127 z127 st127 hQ127
 subst l127 y127 z127
 obtain ⟨rfl, N127q, K127c⟩ := hQ127
 have N127 := Fr.app N126 N127q
 refine Ends.go (fun _ k => st127.trans k) ?_
 obtain ⟨h127, e127⟩ : ∃ z, T127.heap = z := ⟨_, rfl⟩
 rw [e127] at K127c
 have K127 := K126.trans K127c all0
 have O127 := O126.keep K127c all0
 refine wbp X127 hx hby d22_15 ?_
 refine wcn X127 hx hby d22_17 (flt ((own_dlo hDG) : ¬ ((((48 : Int32) + ((p1 &&& (2147483647 : Int32)) % (10 : Int32))).toUInt32.toUInt16.toUInt32.toInt32) < (48 : Int32)))).1 ?_
 show Ends _ _ _ _ T127 (mkF m 20 #[cr b110, ci 0, ci 0] []) _ _ _
 refine walN X127 hx hby d22_20 rfl rfl ?_
 refine wilN X127 hx hby d22_21 rfl ?_
 obtain ⟨cq128, kq128, q128a, q128b, q128c⟩ := isOf hZ e127 ((PE_b110.keep K126c).keep K127c)
 obtain ⟨_, _, ⟨T128, L128, k128, n128⟩, -, X128, ⟨Lc128, hQ128, l128, y128, z128⟩, st128⟩ := X127.virtualBack hx (y := ym17) (z := ym17) hown (mvT hZ (ow hw 95 rfl)) (mvT hZ (ow hw 96 rfl)) (notFace_of_selects (args := #[]) (mvT hZ (ow hw 98 rfl))) (mvT hZ (ow hw 98 rfl)) (mvT hZ (ow hw 97 rfl)) (by decide) (own_backOf (W := 0) (rx17_75 l Z a0 hw [] n0 h127 O127 G1 G3 w_NULL w_NUMBER w_NULL2 w_STRING GF b110 b111 k112 p1 ((PF_b110_coder.keep K126c nin0).keep K127c nin0) ((PE_b110.keep K126c).keep K127c) ((PF_b110_value.keep K126c nin0).keep K127c nin0) ((PV_b111.keep K126c nin0).keep K127c nin0) hDG) hZ (ow hw 99 rfl) (ow hw 19 rfl) (by decide) (by decide)) q128a q128c (g := (mkF m 22 #[cr b110, ci 0, ci 0] [(.int 0), (.ref b110)])) rfl (by rw [hml]; rfl) (Steps.refl _) (argsL := [(.int 0)]) (rest := []) (lenOf pdx_15 rfl) rfl (by show 2 * 0 + _ ≤ _; exact Nat.le_of_eq rfl) (hb hby d22_22) (fun _ _ => ⟨rfl, e127, (by decide : 0 + 0 ≤ _), (by decide : 0 + 0 ≤ _)⟩)
 dsimp only [Pt.U, Pt.locs, Pt.cells, Pt.slots] at X128 l128 y128 z128 st128 hQ128
 subst l128 y128 z128
 obtain ⟨rfl, N128q, K128c⟩ := hQ128
 have N128 := Fr.app N127 N128q
 refine Ends.go (fun _ k => st128.trans k) ?_
 obtain ⟨h128, e128⟩ : ∃ z, T128.heap = z := ⟨_, rfl⟩
 rw [e128] at K128c
 have K128 := K127.trans K128c all0
 have O128 := O127.keep K128c all0
 refine wbp X128 hx hby d22_25 ?_
 show Ends _ _ _ _ T128 (mkF m 27 #[cr b110, ci 0, ci 0] [(.int 57), (.int (((48 : Int32) + ((p1 &&& (2147483647 : Int32)) % (10 : Int32))).toUInt32.toUInt16.toUInt32.toInt32))]) _ _ _
 refine wcn X128 hx hby d22_27 (flt ((own_dhi hDG) : ¬ ((57 : Int32) < (((48 : Int32) + ((p1 &&& (2147483647 : Int32)) % (10 : Int32))).toUInt32.toUInt16.toUInt32.toInt32)))).2.2.1 ?_
 refine wii X128 hx hby d22_30 (l' := #[cr b110, ci 0, ci 1]) rfl rfl ?_
 refine wgo (pc := 33) (pc' := 2) X128 hx hby d22_33 (by decide) (by decide) ?_
 refine wilN X128 hx hby d22_2 rfl ?_
 show Ends _ _ _ _ T128 (mkF m 3 #[cr b110, ci 0, ci 1] [(.int 1)]) _ _ _
 refine walN X128 hx hby d22_3 rfl rfl ?_
 obtain ⟨cq129, kq129, q129a, q129b, q129c⟩ := isOf hZ e128 (((PE_b110.keep K126c).keep K127c).keep K128c)
 obtain ⟨_, _, ⟨T129, L129, k129, n129⟩, -, X129, ⟨Lc129, hQ129, l129, y129, z129⟩, st129⟩ := X128.virtualBack hx (y := ym14) (z := ym14) hown (mvT hZ (ow hw 85 rfl)) (mvT hZ (ow hw 86 rfl)) (notFace_of_selects (args := #[]) (mvT hZ (ow hw 88 rfl))) (mvT hZ (ow hw 88 rfl)) (mvT hZ (ow hw 87 rfl)) (by decide) (own_backOf (W := 1) (rx15_67 l Z a0 hw [] n0 h128 O128 G1 G3 w_NULL w_NUMBER w_NULL2 w_STRING GF b110 b111 k112 p1 (((PF_b110_value.keep K126c nin0).keep K127c nin0).keep K128c nin0) (((PV_b111.keep K126c nin0).keep K127c nin0).keep K128c nin0) (((PF_b110_coder.keep K126c nin0).keep K127c nin0).keep K128c nin0) (((PE_b110.keep K126c).keep K127c).keep K128c)) hZ (ow hw 89 rfl) (ow hw 19 rfl) (by decide) (by decide)) q129a q129c (g := (mkF m 4 #[cr b110, ci 0, ci 1] [(.ref b110), (.int 1)])) rfl (by rw [hml]; rfl) (Steps.refl _) (argsL := []) (rest := [(.int 1)]) (lenOf pdx_12 rfl) rfl (by show 2 * 0 + _ ≤ _; exact Nat.le_of_eq rfl) (hb hby d22_4) (fun _ _ => ⟨rfl, e128, (by decide : 0 + 0 ≤ _), (by decide : 0 + 0 ≤ _)⟩)
 dsimp only [Pt.U, Pt.locs, Pt.cells, Pt.slots] at X129 l129 y129 z129 st129 hQ129
 subst l129 y129 z129
 obtain ⟨rfl, N129q, K129c⟩ := hQ129
 have N129 := Fr.app N128 N129q
 refine Ends.go (fun _ k => st129.trans k) ?_
 obtain ⟨h129, e129⟩ : ∃ z, T129.heap = z := ⟨_, rfl⟩
 rw [e129] at K129c
 have K129 := K128.trans K129c all0
 have O129 := O128.keep K129c all0
 refine wcy (pc := 7) (pc' := 36) X129 hx hby d22_7 (flt (by decide : ¬ ((1 : Int32) < (1 : Int32)))).2.1 (by decide) (by decide) ?_
 refine wilN X129 hx hby d22_36 rfl ?_
 show Ends _ _ _ _ T129 (mkF m 37 #[cr b110, ci 0, ci 1] [(.int 1)]) _ _ _
 refine wilN X129 hx hby d22_37 rfl ?_
 refine wcn X129 hx hby d22_38 (tlt (by decide : (0 : Int32) < (1 : Int32))).2.2.2 ?_
 refine wilN X129 hx hby d22_41 rfl ?_
 refine wgo (pc := 42) (pc' := 46) X129 hx hby d22_42 (by decide) (by decide) ?_
 show Ends _ _ _ _ T129 (mkF m 46 #[cr b110, ci 0, ci 1] [(.int 1)]) _ _ _
 refine Ends.ret X129 hx Bd.notSynchronized (t := .int) Bd.returns rfl (Or.inl ⟨rfl, by simp, _, rfl⟩) (hb hby d22_46) (by decide) (by decide) ?_
 rw [e129]
 exact ⟨rfl, N129, K129⟩

theorem d14_45 : decode prog_10_method_4_code 45 = .ok (.aload_n 0, 1) := by decide +kernel
theorem d14_46 : decode prog_10_method_4_code 46 = .ok (.iload_n 1, 1) := by decide +kernel
theorem d14_47 : decode prog_10_method_4_code 47 = .ok (.invokestatic 23, 3) := by decide +kernel
theorem d14_50 : decode prog_10_method_4_code 50 = .ok (.ireturn, 1) := by decide +kernel
theorem pdx_18 : parseMethodDescriptor "(Ljava/lang/String;I)I" = some ⟨[(.object "java/lang/String"), .int], some .int⟩ := by decide +kernel
set_option maxRecDepth 65536 in
set_option maxHeartbeats 40000000 in
theorem rx14_120 (l : Launch) (Z : State) (a0 : Array Value) (hw : ∀ d ∈ tables_1, d.before a0 Z = true) (ws : List Jvm.Cond) (n0 : Nat) (h0 : Heap) (O0 : Old Z n0 h0) (G1 : Int32) (G3 : Value) (w_NULL : Addr) (w_NUMBER : Addr) (w_NULL2 : Addr) (w_STRING : Addr) (GF : GlobF Z a0 G1 G3 w_NULL w_NUMBER w_NULL2 w_STRING) (b110 : Addr) (b111 : Addr) (k112 : ClassId) (p1 : Int32) (PF_b110_value : Fld Z h0 b110 "java/lang/String" "value" "[B" (.ref b111)) (PV_b111 : Arv Z h0 b111 k112 .byte (1 : Int32) [(.int ((((48 : Int32) + ((p1 &&& (2147483647 : Int32)) % (10 : Int32))).toUInt32.toUInt16.toUInt32.toInt32).toInt8.toInt32))] (.int 0)) (PF_b110_coder : Fld Z h0 b110 "java/lang/String" "coder" "B" (.int 0)) (PE_b110 : Exa Z h0 b110 "java/lang/String") (hDG : own_dig (((48 : Int32) + ((p1 &&& (2147483647 : Int32)) % (10 : Int32))).toUInt32.toUInt16.toUInt32.toInt32)) (hd48_ : ¬ ((((48 : Int32) + ((p1 &&& (2147483647 : Int32)) % (10 : Int32))).toUInt32.toUInt16.toUInt32.toInt32) = (48 : Int32))) :
  Meets1 l ym18 prog_10_method_4_code 2 (some .int) ws ({ frames := 5, cells := 0, slots := 0, locals := 67 } : Room) #[(.ref b110)] Z h0 (fun v h L => v = some (.int 1) ∧ Fr n0 L ∧ Keep h0 h []) := by
 refine MetFree.of_bodySF (plainFor_of_name pn14) hisR ?_
 intro p e s m args below meth c s₁ Bd hml0 hP hK
 obtain ⟨rfl, hZ, hh⟩ := hP
 have hx := Bd.exec
 have hby := Bd.bytes
 have hml : c.maxLocals = 2 := hml0
 have hown : s.vm.findClass "com/example/wakeline/wakeline/event/NumberSyntax" = some m.cls := findClass_of_methodNamed Bd.named
 have hnm := (name_of_methodNamed Bd.named Bd.method).1
 have X0 : Stand p l e ({ frames := 5, cells := 0, slots := 0, locals := 67 } : Room) s m #[(.ref b110)] below meth c s₁ [] 0 0 := Stand.of_body Bd
 have e0 : s₁.heap = h0 := by rw [← hh, Bd.state]; rfl
 have N0 := Fr.nil n0
 have Z0 := own_old_le O0
 show Ends _ _ _ _ s₁ (entryFrame m #[(.ref b110)] 2) ({ frames := 5, cells := 0, slots := 0, locals := 67 } : Room).cells ({ frames := 5, cells := 0, slots := 0, locals := 67 } : Room).slots (fun v h L => v = some (.int 1) ∧ Fr n0 L ∧ Keep h0 h [])
 refine Ends.go (fun _ k => castTop (ef14_r m b110) k) ?_
 obtain ⟨SCS, P5, SSF, RG3, HCST, HCW, S_NULL, E_NULL, S_NUMBER, E_NUMBER, F_ordinal_NULL, F_ordinal_NUMBER, S_NULL2, E_NULL2, F_kind_NULL2, S_STRING, E_STRING, F_ordinal_STRING⟩ := id GF
 have K0 := Keep.refl h0 []
 show Ends _ _ _ _ s₁ (mkF m 0 #[cr b110, cu] []) _ _ _
 refine wic X0 hx hby d14_0 ?_
 refine wstN X0 hx hby d14_1 (l' := #[cr b110, ci 0]) rfl ?_
 refine wilN X0 hx hby d14_2 rfl ?_
 show Ends _ _ _ _ s₁ (mkF m 3 #[cr b110, ci 0] [(.int 0)]) _ _ _
 refine walN X0 hx hby d14_3 rfl rfl ?_
 obtain ⟨cq121, kq121, q121a, q121b, q121c⟩ := isOf hZ e0 PE_b110
 obtain ⟨_, _, ⟨T121, L121, k121, n121⟩, -, X121, ⟨Lc121, hQ121, l121, y121, z121⟩, st121⟩ := X0.virtualBack hx (y := ym14) (z := ym14) hown (mvT hZ (ow hw 85 rfl)) (mvT hZ (ow hw 86 rfl)) (notFace_of_selects (args := #[]) (mvT hZ (ow hw 88 rfl))) (mvT hZ (ow hw 88 rfl)) (mvT hZ (ow hw 87 rfl)) (by decide) (own_backOf (W := 1) (rx15_67 l Z a0 hw [] n0 h0 O0 G1 G3 w_NULL w_NUMBER w_NULL2 w_STRING GF b110 b111 k112 p1 PF_b110_value PV_b111 PF_b110_coder PE_b110) hZ (ow hw 89 rfl) (ow hw 19 rfl) (by decide) (by decide)) q121a q121c (g := (mkF m 4 #[cr b110, ci 0] [(.ref b110), (.int 0)])) rfl (by rw [hml]; rfl) (Steps.refl _) (argsL := []) (rest := [(.int 0)]) (lenOf pdx_12 rfl) rfl (by show 2 * 0 + _ ≤ _; exact Nat.le_of_eq rfl) (hb hby d14_4) (fun _ _ => ⟨rfl, e0, (by decide : 0 + 0 ≤ _), (by decide : 0 + 0 ≤ _)⟩)
 dsimp only [Pt.U, Pt.locs, Pt.cells, Pt.slots] at X121 l121 y121 z121 st121 hQ121
 subst l121 y121 z121
 obtain ⟨rfl, N121q, K121c⟩ := hQ121
 have N121 := Fr.app N0 N121q
 refine Ends.go (fun _ k => st121.trans k) ?_
 obtain ⟨h121, e121⟩ : ∃ z, T121.heap = z := ⟨_, rfl⟩
 rw [e121] at K121c
 have K121 := K0.trans K121c all0
 have O121 := O0.keep K121c all0
 refine wcn X121 hx hby d14_7 (tlt (by decide : (0 : Int32) < (1 : Int32))).2.1 ?_
 refine walN X121 hx hby d14_10 rfl rfl ?_
 show Ends _ _ _ _ T121 (mkF m 11 #[cr b110, ci 0] [(.ref b110)]) _ _ _
 refine wilN X121 hx hby d14_11 rfl ?_
 obtain ⟨cq122, kq122, q122a, q122b, q122c⟩ := isOf hZ e121 (PE_b110.keep K121c)
 obtain ⟨_, _, ⟨T122, L122, k122, n122⟩, -, X122, ⟨Lc122, hQ122, l122, y122, z122⟩, st122⟩ := X121.virtualBack hx (y := ym17) (z := ym17) hown (mvT hZ (ow hw 95 rfl)) (mvT hZ (ow hw 96 rfl)) (notFace_of_selects (args := #[]) (mvT hZ (ow hw 98 rfl))) (mvT hZ (ow hw 98 rfl)) (mvT hZ (ow hw 97 rfl)) (by decide) (own_backOf (W := 0) (rx17_75 l Z a0 hw [] n0 h121 O121 G1 G3 w_NULL w_NUMBER w_NULL2 w_STRING GF b110 b111 k112 p1 (PF_b110_coder.keep K121c nin0) (PE_b110.keep K121c) (PF_b110_value.keep K121c nin0) (PV_b111.keep K121c nin0) hDG) hZ (ow hw 99 rfl) (ow hw 19 rfl) (by decide) (by decide)) q122a q122c (g := (mkF m 12 #[cr b110, ci 0] [(.int 0), (.ref b110)])) rfl (by rw [hml]; rfl) (Steps.refl _) (argsL := [(.int 0)]) (rest := []) (lenOf pdx_15 rfl) rfl (by show 2 * 0 + _ ≤ _; exact Nat.le_of_eq rfl) (hb hby d14_12) (fun _ _ => ⟨rfl, e121, (by decide : 0 + 0 ≤ _), (by decide : 0 + 0 ≤ _)⟩)
 dsimp only [Pt.U, Pt.locs, Pt.cells, Pt.slots] at X122 l122 y122 z122 st122 hQ122
 subst l122 y122 z122
 obtain ⟨rfl, N122q, K122c⟩ := hQ122
 have N122 := Fr.app N121 N122q
 refine Ends.go (fun _ k => st122.trans k) ?_
 obtain ⟨h122, e122⟩ : ∃ z, T122.heap = z := ⟨_, rfl⟩
 rw [e122] at K122c
 have K122 := K121.trans K122c all0
 have O122 := O121.keep K122c all0
 refine wbp X122 hx hby d14_15 ?_
 refine wcy (pc := 17) (pc' := 23) X122 hx hby d14_17 (feq ((own_dne hDG (by decide)) : ¬ ((((48 : Int32) + ((p1 &&& (2147483647 : Int32)) % (10 : Int32))).toUInt32.toUInt16.toUInt32.toInt32) = (45 : Int32)))).2 (by decide) (by decide) ?_
 show Ends _ _ _ _ T122 (mkF m 23 #[cr b110, ci 0] []) _ _ _
 refine wilN X122 hx hby d14_23 rfl ?_
 refine walN X122 hx hby d14_24 rfl rfl ?_
 obtain ⟨cq123, kq123, q123a, q123b, q123c⟩ := isOf hZ e122 ((PE_b110.keep K121c).keep K122c)
 obtain ⟨_, _, ⟨T123, L123, k123, n123⟩, -, X123, ⟨Lc123, hQ123, l123, y123, z123⟩, st123⟩ := X122.virtualBack hx (y := ym14) (z := ym14) hown (mvT hZ (ow hw 85 rfl)) (mvT hZ (ow hw 86 rfl)) (notFace_of_selects (args := #[]) (mvT hZ (ow hw 88 rfl))) (mvT hZ (ow hw 88 rfl)) (mvT hZ (ow hw 87 rfl)) (by decide) (own_backOf (W := 1) (rx15_67 l Z a0 hw [] n0 h122 O122 G1 G3 w_NULL w_NUMBER w_NULL2 w_STRING GF b110 b111 k112 p1 ((PF_b110_value.keep K121c nin0).keep K122c nin0) ((PV_b111.keep K121c nin0).keep K122c nin0) ((PF_b110_coder.keep K121c nin0).keep K122c nin0) ((PE_b110.keep K121c).keep K122c)) hZ (ow hw 89 rfl) (ow hw 19 rfl) (by decide) (by decide)) q123a q123c (g := (mkF m 25 #[cr b110, ci 0] [(.ref b110), (.int 0)])) rfl (by rw [hml]; rfl) (Steps.refl _) (argsL := []) (rest := [(.int 0)]) (lenOf pdx_12 rfl) rfl (by show 2 * 0 + _ ≤ _; exact Nat.le_of_eq rfl) (hb hby d14_25) (fun _ _ => ⟨rfl, e122, (by decide : 0 + 0 ≤ _), (by decide : 0 + 0 ≤ _)⟩)
 dsimp only [Pt.U, Pt.locs, Pt.cells, Pt.slots] at X123 l123 y123 z123 st123 hQ123
 subst l123 y123 z123
 obtain ⟨rfl, N123q, K123c⟩ := hQ123
 have N123 := Fr.app N122 N123q
 refine Ends.go (fun _ k => st123.trans k) ?_
 obtain ⟨h123, e123⟩ : ∃ z, T123.heap = z := ⟨_, rfl⟩
 rw [e123] at K123c
 have K123 := K122.trans K123c all0
 have O123 := O122.keep K123c all0
 refine wcn X123 hx hby d14_28 (tlt (by decide : (0 : Int32) < (1 : Int32))).2.1 ?_
 show Ends _ _ _ _ T123 (mkF m 31 #[cr b110, ci 0] []) _ _ _
 refine walN X123 hx hby d14_31 rfl rfl ?_
 refine wilN X123 hx hby d14_32 rfl ?_
 obtain ⟨cq124, kq124, q124a, q124b, q124c⟩ := isOf hZ e123 (((PE_b110.keep K121c).keep K122c).keep K123c)
 obtain ⟨_, _, ⟨T124, L124, k124, n124⟩, -, X124, ⟨Lc124, hQ124, l124, y124, z124⟩, st124⟩ := X123.virtualBack hx (y := ym17) (z := ym17) hown (mvT hZ (ow hw 95 rfl)) (mvT hZ (ow hw 96 rfl)) (notFace_of_selects (args := #[]) (mvT hZ (ow hw 98 rfl))) (mvT hZ (ow hw 98 rfl)) (mvT hZ (ow hw 97 rfl)) (by decide) (own_backOf (W := 0) (rx17_75 l Z a0 hw [] n0 h123 O123 G1 G3 w_NULL w_NUMBER w_NULL2 w_STRING GF b110 b111 k112 p1 (((PF_b110_coder.keep K121c nin0).keep K122c nin0).keep K123c nin0) (((PE_b110.keep K121c).keep K122c).keep K123c) (((PF_b110_value.keep K121c nin0).keep K122c nin0).keep K123c nin0) (((PV_b111.keep K121c nin0).keep K122c nin0).keep K123c nin0) hDG) hZ (ow hw 99 rfl) (ow hw 19 rfl) (by decide) (by decide)) q124a q124c (g := (mkF m 33 #[cr b110, ci 0] [(.int 0), (.ref b110)])) rfl (by rw [hml]; rfl) (Steps.refl _) (argsL := [(.int 0)]) (rest := []) (lenOf pdx_15 rfl) rfl (by show 2 * 0 + _ ≤ _; exact Nat.le_of_eq rfl) (hb hby d14_33) (fun _ _ => ⟨rfl, e123, (by decide : 0 + 0 ≤ _), (by decide : 0 + 0 ≤ _)⟩)
 dsimp only [Pt.U, Pt.locs, Pt.cells, Pt.slots] at X124 l124 y124 z124 st124 hQ124
 subst l124 y124 z124
 obtain ⟨rfl, N124q, K124c⟩ := hQ124
 have N124 := Fr.app N123 N124q
 refine Ends.go (fun _ k => st124.trans k) ?_
 obtain ⟨h124, e124⟩ : ∃ z, T124.heap = z := ⟨_, rfl⟩
 rw [e124] at K124c
 have K124 := K123.trans K124c all0
 have O124 := O123.keep K124c all0
 refine wbp X124 hx hby d14_36 ?_
 show Ends _ _ _ _ T124 (mkF m 38 #[cr b110, ci 0] [(.int 48), (.int (((48 : Int32) + ((p1 &&& (2147483647 : Int32)) % (10 : Int32))).toUInt32.toUInt16.toUInt32.toInt32))]) _ _ _
 refine wcy (pc := 38) (pc' := 45) X124 hx hby d14_38 (feq (hd48_ : ¬ ((((48 : Int32) + ((p1 &&& (2147483647 : Int32)) % (10 : Int32))).toUInt32.toUInt16.toUInt32.toInt32) = (48 : Int32)))).2 (by decide) (by decide) ?_
 refine walN X124 hx hby d14_45 rfl rfl ?_
 refine wilN X124 hx hby d14_46 rfl ?_
 obtain ⟨_, _, ⟨T130, L130, k130, n130⟩, -, X130, ⟨Lc130, hQ130, l130, y130, z130⟩, st130⟩ := Jvm.LawKit.callS X124 hx (y := ym20) hown (mvT hZ (ow hw 116 rfl)) (mvT hZ (ow hw 117 rfl)) (mvT hZ (ow hw 80 rfl)) (mvT hZ (ow hw 118 rfl)) (by decide) (own_backOf (W := 0) (rx22_125 l Z a0 hw [] n0 h124 O124 G1 G3 w_NULL w_NUMBER w_NULL2 w_STRING GF b110 b111 k112 p1 ((((PF_b110_value.keep K121c nin0).keep K122c nin0).keep K123c nin0).keep K124c nin0) ((((PV_b111.keep K121c nin0).keep K122c nin0).keep K123c nin0).keep K124c nin0) ((((PF_b110_coder.keep K121c nin0).keep K122c nin0).keep K123c nin0).keep K124c nin0) ((((PE_b110.keep K121c).keep K122c).keep K123c).keep K124c) hDG) hZ (ow hw 118 rfl) (ow hw 80 rfl) (by decide) (by decide)) (g := (mkF m 47 #[cr b110, ci 0] [(.int 0), (.ref b110)])) rfl (by rw [hml]; rfl) (argsL := [(.ref b110), (.int 0)]) (rest := []) (lenOf pdx_18 rfl) rfl (by show 2 * 0 + _ ≤ _; exact Nat.le_of_eq rfl) (hb hby d14_47) (fun _ _ => ⟨rfl, e124, (by decide : 0 + 0 ≤ _), (by decide : 0 + 0 ≤ _)⟩)
 dsimp only [Pt.U, Pt.locs, Pt.cells, Pt.slots] at X130 l130 y130 z130 st130 hQ130
 subst l130 y130 z130
 obtain ⟨rfl, N130q, K130c⟩ := hQ130
 have N130 := Fr.app N124 N130q
 refine Ends.go st130 ?_
 obtain ⟨h130, e130⟩ : ∃ z, T130.heap = z := ⟨_, rfl⟩
 rw [e130] at K130c
 have K130 := K124.trans K130c all0
 have O130 := O124.keep K130c all0
 show Ends _ _ _ _ T130 (mkF m 50 #[cr b110, ci 0] [(.int 1)]) _ _ _
 refine Ends.ret X130 hx Bd.notSynchronized (t := .int) Bd.returns rfl (Or.inl ⟨rfl, by simp, _, rfl⟩) (hb hby d14_50) (by decide) (by decide) ?_
 rw [e130]
 exact ⟨rfl, N130, K130⟩

set_option maxRecDepth 65536 in
set_option maxHeartbeats 40000000 in
theorem rx13_119 (l : Launch) (Z : State) (a0 : Array Value) (hw : ∀ d ∈ tables_1, d.before a0 Z = true) (ws : List Jvm.Cond) (n0 : Nat) (h0 : Heap) (O0 : Old Z n0 h0) (G1 : Int32) (G3 : Value) (w_NULL : Addr) (w_NUMBER : Addr) (w_NULL2 : Addr) (w_STRING : Addr) (GF : GlobF Z a0 G1 G3 w_NULL w_NUMBER w_NULL2 w_STRING) (b110 : Addr) (b111 : Addr) (k112 : ClassId) (p1 : Int32) (PF_b110_value : Fld Z h0 b110 "java/lang/String" "value" "[B" (.ref b111)) (PV_b111 : Arv Z h0 b111 k112 .byte (1 : Int32) [(.int ((((48 : Int32) + ((p1 &&& (2147483647 : Int32)) % (10 : Int32))).toUInt32.toUInt16.toUInt32.toInt32).toInt8.toInt32))] (.int 0)) (PF_b110_coder : Fld Z h0 b110 "java/lang/String" "coder" "B" (.int 0)) (PE_b110 : Exa Z h0 b110 "java/lang/String") (hDG : own_dig (((48 : Int32) + ((p1 &&& (2147483647 : Int32)) % (10 : Int32))).toUInt32.toUInt16.toUInt32.toInt32)) (hd48_ : ¬ ((((48 : Int32) + ((p1 &&& (2147483647 : Int32)) % (10 : Int32))).toUInt32.toUInt16.toUInt32.toInt32) = (48 : Int32))) :
  Meets1 l ym19 prog_10_method_3_code 2 (some .boolean) ws ({ frames := 6, cells := 0, slots := 0, locals := 80 } : Room) #[(.ref b110)] Z h0 (fun v h L => v = some (.int 1) ∧ Fr n0 L ∧ Keep h0 h []) := by
 refine MetFree.of_bodySF (plainFor_of_name pn13) hisR ?_
 intro p e s m args below meth c s₁ Bd hml0 hP hK
 obtain ⟨rfl, hZ, hh⟩ := hP
 have hx := Bd.exec
 have hby := Bd.bytes
 have hml : c.maxLocals = 2 := hml0
 have hown : s.vm.findClass "com/example/wakeline/wakeline/event/NumberSyntax" = some m.cls := findClass_of_methodNamed Bd.named
 have hnm := (name_of_methodNamed Bd.named Bd.method).1
 have X0 : Stand p l e ({ frames := 6, cells := 0, slots := 0, locals := 80 } : Room) s m #[(.ref b110)] below meth c s₁ [] 0 0 := Stand.of_body Bd
 have e0 : s₁.heap = h0 := by rw [← hh, Bd.state]; rfl
 have N0 := Fr.nil n0
 have Z0 := own_old_le O0
 show Ends _ _ _ _ s₁ (entryFrame m #[(.ref b110)] 2) ({ frames := 6, cells := 0, slots := 0, locals := 80 } : Room).cells ({ frames := 6, cells := 0, slots := 0, locals := 80 } : Room).slots (fun v h L => v = some (.int 1) ∧ Fr n0 L ∧ Keep h0 h [])
 refine Ends.go (fun _ k => castTop (ef13_r m b110) k) ?_
 obtain ⟨SCS, P5, SSF, RG3, HCST, HCW, S_NULL, E_NULL, S_NUMBER, E_NUMBER, F_ordinal_NULL, F_ordinal_NUMBER, S_NULL2, E_NULL2, F_kind_NULL2, S_STRING, E_STRING, F_ordinal_STRING⟩ := id GF
 have K0 := Keep.refl h0 []
 show Ends _ _ _ _ s₁ (mkF m 0 #[cr b110, cu] []) _ _ _
 refine walN X0 hx hby d13_0 rfl rfl ?_
 obtain ⟨_, _, ⟨T131, L131, k131, n131⟩, -, X131, ⟨Lc131, hQ131, l131, y131, z131⟩, st131⟩ := Jvm.LawKit.callS X0 hx (y := ym18) hown (mvT hZ (ow hw 82 rfl)) (mvT hZ (ow hw 83 rfl)) (mvT hZ (ow hw 80 rfl)) (mvT hZ (ow hw 84 rfl)) (by decide) (own_backOf (W := 0) (rx14_120 l Z a0 hw [] n0 h0 O0 G1 G3 w_NULL w_NUMBER w_NULL2 w_STRING GF b110 b111 k112 p1 PF_b110_value PV_b111 PF_b110_coder PE_b110 hDG hd48_) hZ (ow hw 84 rfl) (ow hw 80 rfl) (by decide) (by decide)) (g := (mkF m 1 #[cr b110, cu] [(.ref b110)])) rfl (by rw [hml]; rfl) (argsL := [(.ref b110)]) (rest := []) (lenOf pdx_16 rfl) rfl (by show 2 * 0 + _ ≤ _; exact Nat.le_of_eq rfl) (hb hby d13_1) (fun _ _ => ⟨rfl, e0, (by decide : 0 + 0 ≤ _), (by decide : 0 + 0 ≤ _)⟩)
 dsimp only [Pt.U, Pt.locs, Pt.cells, Pt.slots] at X131 l131 y131 z131 st131 hQ131
 subst l131 y131 z131
 obtain ⟨rfl, N131q, K131c⟩ := hQ131
 have N131 := Fr.app N0 N131q
 refine Ends.go st131 ?_
 obtain ⟨h131, e131⟩ : ∃ z, T131.heap = z := ⟨_, rfl⟩
 rw [e131] at K131c
 have K131 := K0.trans K131c all0
 have O131 := O0.keep K131c all0
 refine wstN X131 hx hby d13_4 (l' := #[cr b110, ci 1]) rfl ?_
 show Ends _ _ _ _ T131 (mkF m 5 #[cr b110, ci 1] []) _ _ _
 refine wilN X131 hx hby d13_5 rfl ?_
 refine wiy (pc := 6) (pc' := 11) X131 hx hby d13_6 ((if0 _ _).trans (flt (by decide : ¬ ((1 : Int32) < (0 : Int32)))).2.1) (by decide) (by decide) ?_
 refine wilN X131 hx hby d13_11 rfl ?_
 refine walN X131 hx hby d13_12 rfl rfl ?_
 show Ends _ _ _ _ T131 (mkF m 13 #[cr b110, ci 1] [(.ref b110), (.int 1)]) _ _ _
 obtain ⟨cq132, kq132, q132a, q132b, q132c⟩ := isOf hZ e131 (PE_b110.keep K131c)
 obtain ⟨_, _, ⟨T132, L132, k132, n132⟩, -, X132, ⟨Lc132, hQ132, l132, y132, z132⟩, st132⟩ := X131.virtualBack hx (y := ym14) (z := ym14) hown (mvT hZ (ow hw 85 rfl)) (mvT hZ (ow hw 86 rfl)) (notFace_of_selects (args := #[]) (mvT hZ (ow hw 88 rfl))) (mvT hZ (ow hw 88 rfl)) (mvT hZ (ow hw 87 rfl)) (by decide) (own_backOf (W := 1) (rx15_67 l Z a0 hw [] n0 h131 O131 G1 G3 w_NULL w_NUMBER w_NULL2 w_STRING GF b110 b111 k112 p1 (PF_b110_value.keep K131c nin0) (PV_b111.keep K131c nin0) (PF_b110_coder.keep K131c nin0) (PE_b110.keep K131c)) hZ (ow hw 89 rfl) (ow hw 19 rfl) (by decide) (by decide)) q132a q132c (g := (mkF m 13 #[cr b110, ci 1] [(.ref b110), (.int 1)])) rfl (by rw [hml]; rfl) (Steps.refl _) (argsL := []) (rest := [(.int 1)]) (lenOf pdx_12 rfl) rfl (by show 2 * 0 + _ ≤ _; exact Nat.le_of_eq rfl) (hb hby d13_13) (fun _ _ => ⟨rfl, e131, (by decide : 0 + 0 ≤ _), (by decide : 0 + 0 ≤ _)⟩)
 dsimp only [Pt.U, Pt.locs, Pt.cells, Pt.slots] at X132 l132 y132 z132 st132 hQ132
 subst l132 y132 z132
 obtain ⟨rfl, N132q, K132c⟩ := hQ132
 have N132 := Fr.app N131 N132q
 refine Ends.go (fun _ k => st132.trans k) ?_
 obtain ⟨h132, e132⟩ : ∃ z, T132.heap = z := ⟨_, rfl⟩
 rw [e132] at K132c
 have K132 := K131.trans K132c all0
 have O132 := O131.keep K132c all0
 refine wcy (pc := 16) (pc' := 43) X132 hx hby d13_16 (flt (by decide : ¬ ((1 : Int32) < (1 : Int32)))).2.1 (by decide) (by decide) ?_
 refine wilN X132 hx hby d13_43 rfl ?_
 refine walN X132 hx hby d13_44 rfl rfl ?_
 show Ends _ _ _ _ T132 (mkF m 45 #[cr b110, ci 1] [(.ref b110), (.int 1)]) _ _ _
 obtain ⟨cq133, kq133, q133a, q133b, q133c⟩ := isOf hZ e132 ((PE_b110.keep K131c).keep K132c)
 obtain ⟨_, _, ⟨T133, L133, k133, n133⟩, -, X133, ⟨Lc133, hQ133, l133, y133, z133⟩, st133⟩ := X132.virtualBack hx (y := ym14) (z := ym14) hown (mvT hZ (ow hw 85 rfl)) (mvT hZ (ow hw 86 rfl)) (notFace_of_selects (args := #[]) (mvT hZ (ow hw 88 rfl))) (mvT hZ (ow hw 88 rfl)) (mvT hZ (ow hw 87 rfl)) (by decide) (own_backOf (W := 1) (rx15_67 l Z a0 hw [] n0 h132 O132 G1 G3 w_NULL w_NUMBER w_NULL2 w_STRING GF b110 b111 k112 p1 ((PF_b110_value.keep K131c nin0).keep K132c nin0) ((PV_b111.keep K131c nin0).keep K132c nin0) ((PF_b110_coder.keep K131c nin0).keep K132c nin0) ((PE_b110.keep K131c).keep K132c)) hZ (ow hw 89 rfl) (ow hw 19 rfl) (by decide) (by decide)) q133a q133c (g := (mkF m 45 #[cr b110, ci 1] [(.ref b110), (.int 1)])) rfl (by rw [hml]; rfl) (Steps.refl _) (argsL := []) (rest := [(.int 1)]) (lenOf pdx_12 rfl) rfl (by show 2 * 0 + _ ≤ _; exact Nat.le_of_eq rfl) (hb hby d13_45) (fun _ _ => ⟨rfl, e132, (by decide : 0 + 0 ≤ _), (by decide : 0 + 0 ≤ _)⟩)
 dsimp only [Pt.U, Pt.locs, Pt.cells, Pt.slots] at X133 l133 y133 z133 st133 hQ133
 subst l133 y133 z133
 obtain ⟨rfl, N133q, K133c⟩ := hQ133
 have N133 := Fr.app N132 N133q
 refine Ends.go (fun _ k => st133.trans k) ?_
 obtain ⟨h133, e133⟩ : ∃ z, T133.heap = z := ⟨_, rfl⟩
 rw [e133] at K133c
 have K133 := K132.trans K133c all0
 have O133 := O132.keep K133c all0
 refine wcy (pc := 48) (pc' := 111) X133 hx hby d13_48 (flt (by decide : ¬ ((1 : Int32) < (1 : Int32)))).2.1 (by decide) (by decide) ?_
 refine wilN X133 hx hby d13_111 rfl ?_
 refine walN X133 hx hby d13_112 rfl rfl ?_
 show Ends _ _ _ _ T133 (mkF m 113 #[cr b110, ci 1] [(.ref b110), (.int 1)]) _ _ _
 obtain ⟨cq134, kq134, q134a, q134b, q134c⟩ := isOf hZ e133 (((PE_b110.keep K131c).keep K132c).keep K133c)
 obtain ⟨_, _, ⟨T134, L134, k134, n134⟩, -, X134, ⟨Lc134, hQ134, l134, y134, z134⟩, st134⟩ := X133.virtualBack hx (y := ym14) (z := ym14) hown (mvT hZ (ow hw 85 rfl)) (mvT hZ (ow hw 86 rfl)) (notFace_of_selects (args := #[]) (mvT hZ (ow hw 88 rfl))) (mvT hZ (ow hw 88 rfl)) (mvT hZ (ow hw 87 rfl)) (by decide) (own_backOf (W := 1) (rx15_67 l Z a0 hw [] n0 h133 O133 G1 G3 w_NULL w_NUMBER w_NULL2 w_STRING GF b110 b111 k112 p1 (((PF_b110_value.keep K131c nin0).keep K132c nin0).keep K133c nin0) (((PV_b111.keep K131c nin0).keep K132c nin0).keep K133c nin0) (((PF_b110_coder.keep K131c nin0).keep K132c nin0).keep K133c nin0) (((PE_b110.keep K131c).keep K132c).keep K133c)) hZ (ow hw 89 rfl) (ow hw 19 rfl) (by decide) (by decide)) q134a q134c (g := (mkF m 113 #[cr b110, ci 1] [(.ref b110), (.int 1)])) rfl (by rw [hml]; rfl) (Steps.refl _) (argsL := []) (rest := [(.int 1)]) (lenOf pdx_12 rfl) rfl (by show 2 * 0 + _ ≤ _; exact Nat.le_of_eq rfl) (hb hby d13_113) (fun _ _ => ⟨rfl, e133, (by decide : 0 + 0 ≤ _), (by decide : 0 + 0 ≤ _)⟩)
 dsimp only [Pt.U, Pt.locs, Pt.cells, Pt.slots] at X134 l134 y134 z134 st134 hQ134
 subst l134 y134 z134
 obtain ⟨rfl, N134q, K134c⟩ := hQ134
 have N134 := Fr.app N133 N134q
 refine Ends.go (fun _ k => st134.trans k) ?_
 obtain ⟨h134, e134⟩ : ∃ z, T134.heap = z := ⟨_, rfl⟩
 rw [e134] at K134c
 have K134 := K133.trans K134c all0
 have O134 := O133.keep K134c all0
 refine wcn X134 hx hby d13_116 (teq (by decide : (1 : Int32) = (1 : Int32))).2 ?_
 refine wic X134 hx hby d13_119 ?_
 refine wgo (pc := 120) (pc' := 124) X134 hx hby d13_120 (by decide) (by decide) ?_
 show Ends _ _ _ _ T134 (mkF m 124 #[cr b110, ci 1] [(.int 1)]) _ _ _
 refine Ends.retZ X134 hx Bd.notSynchronized (t := .boolean) Bd.returns (by simp) (hb hby d13_124) (by decide) (by decide) ?_
 rw [e134]
 exact ⟨rfl, N134, K134⟩

set_option maxRecDepth 65536 in
set_option maxHeartbeats 40000000 in
theorem rx1_113 (l : Launch) (Z : State) (a0 : Array Value) (hw : ∀ d ∈ tables_1, d.before a0 Z = true) (ws : List Jvm.Cond) (n0 : Nat) (h0 : Heap) (O0 : Old Z n0 h0) (G1 : Int32) (G3 : Value) (w_NULL : Addr) (w_NUMBER : Addr) (w_NULL2 : Addr) (w_STRING : Addr) (GF : GlobF Z a0 G1 G3 w_NULL w_NUMBER w_NULL2 w_STRING) (b32 : Addr) (b110 : Addr) (b111 : Addr) (k112 : ClassId) (p1 : Int32) (PF_b110_value : Fld Z h0 b110 "java/lang/String" "value" "[B" (.ref b111)) (PV_b111 : Arv Z h0 b111 k112 .byte (1 : Int32) [(.int ((((48 : Int32) + ((p1 &&& (2147483647 : Int32)) % (10 : Int32))).toUInt32.toUInt16.toUInt32.toInt32).toInt8.toInt32))] (.int 0)) (PF_b110_coder : Fld Z h0 b110 "java/lang/String" "coder" "B" (.int 0)) (PE_b110 : Exa Z h0 b110 "java/lang/String") (PE_b32 : Exa Z h0 b32 "com/example/wakeline/wakeline/event/Value") (PF_b32_kind : Fld Z h0 b32 "com/example/wakeline/wakeline/event/Value" "kind" "Lcom/example/wakeline/wakeline/event/Value$Kind;" .null) (PF_b32_text : Fld Z h0 b32 "com/example/wakeline/wakeline/event/Value" "text" "Ljava/lang/String;" .null) (g_b32 : n0 ≤ b32) (hDG : own_dig (((48 : Int32) + ((p1 &&& (2147483647 : Int32)) % (10 : Int32))).toUInt32.toUInt16.toUInt32.toInt32)) (hd48_ : ¬ ((((48 : Int32) + ((p1 &&& (2147483647 : Int32)) % (10 : Int32))).toUInt32.toUInt16.toUInt32.toInt32) = (48 : Int32))) :
  Meets1W l ym4 prog_15_method_1_code 3 none ws ({ frames := 7, cells := 2, slots := 20, locals := 93 } : Room) #[(.ref b32), (.ref w_NUMBER), (.ref b110)] Z h0 false (fun v h L => v = none ∧ Fr n0 L ∧ Keep h0 h [b32] ∧ Fld Z h b32 "com/example/wakeline/wakeline/event/Value" "kind" "Lcom/example/wakeline/wakeline/event/Value$Kind;" (.ref w_NUMBER) ∧ Fld Z h b32 "com/example/wakeline/wakeline/event/Value" "text" "Ljava/lang/String;" (.ref b110)) := by
 refine MetFree.of_bodySF (plainFor_of_name pn1) hisR ?_
 intro p e s m args below meth c s₁ Bd hml0 hP hK
 obtain ⟨rfl, hZ, hh, hI⟩ := hP
 have hx := Bd.exec
 have hby := Bd.bytes
 have hml : c.maxLocals = 3 := hml0
 have hown : s.vm.findClass "com/example/wakeline/wakeline/event/Value" = some m.cls := findClass_of_methodNamed Bd.named
 have hnm := (name_of_methodNamed Bd.named Bd.method).1
 have X0 : Stand p l e ({ frames := 7, cells := 2, slots := 20, locals := 93 } : Room) s m #[(.ref b32), (.ref w_NUMBER), (.ref b110)] below meth c s₁ [] 0 0 := Stand.of_body Bd
 have e0 : s₁.heap = h0 := by rw [← hh, Bd.state]; rfl
 have N0 := Fr.nil n0
 have hS0 := own_since0 s
 have hk0 : s.heap.size ≤ h0.size := Nat.le_of_eq (congrArg Array.size hh)
 have Z0 := own_old_le O0
 show EndsW _ _ _ _ s₁ (entryFrame m #[(.ref b32), (.ref w_NUMBER), (.ref b110)] 3) ({ frames := 7, cells := 2, slots := 20, locals := 93 } : Room).cells ({ frames := 7, cells := 2, slots := 20, locals := 93 } : Room).slots (fun v h L => v = none ∧ Fr n0 L ∧ Keep h0 h [b32] ∧ Fld Z h b32 "com/example/wakeline/wakeline/event/Value" "kind" "Lcom/example/wakeline/wakeline/event/Value$Kind;" (.ref w_NUMBER) ∧ Fld Z h b32 "com/example/wakeline/wakeline/event/Value" "text" "Ljava/lang/String;" (.ref b110))
 refine EndsW.go (fun _ k => castTop (ef1_rrr m b32 w_NUMBER b110) k) ?_
 obtain ⟨SCS, P5, SSF, RG3, HCST, HCW, S_NULL, E_NULL, S_NUMBER, E_NUMBER, F_ordinal_NULL, F_ordinal_NUMBER, S_NULL2, E_NULL2, F_kind_NULL2, S_STRING, E_STRING, F_ordinal_STRING⟩ := id GF
 have K0 := Keep.refl h0 [b32]
 show EndsW _ _ _ _ s₁ (mkF m 0 #[cr b32, cr w_NUMBER, cr b110] []) _ _ _
 refine walNW X0 hx hby d1_0 rfl rfl ?_
 obtain ⟨_, _, ⟨T114, L114, k114, n114⟩, -, X114, ⟨Lc114, hQ114, l114, y114, z114⟩, st114⟩ := X0.specialBack hx (y := ym2) rfl hown (mvT hZ (ow hw 10 rfl)) (mvT hZ (ow hw 11 rfl)) (mvT hZ (ow hw 14 rfl)) (by decide) (own_backOf (W := 0) (rx2_5 l Z a0 hw [] n0 h0 O0  b32 ) hZ (ow hw 14 rfl) (ow hw 13 rfl) (by decide) (by decide)) (g := (mkF m 1 #[cr b32, cr w_NUMBER, cr b110] [(.ref b32)])) rfl (by rw [hml]; rfl) (Steps.refl _) (a := b32) (argsL := []) (rest := []) (lenOf pdx_0 rfl) rfl (by show 2 * 0 + _ ≤ _; exact Nat.le_of_eq rfl) (hb hby d1_1) (fun _ _ => ⟨rfl, e0, (by decide : 0 + 0 ≤ _), (by decide : 0 + 0 ≤ _)⟩)
 dsimp only [Pt.U, Pt.locs, Pt.cells, Pt.slots] at X114 l114 y114 z114 st114 hQ114
 subst l114 y114 z114
 obtain ⟨rfl, N114q, K114c⟩ := hQ114
 have N114 := Fr.app N0 N114q
 refine EndsW.go (fun _ k => st114.trans k) ?_
 obtain ⟨h114, e114⟩ : ∃ z, T114.heap = z := ⟨_, rfl⟩
 rw [e114] at K114c
 have K114 := K0.trans K114c all0
 have O114 := O0.keep K114c all0
 refine walNW X114 hx hby d1_4 rfl rfl ?_
 show EndsW _ _ _ _ T114 (mkF m 5 #[cr b32, cr w_NUMBER, cr b110] [(.ref w_NUMBER)]) _ _ _
 obtain ⟨a115, T115, h115, k115, X115, e115, E115, hS115, hk115, hZ, hown, st115⟩ := ldcS (s := s) (vm0 := s.vm) X114 hx hZ hown (ow hw 18 rfl) (own_atoms hw) e114 hS0 (Nat.le_trans hk0 K114c.1) (g := (mkF m 5 #[cr b32, cr w_NUMBER, cr b110] [(.ref w_NUMBER)])) rfl (hb hby d1_5) (n := 16) (by decide) (by decide) (by decide) (by decide)
 refine EndsW.go st115 ?_
 have K115 := K114.ext E115
 have O115 := O114.ext E115
 obtain ⟨_, _, ⟨T116, L116, k116, n116⟩, -, X116, ⟨Lc116, hQ116, l116, y116, z116⟩, st116⟩ := Jvm.LawKit.callS X115 hx (y := ym3) hown (mvT hZ (ow hw 26 rfl)) (mvT hZ (ow hw 27 rfl)) (mvT hZ (ow hw 28 rfl)) (mvT hZ (ow hw 29 rfl)) (by decide) (own_backOf (W := 0) (rx4_61 l Z a0 hw [] n0 h115 O115 G1 G3 w_NULL w_NUMBER w_NULL2 w_STRING GF a115 ) hZ (ow hw 29 rfl) (ow hw 28 rfl) (by decide) (by decide)) (g := (mkF m 7 #[cr b32, cr w_NUMBER, cr b110] [(.ref a115), (.ref w_NUMBER)])) rfl (by rw [hml]; rfl) (argsL := [(.ref w_NUMBER), (.ref a115)]) (rest := []) (lenOf pdx_1 rfl) rfl (by show 2 * 0 + _ ≤ _; exact Nat.le_of_eq rfl) (hb hby d1_7) (fun _ _ => ⟨rfl, e115, (by decide : 2 + 0 ≤ _), (by decide : 20 + 0 ≤ _)⟩)
 dsimp only [Pt.U, Pt.locs, Pt.cells, Pt.slots] at X116 l116 y116 z116 st116 hQ116
 subst l116 y116 z116
 obtain ⟨rfl, N116q, K116c⟩ := hQ116
 have N116 := Fr.app N114 N116q
 refine EndsW.go st116 ?_
 obtain ⟨h116, e116⟩ : ∃ z, T116.heap = z := ⟨_, rfl⟩
 rw [e116] at K116c
 have K116 := K115.trans K116c all0
 have O116 := O115.keep K116c all0
 refine .go (fun _ => XS.pop X116.here hx rfl (hb hby d1_10) rfl rfl) ?_
 refine walNW X116 hx hby d1_11 rfl rfl ?_
 show EndsW _ _ _ _ T116 (mkF m 12 #[cr b32, cr w_NUMBER, cr b110] [(.ref w_NUMBER)]) _ _ _
 obtain ⟨T117, X117, e117, st117⟩ := getS2 X116 hx hZ hown (host := "") (Or.inl (ow hw 30 rfl)) Via.refl e116 (S_NULL.ext O116.2) (g := (mkF m 12 #[cr b32, cr w_NUMBER, cr b110] [(.ref w_NUMBER)])) rfl (hb hby d1_12)
 refine EndsW.go st117 ?_
 refine .go (fun _ => Jvm.RoadKit.acmp (g := (mkF m 15 #[cr b32, cr w_NUMBER, cr b110] [(.ref w_NULL), (.ref w_NUMBER)])) X117 hx rfl rfl rfl (pc0 := 15) (pc' := 22) (same := false) rfl (hb hby d1_15) rfl (decide_eq_false fun q => (Fld.ne F_ordinal_NUMBER F_ordinal_NULL (by decide)) (Value.ref.inj q)) (by decide) (by decide)) ?_
 refine wicW X117 hx hby d1_22 ?_
 refine walNW X117 hx hby d1_23 rfl rfl ?_
 show EndsW _ _ _ _ T117 (mkF m 24 #[cr b32, cr w_NUMBER, cr b110] [(.ref b110), (.int 0)]) _ _ _
 refine .go (fun _ => XS.ifnonnullYes X117.here hx rfl (pc0 := 24) (pc' := 31) rfl (hb hby d1_24) rfl (by decide) (by decide)) ?_
 refine wicW X117 hx hby d1_31 ?_
 refine wcyW (pc := 32) (pc' := 63) X117 hx hby d1_32 (teq (by decide : (0 : Int32) = (0 : Int32))).1 (by decide) (by decide) ?_
 refine walNW X117 hx hby d1_63 rfl rfl ?_
 show EndsW _ _ _ _ T117 (mkF m 64 #[cr b32, cr w_NUMBER, cr b110] [(.ref w_NUMBER)]) _ _ _
 obtain ⟨T118, X118, e118, st118⟩ := getS2 X117 hx hZ hown (host := "") (Or.inl (ow hw 31 rfl)) Via.refl e117 (S_NUMBER.ext O116.2) (g := (mkF m 64 #[cr b32, cr w_NUMBER, cr b110] [(.ref w_NUMBER)])) rfl (hb hby d1_64)
 refine EndsW.go st118 ?_
 refine .go (fun _ => Jvm.RoadKit.acmp (g := (mkF m 67 #[cr b32, cr w_NUMBER, cr b110] [(.ref w_NUMBER), (.ref w_NUMBER)])) X118 hx rfl rfl rfl (pc0 := 67) (pc' := 70) (same := true) rfl (hb hby d1_67) rfl (decide_eq_true rfl) (by decide) (by decide)) ?_
 refine walNW X118 hx hby d1_70 rfl rfl ?_
 obtain ⟨_, _, ⟨T135, L135, k135, n135⟩, -, X135, ⟨Lc135, hQ135, l135, y135, z135⟩, st135⟩ := Jvm.LawKit.callS X118 hx (y := ym19) hown (mvT hZ (ow hw 78 rfl)) (mvT hZ (ow hw 79 rfl)) (mvT hZ (ow hw 80 rfl)) (mvT hZ (ow hw 81 rfl)) (by decide) (own_backOf (W := 0) (rx13_119 l Z a0 hw [] n0 h116 O116 G1 G3 w_NULL w_NUMBER w_NULL2 w_STRING GF b110 b111 k112 p1 (((PF_b110_value.keep K114c nin0).ext E115).keep K116c nin0) (((PV_b111.keep K114c nin0).ext E115).keep K116c nin0) (((PF_b110_coder.keep K114c nin0).ext E115).keep K116c nin0) (((PE_b110.keep K114c).ext E115).keep K116c) hDG hd48_) hZ (ow hw 81 rfl) (ow hw 80 rfl) (by decide) (by decide)) (g := (mkF m 71 #[cr b32, cr w_NUMBER, cr b110] [(.ref b110)])) rfl (by rw [hml]; rfl) (argsL := [(.ref b110)]) (rest := []) (lenOf pdx_17 rfl) rfl (by show 2 * 0 + _ ≤ _; exact Nat.le_of_eq rfl) (hb hby d1_71) (fun _ _ => ⟨rfl, e118, (by decide : 2 + 0 ≤ _), (by decide : 20 + 0 ≤ _)⟩)
 dsimp only [Pt.U, Pt.locs, Pt.cells, Pt.slots] at X135 l135 y135 z135 st135 hQ135
 subst l135 y135 z135
 obtain ⟨rfl, N135q, K135c⟩ := hQ135
 have N135 := Fr.app N116 N135q
 refine EndsW.go st135 ?_
 obtain ⟨h135, e135⟩ : ∃ z, T135.heap = z := ⟨_, rfl⟩
 rw [e135] at K135c
 have K135 := K116.trans K135c all0
 have O135 := O116.keep K135c all0
 show EndsW _ _ _ _ T135 (mkF m 74 #[cr b32, cr w_NUMBER, cr b110] [(.int 1)]) _ _ _
 refine wiyW (pc := 74) (pc' := 91) X135 hx hby d1_74 ((if0 _ _).trans (feq (by decide : ¬ ((1 : Int32) = (0 : Int32)))).2) (by decide) (by decide) ?_
 refine walNW X135 hx hby d1_91 rfl rfl ?_
 refine walNW X135 hx hby d1_92 rfl rfl ?_
 obtain ⟨T136, h136, X136, e136, W136, st136⟩ := putF X135 hx hZ hown (host := "") (Or.inl (ow hw 33 rfl)) Via.refl e135 ((((PF_b32_kind.keep K114c nin0).ext E115).keep K116c nin0).keep K135c nin0) ((((PE_b32.keep K114c).ext E115).keep K116c).keep K135c) (Or.inr ⟨(ow hw 34 rfl), rfl, hnm⟩) (ow hw 5 rfl) (ty := (.object "com/example/wakeline/wakeline/event/Value$Kind")) (by decide) rfl rfl (g := (mkF m 93 #[cr b32, cr w_NUMBER, cr b110] [(.ref w_NUMBER), (.ref b32)])) rfl rfl (hb hby d1_93)
 refine EndsW.go st136 ?_
 have Fw136 := ((((PF_b32_kind.keep K114c nin0).ext E115).keep K116c nin0).keep K135c nin0).same W136
 have K136 := K135.wr W136 (Or.inl (List.mem_of_getElem? (i := 0) rfl))
 have O136 := O135.wr W136 g_b32
 have N136 := Fr.snoc X136 N135 g_b32
 show EndsW _ _ _ _ T136 (mkF m 96 #[cr b32, cr w_NUMBER, cr b110] []) _ _ _
 refine walNW X136 hx hby d1_96 rfl rfl ?_
 refine walNW X136 hx hby d1_97 rfl rfl ?_
 obtain ⟨T137, h137, X137, e137, W137, st137⟩ := putF X136 hx hZ hown (host := "") (Or.inl (ow hw 35 rfl)) Via.refl e136 (((((PF_b32_text.keep K114c nin0).ext E115).keep K116c nin0).keep K135c nin0).other W136 (Or.inr (slot_ne (Or.inr (ow hw 36 rfl)) (Or.inr (ow hw 34 rfl)) (by decide) (t := (.object "java/lang/String")) (t' := (.object "com/example/wakeline/wakeline/event/Value$Kind")) (by decide) (by decide)))) (((((PE_b32.keep K114c).ext E115).keep K116c).keep K135c).wr W136) (Or.inr ⟨(ow hw 36 rfl), rfl, hnm⟩) (ow hw 5 rfl) (ty := (.object "java/lang/String")) (by decide) rfl rfl (g := (mkF m 98 #[cr b32, cr w_NUMBER, cr b110] [(.ref b110), (.ref b32)])) rfl rfl (hb hby d1_98)
 refine EndsW.go st137 ?_
 have Fw137 := (((((PF_b32_text.keep K114c nin0).ext E115).keep K116c nin0).keep K135c nin0).other W136 (Or.inr (slot_ne (Or.inr (ow hw 36 rfl)) (Or.inr (ow hw 34 rfl)) (by decide) (t := (.object "java/lang/String")) (t' := (.object "com/example/wakeline/wakeline/event/Value$Kind")) (by decide) (by decide)))).same W137
 have K137 := K136.wr W137 (Or.inl (List.mem_of_getElem? (i := 0) rfl))
 have O137 := O136.wr W137 g_b32
 have N137 := Fr.snoc X137 N136 g_b32
 refine EndsW.retV (s := s) (vm := T115.vm) X137 hx hS115 (Nat.le_trans (Nat.le_trans (Nat.le_trans (Nat.le_trans (Nat.le_trans hk115 K116c.1) K135c.1) (own_wrsz W136)) (own_wrsz W137)) (Nat.le_of_eq (congrArg Array.size e137.symm))) Bd.notSynchronized Bd.returns (hb hby d1_101) (by decide) (by decide) ?_
 rw [e137]
 exact ⟨rfl, N137, K137, (Fw136.other W137 (Or.inr (slot_ne (Or.inr (ow hw 34 rfl)) (Or.inr (ow hw 36 rfl)) (by decide) (t := (.object "com/example/wakeline/wakeline/event/Value$Kind")) (t' := (.object "java/lang/String")) (by decide) (by decide)))), Fw137⟩

theorem d26_0 : decode jdk_52_method_21_code 0 = .ok (.iconst 0, 1) := by decide +kernel
theorem d26_1 : decode jdk_52_method_21_code 1 = .ok (.istore 5, 2) := by decide +kernel
theorem d26_3 : decode jdk_52_method_21_code 3 = .ok (.iload 5, 2) := by decide +kernel
theorem d26_5 : decode jdk_52_method_21_code 5 = .ok (.iload 4, 2) := by decide +kernel
theorem d26_7 : decode jdk_52_method_21_code 7 = .ok (.if_icmp .ge 37, 3) := by decide +kernel
theorem d26_10 : decode jdk_52_method_21_code 10 = .ok (.aload_n 0, 1) := by decide +kernel
theorem d26_11 : decode jdk_52_method_21_code 11 = .ok (.iload_n 1, 1) := by decide +kernel
theorem d26_12 : decode jdk_52_method_21_code 12 = .ok (.caload, 1) := by decide +kernel
theorem d26_13 : decode jdk_52_method_21_code 13 = .ok (.istore 6, 2) := by decide +kernel
theorem d26_15 : decode jdk_52_method_21_code 15 = .ok (.iload 6, 2) := by decide +kernel
theorem d26_17 : decode jdk_52_method_21_code 17 = .ok (.sipush 255, 3) := by decide +kernel
theorem d26_20 : decode jdk_52_method_21_code 20 = .ok (.if_icmp .le 6, 3) := by decide +kernel
theorem d26_26 : decode jdk_52_method_21_code 26 = .ok (.aload_n 2, 1) := by decide +kernel
theorem d26_27 : decode jdk_52_method_21_code 27 = .ok (.iload_n 3, 1) := by decide +kernel
theorem d26_28 : decode jdk_52_method_21_code 28 = .ok (.iload 6, 2) := by decide +kernel
theorem d26_30 : decode jdk_52_method_21_code 30 = .ok (.i2b, 1) := by decide +kernel
theorem d26_31 : decode jdk_52_method_21_code 31 = .ok (.bastore, 1) := by decide +kernel
theorem d26_32 : decode jdk_52_method_21_code 32 = .ok (.iinc 1 1, 3) := by decide +kernel
theorem d26_35 : decode jdk_52_method_21_code 35 = .ok (.iinc 3 1, 3) := by decide +kernel
theorem d26_38 : decode jdk_52_method_21_code 38 = .ok (.iinc 5 1, 3) := by decide +kernel
theorem d26_41 : decode jdk_52_method_21_code 41 = .ok (.goto (-38), 3) := by decide +kernel
theorem d26_44 : decode jdk_52_method_21_code 44 = .ok (.iload 4, 2) := by decide +kernel
theorem d26_46 : decode jdk_52_method_21_code 46 = .ok (.ireturn, 1) := by decide +kernel
theorem pn26 : plainName "java/lang/StringUTF16" = true := by first | (simp [plainName, overriddenIn]; done) | decide +kernel
theorem ef26_ririi (m : MethodId) (x0 : Addr) (x1 : Int32) (x2 : Addr) (x3 : Int32) (x4 : Int32) : entryFrame m #[(.ref x0), (.int x1), (.ref x2), (.int x3), (.int x4)] 7 = mkF m 0 #[.val (.ref x0), .val (.int x1), .val (.ref x2), .val (.int x3), .val (.int x4), .unset, .unset] [] := by first | (simp [entryFrame, mkF, argsToLocals, Value.category]; done) | rfl
set_option maxRecDepth 65536 in
set_option maxHeartbeats 40000000 in
theorem rx26_156 (l : Launch) (Z : State) (a0 : Array Value) (hw : ∀ d ∈ tables_1, d.before a0 Z = true) (ws : List Jvm.Cond) (n0 : Nat) (h0 : Heap) (O0 : Old Z n0 h0)  (b146 : Addr) (b155 : Addr) (k146 : ClassId) (p1 : Int32) (k155 : ClassId) (PV_b146 : Arv Z h0 b146 k146 .char (2 : Int32) [(.int 45), (.int (((48 : Int32) + ((p1 &&& (2147483647 : Int32)) % (10 : Int32))).toUInt32.toUInt16.toUInt32.toInt32))] (.int 0)) (PV_b155 : Arv Z h0 b155 k155 .byte (2 : Int32) [(.int 0), (.int 0)] (.int 0)) (ne_b146_b155 : b146 ≠ b155) (g_b155 : n0 ≤ b155) (hDG : own_dig (((48 : Int32) + ((p1 &&& (2147483647 : Int32)) % (10 : Int32))).toUInt32.toUInt16.toUInt32.toInt32)) :
  Meets1 l ym21 jdk_52_method_21_code 7 (some .int) ws ({ frames := 0, cells := 0, slots := 0, locals := 0 } : Room) #[(.ref b146), (.int 0), (.ref b155), (.int 0), (.int 2)] Z h0 (fun v h L => v = some (.int 2) ∧ Fr n0 L ∧ Keep h0 h [b155] ∧ Arv Z h b155 k155 .byte (2 : Int32) [(.int 45), (.int ((((48 : Int32) + ((p1 &&& (2147483647 : Int32)) % (10 : Int32))).toUInt32.toUInt16.toUInt32.toInt32).toInt8.toInt32))] (.int 0)) := by
 refine MetFree.of_bodySF (plainFor_of_name pn26) hisR ?_
 intro p e s m args below meth c s₁ Bd hml0 hP hK
 obtain ⟨rfl, hZ, hh⟩ := hP
 have hx := Bd.exec
 have hby := Bd.bytes
 have hml : c.maxLocals = 7 := hml0
 have hown : s.vm.findClass "java/lang/StringUTF16" = some m.cls := findClass_of_methodNamed Bd.named
 have hnm := (name_of_methodNamed Bd.named Bd.method).1
 have X0 : Stand p l e ({ frames := 0, cells := 0, slots := 0, locals := 0 } : Room) s m #[(.ref b146), (.int 0), (.ref b155), (.int 0), (.int 2)] below meth c s₁ [] 0 0 := Stand.of_body Bd
 have e0 : s₁.heap = h0 := by rw [← hh, Bd.state]; rfl
 have N0 := Fr.nil n0
 have Z0 := own_old_le O0
 show Ends _ _ _ _ s₁ (entryFrame m #[(.ref b146), (.int 0), (.ref b155), (.int 0), (.int 2)] 7) ({ frames := 0, cells := 0, slots := 0, locals := 0 } : Room).cells ({ frames := 0, cells := 0, slots := 0, locals := 0 } : Room).slots (fun v h L => v = some (.int 2) ∧ Fr n0 L ∧ Keep h0 h [b155] ∧ Arv Z h b155 k155 .byte (2 : Int32) [(.int 45), (.int ((((48 : Int32) + ((p1 &&& (2147483647 : Int32)) % (10 : Int32))).toUInt32.toUInt16.toUInt32.toInt32).toInt8.toInt32))] (.int 0))
 refine Ends.go (fun _ k => castTop (ef26_ririi m b146 (0 : Int32) b155 (0 : Int32) (2 : Int32)) k) ?_
 have K0 := Keep.refl h0 [b155]
 show Ends _ _ _ _ s₁ (mkF m 0 #[cr b146, ci 0, cr b155, ci 0, ci 2, cu, cu] []) _ _ _
 refine wic X0 hx hby d26_0 ?_
 refine wst X0 hx hby d26_1 (l' := #[cr b146, ci 0, cr b155, ci 0, ci 2, ci 0, cu]) rfl ?_
 refine wil X0 hx hby d26_3 rfl ?_
 show Ends _ _ _ _ s₁ (mkF m 5 #[cr b146, ci 0, cr b155, ci 0, ci 2, ci 0, cu] [(.int 0)]) _ _ _
 refine wil X0 hx hby d26_5 rfl ?_
 refine wcn X0 hx hby d26_7 (tlt (by decide : (0 : Int32) < (2 : Int32))).2.1 ?_
 refine walN X0 hx hby d26_10 rfl rfl ?_
 refine wilN X0 hx hby d26_11 rfl ?_
 show Ends _ _ _ _ s₁ (mkF m 12 #[cr b146, ci 0, cr b155, ci 0, ci 2, ci 0, cu] [(.int 0), (.ref b146)]) _ _ _
 obtain ⟨cl157, Ar157, q157, S157, M157, H157, G157⟩ := id PV_b146
 have hin157 := inb_of (j := (0 : Int32)) S157 ⟨by decide, by decide⟩
 refine Ends.go (X0.caload hx (j := (0 : Int32)) (v := (.int 45)) (by rw [e0]; exact Ar157.1) (State.isArrayOf_alike hZ.alike Ar157.2.1) Ar157.2.2 hin157 (H157.at hin157 rfl) (g := (mkF m 12 #[cr b146, ci 0, cr b155, ci 0, ci 2, ci 0, cu] [(.int 0), (.ref b146)])) rfl rfl (hb hby d26_12)) ?_
 refine wst X0 hx hby d26_13 (l' := #[cr b146, ci 0, cr b155, ci 0, ci 2, ci 0, ci 45]) rfl ?_
 refine wil X0 hx hby d26_15 rfl ?_
 refine wsp X0 hx hby d26_17 ?_
 show Ends _ _ _ _ s₁ (mkF m 20 #[cr b146, ci 0, cr b155, ci 0, ci 2, ci 0, ci 45] [(.int 255), (.int 45)]) _ _ _
 refine wcy (pc := 20) (pc' := 26) X0 hx hby d26_20 (flt (by decide : ¬ ((255 : Int32) < (45 : Int32)))).2.2.2 (by decide) (by decide) ?_
 refine walN X0 hx hby d26_26 rfl rfl ?_
 refine wilN X0 hx hby d26_27 rfl ?_
 refine wil X0 hx hby d26_28 rfl ?_
 show Ends _ _ _ _ s₁ (mkF m 30 #[cr b146, ci 0, cr b155, ci 0, ci 2, ci 0, ci 45] [(.int 45), (.int 0), (.ref b155)]) _ _ _
 refine .go (fun _ => XS.i2b X0.here hx rfl (hb hby d26_30) rfl) ?_
 obtain ⟨cl158, Ar158, q158, S158, M158, H158, G158⟩ := id PV_b155
 have hin158 := inb_of (j := (0 : Int32)) S158 ⟨by decide, by decide⟩
 obtain ⟨T158, h158, X158, e158, W158, st158⟩ := stB X0 hx hZ e0 Ar158 (j := (0 : Int32)) hin158 (g := (mkF m 31 #[cr b146, ci 0, cr b155, ci 0, ci 2, ci 0, ci 45] [(.int 45), (.int 0), (.ref b155)])) rfl rfl (hb hby d26_31)
 refine Ends.go st158 ?_
 have V158 : Arv Z h158 b155 k155 .byte (2 : Int32) [(.int 45), (.int 0)] (.int 0) := Arv.set Ar158 q158 S158 M158 H158 G158 rfl W158 0 rfl (Nat.le_of_ble_eq_true rfl)
 have K158 := K0.wr W158 (Or.inl (List.mem_of_getElem? (i := 0) rfl))
 have O158 := O0.wr W158 g_b155
 have N158 := Fr.snoc X158 N0 g_b155
 refine wii X158 hx hby d26_32 (l' := #[cr b146, ci 1, cr b155, ci 0, ci 2, ci 0, ci 45]) rfl rfl ?_
 refine wii X158 hx hby d26_35 (l' := #[cr b146, ci 1, cr b155, ci 1, ci 2, ci 0, ci 45]) rfl rfl ?_
 show Ends _ _ _ _ T158 (mkF m 38 #[cr b146, ci 1, cr b155, ci 1, ci 2, ci 0, ci 45] []) _ _ _
 refine wii X158 hx hby d26_38 (l' := #[cr b146, ci 1, cr b155, ci 1, ci 2, ci 1, ci 45]) rfl rfl ?_
 refine wgo (pc := 41) (pc' := 3) X158 hx hby d26_41 (by decide) (by decide) ?_
 refine wil X158 hx hby d26_3 rfl ?_
 refine wil X158 hx hby d26_5 rfl ?_
 show Ends _ _ _ _ T158 (mkF m 7 #[cr b146, ci 1, cr b155, ci 1, ci 2, ci 1, ci 45] [(.int 2), (.int 1)]) _ _ _
 refine wcn X158 hx hby d26_7 (tlt (by decide : (1 : Int32) < (2 : Int32))).2.1 ?_
 refine walN X158 hx hby d26_10 rfl rfl ?_
 refine wilN X158 hx hby d26_11 rfl ?_
 obtain ⟨cl159, Ar159, q159, S159, M159, H159, G159⟩ := id (PV_b146.other W158 ne_b146_b155)
 have hin159 := inb_of (j := (1 : Int32)) S159 ⟨by decide, by decide⟩
 refine Ends.go (X158.caload hx (j := (1 : Int32)) (v := (.int (((48 : Int32) + ((p1 &&& (2147483647 : Int32)) % (10 : Int32))).toUInt32.toUInt16.toUInt32.toInt32))) (by rw [e158]; exact Ar159.1) (State.isArrayOf_alike hZ.alike Ar159.2.1) Ar159.2.2 hin159 (H159.at hin159 rfl) (g := (mkF m 12 #[cr b146, ci 1, cr b155, ci 1, ci 2, ci 1, ci 45] [(.int 1), (.ref b146)])) rfl rfl (hb hby d26_12)) ?_
 show Ends _ _ _ _ T158 (mkF m 13 #[cr b146, ci 1, cr b155, ci 1, ci 2, ci 1, ci 45] [(.int (((48 : Int32) + ((p1 &&& (2147483647 : Int32)) % (10 : Int32))).toUInt32.toUInt16.toUInt32.toInt32))]) _ _ _
 refine wst X158 hx hby d26_13 (l' := #[cr b146, ci 1, cr b155, ci 1, ci 2, ci 1, ci (((48 : Int32) + ((p1 &&& (2147483647 : Int32)) % (10 : Int32))).toUInt32.toUInt16.toUInt32.toInt32)]) rfl ?_
 refine wil X158 hx hby d26_15 rfl ?_
 refine wsp X158 hx hby d26_17 ?_
 refine wcy (pc := 20) (pc' := 26) X158 hx hby d26_20 (flt ((own_d255 hDG) : ¬ ((255 : Int32) < (((48 : Int32) + ((p1 &&& (2147483647 : Int32)) % (10 : Int32))).toUInt32.toUInt16.toUInt32.toInt32)))).2.2.2 (by decide) (by decide) ?_
 show Ends _ _ _ _ T158 (mkF m 26 #[cr b146, ci 1, cr b155, ci 1, ci 2, ci 1, ci (((48 : Int32) + ((p1 &&& (2147483647 : Int32)) % (10 : Int32))).toUInt32.toUInt16.toUInt32.toInt32)] []) _ _ _
 refine walN X158 hx hby d26_26 rfl rfl ?_
 refine wilN X158 hx hby d26_27 rfl ?_
 refine wil X158 hx hby d26_28 rfl ?_
 refine .go (fun _ => XS.i2b X158.here hx rfl (hb hby d26_30) rfl) ?_
 show Ends _ _ _ _ T158 (mkF m 31 #[cr b146, ci 1, cr b155, ci 1, ci 2, ci 1, ci (((48 : Int32) + ((p1 &&& (2147483647 : Int32)) % (10 : Int32))).toUInt32.toUInt16.toUInt32.toInt32)] [(.int ((((48 : Int32) + ((p1 &&& (2147483647 : Int32)) % (10 : Int32))).toUInt32.toUInt16.toUInt32.toInt32).toInt8.toInt32)), (.int 1), (.ref b155)]) _ _ _
 obtain ⟨cl160, Ar160, q160, S160, M160, H160, G160⟩ := id V158
 have hin160 := inb_of (j := (1 : Int32)) S160 ⟨by decide, by decide⟩
 obtain ⟨T160, h160, X160, e160, W160, st160⟩ := stB X158 hx hZ e158 Ar160 (j := (1 : Int32)) hin160 (g := (mkF m 31 #[cr b146, ci 1, cr b155, ci 1, ci 2, ci 1, ci (((48 : Int32) + ((p1 &&& (2147483647 : Int32)) % (10 : Int32))).toUInt32.toUInt16.toUInt32.toInt32)] [(.int ((((48 : Int32) + ((p1 &&& (2147483647 : Int32)) % (10 : Int32))).toUInt32.toUInt16.toUInt32.toInt32).toInt8.toInt32)), (.int 1), (.ref b155)])) rfl rfl (hb hby d26_31)
 refine Ends.go st160 ?_
 have V160 : Arv Z h160 b155 k155 .byte (2 : Int32) [(.int 45), (.int (nar .byte ((((48 : Int32) + ((p1 &&& (2147483647 : Int32)) % (10 : Int32))).toUInt32.toUInt16.toUInt32.toInt32).toInt8.toInt32)))] (.int 0) := Arv.set Ar160 q160 S160 M160 H160 G160 (fits_nar_byte _) W160 1 rfl (Nat.le_of_ble_eq_true rfl)
 rw [own_narb] at V160
 have K160 := K158.wr W160 (Or.inl (List.mem_of_getElem? (i := 0) rfl))
 have O160 := O158.wr W160 g_b155
 have N160 := Fr.snoc X160 N158 g_b155
 refine wii X160 hx hby d26_32 (l' := #[cr b146, ci 2, cr b155, ci 1, ci 2, ci 1, ci (((48 : Int32) + ((p1 &&& (2147483647 : Int32)) % (10 : Int32))).toUInt32.toUInt16.toUInt32.toInt32)]) rfl rfl ?_
 refine wii X160 hx hby d26_35 (l' := #[cr b146, ci 2, cr b155, ci 2, ci 2, ci 1, ci (((48 : Int32) + ((p1 &&& (2147483647 : Int32)) % (10 : Int32))).toUInt32.toUInt16.toUInt32.toInt32)]) rfl rfl ?_
 refine wii X160 hx hby d26_38 (l' := #[cr b146, ci 2, cr b155, ci 2, ci 2, ci 2, ci (((48 : Int32) + ((p1 &&& (2147483647 : Int32)) % (10 : Int32))).toUInt32.toUInt16.toUInt32.toInt32)]) rfl rfl ?_
 show Ends _ _ _ _ T160 (mkF m 41 #[cr b146, ci 2, cr b155, ci 2, ci 2, ci 2, ci (((48 : Int32) + ((p1 &&& (2147483647 : Int32)) % (10 : Int32))).toUInt32.toUInt16.toUInt32.toInt32)] []) _ _ _
 refine wgo (pc := 41) (pc' := 3) X160 hx hby d26_41 (by decide) (by decide) ?_
 refine wil X160 hx hby d26_3 rfl ?_
 refine wil X160 hx hby d26_5 rfl ?_
 refine wcy (pc := 7) (pc' := 44) X160 hx hby d26_7 (flt (by decide : ¬ ((2 : Int32) < (2 : Int32)))).2.1 (by decide) (by decide) ?_
 show Ends _ _ _ _ T160 (mkF m 44 #[cr b146, ci 2, cr b155, ci 2, ci 2, ci 2, ci (((48 : Int32) + ((p1 &&& (2147483647 : Int32)) % (10 : Int32))).toUInt32.toUInt16.toUInt32.toInt32)] []) _ _ _
 refine wil X160 hx hby d26_44 rfl ?_
 refine Ends.ret X160 hx Bd.notSynchronized (t := .int) Bd.returns rfl (Or.inl ⟨rfl, by simp, _, rfl⟩) (hb hby d26_46) (by decide) (by decide) ?_
 rw [e160]
 exact ⟨rfl, N160, K160, V160⟩

theorem d25_0 : decode jdk_52_method_16_code 0 = .ok (.iload_n 2, 1) := by decide +kernel
theorem d25_1 : decode jdk_52_method_16_code 1 = .ok (.newarray .byte, 2) := by decide +kernel
theorem d25_3 : decode jdk_52_method_16_code 3 = .ok (.astore_n 3, 1) := by decide +kernel
theorem d25_4 : decode jdk_52_method_16_code 4 = .ok (.aload_n 0, 1) := by decide +kernel
theorem d25_5 : decode jdk_52_method_16_code 5 = .ok (.iload_n 1, 1) := by decide +kernel
theorem d25_6 : decode jdk_52_method_16_code 6 = .ok (.aload_n 3, 1) := by decide +kernel
theorem d25_7 : decode jdk_52_method_16_code 7 = .ok (.iconst 0, 1) := by decide +kernel
theorem d25_8 : decode jdk_52_method_16_code 8 = .ok (.iload_n 2, 1) := by decide +kernel
theorem d25_9 : decode jdk_52_method_16_code 9 = .ok (.invokestatic 115, 3) := by decide +kernel
theorem d25_12 : decode jdk_52_method_16_code 12 = .ok (.istore 4, 2) := by decide +kernel
theorem d25_14 : decode jdk_52_method_16_code 14 = .ok (.iload 4, 2) := by decide +kernel
theorem d25_16 : decode jdk_52_method_16_code 16 = .ok (.iload_n 2, 1) := by decide +kernel
theorem d25_17 : decode jdk_52_method_16_code 17 = .ok (.if_icmp .eq 40, 3) := by decide +kernel
theorem d25_57 : decode jdk_52_method_16_code 57 = .ok (.aload_n 3, 1) := by decide +kernel
theorem d25_58 : decode jdk_52_method_16_code 58 = .ok (.areturn, 1) := by decide +kernel
theorem pn25 : plainName "java/lang/StringUTF16" = true := by first | (simp [plainName, overriddenIn]; done) | decide +kernel
theorem pdx_19 : parseMethodDescriptor "([CI[BII)I" = some ⟨[(.array .char), .int, (.array .byte), .int, .int], some .int⟩ := by decide +kernel
theorem ef25_rii (m : MethodId) (x0 : Addr) (x1 : Int32) (x2 : Int32) : entryFrame m #[(.ref x0), (.int x1), (.int x2)] 6 = mkF m 0 #[.val (.ref x0), .val (.int x1), .val (.int x2), .unset, .unset, .unset] [] := by first | (simp [entryFrame, mkF, argsToLocals, Value.category]; done) | rfl
set_option maxRecDepth 65536 in
set_option maxHeartbeats 40000000 in
theorem rx25_154 (l : Launch) (Z : State) (a0 : Array Value) (hw : ∀ d ∈ tables_1, d.before a0 Z = true) (ws : List Jvm.Cond) (n0 : Nat) (h0 : Heap) (O0 : Old Z n0 h0)  (b146 : Addr) (k146 : ClassId) (p1 : Int32) (PV_b146 : Arv Z h0 b146 k146 .char (2 : Int32) [(.int 45), (.int (((48 : Int32) + ((p1 &&& (2147483647 : Int32)) % (10 : Int32))).toUInt32.toUInt16.toUInt32.toInt32))] (.int 0)) (hDG : own_dig (((48 : Int32) + ((p1 &&& (2147483647 : Int32)) % (10 : Int32))).toUInt32.toUInt16.toUInt32.toInt32)) :
  Meets1 l ym22 jdk_52_method_16_code 6 (some (.array .byte)) ws ({ frames := 1, cells := 1, slots := 2, locals := 18 } : Room) #[(.ref b146), (.int 0), (.int 2)] Z h0 (fun v h L => ∃ (b155 : Addr) (k155 : ClassId), v = some (.ref b155) ∧ Fr n0 L ∧ Keep h0 h [] ∧ h0.size ≤ b155 ∧ Arv Z h b155 k155 .byte (2 : Int32) [(.int 45), (.int ((((48 : Int32) + ((p1 &&& (2147483647 : Int32)) % (10 : Int32))).toUInt32.toUInt16.toUInt32.toInt32).toInt8.toInt32))] (.int 0)) := by
 refine MetFree.of_bodySF (plainFor_of_name pn25) hisR ?_
 intro p e s m args below meth c s₁ Bd hml0 hP hK
 obtain ⟨rfl, hZ, hh⟩ := hP
 have hx := Bd.exec
 have hby := Bd.bytes
 have hml : c.maxLocals = 6 := hml0
 have hown : s.vm.findClass "java/lang/StringUTF16" = some m.cls := findClass_of_methodNamed Bd.named
 have hnm := (name_of_methodNamed Bd.named Bd.method).1
 have X0 : Stand p l e ({ frames := 1, cells := 1, slots := 2, locals := 18 } : Room) s m #[(.ref b146), (.int 0), (.int 2)] below meth c s₁ [] 0 0 := Stand.of_body Bd
 have e0 : s₁.heap = h0 := by rw [← hh, Bd.state]; rfl
 have N0 := Fr.nil n0
 have Z0 := own_old_le O0
 show Ends _ _ _ _ s₁ (entryFrame m #[(.ref b146), (.int 0), (.int 2)] 6) ({ frames := 1, cells := 1, slots := 2, locals := 18 } : Room).cells ({ frames := 1, cells := 1, slots := 2, locals := 18 } : Room).slots (fun v h L => ∃ (b155 : Addr) (k155 : ClassId), v = some (.ref b155) ∧ Fr n0 L ∧ Keep h0 h [] ∧ h0.size ≤ b155 ∧ Arv Z h b155 k155 .byte (2 : Int32) [(.int 45), (.int ((((48 : Int32) + ((p1 &&& (2147483647 : Int32)) % (10 : Int32))).toUInt32.toUInt16.toUInt32.toInt32).toInt8.toInt32))] (.int 0))
 refine Ends.go (fun _ k => castTop (ef25_rii m b146 (0 : Int32) (2 : Int32)) k) ?_
 have K0 := Keep.refl h0 []
 show Ends _ _ _ _ s₁ (mkF m 0 #[cr b146, ci 0, ci 2, cu, cu, cu] []) _ _ _
 refine wilN X0 hx hby d25_0 rfl ?_
 obtain ⟨T155, h155, k155, X155, e155, E155, A155, st155⟩ := newP X0 hx hZ (ow hw 21 rfl) e0 (g := (mkF m 1 #[cr b146, ci 0, ci 2, cu, cu, cu] [(.int 2)])) rfl (hb hby d25_1) rfl (by decide) (cap := 2) (by decide) (by decide) (by decide) (by decide)
 obtain ⟨b155, g155⟩ : ∃ z, z = h0.size := ⟨_, rfl⟩
 rw [← g155] at A155 st155
 refine Ends.go st155 ?_
 have g_b155 : n0 ≤ b155 := Nat.le_trans (own_old_le O0) (Nat.le_of_eq g155.symm)
 have sz_b155 : h0.size ≤ b155 := Nat.le_trans K0.1 (Nat.le_of_eq g155.symm)
 have K155 := K0.ext E155
 have O155 := O0.ext E155
 have V_b155 : Arv Z h155 b155 k155 .byte (2 : Int32) [(.int 0), (.int 0)] (.int 0) := (Arv.new A155 (by decide)).pad (pad_rep [] (.int 0) 2)
 refine wasN X155 hx hby d25_3 (l' := #[cr b146, ci 0, ci 2, cr b155, cu, cu]) rfl rfl ?_
 show Ends _ _ _ _ T155 (mkF m 4 #[cr b146, ci 0, ci 2, cr b155, cu, cu] []) _ _ _
 refine walN X155 hx hby d25_4 rfl rfl ?_
 refine wilN X155 hx hby d25_5 rfl ?_
 refine walN X155 hx hby d25_6 rfl rfl ?_
 refine wic X155 hx hby d25_7 ?_
 show Ends _ _ _ _ T155 (mkF m 8 #[cr b146, ci 0, ci 2, cr b155, cu, cu] [(.int 0), (.ref b155), (.int 0), (.ref b146)]) _ _ _
 refine wilN X155 hx hby d25_8 rfl ?_
 obtain ⟨_, _, ⟨T161, L161, k161, n161⟩, -, X161, ⟨Lc161, hQ161, l161, y161, z161⟩, st161⟩ := Jvm.LawKit.callS X155 hx (y := ym21) hown (mvT hZ (ow hw 131 rfl)) (mvT hZ (ow hw 132 rfl)) (mvT hZ (ow hw 129 rfl)) (mvT hZ (ow hw 133 rfl)) (by decide) (own_backOf (W := 0) (rx26_156 l Z a0 hw [] n0 h155 O155  b146 b155 k146 p1 k155 (PV_b146.ext E155) V_b155 (Nat.ne_of_lt (Nat.lt_of_lt_of_le PV_b146.lt sz_b155)) g_b155 hDG) hZ (ow hw 133 rfl) (ow hw 129 rfl) (by decide) (by decide)) (g := (mkF m 9 #[cr b146, ci 0, ci 2, cr b155, cu, cu] [(.int 2), (.int 0), (.ref b155), (.int 0), (.ref b146)])) rfl (by rw [hml]; rfl) (argsL := [(.ref b146), (.int 0), (.ref b155), (.int 0), (.int 2)]) (rest := []) (lenOf pdx_19 rfl) rfl (by show 2 * 0 + _ ≤ _; exact Nat.le_of_eq rfl) (hb hby d25_9) (fun _ _ => ⟨rfl, e155, (by decide : 1 + 0 ≤ _), (by decide : 2 + 0 ≤ _)⟩)
 dsimp only [Pt.U, Pt.locs, Pt.cells, Pt.slots] at X161 l161 y161 z161 st161 hQ161
 subst l161 y161 z161
 obtain ⟨rfl, N161q, K161c, Y161_0⟩ := hQ161
 have N161 := Fr.app N0 N161q
 refine Ends.go st161 ?_
 obtain ⟨h161, e161⟩ : ∃ z, T161.heap = z := ⟨_, rfl⟩
 rw [e161] at K161c Y161_0
 have K161 := K155.trans K161c (allS (Or.inr sz_b155) all0)
 have O161 := O155.keep K161c (allS g_b155 all0)
 refine wst X161 hx hby d25_12 (l' := #[cr b146, ci 0, ci 2, cr b155, ci 2, cu]) rfl ?_
 refine wil X161 hx hby d25_14 rfl ?_
 show Ends _ _ _ _ T161 (mkF m 16 #[cr b146, ci 0, ci 2, cr b155, ci 2, cu] [(.int 2)]) _ _ _
 refine wilN X161 hx hby d25_16 rfl ?_
 refine wcy (pc := 17) (pc' := 57) X161 hx hby d25_17 (teq (by decide : (2 : Int32) = (2 : Int32))).1 (by decide) (by decide) ?_
 refine walN X161 hx hby d25_57 rfl rfl ?_
 refine Ends.ret X161 hx Bd.notSynchronized (t := (.array .byte)) Bd.returns rfl (Or.inr (Or.inr (Or.inr (Or.inr ⟨rfl, rfl, rfl⟩)))) (hb hby d25_58) (by decide) (by decide) ?_
 rw [e161]
 exact ⟨b155, k155, rfl, N161, K161, sz_b155, Y161_0⟩

theorem d27_0 : decode jdk_52_method_15_code 0 = .ok (.iload_n 1, 1) := by decide +kernel
theorem d27_1 : decode jdk_52_method_15_code 1 = .ok (.aload_n 0, 1) := by decide +kernel
theorem d27_2 : decode jdk_52_method_15_code 2 = .ok (.arraylength, 1) := by decide +kernel
theorem d27_3 : decode jdk_52_method_15_code 3 = .ok (.isub, 1) := by decide +kernel
theorem d27_4 : decode jdk_52_method_15_code 4 = .ok (.bipush 31, 2) := by decide +kernel
theorem d27_6 : decode jdk_52_method_15_code 6 = .ok (.iushr, 1) := by decide +kernel
theorem d27_7 : decode jdk_52_method_15_code 7 = .ok (.i2b, 1) := by decide +kernel
theorem d27_8 : decode jdk_52_method_15_code 8 = .ok (.ireturn, 1) := by decide +kernel
theorem pn27 : plainName "java/lang/StringUTF16" = true := by first | (simp [plainName, overriddenIn]; done) | decide +kernel
theorem pdx_20 : parseMethodDescriptor "([CII)[B" = some ⟨[(.array .char), .int, .int], some (.array .byte)⟩ := by decide +kernel
theorem ef27_ri (m : MethodId) (x0 : Addr) (x1 : Int32) : entryFrame m #[(.ref x0), (.int x1)] 2 = mkF m 0 #[.val (.ref x0), .val (.int x1)] [] := by first | (simp [entryFrame, mkF, argsToLocals, Value.category]; done) | rfl
set_option maxRecDepth 65536 in
set_option maxHeartbeats 40000000 in
theorem rx27_165 (l : Launch) (Z : State) (a0 : Array Value) (hw : ∀ d ∈ tables_1, d.before a0 Z = true) (ws : List Jvm.Cond) (n0 : Nat) (h0 : Heap) (O0 : Old Z n0 h0)  (b163 : Addr) (k164 : ClassId) (p1 : Int32) (PV_b163 : Arv Z h0 b163 k164 .byte (2 : Int32) [(.int 45), (.int ((((48 : Int32) + ((p1 &&& (2147483647 : Int32)) % (10 : Int32))).toUInt32.toUInt16.toUInt32.toInt32).toInt8.toInt32))] (.int 0)) :
  Meets1 l ym23 jdk_52_method_15_code 2 (some .byte) ws ({ frames := 0, cells := 0, slots := 0, locals := 0 } : Room) #[(.ref b163), (.int 2)] Z h0 (fun v h L => v = some (.int 0) ∧ Fr n0 L ∧ Keep h0 h []) := by
 refine MetFree.of_bodySF (plainFor_of_name pn27) hisR ?_
 intro p e s m args below meth c s₁ Bd hml0 hP hK
 obtain ⟨rfl, hZ, hh⟩ := hP
 have hx := Bd.exec
 have hby := Bd.bytes
 have hml : c.maxLocals = 2 := hml0
 have hown : s.vm.findClass "java/lang/StringUTF16" = some m.cls := findClass_of_methodNamed Bd.named
 have hnm := (name_of_methodNamed Bd.named Bd.method).1
 have X0 : Stand p l e ({ frames := 0, cells := 0, slots := 0, locals := 0 } : Room) s m #[(.ref b163), (.int 2)] below meth c s₁ [] 0 0 := Stand.of_body Bd
 have e0 : s₁.heap = h0 := by rw [← hh, Bd.state]; rfl
 have N0 := Fr.nil n0
 have Z0 := own_old_le O0
 show Ends _ _ _ _ s₁ (entryFrame m #[(.ref b163), (.int 2)] 2) ({ frames := 0, cells := 0, slots := 0, locals := 0 } : Room).cells ({ frames := 0, cells := 0, slots := 0, locals := 0 } : Room).slots (fun v h L => v = some (.int 0) ∧ Fr n0 L ∧ Keep h0 h [])
 refine Ends.go (fun _ k => castTop (ef27_ri m b163 (2 : Int32)) k) ?_
 have K0 := Keep.refl h0 []
 show Ends _ _ _ _ s₁ (mkF m 0 #[cr b163, ci 2] []) _ _ _
 refine wilN X0 hx hby d27_0 rfl ?_
 refine walN X0 hx hby d27_1 rfl rfl ?_
 obtain ⟨cl166, Ar166, q166, S166, M166, H166, G166⟩ := id PV_b163
 refine Ends.go (X0.arraylength hx (by rw [e0]; exact Ar166.1) (State.isArrayOf_alike hZ.alike Ar166.2.1) (g := (mkF m 2 #[cr b163, ci 2] [(.ref b163), (.int 2)])) rfl rfl (hb hby d27_2)) ?_
 rw [len_of S166 M166]
 show Ends _ _ _ _ s₁ (mkF m 3 #[cr b163, ci 2] [(.int 2), (.int 2)]) _ _ _
 refine wis X0 hx hby d27_3 ?_
 refine wbp X0 hx hby d27_4 ?_
 refine .go (fun _ => XS.iushr X0.here hx rfl (hb hby d27_6) rfl) ?_
 refine .go (fun _ => XS.i2b X0.here hx rfl (hb hby d27_7) rfl) ?_
 show Ends _ _ _ _ s₁ (mkF m 8 #[cr b163, ci 2] [(.int 0)]) _ _ _
 refine Ends.retZ X0 hx Bd.notSynchronized (t := .byte) Bd.returns (by simp) (hb hby d27_8) (by decide) (by decide) ?_
 rw [e0]
 exact ⟨rfl, N0, K0⟩

theorem d24_0 : decode jdk_42_method_149_code 0 = .ok (.aload_n 0, 1) := by decide +kernel
theorem d24_1 : decode jdk_42_method_149_code 1 = .ok (.invokespecial 1, 3) := by decide +kernel
theorem d24_4 : decode jdk_42_method_149_code 4 = .ok (.iload_n 3, 1) := by decide +kernel
theorem d24_5 : decode jdk_42_method_149_code 5 = .ok (.ifCond .ne 22, 3) := by decide +kernel
theorem d24_27 : decode jdk_42_method_149_code 27 = .ok (.getstatic 38, 3) := by decide +kernel
theorem d24_30 : decode jdk_42_method_149_code 30 = .ok (.ifCond .eq 28, 3) := by decide +kernel
theorem d24_33 : decode jdk_42_method_149_code 33 = .ok (.aload_n 1, 1) := by decide +kernel
theorem d24_34 : decode jdk_42_method_149_code 34 = .ok (.iload_n 2, 1) := by decide +kernel
theorem d24_35 : decode jdk_42_method_149_code 35 = .ok (.iload_n 3, 1) := by decide +kernel
theorem d24_36 : decode jdk_42_method_149_code 36 = .ok (.invokestatic 177, 3) := by decide +kernel
theorem d24_39 : decode jdk_42_method_149_code 39 = .ok (.astore 5, 2) := by decide +kernel
theorem d24_41 : decode jdk_42_method_149_code 41 = .ok (.aload_n 0, 1) := by decide +kernel
theorem d24_42 : decode jdk_42_method_149_code 42 = .ok (.aload 5, 2) := by decide +kernel
theorem d24_44 : decode jdk_42_method_149_code 44 = .ok (.iload_n 3, 1) := by decide +kernel
theorem d24_45 : decode jdk_42_method_149_code 45 = .ok (.invokestatic 47, 3) := by decide +kernel
theorem d24_48 : decode jdk_42_method_149_code 48 = .ok (.putfield 15, 3) := by decide +kernel
theorem d24_51 : decode jdk_42_method_149_code 51 = .ok (.aload_n 0, 1) := by decide +kernel
theorem d24_52 : decode jdk_42_method_149_code 52 = .ok (.aload 5, 2) := by decide +kernel
theorem d24_54 : decode jdk_42_method_149_code 54 = .ok (.putfield 9, 3) := by decide +kernel
theorem d24_57 : decode jdk_42_method_149_code 57 = .ok (.return_, 1) := by decide +kernel
theorem pn24 : plainName "java/lang/String" = true := by first | (simp [plainName, overriddenIn]; done) | decide +kernel
theorem pdx_21 : parseMethodDescriptor "([BI)B" = some ⟨[(.array .byte), .int], some .byte⟩ := by decide +kernel
theorem ef24_rriin (m : MethodId) (x0 : Addr) (x1 : Addr) (x2 : Int32) (x3 : Int32) : entryFrame m #[(.ref x0), (.ref x1), (.int x2), (.int x3), .null] 6 = mkF m 0 #[.val (.ref x0), .val (.ref x1), .val (.int x2), .val (.int x3), .val .null, .unset] [] := by first | (simp [entryFrame, mkF, argsToLocals, Value.category]; done) | rfl
set_option maxRecDepth 65536 in
set_option maxHeartbeats 40000000 in
theorem rx24_151 (l : Launch) (Z : State) (a0 : Array Value) (hw : ∀ d ∈ tables_1, d.before a0 Z = true) (ws : List Jvm.Cond) (n0 : Nat) (h0 : Heap) (O0 : Old Z n0 h0) (G1 : Int32) (G3 : Value) (w_NULL : Addr) (w_NUMBER : Addr) (w_NULL2 : Addr) (w_STRING : Addr) (GF : GlobF Z a0 G1 G3 w_NULL w_NUMBER w_NULL2 w_STRING) (b145 : Addr) (b146 : Addr) (k146 : ClassId) (p1 : Int32) (PV_b146 : Arv Z h0 b146 k146 .char (2 : Int32) [(.int 45), (.int (((48 : Int32) + ((p1 &&& (2147483647 : Int32)) % (10 : Int32))).toUInt32.toUInt16.toUInt32.toInt32))] (.int 0)) (PE_b145 : Exa Z h0 b145 "java/lang/String") (PF_b145_coder : Fld Z h0 b145 "java/lang/String" "coder" "B" (.int 0)) (PF_b145_value : Fld Z h0 b145 "java/lang/String" "value" "[B" .null) (g_b145 : n0 ≤ b145) (hDG : own_dig (((48 : Int32) + ((p1 &&& (2147483647 : Int32)) % (10 : Int32))).toUInt32.toUInt16.toUInt32.toInt32)) :
  Meets1 l ym24 jdk_42_method_149_code 6 none ws ({ frames := 2, cells := 1, slots := 2, locals := 35 } : Room) #[(.ref b145), (.ref b146), (.int 0), (.int 2), .null] Z h0 (fun v h L => ∃ (b163 : Addr) (k164 : ClassId), v = none ∧ Fr n0 L ∧ Keep h0 h [b145] ∧ h0.size ≤ b163 ∧ Arv Z h b163 k164 .byte (2 : Int32) [(.int 45), (.int ((((48 : Int32) + ((p1 &&& (2147483647 : Int32)) % (10 : Int32))).toUInt32.toUInt16.toUInt32.toInt32).toInt8.toInt32))] (.int 0) ∧ Fld Z h b145 "java/lang/String" "coder" "B" (.int 0) ∧ Fld Z h b145 "java/lang/String" "value" "[B" (.ref b163)) := by
 refine MetFree.of_bodySF (plainFor_of_name pn24) hisR ?_
 intro p e s m args below meth c s₁ Bd hml0 hP hK
 obtain ⟨rfl, hZ, hh⟩ := hP
 have hx := Bd.exec
 have hby := Bd.bytes
 have hml : c.maxLocals = 6 := hml0
 have hown : s.vm.findClass "java/lang/String" = some m.cls := findClass_of_methodNamed Bd.named
 have hnm := (name_of_methodNamed Bd.named Bd.method).1
 have X0 : Stand p l e ({ frames := 2, cells := 1, slots := 2, locals := 35 } : Room) s m #[(.ref b145), (.ref b146), (.int 0), (.int 2), .null] below meth c s₁ [] 0 0 := Stand.of_body Bd
 have e0 : s₁.heap = h0 := by rw [← hh, Bd.state]; rfl
 have N0 := Fr.nil n0
 have Z0 := own_old_le O0
 show Ends _ _ _ _ s₁ (entryFrame m #[(.ref b145), (.ref b146), (.int 0), (.int 2), .null] 6) ({ frames := 2, cells := 1, slots := 2, locals := 35 } : Room).cells ({ frames := 2, cells := 1, slots := 2, locals := 35 } : Room).slots (fun v h L => ∃ (b163 : Addr) (k164 : ClassId), v = none ∧ Fr n0 L ∧ Keep h0 h [b145] ∧ h0.size ≤ b163 ∧ Arv Z h b163 k164 .byte (2 : Int32) [(.int 45), (.int ((((48 : Int32) + ((p1 &&& (2147483647 : Int32)) % (10 : Int32))).toUInt32.toUInt16.toUInt32.toInt32).toInt8.toInt32))] (.int 0) ∧ Fld Z h b145 "java/lang/String" "coder" "B" (.int 0) ∧ Fld Z h b145 "java/lang/String" "value" "[B" (.ref b163))
 refine Ends.go (fun _ k => castTop (ef24_rriin m b145 b146 (0 : Int32) (2 : Int32)) k) ?_
 obtain ⟨SCS, P5, SSF, RG3, HCST, HCW, S_NULL, E_NULL, S_NUMBER, E_NUMBER, F_ordinal_NULL, F_ordinal_NUMBER, S_NULL2, E_NULL2, F_kind_NULL2, S_STRING, E_STRING, F_ordinal_STRING⟩ := id GF
 have K0 := Keep.refl h0 [b145]
 show Ends _ _ _ _ s₁ (mkF m 0 #[cr b145, cr b146, ci 0, ci 2, .val .null, cu] []) _ _ _
 refine walN X0 hx hby d24_0 rfl rfl ?_
 obtain ⟨T152, X152, e152, st152⟩ := initO X0 hx hZ hown (ow hw 75 rfl) (ow hw 16 rfl) (ow hw 17 rfl) e0 (g := (mkF m 1 #[cr b145, cr b146, ci 0, ci 2, .val .null, cu] [(.ref b145)])) rfl (by rw [hml]; rfl) rfl (hb hby d24_1) (by decide) (W := 0) (by show 2 * 0 + _ ≤ _; exact Nat.le_of_eq rfl) (by decide)
 refine Ends.go st152 ?_
 refine wilN X152 hx hby d24_4 rfl ?_
 show Ends _ _ _ _ T152 (mkF m 5 #[cr b145, cr b146, ci 0, ci 2, .val .null, cu] [(.int 2)]) _ _ _
 refine wiy (pc := 5) (pc' := 27) X152 hx hby d24_5 ((if0 _ _).trans (feq (by decide : ¬ ((2 : Int32) = (0 : Int32)))).2) (by decide) (by decide) ?_
 obtain ⟨T153, X153, e153, st153⟩ := getS2 X152 hx hZ hown (host := "") (Or.inl (ow hw 62 rfl)) Via.refl e152 (SCS.ext O0.2) (g := (mkF m 27 #[cr b145, cr b146, ci 0, ci 2, .val .null, cu] [])) rfl (hb hby d24_27)
 refine Ends.go st153 ?_
 refine win X153 hx hby d24_30 ((if0 _ _).trans (feq (P5 : ¬ (G1 = (0 : Int32)))).1) ?_
 refine walN X153 hx hby d24_33 rfl rfl ?_
 show Ends _ _ _ _ T153 (mkF m 34 #[cr b145, cr b146, ci 0, ci 2, .val .null, cu] [(.ref b146)]) _ _ _
 refine wilN X153 hx hby d24_34 rfl ?_
 refine wilN X153 hx hby d24_35 rfl ?_
 obtain ⟨_, _, ⟨T162, L162, k162, n162⟩, -, X162, ⟨Lc162, hQ162, l162, y162, z162⟩, st162⟩ := Jvm.LawKit.callS X153 hx (y := ym22) hown (mvT hZ (ow hw 127 rfl)) (mvT hZ (ow hw 128 rfl)) (mvT hZ (ow hw 129 rfl)) (mvT hZ (ow hw 130 rfl)) (by decide) (own_backOf (W := 0) (rx25_154 l Z a0 hw [] n0 h0 O0  b146 k146 p1 PV_b146 hDG) hZ (ow hw 130 rfl) (ow hw 129 rfl) (by decide) (by decide)) (g := (mkF m 36 #[cr b145, cr b146, ci 0, ci 2, .val .null, cu] [(.int 2), (.int 0), (.ref b146)])) rfl (by rw [hml]; rfl) (argsL := [(.ref b146), (.int 0), (.int 2)]) (rest := []) (lenOf pdx_20 rfl) rfl (by show 2 * 0 + _ ≤ _; exact Nat.le_of_eq rfl) (hb hby d24_36) (fun _ _ => ⟨rfl, e153, (by decide : 0 + 1 ≤ _), (by decide : 0 + 2 ≤ _)⟩)
 dsimp only [Pt.U, Pt.locs, Pt.cells, Pt.slots] at X162 l162 y162 z162 st162 hQ162
 subst l162 y162 z162
 obtain ⟨b163, k164, rfl, N162q, K162c, hb162_b163, Y162_0⟩ := hQ162
 have N162 := Fr.app N0 N162q
 refine Ends.go st162 ?_
 have g_b163 : n0 ≤ b163 := Nat.le_trans (own_old_le O0) hb162_b163
 have sz_b163 : h0.size ≤ b163 := Nat.le_trans K0.1 hb162_b163
 obtain ⟨h162, e162⟩ : ∃ z, T162.heap = z := ⟨_, rfl⟩
 rw [e162] at K162c Y162_0
 have K162 := K0.trans K162c all0
 have O162 := O0.keep K162c all0
 refine was X162 hx hby d24_39 (l' := #[cr b145, cr b146, ci 0, ci 2, .val .null, cr b163]) rfl rfl ?_
 show Ends _ _ _ _ T162 (mkF m 41 #[cr b145, cr b146, ci 0, ci 2, .val .null, cr b163] []) _ _ _
 refine walN X162 hx hby d24_41 rfl rfl ?_
 refine wal X162 hx hby d24_42 rfl rfl ?_
 refine wilN X162 hx hby d24_44 rfl ?_
 obtain ⟨_, _, ⟨T167, L167, k167, n167⟩, -, X167, ⟨Lc167, hQ167, l167, y167, z167⟩, st167⟩ := Jvm.LawKit.callS X162 hx (y := ym23) hown (mvT hZ (ow hw 134 rfl)) (mvT hZ (ow hw 135 rfl)) (mvT hZ (ow hw 129 rfl)) (mvT hZ (ow hw 136 rfl)) (by decide) (own_backOf (W := 1) (rx27_165 l Z a0 hw [] n0 h162 O162  b163 k164 p1 Y162_0) hZ (ow hw 136 rfl) (ow hw 129 rfl) (by decide) (by decide)) (g := (mkF m 45 #[cr b145, cr b146, ci 0, ci 2, .val .null, cr b163] [(.int 2), (.ref b163), (.ref b145)])) rfl (by rw [hml]; rfl) (argsL := [(.ref b163), (.int 2)]) (rest := [(.ref b145)]) (lenOf pdx_21 rfl) rfl (by show 2 * 0 + _ ≤ _; exact Nat.le_of_eq rfl) (hb hby d24_45) (fun _ _ => ⟨rfl, e162, (by decide : 1 + 0 ≤ _), (by decide : 2 + 0 ≤ _)⟩)
 dsimp only [Pt.U, Pt.locs, Pt.cells, Pt.slots] at X167 l167 y167 z167 st167 hQ167
 subst l167 y167 z167
 obtain ⟨rfl, N167q, K167c⟩ := hQ167
 have N167 := Fr.app N162 N167q
 refine Ends.go st167 ?_
 obtain ⟨h167, e167⟩ : ∃ z, T167.heap = z := ⟨_, rfl⟩
 rw [e167] at K167c
 have K167 := K162.trans K167c all0
 have O167 := O162.keep K167c all0
 show Ends _ _ _ _ T167 (mkF m 48 #[cr b145, cr b146, ci 0, ci 2, .val .null, cr b163] [(.int 0), (.ref b145)]) _ _ _
 obtain ⟨T168, h168, X168, e168, W168, st168⟩ := putFN X167 hx hZ hown (ow hw 77 rfl) Via.refl e167 ((PF_b145_coder.keep K162c nin0).keep K167c nin0) ((PE_b145.keep K162c).keep K167c) (Or.inr ⟨(ow hw 23 rfl), rfl, hnm⟩) (ow hw 20 rfl) (ty := .byte) (v' := (.int 0)) (by decide) rfl (by decide) (g := (mkF m 48 #[cr b145, cr b146, ci 0, ci 2, .val .null, cr b163] [(.int 0), (.ref b145)])) rfl rfl (hb hby d24_48)
 refine Ends.go st168 ?_
 have Fw168 := ((PF_b145_coder.keep K162c nin0).keep K167c nin0).same W168
 have K168 := K167.wr W168 (Or.inl (List.mem_of_getElem? (i := 0) rfl))
 have O168 := O167.wr W168 g_b145
 have N168 := Fr.snoc X168 N167 g_b145
 refine walN X168 hx hby d24_51 rfl rfl ?_
 refine wal X168 hx hby d24_52 rfl rfl ?_
 obtain ⟨T169, h169, X169, e169, W169, st169⟩ := putF X168 hx hZ hown (host := "") (Or.inl (ow hw 76 rfl)) Via.refl e168 (((PF_b145_value.keep K162c nin0).keep K167c nin0).other W168 (Or.inr (slot_ne (Or.inr (ow hw 22 rfl)) (Or.inr (ow hw 23 rfl)) (by decide) (t := (.array .byte)) (t' := .byte) (by decide) (by decide)))) (((PE_b145.keep K162c).keep K167c).wr W168) (Or.inr ⟨(ow hw 22 rfl), rfl, hnm⟩) (ow hw 20 rfl) (ty := (.array .byte)) (by decide) rfl rfl (g := (mkF m 54 #[cr b145, cr b146, ci 0, ci 2, .val .null, cr b163] [(.ref b163), (.ref b145)])) rfl rfl (hb hby d24_54)
 refine Ends.go st169 ?_
 have Fw169 := (((PF_b145_value.keep K162c nin0).keep K167c nin0).other W168 (Or.inr (slot_ne (Or.inr (ow hw 22 rfl)) (Or.inr (ow hw 23 rfl)) (by decide) (t := (.array .byte)) (t' := .byte) (by decide) (by decide)))).same W169
 have K169 := K168.wr W169 (Or.inl (List.mem_of_getElem? (i := 0) rfl))
 have O169 := O168.wr W169 g_b145
 have N169 := Fr.snoc X169 N168 g_b145
 show Ends _ _ _ _ T169 (mkF m 57 #[cr b145, cr b146, ci 0, ci 2, .val .null, cr b163] []) _ _ _
 refine Ends.retV X169 hx Bd.notSynchronized Bd.returns (hb hby d24_57) (by decide) (by decide) ?_
 rw [e169]
 exact ⟨b163, k164, rfl, N169, K169, sz_b163, (((Y162_0.keep K167c nin0).other W168 (Ne.symm (Nat.ne_of_lt (Nat.lt_of_lt_of_le PE_b145.lt sz_b163)))).other W169 (Ne.symm (Nat.ne_of_lt (Nat.lt_of_lt_of_le PE_b145.lt sz_b163)))), (Fw168.other W169 (Or.inr (slot_ne (Or.inr (ow hw 23 rfl)) (Or.inr (ow hw 22 rfl)) (by decide) (t := .byte) (t' := (.array .byte)) (by decide) (by decide)))), Fw169⟩

theorem d23_0 : decode jdk_42_method_3_code 0 = .ok (.aload_n 0, 1) := by decide +kernel
theorem d23_1 : decode jdk_42_method_3_code 1 = .ok (.aload_n 1, 1) := by decide +kernel
theorem d23_2 : decode jdk_42_method_3_code 2 = .ok (.iconst 0, 1) := by decide +kernel
theorem d23_3 : decode jdk_42_method_3_code 3 = .ok (.aload_n 1, 1) := by decide +kernel
theorem d23_4 : decode jdk_42_method_3_code 4 = .ok (.arraylength, 1) := by decide +kernel
theorem d23_5 : decode jdk_42_method_3_code 5 = .ok (.aconst_null, 1) := by decide +kernel
theorem d23_6 : decode jdk_42_method_3_code 6 = .ok (.invokespecial 27, 3) := by decide +kernel
theorem d23_9 : decode jdk_42_method_3_code 9 = .ok (.return_, 1) := by decide +kernel
theorem pn23 : plainName "java/lang/String" = true := by first | (simp [plainName, overriddenIn]; done) | decide +kernel
theorem pdx_22 : parseMethodDescriptor "([CIILjava/lang/Void;)V" = some ⟨[(.array .char), .int, .int, (.object "java/lang/Void")], none⟩ := by decide +kernel
theorem ef23_rr (m : MethodId) (x0 : Addr) (x1 : Addr) : entryFrame m #[(.ref x0), (.ref x1)] 2 = mkF m 0 #[.val (.ref x0), .val (.ref x1)] [] := by first | (simp [entryFrame, mkF, argsToLocals, Value.category]; done) | rfl
set_option maxRecDepth 65536 in
set_option maxHeartbeats 40000000 in
theorem rx23_149 (l : Launch) (Z : State) (a0 : Array Value) (hw : ∀ d ∈ tables_1, d.before a0 Z = true) (ws : List Jvm.Cond) (n0 : Nat) (h0 : Heap) (O0 : Old Z n0 h0) (G1 : Int32) (G3 : Value) (w_NULL : Addr) (w_NUMBER : Addr) (w_NULL2 : Addr) (w_STRING : Addr) (GF : GlobF Z a0 G1 G3 w_NULL w_NUMBER w_NULL2 w_STRING) (b145 : Addr) (b146 : Addr) (k146 : ClassId) (p1 : Int32) (PV_b146 : Arv Z h0 b146 k146 .char (2 : Int32) [(.int 45), (.int (((48 : Int32) + ((p1 &&& (2147483647 : Int32)) % (10 : Int32))).toUInt32.toUInt16.toUInt32.toInt32))] (.int 0)) (PE_b145 : Exa Z h0 b145 "java/lang/String") (PF_b145_coder : Fld Z h0 b145 "java/lang/String" "coder" "B" (.int 0)) (PF_b145_value : Fld Z h0 b145 "java/lang/String" "value" "[B" .null) (g_b145 : n0 ≤ b145) (hDG : own_dig (((48 : Int32) + ((p1 &&& (2147483647 : Int32)) % (10 : Int32))).toUInt32.toUInt16.toUInt32.toInt32)) :
  Meets1 l ym25 jdk_42_method_3_code 2 none ws ({ frames := 3, cells := 1, slots := 2, locals := 52 } : Room) #[(.ref b145), (.ref b146)] Z h0 (fun v h L => ∃ (b171 : Addr) (k172 : ClassId), v = none ∧ Fr n0 L ∧ Keep h0 h [b145] ∧ h0.size ≤ b171 ∧ Arv Z h b171 k172 .byte (2 : Int32) [(.int 45), (.int ((((48 : Int32) + ((p1 &&& (2147483647 : Int32)) % (10 : Int32))).toUInt32.toUInt16.toUInt32.toInt32).toInt8.toInt32))] (.int 0) ∧ Fld Z h b145 "java/lang/String" "coder" "B" (.int 0) ∧ Fld Z h b145 "java/lang/String" "value" "[B" (.ref b171)) := by
 refine MetFree.of_bodySF (plainFor_of_name pn23) hisR ?_
 intro p e s m args below meth c s₁ Bd hml0 hP hK
 obtain ⟨rfl, hZ, hh⟩ := hP
 have hx := Bd.exec
 have hby := Bd.bytes
 have hml : c.maxLocals = 2 := hml0
 have hown : s.vm.findClass "java/lang/String" = some m.cls := findClass_of_methodNamed Bd.named
 have hnm := (name_of_methodNamed Bd.named Bd.method).1
 have X0 : Stand p l e ({ frames := 3, cells := 1, slots := 2, locals := 52 } : Room) s m #[(.ref b145), (.ref b146)] below meth c s₁ [] 0 0 := Stand.of_body Bd
 have e0 : s₁.heap = h0 := by rw [← hh, Bd.state]; rfl
 have N0 := Fr.nil n0
 have Z0 := own_old_le O0
 show Ends _ _ _ _ s₁ (entryFrame m #[(.ref b145), (.ref b146)] 2) ({ frames := 3, cells := 1, slots := 2, locals := 52 } : Room).cells ({ frames := 3, cells := 1, slots := 2, locals := 52 } : Room).slots (fun v h L => ∃ (b171 : Addr) (k172 : ClassId), v = none ∧ Fr n0 L ∧ Keep h0 h [b145] ∧ h0.size ≤ b171 ∧ Arv Z h b171 k172 .byte (2 : Int32) [(.int 45), (.int ((((48 : Int32) + ((p1 &&& (2147483647 : Int32)) % (10 : Int32))).toUInt32.toUInt16.toUInt32.toInt32).toInt8.toInt32))] (.int 0) ∧ Fld Z h b145 "java/lang/String" "coder" "B" (.int 0) ∧ Fld Z h b145 "java/lang/String" "value" "[B" (.ref b171))
 refine Ends.go (fun _ k => castTop (ef23_rr m b145 b146) k) ?_
 obtain ⟨SCS, P5, SSF, RG3, HCST, HCW, S_NULL, E_NULL, S_NUMBER, E_NUMBER, F_ordinal_NULL, F_ordinal_NUMBER, S_NULL2, E_NULL2, F_kind_NULL2, S_STRING, E_STRING, F_ordinal_STRING⟩ := id GF
 have K0 := Keep.refl h0 [b145]
 show Ends _ _ _ _ s₁ (mkF m 0 #[cr b145, cr b146] []) _ _ _
 refine walN X0 hx hby d23_0 rfl rfl ?_
 refine walN X0 hx hby d23_1 rfl rfl ?_
 refine wic X0 hx hby d23_2 ?_
 show Ends _ _ _ _ s₁ (mkF m 3 #[cr b145, cr b146] [(.int 0), (.ref b146), (.ref b145)]) _ _ _
 refine walN X0 hx hby d23_3 rfl rfl ?_
 obtain ⟨cl150, Ar150, q150, S150, M150, H150, G150⟩ := id PV_b146
 refine Ends.go (X0.arraylength hx (by rw [e0]; exact Ar150.1) (State.isArrayOf_alike hZ.alike Ar150.2.1) (g := (mkF m 4 #[cr b145, cr b146] [(.ref b146), (.int 0), (.ref b146), (.ref b145)])) rfl rfl (hb hby d23_4)) ?_
 rw [len_of S150 M150]
 refine .go (fun _ => XS.aconstNull X0.here hx rfl (hb hby d23_5)) ?_
 obtain ⟨_, _, ⟨T170, L170, k170, n170⟩, -, X170, ⟨Lc170, hQ170, l170, y170, z170⟩, st170⟩ := X0.specialBack hx (y := ym24) rfl hown (mvT hZ (ow hw 124 rfl)) (mvT hZ (ow hw 125 rfl)) (mvT hZ (ow hw 126 rfl)) (by decide) (own_backOf (W := 0) (rx24_151 l Z a0 hw [] n0 h0 O0 G1 G3 w_NULL w_NUMBER w_NULL2 w_STRING GF b145 b146 k146 p1 PV_b146 PE_b145 PF_b145_coder PF_b145_value g_b145 hDG) hZ (ow hw 126 rfl) (ow hw 19 rfl) (by decide) (by decide)) (g := (mkF m 6 #[cr b145, cr b146] [.null, (.int 2), (.int 0), (.ref b146), (.ref b145)])) rfl (by rw [hml]; rfl) (Steps.refl _) (a := b145) (argsL := [(.ref b146), (.int 0), (.int 2), .null]) (rest := []) (lenOf pdx_22 rfl) rfl (by show 2 * 0 + _ ≤ _; exact Nat.le_of_eq rfl) (hb hby d23_6) (fun _ _ => ⟨rfl, e0, (by decide : 0 + 1 ≤ _), (by decide : 0 + 2 ≤ _)⟩)
 dsimp only [Pt.U, Pt.locs, Pt.cells, Pt.slots] at X170 l170 y170 z170 st170 hQ170
 subst l170 y170 z170
 obtain ⟨b171, k172, rfl, N170q, K170c, hb170_b171, Y170_0, Y170_1, Y170_2⟩ := hQ170
 have N170 := Fr.app N0 N170q
 refine Ends.go (fun _ k => st170.trans k) ?_
 have g_b171 : n0 ≤ b171 := Nat.le_trans (own_old_le O0) hb170_b171
 have sz_b171 : h0.size ≤ b171 := Nat.le_trans K0.1 hb170_b171
 obtain ⟨h170, e170⟩ : ∃ z, T170.heap = z := ⟨_, rfl⟩
 rw [e170] at K170c Y170_0 Y170_1 Y170_2
 have K170 := K0.trans K170c (allS (Or.inl (List.mem_of_getElem? (i := 0) rfl)) all0)
 have O170 := O0.keep K170c (allS g_b145 all0)
 show Ends _ _ _ _ T170 (mkF m 9 #[cr b145, cr b146] []) _ _ _
 refine Ends.retV X170 hx Bd.notSynchronized Bd.returns (hb hby d23_9) (by decide) (by decide) ?_
 rw [e170]
 exact ⟨b171, k172, rfl, N170, K170, sz_b171, Y170_0, Y170_1, Y170_2⟩

theorem d8_20 : decode method_3_code 20 = .ok (.new 7, 3) := by decide +kernel
theorem d8_23 : decode method_3_code 23 = .ok (.dup, 1) := by decide +kernel
theorem d8_24 : decode method_3_code 24 = .ok (.iconst 2, 1) := by decide +kernel
theorem d8_25 : decode method_3_code 25 = .ok (.newarray .char, 2) := by decide +kernel
theorem d8_27 : decode method_3_code 27 = .ok (.dup, 1) := by decide +kernel
theorem d8_28 : decode method_3_code 28 = .ok (.iconst 0, 1) := by decide +kernel
theorem d8_29 : decode method_3_code 29 = .ok (.bipush 45, 2) := by decide +kernel
theorem d8_31 : decode method_3_code 31 = .ok (.castore, 1) := by decide +kernel
theorem d8_32 : decode method_3_code 32 = .ok (.dup, 1) := by decide +kernel
theorem d8_33 : decode method_3_code 33 = .ok (.iconst 1, 1) := by decide +kernel
theorem d8_34 : decode method_3_code 34 = .ok (.iload_n 3, 1) := by decide +kernel
theorem d8_35 : decode method_3_code 35 = .ok (.castore, 1) := by decide +kernel
theorem d8_36 : decode method_3_code 36 = .ok (.invokespecial 9, 3) := by decide +kernel
theorem d8_39 : decode method_3_code 39 = .ok (.areturn, 1) := by decide +kernel
theorem pdx_23 : parseMethodDescriptor "([C)V" = some ⟨[(.array .char)], none⟩ := by decide +kernel
set_option maxRecDepth 65536 in
set_option maxHeartbeats 40000000 in
theorem rx8_144 (l : Launch) (Z : State) (a0 : Array Value) (hw : ∀ d ∈ tables_1, d.before a0 Z = true) (ws : List Jvm.Cond) (n0 : Nat) (h0 : Heap) (O0 : Old Z n0 h0) (G1 : Int32) (G3 : Value) (w_NULL : Addr) (w_NUMBER : Addr) (w_NULL2 : Addr) (w_STRING : Addr) (GF : GlobF Z a0 G1 G3 w_NULL w_NUMBER w_NULL2 w_STRING) (p1 : Int32) (p2 : Int32) (hbit_ : ¬ ((p2 &&& (1 : Int32)) = (0 : Int32))) (hDG : own_dig (((48 : Int32) + ((p1 &&& (2147483647 : Int32)) % (10 : Int32))).toUInt32.toUInt16.toUInt32.toInt32)) :
  Meets1 l ym12 method_3_code 4 (some (.object "java/lang/String")) ws ({ frames := 4, cells := 3, slots := 8, locals := 66 } : Room) #[(.int p1), (.int p2)] Z h0 (fun v h L => ∃ (b145 : Addr) (b146 : Addr) (b174 : Addr) (k146 : ClassId) (k175 : ClassId), v = some (.ref b145) ∧ Fr n0 L ∧ Keep h0 h [] ∧ h0.size ≤ b145 ∧ h0.size ≤ b146 ∧ h0.size ≤ b174 ∧ b145 ≠ b146 ∧ b145 ≠ b174 ∧ b146 ≠ b174 ∧ Exa Z h b145 "java/lang/String" ∧ Arv Z h b146 k146 .char (2 : Int32) [(.int 45), (.int (((48 : Int32) + ((p1 &&& (2147483647 : Int32)) % (10 : Int32))).toUInt32.toUInt16.toUInt32.toInt32))] (.int 0) ∧ Arv Z h b174 k175 .byte (2 : Int32) [(.int 45), (.int ((((48 : Int32) + ((p1 &&& (2147483647 : Int32)) % (10 : Int32))).toUInt32.toUInt16.toUInt32.toInt32).toInt8.toInt32))] (.int 0) ∧ Fld Z h b145 "java/lang/String" "coder" "B" (.int 0) ∧ Fld Z h b145 "java/lang/String" "value" "[B" (.ref b174)) := by
 refine MetFree.of_bodySF (plainFor_of_name pn8) hisR ?_
 intro p e s m args below meth c s₁ Bd hml0 hP hK
 obtain ⟨rfl, hZ, hh⟩ := hP
 have hx := Bd.exec
 have hby := Bd.bytes
 have hml : c.maxLocals = 4 := hml0
 have hown : s.vm.findClass "com/example/wakeline/wakeline/event/ValueIsNullPinLaw" = some m.cls := findClass_of_methodNamed Bd.named
 have hnm := (name_of_methodNamed Bd.named Bd.method).1
 have X0 : Stand p l e ({ frames := 4, cells := 3, slots := 8, locals := 66 } : Room) s m #[(.int p1), (.int p2)] below meth c s₁ [] 0 0 := Stand.of_body Bd
 have e0 : s₁.heap = h0 := by rw [← hh, Bd.state]; rfl
 have N0 := Fr.nil n0
 have Z0 := own_old_le O0
 show Ends _ _ _ _ s₁ (entryFrame m #[(.int p1), (.int p2)] 4) ({ frames := 4, cells := 3, slots := 8, locals := 66 } : Room).cells ({ frames := 4, cells := 3, slots := 8, locals := 66 } : Room).slots (fun v h L => ∃ (b145 : Addr) (b146 : Addr) (b174 : Addr) (k146 : ClassId) (k175 : ClassId), v = some (.ref b145) ∧ Fr n0 L ∧ Keep h0 h [] ∧ h0.size ≤ b145 ∧ h0.size ≤ b146 ∧ h0.size ≤ b174 ∧ b145 ≠ b146 ∧ b145 ≠ b174 ∧ b146 ≠ b174 ∧ Exa Z h b145 "java/lang/String" ∧ Arv Z h b146 k146 .char (2 : Int32) [(.int 45), (.int (((48 : Int32) + ((p1 &&& (2147483647 : Int32)) % (10 : Int32))).toUInt32.toUInt16.toUInt32.toInt32))] (.int 0) ∧ Arv Z h b174 k175 .byte (2 : Int32) [(.int 45), (.int ((((48 : Int32) + ((p1 &&& (2147483647 : Int32)) % (10 : Int32))).toUInt32.toUInt16.toUInt32.toInt32).toInt8.toInt32))] (.int 0) ∧ Fld Z h b145 "java/lang/String" "coder" "B" (.int 0) ∧ Fld Z h b145 "java/lang/String" "value" "[B" (.ref b174))
 refine Ends.go (fun _ k => castTop (ef8_ii m p1 p2) k) ?_
 obtain ⟨SCS, P5, SSF, RG3, HCST, HCW, S_NULL, E_NULL, S_NUMBER, E_NUMBER, F_ordinal_NULL, F_ordinal_NUMBER, S_NULL2, E_NULL2, F_kind_NULL2, S_STRING, E_STRING, F_ordinal_STRING⟩ := id GF
 have K0 := Keep.refl h0 []
 show Ends _ _ _ _ s₁ (mkF m 0 #[ci p1, ci p2, cu, cu] []) _ _ _
 refine wilN X0 hx hby d8_0 rfl ?_
 refine Ends.go (X0.ldcInt hx hown (mvT hZ (ow hw 0 rfl)) (g := (mkF m 1 #[ci p1, ci p2, cu, cu] [(.int p1)])) rfl (hb hby d8_1)) ?_
 refine wan X0 hx hby d8_3 ?_
 show Ends _ _ _ _ s₁ (mkF m 4 #[ci p1, ci p2, cu, cu] [(.int (p1 &&& (2147483647 : Int32)))]) _ _ _
 refine wbp X0 hx hby d8_4 ?_
 refine .go (fun _ => iremM X0 hx rfl (hb hby d8_6) rfl (by decide)) ?_
 refine wstN X0 hx hby d8_7 (l' := #[ci p1, ci p2, ci ((p1 &&& (2147483647 : Int32)) % (10 : Int32)), cu]) rfl ?_
 refine wbp X0 hx hby d8_8 ?_
 show Ends _ _ _ _ s₁ (mkF m 10 #[ci p1, ci p2, ci ((p1 &&& (2147483647 : Int32)) % (10 : Int32)), cu] [(.int 48)]) _ _ _
 refine wilN X0 hx hby d8_10 rfl ?_
 refine wia X0 hx hby d8_11 ?_
 refine .go (fun _ => XS.i2c X0.here hx rfl (hb hby d8_12) rfl) ?_
 refine wstN X0 hx hby d8_13 (l' := #[ci p1, ci p2, ci ((p1 &&& (2147483647 : Int32)) % (10 : Int32)), ci (((48 : Int32) + ((p1 &&& (2147483647 : Int32)) % (10 : Int32))).toUInt32.toUInt16.toUInt32.toInt32)]) rfl ?_
 show Ends _ _ _ _ s₁ (mkF m 14 #[ci p1, ci p2, ci ((p1 &&& (2147483647 : Int32)) % (10 : Int32)), ci (((48 : Int32) + ((p1 &&& (2147483647 : Int32)) % (10 : Int32))).toUInt32.toUInt16.toUInt32.toInt32)] []) _ _ _
 refine wilN X0 hx hby d8_14 rfl ?_
 refine wic X0 hx hby d8_15 ?_
 refine wan X0 hx hby d8_16 ?_
 refine win X0 hx hby d8_17 ((if0 _ _).trans (feq (hbit_ : ¬ ((p2 &&& (1 : Int32)) = (0 : Int32)))).1) ?_
 show Ends _ _ _ _ s₁ (mkF m 20 #[ci p1, ci p2, ci ((p1 &&& (2147483647 : Int32)) % (10 : Int32)), ci (((48 : Int32) + ((p1 &&& (2147483647 : Int32)) % (10 : Int32))).toUInt32.toUInt16.toUInt32.toInt32)] []) _ _ _
 obtain ⟨T145, h145, X145, e145, E145, A145, D145, -, st145⟩ := newO X0 hx hZ hown (ow hw 119 rfl) (ow hw 20 rfl) (ow hw 19 rfl) e0 (g := (mkF m 20 #[ci p1, ci p2, ci ((p1 &&& (2147483647 : Int32)) % (10 : Int32)), ci (((48 : Int32) + ((p1 &&& (2147483647 : Int32)) % (10 : Int32))).toUInt32.toUInt16.toUInt32.toInt32)] [])) rfl (hb hby d8_20) (by decide) (by decide)
 obtain ⟨b145, g145⟩ : ∃ z, z = h0.size := ⟨_, rfl⟩
 rw [← g145] at A145 D145 st145
 refine Ends.go st145 ?_
 have g_b145 : n0 ≤ b145 := Nat.le_trans (own_old_le O0) (Nat.le_of_eq g145.symm)
 have sz_b145 : h0.size ≤ b145 := Nat.le_trans K0.1 (Nat.le_of_eq g145.symm)
 have K145 := K0.ext E145
 have O145 := O0.ext E145
 have F_value_b145 : Fld Z h145 b145 "java/lang/String" "value" "[B" .null := D145 (Or.inr (ow hw 22 rfl)) (ty := (.array .byte)) (by decide)
 have F_coder_b145 : Fld Z h145 b145 "java/lang/String" "coder" "B" (.int 0) := D145 (Or.inr (ow hw 23 rfl)) (ty := .byte) (by decide)
 refine wdu X145 hx hby d8_23 rfl ?_
 refine wic X145 hx hby d8_24 ?_
 obtain ⟨T146, h146, k146, X146, e146, E146, A146, st146⟩ := newP X145 hx hZ (ow hw 120 rfl) e145 (g := (mkF m 25 #[ci p1, ci p2, ci ((p1 &&& (2147483647 : Int32)) % (10 : Int32)), ci (((48 : Int32) + ((p1 &&& (2147483647 : Int32)) % (10 : Int32))).toUInt32.toUInt16.toUInt32.toInt32)] [(.int 2), (.ref b145), (.ref b145)])) rfl (hb hby d8_25) rfl (by decide) (cap := 2) (by decide) (by decide) (by decide) (by decide)
 obtain ⟨b146, g146⟩ : ∃ z, z = h145.size := ⟨_, rfl⟩
 rw [← g146] at A146 st146
 refine Ends.go st146 ?_
 have g_b146 : n0 ≤ b146 := Nat.le_trans (own_old_le O145) (Nat.le_of_eq g146.symm)
 have sz_b146 : h0.size ≤ b146 := Nat.le_trans K145.1 (Nat.le_of_eq g146.symm)
 have K146 := K145.ext E146
 have O146 := O145.ext E146
 have V_b146 : Arv Z h146 b146 k146 .char (2 : Int32) [(.int 0), (.int 0)] (.int 0) := (Arv.new A146 (by decide)).pad (pad_rep [] (.int 0) 2)
 show Ends _ _ _ _ T146 (mkF m 27 #[ci p1, ci p2, ci ((p1 &&& (2147483647 : Int32)) % (10 : Int32)), ci (((48 : Int32) + ((p1 &&& (2147483647 : Int32)) % (10 : Int32))).toUInt32.toUInt16.toUInt32.toInt32)] [(.ref b146), (.ref b145), (.ref b145)]) _ _ _
 refine wdu X146 hx hby d8_27 rfl ?_
 refine wic X146 hx hby d8_28 ?_
 refine wbp X146 hx hby d8_29 ?_
 obtain ⟨cl147, Ar147, q147, S147, M147, H147, G147⟩ := id V_b146
 have hin147 := inb_of (j := (0 : Int32)) S147 ⟨by decide, by decide⟩
 obtain ⟨T147, h147, X147, e147, W147, st147⟩ := stC X146 hx hZ e146 Ar147 (j := (0 : Int32)) hin147 (g := (mkF m 31 #[ci p1, ci p2, ci ((p1 &&& (2147483647 : Int32)) % (10 : Int32)), ci (((48 : Int32) + ((p1 &&& (2147483647 : Int32)) % (10 : Int32))).toUInt32.toUInt16.toUInt32.toInt32)] [(.int 45), (.int 0), (.ref b146), (.ref b146), (.ref b145), (.ref b145)])) rfl rfl (hb hby d8_31)
 refine Ends.go st147 ?_
 have V147 : Arv Z h147 b146 k146 .char (2 : Int32) [(.int 45), (.int 0)] (.int 0) := Arv.set Ar147 q147 S147 M147 H147 G147 rfl W147 0 rfl (Nat.le_of_ble_eq_true rfl)
 have K147 := K146.wr W147 (Or.inr sz_b146)
 have O147 := O146.wr W147 g_b146
 have N147 := Fr.snoc X147 N0 g_b146
 show Ends _ _ _ _ T147 (mkF m 32 #[ci p1, ci p2, ci ((p1 &&& (2147483647 : Int32)) % (10 : Int32)), ci (((48 : Int32) + ((p1 &&& (2147483647 : Int32)) % (10 : Int32))).toUInt32.toUInt16.toUInt32.toInt32)] [(.ref b146), (.ref b145), (.ref b145)]) _ _ _
 refine wdu X147 hx hby d8_32 rfl ?_
 refine wic X147 hx hby d8_33 ?_
 refine wilN X147 hx hby d8_34 rfl ?_
 obtain ⟨cl148, Ar148, q148, S148, M148, H148, G148⟩ := id V147
 have hin148 := inb_of (j := (1 : Int32)) S148 ⟨by decide, by decide⟩
 obtain ⟨T148, h148, X148, e148, W148, st148⟩ := stC X147 hx hZ e147 Ar148 (j := (1 : Int32)) hin148 (g := (mkF m 35 #[ci p1, ci p2, ci ((p1 &&& (2147483647 : Int32)) % (10 : Int32)), ci (((48 : Int32) + ((p1 &&& (2147483647 : Int32)) % (10 : Int32))).toUInt32.toUInt16.toUInt32.toInt32)] [(.int (((48 : Int32) + ((p1 &&& (2147483647 : Int32)) % (10 : Int32))).toUInt32.toUInt16.toUInt32.toInt32)), (.int 1), (.ref b146), (.ref b146), (.ref b145), (.ref b145)])) rfl rfl (hb hby d8_35)
 refine Ends.go st148 ?_
 have V148 : Arv Z h148 b146 k146 .char (2 : Int32) [(.int 45), (.int (nar .char (((48 : Int32) + ((p1 &&& (2147483647 : Int32)) % (10 : Int32))).toUInt32.toUInt16.toUInt32.toInt32)))] (.int 0) := Arv.set Ar148 q148 S148 M148 H148 G148 (fits_nar_char _) W148 1 rfl (Nat.le_of_ble_eq_true rfl)
 rw [own_narcc] at V148
 have K148 := K147.wr W148 (Or.inr sz_b146)
 have O148 := O147.wr W148 g_b146
 have N148 := Fr.snoc X148 N147 g_b146
 show Ends _ _ _ _ T148 (mkF m 36 #[ci p1, ci p2, ci ((p1 &&& (2147483647 : Int32)) % (10 : Int32)), ci (((48 : Int32) + ((p1 &&& (2147483647 : Int32)) % (10 : Int32))).toUInt32.toUInt16.toUInt32.toInt32)] [(.ref b146), (.ref b145), (.ref b145)]) _ _ _
 have ne_b145_b146 : b145 ≠ b146 := Nat.ne_of_lt (Nat.lt_of_lt_of_le A145.lt (Nat.le_of_eq g146.symm))
 obtain ⟨_, _, ⟨T173, L173, k173, n173⟩, -, X173, ⟨Lc173, hQ173, l173, y173, z173⟩, st173⟩ := X148.specialBack hx (y := ym25) rfl hown (mvT hZ (ow hw 121 rfl)) (mvT hZ (ow hw 122 rfl)) (mvT hZ (ow hw 123 rfl)) (by decide) (own_backOf (W := 1) (rx23_149 l Z a0 hw [] n0 h148 O148 G1 G3 w_NULL w_NUMBER w_NULL2 w_STRING GF b145 b146 k146 p1 V148 (((A145.ext E146).wr W147).wr W148) (((F_coder_b145.ext E146).other W147 (Or.inl ne_b145_b146)).other W148 (Or.inl ne_b145_b146)) (((F_value_b145.ext E146).other W147 (Or.inl ne_b145_b146)).other W148 (Or.inl ne_b145_b146)) g_b145 hDG) hZ (ow hw 123 rfl) (ow hw 19 rfl) (by decide) (by decide)) (g := (mkF m 36 #[ci p1, ci p2, ci ((p1 &&& (2147483647 : Int32)) % (10 : Int32)), ci (((48 : Int32) + ((p1 &&& (2147483647 : Int32)) % (10 : Int32))).toUInt32.toUInt16.toUInt32.toInt32)] [(.ref b146), (.ref b145), (.ref b145)])) rfl (by rw [hml]; rfl) (Steps.refl _) (a := b145) (argsL := [(.ref b146)]) (rest := [(.ref b145)]) (lenOf pdx_23 rfl) rfl (by show 2 * 0 + _ ≤ _; exact Nat.le_of_eq rfl) (hb hby d8_36) (fun _ _ => ⟨rfl, e148, (by decide : 2 + 1 ≤ _), (by decide : 6 + 2 ≤ _)⟩)
 dsimp only [Pt.U, Pt.locs, Pt.cells, Pt.slots] at X173 l173 y173 z173 st173 hQ173
 subst l173 y173 z173
 obtain ⟨b174, k175, rfl, N173q, K173c, hb173_b174, Y173_0, Y173_1, Y173_2⟩ := hQ173
 have N173 := Fr.app N148 N173q
 refine Ends.go (fun _ k => st173.trans k) ?_
 have g_b174 : n0 ≤ b174 := Nat.le_trans (own_old_le O148) hb173_b174
 have sz_b174 : h0.size ≤ b174 := Nat.le_trans K148.1 hb173_b174
 obtain ⟨h173, e173⟩ : ∃ z, T173.heap = z := ⟨_, rfl⟩
 rw [e173] at K173c Y173_0 Y173_1 Y173_2
 have K173 := K148.trans K173c (allS (Or.inr sz_b145) all0)
 have O173 := O148.keep K173c (allS g_b145 all0)
 refine Ends.ret X173 hx Bd.notSynchronized (t := (.object "java/lang/String")) Bd.returns rfl (Or.inr (Or.inr (Or.inr (Or.inr ⟨rfl, rfl, rfl⟩)))) (hb hby d8_39) (by decide) (by decide) ?_
 rw [e173]
 have ne_b145_b174 : b145 ≠ b174 := Nat.ne_of_lt (Nat.lt_of_lt_of_le (((A145.ext E146).wr W147).wr W148).lt hb173_b174)
 have ne_b146_b174 : b146 ≠ b174 := Nat.ne_of_lt (Nat.lt_of_lt_of_le V148.lt hb173_b174)
 exact ⟨b145, b146, b174, k146, k175, rfl, N173, K173, sz_b145, sz_b146, sz_b174, ne_b145_b146, ne_b145_b174, ne_b146_b174, ((((A145.ext E146).wr W147).wr W148).keep K173c), (V148.keep K173c (ninS (Ne.symm ne_b145_b146) nin0)), Y173_0, Y173_1, Y173_2⟩

set_option maxRecDepth 65536 in
set_option maxHeartbeats 40000000 in
theorem rx15_190 (l : Launch) (Z : State) (a0 : Array Value) (hw : ∀ d ∈ tables_1, d.before a0 Z = true) (ws : List Jvm.Cond) (n0 : Nat) (h0 : Heap) (O0 : Old Z n0 h0) (G1 : Int32) (G3 : Value) (w_NULL : Addr) (w_NUMBER : Addr) (w_NULL2 : Addr) (w_STRING : Addr) (GF : GlobF Z a0 G1 G3 w_NULL w_NUMBER w_NULL2 w_STRING) (b177 : Addr) (b179 : Addr) (k181 : ClassId) (p1 : Int32) (PF_b177_value : Fld Z h0 b177 "java/lang/String" "value" "[B" (.ref b179)) (PV_b179 : Arv Z h0 b179 k181 .byte (2 : Int32) [(.int 45), (.int ((((48 : Int32) + ((p1 &&& (2147483647 : Int32)) % (10 : Int32))).toUInt32.toUInt16.toUInt32.toInt32).toInt8.toInt32))] (.int 0)) (PF_b177_coder : Fld Z h0 b177 "java/lang/String" "coder" "B" (.int 0)) (PE_b177 : Exa Z h0 b177 "java/lang/String") :
  Meets1 l ym14 jdk_42_method_54_code 1 (some .int) ws ({ frames := 1, cells := 0, slots := 0, locals := 13 } : Room) #[(.ref b177)] Z h0 (fun v h L => v = some (.int 2) ∧ Fr n0 L ∧ Keep h0 h []) := by
 refine MetFree.of_bodySF (plainFor_of_name pn15) hisR ?_
 intro p e s m args below meth c s₁ Bd hml0 hP hK
 obtain ⟨rfl, hZ, hh⟩ := hP
 have hx := Bd.exec
 have hby := Bd.bytes
 have hml : c.maxLocals = 1 := hml0
 have hown : s.vm.findClass "java/lang/String" = some m.cls := findClass_of_methodNamed Bd.named
 have hnm := (name_of_methodNamed Bd.named Bd.method).1
 have X0 : Stand p l e ({ frames := 1, cells := 0, slots := 0, locals := 13 } : Room) s m #[(.ref b177)] below meth c s₁ [] 0 0 := Stand.of_body Bd
 have e0 : s₁.heap = h0 := by rw [← hh, Bd.state]; rfl
 have N0 := Fr.nil n0
 have Z0 := own_old_le O0
 show Ends _ _ _ _ s₁ (entryFrame m #[(.ref b177)] 1) ({ frames := 1, cells := 0, slots := 0, locals := 13 } : Room).cells ({ frames := 1, cells := 0, slots := 0, locals := 13 } : Room).slots (fun v h L => v = some (.int 2) ∧ Fr n0 L ∧ Keep h0 h [])
 refine Ends.go (fun _ k => castTop (ef15_r m b177) k) ?_
 obtain ⟨SCS, P5, SSF, RG3, HCST, HCW, S_NULL, E_NULL, S_NUMBER, E_NUMBER, F_ordinal_NULL, F_ordinal_NUMBER, S_NULL2, E_NULL2, F_kind_NULL2, S_STRING, E_STRING, F_ordinal_STRING⟩ := id GF
 have K0 := Keep.refl h0 []
 show Ends _ _ _ _ s₁ (mkF m 0 #[cr b177] []) _ _ _
 refine walN X0 hx hby d15_0 rfl rfl ?_
 obtain ⟨T191, X191, e191, st191⟩ := getF X0 hx hZ hown (host := "") (Or.inl (ow hw 76 rfl)) Via.refl e0 PF_b177_value (g := (mkF m 1 #[cr b177] [(.ref b177)])) rfl rfl (hb hby d15_1)
 refine Ends.go st191 ?_
 obtain ⟨cl192, Ar192, q192, S192, M192, H192, G192⟩ := id PV_b179
 refine Ends.go (X191.arraylength hx (by rw [e191]; exact Ar192.1) (State.isArrayOf_alike hZ.alike Ar192.2.1) (g := (mkF m 4 #[cr b177] [(.ref b179)])) rfl rfl (hb hby d15_4)) ?_
 rw [len_of S192 M192]
 show Ends _ _ _ _ T191 (mkF m 5 #[cr b177] [(.int 2)]) _ _ _
 refine walN X191 hx hby d15_5 rfl rfl ?_
 obtain ⟨cq193, kq193, q193a, q193b, q193c⟩ := isOf hZ e191 PE_b177
 obtain ⟨_, _, ⟨T193, L193, k193, n193⟩, -, X193, ⟨Lc193, hQ193, l193, y193, z193⟩, st193⟩ := X191.virtualBack hx (y := ym13) (z := ym13) hown (mvT hZ (ow hw 90 rfl)) (mvT hZ (ow hw 91 rfl)) (notFace_of_selects (args := #[]) (mvT hZ (ow hw 93 rfl))) (mvT hZ (ow hw 93 rfl)) (mvT hZ (ow hw 92 rfl)) (by decide) (own_backOf (W := 1) (rx16_70 l Z a0 hw [] n0 h0 O0 G1 G3 w_NULL w_NUMBER w_NULL2 w_STRING GF b177 PF_b177_coder) hZ (ow hw 94 rfl) (ow hw 19 rfl) (by decide) (by decide)) q193a q193c (g := (mkF m 6 #[cr b177] [(.ref b177), (.int 2)])) rfl (by rw [hml]; rfl) (Steps.refl _) (argsL := []) (rest := [(.int 2)]) (lenOf pdx_11 rfl) rfl (by show 2 * 0 + _ ≤ _; exact Nat.le_of_eq rfl) (hb hby d15_6) (fun _ _ => ⟨rfl, e191, (by decide : 0 + 0 ≤ _), (by decide : 0 + 0 ≤ _)⟩)
 dsimp only [Pt.U, Pt.locs, Pt.cells, Pt.slots] at X193 l193 y193 z193 st193 hQ193
 subst l193 y193 z193
 obtain ⟨rfl, N193q, K193c⟩ := hQ193
 have N193 := Fr.app N0 N193q
 refine Ends.go (fun _ k => st193.trans k) ?_
 obtain ⟨h193, e193⟩ : ∃ z, T193.heap = z := ⟨_, rfl⟩
 rw [e193] at K193c
 have K193 := K0.trans K193c all0
 have O193 := O0.keep K193c all0
 refine .go (fun _ => XS.ishr X193.here hx rfl (hb hby d15_9) rfl) ?_
 refine Ends.ret X193 hx Bd.notSynchronized (t := .int) Bd.returns rfl (Or.inl ⟨rfl, by simp, _, rfl⟩) (hb hby d15_10) (by decide) (by decide) ?_
 rw [e193]
 exact ⟨rfl, N193, K193⟩

set_option maxRecDepth 65536 in
set_option maxHeartbeats 40000000 in
theorem rx19_198 (l : Launch) (Z : State) (a0 : Array Value) (hw : ∀ d ∈ tables_1, d.before a0 Z = true) (ws : List Jvm.Cond) (n0 : Nat) (h0 : Heap) (O0 : Old Z n0 h0) (G1 : Int32) (G3 : Value) (w_NULL : Addr) (w_NUMBER : Addr) (w_NULL2 : Addr) (w_STRING : Addr) (GF : GlobF Z a0 G1 G3 w_NULL w_NUMBER w_NULL2 w_STRING) (b179 : Addr) (k181 : ClassId) (p1 : Int32) (PV_b179 : Arv Z h0 b179 k181 .byte (2 : Int32) [(.int 45), (.int ((((48 : Int32) + ((p1 &&& (2147483647 : Int32)) % (10 : Int32))).toUInt32.toUInt16.toUInt32.toInt32).toInt8.toInt32))] (.int 0)) :
  Meets1 l ym16 jdk_43_method_2_code 2 (some .char) ws ({ frames := 2, cells := 0, slots := 0, locals := 27 } : Room) #[(.ref b179), (.int 0)] Z h0 (fun v h L => v = some (.int 45) ∧ Fr n0 L ∧ Keep h0 h []) := by
 refine MetFree.of_bodySF (plainFor_of_name pn19) hisR ?_
 intro p e s m args below meth c s₁ Bd hml0 hP hK
 obtain ⟨rfl, hZ, hh⟩ := hP
 have hx := Bd.exec
 have hby := Bd.bytes
 have hml : c.maxLocals = 2 := hml0
 have hown : s.vm.findClass "java/lang/StringLatin1" = some m.cls := findClass_of_methodNamed Bd.named
 have hnm := (name_of_methodNamed Bd.named Bd.method).1
 have X0 : Stand p l e ({ frames := 2, cells := 0, slots := 0, locals := 27 } : Room) s m #[(.ref b179), (.int 0)] below meth c s₁ [] 0 0 := Stand.of_body Bd
 have e0 : s₁.heap = h0 := by rw [← hh, Bd.state]; rfl
 have N0 := Fr.nil n0
 have Z0 := own_old_le O0
 show Ends _ _ _ _ s₁ (entryFrame m #[(.ref b179), (.int 0)] 2) ({ frames := 2, cells := 0, slots := 0, locals := 27 } : Room).cells ({ frames := 2, cells := 0, slots := 0, locals := 27 } : Room).slots (fun v h L => v = some (.int 45) ∧ Fr n0 L ∧ Keep h0 h [])
 refine Ends.go (fun _ k => castTop (ef19_ri m b179 (0 : Int32)) k) ?_
 obtain ⟨SCS, P5, SSF, RG3, HCST, HCW, S_NULL, E_NULL, S_NUMBER, E_NUMBER, F_ordinal_NULL, F_ordinal_NUMBER, S_NULL2, E_NULL2, F_kind_NULL2, S_STRING, E_STRING, F_ordinal_STRING⟩ := id GF
 have K0 := Keep.refl h0 []
 show Ends _ _ _ _ s₁ (mkF m 0 #[cr b179, ci 0] []) _ _ _
 refine wilN X0 hx hby d19_0 rfl ?_
 refine walN X0 hx hby d19_1 rfl rfl ?_
 obtain ⟨cl199, Ar199, q199, S199, M199, H199, G199⟩ := id PV_b179
 refine Ends.go (X0.arraylength hx (by rw [e0]; exact Ar199.1) (State.isArrayOf_alike hZ.alike Ar199.2.1) (g := (mkF m 2 #[cr b179, ci 0] [(.ref b179), (.int 0)])) rfl rfl (hb hby d19_2)) ?_
 rw [len_of S199 M199]
 show Ends _ _ _ _ s₁ (mkF m 3 #[cr b179, ci 0] [(.int 2), (.int 0)]) _ _ _
 obtain ⟨_, _, ⟨T200, L200, k200, n200⟩, -, X200, ⟨Lc200, hQ200, l200, y200, z200⟩, st200⟩ := Jvm.LawKit.callS X0 hx (y := ym1) hown (mvT hZ (ow hw 108 rfl)) (mvT hZ (ow hw 109 rfl)) (mvT hZ (ow hw 19 rfl)) (mvT hZ (ow hw 110 rfl)) (by decide) (own_backOf (W := 0) (rm_ci l Z a0 hw [] n0 h0 O0 (0 : Int32) (2 : Int32) G1 G3 w_NULL w_NUMBER w_NULL2 w_STRING GF (by decide) (by decide)) hZ (ow hw 110 rfl) (ow hw 19 rfl) (by decide) (by decide)) (g := (mkF m 3 #[cr b179, ci 0] [(.int 2), (.int 0)])) rfl (by rw [hml]; rfl) (argsL := [(.int 0), (.int 2)]) (rest := []) (lenOf pdx_13 rfl) rfl (by show 2 * 0 + _ ≤ _; exact Nat.le_of_eq rfl) (hb hby d19_3) (fun _ _ => ⟨rfl, e0, (by decide : 0 + 0 ≤ _), (by decide : 0 + 0 ≤ _)⟩)
 dsimp only [Pt.U, Pt.locs, Pt.cells, Pt.slots] at X200 l200 y200 z200 st200 hQ200
 subst l200 y200 z200
 obtain ⟨rfl, N200q, e200q⟩ := hQ200
 have N200 := Fr.app N0 N200q
 refine Ends.go st200 ?_
 refine walN X200 hx hby d19_6 rfl rfl ?_
 refine wilN X200 hx hby d19_7 rfl ?_
 obtain ⟨cl201, Ar201, q201, S201, M201, H201, G201⟩ := id PV_b179
 have hin201 := inb_of (j := (0 : Int32)) S201 ⟨by decide, by decide⟩
 refine Ends.go (X200.baloadBytes hx (j := (0 : Int32)) (v := (.int 45)) (by rw [e200q]; exact Ar201.1) (State.isArrayOf_alike hZ.alike Ar201.2.1) Ar201.2.2 hin201 (H201.at hin201 rfl) (g := (mkF m 8 #[cr b179, ci 0] [(.int 0), (.ref b179)])) rfl rfl (hb hby d19_8)) ?_
 show Ends _ _ _ _ T200 (mkF m 9 #[cr b179, ci 0] [(.int 45)]) _ _ _
 refine wsp X200 hx hby d19_9 ?_
 refine wan X200 hx hby d19_12 ?_
 refine .go (fun _ => XS.i2c X200.here hx rfl (hb hby d19_13) rfl) ?_
 refine Ends.retZ X200 hx Bd.notSynchronized (t := .char) Bd.returns (by simp) (hb hby d19_14) (by decide) (by decide) ?_
 rw [e200q]
 exact ⟨rfl, N200, K0⟩

set_option maxRecDepth 65536 in
set_option maxHeartbeats 40000000 in
theorem rx17_195 (l : Launch) (Z : State) (a0 : Array Value) (hw : ∀ d ∈ tables_1, d.before a0 Z = true) (ws : List Jvm.Cond) (n0 : Nat) (h0 : Heap) (O0 : Old Z n0 h0) (G1 : Int32) (G3 : Value) (w_NULL : Addr) (w_NUMBER : Addr) (w_NULL2 : Addr) (w_STRING : Addr) (GF : GlobF Z a0 G1 G3 w_NULL w_NUMBER w_NULL2 w_STRING) (b177 : Addr) (b179 : Addr) (k181 : ClassId) (p1 : Int32) (PF_b177_coder : Fld Z h0 b177 "java/lang/String" "coder" "B" (.int 0)) (PE_b177 : Exa Z h0 b177 "java/lang/String") (PF_b177_value : Fld Z h0 b177 "java/lang/String" "value" "[B" (.ref b179)) (PV_b179 : Arv Z h0 b179 k181 .byte (2 : Int32) [(.int 45), (.int ((((48 : Int32) + ((p1 &&& (2147483647 : Int32)) % (10 : Int32))).toUInt32.toUInt16.toUInt32.toInt32).toInt8.toInt32))] (.int 0)) :
  Meets1 l ym17 jdk_42_method_56_code 2 (some .char) ws ({ frames := 3, cells := 0, slots := 0, locals := 40 } : Room) #[(.ref b177), (.int 0)] Z h0 (fun v h L => v = some (.int 45) ∧ Fr n0 L ∧ Keep h0 h []) := by
 refine MetFree.of_bodySF (plainFor_of_name pn17) hisR ?_
 intro p e s m args below meth c s₁ Bd hml0 hP hK
 obtain ⟨rfl, hZ, hh⟩ := hP
 have hx := Bd.exec
 have hby := Bd.bytes
 have hml : c.maxLocals = 2 := hml0
 have hown : s.vm.findClass "java/lang/String" = some m.cls := findClass_of_methodNamed Bd.named
 have hnm := (name_of_methodNamed Bd.named Bd.method).1
 have X0 : Stand p l e ({ frames := 3, cells := 0, slots := 0, locals := 40 } : Room) s m #[(.ref b177), (.int 0)] below meth c s₁ [] 0 0 := Stand.of_body Bd
 have e0 : s₁.heap = h0 := by rw [← hh, Bd.state]; rfl
 have N0 := Fr.nil n0
 have Z0 := own_old_le O0
 show Ends _ _ _ _ s₁ (entryFrame m #[(.ref b177), (.int 0)] 2) ({ frames := 3, cells := 0, slots := 0, locals := 40 } : Room).cells ({ frames := 3, cells := 0, slots := 0, locals := 40 } : Room).slots (fun v h L => v = some (.int 45) ∧ Fr n0 L ∧ Keep h0 h [])
 refine Ends.go (fun _ k => castTop (ef17_ri m b177 (0 : Int32)) k) ?_
 obtain ⟨SCS, P5, SSF, RG3, HCST, HCW, S_NULL, E_NULL, S_NUMBER, E_NUMBER, F_ordinal_NULL, F_ordinal_NUMBER, S_NULL2, E_NULL2, F_kind_NULL2, S_STRING, E_STRING, F_ordinal_STRING⟩ := id GF
 have K0 := Keep.refl h0 []
 show Ends _ _ _ _ s₁ (mkF m 0 #[cr b177, ci 0] []) _ _ _
 refine walN X0 hx hby d17_0 rfl rfl ?_
 obtain ⟨cq196, kq196, q196a, q196b, q196c⟩ := isOf hZ e0 PE_b177
 obtain ⟨_, _, ⟨T196, L196, k196, n196⟩, -, X196, ⟨Lc196, hQ196, l196, y196, z196⟩, st196⟩ := X0.virtualBack hx (y := ym15) (z := ym15) hown (mvT hZ (ow hw 100 rfl)) (mvT hZ (ow hw 101 rfl)) (notFace_of_selects (args := #[]) (mvT hZ (ow hw 103 rfl))) (mvT hZ (ow hw 103 rfl)) (mvT hZ (ow hw 102 rfl)) (by decide) (own_backOf (W := 0) (rx18_76 l Z a0 hw [] n0 h0 O0 G1 G3 w_NULL w_NUMBER w_NULL2 w_STRING GF b177 PF_b177_coder) hZ (ow hw 104 rfl) (ow hw 19 rfl) (by decide) (by decide)) q196a q196c (g := (mkF m 1 #[cr b177, ci 0] [(.ref b177)])) rfl (by rw [hml]; rfl) (Steps.refl _) (argsL := []) (rest := []) (lenOf pdx_3 rfl) rfl (by show 2 * 0 + _ ≤ _; exact Nat.le_of_eq rfl) (hb hby d17_1) (fun _ _ => ⟨rfl, e0, (by decide : 0 + 0 ≤ _), (by decide : 0 + 0 ≤ _)⟩)
 dsimp only [Pt.U, Pt.locs, Pt.cells, Pt.slots] at X196 l196 y196 z196 st196 hQ196
 subst l196 y196 z196
 obtain ⟨rfl, N196q, K196c⟩ := hQ196
 have N196 := Fr.app N0 N196q
 refine Ends.go (fun _ k => st196.trans k) ?_
 obtain ⟨h196, e196⟩ : ∃ z, T196.heap = z := ⟨_, rfl⟩
 rw [e196] at K196c
 have K196 := K0.trans K196c all0
 have O196 := O0.keep K196c all0
 refine win X196 hx hby d17_4 ((if0 _ _).trans (feq (by decide : ¬ ((1 : Int32) = (0 : Int32)))).1) ?_
 show Ends _ _ _ _ T196 (mkF m 7 #[cr b177, ci 0] []) _ _ _
 refine walN X196 hx hby d17_7 rfl rfl ?_
 obtain ⟨T197, X197, e197, st197⟩ := getF X196 hx hZ hown (host := "") (Or.inl (ow hw 76 rfl)) Via.refl e196 (PF_b177_value.keep K196c nin0) (g := (mkF m 8 #[cr b177, ci 0] [(.ref b177)])) rfl rfl (hb hby d17_8)
 refine Ends.go st197 ?_
 refine wilN X197 hx hby d17_11 rfl ?_
 obtain ⟨_, _, ⟨T202, L202, k202, n202⟩, -, X202, ⟨Lc202, hQ202, l202, y202, z202⟩, st202⟩ := Jvm.LawKit.callS X197 hx (y := ym16) hown (mvT hZ (ow hw 105 rfl)) (mvT hZ (ow hw 106 rfl)) (mvT hZ (ow hw 65 rfl)) (mvT hZ (ow hw 107 rfl)) (by decide) (own_backOf (W := 0) (rx19_198 l Z a0 hw [] n0 h196 O196 G1 G3 w_NULL w_NUMBER w_NULL2 w_STRING GF b179 k181 p1 (PV_b179.keep K196c nin0)) hZ (ow hw 107 rfl) (ow hw 65 rfl) (by decide) (by decide)) (g := (mkF m 12 #[cr b177, ci 0] [(.int 0), (.ref b179)])) rfl (by rw [hml]; rfl) (argsL := [(.ref b179), (.int 0)]) (rest := []) (lenOf pdx_14 rfl) rfl (by show 2 * 0 + _ ≤ _; exact Nat.le_of_eq rfl) (hb hby d17_12) (fun _ _ => ⟨rfl, e197, (by decide : 0 + 0 ≤ _), (by decide : 0 + 0 ≤ _)⟩)
 dsimp only [Pt.U, Pt.locs, Pt.cells, Pt.slots] at X202 l202 y202 z202 st202 hQ202
 subst l202 y202 z202
 obtain ⟨rfl, N202q, K202c⟩ := hQ202
 have N202 := Fr.app N196 N202q
 refine Ends.go st202 ?_
 obtain ⟨h202, e202⟩ : ∃ z, T202.heap = z := ⟨_, rfl⟩
 rw [e202] at K202c
 have K202 := K196.trans K202c all0
 have O202 := O196.keep K202c all0
 show Ends _ _ _ _ T202 (mkF m 15 #[cr b177, ci 0] [(.int 45)]) _ _ _
 refine Ends.retZ X202 hx Bd.notSynchronized (t := .char) Bd.returns (by simp) (hb hby d17_15) (by decide) (by decide) ?_
 rw [e202]
 exact ⟨rfl, N202, K202⟩

set_option maxRecDepth 65536 in
set_option maxHeartbeats 40000000 in
theorem rx19_208 (l : Launch) (Z : State) (a0 : Array Value) (hw : ∀ d ∈ tables_1, d.before a0 Z = true) (ws : List Jvm.Cond) (n0 : Nat) (h0 : Heap) (O0 : Old Z n0 h0) (G1 : Int32) (G3 : Value) (w_NULL : Addr) (w_NUMBER : Addr) (w_NULL2 : Addr) (w_STRING : Addr) (GF : GlobF Z a0 G1 G3 w_NULL w_NUMBER w_NULL2 w_STRING) (b179 : Addr) (k181 : ClassId) (p1 : Int32) (PV_b179 : Arv Z h0 b179 k181 .byte (2 : Int32) [(.int 45), (.int ((((48 : Int32) + ((p1 &&& (2147483647 : Int32)) % (10 : Int32))).toUInt32.toUInt16.toUInt32.toInt32).toInt8.toInt32))] (.int 0)) (hDG : own_dig (((48 : Int32) + ((p1 &&& (2147483647 : Int32)) % (10 : Int32))).toUInt32.toUInt16.toUInt32.toInt32)) :
  Meets1 l ym16 jdk_43_method_2_code 2 (some .char) ws ({ frames := 2, cells := 0, slots := 0, locals := 27 } : Room) #[(.ref b179), (.int 1)] Z h0 (fun v h L => v = some (.int (((48 : Int32) + ((p1 &&& (2147483647 : Int32)) % (10 : Int32))).toUInt32.toUInt16.toUInt32.toInt32)) ∧ Fr n0 L ∧ Keep h0 h []) := by
 refine MetFree.of_bodySF (plainFor_of_name pn19) hisR ?_
 intro p e s m args below meth c s₁ Bd hml0 hP hK
 obtain ⟨rfl, hZ, hh⟩ := hP
 have hx := Bd.exec
 have hby := Bd.bytes
 have hml : c.maxLocals = 2 := hml0
 have hown : s.vm.findClass "java/lang/StringLatin1" = some m.cls := findClass_of_methodNamed Bd.named
 have hnm := (name_of_methodNamed Bd.named Bd.method).1
 have X0 : Stand p l e ({ frames := 2, cells := 0, slots := 0, locals := 27 } : Room) s m #[(.ref b179), (.int 1)] below meth c s₁ [] 0 0 := Stand.of_body Bd
 have e0 : s₁.heap = h0 := by rw [← hh, Bd.state]; rfl
 have N0 := Fr.nil n0
 have Z0 := own_old_le O0
 show Ends _ _ _ _ s₁ (entryFrame m #[(.ref b179), (.int 1)] 2) ({ frames := 2, cells := 0, slots := 0, locals := 27 } : Room).cells ({ frames := 2, cells := 0, slots := 0, locals := 27 } : Room).slots (fun v h L => v = some (.int (((48 : Int32) + ((p1 &&& (2147483647 : Int32)) % (10 : Int32))).toUInt32.toUInt16.toUInt32.toInt32)) ∧ Fr n0 L ∧ Keep h0 h [])
 refine Ends.go (fun _ k => castTop (ef19_ri m b179 (1 : Int32)) k) ?_
 obtain ⟨SCS, P5, SSF, RG3, HCST, HCW, S_NULL, E_NULL, S_NUMBER, E_NUMBER, F_ordinal_NULL, F_ordinal_NUMBER, S_NULL2, E_NULL2, F_kind_NULL2, S_STRING, E_STRING, F_ordinal_STRING⟩ := id GF
 have K0 := Keep.refl h0 []
 show Ends _ _ _ _ s₁ (mkF m 0 #[cr b179, ci 1] []) _ _ _
 refine wilN X0 hx hby d19_0 rfl ?_
 refine walN X0 hx hby d19_1 rfl rfl ?_
 obtain ⟨cl209, Ar209, q209, S209, M209, H209, G209⟩ := id PV_b179
 refine Ends.go (X0.arraylength hx (by rw [e0]; exact Ar209.1) (State.isArrayOf_alike hZ.alike Ar209.2.1) (g := (mkF m 2 #[cr b179, ci 1] [(.ref b179), (.int 1)])) rfl rfl (hb hby d19_2)) ?_
 rw [len_of S209 M209]
 show Ends _ _ _ _ s₁ (mkF m 3 #[cr b179, ci 1] [(.int 2), (.int 1)]) _ _ _
 obtain ⟨_, _, ⟨T210, L210, k210, n210⟩, -, X210, ⟨Lc210, hQ210, l210, y210, z210⟩, st210⟩ := Jvm.LawKit.callS X0 hx (y := ym1) hown (mvT hZ (ow hw 108 rfl)) (mvT hZ (ow hw 109 rfl)) (mvT hZ (ow hw 19 rfl)) (mvT hZ (ow hw 110 rfl)) (by decide) (own_backOf (W := 0) (rm_ci l Z a0 hw [] n0 h0 O0 (1 : Int32) (2 : Int32) G1 G3 w_NULL w_NUMBER w_NULL2 w_STRING GF (by decide) (by decide)) hZ (ow hw 110 rfl) (ow hw 19 rfl) (by decide) (by decide)) (g := (mkF m 3 #[cr b179, ci 1] [(.int 2), (.int 1)])) rfl (by rw [hml]; rfl) (argsL := [(.int 1), (.int 2)]) (rest := []) (lenOf pdx_13 rfl) rfl (by show 2 * 0 + _ ≤ _; exact Nat.le_of_eq rfl) (hb hby d19_3) (fun _ _ => ⟨rfl, e0, (by decide : 0 + 0 ≤ _), (by decide : 0 + 0 ≤ _)⟩)
 dsimp only [Pt.U, Pt.locs, Pt.cells, Pt.slots] at X210 l210 y210 z210 st210 hQ210
 subst l210 y210 z210
 obtain ⟨rfl, N210q, e210q⟩ := hQ210
 have N210 := Fr.app N0 N210q
 refine Ends.go st210 ?_
 refine walN X210 hx hby d19_6 rfl rfl ?_
 refine wilN X210 hx hby d19_7 rfl ?_
 obtain ⟨cl211, Ar211, q211, S211, M211, H211, G211⟩ := id PV_b179
 have hin211 := inb_of (j := (1 : Int32)) S211 ⟨by decide, by decide⟩
 refine Ends.go (X210.baloadBytes hx (j := (1 : Int32)) (v := (.int ((((48 : Int32) + ((p1 &&& (2147483647 : Int32)) % (10 : Int32))).toUInt32.toUInt16.toUInt32.toInt32).toInt8.toInt32))) (by rw [e210q]; exact Ar211.1) (State.isArrayOf_alike hZ.alike Ar211.2.1) Ar211.2.2 hin211 (H211.at hin211 rfl) (g := (mkF m 8 #[cr b179, ci 1] [(.int 1), (.ref b179)])) rfl rfl (hb hby d19_8)) ?_
 show Ends _ _ _ _ T210 (mkF m 9 #[cr b179, ci 1] [(.int ((((48 : Int32) + ((p1 &&& (2147483647 : Int32)) % (10 : Int32))).toUInt32.toUInt16.toUInt32.toInt32).toInt8.toInt32))]) _ _ _
 refine wsp X210 hx hby d19_9 ?_
 refine wan X210 hx hby d19_12 ?_
 refine .go (fun _ => XS.i2c X210.here hx rfl (hb hby d19_13) rfl) ?_
 refine Ends.retZ X210 hx Bd.notSynchronized (t := .char) Bd.returns (by simp) (hb hby d19_14) (by decide) (by decide) ?_
 rw [e210q]
 exact ⟨(congrArg (fun z => some (Value.int z)) (own_l1d hDG)), N210, K0⟩

set_option maxRecDepth 65536 in
set_option maxHeartbeats 40000000 in
theorem rx17_205 (l : Launch) (Z : State) (a0 : Array Value) (hw : ∀ d ∈ tables_1, d.before a0 Z = true) (ws : List Jvm.Cond) (n0 : Nat) (h0 : Heap) (O0 : Old Z n0 h0) (G1 : Int32) (G3 : Value) (w_NULL : Addr) (w_NUMBER : Addr) (w_NULL2 : Addr) (w_STRING : Addr) (GF : GlobF Z a0 G1 G3 w_NULL w_NUMBER w_NULL2 w_STRING) (b177 : Addr) (b179 : Addr) (k181 : ClassId) (p1 : Int32) (PF_b177_coder : Fld Z h0 b177 "java/lang/String" "coder" "B" (.int 0)) (PE_b177 : Exa Z h0 b177 "java/lang/String") (PF_b177_value : Fld Z h0 b177 "java/lang/String" "value" "[B" (.ref b179)) (PV_b179 : Arv Z h0 b179 k181 .byte (2 : Int32) [(.int 45), (.int ((((48 : Int32) + ((p1 &&& (2147483647 : Int32)) % (10 : Int32))).toUInt32.toUInt16.toUInt32.toInt32).toInt8.toInt32))] (.int 0)) (hDG : own_dig (((48 : Int32) + ((p1 &&& (2147483647 : Int32)) % (10 : Int32))).toUInt32.toUInt16.toUInt32.toInt32)) :
  Meets1 l ym17 jdk_42_method_56_code 2 (some .char) ws ({ frames := 3, cells := 0, slots := 0, locals := 40 } : Room) #[(.ref b177), (.int 1)] Z h0 (fun v h L => v = some (.int (((48 : Int32) + ((p1 &&& (2147483647 : Int32)) % (10 : Int32))).toUInt32.toUInt16.toUInt32.toInt32)) ∧ Fr n0 L ∧ Keep h0 h []) := by
 refine MetFree.of_bodySF (plainFor_of_name pn17) hisR ?_
 intro p e s m args below meth c s₁ Bd hml0 hP hK
 obtain ⟨rfl, hZ, hh⟩ := hP
 have hx := Bd.exec
 have hby := Bd.bytes
 have hml : c.maxLocals = 2 := hml0
 have hown : s.vm.findClass "java/lang/String" = some m.cls := findClass_of_methodNamed Bd.named
 have hnm := (name_of_methodNamed Bd.named Bd.method).1
 have X0 : Stand p l e ({ frames := 3, cells := 0, slots := 0, locals := 40 } : Room) s m #[(.ref b177), (.int 1)] below meth c s₁ [] 0 0 := Stand.of_body Bd
 have e0 : s₁.heap = h0 := by rw [← hh, Bd.state]; rfl
 have N0 := Fr.nil n0
 have Z0 := own_old_le O0
 show Ends _ _ _ _ s₁ (entryFrame m #[(.ref b177), (.int 1)] 2) ({ frames := 3, cells := 0, slots := 0, locals := 40 } : Room).cells ({ frames := 3, cells := 0, slots := 0, locals := 40 } : Room).slots (fun v h L => v = some (.int (((48 : Int32) + ((p1 &&& (2147483647 : Int32)) % (10 : Int32))).toUInt32.toUInt16.toUInt32.toInt32)) ∧ Fr n0 L ∧ Keep h0 h [])
 refine Ends.go (fun _ k => castTop (ef17_ri m b177 (1 : Int32)) k) ?_
 obtain ⟨SCS, P5, SSF, RG3, HCST, HCW, S_NULL, E_NULL, S_NUMBER, E_NUMBER, F_ordinal_NULL, F_ordinal_NUMBER, S_NULL2, E_NULL2, F_kind_NULL2, S_STRING, E_STRING, F_ordinal_STRING⟩ := id GF
 have K0 := Keep.refl h0 []
 show Ends _ _ _ _ s₁ (mkF m 0 #[cr b177, ci 1] []) _ _ _
 refine walN X0 hx hby d17_0 rfl rfl ?_
 obtain ⟨cq206, kq206, q206a, q206b, q206c⟩ := isOf hZ e0 PE_b177
 obtain ⟨_, _, ⟨T206, L206, k206, n206⟩, -, X206, ⟨Lc206, hQ206, l206, y206, z206⟩, st206⟩ := X0.virtualBack hx (y := ym15) (z := ym15) hown (mvT hZ (ow hw 100 rfl)) (mvT hZ (ow hw 101 rfl)) (notFace_of_selects (args := #[]) (mvT hZ (ow hw 103 rfl))) (mvT hZ (ow hw 103 rfl)) (mvT hZ (ow hw 102 rfl)) (by decide) (own_backOf (W := 0) (rx18_76 l Z a0 hw [] n0 h0 O0 G1 G3 w_NULL w_NUMBER w_NULL2 w_STRING GF b177 PF_b177_coder) hZ (ow hw 104 rfl) (ow hw 19 rfl) (by decide) (by decide)) q206a q206c (g := (mkF m 1 #[cr b177, ci 1] [(.ref b177)])) rfl (by rw [hml]; rfl) (Steps.refl _) (argsL := []) (rest := []) (lenOf pdx_3 rfl) rfl (by show 2 * 0 + _ ≤ _; exact Nat.le_of_eq rfl) (hb hby d17_1) (fun _ _ => ⟨rfl, e0, (by decide : 0 + 0 ≤ _), (by decide : 0 + 0 ≤ _)⟩)
 dsimp only [Pt.U, Pt.locs, Pt.cells, Pt.slots] at X206 l206 y206 z206 st206 hQ206
 subst l206 y206 z206
 obtain ⟨rfl, N206q, K206c⟩ := hQ206
 have N206 := Fr.app N0 N206q
 refine Ends.go (fun _ k => st206.trans k) ?_
 obtain ⟨h206, e206⟩ : ∃ z, T206.heap = z := ⟨_, rfl⟩
 rw [e206] at K206c
 have K206 := K0.trans K206c all0
 have O206 := O0.keep K206c all0
 refine win X206 hx hby d17_4 ((if0 _ _).trans (feq (by decide : ¬ ((1 : Int32) = (0 : Int32)))).1) ?_
 show Ends _ _ _ _ T206 (mkF m 7 #[cr b177, ci 1] []) _ _ _
 refine walN X206 hx hby d17_7 rfl rfl ?_
 obtain ⟨T207, X207, e207, st207⟩ := getF X206 hx hZ hown (host := "") (Or.inl (ow hw 76 rfl)) Via.refl e206 (PF_b177_value.keep K206c nin0) (g := (mkF m 8 #[cr b177, ci 1] [(.ref b177)])) rfl rfl (hb hby d17_8)
 refine Ends.go st207 ?_
 refine wilN X207 hx hby d17_11 rfl ?_
 obtain ⟨_, _, ⟨T212, L212, k212, n212⟩, -, X212, ⟨Lc212, hQ212, l212, y212, z212⟩, st212⟩ := Jvm.LawKit.callS X207 hx (y := ym16) hown (mvT hZ (ow hw 105 rfl)) (mvT hZ (ow hw 106 rfl)) (mvT hZ (ow hw 65 rfl)) (mvT hZ (ow hw 107 rfl)) (by decide) (own_backOf (W := 0) (rx19_208 l Z a0 hw [] n0 h206 O206 G1 G3 w_NULL w_NUMBER w_NULL2 w_STRING GF b179 k181 p1 (PV_b179.keep K206c nin0) hDG) hZ (ow hw 107 rfl) (ow hw 65 rfl) (by decide) (by decide)) (g := (mkF m 12 #[cr b177, ci 1] [(.int 1), (.ref b179)])) rfl (by rw [hml]; rfl) (argsL := [(.ref b179), (.int 1)]) (rest := []) (lenOf pdx_14 rfl) rfl (by show 2 * 0 + _ ≤ _; exact Nat.le_of_eq rfl) (hb hby d17_12) (fun _ _ => ⟨rfl, e207, (by decide : 0 + 0 ≤ _), (by decide : 0 + 0 ≤ _)⟩)
 dsimp only [Pt.U, Pt.locs, Pt.cells, Pt.slots] at X212 l212 y212 z212 st212 hQ212
 subst l212 y212 z212
 obtain ⟨rfl, N212q, K212c⟩ := hQ212
 have N212 := Fr.app N206 N212q
 refine Ends.go st212 ?_
 obtain ⟨h212, e212⟩ : ∃ z, T212.heap = z := ⟨_, rfl⟩
 rw [e212] at K212c
 have K212 := K206.trans K212c all0
 have O212 := O206.keep K212c all0
 show Ends _ _ _ _ T212 (mkF m 15 #[cr b177, ci 1] [(.int (((48 : Int32) + ((p1 &&& (2147483647 : Int32)) % (10 : Int32))).toUInt32.toUInt16.toUInt32.toInt32))]) _ _ _
 refine Ends.retZ X212 hx Bd.notSynchronized (t := .char) Bd.returns (by simp) (hb hby d17_15) (by decide) (by decide) ?_
 rw [e212]
 exact ⟨(congrArg (fun z => some (Value.int z)) own_narcc), N212, K212⟩

theorem d14_20 : decode prog_10_method_4_code 20 = .ok (.iinc 1 1, 3) := by decide +kernel
set_option maxRecDepth 65536 in
set_option maxHeartbeats 40000000 in
theorem rx14_189 (l : Launch) (Z : State) (a0 : Array Value) (hw : ∀ d ∈ tables_1, d.before a0 Z = true) (ws : List Jvm.Cond) (n0 : Nat) (h0 : Heap) (O0 : Old Z n0 h0) (G1 : Int32) (G3 : Value) (w_NULL : Addr) (w_NUMBER : Addr) (w_NULL2 : Addr) (w_STRING : Addr) (GF : GlobF Z a0 G1 G3 w_NULL w_NUMBER w_NULL2 w_STRING) (b177 : Addr) (b179 : Addr) (k181 : ClassId) (p1 : Int32) (PF_b177_value : Fld Z h0 b177 "java/lang/String" "value" "[B" (.ref b179)) (PV_b179 : Arv Z h0 b179 k181 .byte (2 : Int32) [(.int 45), (.int ((((48 : Int32) + ((p1 &&& (2147483647 : Int32)) % (10 : Int32))).toUInt32.toUInt16.toUInt32.toInt32).toInt8.toInt32))] (.int 0)) (PF_b177_coder : Fld Z h0 b177 "java/lang/String" "coder" "B" (.int 0)) (PE_b177 : Exa Z h0 b177 "java/lang/String") (hDG : own_dig (((48 : Int32) + ((p1 &&& (2147483647 : Int32)) % (10 : Int32))).toUInt32.toUInt16.toUInt32.toInt32)) (hd48_ : (((48 : Int32) + ((p1 &&& (2147483647 : Int32)) % (10 : Int32))).toUInt32.toUInt16.toUInt32.toInt32) = (48 : Int32)) :
  Meets1 l ym18 prog_10_method_4_code 2 (some .int) ws ({ frames := 4, cells := 0, slots := 0, locals := 53 } : Room) #[(.ref b177)] Z h0 (fun v h L => v = some (.int 2) ∧ Fr n0 L ∧ Keep h0 h []) := by
 refine MetFree.of_bodySF (plainFor_of_name pn14) hisR ?_
 intro p e s m args below meth c s₁ Bd hml0 hP hK
 obtain ⟨rfl, hZ, hh⟩ := hP
 have hx := Bd.exec
 have hby := Bd.bytes
 have hml : c.maxLocals = 2 := hml0
 have hown : s.vm.findClass "com/example/wakeline/wakeline/event/NumberSyntax" = some m.cls := findClass_of_methodNamed Bd.named
 have hnm := (name_of_methodNamed Bd.named Bd.method).1
 have X0 : Stand p l e ({ frames := 4, cells := 0, slots := 0, locals := 53 } : Room) s m #[(.ref b177)] below meth c s₁ [] 0 0 := Stand.of_body Bd
 have e0 : s₁.heap = h0 := by rw [← hh, Bd.state]; rfl
 have N0 := Fr.nil n0
 have Z0 := own_old_le O0
 show Ends _ _ _ _ s₁ (entryFrame m #[(.ref b177)] 2) ({ frames := 4, cells := 0, slots := 0, locals := 53 } : Room).cells ({ frames := 4, cells := 0, slots := 0, locals := 53 } : Room).slots (fun v h L => v = some (.int 2) ∧ Fr n0 L ∧ Keep h0 h [])
 refine Ends.go (fun _ k => castTop (ef14_r m b177) k) ?_
 obtain ⟨SCS, P5, SSF, RG3, HCST, HCW, S_NULL, E_NULL, S_NUMBER, E_NUMBER, F_ordinal_NULL, F_ordinal_NUMBER, S_NULL2, E_NULL2, F_kind_NULL2, S_STRING, E_STRING, F_ordinal_STRING⟩ := id GF
 have K0 := Keep.refl h0 []
 show Ends _ _ _ _ s₁ (mkF m 0 #[cr b177, cu] []) _ _ _
 refine wic X0 hx hby d14_0 ?_
 refine wstN X0 hx hby d14_1 (l' := #[cr b177, ci 0]) rfl ?_
 refine wilN X0 hx hby d14_2 rfl ?_
 show Ends _ _ _ _ s₁ (mkF m 3 #[cr b177, ci 0] [(.int 0)]) _ _ _
 refine walN X0 hx hby d14_3 rfl rfl ?_
 obtain ⟨cq194, kq194, q194a, q194b, q194c⟩ := isOf hZ e0 PE_b177
 obtain ⟨_, _, ⟨T194, L194, k194, n194⟩, -, X194, ⟨Lc194, hQ194, l194, y194, z194⟩, st194⟩ := X0.virtualBack hx (y := ym14) (z := ym14) hown (mvT hZ (ow hw 85 rfl)) (mvT hZ (ow hw 86 rfl)) (notFace_of_selects (args := #[]) (mvT hZ (ow hw 88 rfl))) (mvT hZ (ow hw 88 rfl)) (mvT hZ (ow hw 87 rfl)) (by decide) (own_backOf (W := 1) (rx15_190 l Z a0 hw [] n0 h0 O0 G1 G3 w_NULL w_NUMBER w_NULL2 w_STRING GF b177 b179 k181 p1 PF_b177_value PV_b179 PF_b177_coder PE_b177) hZ (ow hw 89 rfl) (ow hw 19 rfl) (by decide) (by decide)) q194a q194c (g := (mkF m 4 #[cr b177, ci 0] [(.ref b177), (.int 0)])) rfl (by rw [hml]; rfl) (Steps.refl _) (argsL := []) (rest := [(.int 0)]) (lenOf pdx_12 rfl) rfl (by show 2 * 0 + _ ≤ _; exact Nat.le_of_eq rfl) (hb hby d14_4) (fun _ _ => ⟨rfl, e0, (by decide : 0 + 0 ≤ _), (by decide : 0 + 0 ≤ _)⟩)
 dsimp only [Pt.U, Pt.locs, Pt.cells, Pt.slots] at X194 l194 y194 z194 st194 hQ194
 subst l194 y194 z194
 obtain ⟨rfl, N194q, K194c⟩ := hQ194
 have N194 := Fr.app N0 N194q
 refine Ends.go (fun _ k => st194.trans k) ?_
 obtain ⟨h194, e194⟩ : ∃ z, T194.heap = z := ⟨_, rfl⟩
 rw [e194] at K194c
 have K194 := K0.trans K194c all0
 have O194 := O0.keep K194c all0
 refine wcn X194 hx hby d14_7 (tlt (by decide : (0 : Int32) < (2 : Int32))).2.1 ?_
 refine walN X194 hx hby d14_10 rfl rfl ?_
 show Ends _ _ _ _ T194 (mkF m 11 #[cr b177, ci 0] [(.ref b177)]) _ _ _
 refine wilN X194 hx hby d14_11 rfl ?_
 obtain ⟨cq203, kq203, q203a, q203b, q203c⟩ := isOf hZ e194 (PE_b177.keep K194c)
 obtain ⟨_, _, ⟨T203, L203, k203, n203⟩, -, X203, ⟨Lc203, hQ203, l203, y203, z203⟩, st203⟩ := X194.virtualBack hx (y := ym17) (z := ym17) hown (mvT hZ (ow hw 95 rfl)) (mvT hZ (ow hw 96 rfl)) (notFace_of_selects (args := #[]) (mvT hZ (ow hw 98 rfl))) (mvT hZ (ow hw 98 rfl)) (mvT hZ (ow hw 97 rfl)) (by decide) (own_backOf (W := 0) (rx17_195 l Z a0 hw [] n0 h194 O194 G1 G3 w_NULL w_NUMBER w_NULL2 w_STRING GF b177 b179 k181 p1 (PF_b177_coder.keep K194c nin0) (PE_b177.keep K194c) (PF_b177_value.keep K194c nin0) (PV_b179.keep K194c nin0)) hZ (ow hw 99 rfl) (ow hw 19 rfl) (by decide) (by decide)) q203a q203c (g := (mkF m 12 #[cr b177, ci 0] [(.int 0), (.ref b177)])) rfl (by rw [hml]; rfl) (Steps.refl _) (argsL := [(.int 0)]) (rest := []) (lenOf pdx_15 rfl) rfl (by show 2 * 0 + _ ≤ _; exact Nat.le_of_eq rfl) (hb hby d14_12) (fun _ _ => ⟨rfl, e194, (by decide : 0 + 0 ≤ _), (by decide : 0 + 0 ≤ _)⟩)
 dsimp only [Pt.U, Pt.locs, Pt.cells, Pt.slots] at X203 l203 y203 z203 st203 hQ203
 subst l203 y203 z203
 obtain ⟨rfl, N203q, K203c⟩ := hQ203
 have N203 := Fr.app N194 N203q
 refine Ends.go (fun _ k => st203.trans k) ?_
 obtain ⟨h203, e203⟩ : ∃ z, T203.heap = z := ⟨_, rfl⟩
 rw [e203] at K203c
 have K203 := K194.trans K203c all0
 have O203 := O194.keep K203c all0
 refine wbp X203 hx hby d14_15 ?_
 refine wcn X203 hx hby d14_17 (teq (by decide : (45 : Int32) = (45 : Int32))).2 ?_
 show Ends _ _ _ _ T203 (mkF m 20 #[cr b177, ci 0] []) _ _ _
 refine wii X203 hx hby d14_20 (l' := #[cr b177, ci 1]) rfl rfl ?_
 refine wilN X203 hx hby d14_23 rfl ?_
 refine walN X203 hx hby d14_24 rfl rfl ?_
 obtain ⟨cq204, kq204, q204a, q204b, q204c⟩ := isOf hZ e203 ((PE_b177.keep K194c).keep K203c)
 obtain ⟨_, _, ⟨T204, L204, k204, n204⟩, -, X204, ⟨Lc204, hQ204, l204, y204, z204⟩, st204⟩ := X203.virtualBack hx (y := ym14) (z := ym14) hown (mvT hZ (ow hw 85 rfl)) (mvT hZ (ow hw 86 rfl)) (notFace_of_selects (args := #[]) (mvT hZ (ow hw 88 rfl))) (mvT hZ (ow hw 88 rfl)) (mvT hZ (ow hw 87 rfl)) (by decide) (own_backOf (W := 1) (rx15_190 l Z a0 hw [] n0 h203 O203 G1 G3 w_NULL w_NUMBER w_NULL2 w_STRING GF b177 b179 k181 p1 ((PF_b177_value.keep K194c nin0).keep K203c nin0) ((PV_b179.keep K194c nin0).keep K203c nin0) ((PF_b177_coder.keep K194c nin0).keep K203c nin0) ((PE_b177.keep K194c).keep K203c)) hZ (ow hw 89 rfl) (ow hw 19 rfl) (by decide) (by decide)) q204a q204c (g := (mkF m 25 #[cr b177, ci 1] [(.ref b177), (.int 1)])) rfl (by rw [hml]; rfl) (Steps.refl _) (argsL := []) (rest := [(.int 1)]) (lenOf pdx_12 rfl) rfl (by show 2 * 0 + _ ≤ _; exact Nat.le_of_eq rfl) (hb hby d14_25) (fun _ _ => ⟨rfl, e203, (by decide : 0 + 0 ≤ _), (by decide : 0 + 0 ≤ _)⟩)
 dsimp only [Pt.U, Pt.locs, Pt.cells, Pt.slots] at X204 l204 y204 z204 st204 hQ204
 subst l204 y204 z204
 obtain ⟨rfl, N204q, K204c⟩ := hQ204
 have N204 := Fr.app N203 N204q
 refine Ends.go (fun _ k => st204.trans k) ?_
 obtain ⟨h204, e204⟩ : ∃ z, T204.heap = z := ⟨_, rfl⟩
 rw [e204] at K204c
 have K204 := K203.trans K204c all0
 have O204 := O203.keep K204c all0
 show Ends _ _ _ _ T204 (mkF m 28 #[cr b177, ci 1] [(.int 2), (.int 1)]) _ _ _
 refine wcn X204 hx hby d14_28 (tlt (by decide : (1 : Int32) < (2 : Int32))).2.1 ?_
 refine walN X204 hx hby d14_31 rfl rfl ?_
 refine wilN X204 hx hby d14_32 rfl ?_
 obtain ⟨cq213, kq213, q213a, q213b, q213c⟩ := isOf hZ e204 (((PE_b177.keep K194c).keep K203c).keep K204c)
 obtain ⟨_, _, ⟨T213, L213, k213, n213⟩, -, X213, ⟨Lc213, hQ213, l213, y213, z213⟩, st213⟩ := X204.virtualBack hx (y := ym17) (z := ym17) hown (mvT hZ (ow hw 95 rfl)) (mvT hZ (ow hw 96 rfl)) (notFace_of_selects (args := #[]) (mvT hZ (ow hw 98 rfl))) (mvT hZ (ow hw 98 rfl)) (mvT hZ (ow hw 97 rfl)) (by decide) (own_backOf (W := 0) (rx17_205 l Z a0 hw [] n0 h204 O204 G1 G3 w_NULL w_NUMBER w_NULL2 w_STRING GF b177 b179 k181 p1 (((PF_b177_coder.keep K194c nin0).keep K203c nin0).keep K204c nin0) (((PE_b177.keep K194c).keep K203c).keep K204c) (((PF_b177_value.keep K194c nin0).keep K203c nin0).keep K204c nin0) (((PV_b179.keep K194c nin0).keep K203c nin0).keep K204c nin0) hDG) hZ (ow hw 99 rfl) (ow hw 19 rfl) (by decide) (by decide)) q213a q213c (g := (mkF m 33 #[cr b177, ci 1] [(.int 1), (.ref b177)])) rfl (by rw [hml]; rfl) (Steps.refl _) (argsL := [(.int 1)]) (rest := []) (lenOf pdx_15 rfl) rfl (by show 2 * 0 + _ ≤ _; exact Nat.le_of_eq rfl) (hb hby d14_33) (fun _ _ => ⟨rfl, e204, (by decide : 0 + 0 ≤ _), (by decide : 0 + 0 ≤ _)⟩)
 dsimp only [Pt.U, Pt.locs, Pt.cells, Pt.slots] at X213 l213 y213 z213 st213 hQ213
 subst l213 y213 z213
 obtain ⟨rfl, N213q, K213c⟩ := hQ213
 have N213 := Fr.app N204 N213q
 refine Ends.go (fun _ k => st213.trans k) ?_
 obtain ⟨h213, e213⟩ : ∃ z, T213.heap = z := ⟨_, rfl⟩
 rw [e213] at K213c
 have K213 := K204.trans K213c all0
 have O213 := O204.keep K213c all0
 show Ends _ _ _ _ T213 (mkF m 36 #[cr b177, ci 1] [(.int (((48 : Int32) + ((p1 &&& (2147483647 : Int32)) % (10 : Int32))).toUInt32.toUInt16.toUInt32.toInt32))]) _ _ _
 refine wbp X213 hx hby d14_36 ?_
 refine wcn X213 hx hby d14_38 (teq (hd48_ : (((48 : Int32) + ((p1 &&& (2147483647 : Int32)) % (10 : Int32))).toUInt32.toUInt16.toUInt32.toInt32) = (48 : Int32))).2 ?_
 refine wilN X213 hx hby d14_41 rfl ?_
 refine wic X213 hx hby d14_42 ?_
 show Ends _ _ _ _ T213 (mkF m 43 #[cr b177, ci 1] [(.int 1), (.int 1)]) _ _ _
 refine wia X213 hx hby d14_43 ?_
 refine Ends.ret X213 hx Bd.notSynchronized (t := .int) Bd.returns rfl (Or.inl ⟨rfl, by simp, _, rfl⟩) (hb hby d14_44) (by decide) (by decide) ?_
 rw [e213]
 exact ⟨rfl, N213, K213⟩

set_option maxRecDepth 65536 in
set_option maxHeartbeats 40000000 in
theorem rx13_188 (l : Launch) (Z : State) (a0 : Array Value) (hw : ∀ d ∈ tables_1, d.before a0 Z = true) (ws : List Jvm.Cond) (n0 : Nat) (h0 : Heap) (O0 : Old Z n0 h0) (G1 : Int32) (G3 : Value) (w_NULL : Addr) (w_NUMBER : Addr) (w_NULL2 : Addr) (w_STRING : Addr) (GF : GlobF Z a0 G1 G3 w_NULL w_NUMBER w_NULL2 w_STRING) (b177 : Addr) (b179 : Addr) (k181 : ClassId) (p1 : Int32) (PF_b177_value : Fld Z h0 b177 "java/lang/String" "value" "[B" (.ref b179)) (PV_b179 : Arv Z h0 b179 k181 .byte (2 : Int32) [(.int 45), (.int ((((48 : Int32) + ((p1 &&& (2147483647 : Int32)) % (10 : Int32))).toUInt32.toUInt16.toUInt32.toInt32).toInt8.toInt32))] (.int 0)) (PF_b177_coder : Fld Z h0 b177 "java/lang/String" "coder" "B" (.int 0)) (PE_b177 : Exa Z h0 b177 "java/lang/String") (hDG : own_dig (((48 : Int32) + ((p1 &&& (2147483647 : Int32)) % (10 : Int32))).toUInt32.toUInt16.toUInt32.toInt32)) (hd48_ : (((48 : Int32) + ((p1 &&& (2147483647 : Int32)) % (10 : Int32))).toUInt32.toUInt16.toUInt32.toInt32) = (48 : Int32)) :
  Meets1 l ym19 prog_10_method_3_code 2 (some .boolean) ws ({ frames := 5, cells := 0, slots := 0, locals := 66 } : Room) #[(.ref b177)] Z h0 (fun v h L => v = some (.int 1) ∧ Fr n0 L ∧ Keep h0 h []) := by
 refine MetFree.of_bodySF (plainFor_of_name pn13) hisR ?_
 intro p e s m args below meth c s₁ Bd hml0 hP hK
 obtain ⟨rfl, hZ, hh⟩ := hP
 have hx := Bd.exec
 have hby := Bd.bytes
 have hml : c.maxLocals = 2 := hml0
 have hown : s.vm.findClass "com/example/wakeline/wakeline/event/NumberSyntax" = some m.cls := findClass_of_methodNamed Bd.named
 have hnm := (name_of_methodNamed Bd.named Bd.method).1
 have X0 : Stand p l e ({ frames := 5, cells := 0, slots := 0, locals := 66 } : Room) s m #[(.ref b177)] below meth c s₁ [] 0 0 := Stand.of_body Bd
 have e0 : s₁.heap = h0 := by rw [← hh, Bd.state]; rfl
 have N0 := Fr.nil n0
 have Z0 := own_old_le O0
 show Ends _ _ _ _ s₁ (entryFrame m #[(.ref b177)] 2) ({ frames := 5, cells := 0, slots := 0, locals := 66 } : Room).cells ({ frames := 5, cells := 0, slots := 0, locals := 66 } : Room).slots (fun v h L => v = some (.int 1) ∧ Fr n0 L ∧ Keep h0 h [])
 refine Ends.go (fun _ k => castTop (ef13_r m b177) k) ?_
 obtain ⟨SCS, P5, SSF, RG3, HCST, HCW, S_NULL, E_NULL, S_NUMBER, E_NUMBER, F_ordinal_NULL, F_ordinal_NUMBER, S_NULL2, E_NULL2, F_kind_NULL2, S_STRING, E_STRING, F_ordinal_STRING⟩ := id GF
 have K0 := Keep.refl h0 []
 show Ends _ _ _ _ s₁ (mkF m 0 #[cr b177, cu] []) _ _ _
 refine walN X0 hx hby d13_0 rfl rfl ?_
 obtain ⟨_, _, ⟨T214, L214, k214, n214⟩, -, X214, ⟨Lc214, hQ214, l214, y214, z214⟩, st214⟩ := Jvm.LawKit.callS X0 hx (y := ym18) hown (mvT hZ (ow hw 82 rfl)) (mvT hZ (ow hw 83 rfl)) (mvT hZ (ow hw 80 rfl)) (mvT hZ (ow hw 84 rfl)) (by decide) (own_backOf (W := 0) (rx14_189 l Z a0 hw [] n0 h0 O0 G1 G3 w_NULL w_NUMBER w_NULL2 w_STRING GF b177 b179 k181 p1 PF_b177_value PV_b179 PF_b177_coder PE_b177 hDG hd48_) hZ (ow hw 84 rfl) (ow hw 80 rfl) (by decide) (by decide)) (g := (mkF m 1 #[cr b177, cu] [(.ref b177)])) rfl (by rw [hml]; rfl) (argsL := [(.ref b177)]) (rest := []) (lenOf pdx_16 rfl) rfl (by show 2 * 0 + _ ≤ _; exact Nat.le_of_eq rfl) (hb hby d13_1) (fun _ _ => ⟨rfl, e0, (by decide : 0 + 0 ≤ _), (by decide : 0 + 0 ≤ _)⟩)
 dsimp only [Pt.U, Pt.locs, Pt.cells, Pt.slots] at X214 l214 y214 z214 st214 hQ214
 subst l214 y214 z214
 obtain ⟨rfl, N214q, K214c⟩ := hQ214
 have N214 := Fr.app N0 N214q
 refine Ends.go st214 ?_
 obtain ⟨h214, e214⟩ : ∃ z, T214.heap = z := ⟨_, rfl⟩
 rw [e214] at K214c
 have K214 := K0.trans K214c all0
 have O214 := O0.keep K214c all0
 refine wstN X214 hx hby d13_4 (l' := #[cr b177, ci 2]) rfl ?_
 show Ends _ _ _ _ T214 (mkF m 5 #[cr b177, ci 2] []) _ _ _
 refine wilN X214 hx hby d13_5 rfl ?_
 refine wiy (pc := 6) (pc' := 11) X214 hx hby d13_6 ((if0 _ _).trans (flt (by decide : ¬ ((2 : Int32) < (0 : Int32)))).2.1) (by decide) (by decide) ?_
 refine wilN X214 hx hby d13_11 rfl ?_
 refine walN X214 hx hby d13_12 rfl rfl ?_
 show Ends _ _ _ _ T214 (mkF m 13 #[cr b177, ci 2] [(.ref b177), (.int 2)]) _ _ _
 obtain ⟨cq215, kq215, q215a, q215b, q215c⟩ := isOf hZ e214 (PE_b177.keep K214c)
 obtain ⟨_, _, ⟨T215, L215, k215, n215⟩, -, X215, ⟨Lc215, hQ215, l215, y215, z215⟩, st215⟩ := X214.virtualBack hx (y := ym14) (z := ym14) hown (mvT hZ (ow hw 85 rfl)) (mvT hZ (ow hw 86 rfl)) (notFace_of_selects (args := #[]) (mvT hZ (ow hw 88 rfl))) (mvT hZ (ow hw 88 rfl)) (mvT hZ (ow hw 87 rfl)) (by decide) (own_backOf (W := 1) (rx15_190 l Z a0 hw [] n0 h214 O214 G1 G3 w_NULL w_NUMBER w_NULL2 w_STRING GF b177 b179 k181 p1 (PF_b177_value.keep K214c nin0) (PV_b179.keep K214c nin0) (PF_b177_coder.keep K214c nin0) (PE_b177.keep K214c)) hZ (ow hw 89 rfl) (ow hw 19 rfl) (by decide) (by decide)) q215a q215c (g := (mkF m 13 #[cr b177, ci 2] [(.ref b177), (.int 2)])) rfl (by rw [hml]; rfl) (Steps.refl _) (argsL := []) (rest := [(.int 2)]) (lenOf pdx_12 rfl) rfl (by show 2 * 0 + _ ≤ _; exact Nat.le_of_eq rfl) (hb hby d13_13) (fun _ _ => ⟨rfl, e214, (by decide : 0 + 0 ≤ _), (by decide : 0 + 0 ≤ _)⟩)
 dsimp only [Pt.U, Pt.locs, Pt.cells, Pt.slots] at X215 l215 y215 z215 st215 hQ215
 subst l215 y215 z215
 obtain ⟨rfl, N215q, K215c⟩ := hQ215
 have N215 := Fr.app N214 N215q
 refine Ends.go (fun _ k => st215.trans k) ?_
 obtain ⟨h215, e215⟩ : ∃ z, T215.heap = z := ⟨_, rfl⟩
 rw [e215] at K215c
 have K215 := K214.trans K215c all0
 have O215 := O214.keep K215c all0
 refine wcy (pc := 16) (pc' := 43) X215 hx hby d13_16 (flt (by decide : ¬ ((2 : Int32) < (2 : Int32)))).2.1 (by decide) (by decide) ?_
 refine wilN X215 hx hby d13_43 rfl ?_
 refine walN X215 hx hby d13_44 rfl rfl ?_
 show Ends _ _ _ _ T215 (mkF m 45 #[cr b177, ci 2] [(.ref b177), (.int 2)]) _ _ _
 obtain ⟨cq216, kq216, q216a, q216b, q216c⟩ := isOf hZ e215 ((PE_b177.keep K214c).keep K215c)
 obtain ⟨_, _, ⟨T216, L216, k216, n216⟩, -, X216, ⟨Lc216, hQ216, l216, y216, z216⟩, st216⟩ := X215.virtualBack hx (y := ym14) (z := ym14) hown (mvT hZ (ow hw 85 rfl)) (mvT hZ (ow hw 86 rfl)) (notFace_of_selects (args := #[]) (mvT hZ (ow hw 88 rfl))) (mvT hZ (ow hw 88 rfl)) (mvT hZ (ow hw 87 rfl)) (by decide) (own_backOf (W := 1) (rx15_190 l Z a0 hw [] n0 h215 O215 G1 G3 w_NULL w_NUMBER w_NULL2 w_STRING GF b177 b179 k181 p1 ((PF_b177_value.keep K214c nin0).keep K215c nin0) ((PV_b179.keep K214c nin0).keep K215c nin0) ((PF_b177_coder.keep K214c nin0).keep K215c nin0) ((PE_b177.keep K214c).keep K215c)) hZ (ow hw 89 rfl) (ow hw 19 rfl) (by decide) (by decide)) q216a q216c (g := (mkF m 45 #[cr b177, ci 2] [(.ref b177), (.int 2)])) rfl (by rw [hml]; rfl) (Steps.refl _) (argsL := []) (rest := [(.int 2)]) (lenOf pdx_12 rfl) rfl (by show 2 * 0 + _ ≤ _; exact Nat.le_of_eq rfl) (hb hby d13_45) (fun _ _ => ⟨rfl, e215, (by decide : 0 + 0 ≤ _), (by decide : 0 + 0 ≤ _)⟩)
 dsimp only [Pt.U, Pt.locs, Pt.cells, Pt.slots] at X216 l216 y216 z216 st216 hQ216
 subst l216 y216 z216
 obtain ⟨rfl, N216q, K216c⟩ := hQ216
 have N216 := Fr.app N215 N216q
 refine Ends.go (fun _ k => st216.trans k) ?_
 obtain ⟨h216, e216⟩ : ∃ z, T216.heap = z := ⟨_, rfl⟩
 rw [e216] at K216c
 have K216 := K215.trans K216c all0
 have O216 := O215.keep K216c all0
 refine wcy (pc := 48) (pc' := 111) X216 hx hby d13_48 (flt (by decide : ¬ ((2 : Int32) < (2 : Int32)))).2.1 (by decide) (by decide) ?_
 refine wilN X216 hx hby d13_111 rfl ?_
 refine walN X216 hx hby d13_112 rfl rfl ?_
 show Ends _ _ _ _ T216 (mkF m 113 #[cr b177, ci 2] [(.ref b177), (.int 2)]) _ _ _
 obtain ⟨cq217, kq217, q217a, q217b, q217c⟩ := isOf hZ e216 (((PE_b177.keep K214c).keep K215c).keep K216c)
 obtain ⟨_, _, ⟨T217, L217, k217, n217⟩, -, X217, ⟨Lc217, hQ217, l217, y217, z217⟩, st217⟩ := X216.virtualBack hx (y := ym14) (z := ym14) hown (mvT hZ (ow hw 85 rfl)) (mvT hZ (ow hw 86 rfl)) (notFace_of_selects (args := #[]) (mvT hZ (ow hw 88 rfl))) (mvT hZ (ow hw 88 rfl)) (mvT hZ (ow hw 87 rfl)) (by decide) (own_backOf (W := 1) (rx15_190 l Z a0 hw [] n0 h216 O216 G1 G3 w_NULL w_NUMBER w_NULL2 w_STRING GF b177 b179 k181 p1 (((PF_b177_value.keep K214c nin0).keep K215c nin0).keep K216c nin0) (((PV_b179.keep K214c nin0).keep K215c nin0).keep K216c nin0) (((PF_b177_coder.keep K214c nin0).keep K215c nin0).keep K216c nin0) (((PE_b177.keep K214c).keep K215c).keep K216c)) hZ (ow hw 89 rfl) (ow hw 19 rfl) (by decide) (by decide)) q217a q217c (g := (mkF m 113 #[cr b177, ci 2] [(.ref b177), (.int 2)])) rfl (by rw [hml]; rfl) (Steps.refl _) (argsL := []) (rest := [(.int 2)]) (lenOf pdx_12 rfl) rfl (by show 2 * 0 + _ ≤ _; exact Nat.le_of_eq rfl) (hb hby d13_113) (fun _ _ => ⟨rfl, e216, (by decide : 0 + 0 ≤ _), (by decide : 0 + 0 ≤ _)⟩)
 dsimp only [Pt.U, Pt.locs, Pt.cells, Pt.slots] at X217 l217 y217 z217 st217 hQ217
 subst l217 y217 z217
 obtain ⟨rfl, N217q, K217c⟩ := hQ217
 have N217 := Fr.app N216 N217q
 refine Ends.go (fun _ k => st217.trans k) ?_
 obtain ⟨h217, e217⟩ : ∃ z, T217.heap = z := ⟨_, rfl⟩
 rw [e217] at K217c
 have K217 := K216.trans K217c all0
 have O217 := O216.keep K217c all0
 refine wcn X217 hx hby d13_116 (teq (by decide : (2 : Int32) = (2 : Int32))).2 ?_
 refine wic X217 hx hby d13_119 ?_
 refine wgo (pc := 120) (pc' := 124) X217 hx hby d13_120 (by decide) (by decide) ?_
 show Ends _ _ _ _ T217 (mkF m 124 #[cr b177, ci 2] [(.int 1)]) _ _ _
 refine Ends.retZ X217 hx Bd.notSynchronized (t := .boolean) Bd.returns (by simp) (hb hby d13_124) (by decide) (by decide) ?_
 rw [e217]
 exact ⟨rfl, N217, K217⟩

set_option maxRecDepth 65536 in
set_option maxHeartbeats 40000000 in
theorem rx1_182 (l : Launch) (Z : State) (a0 : Array Value) (hw : ∀ d ∈ tables_1, d.before a0 Z = true) (ws : List Jvm.Cond) (n0 : Nat) (h0 : Heap) (O0 : Old Z n0 h0) (G1 : Int32) (G3 : Value) (w_NULL : Addr) (w_NUMBER : Addr) (w_NULL2 : Addr) (w_STRING : Addr) (GF : GlobF Z a0 G1 G3 w_NULL w_NUMBER w_NULL2 w_STRING) (b32 : Addr) (b177 : Addr) (b179 : Addr) (k181 : ClassId) (p1 : Int32) (PF_b177_value : Fld Z h0 b177 "java/lang/String" "value" "[B" (.ref b179)) (PV_b179 : Arv Z h0 b179 k181 .byte (2 : Int32) [(.int 45), (.int ((((48 : Int32) + ((p1 &&& (2147483647 : Int32)) % (10 : Int32))).toUInt32.toUInt16.toUInt32.toInt32).toInt8.toInt32))] (.int 0)) (PF_b177_coder : Fld Z h0 b177 "java/lang/String" "coder" "B" (.int 0)) (PE_b177 : Exa Z h0 b177 "java/lang/String") (PE_b32 : Exa Z h0 b32 "com/example/wakeline/wakeline/event/Value") (PF_b32_kind : Fld Z h0 b32 "com/example/wakeline/wakeline/event/Value" "kind" "Lcom/example/wakeline/wakeline/event/Value$Kind;" .null) (PF_b32_text : Fld Z h0 b32 "com/example/wakeline/wakeline/event/Value" "text" "Ljava/lang/String;" .null) (g_b32 : n0 ≤ b32) (hDG : own_dig (((48 : Int32) + ((p1 &&& (2147483647 : Int32)) % (10 : Int32))).toUInt32.toUInt16.toUInt32.toInt32)) (hd48_ : (((48 : Int32) + ((p1 &&& (2147483647 : Int32)) % (10 : Int32))).toUInt32.toUInt16.toUInt32.toInt32) = (48 : Int32)) :
  Meets1W l ym4 prog_15_method_1_code 3 none ws ({ frames := 6, cells := 2, slots := 20, locals := 79 } : Room) #[(.ref b32), (.ref w_NUMBER), (.ref b177)] Z h0 false (fun v h L => v = none ∧ Fr n0 L ∧ Keep h0 h [b32] ∧ Fld Z h b32 "com/example/wakeline/wakeline/event/Value" "kind" "Lcom/example/wakeline/wakeline/event/Value$Kind;" (.ref w_NUMBER) ∧ Fld Z h b32 "com/example/wakeline/wakeline/event/Value" "text" "Ljava/lang/String;" (.ref b177)) := by
 refine MetFree.of_bodySF (plainFor_of_name pn1) hisR ?_
 intro p e s m args below meth c s₁ Bd hml0 hP hK
 obtain ⟨rfl, hZ, hh, hI⟩ := hP
 have hx := Bd.exec
 have hby := Bd.bytes
 have hml : c.maxLocals = 3 := hml0
 have hown : s.vm.findClass "com/example/wakeline/wakeline/event/Value" = some m.cls := findClass_of_methodNamed Bd.named
 have hnm := (name_of_methodNamed Bd.named Bd.method).1
 have X0 : Stand p l e ({ frames := 6, cells := 2, slots := 20, locals := 79 } : Room) s m #[(.ref b32), (.ref w_NUMBER), (.ref b177)] below meth c s₁ [] 0 0 := Stand.of_body Bd
 have e0 : s₁.heap = h0 := by rw [← hh, Bd.state]; rfl
 have N0 := Fr.nil n0
 have hS0 := own_since0 s
 have hk0 : s.heap.size ≤ h0.size := Nat.le_of_eq (congrArg Array.size hh)
 have Z0 := own_old_le O0
 show EndsW _ _ _ _ s₁ (entryFrame m #[(.ref b32), (.ref w_NUMBER), (.ref b177)] 3) ({ frames := 6, cells := 2, slots := 20, locals := 79 } : Room).cells ({ frames := 6, cells := 2, slots := 20, locals := 79 } : Room).slots (fun v h L => v = none ∧ Fr n0 L ∧ Keep h0 h [b32] ∧ Fld Z h b32 "com/example/wakeline/wakeline/event/Value" "kind" "Lcom/example/wakeline/wakeline/event/Value$Kind;" (.ref w_NUMBER) ∧ Fld Z h b32 "com/example/wakeline/wakeline/event/Value" "text" "Ljava/lang/String;" (.ref b177))
 refine EndsW.go (fun _ k => castTop (ef1_rrr m b32 w_NUMBER b177) k) ?_
 obtain ⟨SCS, P5, SSF, RG3, HCST, HCW, S_NULL, E_NULL, S_NUMBER, E_NUMBER, F_ordinal_NULL, F_ordinal_NUMBER, S_NULL2, E_NULL2, F_kind_NULL2, S_STRING, E_STRING, F_ordinal_STRING⟩ := id GF
 have K0 := Keep.refl h0 [b32]
 show EndsW _ _ _ _ s₁ (mkF m 0 #[cr b32, cr w_NUMBER, cr b177] []) _ _ _
 refine walNW X0 hx hby d1_0 rfl rfl ?_
 obtain ⟨_, _, ⟨T183, L183, k183, n183⟩, -, X183, ⟨Lc183, hQ183, l183, y183, z183⟩, st183⟩ := X0.specialBack hx (y := ym2) rfl hown (mvT hZ (ow hw 10 rfl)) (mvT hZ (ow hw 11 rfl)) (mvT hZ (ow hw 14 rfl)) (by decide) (own_backOf (W := 0) (rx2_5 l Z a0 hw [] n0 h0 O0  b32 ) hZ (ow hw 14 rfl) (ow hw 13 rfl) (by decide) (by decide)) (g := (mkF m 1 #[cr b32, cr w_NUMBER, cr b177] [(.ref b32)])) rfl (by rw [hml]; rfl) (Steps.refl _) (a := b32) (argsL := []) (rest := []) (lenOf pdx_0 rfl) rfl (by show 2 * 0 + _ ≤ _; exact Nat.le_of_eq rfl) (hb hby d1_1) (fun _ _ => ⟨rfl, e0, (by decide : 0 + 0 ≤ _), (by decide : 0 + 0 ≤ _)⟩)
 dsimp only [Pt.U, Pt.locs, Pt.cells, Pt.slots] at X183 l183 y183 z183 st183 hQ183
 subst l183 y183 z183
 obtain ⟨rfl, N183q, K183c⟩ := hQ183
 have N183 := Fr.app N0 N183q
 refine EndsW.go (fun _ k => st183.trans k) ?_
 obtain ⟨h183, e183⟩ : ∃ z, T183.heap = z := ⟨_, rfl⟩
 rw [e183] at K183c
 have K183 := K0.trans K183c all0
 have O183 := O0.keep K183c all0
 refine walNW X183 hx hby d1_4 rfl rfl ?_
 show EndsW _ _ _ _ T183 (mkF m 5 #[cr b32, cr w_NUMBER, cr b177] [(.ref w_NUMBER)]) _ _ _
 obtain ⟨a184, T184, h184, k184, X184, e184, E184, hS184, hk184, hZ, hown, st184⟩ := ldcS (s := s) (vm0 := s.vm) X183 hx hZ hown (ow hw 18 rfl) (own_atoms hw) e183 hS0 (Nat.le_trans hk0 K183c.1) (g := (mkF m 5 #[cr b32, cr w_NUMBER, cr b177] [(.ref w_NUMBER)])) rfl (hb hby d1_5) (n := 16) (by decide) (by decide) (by decide) (by decide)
 refine EndsW.go st184 ?_
 have K184 := K183.ext E184
 have O184 := O183.ext E184
 obtain ⟨_, _, ⟨T185, L185, k185, n185⟩, -, X185, ⟨Lc185, hQ185, l185, y185, z185⟩, st185⟩ := Jvm.LawKit.callS X184 hx (y := ym3) hown (mvT hZ (ow hw 26 rfl)) (mvT hZ (ow hw 27 rfl)) (mvT hZ (ow hw 28 rfl)) (mvT hZ (ow hw 29 rfl)) (by decide) (own_backOf (W := 0) (rx4_61 l Z a0 hw [] n0 h184 O184 G1 G3 w_NULL w_NUMBER w_NULL2 w_STRING GF a184 ) hZ (ow hw 29 rfl) (ow hw 28 rfl) (by decide) (by decide)) (g := (mkF m 7 #[cr b32, cr w_NUMBER, cr b177] [(.ref a184), (.ref w_NUMBER)])) rfl (by rw [hml]; rfl) (argsL := [(.ref w_NUMBER), (.ref a184)]) (rest := []) (lenOf pdx_1 rfl) rfl (by show 2 * 0 + _ ≤ _; exact Nat.le_of_eq rfl) (hb hby d1_7) (fun _ _ => ⟨rfl, e184, (by decide : 2 + 0 ≤ _), (by decide : 20 + 0 ≤ _)⟩)
 dsimp only [Pt.U, Pt.locs, Pt.cells, Pt.slots] at X185 l185 y185 z185 st185 hQ185
 subst l185 y185 z185
 obtain ⟨rfl, N185q, K185c⟩ := hQ185
 have N185 := Fr.app N183 N185q
 refine EndsW.go st185 ?_
 obtain ⟨h185, e185⟩ : ∃ z, T185.heap = z := ⟨_, rfl⟩
 rw [e185] at K185c
 have K185 := K184.trans K185c all0
 have O185 := O184.keep K185c all0
 refine .go (fun _ => XS.pop X185.here hx rfl (hb hby d1_10) rfl rfl) ?_
 refine walNW X185 hx hby d1_11 rfl rfl ?_
 show EndsW _ _ _ _ T185 (mkF m 12 #[cr b32, cr w_NUMBER, cr b177] [(.ref w_NUMBER)]) _ _ _
 obtain ⟨T186, X186, e186, st186⟩ := getS2 X185 hx hZ hown (host := "") (Or.inl (ow hw 30 rfl)) Via.refl e185 (S_NULL.ext O185.2) (g := (mkF m 12 #[cr b32, cr w_NUMBER, cr b177] [(.ref w_NUMBER)])) rfl (hb hby d1_12)
 refine EndsW.go st186 ?_
 refine .go (fun _ => Jvm.RoadKit.acmp (g := (mkF m 15 #[cr b32, cr w_NUMBER, cr b177] [(.ref w_NULL), (.ref w_NUMBER)])) X186 hx rfl rfl rfl (pc0 := 15) (pc' := 22) (same := false) rfl (hb hby d1_15) rfl (decide_eq_false fun q => (Fld.ne F_ordinal_NUMBER F_ordinal_NULL (by decide)) (Value.ref.inj q)) (by decide) (by decide)) ?_
 refine wicW X186 hx hby d1_22 ?_
 refine walNW X186 hx hby d1_23 rfl rfl ?_
 show EndsW _ _ _ _ T186 (mkF m 24 #[cr b32, cr w_NUMBER, cr b177] [(.ref b177), (.int 0)]) _ _ _
 refine .go (fun _ => XS.ifnonnullYes X186.here hx rfl (pc0 := 24) (pc' := 31) rfl (hb hby d1_24) rfl (by decide) (by decide)) ?_
 refine wicW X186 hx hby d1_31 ?_
 refine wcyW (pc := 32) (pc' := 63) X186 hx hby d1_32 (teq (by decide : (0 : Int32) = (0 : Int32))).1 (by decide) (by decide) ?_
 refine walNW X186 hx hby d1_63 rfl rfl ?_
 show EndsW _ _ _ _ T186 (mkF m 64 #[cr b32, cr w_NUMBER, cr b177] [(.ref w_NUMBER)]) _ _ _
 obtain ⟨T187, X187, e187, st187⟩ := getS2 X186 hx hZ hown (host := "") (Or.inl (ow hw 31 rfl)) Via.refl e186 (S_NUMBER.ext O185.2) (g := (mkF m 64 #[cr b32, cr w_NUMBER, cr b177] [(.ref w_NUMBER)])) rfl (hb hby d1_64)
 refine EndsW.go st187 ?_
 refine .go (fun _ => Jvm.RoadKit.acmp (g := (mkF m 67 #[cr b32, cr w_NUMBER, cr b177] [(.ref w_NUMBER), (.ref w_NUMBER)])) X187 hx rfl rfl rfl (pc0 := 67) (pc' := 70) (same := true) rfl (hb hby d1_67) rfl (decide_eq_true rfl) (by decide) (by decide)) ?_
 refine walNW X187 hx hby d1_70 rfl rfl ?_
 obtain ⟨_, _, ⟨T218, L218, k218, n218⟩, -, X218, ⟨Lc218, hQ218, l218, y218, z218⟩, st218⟩ := Jvm.LawKit.callS X187 hx (y := ym19) hown (mvT hZ (ow hw 78 rfl)) (mvT hZ (ow hw 79 rfl)) (mvT hZ (ow hw 80 rfl)) (mvT hZ (ow hw 81 rfl)) (by decide) (own_backOf (W := 0) (rx13_188 l Z a0 hw [] n0 h185 O185 G1 G3 w_NULL w_NUMBER w_NULL2 w_STRING GF b177 b179 k181 p1 (((PF_b177_value.keep K183c nin0).ext E184).keep K185c nin0) (((PV_b179.keep K183c nin0).ext E184).keep K185c nin0) (((PF_b177_coder.keep K183c nin0).ext E184).keep K185c nin0) (((PE_b177.keep K183c).ext E184).keep K185c) hDG hd48_) hZ (ow hw 81 rfl) (ow hw 80 rfl) (by decide) (by decide)) (g := (mkF m 71 #[cr b32, cr w_NUMBER, cr b177] [(.ref b177)])) rfl (by rw [hml]; rfl) (argsL := [(.ref b177)]) (rest := []) (lenOf pdx_17 rfl) rfl (by show 2 * 0 + _ ≤ _; exact Nat.le_of_eq rfl) (hb hby d1_71) (fun _ _ => ⟨rfl, e187, (by decide : 2 + 0 ≤ _), (by decide : 20 + 0 ≤ _)⟩)
 dsimp only [Pt.U, Pt.locs, Pt.cells, Pt.slots] at X218 l218 y218 z218 st218 hQ218
 subst l218 y218 z218
 obtain ⟨rfl, N218q, K218c⟩ := hQ218
 have N218 := Fr.app N185 N218q
 refine EndsW.go st218 ?_
 obtain ⟨h218, e218⟩ : ∃ z, T218.heap = z := ⟨_, rfl⟩
 rw [e218] at K218c
 have K218 := K185.trans K218c all0
 have O218 := O185.keep K218c all0
 show EndsW _ _ _ _ T218 (mkF m 74 #[cr b32, cr w_NUMBER, cr b177] [(.int 1)]) _ _ _
 refine wiyW (pc := 74) (pc' := 91) X218 hx hby d1_74 ((if0 _ _).trans (feq (by decide : ¬ ((1 : Int32) = (0 : Int32)))).2) (by decide) (by decide) ?_
 refine walNW X218 hx hby d1_91 rfl rfl ?_
 refine walNW X218 hx hby d1_92 rfl rfl ?_
 obtain ⟨T219, h219, X219, e219, W219, st219⟩ := putF X218 hx hZ hown (host := "") (Or.inl (ow hw 33 rfl)) Via.refl e218 ((((PF_b32_kind.keep K183c nin0).ext E184).keep K185c nin0).keep K218c nin0) ((((PE_b32.keep K183c).ext E184).keep K185c).keep K218c) (Or.inr ⟨(ow hw 34 rfl), rfl, hnm⟩) (ow hw 5 rfl) (ty := (.object "com/example/wakeline/wakeline/event/Value$Kind")) (by decide) rfl rfl (g := (mkF m 93 #[cr b32, cr w_NUMBER, cr b177] [(.ref w_NUMBER), (.ref b32)])) rfl rfl (hb hby d1_93)
 refine EndsW.go st219 ?_
 have Fw219 := ((((PF_b32_kind.keep K183c nin0).ext E184).keep K185c nin0).keep K218c nin0).same W219
 have K219 := K218.wr W219 (Or.inl (List.mem_of_getElem? (i := 0) rfl))
 have O219 := O218.wr W219 g_b32
 have N219 := Fr.snoc X219 N218 g_b32
 show EndsW _ _ _ _ T219 (mkF m 96 #[cr b32, cr w_NUMBER, cr b177] []) _ _ _
 refine walNW X219 hx hby d1_96 rfl rfl ?_
 refine walNW X219 hx hby d1_97 rfl rfl ?_
 obtain ⟨T220, h220, X220, e220, W220, st220⟩ := putF X219 hx hZ hown (host := "") (Or.inl (ow hw 35 rfl)) Via.refl e219 (((((PF_b32_text.keep K183c nin0).ext E184).keep K185c nin0).keep K218c nin0).other W219 (Or.inr (slot_ne (Or.inr (ow hw 36 rfl)) (Or.inr (ow hw 34 rfl)) (by decide) (t := (.object "java/lang/String")) (t' := (.object "com/example/wakeline/wakeline/event/Value$Kind")) (by decide) (by decide)))) (((((PE_b32.keep K183c).ext E184).keep K185c).keep K218c).wr W219) (Or.inr ⟨(ow hw 36 rfl), rfl, hnm⟩) (ow hw 5 rfl) (ty := (.object "java/lang/String")) (by decide) rfl rfl (g := (mkF m 98 #[cr b32, cr w_NUMBER, cr b177] [(.ref b177), (.ref b32)])) rfl rfl (hb hby d1_98)
 refine EndsW.go st220 ?_
 have Fw220 := (((((PF_b32_text.keep K183c nin0).ext E184).keep K185c nin0).keep K218c nin0).other W219 (Or.inr (slot_ne (Or.inr (ow hw 36 rfl)) (Or.inr (ow hw 34 rfl)) (by decide) (t := (.object "java/lang/String")) (t' := (.object "com/example/wakeline/wakeline/event/Value$Kind")) (by decide) (by decide)))).same W220
 have K220 := K219.wr W220 (Or.inl (List.mem_of_getElem? (i := 0) rfl))
 have O220 := O219.wr W220 g_b32
 have N220 := Fr.snoc X220 N219 g_b32
 refine EndsW.retV (s := s) (vm := T184.vm) X220 hx hS184 (Nat.le_trans (Nat.le_trans (Nat.le_trans (Nat.le_trans (Nat.le_trans hk184 K185c.1) K218c.1) (own_wrsz W219)) (own_wrsz W220)) (Nat.le_of_eq (congrArg Array.size e220.symm))) Bd.notSynchronized Bd.returns (hb hby d1_101) (by decide) (by decide) ?_
 rw [e220]
 exact ⟨rfl, N220, K220, (Fw219.other W220 (Or.inr (slot_ne (Or.inr (ow hw 34 rfl)) (Or.inr (ow hw 36 rfl)) (by decide) (t := (.object "com/example/wakeline/wakeline/event/Value$Kind")) (t' := (.object "java/lang/String")) (by decide) (by decide)))), Fw220⟩

set_option maxRecDepth 65536 in
set_option maxHeartbeats 40000000 in
theorem rx22_245 (l : Launch) (Z : State) (a0 : Array Value) (hw : ∀ d ∈ tables_1, d.before a0 Z = true) (ws : List Jvm.Cond) (n0 : Nat) (h0 : Heap) (O0 : Old Z n0 h0) (G1 : Int32) (G3 : Value) (w_NULL : Addr) (w_NUMBER : Addr) (w_NULL2 : Addr) (w_STRING : Addr) (GF : GlobF Z a0 G1 G3 w_NULL w_NUMBER w_NULL2 w_STRING) (b228 : Addr) (b230 : Addr) (k232 : ClassId) (p1 : Int32) (PF_b228_value : Fld Z h0 b228 "java/lang/String" "value" "[B" (.ref b230)) (PV_b230 : Arv Z h0 b230 k232 .byte (2 : Int32) [(.int 45), (.int ((((48 : Int32) + ((p1 &&& (2147483647 : Int32)) % (10 : Int32))).toUInt32.toUInt16.toUInt32.toInt32).toInt8.toInt32))] (.int 0)) (PF_b228_coder : Fld Z h0 b228 "java/lang/String" "coder" "B" (.int 0)) (PE_b228 : Exa Z h0 b228 "java/lang/String") (hDG : own_dig (((48 : Int32) + ((p1 &&& (2147483647 : Int32)) % (10 : Int32))).toUInt32.toUInt16.toUInt32.toInt32)) :
  Meets1 l ym20 prog_10_method_5_code 3 (some .int) ws ({ frames := 4, cells := 0, slots := 0, locals := 53 } : Room) #[(.ref b228), (.int 1)] Z h0 (fun v h L => v = some (.int 2) ∧ Fr n0 L ∧ Keep h0 h []) := by
 refine MetFree.of_bodySF (plainFor_of_name pn22) hisR ?_
 intro p e s m args below meth c s₁ Bd hml0 hP hK
 obtain ⟨rfl, hZ, hh⟩ := hP
 have hx := Bd.exec
 have hby := Bd.bytes
 have hml : c.maxLocals = 3 := hml0
 have hown : s.vm.findClass "com/example/wakeline/wakeline/event/NumberSyntax" = some m.cls := findClass_of_methodNamed Bd.named
 have hnm := (name_of_methodNamed Bd.named Bd.method).1
 have X0 : Stand p l e ({ frames := 4, cells := 0, slots := 0, locals := 53 } : Room) s m #[(.ref b228), (.int 1)] below meth c s₁ [] 0 0 := Stand.of_body Bd
 have e0 : s₁.heap = h0 := by rw [← hh, Bd.state]; rfl
 have N0 := Fr.nil n0
 have Z0 := own_old_le O0
 show Ends _ _ _ _ s₁ (entryFrame m #[(.ref b228), (.int 1)] 3) ({ frames := 4, cells := 0, slots := 0, locals := 53 } : Room).cells ({ frames := 4, cells := 0, slots := 0, locals := 53 } : Room).slots (fun v h L => v = some (.int 2) ∧ Fr n0 L ∧ Keep h0 h [])
 refine Ends.go (fun _ k => castTop (ef22_ri m b228 (1 : Int32)) k) ?_
 obtain ⟨SCS, P5, SSF, RG3, HCST, HCW, S_NULL, E_NULL, S_NUMBER, E_NUMBER, F_ordinal_NULL, F_ordinal_NUMBER, S_NULL2, E_NULL2, F_kind_NULL2, S_STRING, E_STRING, F_ordinal_STRING⟩ := id GF
 have K0 := Keep.refl h0 []
 show Ends _ _ _ _ s₁ (mkF m 0 #[cr b228, ci 1, cu] []) _ _ _
 refine wilN X0 hx hby d22_0 rfl ?_
 refine wstN X0 hx hby d22_1 (l' := #[cr b228, ci 1, ci 1]) rfl ?_
 refine wilN X0 hx hby d22_2 rfl ?_
 show Ends _ _ _ _ s₁ (mkF m 3 #[cr b228, ci 1, ci 1] [(.int 1)]) _ _ _
 refine walN X0 hx hby d22_3 rfl rfl ?_
 obtain ⟨cq246, kq246, q246a, q246b, q246c⟩ := isOf hZ e0 PE_b228
 obtain ⟨_, _, ⟨T246, L246, k246, n246⟩, -, X246, ⟨Lc246, hQ246, l246, y246, z246⟩, st246⟩ := X0.virtualBack hx (y := ym14) (z := ym14) hown (mvT hZ (ow hw 85 rfl)) (mvT hZ (ow hw 86 rfl)) (notFace_of_selects (args := #[]) (mvT hZ (ow hw 88 rfl))) (mvT hZ (ow hw 88 rfl)) (mvT hZ (ow hw 87 rfl)) (by decide) (own_backOf (W := 1) (rx15_190 l Z a0 hw [] n0 h0 O0 G1 G3 w_NULL w_NUMBER w_NULL2 w_STRING GF b228 b230 k232 p1 PF_b228_value PV_b230 PF_b228_coder PE_b228) hZ (ow hw 89 rfl) (ow hw 19 rfl) (by decide) (by decide)) q246a q246c (g := (mkF m 4 #[cr b228, ci 1, ci 1] [(.ref b228), (.int 1)])) rfl (by rw [hml]; rfl) (Steps.refl _) (argsL := []) (rest := [(.int 1)]) (lenOf pdx_12 rfl) rfl (by show 2 * 0 + _ ≤ _; exact Nat.le_of_eq rfl) (hb hby d22_4) (fun _ _ => ⟨rfl, e0, (by decide : 0 + 0 ≤ _), (by decide : 0 + 0 ≤ _)⟩)
 dsimp only [Pt.U, Pt.locs, Pt.cells, Pt.slots] at X246 l246 y246 z246 st246 hQ246
 subst l246 y246 z246
 obtain ⟨rfl, N246q, K246c⟩ := hQ246
 have N246 := Fr.app N0 N246q
 refine Ends.go (fun _ k => st246.trans k) ?_
 obtain ⟨h246, e246⟩ : ∃ z, T246.heap = z := ⟨_, rfl⟩
 rw [e246] at K246c
 have K246 := K0.trans K246c all0
 have O246 := O0.keep K246c all0
 refine wcn X246 hx hby d22_7 (tlt (by decide : (1 : Int32) < (2 : Int32))).2.1 ?_
 refine walN X246 hx hby d22_10 rfl rfl ?_
 show Ends _ _ _ _ T246 (mkF m 11 #[cr b228, ci 1, ci 1] [(.ref b228)]) _ _ _
 refine wilN X246 hx hby d22_11 rfl ?_
 obtain ⟨cq247, kq247, q247a, q247b, q247c⟩ := isOf hZ e246 (PE_b228.keep K246c)
 obtain ⟨_, _, ⟨T247, L247, k247, n247⟩, -, X247, ⟨Lc247, hQ247, l247, y247, z247⟩, st247⟩ := X246.virtualBack hx (y := ym17) (z := ym17) hown (mvT hZ (ow hw 95 rfl)) (mvT hZ (ow hw 96 rfl)) (notFace_of_selects (args := #[]) (mvT hZ (ow hw 98 rfl))) (mvT hZ (ow hw 98 rfl)) (mvT hZ (ow hw 97 rfl)) (by decide) (own_backOf (W := 0) (rx17_205 l Z a0 hw [] n0 h246 O246 G1 G3 w_NULL w_NUMBER w_NULL2 w_STRING GF b228 b230 k232 p1 (PF_b228_coder.keep K246c nin0) (PE_b228.keep K246c) (PF_b228_value.keep K246c nin0) (PV_b230.keep K246c nin0) hDG) hZ (ow hw 99 rfl) (ow hw 19 rfl) (by decide) (by decide)) q247a q247c (g := (mkF m 12 #[cr b228, ci 1, ci 1] [(.int 1), (.ref b228)])) rfl (by rw [hml]; rfl) (Steps.refl _) (argsL := [(.int 1)]) (rest := []) (lenOf pdx_15 rfl) rfl (by show 2 * 0 + _ ≤ _; exact Nat.le_of_eq rfl) (hb hby d22_12) (fun _ _ => ⟨rfl, e246, (by decide : 0 + 0 ≤ _), (by decide : 0 + 0 ≤ _)⟩)
 dsimp only [Pt.U, Pt.locs, Pt.cells, Pt.slots] at X247 l247 y247 z247 st247 hQ247
 subst l247 y247 z247
 obtain ⟨rfl, N247q, K247c⟩ := hQ247
 have N247 := Fr.app N246 N247q
 refine Ends.go (fun _ k => st247.trans k) ?_
 obtain ⟨h247, e247⟩ : ∃ z, T247.heap = z := ⟨_, rfl⟩
 rw [e247] at K247c
 have K247 := K246.trans K247c all0
 have O247 := O246.keep K247c all0
 refine wbp X247 hx hby d22_15 ?_
 refine wcn X247 hx hby d22_17 (flt ((own_dlo hDG) : ¬ ((((48 : Int32) + ((p1 &&& (2147483647 : Int32)) % (10 : Int32))).toUInt32.toUInt16.toUInt32.toInt32) < (48 : Int32)))).1 ?_
 show Ends _ _ _ _ T247 (mkF m 20 #[cr b228, ci 1, ci 1] []) _ _ _
 refine walN X247 hx hby d22_20 rfl rfl ?_
 refine wilN X247 hx hby d22_21 rfl ?_
 obtain ⟨cq248, kq248, q248a, q248b, q248c⟩ := isOf hZ e247 ((PE_b228.keep K246c).keep K247c)
 obtain ⟨_, _, ⟨T248, L248, k248, n248⟩, -, X248, ⟨Lc248, hQ248, l248, y248, z248⟩, st248⟩ := X247.virtualBack hx (y := ym17) (z := ym17) hown (mvT hZ (ow hw 95 rfl)) (mvT hZ (ow hw 96 rfl)) (notFace_of_selects (args := #[]) (mvT hZ (ow hw 98 rfl))) (mvT hZ (ow hw 98 rfl)) (mvT hZ (ow hw 97 rfl)) (by decide) (own_backOf (W := 0) (rx17_205 l Z a0 hw [] n0 h247 O247 G1 G3 w_NULL w_NUMBER w_NULL2 w_STRING GF b228 b230 k232 p1 ((PF_b228_coder.keep K246c nin0).keep K247c nin0) ((PE_b228.keep K246c).keep K247c) ((PF_b228_value.keep K246c nin0).keep K247c nin0) ((PV_b230.keep K246c nin0).keep K247c nin0) hDG) hZ (ow hw 99 rfl) (ow hw 19 rfl) (by decide) (by decide)) q248a q248c (g := (mkF m 22 #[cr b228, ci 1, ci 1] [(.int 1), (.ref b228)])) rfl (by rw [hml]; rfl) (Steps.refl _) (argsL := [(.int 1)]) (rest := []) (lenOf pdx_15 rfl) rfl (by show 2 * 0 + _ ≤ _; exact Nat.le_of_eq rfl) (hb hby d22_22) (fun _ _ => ⟨rfl, e247, (by decide : 0 + 0 ≤ _), (by decide : 0 + 0 ≤ _)⟩)
 dsimp only [Pt.U, Pt.locs, Pt.cells, Pt.slots] at X248 l248 y248 z248 st248 hQ248
 subst l248 y248 z248
 obtain ⟨rfl, N248q, K248c⟩ := hQ248
 have N248 := Fr.app N247 N248q
 refine Ends.go (fun _ k => st248.trans k) ?_
 obtain ⟨h248, e248⟩ : ∃ z, T248.heap = z := ⟨_, rfl⟩
 rw [e248] at K248c
 have K248 := K247.trans K248c all0
 have O248 := O247.keep K248c all0
 refine wbp X248 hx hby d22_25 ?_
 show Ends _ _ _ _ T248 (mkF m 27 #[cr b228, ci 1, ci 1] [(.int 57), (.int (((48 : Int32) + ((p1 &&& (2147483647 : Int32)) % (10 : Int32))).toUInt32.toUInt16.toUInt32.toInt32))]) _ _ _
 refine wcn X248 hx hby d22_27 (flt ((own_dhi hDG) : ¬ ((57 : Int32) < (((48 : Int32) + ((p1 &&& (2147483647 : Int32)) % (10 : Int32))).toUInt32.toUInt16.toUInt32.toInt32)))).2.2.1 ?_
 refine wii X248 hx hby d22_30 (l' := #[cr b228, ci 1, ci 2]) rfl rfl ?_
 refine wgo (pc := 33) (pc' := 2) X248 hx hby d22_33 (by decide) (by decide) ?_
 refine wilN X248 hx hby d22_2 rfl ?_
 show Ends _ _ _ _ T248 (mkF m 3 #[cr b228, ci 1, ci 2] [(.int 2)]) _ _ _
 refine walN X248 hx hby d22_3 rfl rfl ?_
 obtain ⟨cq249, kq249, q249a, q249b, q249c⟩ := isOf hZ e248 (((PE_b228.keep K246c).keep K247c).keep K248c)
 obtain ⟨_, _, ⟨T249, L249, k249, n249⟩, -, X249, ⟨Lc249, hQ249, l249, y249, z249⟩, st249⟩ := X248.virtualBack hx (y := ym14) (z := ym14) hown (mvT hZ (ow hw 85 rfl)) (mvT hZ (ow hw 86 rfl)) (notFace_of_selects (args := #[]) (mvT hZ (ow hw 88 rfl))) (mvT hZ (ow hw 88 rfl)) (mvT hZ (ow hw 87 rfl)) (by decide) (own_backOf (W := 1) (rx15_190 l Z a0 hw [] n0 h248 O248 G1 G3 w_NULL w_NUMBER w_NULL2 w_STRING GF b228 b230 k232 p1 (((PF_b228_value.keep K246c nin0).keep K247c nin0).keep K248c nin0) (((PV_b230.keep K246c nin0).keep K247c nin0).keep K248c nin0) (((PF_b228_coder.keep K246c nin0).keep K247c nin0).keep K248c nin0) (((PE_b228.keep K246c).keep K247c).keep K248c)) hZ (ow hw 89 rfl) (ow hw 19 rfl) (by decide) (by decide)) q249a q249c (g := (mkF m 4 #[cr b228, ci 1, ci 2] [(.ref b228), (.int 2)])) rfl (by rw [hml]; rfl) (Steps.refl _) (argsL := []) (rest := [(.int 2)]) (lenOf pdx_12 rfl) rfl (by show 2 * 0 + _ ≤ _; exact Nat.le_of_eq rfl) (hb hby d22_4) (fun _ _ => ⟨rfl, e248, (by decide : 0 + 0 ≤ _), (by decide : 0 + 0 ≤ _)⟩)
 dsimp only [Pt.U, Pt.locs, Pt.cells, Pt.slots] at X249 l249 y249 z249 st249 hQ249
 subst l249 y249 z249
 obtain ⟨rfl, N249q, K249c⟩ := hQ249
 have N249 := Fr.app N248 N249q
 refine Ends.go (fun _ k => st249.trans k) ?_
 obtain ⟨h249, e249⟩ : ∃ z, T249.heap = z := ⟨_, rfl⟩
 rw [e249] at K249c
 have K249 := K248.trans K249c all0
 have O249 := O248.keep K249c all0
 refine wcy (pc := 7) (pc' := 36) X249 hx hby d22_7 (flt (by decide : ¬ ((2 : Int32) < (2 : Int32)))).2.1 (by decide) (by decide) ?_
 refine wilN X249 hx hby d22_36 rfl ?_
 show Ends _ _ _ _ T249 (mkF m 37 #[cr b228, ci 1, ci 2] [(.int 2)]) _ _ _
 refine wilN X249 hx hby d22_37 rfl ?_
 refine wcn X249 hx hby d22_38 (tlt (by decide : (1 : Int32) < (2 : Int32))).2.2.2 ?_
 refine wilN X249 hx hby d22_41 rfl ?_
 refine wgo (pc := 42) (pc' := 46) X249 hx hby d22_42 (by decide) (by decide) ?_
 show Ends _ _ _ _ T249 (mkF m 46 #[cr b228, ci 1, ci 2] [(.int 2)]) _ _ _
 refine Ends.ret X249 hx Bd.notSynchronized (t := .int) Bd.returns rfl (Or.inl ⟨rfl, by simp, _, rfl⟩) (hb hby d22_46) (by decide) (by decide) ?_
 rw [e249]
 exact ⟨rfl, N249, K249⟩

set_option maxRecDepth 65536 in
set_option maxHeartbeats 40000000 in
theorem rx14_240 (l : Launch) (Z : State) (a0 : Array Value) (hw : ∀ d ∈ tables_1, d.before a0 Z = true) (ws : List Jvm.Cond) (n0 : Nat) (h0 : Heap) (O0 : Old Z n0 h0) (G1 : Int32) (G3 : Value) (w_NULL : Addr) (w_NUMBER : Addr) (w_NULL2 : Addr) (w_STRING : Addr) (GF : GlobF Z a0 G1 G3 w_NULL w_NUMBER w_NULL2 w_STRING) (b228 : Addr) (b230 : Addr) (k232 : ClassId) (p1 : Int32) (PF_b228_value : Fld Z h0 b228 "java/lang/String" "value" "[B" (.ref b230)) (PV_b230 : Arv Z h0 b230 k232 .byte (2 : Int32) [(.int 45), (.int ((((48 : Int32) + ((p1 &&& (2147483647 : Int32)) % (10 : Int32))).toUInt32.toUInt16.toUInt32.toInt32).toInt8.toInt32))] (.int 0)) (PF_b228_coder : Fld Z h0 b228 "java/lang/String" "coder" "B" (.int 0)) (PE_b228 : Exa Z h0 b228 "java/lang/String") (hDG : own_dig (((48 : Int32) + ((p1 &&& (2147483647 : Int32)) % (10 : Int32))).toUInt32.toUInt16.toUInt32.toInt32)) (hd48_ : ¬ ((((48 : Int32) + ((p1 &&& (2147483647 : Int32)) % (10 : Int32))).toUInt32.toUInt16.toUInt32.toInt32) = (48 : Int32))) :
  Meets1 l ym18 prog_10_method_4_code 2 (some .int) ws ({ frames := 5, cells := 0, slots := 0, locals := 67 } : Room) #[(.ref b228)] Z h0 (fun v h L => v = some (.int 2) ∧ Fr n0 L ∧ Keep h0 h []) := by
 refine MetFree.of_bodySF (plainFor_of_name pn14) hisR ?_
 intro p e s m args below meth c s₁ Bd hml0 hP hK
 obtain ⟨rfl, hZ, hh⟩ := hP
 have hx := Bd.exec
 have hby := Bd.bytes
 have hml : c.maxLocals = 2 := hml0
 have hown : s.vm.findClass "com/example/wakeline/wakeline/event/NumberSyntax" = some m.cls := findClass_of_methodNamed Bd.named
 have hnm := (name_of_methodNamed Bd.named Bd.method).1
 have X0 : Stand p l e ({ frames := 5, cells := 0, slots := 0, locals := 67 } : Room) s m #[(.ref b228)] below meth c s₁ [] 0 0 := Stand.of_body Bd
 have e0 : s₁.heap = h0 := by rw [← hh, Bd.state]; rfl
 have N0 := Fr.nil n0
 have Z0 := own_old_le O0
 show Ends _ _ _ _ s₁ (entryFrame m #[(.ref b228)] 2) ({ frames := 5, cells := 0, slots := 0, locals := 67 } : Room).cells ({ frames := 5, cells := 0, slots := 0, locals := 67 } : Room).slots (fun v h L => v = some (.int 2) ∧ Fr n0 L ∧ Keep h0 h [])
 refine Ends.go (fun _ k => castTop (ef14_r m b228) k) ?_
 obtain ⟨SCS, P5, SSF, RG3, HCST, HCW, S_NULL, E_NULL, S_NUMBER, E_NUMBER, F_ordinal_NULL, F_ordinal_NUMBER, S_NULL2, E_NULL2, F_kind_NULL2, S_STRING, E_STRING, F_ordinal_STRING⟩ := id GF
 have K0 := Keep.refl h0 []
 show Ends _ _ _ _ s₁ (mkF m 0 #[cr b228, cu] []) _ _ _
 refine wic X0 hx hby d14_0 ?_
 refine wstN X0 hx hby d14_1 (l' := #[cr b228, ci 0]) rfl ?_
 refine wilN X0 hx hby d14_2 rfl ?_
 show Ends _ _ _ _ s₁ (mkF m 3 #[cr b228, ci 0] [(.int 0)]) _ _ _
 refine walN X0 hx hby d14_3 rfl rfl ?_
 obtain ⟨cq241, kq241, q241a, q241b, q241c⟩ := isOf hZ e0 PE_b228
 obtain ⟨_, _, ⟨T241, L241, k241, n241⟩, -, X241, ⟨Lc241, hQ241, l241, y241, z241⟩, st241⟩ := X0.virtualBack hx (y := ym14) (z := ym14) hown (mvT hZ (ow hw 85 rfl)) (mvT hZ (ow hw 86 rfl)) (notFace_of_selects (args := #[]) (mvT hZ (ow hw 88 rfl))) (mvT hZ (ow hw 88 rfl)) (mvT hZ (ow hw 87 rfl)) (by decide) (own_backOf (W := 1) (rx15_190 l Z a0 hw [] n0 h0 O0 G1 G3 w_NULL w_NUMBER w_NULL2 w_STRING GF b228 b230 k232 p1 PF_b228_value PV_b230 PF_b228_coder PE_b228) hZ (ow hw 89 rfl) (ow hw 19 rfl) (by decide) (by decide)) q241a q241c (g := (mkF m 4 #[cr b228, ci 0] [(.ref b228), (.int 0)])) rfl (by rw [hml]; rfl) (Steps.refl _) (argsL := []) (rest := [(.int 0)]) (lenOf pdx_12 rfl) rfl (by show 2 * 0 + _ ≤ _; exact Nat.le_of_eq rfl) (hb hby d14_4) (fun _ _ => ⟨rfl, e0, (by decide : 0 + 0 ≤ _), (by decide : 0 + 0 ≤ _)⟩)
 dsimp only [Pt.U, Pt.locs, Pt.cells, Pt.slots] at X241 l241 y241 z241 st241 hQ241
 subst l241 y241 z241
 obtain ⟨rfl, N241q, K241c⟩ := hQ241
 have N241 := Fr.app N0 N241q
 refine Ends.go (fun _ k => st241.trans k) ?_
 obtain ⟨h241, e241⟩ : ∃ z, T241.heap = z := ⟨_, rfl⟩
 rw [e241] at K241c
 have K241 := K0.trans K241c all0
 have O241 := O0.keep K241c all0
 refine wcn X241 hx hby d14_7 (tlt (by decide : (0 : Int32) < (2 : Int32))).2.1 ?_
 refine walN X241 hx hby d14_10 rfl rfl ?_
 show Ends _ _ _ _ T241 (mkF m 11 #[cr b228, ci 0] [(.ref b228)]) _ _ _
 refine wilN X241 hx hby d14_11 rfl ?_
 obtain ⟨cq242, kq242, q242a, q242b, q242c⟩ := isOf hZ e241 (PE_b228.keep K241c)
 obtain ⟨_, _, ⟨T242, L242, k242, n242⟩, -, X242, ⟨Lc242, hQ242, l242, y242, z242⟩, st242⟩ := X241.virtualBack hx (y := ym17) (z := ym17) hown (mvT hZ (ow hw 95 rfl)) (mvT hZ (ow hw 96 rfl)) (notFace_of_selects (args := #[]) (mvT hZ (ow hw 98 rfl))) (mvT hZ (ow hw 98 rfl)) (mvT hZ (ow hw 97 rfl)) (by decide) (own_backOf (W := 0) (rx17_195 l Z a0 hw [] n0 h241 O241 G1 G3 w_NULL w_NUMBER w_NULL2 w_STRING GF b228 b230 k232 p1 (PF_b228_coder.keep K241c nin0) (PE_b228.keep K241c) (PF_b228_value.keep K241c nin0) (PV_b230.keep K241c nin0)) hZ (ow hw 99 rfl) (ow hw 19 rfl) (by decide) (by decide)) q242a q242c (g := (mkF m 12 #[cr b228, ci 0] [(.int 0), (.ref b228)])) rfl (by rw [hml]; rfl) (Steps.refl _) (argsL := [(.int 0)]) (rest := []) (lenOf pdx_15 rfl) rfl (by show 2 * 0 + _ ≤ _; exact Nat.le_of_eq rfl) (hb hby d14_12) (fun _ _ => ⟨rfl, e241, (by decide : 0 + 0 ≤ _), (by decide : 0 + 0 ≤ _)⟩)
 dsimp only [Pt.U, Pt.locs, Pt.cells, Pt.slots] at X242 l242 y242 z242 st242 hQ242
 subst l242 y242 z242
 obtain ⟨rfl, N242q, K242c⟩ := hQ242
 have N242 := Fr.app N241 N242q
 refine Ends.go (fun _ k => st242.trans k) ?_
 obtain ⟨h242, e242⟩ : ∃ z, T242.heap = z := ⟨_, rfl⟩
 rw [e242] at K242c
 have K242 := K241.trans K242c all0
 have O242 := O241.keep K242c all0
 refine wbp X242 hx hby d14_15 ?_
 refine wcn X242 hx hby d14_17 (teq (by decide : (45 : Int32) = (45 : Int32))).2 ?_
 show Ends _ _ _ _ T242 (mkF m 20 #[cr b228, ci 0] []) _ _ _
 refine wii X242 hx hby d14_20 (l' := #[cr b228, ci 1]) rfl rfl ?_
 refine wilN X242 hx hby d14_23 rfl ?_
 refine walN X242 hx hby d14_24 rfl rfl ?_
 obtain ⟨cq243, kq243, q243a, q243b, q243c⟩ := isOf hZ e242 ((PE_b228.keep K241c).keep K242c)
 obtain ⟨_, _, ⟨T243, L243, k243, n243⟩, -, X243, ⟨Lc243, hQ243, l243, y243, z243⟩, st243⟩ := X242.virtualBack hx (y := ym14) (z := ym14) hown (mvT hZ (ow hw 85 rfl)) (mvT hZ (ow hw 86 rfl)) (notFace_of_selects (args := #[]) (mvT hZ (ow hw 88 rfl))) (mvT hZ (ow hw 88 rfl)) (mvT hZ (ow hw 87 rfl)) (by decide) (own_backOf (W := 1) (rx15_190 l Z a0 hw [] n0 h242 O242 G1 G3 w_NULL w_NUMBER w_NULL2 w_STRING GF b228 b230 k232 p1 ((PF_b228_value.keep K241c nin0).keep K242c nin0) ((PV_b230.keep K241c nin0).keep K242c nin0) ((PF_b228_coder.keep K241c nin0).keep K242c nin0) ((PE_b228.keep K241c).keep K242c)) hZ (ow hw 89 rfl) (ow hw 19 rfl) (by decide) (by decide)) q243a q243c (g := (mkF m 25 #[cr b228, ci 1] [(.ref b228), (.int 1)])) rfl (by rw [hml]; rfl) (Steps.refl _) (argsL := []) (rest := [(.int 1)]) (lenOf pdx_12 rfl) rfl (by show 2 * 0 + _ ≤ _; exact Nat.le_of_eq rfl) (hb hby d14_25) (fun _ _ => ⟨rfl, e242, (by decide : 0 + 0 ≤ _), (by decide : 0 + 0 ≤ _)⟩)
 dsimp only [Pt.U, Pt.locs, Pt.cells, Pt.slots] at X243 l243 y243 z243 st243 hQ243
 subst l243 y243 z243
 obtain ⟨rfl, N243q, K243c⟩ := hQ243
 have N243 := Fr.app N242 N243q
 refine Ends.go (fun _ k => st243.trans k) ?_
 obtain ⟨h243, e243⟩ : ∃ z, T243.heap = z := ⟨_, rfl⟩
 rw [e243] at K243c
 have K243 := K242.trans K243c all0
 have O243 := O242.keep K243c all0
 show Ends _ _ _ _ T243 (mkF m 28 #[cr b228, ci 1] [(.int 2), (.int 1)]) _ _ _
 refine wcn X243 hx hby d14_28 (tlt (by decide : (1 : Int32) < (2 : Int32))).2.1 ?_
 refine walN X243 hx hby d14_31 rfl rfl ?_
 refine wilN X243 hx hby d14_32 rfl ?_
 obtain ⟨cq244, kq244, q244a, q244b, q244c⟩ := isOf hZ e243 (((PE_b228.keep K241c).keep K242c).keep K243c)
 obtain ⟨_, _, ⟨T244, L244, k244, n244⟩, -, X244, ⟨Lc244, hQ244, l244, y244, z244⟩, st244⟩ := X243.virtualBack hx (y := ym17) (z := ym17) hown (mvT hZ (ow hw 95 rfl)) (mvT hZ (ow hw 96 rfl)) (notFace_of_selects (args := #[]) (mvT hZ (ow hw 98 rfl))) (mvT hZ (ow hw 98 rfl)) (mvT hZ (ow hw 97 rfl)) (by decide) (own_backOf (W := 0) (rx17_205 l Z a0 hw [] n0 h243 O243 G1 G3 w_NULL w_NUMBER w_NULL2 w_STRING GF b228 b230 k232 p1 (((PF_b228_coder.keep K241c nin0).keep K242c nin0).keep K243c nin0) (((PE_b228.keep K241c).keep K242c).keep K243c) (((PF_b228_value.keep K241c nin0).keep K242c nin0).keep K243c nin0) (((PV_b230.keep K241c nin0).keep K242c nin0).keep K243c nin0) hDG) hZ (ow hw 99 rfl) (ow hw 19 rfl) (by decide) (by decide)) q244a q244c (g := (mkF m 33 #[cr b228, ci 1] [(.int 1), (.ref b228)])) rfl (by rw [hml]; rfl) (Steps.refl _) (argsL := [(.int 1)]) (rest := []) (lenOf pdx_15 rfl) rfl (by show 2 * 0 + _ ≤ _; exact Nat.le_of_eq rfl) (hb hby d14_33) (fun _ _ => ⟨rfl, e243, (by decide : 0 + 0 ≤ _), (by decide : 0 + 0 ≤ _)⟩)
 dsimp only [Pt.U, Pt.locs, Pt.cells, Pt.slots] at X244 l244 y244 z244 st244 hQ244
 subst l244 y244 z244
 obtain ⟨rfl, N244q, K244c⟩ := hQ244
 have N244 := Fr.app N243 N244q
 refine Ends.go (fun _ k => st244.trans k) ?_
 obtain ⟨h244, e244⟩ : ∃ z, T244.heap = z := ⟨_, rfl⟩
 rw [e244] at K244c
 have K244 := K243.trans K244c all0
 have O244 := O243.keep K244c all0
 show Ends _ _ _ _ T244 (mkF m 36 #[cr b228, ci 1] [(.int (((48 : Int32) + ((p1 &&& (2147483647 : Int32)) % (10 : Int32))).toUInt32.toUInt16.toUInt32.toInt32))]) _ _ _
 refine wbp X244 hx hby d14_36 ?_
 refine wcy (pc := 38) (pc' := 45) X244 hx hby d14_38 (feq (hd48_ : ¬ ((((48 : Int32) + ((p1 &&& (2147483647 : Int32)) % (10 : Int32))).toUInt32.toUInt16.toUInt32.toInt32) = (48 : Int32)))).2 (by decide) (by decide) ?_
 refine walN X244 hx hby d14_45 rfl rfl ?_
 refine wilN X244 hx hby d14_46 rfl ?_
 show Ends _ _ _ _ T244 (mkF m 47 #[cr b228, ci 1] [(.int 1), (.ref b228)]) _ _ _
 obtain ⟨_, _, ⟨T250, L250, k250, n250⟩, -, X250, ⟨Lc250, hQ250, l250, y250, z250⟩, st250⟩ := Jvm.LawKit.callS X244 hx (y := ym20) hown (mvT hZ (ow hw 116 rfl)) (mvT hZ (ow hw 117 rfl)) (mvT hZ (ow hw 80 rfl)) (mvT hZ (ow hw 118 rfl)) (by decide) (own_backOf (W := 0) (rx22_245 l Z a0 hw [] n0 h244 O244 G1 G3 w_NULL w_NUMBER w_NULL2 w_STRING GF b228 b230 k232 p1 ((((PF_b228_value.keep K241c nin0).keep K242c nin0).keep K243c nin0).keep K244c nin0) ((((PV_b230.keep K241c nin0).keep K242c nin0).keep K243c nin0).keep K244c nin0) ((((PF_b228_coder.keep K241c nin0).keep K242c nin0).keep K243c nin0).keep K244c nin0) ((((PE_b228.keep K241c).keep K242c).keep K243c).keep K244c) hDG) hZ (ow hw 118 rfl) (ow hw 80 rfl) (by decide) (by decide)) (g := (mkF m 47 #[cr b228, ci 1] [(.int 1), (.ref b228)])) rfl (by rw [hml]; rfl) (argsL := [(.ref b228), (.int 1)]) (rest := []) (lenOf pdx_18 rfl) rfl (by show 2 * 0 + _ ≤ _; exact Nat.le_of_eq rfl) (hb hby d14_47) (fun _ _ => ⟨rfl, e244, (by decide : 0 + 0 ≤ _), (by decide : 0 + 0 ≤ _)⟩)
 dsimp only [Pt.U, Pt.locs, Pt.cells, Pt.slots] at X250 l250 y250 z250 st250 hQ250
 subst l250 y250 z250
 obtain ⟨rfl, N250q, K250c⟩ := hQ250
 have N250 := Fr.app N244 N250q
 refine Ends.go st250 ?_
 obtain ⟨h250, e250⟩ : ∃ z, T250.heap = z := ⟨_, rfl⟩
 rw [e250] at K250c
 have K250 := K244.trans K250c all0
 have O250 := O244.keep K250c all0
 refine Ends.ret X250 hx Bd.notSynchronized (t := .int) Bd.returns rfl (Or.inl ⟨rfl, by simp, _, rfl⟩) (hb hby d14_50) (by decide) (by decide) ?_
 rw [e250]
 exact ⟨rfl, N250, K250⟩

set_option maxRecDepth 65536 in
set_option maxHeartbeats 40000000 in
theorem rx13_239 (l : Launch) (Z : State) (a0 : Array Value) (hw : ∀ d ∈ tables_1, d.before a0 Z = true) (ws : List Jvm.Cond) (n0 : Nat) (h0 : Heap) (O0 : Old Z n0 h0) (G1 : Int32) (G3 : Value) (w_NULL : Addr) (w_NUMBER : Addr) (w_NULL2 : Addr) (w_STRING : Addr) (GF : GlobF Z a0 G1 G3 w_NULL w_NUMBER w_NULL2 w_STRING) (b228 : Addr) (b230 : Addr) (k232 : ClassId) (p1 : Int32) (PF_b228_value : Fld Z h0 b228 "java/lang/String" "value" "[B" (.ref b230)) (PV_b230 : Arv Z h0 b230 k232 .byte (2 : Int32) [(.int 45), (.int ((((48 : Int32) + ((p1 &&& (2147483647 : Int32)) % (10 : Int32))).toUInt32.toUInt16.toUInt32.toInt32).toInt8.toInt32))] (.int 0)) (PF_b228_coder : Fld Z h0 b228 "java/lang/String" "coder" "B" (.int 0)) (PE_b228 : Exa Z h0 b228 "java/lang/String") (hDG : own_dig (((48 : Int32) + ((p1 &&& (2147483647 : Int32)) % (10 : Int32))).toUInt32.toUInt16.toUInt32.toInt32)) (hd48_ : ¬ ((((48 : Int32) + ((p1 &&& (2147483647 : Int32)) % (10 : Int32))).toUInt32.toUInt16.toUInt32.toInt32) = (48 : Int32))) :
  Meets1 l ym19 prog_10_method_3_code 2 (some .boolean) ws ({ frames := 6, cells := 0, slots := 0, locals := 80 } : Room) #[(.ref b228)] Z h0 (fun v h L => v = some (.int 1) ∧ Fr n0 L ∧ Keep h0 h []) := by
 refine MetFree.of_bodySF (plainFor_of_name pn13) hisR ?_
 intro p e s m args below meth c s₁ Bd hml0 hP hK
 obtain ⟨rfl, hZ, hh⟩ := hP
 have hx := Bd.exec
 have hby := Bd.bytes
 have hml : c.maxLocals = 2 := hml0
 have hown : s.vm.findClass "com/example/wakeline/wakeline/event/NumberSyntax" = some m.cls := findClass_of_methodNamed Bd.named
 have hnm := (name_of_methodNamed Bd.named Bd.method).1
 have X0 : Stand p l e ({ frames := 6, cells := 0, slots := 0, locals := 80 } : Room) s m #[(.ref b228)] below meth c s₁ [] 0 0 := Stand.of_body Bd
 have e0 : s₁.heap = h0 := by rw [← hh, Bd.state]; rfl
 have N0 := Fr.nil n0
 have Z0 := own_old_le O0
 show Ends _ _ _ _ s₁ (entryFrame m #[(.ref b228)] 2) ({ frames := 6, cells := 0, slots := 0, locals := 80 } : Room).cells ({ frames := 6, cells := 0, slots := 0, locals := 80 } : Room).slots (fun v h L => v = some (.int 1) ∧ Fr n0 L ∧ Keep h0 h [])
 refine Ends.go (fun _ k => castTop (ef13_r m b228) k) ?_
 obtain ⟨SCS, P5, SSF, RG3, HCST, HCW, S_NULL, E_NULL, S_NUMBER, E_NUMBER, F_ordinal_NULL, F_ordinal_NUMBER, S_NULL2, E_NULL2, F_kind_NULL2, S_STRING, E_STRING, F_ordinal_STRING⟩ := id GF
 have K0 := Keep.refl h0 []
 show Ends _ _ _ _ s₁ (mkF m 0 #[cr b228, cu] []) _ _ _
 refine walN X0 hx hby d13_0 rfl rfl ?_
 obtain ⟨_, _, ⟨T251, L251, k251, n251⟩, -, X251, ⟨Lc251, hQ251, l251, y251, z251⟩, st251⟩ := Jvm.LawKit.callS X0 hx (y := ym18) hown (mvT hZ (ow hw 82 rfl)) (mvT hZ (ow hw 83 rfl)) (mvT hZ (ow hw 80 rfl)) (mvT hZ (ow hw 84 rfl)) (by decide) (own_backOf (W := 0) (rx14_240 l Z a0 hw [] n0 h0 O0 G1 G3 w_NULL w_NUMBER w_NULL2 w_STRING GF b228 b230 k232 p1 PF_b228_value PV_b230 PF_b228_coder PE_b228 hDG hd48_) hZ (ow hw 84 rfl) (ow hw 80 rfl) (by decide) (by decide)) (g := (mkF m 1 #[cr b228, cu] [(.ref b228)])) rfl (by rw [hml]; rfl) (argsL := [(.ref b228)]) (rest := []) (lenOf pdx_16 rfl) rfl (by show 2 * 0 + _ ≤ _; exact Nat.le_of_eq rfl) (hb hby d13_1) (fun _ _ => ⟨rfl, e0, (by decide : 0 + 0 ≤ _), (by decide : 0 + 0 ≤ _)⟩)
 dsimp only [Pt.U, Pt.locs, Pt.cells, Pt.slots] at X251 l251 y251 z251 st251 hQ251
 subst l251 y251 z251
 obtain ⟨rfl, N251q, K251c⟩ := hQ251
 have N251 := Fr.app N0 N251q
 refine Ends.go st251 ?_
 obtain ⟨h251, e251⟩ : ∃ z, T251.heap = z := ⟨_, rfl⟩
 rw [e251] at K251c
 have K251 := K0.trans K251c all0
 have O251 := O0.keep K251c all0
 refine wstN X251 hx hby d13_4 (l' := #[cr b228, ci 2]) rfl ?_
 show Ends _ _ _ _ T251 (mkF m 5 #[cr b228, ci 2] []) _ _ _
 refine wilN X251 hx hby d13_5 rfl ?_
 refine wiy (pc := 6) (pc' := 11) X251 hx hby d13_6 ((if0 _ _).trans (flt (by decide : ¬ ((2 : Int32) < (0 : Int32)))).2.1) (by decide) (by decide) ?_
 refine wilN X251 hx hby d13_11 rfl ?_
 refine walN X251 hx hby d13_12 rfl rfl ?_
 show Ends _ _ _ _ T251 (mkF m 13 #[cr b228, ci 2] [(.ref b228), (.int 2)]) _ _ _
 obtain ⟨cq252, kq252, q252a, q252b, q252c⟩ := isOf hZ e251 (PE_b228.keep K251c)
 obtain ⟨_, _, ⟨T252, L252, k252, n252⟩, -, X252, ⟨Lc252, hQ252, l252, y252, z252⟩, st252⟩ := X251.virtualBack hx (y := ym14) (z := ym14) hown (mvT hZ (ow hw 85 rfl)) (mvT hZ (ow hw 86 rfl)) (notFace_of_selects (args := #[]) (mvT hZ (ow hw 88 rfl))) (mvT hZ (ow hw 88 rfl)) (mvT hZ (ow hw 87 rfl)) (by decide) (own_backOf (W := 1) (rx15_190 l Z a0 hw [] n0 h251 O251 G1 G3 w_NULL w_NUMBER w_NULL2 w_STRING GF b228 b230 k232 p1 (PF_b228_value.keep K251c nin0) (PV_b230.keep K251c nin0) (PF_b228_coder.keep K251c nin0) (PE_b228.keep K251c)) hZ (ow hw 89 rfl) (ow hw 19 rfl) (by decide) (by decide)) q252a q252c (g := (mkF m 13 #[cr b228, ci 2] [(.ref b228), (.int 2)])) rfl (by rw [hml]; rfl) (Steps.refl _) (argsL := []) (rest := [(.int 2)]) (lenOf pdx_12 rfl) rfl (by show 2 * 0 + _ ≤ _; exact Nat.le_of_eq rfl) (hb hby d13_13) (fun _ _ => ⟨rfl, e251, (by decide : 0 + 0 ≤ _), (by decide : 0 + 0 ≤ _)⟩)
 dsimp only [Pt.U, Pt.locs, Pt.cells, Pt.slots] at X252 l252 y252 z252 st252 hQ252
 subst l252 y252 z252
 obtain ⟨rfl, N252q, K252c⟩ := hQ252
 have N252 := Fr.app N251 N252q
 refine Ends.go (fun _ k => st252.trans k) ?_
 obtain ⟨h252, e252⟩ : ∃ z, T252.heap = z := ⟨_, rfl⟩
 rw [e252] at K252c
 have K252 := K251.trans K252c all0
 have O252 := O251.keep K252c all0
 refine wcy (pc := 16) (pc' := 43) X252 hx hby d13_16 (flt (by decide : ¬ ((2 : Int32) < (2 : Int32)))).2.1 (by decide) (by decide) ?_
 refine wilN X252 hx hby d13_43 rfl ?_
 refine walN X252 hx hby d13_44 rfl rfl ?_
 show Ends _ _ _ _ T252 (mkF m 45 #[cr b228, ci 2] [(.ref b228), (.int 2)]) _ _ _
 obtain ⟨cq253, kq253, q253a, q253b, q253c⟩ := isOf hZ e252 ((PE_b228.keep K251c).keep K252c)
 obtain ⟨_, _, ⟨T253, L253, k253, n253⟩, -, X253, ⟨Lc253, hQ253, l253, y253, z253⟩, st253⟩ := X252.virtualBack hx (y := ym14) (z := ym14) hown (mvT hZ (ow hw 85 rfl)) (mvT hZ (ow hw 86 rfl)) (notFace_of_selects (args := #[]) (mvT hZ (ow hw 88 rfl))) (mvT hZ (ow hw 88 rfl)) (mvT hZ (ow hw 87 rfl)) (by decide) (own_backOf (W := 1) (rx15_190 l Z a0 hw [] n0 h252 O252 G1 G3 w_NULL w_NUMBER w_NULL2 w_STRING GF b228 b230 k232 p1 ((PF_b228_value.keep K251c nin0).keep K252c nin0) ((PV_b230.keep K251c nin0).keep K252c nin0) ((PF_b228_coder.keep K251c nin0).keep K252c nin0) ((PE_b228.keep K251c).keep K252c)) hZ (ow hw 89 rfl) (ow hw 19 rfl) (by decide) (by decide)) q253a q253c (g := (mkF m 45 #[cr b228, ci 2] [(.ref b228), (.int 2)])) rfl (by rw [hml]; rfl) (Steps.refl _) (argsL := []) (rest := [(.int 2)]) (lenOf pdx_12 rfl) rfl (by show 2 * 0 + _ ≤ _; exact Nat.le_of_eq rfl) (hb hby d13_45) (fun _ _ => ⟨rfl, e252, (by decide : 0 + 0 ≤ _), (by decide : 0 + 0 ≤ _)⟩)
 dsimp only [Pt.U, Pt.locs, Pt.cells, Pt.slots] at X253 l253 y253 z253 st253 hQ253
 subst l253 y253 z253
 obtain ⟨rfl, N253q, K253c⟩ := hQ253
 have N253 := Fr.app N252 N253q
 refine Ends.go (fun _ k => st253.trans k) ?_
 obtain ⟨h253, e253⟩ : ∃ z, T253.heap = z := ⟨_, rfl⟩
 rw [e253] at K253c
 have K253 := K252.trans K253c all0
 have O253 := O252.keep K253c all0
 refine wcy (pc := 48) (pc' := 111) X253 hx hby d13_48 (flt (by decide : ¬ ((2 : Int32) < (2 : Int32)))).2.1 (by decide) (by decide) ?_
 refine wilN X253 hx hby d13_111 rfl ?_
 refine walN X253 hx hby d13_112 rfl rfl ?_
 show Ends _ _ _ _ T253 (mkF m 113 #[cr b228, ci 2] [(.ref b228), (.int 2)]) _ _ _
 obtain ⟨cq254, kq254, q254a, q254b, q254c⟩ := isOf hZ e253 (((PE_b228.keep K251c).keep K252c).keep K253c)
 obtain ⟨_, _, ⟨T254, L254, k254, n254⟩, -, X254, ⟨Lc254, hQ254, l254, y254, z254⟩, st254⟩ := X253.virtualBack hx (y := ym14) (z := ym14) hown (mvT hZ (ow hw 85 rfl)) (mvT hZ (ow hw 86 rfl)) (notFace_of_selects (args := #[]) (mvT hZ (ow hw 88 rfl))) (mvT hZ (ow hw 88 rfl)) (mvT hZ (ow hw 87 rfl)) (by decide) (own_backOf (W := 1) (rx15_190 l Z a0 hw [] n0 h253 O253 G1 G3 w_NULL w_NUMBER w_NULL2 w_STRING GF b228 b230 k232 p1 (((PF_b228_value.keep K251c nin0).keep K252c nin0).keep K253c nin0) (((PV_b230.keep K251c nin0).keep K252c nin0).keep K253c nin0) (((PF_b228_coder.keep K251c nin0).keep K252c nin0).keep K253c nin0) (((PE_b228.keep K251c).keep K252c).keep K253c)) hZ (ow hw 89 rfl) (ow hw 19 rfl) (by decide) (by decide)) q254a q254c (g := (mkF m 113 #[cr b228, ci 2] [(.ref b228), (.int 2)])) rfl (by rw [hml]; rfl) (Steps.refl _) (argsL := []) (rest := [(.int 2)]) (lenOf pdx_12 rfl) rfl (by show 2 * 0 + _ ≤ _; exact Nat.le_of_eq rfl) (hb hby d13_113) (fun _ _ => ⟨rfl, e253, (by decide : 0 + 0 ≤ _), (by decide : 0 + 0 ≤ _)⟩)
 dsimp only [Pt.U, Pt.locs, Pt.cells, Pt.slots] at X254 l254 y254 z254 st254 hQ254
 subst l254 y254 z254
 obtain ⟨rfl, N254q, K254c⟩ := hQ254
 have N254 := Fr.app N253 N254q
 refine Ends.go (fun _ k => st254.trans k) ?_
 obtain ⟨h254, e254⟩ : ∃ z, T254.heap = z := ⟨_, rfl⟩
 rw [e254] at K254c
 have K254 := K253.trans K254c all0
 have O254 := O253.keep K254c all0
 refine wcn X254 hx hby d13_116 (teq (by decide : (2 : Int32) = (2 : Int32))).2 ?_
 refine wic X254 hx hby d13_119 ?_
 refine wgo (pc := 120) (pc' := 124) X254 hx hby d13_120 (by decide) (by decide) ?_
 show Ends _ _ _ _ T254 (mkF m 124 #[cr b228, ci 2] [(.int 1)]) _ _ _
 refine Ends.retZ X254 hx Bd.notSynchronized (t := .boolean) Bd.returns (by simp) (hb hby d13_124) (by decide) (by decide) ?_
 rw [e254]
 exact ⟨rfl, N254, K254⟩

set_option maxRecDepth 65536 in
set_option maxHeartbeats 40000000 in
theorem rx1_233 (l : Launch) (Z : State) (a0 : Array Value) (hw : ∀ d ∈ tables_1, d.before a0 Z = true) (ws : List Jvm.Cond) (n0 : Nat) (h0 : Heap) (O0 : Old Z n0 h0) (G1 : Int32) (G3 : Value) (w_NULL : Addr) (w_NUMBER : Addr) (w_NULL2 : Addr) (w_STRING : Addr) (GF : GlobF Z a0 G1 G3 w_NULL w_NUMBER w_NULL2 w_STRING) (b32 : Addr) (b228 : Addr) (b230 : Addr) (k232 : ClassId) (p1 : Int32) (PF_b228_value : Fld Z h0 b228 "java/lang/String" "value" "[B" (.ref b230)) (PV_b230 : Arv Z h0 b230 k232 .byte (2 : Int32) [(.int 45), (.int ((((48 : Int32) + ((p1 &&& (2147483647 : Int32)) % (10 : Int32))).toUInt32.toUInt16.toUInt32.toInt32).toInt8.toInt32))] (.int 0)) (PF_b228_coder : Fld Z h0 b228 "java/lang/String" "coder" "B" (.int 0)) (PE_b228 : Exa Z h0 b228 "java/lang/String") (PE_b32 : Exa Z h0 b32 "com/example/wakeline/wakeline/event/Value") (PF_b32_kind : Fld Z h0 b32 "com/example/wakeline/wakeline/event/Value" "kind" "Lcom/example/wakeline/wakeline/event/Value$Kind;" .null) (PF_b32_text : Fld Z h0 b32 "com/example/wakeline/wakeline/event/Value" "text" "Ljava/lang/String;" .null) (g_b32 : n0 ≤ b32) (hDG : own_dig (((48 : Int32) + ((p1 &&& (2147483647 : Int32)) % (10 : Int32))).toUInt32.toUInt16.toUInt32.toInt32)) (hd48_ : ¬ ((((48 : Int32) + ((p1 &&& (2147483647 : Int32)) % (10 : Int32))).toUInt32.toUInt16.toUInt32.toInt32) = (48 : Int32))) :
  Meets1W l ym4 prog_15_method_1_code 3 none ws ({ frames := 7, cells := 2, slots := 20, locals := 93 } : Room) #[(.ref b32), (.ref w_NUMBER), (.ref b228)] Z h0 false (fun v h L => v = none ∧ Fr n0 L ∧ Keep h0 h [b32] ∧ Fld Z h b32 "com/example/wakeline/wakeline/event/Value" "kind" "Lcom/example/wakeline/wakeline/event/Value$Kind;" (.ref w_NUMBER) ∧ Fld Z h b32 "com/example/wakeline/wakeline/event/Value" "text" "Ljava/lang/String;" (.ref b228)) := by
 refine MetFree.of_bodySF (plainFor_of_name pn1) hisR ?_
 intro p e s m args below meth c s₁ Bd hml0 hP hK
 obtain ⟨rfl, hZ, hh, hI⟩ := hP
 have hx := Bd.exec
 have hby := Bd.bytes
 have hml : c.maxLocals = 3 := hml0
 have hown : s.vm.findClass "com/example/wakeline/wakeline/event/Value" = some m.cls := findClass_of_methodNamed Bd.named
 have hnm := (name_of_methodNamed Bd.named Bd.method).1
 have X0 : Stand p l e ({ frames := 7, cells := 2, slots := 20, locals := 93 } : Room) s m #[(.ref b32), (.ref w_NUMBER), (.ref b228)] below meth c s₁ [] 0 0 := Stand.of_body Bd
 have e0 : s₁.heap = h0 := by rw [← hh, Bd.state]; rfl
 have N0 := Fr.nil n0
 have hS0 := own_since0 s
 have hk0 : s.heap.size ≤ h0.size := Nat.le_of_eq (congrArg Array.size hh)
 have Z0 := own_old_le O0
 show EndsW _ _ _ _ s₁ (entryFrame m #[(.ref b32), (.ref w_NUMBER), (.ref b228)] 3) ({ frames := 7, cells := 2, slots := 20, locals := 93 } : Room).cells ({ frames := 7, cells := 2, slots := 20, locals := 93 } : Room).slots (fun v h L => v = none ∧ Fr n0 L ∧ Keep h0 h [b32] ∧ Fld Z h b32 "com/example/wakeline/wakeline/event/Value" "kind" "Lcom/example/wakeline/wakeline/event/Value$Kind;" (.ref w_NUMBER) ∧ Fld Z h b32 "com/example/wakeline/wakeline/event/Value" "text" "Ljava/lang/String;" (.ref b228))
 refine EndsW.go (fun _ k => castTop (ef1_rrr m b32 w_NUMBER b228) k) ?_
 obtain ⟨SCS, P5, SSF, RG3, HCST, HCW, S_NULL, E_NULL, S_NUMBER, E_NUMBER, F_ordinal_NULL, F_ordinal_NUMBER, S_NULL2, E_NULL2, F_kind_NULL2, S_STRING, E_STRING, F_ordinal_STRING⟩ := id GF
 have K0 := Keep.refl h0 [b32]
 show EndsW _ _ _ _ s₁ (mkF m 0 #[cr b32, cr w_NUMBER, cr b228] []) _ _ _
 refine walNW X0 hx hby d1_0 rfl rfl ?_
 obtain ⟨_, _, ⟨T234, L234, k234, n234⟩, -, X234, ⟨Lc234, hQ234, l234, y234, z234⟩, st234⟩ := X0.specialBack hx (y := ym2) rfl hown (mvT hZ (ow hw 10 rfl)) (mvT hZ (ow hw 11 rfl)) (mvT hZ (ow hw 14 rfl)) (by decide) (own_backOf (W := 0) (rx2_5 l Z a0 hw [] n0 h0 O0  b32 ) hZ (ow hw 14 rfl) (ow hw 13 rfl) (by decide) (by decide)) (g := (mkF m 1 #[cr b32, cr w_NUMBER, cr b228] [(.ref b32)])) rfl (by rw [hml]; rfl) (Steps.refl _) (a := b32) (argsL := []) (rest := []) (lenOf pdx_0 rfl) rfl (by show 2 * 0 + _ ≤ _; exact Nat.le_of_eq rfl) (hb hby d1_1) (fun _ _ => ⟨rfl, e0, (by decide : 0 + 0 ≤ _), (by decide : 0 + 0 ≤ _)⟩)
 dsimp only [Pt.U, Pt.locs, Pt.cells, Pt.slots] at X234 l234 y234 z234 st234 hQ234
 subst l234 y234 z234
 obtain ⟨rfl, N234q, K234c⟩ := hQ234
 have N234 := Fr.app N0 N234q
 refine EndsW.go (fun _ k => st234.trans k) ?_
 obtain ⟨h234, e234⟩ : ∃ z, T234.heap = z := ⟨_, rfl⟩
 rw [e234] at K234c
 have K234 := K0.trans K234c all0
 have O234 := O0.keep K234c all0
 refine walNW X234 hx hby d1_4 rfl rfl ?_
 show EndsW _ _ _ _ T234 (mkF m 5 #[cr b32, cr w_NUMBER, cr b228] [(.ref w_NUMBER)]) _ _ _
 obtain ⟨a235, T235, h235, k235, X235, e235, E235, hS235, hk235, hZ, hown, st235⟩ := ldcS (s := s) (vm0 := s.vm) X234 hx hZ hown (ow hw 18 rfl) (own_atoms hw) e234 hS0 (Nat.le_trans hk0 K234c.1) (g := (mkF m 5 #[cr b32, cr w_NUMBER, cr b228] [(.ref w_NUMBER)])) rfl (hb hby d1_5) (n := 16) (by decide) (by decide) (by decide) (by decide)
 refine EndsW.go st235 ?_
 have K235 := K234.ext E235
 have O235 := O234.ext E235
 obtain ⟨_, _, ⟨T236, L236, k236, n236⟩, -, X236, ⟨Lc236, hQ236, l236, y236, z236⟩, st236⟩ := Jvm.LawKit.callS X235 hx (y := ym3) hown (mvT hZ (ow hw 26 rfl)) (mvT hZ (ow hw 27 rfl)) (mvT hZ (ow hw 28 rfl)) (mvT hZ (ow hw 29 rfl)) (by decide) (own_backOf (W := 0) (rx4_61 l Z a0 hw [] n0 h235 O235 G1 G3 w_NULL w_NUMBER w_NULL2 w_STRING GF a235 ) hZ (ow hw 29 rfl) (ow hw 28 rfl) (by decide) (by decide)) (g := (mkF m 7 #[cr b32, cr w_NUMBER, cr b228] [(.ref a235), (.ref w_NUMBER)])) rfl (by rw [hml]; rfl) (argsL := [(.ref w_NUMBER), (.ref a235)]) (rest := []) (lenOf pdx_1 rfl) rfl (by show 2 * 0 + _ ≤ _; exact Nat.le_of_eq rfl) (hb hby d1_7) (fun _ _ => ⟨rfl, e235, (by decide : 2 + 0 ≤ _), (by decide : 20 + 0 ≤ _)⟩)
 dsimp only [Pt.U, Pt.locs, Pt.cells, Pt.slots] at X236 l236 y236 z236 st236 hQ236
 subst l236 y236 z236
 obtain ⟨rfl, N236q, K236c⟩ := hQ236
 have N236 := Fr.app N234 N236q
 refine EndsW.go st236 ?_
 obtain ⟨h236, e236⟩ : ∃ z, T236.heap = z := ⟨_, rfl⟩
 rw [e236] at K236c
 have K236 := K235.trans K236c all0
 have O236 := O235.keep K236c all0
 refine .go (fun _ => XS.pop X236.here hx rfl (hb hby d1_10) rfl rfl) ?_
 refine walNW X236 hx hby d1_11 rfl rfl ?_
 show EndsW _ _ _ _ T236 (mkF m 12 #[cr b32, cr w_NUMBER, cr b228] [(.ref w_NUMBER)]) _ _ _
 obtain ⟨T237, X237, e237, st237⟩ := getS2 X236 hx hZ hown (host := "") (Or.inl (ow hw 30 rfl)) Via.refl e236 (S_NULL.ext O236.2) (g := (mkF m 12 #[cr b32, cr w_NUMBER, cr b228] [(.ref w_NUMBER)])) rfl (hb hby d1_12)
 refine EndsW.go st237 ?_
 refine .go (fun _ => Jvm.RoadKit.acmp (g := (mkF m 15 #[cr b32, cr w_NUMBER, cr b228] [(.ref w_NULL), (.ref w_NUMBER)])) X237 hx rfl rfl rfl (pc0 := 15) (pc' := 22) (same := false) rfl (hb hby d1_15) rfl (decide_eq_false fun q => (Fld.ne F_ordinal_NUMBER F_ordinal_NULL (by decide)) (Value.ref.inj q)) (by decide) (by decide)) ?_
 refine wicW X237 hx hby d1_22 ?_
 refine walNW X237 hx hby d1_23 rfl rfl ?_
 show EndsW _ _ _ _ T237 (mkF m 24 #[cr b32, cr w_NUMBER, cr b228] [(.ref b228), (.int 0)]) _ _ _
 refine .go (fun _ => XS.ifnonnullYes X237.here hx rfl (pc0 := 24) (pc' := 31) rfl (hb hby d1_24) rfl (by decide) (by decide)) ?_
 refine wicW X237 hx hby d1_31 ?_
 refine wcyW (pc := 32) (pc' := 63) X237 hx hby d1_32 (teq (by decide : (0 : Int32) = (0 : Int32))).1 (by decide) (by decide) ?_
 refine walNW X237 hx hby d1_63 rfl rfl ?_
 show EndsW _ _ _ _ T237 (mkF m 64 #[cr b32, cr w_NUMBER, cr b228] [(.ref w_NUMBER)]) _ _ _
 obtain ⟨T238, X238, e238, st238⟩ := getS2 X237 hx hZ hown (host := "") (Or.inl (ow hw 31 rfl)) Via.refl e237 (S_NUMBER.ext O236.2) (g := (mkF m 64 #[cr b32, cr w_NUMBER, cr b228] [(.ref w_NUMBER)])) rfl (hb hby d1_64)
 refine EndsW.go st238 ?_
 refine .go (fun _ => Jvm.RoadKit.acmp (g := (mkF m 67 #[cr b32, cr w_NUMBER, cr b228] [(.ref w_NUMBER), (.ref w_NUMBER)])) X238 hx rfl rfl rfl (pc0 := 67) (pc' := 70) (same := true) rfl (hb hby d1_67) rfl (decide_eq_true rfl) (by decide) (by decide)) ?_
 refine walNW X238 hx hby d1_70 rfl rfl ?_
 obtain ⟨_, _, ⟨T255, L255, k255, n255⟩, -, X255, ⟨Lc255, hQ255, l255, y255, z255⟩, st255⟩ := Jvm.LawKit.callS X238 hx (y := ym19) hown (mvT hZ (ow hw 78 rfl)) (mvT hZ (ow hw 79 rfl)) (mvT hZ (ow hw 80 rfl)) (mvT hZ (ow hw 81 rfl)) (by decide) (own_backOf (W := 0) (rx13_239 l Z a0 hw [] n0 h236 O236 G1 G3 w_NULL w_NUMBER w_NULL2 w_STRING GF b228 b230 k232 p1 (((PF_b228_value.keep K234c nin0).ext E235).keep K236c nin0) (((PV_b230.keep K234c nin0).ext E235).keep K236c nin0) (((PF_b228_coder.keep K234c nin0).ext E235).keep K236c nin0) (((PE_b228.keep K234c).ext E235).keep K236c) hDG hd48_) hZ (ow hw 81 rfl) (ow hw 80 rfl) (by decide) (by decide)) (g := (mkF m 71 #[cr b32, cr w_NUMBER, cr b228] [(.ref b228)])) rfl (by rw [hml]; rfl) (argsL := [(.ref b228)]) (rest := []) (lenOf pdx_17 rfl) rfl (by show 2 * 0 + _ ≤ _; exact Nat.le_of_eq rfl) (hb hby d1_71) (fun _ _ => ⟨rfl, e238, (by decide : 2 + 0 ≤ _), (by decide : 20 + 0 ≤ _)⟩)
 dsimp only [Pt.U, Pt.locs, Pt.cells, Pt.slots] at X255 l255 y255 z255 st255 hQ255
 subst l255 y255 z255
 obtain ⟨rfl, N255q, K255c⟩ := hQ255
 have N255 := Fr.app N236 N255q
 refine EndsW.go st255 ?_
 obtain ⟨h255, e255⟩ : ∃ z, T255.heap = z := ⟨_, rfl⟩
 rw [e255] at K255c
 have K255 := K236.trans K255c all0
 have O255 := O236.keep K255c all0
 show EndsW _ _ _ _ T255 (mkF m 74 #[cr b32, cr w_NUMBER, cr b228] [(.int 1)]) _ _ _
 refine wiyW (pc := 74) (pc' := 91) X255 hx hby d1_74 ((if0 _ _).trans (feq (by decide : ¬ ((1 : Int32) = (0 : Int32)))).2) (by decide) (by decide) ?_
 refine walNW X255 hx hby d1_91 rfl rfl ?_
 refine walNW X255 hx hby d1_92 rfl rfl ?_
 obtain ⟨T256, h256, X256, e256, W256, st256⟩ := putF X255 hx hZ hown (host := "") (Or.inl (ow hw 33 rfl)) Via.refl e255 ((((PF_b32_kind.keep K234c nin0).ext E235).keep K236c nin0).keep K255c nin0) ((((PE_b32.keep K234c).ext E235).keep K236c).keep K255c) (Or.inr ⟨(ow hw 34 rfl), rfl, hnm⟩) (ow hw 5 rfl) (ty := (.object "com/example/wakeline/wakeline/event/Value$Kind")) (by decide) rfl rfl (g := (mkF m 93 #[cr b32, cr w_NUMBER, cr b228] [(.ref w_NUMBER), (.ref b32)])) rfl rfl (hb hby d1_93)
 refine EndsW.go st256 ?_
 have Fw256 := ((((PF_b32_kind.keep K234c nin0).ext E235).keep K236c nin0).keep K255c nin0).same W256
 have K256 := K255.wr W256 (Or.inl (List.mem_of_getElem? (i := 0) rfl))
 have O256 := O255.wr W256 g_b32
 have N256 := Fr.snoc X256 N255 g_b32
 show EndsW _ _ _ _ T256 (mkF m 96 #[cr b32, cr w_NUMBER, cr b228] []) _ _ _
 refine walNW X256 hx hby d1_96 rfl rfl ?_
 refine walNW X256 hx hby d1_97 rfl rfl ?_
 obtain ⟨T257, h257, X257, e257, W257, st257⟩ := putF X256 hx hZ hown (host := "") (Or.inl (ow hw 35 rfl)) Via.refl e256 (((((PF_b32_text.keep K234c nin0).ext E235).keep K236c nin0).keep K255c nin0).other W256 (Or.inr (slot_ne (Or.inr (ow hw 36 rfl)) (Or.inr (ow hw 34 rfl)) (by decide) (t := (.object "java/lang/String")) (t' := (.object "com/example/wakeline/wakeline/event/Value$Kind")) (by decide) (by decide)))) (((((PE_b32.keep K234c).ext E235).keep K236c).keep K255c).wr W256) (Or.inr ⟨(ow hw 36 rfl), rfl, hnm⟩) (ow hw 5 rfl) (ty := (.object "java/lang/String")) (by decide) rfl rfl (g := (mkF m 98 #[cr b32, cr w_NUMBER, cr b228] [(.ref b228), (.ref b32)])) rfl rfl (hb hby d1_98)
 refine EndsW.go st257 ?_
 have Fw257 := (((((PF_b32_text.keep K234c nin0).ext E235).keep K236c nin0).keep K255c nin0).other W256 (Or.inr (slot_ne (Or.inr (ow hw 36 rfl)) (Or.inr (ow hw 34 rfl)) (by decide) (t := (.object "java/lang/String")) (t' := (.object "com/example/wakeline/wakeline/event/Value$Kind")) (by decide) (by decide)))).same W257
 have K257 := K256.wr W257 (Or.inl (List.mem_of_getElem? (i := 0) rfl))
 have O257 := O256.wr W257 g_b32
 have N257 := Fr.snoc X257 N256 g_b32
 refine EndsW.retV (s := s) (vm := T235.vm) X257 hx hS235 (Nat.le_trans (Nat.le_trans (Nat.le_trans (Nat.le_trans (Nat.le_trans hk235 K236c.1) K255c.1) (own_wrsz W256)) (own_wrsz W257)) (Nat.le_of_eq (congrArg Array.size e257.symm))) Bd.notSynchronized Bd.returns (hb hby d1_101) (by decide) (by decide) ?_
 rw [e257]
 exact ⟨rfl, N257, K257, (Fw256.other W257 (Or.inr (slot_ne (Or.inr (ow hw 34 rfl)) (Or.inr (ow hw 36 rfl)) (by decide) (t := (.object "com/example/wakeline/wakeline/event/Value$Kind")) (t' := (.object "java/lang/String")) (by decide) (by decide)))), Fw257⟩

theorem d24_8 : decode jdk_42_method_149_code 8 = .ok (.aload_n 0, 1) := by decide +kernel
theorem d24_9 : decode jdk_42_method_149_code 9 = .ok (.ldc 7, 2) := by decide +kernel
theorem d24_11 : decode jdk_42_method_149_code 11 = .ok (.getfield 9, 3) := by decide +kernel
theorem d24_14 : decode jdk_42_method_149_code 14 = .ok (.putfield 9, 3) := by decide +kernel
theorem d24_17 : decode jdk_42_method_149_code 17 = .ok (.aload_n 0, 1) := by decide +kernel
theorem d24_18 : decode jdk_42_method_149_code 18 = .ok (.ldc 7, 2) := by decide +kernel
theorem d24_20 : decode jdk_42_method_149_code 20 = .ok (.getfield 15, 3) := by decide +kernel
theorem d24_23 : decode jdk_42_method_149_code 23 = .ok (.putfield 15, 3) := by decide +kernel
theorem d24_26 : decode jdk_42_method_149_code 26 = .ok (.return_, 1) := by decide +kernel
set_option maxRecDepth 65536 in
set_option maxHeartbeats 40000000 in
theorem rx24_272 (l : Launch) (Z : State) (a0 : Array Value) (hw : ∀ d ∈ tables_1, d.before a0 Z = true) (ws : List Jvm.Cond) (n0 : Nat) (h0 : Heap) (O0 : Old Z n0 h0) (G1 : Int32) (G3 : Value) (w_NULL : Addr) (w_NUMBER : Addr) (w_NULL2 : Addr) (w_STRING : Addr) (GF : GlobF Z a0 G1 G3 w_NULL w_NUMBER w_NULL2 w_STRING) (b268 : Addr) (b269 : Addr) (PE_b268 : Exa Z h0 b268 "java/lang/String") (PF_b268_value : Fld Z h0 b268 "java/lang/String" "value" "[B" .null) (PF_b268_coder : Fld Z h0 b268 "java/lang/String" "coder" "B" (.int 0)) (g_b268 : n0 ≤ b268) :
  Meets1W l ym24 jdk_42_method_149_code 6 none ws ({ frames := 1, cells := 2, slots := 4, locals := 12 } : Room) #[(.ref b268), (.ref b269), (.int 0), (.int 0), .null] Z h0 true (fun v h L => v = none ∧ Fr n0 L ∧ Keep h0 h [b268] ∧ Fld Z h b268 "java/lang/String" "coder" "B" (.int 0)) := by
 refine MetFree.of_bodySF (plainFor_of_name pn24) hisR ?_
 intro p e s m args below meth c s₁ Bd hml0 hP hK
 obtain ⟨rfl, hZ, hh, hI⟩ := hP
 have hx := Bd.exec
 have hby := Bd.bytes
 have hml : c.maxLocals = 6 := hml0
 have hown : s.vm.findClass "java/lang/String" = some m.cls := findClass_of_methodNamed Bd.named
 have hnm := (name_of_methodNamed Bd.named Bd.method).1
 have X0 : Stand p l e ({ frames := 1, cells := 2, slots := 4, locals := 12 } : Room) s m #[(.ref b268), (.ref b269), (.int 0), (.int 0), .null] below meth c s₁ [] 0 0 := Stand.of_body Bd
 have e0 : s₁.heap = h0 := by rw [← hh, Bd.state]; rfl
 have N0 := Fr.nil n0
 have hS0 := own_since0 s
 have hk0 : s.heap.size ≤ h0.size := Nat.le_of_eq (congrArg Array.size hh)
 have Z0 := own_old_le O0
 show EndsW _ _ _ _ s₁ (entryFrame m #[(.ref b268), (.ref b269), (.int 0), (.int 0), .null] 6) ({ frames := 1, cells := 2, slots := 4, locals := 12 } : Room).cells ({ frames := 1, cells := 2, slots := 4, locals := 12 } : Room).slots (fun v h L => v = none ∧ Fr n0 L ∧ Keep h0 h [b268] ∧ Fld Z h b268 "java/lang/String" "coder" "B" (.int 0))
 refine EndsW.go (fun _ k => castTop (ef24_rriin m b268 b269 (0 : Int32) (0 : Int32)) k) ?_
 obtain ⟨SCS, P5, SSF, RG3, HCST, HCW, S_NULL, E_NULL, S_NUMBER, E_NUMBER, F_ordinal_NULL, F_ordinal_NUMBER, S_NULL2, E_NULL2, F_kind_NULL2, S_STRING, E_STRING, F_ordinal_STRING⟩ := id GF
 have K0 := Keep.refl h0 [b268]
 show EndsW _ _ _ _ s₁ (mkF m 0 #[cr b268, cr b269, ci 0, ci 0, .val .null, cu] []) _ _ _
 refine walNW X0 hx hby d24_0 rfl rfl ?_
 obtain ⟨T273, X273, e273, st273⟩ := initO X0 hx hZ hown (ow hw 75 rfl) (ow hw 16 rfl) (ow hw 17 rfl) e0 (g := (mkF m 1 #[cr b268, cr b269, ci 0, ci 0, .val .null, cu] [(.ref b268)])) rfl (by rw [hml]; rfl) rfl (hb hby d24_1) (by decide) (W := 0) (by show 2 * 0 + _ ≤ _; exact Nat.le_of_eq rfl) (by decide)
 refine EndsW.go st273 ?_
 refine wilNW X273 hx hby d24_4 rfl ?_
 show EndsW _ _ _ _ T273 (mkF m 5 #[cr b268, cr b269, ci 0, ci 0, .val .null, cu] [(.int 0)]) _ _ _
 refine winW X273 hx hby d24_5 ((if0 _ _).trans (teq (by decide : (0 : Int32) = (0 : Int32))).2) ?_
 refine walNW X273 hx hby d24_8 rfl rfl ?_
 obtain ⟨a274, T274, h274, k274, b274, kb274, X274, e274, E274, hS274, hk274, hZ, hown, LE274, LC274, LV274, LA274, -, -, -, LL274, st274⟩ := ldcSVL (s := s) (vm0 := s.vm) X273 hx hZ hown (ow hw 142 rfl) (own_atoms hw) e273 hS0 hk0 (Fr.nil _) (fun b_ c_ q_ => by rw [hh]; exact O0.2.2 b_ c_ q_) (own_ib (hI rfl)) (by simp) HCST HCW (vs := []) (z := 0) (by simp) (by decide) (by decide) (g := (mkF m 9 #[cr b268, cr b269, ci 0, ci 0, .val .null, cu] [(.ref b268)])) rfl (hb hby d24_9) (n := 0) (by decide) (by decide) (by decide) (by decide)
 refine EndsW.go st274 ?_
 have K274 := K0.ext E274
 have O274 := O0.ext E274
 have ne_b268_b274 := Exa.neArv (PE_b268.ext E274) LA274 (ow hw 20 rfl)
 obtain ⟨T275, X275, e275, st275⟩ := getF X274 hx hZ hown (host := "") (Or.inl (ow hw 76 rfl)) Via.refl e274 LV274 (g := (mkF m 11 #[cr b268, cr b269, ci 0, ci 0, .val .null, cu] [(.ref a274), (.ref b268)])) rfl rfl (hb hby d24_11)
 refine EndsW.go st275 ?_
 show EndsW _ _ _ _ T275 (mkF m 14 #[cr b268, cr b269, ci 0, ci 0, .val .null, cu] [(.ref b274), (.ref b268)]) _ _ _
 obtain ⟨T276, h276, X276, e276, W276, st276⟩ := putF X275 hx hZ hown (host := "") (Or.inl (ow hw 76 rfl)) Via.refl e275 (PF_b268_value.ext E274) (PE_b268.ext E274) (Or.inr ⟨(ow hw 22 rfl), rfl, hnm⟩) (ow hw 20 rfl) (ty := (.array .byte)) (by decide) rfl rfl (g := (mkF m 14 #[cr b268, cr b269, ci 0, ci 0, .val .null, cu] [(.ref b274), (.ref b268)])) rfl rfl (hb hby d24_14)
 refine EndsW.go st276 ?_
 have Fw276 := (PF_b268_value.ext E274).same W276
 have K276 := K274.wr W276 (Or.inl (List.mem_of_getElem? (i := 0) rfl))
 have O276 := O274.wr W276 g_b268
 have N276 := Fr.snoc X276 N0 g_b268
 refine walNW X276 hx hby d24_17 rfl rfl ?_
 refine EndsW.go (ldcAgain (s := s) (vm0 := T274.vm) X276 hx hZ hown (ow hw 142 rfl) LL274 (g := (mkF m 18 #[cr b268, cr b269, ci 0, ci 0, .val .null, cu] [(.ref b268)])) rfl (hb hby d24_18)) ?_
 obtain ⟨T278, X278, e278, st278⟩ := getF X276 hx hZ hown (host := "") (Or.inl (ow hw 77 rfl)) Via.refl e276 (LC274.other W276 (Or.inr (slot_ne (Or.inr (ow hw 23 rfl)) (Or.inr (ow hw 22 rfl)) (by decide) (t := .byte) (t' := (.array .byte)) (by decide) (by decide)))) (g := (mkF m 20 #[cr b268, cr b269, ci 0, ci 0, .val .null, cu] [(.ref a274), (.ref b268)])) rfl rfl (hb hby d24_20)
 refine EndsW.go st278 ?_
 show EndsW _ _ _ _ T278 (mkF m 23 #[cr b268, cr b269, ci 0, ci 0, .val .null, cu] [(.int 0), (.ref b268)]) _ _ _
 obtain ⟨T279, h279, X279, e279, W279, st279⟩ := putFN X278 hx hZ hown (ow hw 77 rfl) Via.refl e278 ((PF_b268_coder.ext E274).other W276 (Or.inr (slot_ne (Or.inr (ow hw 23 rfl)) (Or.inr (ow hw 22 rfl)) (by decide) (t := .byte) (t' := (.array .byte)) (by decide) (by decide)))) ((PE_b268.ext E274).wr W276) (Or.inr ⟨(ow hw 23 rfl), rfl, hnm⟩) (ow hw 20 rfl) (ty := .byte) (v' := (.int 0)) (by decide) rfl (by decide) (g := (mkF m 23 #[cr b268, cr b269, ci 0, ci 0, .val .null, cu] [(.int 0), (.ref b268)])) rfl rfl (hb hby d24_23)
 refine EndsW.go st279 ?_
 have Fw279 := ((PF_b268_coder.ext E274).other W276 (Or.inr (slot_ne (Or.inr (ow hw 23 rfl)) (Or.inr (ow hw 22 rfl)) (by decide) (t := .byte) (t' := (.array .byte)) (by decide) (by decide)))).same W279
 have K279 := K276.wr W279 (Or.inl (List.mem_of_getElem? (i := 0) rfl))
 have O279 := O276.wr W279 g_b268
 have N279 := Fr.snoc X279 N276 g_b268
 refine EndsW.retV (s := s) (vm := T274.vm) X279 hx hS274 (Nat.le_trans (Nat.le_trans (Nat.le_trans hk274 (own_wrsz W276)) (own_wrsz W279)) (Nat.le_of_eq (congrArg Array.size e279.symm))) Bd.notSynchronized Bd.returns (hb hby d24_26) (by decide) (by decide) ?_
 rw [e279]
 exact ⟨rfl, N279, K279, Fw279⟩

set_option maxRecDepth 65536 in
set_option maxHeartbeats 40000000 in
theorem rx23_270 (l : Launch) (Z : State) (a0 : Array Value) (hw : ∀ d ∈ tables_1, d.before a0 Z = true) (ws : List Jvm.Cond) (n0 : Nat) (h0 : Heap) (O0 : Old Z n0 h0) (G1 : Int32) (G3 : Value) (w_NULL : Addr) (w_NUMBER : Addr) (w_NULL2 : Addr) (w_STRING : Addr) (GF : GlobF Z a0 G1 G3 w_NULL w_NUMBER w_NULL2 w_STRING) (b268 : Addr) (b269 : Addr) (k269 : ClassId) (PV_b269 : Arv Z h0 b269 k269 .char (0 : Int32) [] (.int 0)) (PE_b268 : Exa Z h0 b268 "java/lang/String") (PF_b268_value : Fld Z h0 b268 "java/lang/String" "value" "[B" .null) (PF_b268_coder : Fld Z h0 b268 "java/lang/String" "coder" "B" (.int 0)) (g_b268 : n0 ≤ b268) :
  Meets1W l ym25 jdk_42_method_3_code 2 none ws ({ frames := 2, cells := 2, slots := 4, locals := 29 } : Room) #[(.ref b268), (.ref b269)] Z h0 true (fun v h L => v = none ∧ Fr n0 L ∧ Keep h0 h [b268] ∧ Fld Z h b268 "java/lang/String" "coder" "B" (.int 0)) := by
 refine MetFree.of_bodySF (plainFor_of_name pn23) hisR ?_
 intro p e s m args below meth c s₁ Bd hml0 hP hK
 obtain ⟨rfl, hZ, hh, hI⟩ := hP
 have hx := Bd.exec
 have hby := Bd.bytes
 have hml : c.maxLocals = 2 := hml0
 have hown : s.vm.findClass "java/lang/String" = some m.cls := findClass_of_methodNamed Bd.named
 have hnm := (name_of_methodNamed Bd.named Bd.method).1
 have X0 : Stand p l e ({ frames := 2, cells := 2, slots := 4, locals := 29 } : Room) s m #[(.ref b268), (.ref b269)] below meth c s₁ [] 0 0 := Stand.of_body Bd
 have e0 : s₁.heap = h0 := by rw [← hh, Bd.state]; rfl
 have N0 := Fr.nil n0
 have hS0 := own_since0 s
 have hk0 : s.heap.size ≤ h0.size := Nat.le_of_eq (congrArg Array.size hh)
 have Z0 := own_old_le O0
 show EndsW _ _ _ _ s₁ (entryFrame m #[(.ref b268), (.ref b269)] 2) ({ frames := 2, cells := 2, slots := 4, locals := 29 } : Room).cells ({ frames := 2, cells := 2, slots := 4, locals := 29 } : Room).slots (fun v h L => v = none ∧ Fr n0 L ∧ Keep h0 h [b268] ∧ Fld Z h b268 "java/lang/String" "coder" "B" (.int 0))
 refine EndsW.go (fun _ k => castTop (ef23_rr m b268 b269) k) ?_
 obtain ⟨SCS, P5, SSF, RG3, HCST, HCW, S_NULL, E_NULL, S_NUMBER, E_NUMBER, F_ordinal_NULL, F_ordinal_NUMBER, S_NULL2, E_NULL2, F_kind_NULL2, S_STRING, E_STRING, F_ordinal_STRING⟩ := id GF
 have K0 := Keep.refl h0 [b268]
 show EndsW _ _ _ _ s₁ (mkF m 0 #[cr b268, cr b269] []) _ _ _
 refine walNW X0 hx hby d23_0 rfl rfl ?_
 refine walNW X0 hx hby d23_1 rfl rfl ?_
 refine wicW X0 hx hby d23_2 ?_
 show EndsW _ _ _ _ s₁ (mkF m 3 #[cr b268, cr b269] [(.int 0), (.ref b269), (.ref b268)]) _ _ _
 refine walNW X0 hx hby d23_3 rfl rfl ?_
 obtain ⟨cl271, Ar271, q271, S271, M271, H271, G271⟩ := id PV_b269
 refine EndsW.go (X0.arraylength hx (by rw [e0]; exact Ar271.1) (State.isArrayOf_alike hZ.alike Ar271.2.1) (g := (mkF m 4 #[cr b268, cr b269] [(.ref b269), (.int 0), (.ref b269), (.ref b268)])) rfl rfl (hb hby d23_4)) ?_
 rw [len_of S271 M271]
 refine .go (fun _ => XS.aconstNull X0.here hx rfl (hb hby d23_5)) ?_
 obtain ⟨_, _, ⟨T280, L280, k280, n280⟩, -, X280, hSq280, hgq280, ⟨Lc280, hQ280, l280, y280, z280⟩, st280⟩ := X0.specialBackS hx (y := ym24) rfl hown (mvT hZ (ow hw 124 rfl)) (mvT hZ (ow hw 125 rfl)) (mvT hZ (ow hw 126 rfl)) (by decide) (own_backOfS (W := 0) (rx24_272 l Z a0 hw [] n0 h0 O0 G1 G3 w_NULL w_NUMBER w_NULL2 w_STRING GF b268 b269 PE_b268 PF_b268_value PF_b268_coder g_b268) hZ (ow hw 126 rfl) (ow hw 19 rfl) (by decide) (by decide) hI) (g := (mkF m 6 #[cr b268, cr b269] [.null, (.int 0), (.int 0), (.ref b269), (.ref b268)])) rfl (by rw [hml]; rfl) (Steps.refl _) (a := b268) (argsL := [(.ref b269), (.int 0), (.int 0), .null]) (rest := []) (lenOf pdx_22 rfl) rfl (by show 2 * 0 + _ ≤ _; exact Nat.le_of_eq rfl) (hb hby d23_6) (fun _ _ => ⟨rfl, e0, (by decide : 0 + 2 ≤ _), (by decide : 0 + 4 ≤ _)⟩)
 dsimp only [Pt.U, Pt.locs, Pt.cells, Pt.slots] at X280 l280 y280 z280 st280 hQ280 hSq280 hgq280
 subst l280 y280 z280
 have hS280 := foldS hS0 (Nat.le_trans hk0 (Nat.le_of_eq (congrArg Array.size e0.symm))) hSq280 hgq280
 have hZ : Z.Warmed39 T280.vm := State.Warmed39.trans (t := s.setVm s.vm) hZ hSq280.1
 have hown : T280.vm.findClass "java/lang/String" = some m.cls := by rw [hSq280.1.alike.findClass]; exact hown
 obtain ⟨rfl, N280q, K280c, Y280_0⟩ := hQ280
 have N280 := Fr.app N0 N280q
 refine EndsW.go (fun _ k => st280.trans k) ?_
 obtain ⟨h280, e280⟩ : ∃ z, T280.heap = z := ⟨_, rfl⟩
 rw [e280] at K280c Y280_0
 have K280 := K0.trans K280c (allS (Or.inl (List.mem_of_getElem? (i := 0) rfl)) all0)
 have O280 := O0.keep K280c (allS g_b268 all0)
 show EndsW _ _ _ _ T280 (mkF m 9 #[cr b268, cr b269] []) _ _ _
 refine EndsW.retV (s := s) (vm := T280.vm) X280 hx hS280 (Nat.le_trans (Nat.le_of_eq (congrArg Array.size e280)) (Nat.le_of_eq (congrArg Array.size e280.symm))) Bd.notSynchronized Bd.returns (hb hby d23_9) (by decide) (by decide) ?_
 rw [e280]
 exact ⟨rfl, N280, K280, Y280_0⟩

theorem d28_0 : decode method_2_code 0 = .ok (.iload_n 0, 1) := by decide +kernel
theorem d28_1 : decode method_2_code 1 = .ok (.ifCond .ne 14, 3) := by decide +kernel
theorem d28_4 : decode method_2_code 4 = .ok (.new 7, 3) := by decide +kernel
theorem d28_7 : decode method_2_code 7 = .ok (.dup, 1) := by decide +kernel
theorem d28_8 : decode method_2_code 8 = .ok (.iconst 0, 1) := by decide +kernel
theorem d28_9 : decode method_2_code 9 = .ok (.newarray .char, 2) := by decide +kernel
theorem d28_11 : decode method_2_code 11 = .ok (.invokespecial 9, 3) := by decide +kernel
theorem d28_14 : decode method_2_code 14 = .ok (.areturn, 1) := by decide +kernel
theorem pn28 : plainName "com/example/wakeline/wakeline/event/ValueIsNullPinLaw" = true := by first | (simp [plainName, overriddenIn]; done) | decide +kernel
theorem ef28_iii (m : MethodId) (x0 : Int32) (x1 : Int32) (x2 : Int32) : entryFrame m #[(.int x0), (.int x1), (.int x2)] 3 = mkF m 0 #[.val (.int x0), .val (.int x1), .val (.int x2)] [] := by first | (simp [entryFrame, mkF, argsToLocals, Value.category]; done) | rfl
set_option maxRecDepth 65536 in
set_option maxHeartbeats 40000000 in
theorem rx28_267 (l : Launch) (Z : State) (a0 : Array Value) (hw : ∀ d ∈ tables_1, d.before a0 Z = true) (ws : List Jvm.Cond) (n0 : Nat) (h0 : Heap) (O0 : Old Z n0 h0) (G1 : Int32) (G3 : Value) (w_NULL : Addr) (w_NUMBER : Addr) (w_NULL2 : Addr) (w_STRING : Addr) (GF : GlobF Z a0 G1 G3 w_NULL w_NUMBER w_NULL2 w_STRING) (p1 : Int32) (p2 : Int32)  :
  Meets1W l ym26 method_2_code 3 (some (.object "java/lang/String")) ws ({ frames := 3, cells := 4, slots := 8, locals := 43 } : Room) #[(.int 0), (.int p1), (.int p2)] Z h0 true (fun v h L => ∃ (b268 : Addr) (b269 : Addr) (k269 : ClassId), v = some (.ref b268) ∧ Fr n0 L ∧ Keep h0 h [] ∧ h0.size ≤ b268 ∧ h0.size ≤ b269 ∧ b268 ≠ b269 ∧ Exa Z h b268 "java/lang/String" ∧ Arv Z h b269 k269 .char (0 : Int32) [] (.int 0) ∧ Fld Z h b268 "java/lang/String" "coder" "B" (.int 0)) := by
 refine MetFree.of_bodySF (plainFor_of_name pn28) hisR ?_
 intro p e s m args below meth c s₁ Bd hml0 hP hK
 obtain ⟨rfl, hZ, hh, hI⟩ := hP
 have hx := Bd.exec
 have hby := Bd.bytes
 have hml : c.maxLocals = 3 := hml0
 have hown : s.vm.findClass "com/example/wakeline/wakeline/event/ValueIsNullPinLaw" = some m.cls := findClass_of_methodNamed Bd.named
 have hnm := (name_of_methodNamed Bd.named Bd.method).1
 have X0 : Stand p l e ({ frames := 3, cells := 4, slots := 8, locals := 43 } : Room) s m #[(.int 0), (.int p1), (.int p2)] below meth c s₁ [] 0 0 := Stand.of_body Bd
 have e0 : s₁.heap = h0 := by rw [← hh, Bd.state]; rfl
 have N0 := Fr.nil n0
 have hS0 := own_since0 s
 have hk0 : s.heap.size ≤ h0.size := Nat.le_of_eq (congrArg Array.size hh)
 have Z0 := own_old_le O0
 show EndsW _ _ _ _ s₁ (entryFrame m #[(.int 0), (.int p1), (.int p2)] 3) ({ frames := 3, cells := 4, slots := 8, locals := 43 } : Room).cells ({ frames := 3, cells := 4, slots := 8, locals := 43 } : Room).slots (fun v h L => ∃ (b268 : Addr) (b269 : Addr) (k269 : ClassId), v = some (.ref b268) ∧ Fr n0 L ∧ Keep h0 h [] ∧ h0.size ≤ b268 ∧ h0.size ≤ b269 ∧ b268 ≠ b269 ∧ Exa Z h b268 "java/lang/String" ∧ Arv Z h b269 k269 .char (0 : Int32) [] (.int 0) ∧ Fld Z h b268 "java/lang/String" "coder" "B" (.int 0))
 refine EndsW.go (fun _ k => castTop (ef28_iii m (0 : Int32) p1 p2) k) ?_
 obtain ⟨SCS, P5, SSF, RG3, HCST, HCW, S_NULL, E_NULL, S_NUMBER, E_NUMBER, F_ordinal_NULL, F_ordinal_NUMBER, S_NULL2, E_NULL2, F_kind_NULL2, S_STRING, E_STRING, F_ordinal_STRING⟩ := id GF
 have K0 := Keep.refl h0 []
 show EndsW _ _ _ _ s₁ (mkF m 0 #[ci 0, ci p1, ci p2] []) _ _ _
 refine wilNW X0 hx hby d28_0 rfl ?_
 refine winW X0 hx hby d28_1 ((if0 _ _).trans (teq (by decide : (0 : Int32) = (0 : Int32))).2) ?_
 obtain ⟨T268, h268, X268, e268, E268, A268, D268, -, st268⟩ := newO X0 hx hZ hown (ow hw 119 rfl) (ow hw 20 rfl) (ow hw 19 rfl) e0 (g := (mkF m 4 #[ci 0, ci p1, ci p2] [])) rfl (hb hby d28_4) (by decide) (by decide)
 obtain ⟨b268, g268⟩ : ∃ z, z = h0.size := ⟨_, rfl⟩
 rw [← g268] at A268 D268 st268
 refine EndsW.go st268 ?_
 have g_b268 : n0 ≤ b268 := Nat.le_trans (own_old_le O0) (Nat.le_of_eq g268.symm)
 have sz_b268 : h0.size ≤ b268 := Nat.le_trans K0.1 (Nat.le_of_eq g268.symm)
 have K268 := K0.ext E268
 have O268 := O0.ext E268
 have F_value_b268 : Fld Z h268 b268 "java/lang/String" "value" "[B" .null := D268 (Or.inr (ow hw 22 rfl)) (ty := (.array .byte)) (by decide)
 have F_coder_b268 : Fld Z h268 b268 "java/lang/String" "coder" "B" (.int 0) := D268 (Or.inr (ow hw 23 rfl)) (ty := .byte) (by decide)
 show EndsW _ _ _ _ T268 (mkF m 7 #[ci 0, ci p1, ci p2] [(.ref b268)]) _ _ _
 refine wduW X268 hx hby d28_7 rfl ?_
 refine wicW X268 hx hby d28_8 ?_
 obtain ⟨T269, h269, k269, X269, e269, E269, A269, st269⟩ := newP X268 hx hZ (ow hw 120 rfl) e268 (g := (mkF m 9 #[ci 0, ci p1, ci p2] [(.int 0), (.ref b268), (.ref b268)])) rfl (hb hby d28_9) rfl (by decide) (cap := 0) (by decide) (by decide) (by decide) (by decide)
 obtain ⟨b269, g269⟩ : ∃ z, z = h268.size := ⟨_, rfl⟩
 rw [← g269] at A269 st269
 refine EndsW.go st269 ?_
 have g_b269 : n0 ≤ b269 := Nat.le_trans (own_old_le O268) (Nat.le_of_eq g269.symm)
 have sz_b269 : h0.size ≤ b269 := Nat.le_trans K268.1 (Nat.le_of_eq g269.symm)
 have K269 := K268.ext E269
 have O269 := O268.ext E269
 have V_b269 : Arv Z h269 b269 k269 .char (0 : Int32) [] (.int 0) := (Arv.new A269 (by decide)).pad (pad_rep [] (.int 0) 0)
 obtain ⟨_, _, ⟨T281, L281, k281, n281⟩, -, X281, hSq281, hgq281, ⟨Lc281, hQ281, l281, y281, z281⟩, st281⟩ := X269.specialBackS hx (y := ym25) rfl hown (mvT hZ (ow hw 121 rfl)) (mvT hZ (ow hw 122 rfl)) (mvT hZ (ow hw 123 rfl)) (by decide) (own_backOfS (W := 1) (rx23_270 l Z a0 hw [] n0 h269 O269 G1 G3 w_NULL w_NUMBER w_NULL2 w_STRING GF b268 b269 k269 V_b269 (A268.ext E269) (F_value_b268.ext E269) (F_coder_b268.ext E269) g_b268) hZ (ow hw 123 rfl) (ow hw 19 rfl) (by decide) (by decide) hI) (g := (mkF m 11 #[ci 0, ci p1, ci p2] [(.ref b269), (.ref b268), (.ref b268)])) rfl (by rw [hml]; rfl) (Steps.refl _) (a := b268) (argsL := [(.ref b269)]) (rest := [(.ref b268)]) (lenOf pdx_23 rfl) rfl (by show 2 * 0 + _ ≤ _; exact Nat.le_of_eq rfl) (hb hby d28_11) (fun _ _ => ⟨rfl, e269, (by decide : 2 + 2 ≤ _), (by decide : 4 + 4 ≤ _)⟩)
 dsimp only [Pt.U, Pt.locs, Pt.cells, Pt.slots] at X281 l281 y281 z281 st281 hQ281 hSq281 hgq281
 subst l281 y281 z281
 have hS281 := foldS hS0 (Nat.le_trans (Nat.le_trans (Nat.le_trans hk0 E268.1) E269.1) (Nat.le_of_eq (congrArg Array.size e269.symm))) hSq281 hgq281
 have hZ : Z.Warmed39 T281.vm := State.Warmed39.trans (t := s.setVm s.vm) hZ hSq281.1
 have hown : T281.vm.findClass "com/example/wakeline/wakeline/event/ValueIsNullPinLaw" = some m.cls := by rw [hSq281.1.alike.findClass]; exact hown
 obtain ⟨rfl, N281q, K281c, Y281_0⟩ := hQ281
 have N281 := Fr.app N0 N281q
 refine EndsW.go (fun _ k => st281.trans k) ?_
 obtain ⟨h281, e281⟩ : ∃ z, T281.heap = z := ⟨_, rfl⟩
 rw [e281] at K281c Y281_0
 have K281 := K269.trans K281c (allS (Or.inr sz_b268) all0)
 have O281 := O269.keep K281c (allS g_b268 all0)
 show EndsW _ _ _ _ T281 (mkF m 14 #[ci 0, ci p1, ci p2] [(.ref b268)]) _ _ _
 refine EndsW.ret (s := s) (vm := T281.vm) X281 hx hS281 (Nat.le_trans (Nat.le_of_eq (congrArg Array.size e281)) (Nat.le_of_eq (congrArg Array.size e281.symm))) Bd.notSynchronized (t := (.object "java/lang/String")) Bd.returns rfl (Or.inr (Or.inr (Or.inr (Or.inr ⟨rfl, rfl, rfl⟩)))) (hb hby d28_14) (by decide) (by decide) ?_
 rw [e281]
 have ne_b268_b269 : b268 ≠ b269 := Nat.ne_of_lt (Nat.lt_of_lt_of_le A268.lt (Nat.le_of_eq g269.symm))
 exact ⟨b268, b269, k269, rfl, N281, K281, sz_b268, sz_b269, ne_b268_b269, ((A268.ext E269).keep K281c), (V_b269.keep K281c (ninS (Ne.symm ne_b268_b269) nin0)), Y281_0⟩

theorem pdx_24 : parseMethodDescriptor "(III)Ljava/lang/String;" = some ⟨[.int, .int, .int], some (.object "java/lang/String")⟩ := by decide +kernel
set_option maxRecDepth 65536 in
set_option maxHeartbeats 40000000 in
theorem rx4_289 (l : Launch) (Z : State) (a0 : Array Value) (hw : ∀ d ∈ tables_1, d.before a0 Z = true) (ws : List Jvm.Cond) (n0 : Nat) (h0 : Heap) (O0 : Old Z n0 h0) (G1 : Int32) (G3 : Value) (w_NULL : Addr) (w_NUMBER : Addr) (w_NULL2 : Addr) (w_STRING : Addr) (GF : GlobF Z a0 G1 G3 w_NULL w_NUMBER w_NULL2 w_STRING) (a288 : Addr)  :
  Meets1 l ym3 jdk_31_method_11_code 2 (some (.object "java/lang/Object")) ws ({ frames := 0, cells := 0, slots := 0, locals := 0 } : Room) #[(.ref w_STRING), (.ref a288)] Z h0 (fun v h L => v = some (.ref w_STRING) ∧ Fr n0 L ∧ Keep h0 h []) := by
 refine MetFree.of_bodySF (plainFor_of_name pn4) hisR ?_
 intro p e s m args below meth c s₁ Bd hml0 hP hK
 obtain ⟨rfl, hZ, hh⟩ := hP
 have hx := Bd.exec
 have hby := Bd.bytes
 have hml : c.maxLocals = 2 := hml0
 have hown : s.vm.findClass "java/util/Objects" = some m.cls := findClass_of_methodNamed Bd.named
 have hnm := (name_of_methodNamed Bd.named Bd.method).1
 have X0 : Stand p l e ({ frames := 0, cells := 0, slots := 0, locals := 0 } : Room) s m #[(.ref w_STRING), (.ref a288)] below meth c s₁ [] 0 0 := Stand.of_body Bd
 have e0 : s₁.heap = h0 := by rw [← hh, Bd.state]; rfl
 have N0 := Fr.nil n0
 have Z0 := own_old_le O0
 show Ends _ _ _ _ s₁ (entryFrame m #[(.ref w_STRING), (.ref a288)] 2) ({ frames := 0, cells := 0, slots := 0, locals := 0 } : Room).cells ({ frames := 0, cells := 0, slots := 0, locals := 0 } : Room).slots (fun v h L => v = some (.ref w_STRING) ∧ Fr n0 L ∧ Keep h0 h [])
 refine Ends.go (fun _ k => castTop (ef4_rr m w_STRING a288) k) ?_
 obtain ⟨SCS, P5, SSF, RG3, HCST, HCW, S_NULL, E_NULL, S_NUMBER, E_NUMBER, F_ordinal_NULL, F_ordinal_NUMBER, S_NULL2, E_NULL2, F_kind_NULL2, S_STRING, E_STRING, F_ordinal_STRING⟩ := id GF
 have K0 := Keep.refl h0 []
 show Ends _ _ _ _ s₁ (mkF m 0 #[cr w_STRING, cr a288] []) _ _ _
 refine walN X0 hx hby d4_0 rfl rfl ?_
 refine .go (fun _ => XS.ifnonnullYes X0.here hx rfl (pc0 := 1) (pc' := 13) rfl (hb hby d4_1) rfl (by decide) (by decide)) ?_
 refine walN X0 hx hby d4_13 rfl rfl ?_
 show Ends _ _ _ _ s₁ (mkF m 14 #[cr w_STRING, cr a288] [(.ref w_STRING)]) _ _ _
 refine Ends.ret X0 hx Bd.notSynchronized (t := (.object "java/lang/Object")) Bd.returns rfl (Or.inr (Or.inr (Or.inr (Or.inr ⟨rfl, rfl, rfl⟩)))) (hb hby d4_14) (by decide) (by decide) ?_
 rw [e0]
 exact ⟨rfl, N0, K0⟩

set_option maxRecDepth 65536 in
set_option maxHeartbeats 40000000 in
theorem rx1_286 (l : Launch) (Z : State) (a0 : Array Value) (hw : ∀ d ∈ tables_1, d.before a0 Z = true) (ws : List Jvm.Cond) (n0 : Nat) (h0 : Heap) (O0 : Old Z n0 h0) (G1 : Int32) (G3 : Value) (w_NULL : Addr) (w_NUMBER : Addr) (w_NULL2 : Addr) (w_STRING : Addr) (GF : GlobF Z a0 G1 G3 w_NULL w_NUMBER w_NULL2 w_STRING) (b266 : Addr) (b283 : Addr) (PE_b266 : Exa Z h0 b266 "com/example/wakeline/wakeline/event/Value") (PF_b266_kind : Fld Z h0 b266 "com/example/wakeline/wakeline/event/Value" "kind" "Lcom/example/wakeline/wakeline/event/Value$Kind;" .null) (PF_b266_text : Fld Z h0 b266 "com/example/wakeline/wakeline/event/Value" "text" "Ljava/lang/String;" .null) (g_b266 : n0 ≤ b266) :
  Meets1W l ym4 prog_15_method_1_code 3 none ws ({ frames := 2, cells := 2, slots := 20, locals := 24 } : Room) #[(.ref b266), (.ref w_STRING), (.ref b283)] Z h0 false (fun v h L => v = none ∧ Fr n0 L ∧ Keep h0 h [b266] ∧ Fld Z h b266 "com/example/wakeline/wakeline/event/Value" "kind" "Lcom/example/wakeline/wakeline/event/Value$Kind;" (.ref w_STRING) ∧ Fld Z h b266 "com/example/wakeline/wakeline/event/Value" "text" "Ljava/lang/String;" (.ref b283)) := by
 refine MetFree.of_bodySF (plainFor_of_name pn1) hisR ?_
 intro p e s m args below meth c s₁ Bd hml0 hP hK
 obtain ⟨rfl, hZ, hh, hI⟩ := hP
 have hx := Bd.exec
 have hby := Bd.bytes
 have hml : c.maxLocals = 3 := hml0
 have hown : s.vm.findClass "com/example/wakeline/wakeline/event/Value" = some m.cls := findClass_of_methodNamed Bd.named
 have hnm := (name_of_methodNamed Bd.named Bd.method).1
 have X0 : Stand p l e ({ frames := 2, cells := 2, slots := 20, locals := 24 } : Room) s m #[(.ref b266), (.ref w_STRING), (.ref b283)] below meth c s₁ [] 0 0 := Stand.of_body Bd
 have e0 : s₁.heap = h0 := by rw [← hh, Bd.state]; rfl
 have N0 := Fr.nil n0
 have hS0 := own_since0 s
 have hk0 : s.heap.size ≤ h0.size := Nat.le_of_eq (congrArg Array.size hh)
 have Z0 := own_old_le O0
 show EndsW _ _ _ _ s₁ (entryFrame m #[(.ref b266), (.ref w_STRING), (.ref b283)] 3) ({ frames := 2, cells := 2, slots := 20, locals := 24 } : Room).cells ({ frames := 2, cells := 2, slots := 20, locals := 24 } : Room).slots (fun v h L => v = none ∧ Fr n0 L ∧ Keep h0 h [b266] ∧ Fld Z h b266 "com/example/wakeline/wakeline/event/Value" "kind" "Lcom/example/wakeline/wakeline/event/Value$Kind;" (.ref w_STRING) ∧ Fld Z h b266 "com/example/wakeline/wakeline/event/Value" "text" "Ljava/lang/String;" (.ref b283))
 refine EndsW.go (fun _ k => castTop (ef1_rrr m b266 w_STRING b283) k) ?_
 obtain ⟨SCS, P5, SSF, RG3, HCST, HCW, S_NULL, E_NULL, S_NUMBER, E_NUMBER, F_ordinal_NULL, F_ordinal_NUMBER, S_NULL2, E_NULL2, F_kind_NULL2, S_STRING, E_STRING, F_ordinal_STRING⟩ := id GF
 have K0 := Keep.refl h0 [b266]
 show EndsW _ _ _ _ s₁ (mkF m 0 #[cr b266, cr w_STRING, cr b283] []) _ _ _
 refine walNW X0 hx hby d1_0 rfl rfl ?_
 obtain ⟨_, _, ⟨T287, L287, k287, n287⟩, -, X287, ⟨Lc287, hQ287, l287, y287, z287⟩, st287⟩ := X0.specialBack hx (y := ym2) rfl hown (mvT hZ (ow hw 10 rfl)) (mvT hZ (ow hw 11 rfl)) (mvT hZ (ow hw 14 rfl)) (by decide) (own_backOf (W := 0) (rx2_5 l Z a0 hw [] n0 h0 O0  b266 ) hZ (ow hw 14 rfl) (ow hw 13 rfl) (by decide) (by decide)) (g := (mkF m 1 #[cr b266, cr w_STRING, cr b283] [(.ref b266)])) rfl (by rw [hml]; rfl) (Steps.refl _) (a := b266) (argsL := []) (rest := []) (lenOf pdx_0 rfl) rfl (by show 2 * 0 + _ ≤ _; exact Nat.le_of_eq rfl) (hb hby d1_1) (fun _ _ => ⟨rfl, e0, (by decide : 0 + 0 ≤ _), (by decide : 0 + 0 ≤ _)⟩)
 dsimp only [Pt.U, Pt.locs, Pt.cells, Pt.slots] at X287 l287 y287 z287 st287 hQ287
 subst l287 y287 z287
 obtain ⟨rfl, N287q, K287c⟩ := hQ287
 have N287 := Fr.app N0 N287q
 refine EndsW.go (fun _ k => st287.trans k) ?_
 obtain ⟨h287, e287⟩ : ∃ z, T287.heap = z := ⟨_, rfl⟩
 rw [e287] at K287c
 have K287 := K0.trans K287c all0
 have O287 := O0.keep K287c all0
 refine walNW X287 hx hby d1_4 rfl rfl ?_
 show EndsW _ _ _ _ T287 (mkF m 5 #[cr b266, cr w_STRING, cr b283] [(.ref w_STRING)]) _ _ _
 obtain ⟨a288, T288, h288, k288, X288, e288, E288, hS288, hk288, hZ, hown, st288⟩ := ldcS (s := s) (vm0 := s.vm) X287 hx hZ hown (ow hw 18 rfl) (own_atoms hw) e287 hS0 (Nat.le_trans hk0 K287c.1) (g := (mkF m 5 #[cr b266, cr w_STRING, cr b283] [(.ref w_STRING)])) rfl (hb hby d1_5) (n := 16) (by decide) (by decide) (by decide) (by decide)
 refine EndsW.go st288 ?_
 have K288 := K287.ext E288
 have O288 := O287.ext E288
 obtain ⟨_, _, ⟨T290, L290, k290, n290⟩, -, X290, ⟨Lc290, hQ290, l290, y290, z290⟩, st290⟩ := Jvm.LawKit.callS X288 hx (y := ym3) hown (mvT hZ (ow hw 26 rfl)) (mvT hZ (ow hw 27 rfl)) (mvT hZ (ow hw 28 rfl)) (mvT hZ (ow hw 29 rfl)) (by decide) (own_backOf (W := 0) (rx4_289 l Z a0 hw [] n0 h288 O288 G1 G3 w_NULL w_NUMBER w_NULL2 w_STRING GF a288 ) hZ (ow hw 29 rfl) (ow hw 28 rfl) (by decide) (by decide)) (g := (mkF m 7 #[cr b266, cr w_STRING, cr b283] [(.ref a288), (.ref w_STRING)])) rfl (by rw [hml]; rfl) (argsL := [(.ref w_STRING), (.ref a288)]) (rest := []) (lenOf pdx_1 rfl) rfl (by show 2 * 0 + _ ≤ _; exact Nat.le_of_eq rfl) (hb hby d1_7) (fun _ _ => ⟨rfl, e288, (by decide : 2 + 0 ≤ _), (by decide : 20 + 0 ≤ _)⟩)
 dsimp only [Pt.U, Pt.locs, Pt.cells, Pt.slots] at X290 l290 y290 z290 st290 hQ290
 subst l290 y290 z290
 obtain ⟨rfl, N290q, K290c⟩ := hQ290
 have N290 := Fr.app N287 N290q
 refine EndsW.go st290 ?_
 obtain ⟨h290, e290⟩ : ∃ z, T290.heap = z := ⟨_, rfl⟩
 rw [e290] at K290c
 have K290 := K288.trans K290c all0
 have O290 := O288.keep K290c all0
 refine .go (fun _ => XS.pop X290.here hx rfl (hb hby d1_10) rfl rfl) ?_
 refine walNW X290 hx hby d1_11 rfl rfl ?_
 show EndsW _ _ _ _ T290 (mkF m 12 #[cr b266, cr w_STRING, cr b283] [(.ref w_STRING)]) _ _ _
 obtain ⟨T291, X291, e291, st291⟩ := getS2 X290 hx hZ hown (host := "") (Or.inl (ow hw 30 rfl)) Via.refl e290 (S_NULL.ext O290.2) (g := (mkF m 12 #[cr b266, cr w_STRING, cr b283] [(.ref w_STRING)])) rfl (hb hby d1_12)
 refine EndsW.go st291 ?_
 refine .go (fun _ => Jvm.RoadKit.acmp (g := (mkF m 15 #[cr b266, cr w_STRING, cr b283] [(.ref w_NULL), (.ref w_STRING)])) X291 hx rfl rfl rfl (pc0 := 15) (pc' := 22) (same := false) rfl (hb hby d1_15) rfl (decide_eq_false fun q => (Fld.ne F_ordinal_STRING F_ordinal_NULL (by decide)) (Value.ref.inj q)) (by decide) (by decide)) ?_
 refine wicW X291 hx hby d1_22 ?_
 refine walNW X291 hx hby d1_23 rfl rfl ?_
 show EndsW _ _ _ _ T291 (mkF m 24 #[cr b266, cr w_STRING, cr b283] [(.ref b283), (.int 0)]) _ _ _
 refine .go (fun _ => XS.ifnonnullYes X291.here hx rfl (pc0 := 24) (pc' := 31) rfl (hb hby d1_24) rfl (by decide) (by decide)) ?_
 refine wicW X291 hx hby d1_31 ?_
 refine wcyW (pc := 32) (pc' := 63) X291 hx hby d1_32 (teq (by decide : (0 : Int32) = (0 : Int32))).1 (by decide) (by decide) ?_
 refine walNW X291 hx hby d1_63 rfl rfl ?_
 show EndsW _ _ _ _ T291 (mkF m 64 #[cr b266, cr w_STRING, cr b283] [(.ref w_STRING)]) _ _ _
 obtain ⟨T292, X292, e292, st292⟩ := getS2 X291 hx hZ hown (host := "") (Or.inl (ow hw 31 rfl)) Via.refl e291 (S_NUMBER.ext O290.2) (g := (mkF m 64 #[cr b266, cr w_STRING, cr b283] [(.ref w_STRING)])) rfl (hb hby d1_64)
 refine EndsW.go st292 ?_
 refine .go (fun _ => Jvm.RoadKit.acmp (g := (mkF m 67 #[cr b266, cr w_STRING, cr b283] [(.ref w_NUMBER), (.ref w_STRING)])) X292 hx rfl rfl rfl (pc0 := 67) (pc' := 91) (same := false) rfl (hb hby d1_67) rfl (decide_eq_false fun q => (Fld.ne F_ordinal_STRING F_ordinal_NUMBER (by decide)) (Value.ref.inj q)) (by decide) (by decide)) ?_
 refine walNW X292 hx hby d1_91 rfl rfl ?_
 refine walNW X292 hx hby d1_92 rfl rfl ?_
 show EndsW _ _ _ _ T292 (mkF m 93 #[cr b266, cr w_STRING, cr b283] [(.ref w_STRING), (.ref b266)]) _ _ _
 obtain ⟨T293, h293, X293, e293, W293, st293⟩ := putF X292 hx hZ hown (host := "") (Or.inl (ow hw 33 rfl)) Via.refl e292 (((PF_b266_kind.keep K287c nin0).ext E288).keep K290c nin0) (((PE_b266.keep K287c).ext E288).keep K290c) (Or.inr ⟨(ow hw 34 rfl), rfl, hnm⟩) (ow hw 5 rfl) (ty := (.object "com/example/wakeline/wakeline/event/Value$Kind")) (by decide) rfl rfl (g := (mkF m 93 #[cr b266, cr w_STRING, cr b283] [(.ref w_STRING), (.ref b266)])) rfl rfl (hb hby d1_93)
 refine EndsW.go st293 ?_
 have Fw293 := (((PF_b266_kind.keep K287c nin0).ext E288).keep K290c nin0).same W293
 have K293 := K290.wr W293 (Or.inl (List.mem_of_getElem? (i := 0) rfl))
 have O293 := O290.wr W293 g_b266
 have N293 := Fr.snoc X293 N290 g_b266
 refine walNW X293 hx hby d1_96 rfl rfl ?_
 refine walNW X293 hx hby d1_97 rfl rfl ?_
 obtain ⟨T294, h294, X294, e294, W294, st294⟩ := putF X293 hx hZ hown (host := "") (Or.inl (ow hw 35 rfl)) Via.refl e293 ((((PF_b266_text.keep K287c nin0).ext E288).keep K290c nin0).other W293 (Or.inr (slot_ne (Or.inr (ow hw 36 rfl)) (Or.inr (ow hw 34 rfl)) (by decide) (t := (.object "java/lang/String")) (t' := (.object "com/example/wakeline/wakeline/event/Value$Kind")) (by decide) (by decide)))) ((((PE_b266.keep K287c).ext E288).keep K290c).wr W293) (Or.inr ⟨(ow hw 36 rfl), rfl, hnm⟩) (ow hw 5 rfl) (ty := (.object "java/lang/String")) (by decide) rfl rfl (g := (mkF m 98 #[cr b266, cr w_STRING, cr b283] [(.ref b283), (.ref b266)])) rfl rfl (hb hby d1_98)
 refine EndsW.go st294 ?_
 have Fw294 := ((((PF_b266_text.keep K287c nin0).ext E288).keep K290c nin0).other W293 (Or.inr (slot_ne (Or.inr (ow hw 36 rfl)) (Or.inr (ow hw 34 rfl)) (by decide) (t := (.object "java/lang/String")) (t' := (.object "com/example/wakeline/wakeline/event/Value$Kind")) (by decide) (by decide)))).same W294
 have K294 := K293.wr W294 (Or.inl (List.mem_of_getElem? (i := 0) rfl))
 have O294 := O293.wr W294 g_b266
 have N294 := Fr.snoc X294 N293 g_b266
 show EndsW _ _ _ _ T294 (mkF m 101 #[cr b266, cr w_STRING, cr b283] []) _ _ _
 refine EndsW.retV (s := s) (vm := T288.vm) X294 hx hS288 (Nat.le_trans (Nat.le_trans (Nat.le_trans (Nat.le_trans hk288 K290c.1) (own_wrsz W293)) (own_wrsz W294)) (Nat.le_of_eq (congrArg Array.size e294.symm))) Bd.notSynchronized Bd.returns (hb hby d1_101) (by decide) (by decide) ?_
 rw [e294]
 exact ⟨rfl, N294, K294, (Fw293.other W294 (Or.inr (slot_ne (Or.inr (ow hw 34 rfl)) (Or.inr (ow hw 36 rfl)) (by decide) (t := (.object "com/example/wakeline/wakeline/event/Value$Kind")) (t' := (.object "java/lang/String")) (by decide) (by decide)))), Fw294⟩

set_option maxRecDepth 65536 in
set_option maxHeartbeats 40000000 in
theorem rx5_296 (l : Launch) (Z : State) (a0 : Array Value) (hw : ∀ d ∈ tables_1, d.before a0 Z = true) (ws : List Jvm.Cond) (n0 : Nat) (h0 : Heap) (O0 : Old Z n0 h0) (G1 : Int32) (G3 : Value) (w_NULL : Addr) (w_NUMBER : Addr) (w_NULL2 : Addr) (w_STRING : Addr) (GF : GlobF Z a0 G1 G3 w_NULL w_NUMBER w_NULL2 w_STRING) (b266 : Addr) (PF_b266_kind : Fld Z h0 b266 "com/example/wakeline/wakeline/event/Value" "kind" "Lcom/example/wakeline/wakeline/event/Value$Kind;" (.ref w_STRING)) :
  Meets1 l ym5 prog_15_method_4_code 1 (some .boolean) ws ({ frames := 0, cells := 0, slots := 0, locals := 0 } : Room) #[(.ref b266)] Z h0 (fun v h L => v = some (.int 0) ∧ Fr n0 L ∧ Keep h0 h []) := by
 refine MetFree.of_bodySF (plainFor_of_name pn5) hisR ?_
 intro p e s m args below meth c s₁ Bd hml0 hP hK
 obtain ⟨rfl, hZ, hh⟩ := hP
 have hx := Bd.exec
 have hby := Bd.bytes
 have hml : c.maxLocals = 1 := hml0
 have hown : s.vm.findClass "com/example/wakeline/wakeline/event/Value" = some m.cls := findClass_of_methodNamed Bd.named
 have hnm := (name_of_methodNamed Bd.named Bd.method).1
 have X0 : Stand p l e ({ frames := 0, cells := 0, slots := 0, locals := 0 } : Room) s m #[(.ref b266)] below meth c s₁ [] 0 0 := Stand.of_body Bd
 have e0 : s₁.heap = h0 := by rw [← hh, Bd.state]; rfl
 have N0 := Fr.nil n0
 have Z0 := own_old_le O0
 show Ends _ _ _ _ s₁ (entryFrame m #[(.ref b266)] 1) ({ frames := 0, cells := 0, slots := 0, locals := 0 } : Room).cells ({ frames := 0, cells := 0, slots := 0, locals := 0 } : Room).slots (fun v h L => v = some (.int 0) ∧ Fr n0 L ∧ Keep h0 h [])
 refine Ends.go (fun _ k => castTop (ef5_r m b266) k) ?_
 obtain ⟨SCS, P5, SSF, RG3, HCST, HCW, S_NULL, E_NULL, S_NUMBER, E_NUMBER, F_ordinal_NULL, F_ordinal_NUMBER, S_NULL2, E_NULL2, F_kind_NULL2, S_STRING, E_STRING, F_ordinal_STRING⟩ := id GF
 have K0 := Keep.refl h0 []
 show Ends _ _ _ _ s₁ (mkF m 0 #[cr b266] []) _ _ _
 refine walN X0 hx hby d5_0 rfl rfl ?_
 obtain ⟨T297, X297, e297, st297⟩ := getF X0 hx hZ hown (host := "") (Or.inl (ow hw 33 rfl)) Via.refl e0 PF_b266_kind (g := (mkF m 1 #[cr b266] [(.ref b266)])) rfl rfl (hb hby d5_1)
 refine Ends.go st297 ?_
 obtain ⟨T298, X298, e298, st298⟩ := getS2 X297 hx hZ hown (host := "") (Or.inl (ow hw 30 rfl)) Via.refl e297 (S_NULL.ext O0.2) (g := (mkF m 4 #[cr b266] [(.ref w_STRING)])) rfl (hb hby d5_4)
 refine Ends.go st298 ?_
 show Ends _ _ _ _ T298 (mkF m 7 #[cr b266] [(.ref w_NULL), (.ref w_STRING)]) _ _ _
 refine .go (fun _ => Jvm.RoadKit.acmp (g := (mkF m 7 #[cr b266] [(.ref w_NULL), (.ref w_STRING)])) X298 hx rfl rfl rfl (pc0 := 7) (pc' := 14) (same := false) rfl (hb hby d5_7) rfl (decide_eq_false fun q => (Fld.ne F_ordinal_STRING F_ordinal_NULL (by decide)) (Value.ref.inj q)) (by decide) (by decide)) ?_
 refine wic X298 hx hby d5_14 ?_
 refine Ends.retZ X298 hx Bd.notSynchronized (t := .boolean) Bd.returns (by simp) (hb hby d5_15) (by decide) (by decide) ?_
 rw [e298]
 exact ⟨rfl, N0, K0⟩

set_option maxRecDepth 65536 in
set_option maxHeartbeats 40000000 in
theorem rx7_301 (l : Launch) (Z : State) (a0 : Array Value) (hw : ∀ d ∈ tables_1, d.before a0 Z = true) (ws : List Jvm.Cond) (n0 : Nat) (h0 : Heap) (O0 : Old Z n0 h0) (G1 : Int32) (G3 : Value) (w_NULL : Addr) (w_NUMBER : Addr) (w_NULL2 : Addr) (w_STRING : Addr) (GF : GlobF Z a0 G1 G3 w_NULL w_NUMBER w_NULL2 w_STRING) (b266 : Addr) (PF_b266_kind : Fld Z h0 b266 "com/example/wakeline/wakeline/event/Value" "kind" "Lcom/example/wakeline/wakeline/event/Value$Kind;" (.ref w_STRING)) :
  Meets1 l ym7 prog_15_method_9_code 1 (some (.object "com/example/wakeline/wakeline/event/Value$Kind")) ws ({ frames := 0, cells := 0, slots := 0, locals := 0 } : Room) #[(.ref b266)] Z h0 (fun v h L => v = some (.ref w_STRING) ∧ Fr n0 L ∧ Keep h0 h []) := by
 refine MetFree.of_bodySF (plainFor_of_name pn7) hisR ?_
 intro p e s m args below meth c s₁ Bd hml0 hP hK
 obtain ⟨rfl, hZ, hh⟩ := hP
 have hx := Bd.exec
 have hby := Bd.bytes
 have hml : c.maxLocals = 1 := hml0
 have hown : s.vm.findClass "com/example/wakeline/wakeline/event/Value" = some m.cls := findClass_of_methodNamed Bd.named
 have hnm := (name_of_methodNamed Bd.named Bd.method).1
 have X0 : Stand p l e ({ frames := 0, cells := 0, slots := 0, locals := 0 } : Room) s m #[(.ref b266)] below meth c s₁ [] 0 0 := Stand.of_body Bd
 have e0 : s₁.heap = h0 := by rw [← hh, Bd.state]; rfl
 have N0 := Fr.nil n0
 have Z0 := own_old_le O0
 show Ends _ _ _ _ s₁ (entryFrame m #[(.ref b266)] 1) ({ frames := 0, cells := 0, slots := 0, locals := 0 } : Room).cells ({ frames := 0, cells := 0, slots := 0, locals := 0 } : Room).slots (fun v h L => v = some (.ref w_STRING) ∧ Fr n0 L ∧ Keep h0 h [])
 refine Ends.go (fun _ k => castTop (ef7_r m b266) k) ?_
 obtain ⟨SCS, P5, SSF, RG3, HCST, HCW, S_NULL, E_NULL, S_NUMBER, E_NUMBER, F_ordinal_NULL, F_ordinal_NUMBER, S_NULL2, E_NULL2, F_kind_NULL2, S_STRING, E_STRING, F_ordinal_STRING⟩ := id GF
 have K0 := Keep.refl h0 []
 show Ends _ _ _ _ s₁ (mkF m 0 #[cr b266] []) _ _ _
 refine walN X0 hx hby d7_0 rfl rfl ?_
 obtain ⟨T302, X302, e302, st302⟩ := getF X0 hx hZ hown (host := "") (Or.inl (ow hw 33 rfl)) Via.refl e0 PF_b266_kind (g := (mkF m 1 #[cr b266] [(.ref b266)])) rfl rfl (hb hby d7_1)
 refine Ends.go st302 ?_
 refine Ends.ret X302 hx Bd.notSynchronized (t := (.object "com/example/wakeline/wakeline/event/Value$Kind")) Bd.returns rfl (Or.inr (Or.inr (Or.inr (Or.inr ⟨rfl, rfl, rfl⟩)))) (hb hby d7_4) (by decide) (by decide) ?_
 rw [e302]
 exact ⟨rfl, N0, K0⟩

set_option maxRecDepth 65536 in
set_option maxHeartbeats 40000000 in
theorem rx10_310 (l : Launch) (Z : State) (a0 : Array Value) (hw : ∀ d ∈ tables_1, d.before a0 Z = true) (ws : List Jvm.Cond) (n0 : Nat) (h0 : Heap) (O0 : Old Z n0 h0)  (p1 : Int32)  :
  Meets1 l ym8 jdk_43_method_3_code 1 (some .boolean) ws ({ frames := 0, cells := 0, slots := 0, locals := 0 } : Room) #[(.int ((p1 &&& (255 : Int32)).toUInt32.toUInt16.toUInt32.toInt32))] Z h0 (fun v h L => v = some (.int 1) ∧ Fr n0 L ∧ Keep h0 h []) := by
 refine MetFree.of_bodySF (plainFor_of_name pn10) hisR ?_
 intro p e s m args below meth c s₁ Bd hml0 hP hK
 obtain ⟨rfl, hZ, hh⟩ := hP
 have hx := Bd.exec
 have hby := Bd.bytes
 have hml : c.maxLocals = 1 := hml0
 have hown : s.vm.findClass "java/lang/StringLatin1" = some m.cls := findClass_of_methodNamed Bd.named
 have hnm := (name_of_methodNamed Bd.named Bd.method).1
 have X0 : Stand p l e ({ frames := 0, cells := 0, slots := 0, locals := 0 } : Room) s m #[(.int ((p1 &&& (255 : Int32)).toUInt32.toUInt16.toUInt32.toInt32))] below meth c s₁ [] 0 0 := Stand.of_body Bd
 have e0 : s₁.heap = h0 := by rw [← hh, Bd.state]; rfl
 have N0 := Fr.nil n0
 have Z0 := own_old_le O0
 show Ends _ _ _ _ s₁ (entryFrame m #[(.int ((p1 &&& (255 : Int32)).toUInt32.toUInt16.toUInt32.toInt32))] 1) ({ frames := 0, cells := 0, slots := 0, locals := 0 } : Room).cells ({ frames := 0, cells := 0, slots := 0, locals := 0 } : Room).slots (fun v h L => v = some (.int 1) ∧ Fr n0 L ∧ Keep h0 h [])
 refine Ends.go (fun _ k => castTop (ef10_i m ((p1 &&& (255 : Int32)).toUInt32.toUInt16.toUInt32.toInt32)) k) ?_
 have K0 := Keep.refl h0 []
 show Ends _ _ _ _ s₁ (mkF m 0 #[ci ((p1 &&& (255 : Int32)).toUInt32.toUInt16.toUInt32.toInt32)] []) _ _ _
 refine wilN X0 hx hby d10_0 rfl ?_
 refine wsp X0 hx hby d10_1 ?_
 refine wcn X0 hx hby d10_4 (flt ((own_b255 p1) : ¬ ((255 : Int32) < ((p1 &&& (255 : Int32)).toUInt32.toUInt16.toUInt32.toInt32)))).2.2.1 ?_
 show Ends _ _ _ _ s₁ (mkF m 7 #[ci ((p1 &&& (255 : Int32)).toUInt32.toUInt16.toUInt32.toInt32)] []) _ _ _
 refine wic X0 hx hby d10_7 ?_
 refine wgo (pc := 8) (pc' := 12) X0 hx hby d10_8 (by decide) (by decide) ?_
 refine Ends.retZ X0 hx Bd.notSynchronized (t := .boolean) Bd.returns (by simp) (hb hby d10_12) (by decide) (by decide) ?_
 rw [e0]
 exact ⟨rfl, N0, K0⟩

set_option maxRecDepth 65536 in
set_option maxHeartbeats 40000000 in
theorem rx11_313 (l : Launch) (Z : State) (a0 : Array Value) (hw : ∀ d ∈ tables_1, d.before a0 Z = true) (ws : List Jvm.Cond) (n0 : Nat) (h0 : Heap) (O0 : Old Z n0 h0)  (p1 : Int32)  :
  Meets1 l ym9 jdk_43_method_46_code 1 (some (.array .byte)) ws ({ frames := 0, cells := 1, slots := 1, locals := 0 } : Room) #[(.int ((p1 &&& (255 : Int32)).toUInt32.toUInt16.toUInt32.toInt32))] Z h0 (fun v h L => ∃ (b314 : Addr) (k314 : ClassId), v = some (.ref b314) ∧ Fr n0 L ∧ Keep h0 h [] ∧ h0.size ≤ b314 ∧ Arv Z h b314 k314 .byte (1 : Int32) [(.int (((p1 &&& (255 : Int32)).toUInt32.toUInt16.toUInt32.toInt32).toInt8.toInt32))] (.int 0)) := by
 refine MetFree.of_bodySF (plainFor_of_name pn11) hisR ?_
 intro p e s m args below meth c s₁ Bd hml0 hP hK
 obtain ⟨rfl, hZ, hh⟩ := hP
 have hx := Bd.exec
 have hby := Bd.bytes
 have hml : c.maxLocals = 1 := hml0
 have hown : s.vm.findClass "java/lang/StringLatin1" = some m.cls := findClass_of_methodNamed Bd.named
 have hnm := (name_of_methodNamed Bd.named Bd.method).1
 have X0 : Stand p l e ({ frames := 0, cells := 1, slots := 1, locals := 0 } : Room) s m #[(.int ((p1 &&& (255 : Int32)).toUInt32.toUInt16.toUInt32.toInt32))] below meth c s₁ [] 0 0 := Stand.of_body Bd
 have e0 : s₁.heap = h0 := by rw [← hh, Bd.state]; rfl
 have N0 := Fr.nil n0
 have Z0 := own_old_le O0
 show Ends _ _ _ _ s₁ (entryFrame m #[(.int ((p1 &&& (255 : Int32)).toUInt32.toUInt16.toUInt32.toInt32))] 1) ({ frames := 0, cells := 1, slots := 1, locals := 0 } : Room).cells ({ frames := 0, cells := 1, slots := 1, locals := 0 } : Room).slots (fun v h L => ∃ (b314 : Addr) (k314 : ClassId), v = some (.ref b314) ∧ Fr n0 L ∧ Keep h0 h [] ∧ h0.size ≤ b314 ∧ Arv Z h b314 k314 .byte (1 : Int32) [(.int (((p1 &&& (255 : Int32)).toUInt32.toUInt16.toUInt32.toInt32).toInt8.toInt32))] (.int 0))
 refine Ends.go (fun _ k => castTop (ef11_i m ((p1 &&& (255 : Int32)).toUInt32.toUInt16.toUInt32.toInt32)) k) ?_
 have K0 := Keep.refl h0 []
 show Ends _ _ _ _ s₁ (mkF m 0 #[ci ((p1 &&& (255 : Int32)).toUInt32.toUInt16.toUInt32.toInt32)] []) _ _ _
 refine wic X0 hx hby d11_0 ?_
 obtain ⟨T314, h314, k314, X314, e314, E314, A314, st314⟩ := newP X0 hx hZ (ow hw 21 rfl) e0 (g := (mkF m 1 #[ci ((p1 &&& (255 : Int32)).toUInt32.toUInt16.toUInt32.toInt32)] [(.int 1)])) rfl (hb hby d11_1) rfl (by decide) (cap := 1) (by decide) (by decide) (by decide) (by decide)
 obtain ⟨b314, g314⟩ : ∃ z, z = h0.size := ⟨_, rfl⟩
 rw [← g314] at A314 st314
 refine Ends.go st314 ?_
 have g_b314 : n0 ≤ b314 := Nat.le_trans (own_old_le O0) (Nat.le_of_eq g314.symm)
 have sz_b314 : h0.size ≤ b314 := Nat.le_trans K0.1 (Nat.le_of_eq g314.symm)
 have K314 := K0.ext E314
 have O314 := O0.ext E314
 have V_b314 : Arv Z h314 b314 k314 .byte (1 : Int32) [(.int 0)] (.int 0) := (Arv.new A314 (by decide)).pad (pad_rep [] (.int 0) 1)
 refine wdu X314 hx hby d11_3 rfl ?_
 show Ends _ _ _ _ T314 (mkF m 4 #[ci ((p1 &&& (255 : Int32)).toUInt32.toUInt16.toUInt32.toInt32)] [(.ref b314), (.ref b314)]) _ _ _
 refine wic X314 hx hby d11_4 ?_
 refine wilN X314 hx hby d11_5 rfl ?_
 refine .go (fun _ => XS.i2b X314.here hx rfl (hb hby d11_6) rfl) ?_
 obtain ⟨cl315, Ar315, q315, S315, M315, H315, G315⟩ := id V_b314
 have hin315 := inb_of (j := (0 : Int32)) S315 ⟨by decide, by decide⟩
 obtain ⟨T315, h315, X315, e315, W315, st315⟩ := stB X314 hx hZ e314 Ar315 (j := (0 : Int32)) hin315 (g := (mkF m 7 #[ci ((p1 &&& (255 : Int32)).toUInt32.toUInt16.toUInt32.toInt32)] [(.int (((p1 &&& (255 : Int32)).toUInt32.toUInt16.toUInt32.toInt32).toInt8.toInt32)), (.int 0), (.ref b314), (.ref b314)])) rfl rfl (hb hby d11_7)
 refine Ends.go st315 ?_
 have V315 : Arv Z h315 b314 k314 .byte (1 : Int32) [(.int (nar .byte (((p1 &&& (255 : Int32)).toUInt32.toUInt16.toUInt32.toInt32).toInt8.toInt32)))] (.int 0) := Arv.set Ar315 q315 S315 M315 H315 G315 (fits_nar_byte _) W315 0 rfl (Nat.le_of_ble_eq_true rfl)
 rw [own_narb] at V315
 have K315 := K314.wr W315 (Or.inr sz_b314)
 have O315 := O314.wr W315 g_b314
 have N315 := Fr.snoc X315 N0 g_b314
 show Ends _ _ _ _ T315 (mkF m 8 #[ci ((p1 &&& (255 : Int32)).toUInt32.toUInt16.toUInt32.toInt32)] [(.ref b314)]) _ _ _
 refine Ends.ret X315 hx Bd.notSynchronized (t := (.array .byte)) Bd.returns rfl (Or.inr (Or.inr (Or.inr (Or.inr ⟨rfl, rfl, rfl⟩)))) (hb hby d11_8) (by decide) (by decide) ?_
 rw [e315]
 exact ⟨b314, k314, rfl, N315, K315, sz_b314, V315⟩

set_option maxRecDepth 65536 in
set_option maxHeartbeats 40000000 in
theorem rx9_308 (l : Launch) (Z : State) (a0 : Array Value) (hw : ∀ d ∈ tables_1, d.before a0 Z = true) (ws : List Jvm.Cond) (n0 : Nat) (h0 : Heap) (O0 : Old Z n0 h0) (G1 : Int32) (G3 : Value) (w_NULL : Addr) (w_NUMBER : Addr) (w_NULL2 : Addr) (w_STRING : Addr) (GF : GlobF Z a0 G1 G3 w_NULL w_NUMBER w_NULL2 w_STRING) (p1 : Int32)  :
  Meets1 l ym11 jdk_42_method_139_code 1 (some (.object "java/lang/String")) ws ({ frames := 2, cells := 2, slots := 5, locals := 27 } : Room) #[(.int ((p1 &&& (255 : Int32)).toUInt32.toUInt16.toUInt32.toInt32))] Z h0 (fun v h L => ∃ (b312 : Addr) (b317 : Addr) (k318 : ClassId), v = some (.ref b312) ∧ Fr n0 L ∧ Keep h0 h [] ∧ h0.size ≤ b312 ∧ h0.size ≤ b317 ∧ b312 ≠ b317 ∧ Exa Z h b312 "java/lang/String" ∧ Arv Z h b317 k318 .byte (1 : Int32) [(.int (((p1 &&& (255 : Int32)).toUInt32.toUInt16.toUInt32.toInt32).toInt8.toInt32))] (.int 0) ∧ Fld Z h b312 "java/lang/String" "value" "[B" (.ref b317) ∧ Fld Z h b312 "java/lang/String" "coder" "B" (.int 0)) := by
 refine MetFree.of_bodySF (plainFor_of_name pn9) hisR ?_
 intro p e s m args below meth c s₁ Bd hml0 hP hK
 obtain ⟨rfl, hZ, hh⟩ := hP
 have hx := Bd.exec
 have hby := Bd.bytes
 have hml : c.maxLocals = 1 := hml0
 have hown : s.vm.findClass "java/lang/String" = some m.cls := findClass_of_methodNamed Bd.named
 have hnm := (name_of_methodNamed Bd.named Bd.method).1
 have X0 : Stand p l e ({ frames := 2, cells := 2, slots := 5, locals := 27 } : Room) s m #[(.int ((p1 &&& (255 : Int32)).toUInt32.toUInt16.toUInt32.toInt32))] below meth c s₁ [] 0 0 := Stand.of_body Bd
 have e0 : s₁.heap = h0 := by rw [← hh, Bd.state]; rfl
 have N0 := Fr.nil n0
 have Z0 := own_old_le O0
 show Ends _ _ _ _ s₁ (entryFrame m #[(.int ((p1 &&& (255 : Int32)).toUInt32.toUInt16.toUInt32.toInt32))] 1) ({ frames := 2, cells := 2, slots := 5, locals := 27 } : Room).cells ({ frames := 2, cells := 2, slots := 5, locals := 27 } : Room).slots (fun v h L => ∃ (b312 : Addr) (b317 : Addr) (k318 : ClassId), v = some (.ref b312) ∧ Fr n0 L ∧ Keep h0 h [] ∧ h0.size ≤ b312 ∧ h0.size ≤ b317 ∧ b312 ≠ b317 ∧ Exa Z h b312 "java/lang/String" ∧ Arv Z h b317 k318 .byte (1 : Int32) [(.int (((p1 &&& (255 : Int32)).toUInt32.toUInt16.toUInt32.toInt32).toInt8.toInt32))] (.int 0) ∧ Fld Z h b312 "java/lang/String" "value" "[B" (.ref b317) ∧ Fld Z h b312 "java/lang/String" "coder" "B" (.int 0))
 refine Ends.go (fun _ k => castTop (ef9_i m ((p1 &&& (255 : Int32)).toUInt32.toUInt16.toUInt32.toInt32)) k) ?_
 obtain ⟨SCS, P5, SSF, RG3, HCST, HCW, S_NULL, E_NULL, S_NUMBER, E_NUMBER, F_ordinal_NULL, F_ordinal_NUMBER, S_NULL2, E_NULL2, F_kind_NULL2, S_STRING, E_STRING, F_ordinal_STRING⟩ := id GF
 have K0 := Keep.refl h0 []
 show Ends _ _ _ _ s₁ (mkF m 0 #[ci ((p1 &&& (255 : Int32)).toUInt32.toUInt16.toUInt32.toInt32)] []) _ _ _
 obtain ⟨T309, X309, e309, st309⟩ := getS2 X0 hx hZ hown (host := "") (Or.inl (ow hw 62 rfl)) Via.refl e0 (SCS.ext O0.2) (g := (mkF m 0 #[ci ((p1 &&& (255 : Int32)).toUInt32.toUInt16.toUInt32.toInt32)] [])) rfl (hb hby d9_0)
 refine Ends.go st309 ?_
 refine win X309 hx hby d9_3 ((if0 _ _).trans (feq (P5 : ¬ (G1 = (0 : Int32)))).1) ?_
 refine wilN X309 hx hby d9_6 rfl ?_
 show Ends _ _ _ _ T309 (mkF m 7 #[ci ((p1 &&& (255 : Int32)).toUInt32.toUInt16.toUInt32.toInt32)] [(.int ((p1 &&& (255 : Int32)).toUInt32.toUInt16.toUInt32.toInt32))]) _ _ _
 obtain ⟨_, _, ⟨T311, L311, k311, n311⟩, -, X311, ⟨Lc311, hQ311, l311, y311, z311⟩, st311⟩ := Jvm.LawKit.callS X309 hx (y := ym8) hown (mvT hZ (ow hw 63 rfl)) (mvT hZ (ow hw 64 rfl)) (mvT hZ (ow hw 65 rfl)) (mvT hZ (ow hw 66 rfl)) (by decide) (own_backOf (W := 0) (rx10_310 l Z a0 hw [] n0 h0 O0  p1 ) hZ (ow hw 66 rfl) (ow hw 65 rfl) (by decide) (by decide)) (g := (mkF m 7 #[ci ((p1 &&& (255 : Int32)).toUInt32.toUInt16.toUInt32.toInt32)] [(.int ((p1 &&& (255 : Int32)).toUInt32.toUInt16.toUInt32.toInt32))])) rfl (by rw [hml]; rfl) (argsL := [(.int ((p1 &&& (255 : Int32)).toUInt32.toUInt16.toUInt32.toInt32))]) (rest := []) (lenOf pdx_6 rfl) rfl (by show 2 * 0 + _ ≤ _; exact Nat.le_of_eq rfl) (hb hby d9_7) (fun _ _ => ⟨rfl, e309, (by decide : 0 + 0 ≤ _), (by decide : 0 + 0 ≤ _)⟩)
 dsimp only [Pt.U, Pt.locs, Pt.cells, Pt.slots] at X311 l311 y311 z311 st311 hQ311
 subst l311 y311 z311
 obtain ⟨rfl, N311q, K311c⟩ := hQ311
 have N311 := Fr.app N0 N311q
 refine Ends.go st311 ?_
 obtain ⟨h311, e311⟩ : ∃ z, T311.heap = z := ⟨_, rfl⟩
 rw [e311] at K311c
 have K311 := K0.trans K311c all0
 have O311 := O0.keep K311c all0
 refine win X311 hx hby d9_10 ((if0 _ _).trans (feq (by decide : ¬ ((1 : Int32) = (0 : Int32)))).1) ?_
 obtain ⟨T312, h312, X312, e312, E312, A312, D312, -, st312⟩ := newO X311 hx hZ hown (ow hw 67 rfl) (ow hw 20 rfl) (ow hw 19 rfl) e311 (g := (mkF m 13 #[ci ((p1 &&& (255 : Int32)).toUInt32.toUInt16.toUInt32.toInt32)] [])) rfl (hb hby d9_13) (by decide) (by decide)
 obtain ⟨b312, g312⟩ : ∃ z, z = h311.size := ⟨_, rfl⟩
 rw [← g312] at A312 D312 st312
 refine Ends.go st312 ?_
 have g_b312 : n0 ≤ b312 := Nat.le_trans (own_old_le O311) (Nat.le_of_eq g312.symm)
 have sz_b312 : h0.size ≤ b312 := Nat.le_trans K311.1 (Nat.le_of_eq g312.symm)
 have K312 := K311.ext E312
 have O312 := O311.ext E312
 have F_value_b312 : Fld Z h312 b312 "java/lang/String" "value" "[B" .null := D312 (Or.inr (ow hw 22 rfl)) (ty := (.array .byte)) (by decide)
 have F_coder_b312 : Fld Z h312 b312 "java/lang/String" "coder" "B" (.int 0) := D312 (Or.inr (ow hw 23 rfl)) (ty := .byte) (by decide)
 refine wdu X312 hx hby d9_16 rfl ?_
 show Ends _ _ _ _ T312 (mkF m 17 #[ci ((p1 &&& (255 : Int32)).toUInt32.toUInt16.toUInt32.toInt32)] [(.ref b312), (.ref b312)]) _ _ _
 refine wilN X312 hx hby d9_17 rfl ?_
 obtain ⟨_, _, ⟨T316, L316, k316, n316⟩, -, X316, ⟨Lc316, hQ316, l316, y316, z316⟩, st316⟩ := Jvm.LawKit.callS X312 hx (y := ym9) hown (mvT hZ (ow hw 68 rfl)) (mvT hZ (ow hw 69 rfl)) (mvT hZ (ow hw 65 rfl)) (mvT hZ (ow hw 70 rfl)) (by decide) (own_backOf (W := 2) (rx11_313 l Z a0 hw [] n0 h312 O312  p1 ) hZ (ow hw 70 rfl) (ow hw 65 rfl) (by decide) (by decide)) (g := (mkF m 18 #[ci ((p1 &&& (255 : Int32)).toUInt32.toUInt16.toUInt32.toInt32)] [(.int ((p1 &&& (255 : Int32)).toUInt32.toUInt16.toUInt32.toInt32)), (.ref b312), (.ref b312)])) rfl (by rw [hml]; rfl) (argsL := [(.int ((p1 &&& (255 : Int32)).toUInt32.toUInt16.toUInt32.toInt32))]) (rest := [(.ref b312), (.ref b312)]) (lenOf pdx_7 rfl) rfl (by show 2 * 0 + _ ≤ _; exact Nat.le_of_eq rfl) (hb hby d9_18) (fun _ _ => ⟨rfl, e312, (by decide : 1 + 1 ≤ _), (by decide : 4 + 1 ≤ _)⟩)
 dsimp only [Pt.U, Pt.locs, Pt.cells, Pt.slots] at X316 l316 y316 z316 st316 hQ316
 subst l316 y316 z316
 obtain ⟨b317, k318, rfl, N316q, K316c, hb316_b317, Y316_0⟩ := hQ316
 have N316 := Fr.app N311 N316q
 refine Ends.go st316 ?_
 have g_b317 : n0 ≤ b317 := Nat.le_trans (own_old_le O312) hb316_b317
 have sz_b317 : h0.size ≤ b317 := Nat.le_trans K312.1 hb316_b317
 obtain ⟨h316, e316⟩ : ∃ z, T316.heap = z := ⟨_, rfl⟩
 rw [e316] at K316c Y316_0
 have K316 := K312.trans K316c all0
 have O316 := O312.keep K316c all0
 refine wic X316 hx hby d9_21 ?_
 obtain ⟨_, _, ⟨T319, L319, k319, n319⟩, -, X319, ⟨Lc319, hQ319, l319, y319, z319⟩, st319⟩ := X316.specialBack hx (y := ym10) rfl hown (mvT hZ (ow hw 71 rfl)) (mvT hZ (ow hw 72 rfl)) (mvT hZ (ow hw 74 rfl)) (by decide) (own_backOf (W := 1) (rx12_45 l Z a0 hw [] n0 h316 O316  b312 b317 (A312.keep K316c) (F_value_b312.keep K316c nin0) (F_coder_b312.keep K316c nin0) g_b312) hZ (ow hw 74 rfl) (ow hw 19 rfl) (by decide) (by decide)) (g := (mkF m 22 #[ci ((p1 &&& (255 : Int32)).toUInt32.toUInt16.toUInt32.toInt32)] [(.int 0), (.ref b317), (.ref b312), (.ref b312)])) rfl (by rw [hml]; rfl) (Steps.refl _) (a := b312) (argsL := [(.ref b317), (.int 0)]) (rest := [(.ref b312)]) (lenOf pdx_8 rfl) rfl (by show 2 * 0 + _ ≤ _; exact Nat.le_of_eq rfl) (hb hby d9_22) (fun _ _ => ⟨rfl, e316, (by decide : 2 + 0 ≤ _), (by decide : 5 + 0 ≤ _)⟩)
 dsimp only [Pt.U, Pt.locs, Pt.cells, Pt.slots] at X319 l319 y319 z319 st319 hQ319
 subst l319 y319 z319
 obtain ⟨rfl, N319q, K319c, Y319_0, Y319_1⟩ := hQ319
 have N319 := Fr.app N316 N319q
 refine Ends.go (fun _ k => st319.trans k) ?_
 obtain ⟨h319, e319⟩ : ∃ z, T319.heap = z := ⟨_, rfl⟩
 rw [e319] at K319c Y319_0 Y319_1
 have K319 := K316.trans K319c (allS (Or.inr sz_b312) all0)
 have O319 := O316.keep K319c (allS g_b312 all0)
 show Ends _ _ _ _ T319 (mkF m 25 #[ci ((p1 &&& (255 : Int32)).toUInt32.toUInt16.toUInt32.toInt32)] [(.ref b312)]) _ _ _
 refine Ends.ret X319 hx Bd.notSynchronized (t := (.object "java/lang/String")) Bd.returns rfl (Or.inr (Or.inr (Or.inr (Or.inr ⟨rfl, rfl, rfl⟩)))) (hb hby d9_25) (by decide) (by decide) ?_
 rw [e319]
 have ne_b312_b317 : b312 ≠ b317 := Nat.ne_of_lt (Nat.lt_of_lt_of_le A312.lt hb316_b317)
 exact ⟨b312, b317, k318, rfl, N319, K319, sz_b312, sz_b317, ne_b312_b317, ((A312.keep K316c).keep K319c), (Y316_0.keep K319c (ninS (Ne.symm ne_b312_b317) nin0)), Y319_0, Y319_1⟩

theorem d28_15 : decode method_2_code 15 = .ok (.iload_n 0, 1) := by decide +kernel
theorem d28_16 : decode method_2_code 16 = .ok (.iconst 1, 1) := by decide +kernel
theorem d28_17 : decode method_2_code 17 = .ok (.if_icmp .ne 13, 3) := by decide +kernel
theorem d28_20 : decode method_2_code 20 = .ok (.iload_n 1, 1) := by decide +kernel
theorem d28_21 : decode method_2_code 21 = .ok (.sipush 255, 3) := by decide +kernel
theorem d28_24 : decode method_2_code 24 = .ok (.iand, 1) := by decide +kernel
theorem d28_25 : decode method_2_code 25 = .ok (.i2c, 1) := by decide +kernel
theorem d28_26 : decode method_2_code 26 = .ok (.invokestatic 12, 3) := by decide +kernel
theorem d28_29 : decode method_2_code 29 = .ok (.areturn, 1) := by decide +kernel
set_option maxRecDepth 65536 in
set_option maxHeartbeats 40000000 in
theorem rx28_307 (l : Launch) (Z : State) (a0 : Array Value) (hw : ∀ d ∈ tables_1, d.before a0 Z = true) (ws : List Jvm.Cond) (n0 : Nat) (h0 : Heap) (O0 : Old Z n0 h0) (G1 : Int32) (G3 : Value) (w_NULL : Addr) (w_NUMBER : Addr) (w_NULL2 : Addr) (w_STRING : Addr) (GF : GlobF Z a0 G1 G3 w_NULL w_NUMBER w_NULL2 w_STRING) (p1 : Int32) (p2 : Int32)  :
  Meets1 l ym26 method_2_code 3 (some (.object "java/lang/String")) ws ({ frames := 3, cells := 2, slots := 5, locals := 39 } : Room) #[(.int 1), (.int p1), (.int p2)] Z h0 (fun v h L => ∃ (b321 : Addr) (b322 : Addr) (k323 : ClassId), v = some (.ref b321) ∧ Fr n0 L ∧ Keep h0 h [] ∧ h0.size ≤ b321 ∧ h0.size ≤ b322 ∧ b321 ≠ b322 ∧ Exa Z h b321 "java/lang/String" ∧ Arv Z h b322 k323 .byte (1 : Int32) [(.int (((p1 &&& (255 : Int32)).toUInt32.toUInt16.toUInt32.toInt32).toInt8.toInt32))] (.int 0) ∧ Fld Z h b321 "java/lang/String" "value" "[B" (.ref b322) ∧ Fld Z h b321 "java/lang/String" "coder" "B" (.int 0)) := by
 refine MetFree.of_bodySF (plainFor_of_name pn28) hisR ?_
 intro p e s m args below meth c s₁ Bd hml0 hP hK
 obtain ⟨rfl, hZ, hh⟩ := hP
 have hx := Bd.exec
 have hby := Bd.bytes
 have hml : c.maxLocals = 3 := hml0
 have hown : s.vm.findClass "com/example/wakeline/wakeline/event/ValueIsNullPinLaw" = some m.cls := findClass_of_methodNamed Bd.named
 have hnm := (name_of_methodNamed Bd.named Bd.method).1
 have X0 : Stand p l e ({ frames := 3, cells := 2, slots := 5, locals := 39 } : Room) s m #[(.int 1), (.int p1), (.int p2)] below meth c s₁ [] 0 0 := Stand.of_body Bd
 have e0 : s₁.heap = h0 := by rw [← hh, Bd.state]; rfl
 have N0 := Fr.nil n0
 have Z0 := own_old_le O0
 show Ends _ _ _ _ s₁ (entryFrame m #[(.int 1), (.int p1), (.int p2)] 3) ({ frames := 3, cells := 2, slots := 5, locals := 39 } : Room).cells ({ frames := 3, cells := 2, slots := 5, locals := 39 } : Room).slots (fun v h L => ∃ (b321 : Addr) (b322 : Addr) (k323 : ClassId), v = some (.ref b321) ∧ Fr n0 L ∧ Keep h0 h [] ∧ h0.size ≤ b321 ∧ h0.size ≤ b322 ∧ b321 ≠ b322 ∧ Exa Z h b321 "java/lang/String" ∧ Arv Z h b322 k323 .byte (1 : Int32) [(.int (((p1 &&& (255 : Int32)).toUInt32.toUInt16.toUInt32.toInt32).toInt8.toInt32))] (.int 0) ∧ Fld Z h b321 "java/lang/String" "value" "[B" (.ref b322) ∧ Fld Z h b321 "java/lang/String" "coder" "B" (.int 0))
 refine Ends.go (fun _ k => castTop (ef28_iii m (1 : Int32) p1 p2) k) ?_
 obtain ⟨SCS, P5, SSF, RG3, HCST, HCW, S_NULL, E_NULL, S_NUMBER, E_NUMBER, F_ordinal_NULL, F_ordinal_NUMBER, S_NULL2, E_NULL2, F_kind_NULL2, S_STRING, E_STRING, F_ordinal_STRING⟩ := id GF
 have K0 := Keep.refl h0 []
 show Ends _ _ _ _ s₁ (mkF m 0 #[ci 1, ci p1, ci p2] []) _ _ _
 refine wilN X0 hx hby d28_0 rfl ?_
 refine wiy (pc := 1) (pc' := 15) X0 hx hby d28_1 ((if0 _ _).trans (feq (by decide : ¬ ((1 : Int32) = (0 : Int32)))).2) (by decide) (by decide) ?_
 refine wilN X0 hx hby d28_15 rfl ?_
 show Ends _ _ _ _ s₁ (mkF m 16 #[ci 1, ci p1, ci p2] [(.int 1)]) _ _ _
 refine wic X0 hx hby d28_16 ?_
 refine wcn X0 hx hby d28_17 (teq (by decide : (1 : Int32) = (1 : Int32))).2 ?_
 refine wilN X0 hx hby d28_20 rfl ?_
 refine wsp X0 hx hby d28_21 ?_
 show Ends _ _ _ _ s₁ (mkF m 24 #[ci 1, ci p1, ci p2] [(.int 255), (.int p1)]) _ _ _
 refine wan X0 hx hby d28_24 ?_
 refine .go (fun _ => XS.i2c X0.here hx rfl (hb hby d28_25) rfl) ?_
 obtain ⟨_, _, ⟨T320, L320, k320, n320⟩, -, X320, ⟨Lc320, hQ320, l320, y320, z320⟩, st320⟩ := Jvm.LawKit.callS X0 hx (y := ym11) hown (mvT hZ (ow hw 59 rfl)) (mvT hZ (ow hw 60 rfl)) (mvT hZ (ow hw 19 rfl)) (mvT hZ (ow hw 61 rfl)) (by decide) (own_backOf (W := 0) (rx9_308 l Z a0 hw [] n0 h0 O0 G1 G3 w_NULL w_NUMBER w_NULL2 w_STRING GF p1 ) hZ (ow hw 61 rfl) (ow hw 19 rfl) (by decide) (by decide)) (g := (mkF m 26 #[ci 1, ci p1, ci p2] [(.int ((p1 &&& (255 : Int32)).toUInt32.toUInt16.toUInt32.toInt32))])) rfl (by rw [hml]; rfl) (argsL := [(.int ((p1 &&& (255 : Int32)).toUInt32.toUInt16.toUInt32.toInt32))]) (rest := []) (lenOf pdx_9 rfl) rfl (by show 2 * 0 + _ ≤ _; exact Nat.le_of_eq rfl) (hb hby d28_26) (fun _ _ => ⟨rfl, e0, (by decide : 0 + 2 ≤ _), (by decide : 0 + 5 ≤ _)⟩)
 dsimp only [Pt.U, Pt.locs, Pt.cells, Pt.slots] at X320 l320 y320 z320 st320 hQ320
 subst l320 y320 z320
 obtain ⟨b321, b322, k323, rfl, N320q, K320c, hb320_b321, hb320_b322, hne320_b321_b322, Y320_0, Y320_1, Y320_2, Y320_3⟩ := hQ320
 have N320 := Fr.app N0 N320q
 refine Ends.go st320 ?_
 have g_b321 : n0 ≤ b321 := Nat.le_trans (own_old_le O0) hb320_b321
 have sz_b321 : h0.size ≤ b321 := Nat.le_trans K0.1 hb320_b321
 have g_b322 : n0 ≤ b322 := Nat.le_trans (own_old_le O0) hb320_b322
 have sz_b322 : h0.size ≤ b322 := Nat.le_trans K0.1 hb320_b322
 obtain ⟨h320, e320⟩ : ∃ z, T320.heap = z := ⟨_, rfl⟩
 rw [e320] at K320c Y320_0 Y320_1 Y320_2 Y320_3
 have K320 := K0.trans K320c all0
 have O320 := O0.keep K320c all0
 refine Ends.ret X320 hx Bd.notSynchronized (t := (.object "java/lang/String")) Bd.returns rfl (Or.inr (Or.inr (Or.inr (Or.inr ⟨rfl, rfl, rfl⟩)))) (hb hby d28_29) (by decide) (by decide) ?_
 rw [e320]
 exact ⟨b321, b322, k323, rfl, N320, K320, sz_b321, sz_b322, hne320_b321_b322, Y320_0, Y320_1, Y320_2, Y320_3⟩

set_option maxRecDepth 65536 in
set_option maxHeartbeats 40000000 in
theorem rx26_347 (l : Launch) (Z : State) (a0 : Array Value) (hw : ∀ d ∈ tables_1, d.before a0 Z = true) (ws : List Jvm.Cond) (n0 : Nat) (h0 : Heap) (O0 : Old Z n0 h0)  (b337 : Addr) (b346 : Addr) (k337 : ClassId) (p1 : Int32) (p2 : Int32) (k346 : ClassId) (PV_b337 : Arv Z h0 b337 k337 .char (2 : Int32) [(.int ((p1 &&& (255 : Int32)).toUInt32.toUInt16.toUInt32.toInt32)), (.int ((p2 &&& (255 : Int32)).toUInt32.toUInt16.toUInt32.toInt32))] (.int 0)) (PV_b346 : Arv Z h0 b346 k346 .byte (2 : Int32) [(.int 0), (.int 0)] (.int 0)) (ne_b337_b346 : b337 ≠ b346) (g_b346 : n0 ≤ b346) :
  Meets1 l ym21 jdk_52_method_21_code 7 (some .int) ws ({ frames := 0, cells := 0, slots := 0, locals := 0 } : Room) #[(.ref b337), (.int 0), (.ref b346), (.int 0), (.int 2)] Z h0 (fun v h L => v = some (.int 2) ∧ Fr n0 L ∧ Keep h0 h [b346] ∧ Arv Z h b346 k346 .byte (2 : Int32) [(.int (((p1 &&& (255 : Int32)).toUInt32.toUInt16.toUInt32.toInt32).toInt8.toInt32)), (.int (((p2 &&& (255 : Int32)).toUInt32.toUInt16.toUInt32.toInt32).toInt8.toInt32))] (.int 0)) := by
 refine MetFree.of_bodySF (plainFor_of_name pn26) hisR ?_
 intro p e s m args below meth c s₁ Bd hml0 hP hK
 obtain ⟨rfl, hZ, hh⟩ := hP
 have hx := Bd.exec
 have hby := Bd.bytes
 have hml : c.maxLocals = 7 := hml0
 have hown : s.vm.findClass "java/lang/StringUTF16" = some m.cls := findClass_of_methodNamed Bd.named
 have hnm := (name_of_methodNamed Bd.named Bd.method).1
 have X0 : Stand p l e ({ frames := 0, cells := 0, slots := 0, locals := 0 } : Room) s m #[(.ref b337), (.int 0), (.ref b346), (.int 0), (.int 2)] below meth c s₁ [] 0 0 := Stand.of_body Bd
 have e0 : s₁.heap = h0 := by rw [← hh, Bd.state]; rfl
 have N0 := Fr.nil n0
 have Z0 := own_old_le O0
 show Ends _ _ _ _ s₁ (entryFrame m #[(.ref b337), (.int 0), (.ref b346), (.int 0), (.int 2)] 7) ({ frames := 0, cells := 0, slots := 0, locals := 0 } : Room).cells ({ frames := 0, cells := 0, slots := 0, locals := 0 } : Room).slots (fun v h L => v = some (.int 2) ∧ Fr n0 L ∧ Keep h0 h [b346] ∧ Arv Z h b346 k346 .byte (2 : Int32) [(.int (((p1 &&& (255 : Int32)).toUInt32.toUInt16.toUInt32.toInt32).toInt8.toInt32)), (.int (((p2 &&& (255 : Int32)).toUInt32.toUInt16.toUInt32.toInt32).toInt8.toInt32))] (.int 0))
 refine Ends.go (fun _ k => castTop (ef26_ririi m b337 (0 : Int32) b346 (0 : Int32) (2 : Int32)) k) ?_
 have K0 := Keep.refl h0 [b346]
 show Ends _ _ _ _ s₁ (mkF m 0 #[cr b337, ci 0, cr b346, ci 0, ci 2, cu, cu] []) _ _ _
 refine wic X0 hx hby d26_0 ?_
 refine wst X0 hx hby d26_1 (l' := #[cr b337, ci 0, cr b346, ci 0, ci 2, ci 0, cu]) rfl ?_
 refine wil X0 hx hby d26_3 rfl ?_
 show Ends _ _ _ _ s₁ (mkF m 5 #[cr b337, ci 0, cr b346, ci 0, ci 2, ci 0, cu] [(.int 0)]) _ _ _
 refine wil X0 hx hby d26_5 rfl ?_
 refine wcn X0 hx hby d26_7 (tlt (by decide : (0 : Int32) < (2 : Int32))).2.1 ?_
 refine walN X0 hx hby d26_10 rfl rfl ?_
 refine wilN X0 hx hby d26_11 rfl ?_
 show Ends _ _ _ _ s₁ (mkF m 12 #[cr b337, ci 0, cr b346, ci 0, ci 2, ci 0, cu] [(.int 0), (.ref b337)]) _ _ _
 obtain ⟨cl348, Ar348, q348, S348, M348, H348, G348⟩ := id PV_b337
 have hin348 := inb_of (j := (0 : Int32)) S348 ⟨by decide, by decide⟩
 refine Ends.go (X0.caload hx (j := (0 : Int32)) (v := (.int ((p1 &&& (255 : Int32)).toUInt32.toUInt16.toUInt32.toInt32))) (by rw [e0]; exact Ar348.1) (State.isArrayOf_alike hZ.alike Ar348.2.1) Ar348.2.2 hin348 (H348.at hin348 rfl) (g := (mkF m 12 #[cr b337, ci 0, cr b346, ci 0, ci 2, ci 0, cu] [(.int 0), (.ref b337)])) rfl rfl (hb hby d26_12)) ?_
 refine wst X0 hx hby d26_13 (l' := #[cr b337, ci 0, cr b346, ci 0, ci 2, ci 0, ci ((p1 &&& (255 : Int32)).toUInt32.toUInt16.toUInt32.toInt32)]) rfl ?_
 refine wil X0 hx hby d26_15 rfl ?_
 refine wsp X0 hx hby d26_17 ?_
 show Ends _ _ _ _ s₁ (mkF m 20 #[cr b337, ci 0, cr b346, ci 0, ci 2, ci 0, ci ((p1 &&& (255 : Int32)).toUInt32.toUInt16.toUInt32.toInt32)] [(.int 255), (.int ((p1 &&& (255 : Int32)).toUInt32.toUInt16.toUInt32.toInt32))]) _ _ _
 refine wcy (pc := 20) (pc' := 26) X0 hx hby d26_20 (flt ((own_b255 p1) : ¬ ((255 : Int32) < ((p1 &&& (255 : Int32)).toUInt32.toUInt16.toUInt32.toInt32)))).2.2.2 (by decide) (by decide) ?_
 refine walN X0 hx hby d26_26 rfl rfl ?_
 refine wilN X0 hx hby d26_27 rfl ?_
 refine wil X0 hx hby d26_28 rfl ?_
 show Ends _ _ _ _ s₁ (mkF m 30 #[cr b337, ci 0, cr b346, ci 0, ci 2, ci 0, ci ((p1 &&& (255 : Int32)).toUInt32.toUInt16.toUInt32.toInt32)] [(.int ((p1 &&& (255 : Int32)).toUInt32.toUInt16.toUInt32.toInt32)), (.int 0), (.ref b346)]) _ _ _
 refine .go (fun _ => XS.i2b X0.here hx rfl (hb hby d26_30) rfl) ?_
 obtain ⟨cl349, Ar349, q349, S349, M349, H349, G349⟩ := id PV_b346
 have hin349 := inb_of (j := (0 : Int32)) S349 ⟨by decide, by decide⟩
 obtain ⟨T349, h349, X349, e349, W349, st349⟩ := stB X0 hx hZ e0 Ar349 (j := (0 : Int32)) hin349 (g := (mkF m 31 #[cr b337, ci 0, cr b346, ci 0, ci 2, ci 0, ci ((p1 &&& (255 : Int32)).toUInt32.toUInt16.toUInt32.toInt32)] [(.int (((p1 &&& (255 : Int32)).toUInt32.toUInt16.toUInt32.toInt32).toInt8.toInt32)), (.int 0), (.ref b346)])) rfl rfl (hb hby d26_31)
 refine Ends.go st349 ?_
 have V349 : Arv Z h349 b346 k346 .byte (2 : Int32) [(.int (nar .byte (((p1 &&& (255 : Int32)).toUInt32.toUInt16.toUInt32.toInt32).toInt8.toInt32))), (.int 0)] (.int 0) := Arv.set Ar349 q349 S349 M349 H349 G349 (fits_nar_byte _) W349 0 rfl (Nat.le_of_ble_eq_true rfl)
 rw [own_narb] at V349
 have K349 := K0.wr W349 (Or.inl (List.mem_of_getElem? (i := 0) rfl))
 have O349 := O0.wr W349 g_b346
 have N349 := Fr.snoc X349 N0 g_b346
 refine wii X349 hx hby d26_32 (l' := #[cr b337, ci 1, cr b346, ci 0, ci 2, ci 0, ci ((p1 &&& (255 : Int32)).toUInt32.toUInt16.toUInt32.toInt32)]) rfl rfl ?_
 refine wii X349 hx hby d26_35 (l' := #[cr b337, ci 1, cr b346, ci 1, ci 2, ci 0, ci ((p1 &&& (255 : Int32)).toUInt32.toUInt16.toUInt32.toInt32)]) rfl rfl ?_
 show Ends _ _ _ _ T349 (mkF m 38 #[cr b337, ci 1, cr b346, ci 1, ci 2, ci 0, ci ((p1 &&& (255 : Int32)).toUInt32.toUInt16.toUInt32.toInt32)] []) _ _ _
 refine wii X349 hx hby d26_38 (l' := #[cr b337, ci 1, cr b346, ci 1, ci 2, ci 1, ci ((p1 &&& (255 : Int32)).toUInt32.toUInt16.toUInt32.toInt32)]) rfl rfl ?_
 refine wgo (pc := 41) (pc' := 3) X349 hx hby d26_41 (by decide) (by decide) ?_
 refine wil X349 hx hby d26_3 rfl ?_
 refine wil X349 hx hby d26_5 rfl ?_
 show Ends _ _ _ _ T349 (mkF m 7 #[cr b337, ci 1, cr b346, ci 1, ci 2, ci 1, ci ((p1 &&& (255 : Int32)).toUInt32.toUInt16.toUInt32.toInt32)] [(.int 2), (.int 1)]) _ _ _
 refine wcn X349 hx hby d26_7 (tlt (by decide : (1 : Int32) < (2 : Int32))).2.1 ?_
 refine walN X349 hx hby d26_10 rfl rfl ?_
 refine wilN X349 hx hby d26_11 rfl ?_
 obtain ⟨cl350, Ar350, q350, S350, M350, H350, G350⟩ := id (PV_b337.other W349 ne_b337_b346)
 have hin350 := inb_of (j := (1 : Int32)) S350 ⟨by decide, by decide⟩
 refine Ends.go (X349.caload hx (j := (1 : Int32)) (v := (.int ((p2 &&& (255 : Int32)).toUInt32.toUInt16.toUInt32.toInt32))) (by rw [e349]; exact Ar350.1) (State.isArrayOf_alike hZ.alike Ar350.2.1) Ar350.2.2 hin350 (H350.at hin350 rfl) (g := (mkF m 12 #[cr b337, ci 1, cr b346, ci 1, ci 2, ci 1, ci ((p1 &&& (255 : Int32)).toUInt32.toUInt16.toUInt32.toInt32)] [(.int 1), (.ref b337)])) rfl rfl (hb hby d26_12)) ?_
 show Ends _ _ _ _ T349 (mkF m 13 #[cr b337, ci 1, cr b346, ci 1, ci 2, ci 1, ci ((p1 &&& (255 : Int32)).toUInt32.toUInt16.toUInt32.toInt32)] [(.int ((p2 &&& (255 : Int32)).toUInt32.toUInt16.toUInt32.toInt32))]) _ _ _
 refine wst X349 hx hby d26_13 (l' := #[cr b337, ci 1, cr b346, ci 1, ci 2, ci 1, ci ((p2 &&& (255 : Int32)).toUInt32.toUInt16.toUInt32.toInt32)]) rfl ?_
 refine wil X349 hx hby d26_15 rfl ?_
 refine wsp X349 hx hby d26_17 ?_
 refine wcy (pc := 20) (pc' := 26) X349 hx hby d26_20 (flt ((own_b255 p2) : ¬ ((255 : Int32) < ((p2 &&& (255 : Int32)).toUInt32.toUInt16.toUInt32.toInt32)))).2.2.2 (by decide) (by decide) ?_
 show Ends _ _ _ _ T349 (mkF m 26 #[cr b337, ci 1, cr b346, ci 1, ci 2, ci 1, ci ((p2 &&& (255 : Int32)).toUInt32.toUInt16.toUInt32.toInt32)] []) _ _ _
 refine walN X349 hx hby d26_26 rfl rfl ?_
 refine wilN X349 hx hby d26_27 rfl ?_
 refine wil X349 hx hby d26_28 rfl ?_
 refine .go (fun _ => XS.i2b X349.here hx rfl (hb hby d26_30) rfl) ?_
 show Ends _ _ _ _ T349 (mkF m 31 #[cr b337, ci 1, cr b346, ci 1, ci 2, ci 1, ci ((p2 &&& (255 : Int32)).toUInt32.toUInt16.toUInt32.toInt32)] [(.int (((p2 &&& (255 : Int32)).toUInt32.toUInt16.toUInt32.toInt32).toInt8.toInt32)), (.int 1), (.ref b346)]) _ _ _
 obtain ⟨cl351, Ar351, q351, S351, M351, H351, G351⟩ := id V349
 have hin351 := inb_of (j := (1 : Int32)) S351 ⟨by decide, by decide⟩
 obtain ⟨T351, h351, X351, e351, W351, st351⟩ := stB X349 hx hZ e349 Ar351 (j := (1 : Int32)) hin351 (g := (mkF m 31 #[cr b337, ci 1, cr b346, ci 1, ci 2, ci 1, ci ((p2 &&& (255 : Int32)).toUInt32.toUInt16.toUInt32.toInt32)] [(.int (((p2 &&& (255 : Int32)).toUInt32.toUInt16.toUInt32.toInt32).toInt8.toInt32)), (.int 1), (.ref b346)])) rfl rfl (hb hby d26_31)
 refine Ends.go st351 ?_
 have V351 : Arv Z h351 b346 k346 .byte (2 : Int32) [(.int (((p1 &&& (255 : Int32)).toUInt32.toUInt16.toUInt32.toInt32).toInt8.toInt32)), (.int (nar .byte (((p2 &&& (255 : Int32)).toUInt32.toUInt16.toUInt32.toInt32).toInt8.toInt32)))] (.int 0) := Arv.set Ar351 q351 S351 M351 H351 G351 (fits_nar_byte _) W351 1 rfl (Nat.le_of_ble_eq_true rfl)
 rw [own_narb] at V351
 have K351 := K349.wr W351 (Or.inl (List.mem_of_getElem? (i := 0) rfl))
 have O351 := O349.wr W351 g_b346
 have N351 := Fr.snoc X351 N349 g_b346
 refine wii X351 hx hby d26_32 (l' := #[cr b337, ci 2, cr b346, ci 1, ci 2, ci 1, ci ((p2 &&& (255 : Int32)).toUInt32.toUInt16.toUInt32.toInt32)]) rfl rfl ?_
 refine wii X351 hx hby d26_35 (l' := #[cr b337, ci 2, cr b346, ci 2, ci 2, ci 1, ci ((p2 &&& (255 : Int32)).toUInt32.toUInt16.toUInt32.toInt32)]) rfl rfl ?_
 refine wii X351 hx hby d26_38 (l' := #[cr b337, ci 2, cr b346, ci 2, ci 2, ci 2, ci ((p2 &&& (255 : Int32)).toUInt32.toUInt16.toUInt32.toInt32)]) rfl rfl ?_
 show Ends _ _ _ _ T351 (mkF m 41 #[cr b337, ci 2, cr b346, ci 2, ci 2, ci 2, ci ((p2 &&& (255 : Int32)).toUInt32.toUInt16.toUInt32.toInt32)] []) _ _ _
 refine wgo (pc := 41) (pc' := 3) X351 hx hby d26_41 (by decide) (by decide) ?_
 refine wil X351 hx hby d26_3 rfl ?_
 refine wil X351 hx hby d26_5 rfl ?_
 refine wcy (pc := 7) (pc' := 44) X351 hx hby d26_7 (flt (by decide : ¬ ((2 : Int32) < (2 : Int32)))).2.1 (by decide) (by decide) ?_
 show Ends _ _ _ _ T351 (mkF m 44 #[cr b337, ci 2, cr b346, ci 2, ci 2, ci 2, ci ((p2 &&& (255 : Int32)).toUInt32.toUInt16.toUInt32.toInt32)] []) _ _ _
 refine wil X351 hx hby d26_44 rfl ?_
 refine Ends.ret X351 hx Bd.notSynchronized (t := .int) Bd.returns rfl (Or.inl ⟨rfl, by simp, _, rfl⟩) (hb hby d26_46) (by decide) (by decide) ?_
 rw [e351]
 exact ⟨rfl, N351, K351, V351⟩

set_option maxRecDepth 65536 in
set_option maxHeartbeats 40000000 in
theorem rx25_345 (l : Launch) (Z : State) (a0 : Array Value) (hw : ∀ d ∈ tables_1, d.before a0 Z = true) (ws : List Jvm.Cond) (n0 : Nat) (h0 : Heap) (O0 : Old Z n0 h0)  (b337 : Addr) (k337 : ClassId) (p1 : Int32) (p2 : Int32) (PV_b337 : Arv Z h0 b337 k337 .char (2 : Int32) [(.int ((p1 &&& (255 : Int32)).toUInt32.toUInt16.toUInt32.toInt32)), (.int ((p2 &&& (255 : Int32)).toUInt32.toUInt16.toUInt32.toInt32))] (.int 0)) :
  Meets1 l ym22 jdk_52_method_16_code 6 (some (.array .byte)) ws ({ frames := 1, cells := 1, slots := 2, locals := 18 } : Room) #[(.ref b337), (.int 0), (.int 2)] Z h0 (fun v h L => ∃ (b346 : Addr) (k346 : ClassId), v = some (.ref b346) ∧ Fr n0 L ∧ Keep h0 h [] ∧ h0.size ≤ b346 ∧ Arv Z h b346 k346 .byte (2 : Int32) [(.int (((p1 &&& (255 : Int32)).toUInt32.toUInt16.toUInt32.toInt32).toInt8.toInt32)), (.int (((p2 &&& (255 : Int32)).toUInt32.toUInt16.toUInt32.toInt32).toInt8.toInt32))] (.int 0)) := by
 refine MetFree.of_bodySF (plainFor_of_name pn25) hisR ?_
 intro p e s m args below meth c s₁ Bd hml0 hP hK
 obtain ⟨rfl, hZ, hh⟩ := hP
 have hx := Bd.exec
 have hby := Bd.bytes
 have hml : c.maxLocals = 6 := hml0
 have hown : s.vm.findClass "java/lang/StringUTF16" = some m.cls := findClass_of_methodNamed Bd.named
 have hnm := (name_of_methodNamed Bd.named Bd.method).1
 have X0 : Stand p l e ({ frames := 1, cells := 1, slots := 2, locals := 18 } : Room) s m #[(.ref b337), (.int 0), (.int 2)] below meth c s₁ [] 0 0 := Stand.of_body Bd
 have e0 : s₁.heap = h0 := by rw [← hh, Bd.state]; rfl
 have N0 := Fr.nil n0
 have Z0 := own_old_le O0
 show Ends _ _ _ _ s₁ (entryFrame m #[(.ref b337), (.int 0), (.int 2)] 6) ({ frames := 1, cells := 1, slots := 2, locals := 18 } : Room).cells ({ frames := 1, cells := 1, slots := 2, locals := 18 } : Room).slots (fun v h L => ∃ (b346 : Addr) (k346 : ClassId), v = some (.ref b346) ∧ Fr n0 L ∧ Keep h0 h [] ∧ h0.size ≤ b346 ∧ Arv Z h b346 k346 .byte (2 : Int32) [(.int (((p1 &&& (255 : Int32)).toUInt32.toUInt16.toUInt32.toInt32).toInt8.toInt32)), (.int (((p2 &&& (255 : Int32)).toUInt32.toUInt16.toUInt32.toInt32).toInt8.toInt32))] (.int 0))
 refine Ends.go (fun _ k => castTop (ef25_rii m b337 (0 : Int32) (2 : Int32)) k) ?_
 have K0 := Keep.refl h0 []
 show Ends _ _ _ _ s₁ (mkF m 0 #[cr b337, ci 0, ci 2, cu, cu, cu] []) _ _ _
 refine wilN X0 hx hby d25_0 rfl ?_
 obtain ⟨T346, h346, k346, X346, e346, E346, A346, st346⟩ := newP X0 hx hZ (ow hw 21 rfl) e0 (g := (mkF m 1 #[cr b337, ci 0, ci 2, cu, cu, cu] [(.int 2)])) rfl (hb hby d25_1) rfl (by decide) (cap := 2) (by decide) (by decide) (by decide) (by decide)
 obtain ⟨b346, g346⟩ : ∃ z, z = h0.size := ⟨_, rfl⟩
 rw [← g346] at A346 st346
 refine Ends.go st346 ?_
 have g_b346 : n0 ≤ b346 := Nat.le_trans (own_old_le O0) (Nat.le_of_eq g346.symm)
 have sz_b346 : h0.size ≤ b346 := Nat.le_trans K0.1 (Nat.le_of_eq g346.symm)
 have K346 := K0.ext E346
 have O346 := O0.ext E346
 have V_b346 : Arv Z h346 b346 k346 .byte (2 : Int32) [(.int 0), (.int 0)] (.int 0) := (Arv.new A346 (by decide)).pad (pad_rep [] (.int 0) 2)
 refine wasN X346 hx hby d25_3 (l' := #[cr b337, ci 0, ci 2, cr b346, cu, cu]) rfl rfl ?_
 show Ends _ _ _ _ T346 (mkF m 4 #[cr b337, ci 0, ci 2, cr b346, cu, cu] []) _ _ _
 refine walN X346 hx hby d25_4 rfl rfl ?_
 refine wilN X346 hx hby d25_5 rfl ?_
 refine walN X346 hx hby d25_6 rfl rfl ?_
 refine wic X346 hx hby d25_7 ?_
 show Ends _ _ _ _ T346 (mkF m 8 #[cr b337, ci 0, ci 2, cr b346, cu, cu] [(.int 0), (.ref b346), (.int 0), (.ref b337)]) _ _ _
 refine wilN X346 hx hby d25_8 rfl ?_
 obtain ⟨_, _, ⟨T352, L352, k352, n352⟩, -, X352, ⟨Lc352, hQ352, l352, y352, z352⟩, st352⟩ := Jvm.LawKit.callS X346 hx (y := ym21) hown (mvT hZ (ow hw 131 rfl)) (mvT hZ (ow hw 132 rfl)) (mvT hZ (ow hw 129 rfl)) (mvT hZ (ow hw 133 rfl)) (by decide) (own_backOf (W := 0) (rx26_347 l Z a0 hw [] n0 h346 O346  b337 b346 k337 p1 p2 k346 (PV_b337.ext E346) V_b346 (Nat.ne_of_lt (Nat.lt_of_lt_of_le PV_b337.lt sz_b346)) g_b346) hZ (ow hw 133 rfl) (ow hw 129 rfl) (by decide) (by decide)) (g := (mkF m 9 #[cr b337, ci 0, ci 2, cr b346, cu, cu] [(.int 2), (.int 0), (.ref b346), (.int 0), (.ref b337)])) rfl (by rw [hml]; rfl) (argsL := [(.ref b337), (.int 0), (.ref b346), (.int 0), (.int 2)]) (rest := []) (lenOf pdx_19 rfl) rfl (by show 2 * 0 + _ ≤ _; exact Nat.le_of_eq rfl) (hb hby d25_9) (fun _ _ => ⟨rfl, e346, (by decide : 1 + 0 ≤ _), (by decide : 2 + 0 ≤ _)⟩)
 dsimp only [Pt.U, Pt.locs, Pt.cells, Pt.slots] at X352 l352 y352 z352 st352 hQ352
 subst l352 y352 z352
 obtain ⟨rfl, N352q, K352c, Y352_0⟩ := hQ352
 have N352 := Fr.app N0 N352q
 refine Ends.go st352 ?_
 obtain ⟨h352, e352⟩ : ∃ z, T352.heap = z := ⟨_, rfl⟩
 rw [e352] at K352c Y352_0
 have K352 := K346.trans K352c (allS (Or.inr sz_b346) all0)
 have O352 := O346.keep K352c (allS g_b346 all0)
 refine wst X352 hx hby d25_12 (l' := #[cr b337, ci 0, ci 2, cr b346, ci 2, cu]) rfl ?_
 refine wil X352 hx hby d25_14 rfl ?_
 show Ends _ _ _ _ T352 (mkF m 16 #[cr b337, ci 0, ci 2, cr b346, ci 2, cu] [(.int 2)]) _ _ _
 refine wilN X352 hx hby d25_16 rfl ?_
 refine wcy (pc := 17) (pc' := 57) X352 hx hby d25_17 (teq (by decide : (2 : Int32) = (2 : Int32))).1 (by decide) (by decide) ?_
 refine walN X352 hx hby d25_57 rfl rfl ?_
 refine Ends.ret X352 hx Bd.notSynchronized (t := (.array .byte)) Bd.returns rfl (Or.inr (Or.inr (Or.inr (Or.inr ⟨rfl, rfl, rfl⟩)))) (hb hby d25_58) (by decide) (by decide) ?_
 rw [e352]
 exact ⟨b346, k346, rfl, N352, K352, sz_b346, Y352_0⟩

set_option maxRecDepth 65536 in
set_option maxHeartbeats 40000000 in
theorem rx27_356 (l : Launch) (Z : State) (a0 : Array Value) (hw : ∀ d ∈ tables_1, d.before a0 Z = true) (ws : List Jvm.Cond) (n0 : Nat) (h0 : Heap) (O0 : Old Z n0 h0)  (b354 : Addr) (k355 : ClassId) (p1 : Int32) (p2 : Int32) (PV_b354 : Arv Z h0 b354 k355 .byte (2 : Int32) [(.int (((p1 &&& (255 : Int32)).toUInt32.toUInt16.toUInt32.toInt32).toInt8.toInt32)), (.int (((p2 &&& (255 : Int32)).toUInt32.toUInt16.toUInt32.toInt32).toInt8.toInt32))] (.int 0)) :
  Meets1 l ym23 jdk_52_method_15_code 2 (some .byte) ws ({ frames := 0, cells := 0, slots := 0, locals := 0 } : Room) #[(.ref b354), (.int 2)] Z h0 (fun v h L => v = some (.int 0) ∧ Fr n0 L ∧ Keep h0 h []) := by
 refine MetFree.of_bodySF (plainFor_of_name pn27) hisR ?_
 intro p e s m args below meth c s₁ Bd hml0 hP hK
 obtain ⟨rfl, hZ, hh⟩ := hP
 have hx := Bd.exec
 have hby := Bd.bytes
 have hml : c.maxLocals = 2 := hml0
 have hown : s.vm.findClass "java/lang/StringUTF16" = some m.cls := findClass_of_methodNamed Bd.named
 have hnm := (name_of_methodNamed Bd.named Bd.method).1
 have X0 : Stand p l e ({ frames := 0, cells := 0, slots := 0, locals := 0 } : Room) s m #[(.ref b354), (.int 2)] below meth c s₁ [] 0 0 := Stand.of_body Bd
 have e0 : s₁.heap = h0 := by rw [← hh, Bd.state]; rfl
 have N0 := Fr.nil n0
 have Z0 := own_old_le O0
 show Ends _ _ _ _ s₁ (entryFrame m #[(.ref b354), (.int 2)] 2) ({ frames := 0, cells := 0, slots := 0, locals := 0 } : Room).cells ({ frames := 0, cells := 0, slots := 0, locals := 0 } : Room).slots (fun v h L => v = some (.int 0) ∧ Fr n0 L ∧ Keep h0 h [])
 refine Ends.go (fun _ k => castTop (ef27_ri m b354 (2 : Int32)) k) ?_
 have K0 := Keep.refl h0 []
 show Ends _ _ _ _ s₁ (mkF m 0 #[cr b354, ci 2] []) _ _ _
 refine wilN X0 hx hby d27_0 rfl ?_
 refine walN X0 hx hby d27_1 rfl rfl ?_
 obtain ⟨cl357, Ar357, q357, S357, M357, H357, G357⟩ := id PV_b354
 refine Ends.go (X0.arraylength hx (by rw [e0]; exact Ar357.1) (State.isArrayOf_alike hZ.alike Ar357.2.1) (g := (mkF m 2 #[cr b354, ci 2] [(.ref b354), (.int 2)])) rfl rfl (hb hby d27_2)) ?_
 rw [len_of S357 M357]
 show Ends _ _ _ _ s₁ (mkF m 3 #[cr b354, ci 2] [(.int 2), (.int 2)]) _ _ _
 refine wis X0 hx hby d27_3 ?_
 refine wbp X0 hx hby d27_4 ?_
 refine .go (fun _ => XS.iushr X0.here hx rfl (hb hby d27_6) rfl) ?_
 refine .go (fun _ => XS.i2b X0.here hx rfl (hb hby d27_7) rfl) ?_
 show Ends _ _ _ _ s₁ (mkF m 8 #[cr b354, ci 2] [(.int 0)]) _ _ _
 refine Ends.retZ X0 hx Bd.notSynchronized (t := .byte) Bd.returns (by simp) (hb hby d27_8) (by decide) (by decide) ?_
 rw [e0]
 exact ⟨rfl, N0, K0⟩

set_option maxRecDepth 65536 in
set_option maxHeartbeats 40000000 in
theorem rx24_342 (l : Launch) (Z : State) (a0 : Array Value) (hw : ∀ d ∈ tables_1, d.before a0 Z = true) (ws : List Jvm.Cond) (n0 : Nat) (h0 : Heap) (O0 : Old Z n0 h0) (G1 : Int32) (G3 : Value) (w_NULL : Addr) (w_NUMBER : Addr) (w_NULL2 : Addr) (w_STRING : Addr) (GF : GlobF Z a0 G1 G3 w_NULL w_NUMBER w_NULL2 w_STRING) (b336 : Addr) (b337 : Addr) (k337 : ClassId) (p1 : Int32) (p2 : Int32) (PV_b337 : Arv Z h0 b337 k337 .char (2 : Int32) [(.int ((p1 &&& (255 : Int32)).toUInt32.toUInt16.toUInt32.toInt32)), (.int ((p2 &&& (255 : Int32)).toUInt32.toUInt16.toUInt32.toInt32))] (.int 0)) (PE_b336 : Exa Z h0 b336 "java/lang/String") (PF_b336_coder : Fld Z h0 b336 "java/lang/String" "coder" "B" (.int 0)) (PF_b336_value : Fld Z h0 b336 "java/lang/String" "value" "[B" .null) (g_b336 : n0 ≤ b336) :
  Meets1 l ym24 jdk_42_method_149_code 6 none ws ({ frames := 2, cells := 1, slots := 2, locals := 35 } : Room) #[(.ref b336), (.ref b337), (.int 0), (.int 2), .null] Z h0 (fun v h L => ∃ (b354 : Addr) (k355 : ClassId), v = none ∧ Fr n0 L ∧ Keep h0 h [b336] ∧ h0.size ≤ b354 ∧ Arv Z h b354 k355 .byte (2 : Int32) [(.int (((p1 &&& (255 : Int32)).toUInt32.toUInt16.toUInt32.toInt32).toInt8.toInt32)), (.int (((p2 &&& (255 : Int32)).toUInt32.toUInt16.toUInt32.toInt32).toInt8.toInt32))] (.int 0) ∧ Fld Z h b336 "java/lang/String" "coder" "B" (.int 0) ∧ Fld Z h b336 "java/lang/String" "value" "[B" (.ref b354)) := by
 refine MetFree.of_bodySF (plainFor_of_name pn24) hisR ?_
 intro p e s m args below meth c s₁ Bd hml0 hP hK
 obtain ⟨rfl, hZ, hh⟩ := hP
 have hx := Bd.exec
 have hby := Bd.bytes
 have hml : c.maxLocals = 6 := hml0
 have hown : s.vm.findClass "java/lang/String" = some m.cls := findClass_of_methodNamed Bd.named
 have hnm := (name_of_methodNamed Bd.named Bd.method).1
 have X0 : Stand p l e ({ frames := 2, cells := 1, slots := 2, locals := 35 } : Room) s m #[(.ref b336), (.ref b337), (.int 0), (.int 2), .null] below meth c s₁ [] 0 0 := Stand.of_body Bd
 have e0 : s₁.heap = h0 := by rw [← hh, Bd.state]; rfl
 have N0 := Fr.nil n0
 have Z0 := own_old_le O0
 show Ends _ _ _ _ s₁ (entryFrame m #[(.ref b336), (.ref b337), (.int 0), (.int 2), .null] 6) ({ frames := 2, cells := 1, slots := 2, locals := 35 } : Room).cells ({ frames := 2, cells := 1, slots := 2, locals := 35 } : Room).slots (fun v h L => ∃ (b354 : Addr) (k355 : ClassId), v = none ∧ Fr n0 L ∧ Keep h0 h [b336] ∧ h0.size ≤ b354 ∧ Arv Z h b354 k355 .byte (2 : Int32) [(.int (((p1 &&& (255 : Int32)).toUInt32.toUInt16.toUInt32.toInt32).toInt8.toInt32)), (.int (((p2 &&& (255 : Int32)).toUInt32.toUInt16.toUInt32.toInt32).toInt8.toInt32))] (.int 0) ∧ Fld Z h b336 "java/lang/String" "coder" "B" (.int 0) ∧ Fld Z h b336 "java/lang/String" "value" "[B" (.ref b354))
 refine Ends.go (fun _ k => castTop (ef24_rriin m b336 b337 (0 : Int32) (2 : Int32)) k) ?_
 obtain ⟨SCS, P5, SSF, RG3, HCST, HCW, S_NULL, E_NULL, S_NUMBER, E_NUMBER, F_ordinal_NULL, F_ordinal_NUMBER, S_NULL2, E_NULL2, F_kind_NULL2, S_STRING, E_STRING, F_ordinal_STRING⟩ := id GF
 have K0 := Keep.refl h0 [b336]
 show Ends _ _ _ _ s₁ (mkF m 0 #[cr b336, cr b337, ci 0, ci 2, .val .null, cu] []) _ _ _
 refine walN X0 hx hby d24_0 rfl rfl ?_
 obtain ⟨T343, X343, e343, st343⟩ := initO X0 hx hZ hown (ow hw 75 rfl) (ow hw 16 rfl) (ow hw 17 rfl) e0 (g := (mkF m 1 #[cr b336, cr b337, ci 0, ci 2, .val .null, cu] [(.ref b336)])) rfl (by rw [hml]; rfl) rfl (hb hby d24_1) (by decide) (W := 0) (by show 2 * 0 + _ ≤ _; exact Nat.le_of_eq rfl) (by decide)
 refine Ends.go st343 ?_
 refine wilN X343 hx hby d24_4 rfl ?_
 show Ends _ _ _ _ T343 (mkF m 5 #[cr b336, cr b337, ci 0, ci 2, .val .null, cu] [(.int 2)]) _ _ _
 refine wiy (pc := 5) (pc' := 27) X343 hx hby d24_5 ((if0 _ _).trans (feq (by decide : ¬ ((2 : Int32) = (0 : Int32)))).2) (by decide) (by decide) ?_
 obtain ⟨T344, X344, e344, st344⟩ := getS2 X343 hx hZ hown (host := "") (Or.inl (ow hw 62 rfl)) Via.refl e343 (SCS.ext O0.2) (g := (mkF m 27 #[cr b336, cr b337, ci 0, ci 2, .val .null, cu] [])) rfl (hb hby d24_27)
 refine Ends.go st344 ?_
 refine win X344 hx hby d24_30 ((if0 _ _).trans (feq (P5 : ¬ (G1 = (0 : Int32)))).1) ?_
 refine walN X344 hx hby d24_33 rfl rfl ?_
 show Ends _ _ _ _ T344 (mkF m 34 #[cr b336, cr b337, ci 0, ci 2, .val .null, cu] [(.ref b337)]) _ _ _
 refine wilN X344 hx hby d24_34 rfl ?_
 refine wilN X344 hx hby d24_35 rfl ?_
 obtain ⟨_, _, ⟨T353, L353, k353, n353⟩, -, X353, ⟨Lc353, hQ353, l353, y353, z353⟩, st353⟩ := Jvm.LawKit.callS X344 hx (y := ym22) hown (mvT hZ (ow hw 127 rfl)) (mvT hZ (ow hw 128 rfl)) (mvT hZ (ow hw 129 rfl)) (mvT hZ (ow hw 130 rfl)) (by decide) (own_backOf (W := 0) (rx25_345 l Z a0 hw [] n0 h0 O0  b337 k337 p1 p2 PV_b337) hZ (ow hw 130 rfl) (ow hw 129 rfl) (by decide) (by decide)) (g := (mkF m 36 #[cr b336, cr b337, ci 0, ci 2, .val .null, cu] [(.int 2), (.int 0), (.ref b337)])) rfl (by rw [hml]; rfl) (argsL := [(.ref b337), (.int 0), (.int 2)]) (rest := []) (lenOf pdx_20 rfl) rfl (by show 2 * 0 + _ ≤ _; exact Nat.le_of_eq rfl) (hb hby d24_36) (fun _ _ => ⟨rfl, e344, (by decide : 0 + 1 ≤ _), (by decide : 0 + 2 ≤ _)⟩)
 dsimp only [Pt.U, Pt.locs, Pt.cells, Pt.slots] at X353 l353 y353 z353 st353 hQ353
 subst l353 y353 z353
 obtain ⟨b354, k355, rfl, N353q, K353c, hb353_b354, Y353_0⟩ := hQ353
 have N353 := Fr.app N0 N353q
 refine Ends.go st353 ?_
 have g_b354 : n0 ≤ b354 := Nat.le_trans (own_old_le O0) hb353_b354
 have sz_b354 : h0.size ≤ b354 := Nat.le_trans K0.1 hb353_b354
 obtain ⟨h353, e353⟩ : ∃ z, T353.heap = z := ⟨_, rfl⟩
 rw [e353] at K353c Y353_0
 have K353 := K0.trans K353c all0
 have O353 := O0.keep K353c all0
 refine was X353 hx hby d24_39 (l' := #[cr b336, cr b337, ci 0, ci 2, .val .null, cr b354]) rfl rfl ?_
 show Ends _ _ _ _ T353 (mkF m 41 #[cr b336, cr b337, ci 0, ci 2, .val .null, cr b354] []) _ _ _
 refine walN X353 hx hby d24_41 rfl rfl ?_
 refine wal X353 hx hby d24_42 rfl rfl ?_
 refine wilN X353 hx hby d24_44 rfl ?_
 obtain ⟨_, _, ⟨T358, L358, k358, n358⟩, -, X358, ⟨Lc358, hQ358, l358, y358, z358⟩, st358⟩ := Jvm.LawKit.callS X353 hx (y := ym23) hown (mvT hZ (ow hw 134 rfl)) (mvT hZ (ow hw 135 rfl)) (mvT hZ (ow hw 129 rfl)) (mvT hZ (ow hw 136 rfl)) (by decide) (own_backOf (W := 1) (rx27_356 l Z a0 hw [] n0 h353 O353  b354 k355 p1 p2 Y353_0) hZ (ow hw 136 rfl) (ow hw 129 rfl) (by decide) (by decide)) (g := (mkF m 45 #[cr b336, cr b337, ci 0, ci 2, .val .null, cr b354] [(.int 2), (.ref b354), (.ref b336)])) rfl (by rw [hml]; rfl) (argsL := [(.ref b354), (.int 2)]) (rest := [(.ref b336)]) (lenOf pdx_21 rfl) rfl (by show 2 * 0 + _ ≤ _; exact Nat.le_of_eq rfl) (hb hby d24_45) (fun _ _ => ⟨rfl, e353, (by decide : 1 + 0 ≤ _), (by decide : 2 + 0 ≤ _)⟩)
 dsimp only [Pt.U, Pt.locs, Pt.cells, Pt.slots] at X358 l358 y358 z358 st358 hQ358
 subst l358 y358 z358
 obtain ⟨rfl, N358q, K358c⟩ := hQ358
 have N358 := Fr.app N353 N358q
 refine Ends.go st358 ?_
 obtain ⟨h358, e358⟩ : ∃ z, T358.heap = z := ⟨_, rfl⟩
 rw [e358] at K358c
 have K358 := K353.trans K358c all0
 have O358 := O353.keep K358c all0
 show Ends _ _ _ _ T358 (mkF m 48 #[cr b336, cr b337, ci 0, ci 2, .val .null, cr b354] [(.int 0), (.ref b336)]) _ _ _
 obtain ⟨T359, h359, X359, e359, W359, st359⟩ := putFN X358 hx hZ hown (ow hw 77 rfl) Via.refl e358 ((PF_b336_coder.keep K353c nin0).keep K358c nin0) ((PE_b336.keep K353c).keep K358c) (Or.inr ⟨(ow hw 23 rfl), rfl, hnm⟩) (ow hw 20 rfl) (ty := .byte) (v' := (.int 0)) (by decide) rfl (by decide) (g := (mkF m 48 #[cr b336, cr b337, ci 0, ci 2, .val .null, cr b354] [(.int 0), (.ref b336)])) rfl rfl (hb hby d24_48)
 refine Ends.go st359 ?_
 have Fw359 := ((PF_b336_coder.keep K353c nin0).keep K358c nin0).same W359
 have K359 := K358.wr W359 (Or.inl (List.mem_of_getElem? (i := 0) rfl))
 have O359 := O358.wr W359 g_b336
 have N359 := Fr.snoc X359 N358 g_b336
 refine walN X359 hx hby d24_51 rfl rfl ?_
 refine wal X359 hx hby d24_52 rfl rfl ?_
 obtain ⟨T360, h360, X360, e360, W360, st360⟩ := putF X359 hx hZ hown (host := "") (Or.inl (ow hw 76 rfl)) Via.refl e359 (((PF_b336_value.keep K353c nin0).keep K358c nin0).other W359 (Or.inr (slot_ne (Or.inr (ow hw 22 rfl)) (Or.inr (ow hw 23 rfl)) (by decide) (t := (.array .byte)) (t' := .byte) (by decide) (by decide)))) (((PE_b336.keep K353c).keep K358c).wr W359) (Or.inr ⟨(ow hw 22 rfl), rfl, hnm⟩) (ow hw 20 rfl) (ty := (.array .byte)) (by decide) rfl rfl (g := (mkF m 54 #[cr b336, cr b337, ci 0, ci 2, .val .null, cr b354] [(.ref b354), (.ref b336)])) rfl rfl (hb hby d24_54)
 refine Ends.go st360 ?_
 have Fw360 := (((PF_b336_value.keep K353c nin0).keep K358c nin0).other W359 (Or.inr (slot_ne (Or.inr (ow hw 22 rfl)) (Or.inr (ow hw 23 rfl)) (by decide) (t := (.array .byte)) (t' := .byte) (by decide) (by decide)))).same W360
 have K360 := K359.wr W360 (Or.inl (List.mem_of_getElem? (i := 0) rfl))
 have O360 := O359.wr W360 g_b336
 have N360 := Fr.snoc X360 N359 g_b336
 show Ends _ _ _ _ T360 (mkF m 57 #[cr b336, cr b337, ci 0, ci 2, .val .null, cr b354] []) _ _ _
 refine Ends.retV X360 hx Bd.notSynchronized Bd.returns (hb hby d24_57) (by decide) (by decide) ?_
 rw [e360]
 exact ⟨b354, k355, rfl, N360, K360, sz_b354, (((Y353_0.keep K358c nin0).other W359 (Ne.symm (Nat.ne_of_lt (Nat.lt_of_lt_of_le PE_b336.lt sz_b354)))).other W360 (Ne.symm (Nat.ne_of_lt (Nat.lt_of_lt_of_le PE_b336.lt sz_b354)))), (Fw359.other W360 (Or.inr (slot_ne (Or.inr (ow hw 23 rfl)) (Or.inr (ow hw 22 rfl)) (by decide) (t := .byte) (t' := (.array .byte)) (by decide) (by decide)))), Fw360⟩

set_option maxRecDepth 65536 in
set_option maxHeartbeats 40000000 in
theorem rx23_340 (l : Launch) (Z : State) (a0 : Array Value) (hw : ∀ d ∈ tables_1, d.before a0 Z = true) (ws : List Jvm.Cond) (n0 : Nat) (h0 : Heap) (O0 : Old Z n0 h0) (G1 : Int32) (G3 : Value) (w_NULL : Addr) (w_NUMBER : Addr) (w_NULL2 : Addr) (w_STRING : Addr) (GF : GlobF Z a0 G1 G3 w_NULL w_NUMBER w_NULL2 w_STRING) (b336 : Addr) (b337 : Addr) (k337 : ClassId) (p1 : Int32) (p2 : Int32) (PV_b337 : Arv Z h0 b337 k337 .char (2 : Int32) [(.int ((p1 &&& (255 : Int32)).toUInt32.toUInt16.toUInt32.toInt32)), (.int ((p2 &&& (255 : Int32)).toUInt32.toUInt16.toUInt32.toInt32))] (.int 0)) (PE_b336 : Exa Z h0 b336 "java/lang/String") (PF_b336_coder : Fld Z h0 b336 "java/lang/String" "coder" "B" (.int 0)) (PF_b336_value : Fld Z h0 b336 "java/lang/String" "value" "[B" .null) (g_b336 : n0 ≤ b336) :
  Meets1 l ym25 jdk_42_method_3_code 2 none ws ({ frames := 3, cells := 1, slots := 2, locals := 52 } : Room) #[(.ref b336), (.ref b337)] Z h0 (fun v h L => ∃ (b362 : Addr) (k363 : ClassId), v = none ∧ Fr n0 L ∧ Keep h0 h [b336] ∧ h0.size ≤ b362 ∧ Arv Z h b362 k363 .byte (2 : Int32) [(.int (((p1 &&& (255 : Int32)).toUInt32.toUInt16.toUInt32.toInt32).toInt8.toInt32)), (.int (((p2 &&& (255 : Int32)).toUInt32.toUInt16.toUInt32.toInt32).toInt8.toInt32))] (.int 0) ∧ Fld Z h b336 "java/lang/String" "coder" "B" (.int 0) ∧ Fld Z h b336 "java/lang/String" "value" "[B" (.ref b362)) := by
 refine MetFree.of_bodySF (plainFor_of_name pn23) hisR ?_
 intro p e s m args below meth c s₁ Bd hml0 hP hK
 obtain ⟨rfl, hZ, hh⟩ := hP
 have hx := Bd.exec
 have hby := Bd.bytes
 have hml : c.maxLocals = 2 := hml0
 have hown : s.vm.findClass "java/lang/String" = some m.cls := findClass_of_methodNamed Bd.named
 have hnm := (name_of_methodNamed Bd.named Bd.method).1
 have X0 : Stand p l e ({ frames := 3, cells := 1, slots := 2, locals := 52 } : Room) s m #[(.ref b336), (.ref b337)] below meth c s₁ [] 0 0 := Stand.of_body Bd
 have e0 : s₁.heap = h0 := by rw [← hh, Bd.state]; rfl
 have N0 := Fr.nil n0
 have Z0 := own_old_le O0
 show Ends _ _ _ _ s₁ (entryFrame m #[(.ref b336), (.ref b337)] 2) ({ frames := 3, cells := 1, slots := 2, locals := 52 } : Room).cells ({ frames := 3, cells := 1, slots := 2, locals := 52 } : Room).slots (fun v h L => ∃ (b362 : Addr) (k363 : ClassId), v = none ∧ Fr n0 L ∧ Keep h0 h [b336] ∧ h0.size ≤ b362 ∧ Arv Z h b362 k363 .byte (2 : Int32) [(.int (((p1 &&& (255 : Int32)).toUInt32.toUInt16.toUInt32.toInt32).toInt8.toInt32)), (.int (((p2 &&& (255 : Int32)).toUInt32.toUInt16.toUInt32.toInt32).toInt8.toInt32))] (.int 0) ∧ Fld Z h b336 "java/lang/String" "coder" "B" (.int 0) ∧ Fld Z h b336 "java/lang/String" "value" "[B" (.ref b362))
 refine Ends.go (fun _ k => castTop (ef23_rr m b336 b337) k) ?_
 obtain ⟨SCS, P5, SSF, RG3, HCST, HCW, S_NULL, E_NULL, S_NUMBER, E_NUMBER, F_ordinal_NULL, F_ordinal_NUMBER, S_NULL2, E_NULL2, F_kind_NULL2, S_STRING, E_STRING, F_ordinal_STRING⟩ := id GF
 have K0 := Keep.refl h0 [b336]
 show Ends _ _ _ _ s₁ (mkF m 0 #[cr b336, cr b337] []) _ _ _
 refine walN X0 hx hby d23_0 rfl rfl ?_
 refine walN X0 hx hby d23_1 rfl rfl ?_
 refine wic X0 hx hby d23_2 ?_
 show Ends _ _ _ _ s₁ (mkF m 3 #[cr b336, cr b337] [(.int 0), (.ref b337), (.ref b336)]) _ _ _
 refine walN X0 hx hby d23_3 rfl rfl ?_
 obtain ⟨cl341, Ar341, q341, S341, M341, H341, G341⟩ := id PV_b337
 refine Ends.go (X0.arraylength hx (by rw [e0]; exact Ar341.1) (State.isArrayOf_alike hZ.alike Ar341.2.1) (g := (mkF m 4 #[cr b336, cr b337] [(.ref b337), (.int 0), (.ref b337), (.ref b336)])) rfl rfl (hb hby d23_4)) ?_
 rw [len_of S341 M341]
 refine .go (fun _ => XS.aconstNull X0.here hx rfl (hb hby d23_5)) ?_
 obtain ⟨_, _, ⟨T361, L361, k361, n361⟩, -, X361, ⟨Lc361, hQ361, l361, y361, z361⟩, st361⟩ := X0.specialBack hx (y := ym24) rfl hown (mvT hZ (ow hw 124 rfl)) (mvT hZ (ow hw 125 rfl)) (mvT hZ (ow hw 126 rfl)) (by decide) (own_backOf (W := 0) (rx24_342 l Z a0 hw [] n0 h0 O0 G1 G3 w_NULL w_NUMBER w_NULL2 w_STRING GF b336 b337 k337 p1 p2 PV_b337 PE_b336 PF_b336_coder PF_b336_value g_b336) hZ (ow hw 126 rfl) (ow hw 19 rfl) (by decide) (by decide)) (g := (mkF m 6 #[cr b336, cr b337] [.null, (.int 2), (.int 0), (.ref b337), (.ref b336)])) rfl (by rw [hml]; rfl) (Steps.refl _) (a := b336) (argsL := [(.ref b337), (.int 0), (.int 2), .null]) (rest := []) (lenOf pdx_22 rfl) rfl (by show 2 * 0 + _ ≤ _; exact Nat.le_of_eq rfl) (hb hby d23_6) (fun _ _ => ⟨rfl, e0, (by decide : 0 + 1 ≤ _), (by decide : 0 + 2 ≤ _)⟩)
 dsimp only [Pt.U, Pt.locs, Pt.cells, Pt.slots] at X361 l361 y361 z361 st361 hQ361
 subst l361 y361 z361
 obtain ⟨b362, k363, rfl, N361q, K361c, hb361_b362, Y361_0, Y361_1, Y361_2⟩ := hQ361
 have N361 := Fr.app N0 N361q
 refine Ends.go (fun _ k => st361.trans k) ?_
 have g_b362 : n0 ≤ b362 := Nat.le_trans (own_old_le O0) hb361_b362
 have sz_b362 : h0.size ≤ b362 := Nat.le_trans K0.1 hb361_b362
 obtain ⟨h361, e361⟩ : ∃ z, T361.heap = z := ⟨_, rfl⟩
 rw [e361] at K361c Y361_0 Y361_1 Y361_2
 have K361 := K0.trans K361c (allS (Or.inl (List.mem_of_getElem? (i := 0) rfl)) all0)
 have O361 := O0.keep K361c (allS g_b336 all0)
 show Ends _ _ _ _ T361 (mkF m 9 #[cr b336, cr b337] []) _ _ _
 refine Ends.retV X361 hx Bd.notSynchronized Bd.returns (hb hby d23_9) (by decide) (by decide) ?_
 rw [e361]
 exact ⟨b362, k363, rfl, N361, K361, sz_b362, Y361_0, Y361_1, Y361_2⟩

theorem d28_30 : decode method_2_code 30 = .ok (.new 7, 3) := by decide +kernel
theorem d28_33 : decode method_2_code 33 = .ok (.dup, 1) := by decide +kernel
theorem d28_34 : decode method_2_code 34 = .ok (.iconst 2, 1) := by decide +kernel
theorem d28_35 : decode method_2_code 35 = .ok (.newarray .char, 2) := by decide +kernel
theorem d28_37 : decode method_2_code 37 = .ok (.dup, 1) := by decide +kernel
theorem d28_38 : decode method_2_code 38 = .ok (.iconst 0, 1) := by decide +kernel
theorem d28_39 : decode method_2_code 39 = .ok (.iload_n 1, 1) := by decide +kernel
theorem d28_40 : decode method_2_code 40 = .ok (.sipush 255, 3) := by decide +kernel
theorem d28_43 : decode method_2_code 43 = .ok (.iand, 1) := by decide +kernel
theorem d28_44 : decode method_2_code 44 = .ok (.i2c, 1) := by decide +kernel
theorem d28_45 : decode method_2_code 45 = .ok (.castore, 1) := by decide +kernel
theorem d28_46 : decode method_2_code 46 = .ok (.dup, 1) := by decide +kernel
theorem d28_47 : decode method_2_code 47 = .ok (.iconst 1, 1) := by decide +kernel
theorem d28_48 : decode method_2_code 48 = .ok (.iload_n 2, 1) := by decide +kernel
theorem d28_49 : decode method_2_code 49 = .ok (.sipush 255, 3) := by decide +kernel
theorem d28_52 : decode method_2_code 52 = .ok (.iand, 1) := by decide +kernel
theorem d28_53 : decode method_2_code 53 = .ok (.i2c, 1) := by decide +kernel
theorem d28_54 : decode method_2_code 54 = .ok (.castore, 1) := by decide +kernel
theorem d28_55 : decode method_2_code 55 = .ok (.invokespecial 9, 3) := by decide +kernel
theorem d28_58 : decode method_2_code 58 = .ok (.areturn, 1) := by decide +kernel
set_option maxRecDepth 65536 in
set_option maxHeartbeats 40000000 in
theorem rx28_335 (l : Launch) (Z : State) (a0 : Array Value) (hw : ∀ d ∈ tables_1, d.before a0 Z = true) (ws : List Jvm.Cond) (n0 : Nat) (h0 : Heap) (O0 : Old Z n0 h0) (G1 : Int32) (G3 : Value) (w_NULL : Addr) (w_NUMBER : Addr) (w_NULL2 : Addr) (w_STRING : Addr) (GF : GlobF Z a0 G1 G3 w_NULL w_NUMBER w_NULL2 w_STRING) (p1 : Int32) (p2 : Int32)  :
  Meets1 l ym26 method_2_code 3 (some (.object "java/lang/String")) ws ({ frames := 4, cells := 3, slots := 8, locals := 66 } : Room) #[(.int 2), (.int p1), (.int p2)] Z h0 (fun v h L => ∃ (b336 : Addr) (b337 : Addr) (b365 : Addr) (k337 : ClassId) (k366 : ClassId), v = some (.ref b336) ∧ Fr n0 L ∧ Keep h0 h [] ∧ h0.size ≤ b336 ∧ h0.size ≤ b337 ∧ h0.size ≤ b365 ∧ b336 ≠ b337 ∧ b336 ≠ b365 ∧ b337 ≠ b365 ∧ Exa Z h b336 "java/lang/String" ∧ Arv Z h b337 k337 .char (2 : Int32) [(.int ((p1 &&& (255 : Int32)).toUInt32.toUInt16.toUInt32.toInt32)), (.int ((p2 &&& (255 : Int32)).toUInt32.toUInt16.toUInt32.toInt32))] (.int 0) ∧ Arv Z h b365 k366 .byte (2 : Int32) [(.int (((p1 &&& (255 : Int32)).toUInt32.toUInt16.toUInt32.toInt32).toInt8.toInt32)), (.int (((p2 &&& (255 : Int32)).toUInt32.toUInt16.toUInt32.toInt32).toInt8.toInt32))] (.int 0) ∧ Fld Z h b336 "java/lang/String" "coder" "B" (.int 0) ∧ Fld Z h b336 "java/lang/String" "value" "[B" (.ref b365)) := by
 refine MetFree.of_bodySF (plainFor_of_name pn28) hisR ?_
 intro p e s m args below meth c s₁ Bd hml0 hP hK
 obtain ⟨rfl, hZ, hh⟩ := hP
 have hx := Bd.exec
 have hby := Bd.bytes
 have hml : c.maxLocals = 3 := hml0
 have hown : s.vm.findClass "com/example/wakeline/wakeline/event/ValueIsNullPinLaw" = some m.cls := findClass_of_methodNamed Bd.named
 have hnm := (name_of_methodNamed Bd.named Bd.method).1
 have X0 : Stand p l e ({ frames := 4, cells := 3, slots := 8, locals := 66 } : Room) s m #[(.int 2), (.int p1), (.int p2)] below meth c s₁ [] 0 0 := Stand.of_body Bd
 have e0 : s₁.heap = h0 := by rw [← hh, Bd.state]; rfl
 have N0 := Fr.nil n0
 have Z0 := own_old_le O0
 show Ends _ _ _ _ s₁ (entryFrame m #[(.int 2), (.int p1), (.int p2)] 3) ({ frames := 4, cells := 3, slots := 8, locals := 66 } : Room).cells ({ frames := 4, cells := 3, slots := 8, locals := 66 } : Room).slots (fun v h L => ∃ (b336 : Addr) (b337 : Addr) (b365 : Addr) (k337 : ClassId) (k366 : ClassId), v = some (.ref b336) ∧ Fr n0 L ∧ Keep h0 h [] ∧ h0.size ≤ b336 ∧ h0.size ≤ b337 ∧ h0.size ≤ b365 ∧ b336 ≠ b337 ∧ b336 ≠ b365 ∧ b337 ≠ b365 ∧ Exa Z h b336 "java/lang/String" ∧ Arv Z h b337 k337 .char (2 : Int32) [(.int ((p1 &&& (255 : Int32)).toUInt32.toUInt16.toUInt32.toInt32)), (.int ((p2 &&& (255 : Int32)).toUInt32.toUInt16.toUInt32.toInt32))] (.int 0) ∧ Arv Z h b365 k366 .byte (2 : Int32) [(.int (((p1 &&& (255 : Int32)).toUInt32.toUInt16.toUInt32.toInt32).toInt8.toInt32)), (.int (((p2 &&& (255 : Int32)).toUInt32.toUInt16.toUInt32.toInt32).toInt8.toInt32))] (.int 0) ∧ Fld Z h b336 "java/lang/String" "coder" "B" (.int 0) ∧ Fld Z h b336 "java/lang/String" "value" "[B" (.ref b365))
 refine Ends.go (fun _ k => castTop (ef28_iii m (2 : Int32) p1 p2) k) ?_
 obtain ⟨SCS, P5, SSF, RG3, HCST, HCW, S_NULL, E_NULL, S_NUMBER, E_NUMBER, F_ordinal_NULL, F_ordinal_NUMBER, S_NULL2, E_NULL2, F_kind_NULL2, S_STRING, E_STRING, F_ordinal_STRING⟩ := id GF
 have K0 := Keep.refl h0 []
 show Ends _ _ _ _ s₁ (mkF m 0 #[ci 2, ci p1, ci p2] []) _ _ _
 refine wilN X0 hx hby d28_0 rfl ?_
 refine wiy (pc := 1) (pc' := 15) X0 hx hby d28_1 ((if0 _ _).trans (feq (by decide : ¬ ((2 : Int32) = (0 : Int32)))).2) (by decide) (by decide) ?_
 refine wilN X0 hx hby d28_15 rfl ?_
 show Ends _ _ _ _ s₁ (mkF m 16 #[ci 2, ci p1, ci p2] [(.int 2)]) _ _ _
 refine wic X0 hx hby d28_16 ?_
 refine wcy (pc := 17) (pc' := 30) X0 hx hby d28_17 (feq (by decide : ¬ ((2 : Int32) = (1 : Int32)))).2 (by decide) (by decide) ?_
 obtain ⟨T336, h336, X336, e336, E336, A336, D336, -, st336⟩ := newO X0 hx hZ hown (ow hw 119 rfl) (ow hw 20 rfl) (ow hw 19 rfl) e0 (g := (mkF m 30 #[ci 2, ci p1, ci p2] [])) rfl (hb hby d28_30) (by decide) (by decide)
 obtain ⟨b336, g336⟩ : ∃ z, z = h0.size := ⟨_, rfl⟩
 rw [← g336] at A336 D336 st336
 refine Ends.go st336 ?_
 have g_b336 : n0 ≤ b336 := Nat.le_trans (own_old_le O0) (Nat.le_of_eq g336.symm)
 have sz_b336 : h0.size ≤ b336 := Nat.le_trans K0.1 (Nat.le_of_eq g336.symm)
 have K336 := K0.ext E336
 have O336 := O0.ext E336
 have F_value_b336 : Fld Z h336 b336 "java/lang/String" "value" "[B" .null := D336 (Or.inr (ow hw 22 rfl)) (ty := (.array .byte)) (by decide)
 have F_coder_b336 : Fld Z h336 b336 "java/lang/String" "coder" "B" (.int 0) := D336 (Or.inr (ow hw 23 rfl)) (ty := .byte) (by decide)
 refine wdu X336 hx hby d28_33 rfl ?_
 show Ends _ _ _ _ T336 (mkF m 34 #[ci 2, ci p1, ci p2] [(.ref b336), (.ref b336)]) _ _ _
 refine wic X336 hx hby d28_34 ?_
 obtain ⟨T337, h337, k337, X337, e337, E337, A337, st337⟩ := newP X336 hx hZ (ow hw 120 rfl) e336 (g := (mkF m 35 #[ci 2, ci p1, ci p2] [(.int 2), (.ref b336), (.ref b336)])) rfl (hb hby d28_35) rfl (by decide) (cap := 2) (by decide) (by decide) (by decide) (by decide)
 obtain ⟨b337, g337⟩ : ∃ z, z = h336.size := ⟨_, rfl⟩
 rw [← g337] at A337 st337
 refine Ends.go st337 ?_
 have g_b337 : n0 ≤ b337 := Nat.le_trans (own_old_le O336) (Nat.le_of_eq g337.symm)
 have sz_b337 : h0.size ≤ b337 := Nat.le_trans K336.1 (Nat.le_of_eq g337.symm)
 have K337 := K336.ext E337
 have O337 := O336.ext E337
 have V_b337 : Arv Z h337 b337 k337 .char (2 : Int32) [(.int 0), (.int 0)] (.int 0) := (Arv.new A337 (by decide)).pad (pad_rep [] (.int 0) 2)
 refine wdu X337 hx hby d28_37 rfl ?_
 refine wic X337 hx hby d28_38 ?_
 show Ends _ _ _ _ T337 (mkF m 39 #[ci 2, ci p1, ci p2] [(.int 0), (.ref b337), (.ref b337), (.ref b336), (.ref b336)]) _ _ _
 refine wilN X337 hx hby d28_39 rfl ?_
 refine wsp X337 hx hby d28_40 ?_
 refine wan X337 hx hby d28_43 ?_
 refine .go (fun _ => XS.i2c X337.here hx rfl (hb hby d28_44) rfl) ?_
 show Ends _ _ _ _ T337 (mkF m 45 #[ci 2, ci p1, ci p2] [(.int ((p1 &&& (255 : Int32)).toUInt32.toUInt16.toUInt32.toInt32)), (.int 0), (.ref b337), (.ref b337), (.ref b336), (.ref b336)]) _ _ _
 obtain ⟨cl338, Ar338, q338, S338, M338, H338, G338⟩ := id V_b337
 have hin338 := inb_of (j := (0 : Int32)) S338 ⟨by decide, by decide⟩
 obtain ⟨T338, h338, X338, e338, W338, st338⟩ := stC X337 hx hZ e337 Ar338 (j := (0 : Int32)) hin338 (g := (mkF m 45 #[ci 2, ci p1, ci p2] [(.int ((p1 &&& (255 : Int32)).toUInt32.toUInt16.toUInt32.toInt32)), (.int 0), (.ref b337), (.ref b337), (.ref b336), (.ref b336)])) rfl rfl (hb hby d28_45)
 refine Ends.go st338 ?_
 have V338 : Arv Z h338 b337 k337 .char (2 : Int32) [(.int (nar .char ((p1 &&& (255 : Int32)).toUInt32.toUInt16.toUInt32.toInt32))), (.int 0)] (.int 0) := Arv.set Ar338 q338 S338 M338 H338 G338 (fits_nar_char _) W338 0 rfl (Nat.le_of_ble_eq_true rfl)
 rw [own_narcc] at V338
 have K338 := K337.wr W338 (Or.inr sz_b337)
 have O338 := O337.wr W338 g_b337
 have N338 := Fr.snoc X338 N0 g_b337
 refine wdu X338 hx hby d28_46 rfl ?_
 refine wic X338 hx hby d28_47 ?_
 refine wilN X338 hx hby d28_48 rfl ?_
 show Ends _ _ _ _ T338 (mkF m 49 #[ci 2, ci p1, ci p2] [(.int p2), (.int 1), (.ref b337), (.ref b337), (.ref b336), (.ref b336)]) _ _ _
 refine wsp X338 hx hby d28_49 ?_
 refine wan X338 hx hby d28_52 ?_
 refine .go (fun _ => XS.i2c X338.here hx rfl (hb hby d28_53) rfl) ?_
 obtain ⟨cl339, Ar339, q339, S339, M339, H339, G339⟩ := id V338
 have hin339 := inb_of (j := (1 : Int32)) S339 ⟨by decide, by decide⟩
 obtain ⟨T339, h339, X339, e339, W339, st339⟩ := stC X338 hx hZ e338 Ar339 (j := (1 : Int32)) hin339 (g := (mkF m 54 #[ci 2, ci p1, ci p2] [(.int ((p2 &&& (255 : Int32)).toUInt32.toUInt16.toUInt32.toInt32)), (.int 1), (.ref b337), (.ref b337), (.ref b336), (.ref b336)])) rfl rfl (hb hby d28_54)
 refine Ends.go st339 ?_
 have V339 : Arv Z h339 b337 k337 .char (2 : Int32) [(.int ((p1 &&& (255 : Int32)).toUInt32.toUInt16.toUInt32.toInt32)), (.int (nar .char ((p2 &&& (255 : Int32)).toUInt32.toUInt16.toUInt32.toInt32)))] (.int 0) := Arv.set Ar339 q339 S339 M339 H339 G339 (fits_nar_char _) W339 1 rfl (Nat.le_of_ble_eq_true rfl)
 rw [own_narcc] at V339
 have K339 := K338.wr W339 (Or.inr sz_b337)
 have O339 := O338.wr W339 g_b337
 have N339 := Fr.snoc X339 N338 g_b337
 show Ends _ _ _ _ T339 (mkF m 55 #[ci 2, ci p1, ci p2] [(.ref b337), (.ref b336), (.ref b336)]) _ _ _
 have ne_b336_b337 : b336 ≠ b337 := Nat.ne_of_lt (Nat.lt_of_lt_of_le A336.lt (Nat.le_of_eq g337.symm))
 obtain ⟨_, _, ⟨T364, L364, k364, n364⟩, -, X364, ⟨Lc364, hQ364, l364, y364, z364⟩, st364⟩ := X339.specialBack hx (y := ym25) rfl hown (mvT hZ (ow hw 121 rfl)) (mvT hZ (ow hw 122 rfl)) (mvT hZ (ow hw 123 rfl)) (by decide) (own_backOf (W := 1) (rx23_340 l Z a0 hw [] n0 h339 O339 G1 G3 w_NULL w_NUMBER w_NULL2 w_STRING GF b336 b337 k337 p1 p2 V339 (((A336.ext E337).wr W338).wr W339) (((F_coder_b336.ext E337).other W338 (Or.inl ne_b336_b337)).other W339 (Or.inl ne_b336_b337)) (((F_value_b336.ext E337).other W338 (Or.inl ne_b336_b337)).other W339 (Or.inl ne_b336_b337)) g_b336) hZ (ow hw 123 rfl) (ow hw 19 rfl) (by decide) (by decide)) (g := (mkF m 55 #[ci 2, ci p1, ci p2] [(.ref b337), (.ref b336), (.ref b336)])) rfl (by rw [hml]; rfl) (Steps.refl _) (a := b336) (argsL := [(.ref b337)]) (rest := [(.ref b336)]) (lenOf pdx_23 rfl) rfl (by show 2 * 0 + _ ≤ _; exact Nat.le_of_eq rfl) (hb hby d28_55) (fun _ _ => ⟨rfl, e339, (by decide : 2 + 1 ≤ _), (by decide : 6 + 2 ≤ _)⟩)
 dsimp only [Pt.U, Pt.locs, Pt.cells, Pt.slots] at X364 l364 y364 z364 st364 hQ364
 subst l364 y364 z364
 obtain ⟨b365, k366, rfl, N364q, K364c, hb364_b365, Y364_0, Y364_1, Y364_2⟩ := hQ364
 have N364 := Fr.app N339 N364q
 refine Ends.go (fun _ k => st364.trans k) ?_
 have g_b365 : n0 ≤ b365 := Nat.le_trans (own_old_le O339) hb364_b365
 have sz_b365 : h0.size ≤ b365 := Nat.le_trans K339.1 hb364_b365
 obtain ⟨h364, e364⟩ : ∃ z, T364.heap = z := ⟨_, rfl⟩
 rw [e364] at K364c Y364_0 Y364_1 Y364_2
 have K364 := K339.trans K364c (allS (Or.inr sz_b336) all0)
 have O364 := O339.keep K364c (allS g_b336 all0)
 refine Ends.ret X364 hx Bd.notSynchronized (t := (.object "java/lang/String")) Bd.returns rfl (Or.inr (Or.inr (Or.inr (Or.inr ⟨rfl, rfl, rfl⟩)))) (hb hby d28_58) (by decide) (by decide) ?_
 rw [e364]
 have ne_b336_b365 : b336 ≠ b365 := Nat.ne_of_lt (Nat.lt_of_lt_of_le (((A336.ext E337).wr W338).wr W339).lt hb364_b365)
 have ne_b337_b365 : b337 ≠ b365 := Nat.ne_of_lt (Nat.lt_of_lt_of_le V339.lt hb364_b365)
 exact ⟨b336, b337, b365, k337, k366, rfl, N364, K364, sz_b336, sz_b337, sz_b365, ne_b336_b337, ne_b336_b365, ne_b337_b365, ((((A336.ext E337).wr W338).wr W339).keep K364c), (V339.keep K364c (ninS (Ne.symm ne_b336_b337) nin0)), Y364_0, Y364_1, Y364_2⟩
theorem pn0 : plainName "com/example/wakeline/wakeline/event/ValueIsNullPinLaw" = true := by first | (simp [plainName, overriddenIn]; done) | decide +kernel
theorem ef0_iiii (m : MethodId) (x0 : Int32) (x1 : Int32) (x2 : Int32) (x3 : Int32) : entryFrame m #[(.int x0), (.int x1), (.int x2), (.int x3)] maxLocals = mkF m 0 #[.val (.int x0), .val (.int x1), .val (.int x2), .val (.int x3), .unset, .unset, .unset, .unset, .unset] [] := by first | (simp [entryFrame, mkF, argsToLocals, Value.category, maxLocals]; done) | rfl
set_option maxRecDepth 65536 in
set_option maxHeartbeats 40000000 in
theorem rm0 (l : Launch) (Z : State) (a0 : Array Value) (hw : ∀ d ∈ tables_1, d.before a0 Z = true) (ws : List Jvm.Cond) (n0 : Nat) (h0 : Heap) (O0 : Old Z n0 h0) (p0 : Int32) (p1 : Int32) (p2 : Int32) (p3 : Int32) (G1 : Int32) (G3 : Value) (w_NULL : Addr) (w_NUMBER : Addr) (w_NULL2 : Addr) (w_STRING : Addr) (GF : GlobF Z a0 G1 G3 w_NULL w_NUMBER w_NULL2 w_STRING) :
  Meets1W l x code maxLocals ret ws room_1 #[(.int p0), (.int p1), (.int p2), (.int p3)] Z h0 true (fun v h L => v = some (.int 1) ∧ Fr n0 L) := by
 refine MetFree.of_bodySF (plainFor_of_name pn0) hisR ?_
 intro p e s m args below meth c s₁ Bd hml0 hP hK
 obtain ⟨rfl, hZ, hh, hI⟩ := hP
 have hx := Bd.exec
 have hby := Bd.bytes
 have hml : c.maxLocals = 9 := hml0
 have hown : s.vm.findClass "com/example/wakeline/wakeline/event/ValueIsNullPinLaw" = some m.cls := findClass_of_methodNamed Bd.named
 have hnm := (name_of_methodNamed Bd.named Bd.method).1
 have X0 : Stand p l e room_1 s m #[(.int p0), (.int p1), (.int p2), (.int p3)] below meth c s₁ [] 0 0 := Stand.of_body Bd
 have e0 : s₁.heap = h0 := by rw [← hh, Bd.state]; rfl
 have N0 := Fr.nil n0
 have hS0 := own_since0 s
 have hk0 : s.heap.size ≤ h0.size := Nat.le_of_eq (congrArg Array.size hh)
 have Z0 := own_old_le O0
 show EndsW _ _ _ _ s₁ (entryFrame m #[(.int p0), (.int p1), (.int p2), (.int p3)] maxLocals) room_1.cells room_1.slots (fun v h L => v = some (.int 1) ∧ Fr n0 L)
 refine EndsW.go (fun _ k => castTop (ef0_iiii m p0 p1 p2 p3) k) ?_
 have K0 := Keep.refl h0 []
 obtain ⟨SCS, P5, SSF, RG3, HCST, HCW, S_NULL, E_NULL, S_NUMBER, E_NUMBER, F_ordinal_NULL, F_ordinal_NUMBER, S_NULL2, E_NULL2, F_kind_NULL2, S_STRING, E_STRING, F_ordinal_STRING⟩ := id GF
 refine wilNW X0 hx hby at_0 rfl ?_
 refine EndsW.go (X0.ldcInt hx hown (mvT hZ (ow hw 0 rfl)) (g := (mkF m 1 #[ci p0, ci p1, ci p2, ci p3, cu, cu, cu, cu, cu] [(.int p0)])) rfl (hb hby at_1)) ?_
 refine wanW X0 hx hby at_3 ?_
 show EndsW _ _ _ _ s₁ (mkF m 4 #[ci p0, ci p1, ci p2, ci p3, cu, cu, cu, cu, cu] [(.int (p0 &&& (2147483647 : Int32)))]) _ _ _
 refine wicW X0 hx hby at_4 ?_
 refine .go (fun _ => iremM X0 hx rfl (hb hby at_5) rfl (by decide)) ?_
 show EndsW _ _ _ _ s₁ (mkF m 6 #[ci p0, ci p1, ci p2, ci p3, cu, cu, cu, cu, cu] [(.int ((p0 &&& (2147483647 : Int32)) % (3 : Int32)))]) _ _ _
 generalize hi1 : ((p0 &&& (2147483647 : Int32)) % (3 : Int32)) = i1
 rcases own_m3 p0 i1 hi1 with rfl | rfl | rfl
 ·show EndsW _ _ _ _ s₁ (mkF m 6 #[ci p0, ci p1, ci p2, ci p3, cu, cu, cu, cu, cu] [(.int 0)]) _ _ _
  refine wstW X0 hx hby at_6 (l' := #[ci p0, ci p1, ci p2, ci p3, ci 0, cu, cu, cu, cu]) rfl ?_
  refine wilW X0 hx hby at_8 rfl ?_
  refine winW X0 hx hby at_10 ((if0 _ _).trans (teq (by decide : (0 : Int32) = (0 : Int32))).2) ?_
  obtain ⟨T2, X2, e2, st2⟩ := getS2 X0 hx hZ hown (host := "") (Or.inl (ow hw 1 rfl)) Via.refl e0 (S_NULL.ext O0.2) (g := (mkF m 13 #[ci p0, ci p1, ci p2, ci p3, ci 0, cu, cu, cu, cu] [])) rfl (hb hby at_13)
  refine EndsW.go st2 ?_
  show EndsW _ _ _ _ T2 (mkF m 16 #[ci p0, ci p1, ci p2, ci p3, ci 0, cu, cu, cu, cu] [(.ref w_NULL)]) _ _ _
  refine wasW X2 hx hby at_16 (l' := #[ci p0, ci p1, ci p2, ci p3, ci 0, cu, cr w_NULL, cu, cu]) rfl rfl ?_
  obtain ⟨T3, h3, X3, e3, E3, A3, D3, -, st3⟩ := newO X2 hx hZ hown (ow hw 4 rfl) (ow hw 5 rfl) (ow hw 6 rfl) e2 (g := (mkF m 18 #[ci p0, ci p1, ci p2, ci p3, ci 0, cu, cr w_NULL, cu, cu] [])) rfl (hb hby at_18) (by decide) (by decide)
  obtain ⟨b3, g3⟩ : ∃ z, z = h0.size := ⟨_, rfl⟩
  rw [← g3] at A3 D3 st3
  refine EndsW.go st3 ?_
  have g_b3 : n0 ≤ b3 := Nat.le_trans (own_old_le O0) (Nat.le_of_eq g3.symm)
  have sz_b3 : h0.size ≤ b3 := Nat.le_trans K0.1 (Nat.le_of_eq g3.symm)
  have K3 := K0.ext E3
  have O3 := O0.ext E3
  have F_kind_b3 : Fld Z h3 b3 "com/example/wakeline/wakeline/event/Value" "kind" "Lcom/example/wakeline/wakeline/event/Value$Kind;" .null := D3 (Or.inr (ow hw 34 rfl)) (ty := (.object "com/example/wakeline/wakeline/event/Value$Kind")) (by decide)
  have F_text_b3 : Fld Z h3 b3 "com/example/wakeline/wakeline/event/Value" "text" "Ljava/lang/String;" .null := D3 (Or.inr (ow hw 36 rfl)) (ty := (.object "java/lang/String")) (by decide)
  refine wduW X3 hx hby at_21 rfl ?_
  refine walW X3 hx hby at_22 rfl rfl ?_
  show EndsW _ _ _ _ T3 (mkF m 24 #[ci p0, ci p1, ci p2, ci p3, ci 0, cu, cr w_NULL, cu, cu] [(.ref w_NULL), (.ref b3), (.ref b3)]) _ _ _
  refine .go (fun _ => XS.aconstNull X3.here hx rfl (hb hby at_24)) ?_
  obtain ⟨_, _, ⟨T15, L15, k15, n15⟩, -, X15, hSq15, hgq15, ⟨Lc15, hQ15, l15, y15, z15⟩, st15⟩ := X3.specialBackS hx (y := ym4) rfl hown (mvT hZ (ow hw 7 rfl)) (mvT hZ (ow hw 8 rfl)) (mvT hZ (ow hw 9 rfl)) (by decide) (own_backOfS (W := 1) (rx1_4 l Z a0 hw [] n0 h3 O3 G1 G3 w_NULL w_NUMBER w_NULL2 w_STRING GF b3 A3 F_kind_b3 F_text_b3 g_b3) hZ (ow hw 9 rfl) (ow hw 6 rfl) (by decide) (by decide) (fun q_ => by cases q_)) (g := (mkF m 25 #[ci p0, ci p1, ci p2, ci p3, ci 0, cu, cr w_NULL, cu, cu] [.null, (.ref w_NULL), (.ref b3), (.ref b3)])) rfl (by rw [hml]; rfl) (Steps.refl _) (a := b3) (argsL := [(.ref w_NULL), .null]) (rest := [(.ref b3)]) (lenOf pdx_2 rfl) rfl (by show 2 * 0 + _ ≤ _; exact Nat.le_of_eq rfl) (hb hby at_25) (fun _ _ => ⟨rfl, e3, (by decide : 1 + 2 ≤ _), (by decide : 2 + 20 ≤ _)⟩)
  dsimp only [Pt.U, Pt.locs, Pt.cells, Pt.slots] at X15 l15 y15 z15 st15 hQ15 hSq15 hgq15
  subst l15 y15 z15
  have hS15 := foldS hS0 (Nat.le_trans (Nat.le_trans hk0 E3.1) (Nat.le_of_eq (congrArg Array.size e3.symm))) hSq15 hgq15
  have hZ : Z.Warmed39 T15.vm := State.Warmed39.trans (t := s.setVm s.vm) hZ hSq15.1
  have hown : T15.vm.findClass "com/example/wakeline/wakeline/event/ValueIsNullPinLaw" = some m.cls := by rw [hSq15.1.alike.findClass]; exact hown
  obtain ⟨rfl, N15q, K15c, Y15_0, Y15_1⟩ := hQ15
  have N15 := Fr.app N0 N15q
  refine EndsW.go (fun _ k => st15.trans k) ?_
  obtain ⟨h15, e15⟩ : ∃ z, T15.heap = z := ⟨_, rfl⟩
  rw [e15] at K15c Y15_0 Y15_1
  have K15 := K3.trans K15c (allS (Or.inr sz_b3) all0)
  have O15 := O3.keep K15c (allS g_b3 all0)
  refine wasW X15 hx hby at_28 (l' := #[ci p0, ci p1, ci p2, ci p3, ci 0, cr b3, cr w_NULL, cu, cu]) rfl rfl ?_
  refine wgoW (pc := 30) (pc' := 94) X15 hx hby at_30 (by decide) (by decide) ?_
  show EndsW _ _ _ _ T15 (mkF m 94 #[ci p0, ci p1, ci p2, ci p3, ci 0, cr b3, cr w_NULL, cu, cu] []) _ _ _
  refine wilW X15 hx hby at_94 rfl ?_
  refine winW X15 hx hby at_96 ((if0 _ _).trans (teq (by decide : (0 : Int32) = (0 : Int32))).2) ?_
  refine wicW X15 hx hby at_99 ?_
  refine wgoW (pc := 100) (pc' := 104) X15 hx hby at_100 (by decide) (by decide) ?_
  show EndsW _ _ _ _ T15 (mkF m 104 #[ci p0, ci p1, ci p2, ci p3, ci 0, cr b3, cr w_NULL, cu, cu] [(.int 1)]) _ _ _
  refine wstW X15 hx hby at_104 (l' := #[ci p0, ci p1, ci p2, ci p3, ci 0, cr b3, cr w_NULL, ci 1, cu]) rfl ?_
  refine walW X15 hx hby at_106 rfl rfl ?_
  obtain ⟨cq19, kq19, q19a, q19b, q19c⟩ := isOf hZ e15 (A3.keep K15c)
  obtain ⟨_, _, ⟨T19, L19, k19, n19⟩, -, X19, ⟨Lc19, hQ19, l19, y19, z19⟩, st19⟩ := X15.virtualBack hx (y := ym5) (z := ym5) hown (mvT hZ (ow hw 37 rfl)) (mvT hZ (ow hw 38 rfl)) (notFace_of_selects (args := #[]) (mvT hZ (ow hw 40 rfl))) (mvT hZ (ow hw 40 rfl)) (mvT hZ (ow hw 39 rfl)) (by decide) (own_backOf (W := 0) (rx5_16 l Z a0 hw [] n0 h15 O15 G1 G3 w_NULL w_NUMBER w_NULL2 w_STRING GF b3 Y15_0) hZ (ow hw 41 rfl) (ow hw 6 rfl) (by decide) (by decide)) q19a q19c (g := (mkF m 108 #[ci p0, ci p1, ci p2, ci p3, ci 0, cr b3, cr w_NULL, ci 1, cu] [(.ref b3)])) rfl (by rw [hml]; rfl) (Steps.refl _) (argsL := []) (rest := []) (lenOf pdx_3 rfl) rfl (by show 2 * 0 + _ ≤ _; exact Nat.le_of_eq rfl) (hb hby at_108) (fun _ _ => ⟨rfl, e15, (by decide : 3 + 0 ≤ _), (by decide : 22 + 0 ≤ _)⟩)
  dsimp only [Pt.U, Pt.locs, Pt.cells, Pt.slots] at X19 l19 y19 z19 st19 hQ19
  subst l19 y19 z19
  obtain ⟨rfl, N19q, K19c⟩ := hQ19
  have N19 := Fr.app N15 N19q
  refine EndsW.go (fun _ k => st19.trans k) ?_
  obtain ⟨h19, e19⟩ : ∃ z, T19.heap = z := ⟨_, rfl⟩
  rw [e19] at K19c
  have K19 := K15.trans K19c all0
  have O19 := O15.keep K19c all0
  refine wstW X19 hx hby at_111 (l' := #[ci p0, ci p1, ci p2, ci p3, ci 0, cr b3, cr w_NULL, ci 1, ci 1]) rfl ?_
  show EndsW _ _ _ _ T19 (mkF m 113 #[ci p0, ci p1, ci p2, ci p3, ci 0, cr b3, cr w_NULL, ci 1, ci 1] []) _ _ _
  refine wilW X19 hx hby at_113 rfl ?_
  refine wilW X19 hx hby at_115 rfl ?_
  refine wcnW X19 hx hby at_117 (teq (by decide : (1 : Int32) = (1 : Int32))).2 ?_
  refine wilW X19 hx hby at_120 rfl ?_
  show EndsW _ _ _ _ T19 (mkF m 122 #[ci p0, ci p1, ci p2, ci p3, ci 0, cr b3, cr w_NULL, ci 1, ci 1] [(.int 1)]) _ _ _
  refine walW X19 hx hby at_122 rfl rfl ?_
  obtain ⟨cq22, kq22, q22a, q22b, q22c⟩ := isOf hZ e19 ((A3.keep K15c).keep K19c)
  obtain ⟨_, _, ⟨T22, L22, k22, n22⟩, -, X22, ⟨Lc22, hQ22, l22, y22, z22⟩, st22⟩ := X19.virtualBack hx (y := ym6) (z := ym6) hown (mvT hZ (ow hw 42 rfl)) (mvT hZ (ow hw 43 rfl)) (notFace_of_selects (args := #[]) (mvT hZ (ow hw 45 rfl))) (mvT hZ (ow hw 45 rfl)) (mvT hZ (ow hw 44 rfl)) (by decide) (own_backOf (W := 1) (rx6_20 l Z a0 hw [] n0 h19 O19  b3 (Y15_1.keep K19c nin0)) hZ (ow hw 46 rfl) (ow hw 6 rfl) (by decide) (by decide)) q22a q22c (g := (mkF m 124 #[ci p0, ci p1, ci p2, ci p3, ci 0, cr b3, cr w_NULL, ci 1, ci 1] [(.ref b3), (.int 1)])) rfl (by rw [hml]; rfl) (Steps.refl _) (argsL := []) (rest := [(.int 1)]) (lenOf pdx_4 rfl) rfl (by show 2 * 0 + _ ≤ _; exact Nat.le_of_eq rfl) (hb hby at_124) (fun _ _ => ⟨rfl, e19, (by decide : 3 + 0 ≤ _), (by decide : 22 + 0 ≤ _)⟩)
  dsimp only [Pt.U, Pt.locs, Pt.cells, Pt.slots] at X22 l22 y22 z22 st22 hQ22
  subst l22 y22 z22
  obtain ⟨rfl, N22q, K22c⟩ := hQ22
  have N22 := Fr.app N19 N22q
  refine EndsW.go (fun _ k => st22.trans k) ?_
  obtain ⟨h22, e22⟩ : ∃ z, T22.heap = z := ⟨_, rfl⟩
  rw [e22] at K22c
  have K22 := K19.trans K22c all0
  have O22 := O19.keep K22c all0
  refine .go (fun _ => XS.ifnonnullNo X22.here hx rfl (hb hby at_127) rfl) ?_
  refine wicW X22 hx hby at_130 ?_
  show EndsW _ _ _ _ T22 (mkF m 131 #[ci p0, ci p1, ci p2, ci p3, ci 0, cr b3, cr w_NULL, ci 1, ci 1] [(.int 1), (.int 1)]) _ _ _
  refine wgoW (pc := 131) (pc' := 135) X22 hx hby at_131 (by decide) (by decide) ?_
  refine wcnW X22 hx hby at_135 (teq (by decide : (1 : Int32) = (1 : Int32))).2 ?_
  refine walW X22 hx hby at_138 rfl rfl ?_
  obtain ⟨cq25, kq25, q25a, q25b, q25c⟩ := isOf hZ e22 (((A3.keep K15c).keep K19c).keep K22c)
  obtain ⟨_, _, ⟨T25, L25, k25, n25⟩, -, X25, ⟨Lc25, hQ25, l25, y25, z25⟩, st25⟩ := X22.virtualBack hx (y := ym7) (z := ym7) hown (mvT hZ (ow hw 47 rfl)) (mvT hZ (ow hw 48 rfl)) (notFace_of_selects (args := #[]) (mvT hZ (ow hw 50 rfl))) (mvT hZ (ow hw 50 rfl)) (mvT hZ (ow hw 49 rfl)) (by decide) (own_backOf (W := 0) (rx7_23 l Z a0 hw [] n0 h22 O22 G1 G3 w_NULL w_NUMBER w_NULL2 w_STRING GF b3 ((Y15_0.keep K19c nin0).keep K22c nin0)) hZ (ow hw 51 rfl) (ow hw 6 rfl) (by decide) (by decide)) q25a q25c (g := (mkF m 140 #[ci p0, ci p1, ci p2, ci p3, ci 0, cr b3, cr w_NULL, ci 1, ci 1] [(.ref b3)])) rfl (by rw [hml]; rfl) (Steps.refl _) (argsL := []) (rest := []) (lenOf pdx_5 rfl) rfl (by show 2 * 0 + _ ≤ _; exact Nat.le_of_eq rfl) (hb hby at_140) (fun _ _ => ⟨rfl, e22, (by decide : 3 + 0 ≤ _), (by decide : 22 + 0 ≤ _)⟩)
  dsimp only [Pt.U, Pt.locs, Pt.cells, Pt.slots] at X25 l25 y25 z25 st25 hQ25
  subst l25 y25 z25
  obtain ⟨rfl, N25q, K25c⟩ := hQ25
  have N25 := Fr.app N22 N25q
  refine EndsW.go (fun _ k => st25.trans k) ?_
  obtain ⟨h25, e25⟩ : ∃ z, T25.heap = z := ⟨_, rfl⟩
  rw [e25] at K25c
  have K25 := K22.trans K25c all0
  have O25 := O22.keep K25c all0
  show EndsW _ _ _ _ T25 (mkF m 143 #[ci p0, ci p1, ci p2, ci p3, ci 0, cr b3, cr w_NULL, ci 1, ci 1] [(.ref w_NULL)]) _ _ _
  refine walW X25 hx hby at_143 rfl rfl ?_
  refine .go (fun _ => Jvm.RoadKit.acmp (g := (mkF m 145 #[ci p0, ci p1, ci p2, ci p3, ci 0, cr b3, cr w_NULL, ci 1, ci 1] [(.ref w_NULL), (.ref w_NULL)])) X25 hx rfl rfl rfl (pc0 := 145) (pc' := 148) (same := true) rfl (hb hby at_145) rfl (decide_eq_true rfl) (by decide) (by decide)) ?_
  obtain ⟨T26, X26, e26, st26⟩ := getS2 X25 hx hZ hown (host := "") (Or.inl (ow hw 52 rfl)) Via.refl e25 (S_NULL2.ext O25.2) (g := (mkF m 148 #[ci p0, ci p1, ci p2, ci p3, ci 0, cr b3, cr w_NULL, ci 1, ci 1] [])) rfl (hb hby at_148)
  refine EndsW.go st26 ?_
  obtain ⟨cq30, kq30, q30a, q30b, q30c⟩ := isOf hZ e26 (E_NULL2.ext O25.2)
  obtain ⟨_, _, ⟨T30, L30, k30, n30⟩, -, X30, ⟨Lc30, hQ30, l30, y30, z30⟩, st30⟩ := X26.virtualBack hx (y := ym5) (z := ym5) hown (mvT hZ (ow hw 37 rfl)) (mvT hZ (ow hw 38 rfl)) (notFace_of_selects (args := #[]) (mvT hZ (ow hw 40 rfl))) (mvT hZ (ow hw 40 rfl)) (mvT hZ (ow hw 39 rfl)) (by decide) (own_backOf (W := 0) (rx5_27 l Z a0 hw [] n0 h25 O25 G1 G3 w_NULL w_NUMBER w_NULL2 w_STRING GF  ) hZ (ow hw 41 rfl) (ow hw 6 rfl) (by decide) (by decide)) q30a q30c (g := (mkF m 151 #[ci p0, ci p1, ci p2, ci p3, ci 0, cr b3, cr w_NULL, ci 1, ci 1] [(.ref w_NULL2)])) rfl (by rw [hml]; rfl) (Steps.refl _) (argsL := []) (rest := []) (lenOf pdx_3 rfl) rfl (by show 2 * 0 + _ ≤ _; exact Nat.le_of_eq rfl) (hb hby at_151) (fun _ _ => ⟨rfl, e26, (by decide : 3 + 0 ≤ _), (by decide : 22 + 0 ≤ _)⟩)
  dsimp only [Pt.U, Pt.locs, Pt.cells, Pt.slots] at X30 l30 y30 z30 st30 hQ30
  subst l30 y30 z30
  obtain ⟨rfl, N30q, K30c⟩ := hQ30
  have N30 := Fr.app N25 N30q
  refine EndsW.go (fun _ k => st30.trans k) ?_
  obtain ⟨h30, e30⟩ : ∃ z, T30.heap = z := ⟨_, rfl⟩
  rw [e30] at K30c
  have K30 := K25.trans K30c all0
  have O30 := O25.keep K30c all0
  show EndsW _ _ _ _ T30 (mkF m 154 #[ci p0, ci p1, ci p2, ci p3, ci 0, cr b3, cr w_NULL, ci 1, ci 1] [(.int 1)]) _ _ _
  refine winW X30 hx hby at_154 ((if0 _ _).trans (feq (by decide : ¬ ((1 : Int32) = (0 : Int32)))).1) ?_
  refine wicW X30 hx hby at_157 ?_
  refine wgoW (pc := 158) (pc' := 162) X30 hx hby at_158 (by decide) (by decide) ?_
  refine EndsW.retZ (s := s) (vm := T15.vm) X30 hx hS15 (Nat.le_trans (Nat.le_trans (Nat.le_trans (Nat.le_trans (Nat.le_trans (Nat.le_of_eq (congrArg Array.size e15)) K19c.1) K22c.1) K25c.1) K30c.1) (Nat.le_of_eq (congrArg Array.size e30.symm))) Bd.notSynchronized (t := .boolean) Bd.returns (by simp) (hb hby at_162) (by decide) (by decide) ?_
  exact ⟨rfl, N30⟩
 ·show EndsW _ _ _ _ s₁ (mkF m 6 #[ci p0, ci p1, ci p2, ci p3, cu, cu, cu, cu, cu] [(.int 1)]) _ _ _
  refine wstW X0 hx hby at_6 (l' := #[ci p0, ci p1, ci p2, ci p3, ci 1, cu, cu, cu, cu]) rfl ?_
  refine wilW X0 hx hby at_8 rfl ?_
  refine wiyW (pc := 10) (pc' := 33) X0 hx hby at_10 ((if0 _ _).trans (feq (by decide : ¬ ((1 : Int32) = (0 : Int32)))).2) (by decide) (by decide) ?_
  refine wilW X0 hx hby at_33 rfl ?_
  show EndsW _ _ _ _ s₁ (mkF m 35 #[ci p0, ci p1, ci p2, ci p3, ci 1, cu, cu, cu, cu] [(.int 1)]) _ _ _
  refine wicW X0 hx hby at_35 ?_
  refine wcnW X0 hx hby at_36 (teq (by decide : (1 : Int32) = (1 : Int32))).2 ?_
  obtain ⟨T31, X31, e31, st31⟩ := getS2 X0 hx hZ hown (host := "") (Or.inl (ow hw 54 rfl)) Via.refl e0 (S_NUMBER.ext O0.2) (g := (mkF m 39 #[ci p0, ci p1, ci p2, ci p3, ci 1, cu, cu, cu, cu] [])) rfl (hb hby at_39)
  refine EndsW.go st31 ?_
  refine wasW X31 hx hby at_42 (l' := #[ci p0, ci p1, ci p2, ci p3, ci 1, cu, cr w_NUMBER, cu, cu]) rfl rfl ?_
  show EndsW _ _ _ _ T31 (mkF m 44 #[ci p0, ci p1, ci p2, ci p3, ci 1, cu, cr w_NUMBER, cu, cu] []) _ _ _
  obtain ⟨T32, h32, X32, e32, E32, A32, D32, -, st32⟩ := newO X31 hx hZ hown (ow hw 4 rfl) (ow hw 5 rfl) (ow hw 6 rfl) e31 (g := (mkF m 44 #[ci p0, ci p1, ci p2, ci p3, ci 1, cu, cr w_NUMBER, cu, cu] [])) rfl (hb hby at_44) (by decide) (by decide)
  obtain ⟨b32, g32⟩ : ∃ z, z = h0.size := ⟨_, rfl⟩
  rw [← g32] at A32 D32 st32
  refine EndsW.go st32 ?_
  have g_b32 : n0 ≤ b32 := Nat.le_trans (own_old_le O0) (Nat.le_of_eq g32.symm)
  have sz_b32 : h0.size ≤ b32 := Nat.le_trans K0.1 (Nat.le_of_eq g32.symm)
  have K32 := K0.ext E32
  have O32 := O0.ext E32
  have F_kind_b32 : Fld Z h32 b32 "com/example/wakeline/wakeline/event/Value" "kind" "Lcom/example/wakeline/wakeline/event/Value$Kind;" .null := D32 (Or.inr (ow hw 34 rfl)) (ty := (.object "com/example/wakeline/wakeline/event/Value$Kind")) (by decide)
  have F_text_b32 : Fld Z h32 b32 "com/example/wakeline/wakeline/event/Value" "text" "Ljava/lang/String;" .null := D32 (Or.inr (ow hw 36 rfl)) (ty := (.object "java/lang/String")) (by decide)
  refine wduW X32 hx hby at_47 rfl ?_
  refine walW X32 hx hby at_48 rfl rfl ?_
  refine wilNW X32 hx hby at_50 rfl ?_
  show EndsW _ _ _ _ T32 (mkF m 51 #[ci p0, ci p1, ci p2, ci p3, ci 1, cu, cr w_NUMBER, cu, cu] [(.int p1), (.ref w_NUMBER), (.ref b32), (.ref b32)]) _ _ _
  refine wilNW X32 hx hby at_51 rfl ?_
  have hDG : own_dig (((48 : Int32) + ((p1 &&& (2147483647 : Int32)) % (10 : Int32))).toUInt32.toUInt16.toUInt32.toInt32) := own_digp p1
  by_cases hbit_ : (p2 &&& (1 : Int32)) = (0 : Int32)
  ·by_cases hd48_ : (((48 : Int32) + ((p1 &&& (2147483647 : Int32)) % (10 : Int32))).toUInt32.toUInt16.toUInt32.toInt32) = (48 : Int32)
   ·show EndsW _ _ _ _ T32 (mkF m 52 #[ci p0, ci p1, ci p2, ci p3, ci 1, cu, cr w_NUMBER, cu, cu] [(.int p2), (.int p1), (.ref w_NUMBER), (.ref b32), (.ref b32)]) _ _ _
    obtain ⟨_, _, ⟨T54, L54, k54, n54⟩, -, X54, ⟨Lc54, hQ54, l54, y54, z54⟩, st54⟩ := Jvm.LawKit.callS X32 hx (y := ym12) hown (mvT hZ (ow hw 55 rfl)) (mvT hZ (ow hw 56 rfl)) (mvT hZ (ow hw 57 rfl)) (mvT hZ (ow hw 58 rfl)) (by decide) (own_backOf (W := 3) (rx8_33 l Z a0 hw [] n0 h32 O32 G1 G3 w_NULL w_NUMBER w_NULL2 w_STRING GF p1 p2 hbit_ hDG) hZ (ow hw 58 rfl) (ow hw 57 rfl) (by decide) (by decide)) (g := (mkF m 52 #[ci p0, ci p1, ci p2, ci p3, ci 1, cu, cr w_NUMBER, cu, cu] [(.int p2), (.int p1), (.ref w_NUMBER), (.ref b32), (.ref b32)])) rfl (by rw [hml]; rfl) (argsL := [(.int p1), (.int p2)]) (rest := [(.ref w_NUMBER), (.ref b32), (.ref b32)]) (lenOf pdx_10 rfl) rfl (by show 2 * 0 + _ ≤ _; exact Nat.le_of_eq rfl) (hb hby at_52) (fun _ _ => ⟨rfl, e32, (by decide : 1 + 2 ≤ _), (by decide : 2 + 5 ≤ _)⟩)
    dsimp only [Pt.U, Pt.locs, Pt.cells, Pt.slots] at X54 l54 y54 z54 st54 hQ54
    subst l54 y54 z54
    obtain ⟨b55, b56, k57, rfl, N54q, K54c, hb54_b55, hb54_b56, hne54_b55_b56, Y54_0, Y54_1, Y54_2, Y54_3⟩ := hQ54
    have N54 := Fr.app N0 N54q
    refine EndsW.go st54 ?_
    have g_b55 : n0 ≤ b55 := Nat.le_trans (own_old_le O32) hb54_b55
    have sz_b55 : h0.size ≤ b55 := Nat.le_trans K32.1 hb54_b55
    have g_b56 : n0 ≤ b56 := Nat.le_trans (own_old_le O32) hb54_b56
    have sz_b56 : h0.size ≤ b56 := Nat.le_trans K32.1 hb54_b56
    obtain ⟨h54, e54⟩ : ∃ z, T54.heap = z := ⟨_, rfl⟩
    rw [e54] at K54c Y54_0 Y54_1 Y54_2 Y54_3
    have K54 := K32.trans K54c all0
    have O54 := O32.keep K54c all0
    obtain ⟨_, _, ⟨T96, L96, k96, n96⟩, -, X96, hSq96, hgq96, ⟨Lc96, hQ96, l96, y96, z96⟩, st96⟩ := X54.specialBackS hx (y := ym4) rfl hown (mvT hZ (ow hw 7 rfl)) (mvT hZ (ow hw 8 rfl)) (mvT hZ (ow hw 9 rfl)) (by decide) (own_backOfS (W := 1) (rx1_58 l Z a0 hw [] n0 h54 O54 G1 G3 w_NULL w_NUMBER w_NULL2 w_STRING GF b32 b55 b56 k57 p1 Y54_2 Y54_1 Y54_3 Y54_0 (A32.keep K54c) (F_kind_b32.keep K54c nin0) (F_text_b32.keep K54c nin0) g_b32 hDG hd48_) hZ (ow hw 9 rfl) (ow hw 6 rfl) (by decide) (by decide) (fun q_ => by cases q_)) (g := (mkF m 55 #[ci p0, ci p1, ci p2, ci p3, ci 1, cu, cr w_NUMBER, cu, cu] [(.ref b55), (.ref w_NUMBER), (.ref b32), (.ref b32)])) rfl (by rw [hml]; rfl) (Steps.refl _) (a := b32) (argsL := [(.ref w_NUMBER), (.ref b55)]) (rest := [(.ref b32)]) (lenOf pdx_2 rfl) rfl (by show 2 * 0 + _ ≤ _; exact Nat.le_of_eq rfl) (hb hby at_55) (fun _ _ => ⟨rfl, e54, (by decide : 3 + 2 ≤ _), (by decide : 7 + 20 ≤ _)⟩)
    dsimp only [Pt.U, Pt.locs, Pt.cells, Pt.slots] at X96 l96 y96 z96 st96 hQ96 hSq96 hgq96
    subst l96 y96 z96
    have hS96 := foldS hS0 (Nat.le_trans (Nat.le_trans (Nat.le_trans hk0 E32.1) K54c.1) (Nat.le_of_eq (congrArg Array.size e54.symm))) hSq96 hgq96
    have hZ : Z.Warmed39 T96.vm := State.Warmed39.trans (t := s.setVm s.vm) hZ hSq96.1
    have hown : T96.vm.findClass "com/example/wakeline/wakeline/event/ValueIsNullPinLaw" = some m.cls := by rw [hSq96.1.alike.findClass]; exact hown
    obtain ⟨rfl, N96q, K96c, Y96_0, Y96_1⟩ := hQ96
    have N96 := Fr.app N54 N96q
    refine EndsW.go (fun _ k => st96.trans k) ?_
    obtain ⟨h96, e96⟩ : ∃ z, T96.heap = z := ⟨_, rfl⟩
    rw [e96] at K96c Y96_0 Y96_1
    have K96 := K54.trans K96c (allS (Or.inr sz_b32) all0)
    have O96 := O54.keep K96c (allS g_b32 all0)
    show EndsW _ _ _ _ T96 (mkF m 58 #[ci p0, ci p1, ci p2, ci p3, ci 1, cu, cr w_NUMBER, cu, cu] [(.ref b32)]) _ _ _
    refine wasW X96 hx hby at_58 (l' := #[ci p0, ci p1, ci p2, ci p3, ci 1, cr b32, cr w_NUMBER, cu, cu]) rfl rfl ?_
    refine wgoW (pc := 60) (pc' := 94) X96 hx hby at_60 (by decide) (by decide) ?_
    refine wilW X96 hx hby at_94 rfl ?_
    refine wiyW (pc := 96) (pc' := 103) X96 hx hby at_96 ((if0 _ _).trans (feq (by decide : ¬ ((1 : Int32) = (0 : Int32)))).2) (by decide) (by decide) ?_
    show EndsW _ _ _ _ T96 (mkF m 103 #[ci p0, ci p1, ci p2, ci p3, ci 1, cr b32, cr w_NUMBER, cu, cu] []) _ _ _
    refine wicW X96 hx hby at_103 ?_
    refine wstW X96 hx hby at_104 (l' := #[ci p0, ci p1, ci p2, ci p3, ci 1, cr b32, cr w_NUMBER, ci 0, cu]) rfl ?_
    refine walW X96 hx hby at_106 rfl rfl ?_
    obtain ⟨cq100, kq100, q100a, q100b, q100c⟩ := isOf hZ e96 ((A32.keep K54c).keep K96c)
    obtain ⟨_, _, ⟨T100, L100, k100, n100⟩, -, X100, ⟨Lc100, hQ100, l100, y100, z100⟩, st100⟩ := X96.virtualBack hx (y := ym5) (z := ym5) hown (mvT hZ (ow hw 37 rfl)) (mvT hZ (ow hw 38 rfl)) (notFace_of_selects (args := #[]) (mvT hZ (ow hw 40 rfl))) (mvT hZ (ow hw 40 rfl)) (mvT hZ (ow hw 39 rfl)) (by decide) (own_backOf (W := 0) (rx5_97 l Z a0 hw [] n0 h96 O96 G1 G3 w_NULL w_NUMBER w_NULL2 w_STRING GF b32 Y96_0) hZ (ow hw 41 rfl) (ow hw 6 rfl) (by decide) (by decide)) q100a q100c (g := (mkF m 108 #[ci p0, ci p1, ci p2, ci p3, ci 1, cr b32, cr w_NUMBER, ci 0, cu] [(.ref b32)])) rfl (by rw [hml]; rfl) (Steps.refl _) (argsL := []) (rest := []) (lenOf pdx_3 rfl) rfl (by show 2 * 0 + _ ≤ _; exact Nat.le_of_eq rfl) (hb hby at_108) (fun _ _ => ⟨rfl, e96, (by decide : 5 + 0 ≤ _), (by decide : 27 + 0 ≤ _)⟩)
    dsimp only [Pt.U, Pt.locs, Pt.cells, Pt.slots] at X100 l100 y100 z100 st100 hQ100
    subst l100 y100 z100
    obtain ⟨rfl, N100q, K100c⟩ := hQ100
    have N100 := Fr.app N96 N100q
    refine EndsW.go (fun _ k => st100.trans k) ?_
    obtain ⟨h100, e100⟩ : ∃ z, T100.heap = z := ⟨_, rfl⟩
    rw [e100] at K100c
    have K100 := K96.trans K100c all0
    have O100 := O96.keep K100c all0
    show EndsW _ _ _ _ T100 (mkF m 111 #[ci p0, ci p1, ci p2, ci p3, ci 1, cr b32, cr w_NUMBER, ci 0, cu] [(.int 0)]) _ _ _
    refine wstW X100 hx hby at_111 (l' := #[ci p0, ci p1, ci p2, ci p3, ci 1, cr b32, cr w_NUMBER, ci 0, ci 0]) rfl ?_
    refine wilW X100 hx hby at_113 rfl ?_
    refine wilW X100 hx hby at_115 rfl ?_
    refine wcnW X100 hx hby at_117 (teq (by decide : (0 : Int32) = (0 : Int32))).2 ?_
    show EndsW _ _ _ _ T100 (mkF m 120 #[ci p0, ci p1, ci p2, ci p3, ci 1, cr b32, cr w_NUMBER, ci 0, ci 0] []) _ _ _
    refine wilW X100 hx hby at_120 rfl ?_
    refine walW X100 hx hby at_122 rfl rfl ?_
    obtain ⟨cq103, kq103, q103a, q103b, q103c⟩ := isOf hZ e100 (((A32.keep K54c).keep K96c).keep K100c)
    obtain ⟨_, _, ⟨T103, L103, k103, n103⟩, -, X103, ⟨Lc103, hQ103, l103, y103, z103⟩, st103⟩ := X100.virtualBack hx (y := ym6) (z := ym6) hown (mvT hZ (ow hw 42 rfl)) (mvT hZ (ow hw 43 rfl)) (notFace_of_selects (args := #[]) (mvT hZ (ow hw 45 rfl))) (mvT hZ (ow hw 45 rfl)) (mvT hZ (ow hw 44 rfl)) (by decide) (own_backOf (W := 1) (rx6_101 l Z a0 hw [] n0 h100 O100  b32 b55 (Y96_1.keep K100c nin0)) hZ (ow hw 46 rfl) (ow hw 6 rfl) (by decide) (by decide)) q103a q103c (g := (mkF m 124 #[ci p0, ci p1, ci p2, ci p3, ci 1, cr b32, cr w_NUMBER, ci 0, ci 0] [(.ref b32), (.int 0)])) rfl (by rw [hml]; rfl) (Steps.refl _) (argsL := []) (rest := [(.int 0)]) (lenOf pdx_4 rfl) rfl (by show 2 * 0 + _ ≤ _; exact Nat.le_of_eq rfl) (hb hby at_124) (fun _ _ => ⟨rfl, e100, (by decide : 5 + 0 ≤ _), (by decide : 27 + 0 ≤ _)⟩)
    dsimp only [Pt.U, Pt.locs, Pt.cells, Pt.slots] at X103 l103 y103 z103 st103 hQ103
    subst l103 y103 z103
    obtain ⟨rfl, N103q, K103c⟩ := hQ103
    have N103 := Fr.app N100 N103q
    refine EndsW.go (fun _ k => st103.trans k) ?_
    obtain ⟨h103, e103⟩ : ∃ z, T103.heap = z := ⟨_, rfl⟩
    rw [e103] at K103c
    have K103 := K100.trans K103c all0
    have O103 := O100.keep K103c all0
    refine .go (fun _ => XS.ifnonnullYes X103.here hx rfl (pc0 := 127) (pc' := 134) rfl (hb hby at_127) rfl (by decide) (by decide)) ?_
    show EndsW _ _ _ _ T103 (mkF m 134 #[ci p0, ci p1, ci p2, ci p3, ci 1, cr b32, cr w_NUMBER, ci 0, ci 0] [(.int 0)]) _ _ _
    refine wicW X103 hx hby at_134 ?_
    refine wcnW X103 hx hby at_135 (teq (by decide : (0 : Int32) = (0 : Int32))).2 ?_
    refine walW X103 hx hby at_138 rfl rfl ?_
    obtain ⟨cq106, kq106, q106a, q106b, q106c⟩ := isOf hZ e103 ((((A32.keep K54c).keep K96c).keep K100c).keep K103c)
    obtain ⟨_, _, ⟨T106, L106, k106, n106⟩, -, X106, ⟨Lc106, hQ106, l106, y106, z106⟩, st106⟩ := X103.virtualBack hx (y := ym7) (z := ym7) hown (mvT hZ (ow hw 47 rfl)) (mvT hZ (ow hw 48 rfl)) (notFace_of_selects (args := #[]) (mvT hZ (ow hw 50 rfl))) (mvT hZ (ow hw 50 rfl)) (mvT hZ (ow hw 49 rfl)) (by decide) (own_backOf (W := 0) (rx7_104 l Z a0 hw [] n0 h103 O103 G1 G3 w_NULL w_NUMBER w_NULL2 w_STRING GF b32 ((Y96_0.keep K100c nin0).keep K103c nin0)) hZ (ow hw 51 rfl) (ow hw 6 rfl) (by decide) (by decide)) q106a q106c (g := (mkF m 140 #[ci p0, ci p1, ci p2, ci p3, ci 1, cr b32, cr w_NUMBER, ci 0, ci 0] [(.ref b32)])) rfl (by rw [hml]; rfl) (Steps.refl _) (argsL := []) (rest := []) (lenOf pdx_5 rfl) rfl (by show 2 * 0 + _ ≤ _; exact Nat.le_of_eq rfl) (hb hby at_140) (fun _ _ => ⟨rfl, e103, (by decide : 5 + 0 ≤ _), (by decide : 27 + 0 ≤ _)⟩)
    dsimp only [Pt.U, Pt.locs, Pt.cells, Pt.slots] at X106 l106 y106 z106 st106 hQ106
    subst l106 y106 z106
    obtain ⟨rfl, N106q, K106c⟩ := hQ106
    have N106 := Fr.app N103 N106q
    refine EndsW.go (fun _ k => st106.trans k) ?_
    obtain ⟨h106, e106⟩ : ∃ z, T106.heap = z := ⟨_, rfl⟩
    rw [e106] at K106c
    have K106 := K103.trans K106c all0
    have O106 := O103.keep K106c all0
    show EndsW _ _ _ _ T106 (mkF m 143 #[ci p0, ci p1, ci p2, ci p3, ci 1, cr b32, cr w_NUMBER, ci 0, ci 0] [(.ref w_NUMBER)]) _ _ _
    refine walW X106 hx hby at_143 rfl rfl ?_
    refine .go (fun _ => Jvm.RoadKit.acmp (g := (mkF m 145 #[ci p0, ci p1, ci p2, ci p3, ci 1, cr b32, cr w_NUMBER, ci 0, ci 0] [(.ref w_NUMBER), (.ref w_NUMBER)])) X106 hx rfl rfl rfl (pc0 := 145) (pc' := 148) (same := true) rfl (hb hby at_145) rfl (decide_eq_true rfl) (by decide) (by decide)) ?_
    obtain ⟨T107, X107, e107, st107⟩ := getS2 X106 hx hZ hown (host := "") (Or.inl (ow hw 52 rfl)) Via.refl e106 (S_NULL2.ext O106.2) (g := (mkF m 148 #[ci p0, ci p1, ci p2, ci p3, ci 1, cr b32, cr w_NUMBER, ci 0, ci 0] [])) rfl (hb hby at_148)
    refine EndsW.go st107 ?_
    obtain ⟨cq108, kq108, q108a, q108b, q108c⟩ := isOf hZ e107 (E_NULL2.ext O106.2)
    obtain ⟨_, _, ⟨T108, L108, k108, n108⟩, -, X108, ⟨Lc108, hQ108, l108, y108, z108⟩, st108⟩ := X107.virtualBack hx (y := ym5) (z := ym5) hown (mvT hZ (ow hw 37 rfl)) (mvT hZ (ow hw 38 rfl)) (notFace_of_selects (args := #[]) (mvT hZ (ow hw 40 rfl))) (mvT hZ (ow hw 40 rfl)) (mvT hZ (ow hw 39 rfl)) (by decide) (own_backOf (W := 0) (rx5_27 l Z a0 hw [] n0 h106 O106 G1 G3 w_NULL w_NUMBER w_NULL2 w_STRING GF  ) hZ (ow hw 41 rfl) (ow hw 6 rfl) (by decide) (by decide)) q108a q108c (g := (mkF m 151 #[ci p0, ci p1, ci p2, ci p3, ci 1, cr b32, cr w_NUMBER, ci 0, ci 0] [(.ref w_NULL2)])) rfl (by rw [hml]; rfl) (Steps.refl _) (argsL := []) (rest := []) (lenOf pdx_3 rfl) rfl (by show 2 * 0 + _ ≤ _; exact Nat.le_of_eq rfl) (hb hby at_151) (fun _ _ => ⟨rfl, e107, (by decide : 5 + 0 ≤ _), (by decide : 27 + 0 ≤ _)⟩)
    dsimp only [Pt.U, Pt.locs, Pt.cells, Pt.slots] at X108 l108 y108 z108 st108 hQ108
    subst l108 y108 z108
    obtain ⟨rfl, N108q, K108c⟩ := hQ108
    have N108 := Fr.app N106 N108q
    refine EndsW.go (fun _ k => st108.trans k) ?_
    obtain ⟨h108, e108⟩ : ∃ z, T108.heap = z := ⟨_, rfl⟩
    rw [e108] at K108c
    have K108 := K106.trans K108c all0
    have O108 := O106.keep K108c all0
    show EndsW _ _ _ _ T108 (mkF m 154 #[ci p0, ci p1, ci p2, ci p3, ci 1, cr b32, cr w_NUMBER, ci 0, ci 0] [(.int 1)]) _ _ _
    refine winW X108 hx hby at_154 ((if0 _ _).trans (feq (by decide : ¬ ((1 : Int32) = (0 : Int32)))).1) ?_
    refine wicW X108 hx hby at_157 ?_
    refine wgoW (pc := 158) (pc' := 162) X108 hx hby at_158 (by decide) (by decide) ?_
    refine EndsW.retZ (s := s) (vm := T96.vm) X108 hx hS96 (Nat.le_trans (Nat.le_trans (Nat.le_trans (Nat.le_trans (Nat.le_trans (Nat.le_of_eq (congrArg Array.size e96)) K100c.1) K103c.1) K106c.1) K108c.1) (Nat.le_of_eq (congrArg Array.size e108.symm))) Bd.notSynchronized (t := .boolean) Bd.returns (by simp) (hb hby at_162) (by decide) (by decide) ?_
    exact ⟨rfl, N108⟩
   ·show EndsW _ _ _ _ T32 (mkF m 52 #[ci p0, ci p1, ci p2, ci p3, ci 1, cu, cr w_NUMBER, cu, cu] [(.int p2), (.int p1), (.ref w_NUMBER), (.ref b32), (.ref b32)]) _ _ _
    obtain ⟨_, _, ⟨T109, L109, k109, n109⟩, -, X109, ⟨Lc109, hQ109, l109, y109, z109⟩, st109⟩ := Jvm.LawKit.callS X32 hx (y := ym12) hown (mvT hZ (ow hw 55 rfl)) (mvT hZ (ow hw 56 rfl)) (mvT hZ (ow hw 57 rfl)) (mvT hZ (ow hw 58 rfl)) (by decide) (own_backOf (W := 3) (rx8_33 l Z a0 hw [] n0 h32 O32 G1 G3 w_NULL w_NUMBER w_NULL2 w_STRING GF p1 p2 hbit_ hDG) hZ (ow hw 58 rfl) (ow hw 57 rfl) (by decide) (by decide)) (g := (mkF m 52 #[ci p0, ci p1, ci p2, ci p3, ci 1, cu, cr w_NUMBER, cu, cu] [(.int p2), (.int p1), (.ref w_NUMBER), (.ref b32), (.ref b32)])) rfl (by rw [hml]; rfl) (argsL := [(.int p1), (.int p2)]) (rest := [(.ref w_NUMBER), (.ref b32), (.ref b32)]) (lenOf pdx_10 rfl) rfl (by show 2 * 0 + _ ≤ _; exact Nat.le_of_eq rfl) (hb hby at_52) (fun _ _ => ⟨rfl, e32, (by decide : 1 + 2 ≤ _), (by decide : 2 + 5 ≤ _)⟩)
    dsimp only [Pt.U, Pt.locs, Pt.cells, Pt.slots] at X109 l109 y109 z109 st109 hQ109
    subst l109 y109 z109
    obtain ⟨b110, b111, k112, rfl, N109q, K109c, hb109_b110, hb109_b111, hne109_b110_b111, Y109_0, Y109_1, Y109_2, Y109_3⟩ := hQ109
    have N109 := Fr.app N0 N109q
    refine EndsW.go st109 ?_
    have g_b110 : n0 ≤ b110 := Nat.le_trans (own_old_le O32) hb109_b110
    have sz_b110 : h0.size ≤ b110 := Nat.le_trans K32.1 hb109_b110
    have g_b111 : n0 ≤ b111 := Nat.le_trans (own_old_le O32) hb109_b111
    have sz_b111 : h0.size ≤ b111 := Nat.le_trans K32.1 hb109_b111
    obtain ⟨h109, e109⟩ : ∃ z, T109.heap = z := ⟨_, rfl⟩
    rw [e109] at K109c Y109_0 Y109_1 Y109_2 Y109_3
    have K109 := K32.trans K109c all0
    have O109 := O32.keep K109c all0
    obtain ⟨_, _, ⟨T138, L138, k138, n138⟩, -, X138, hSq138, hgq138, ⟨Lc138, hQ138, l138, y138, z138⟩, st138⟩ := X109.specialBackS hx (y := ym4) rfl hown (mvT hZ (ow hw 7 rfl)) (mvT hZ (ow hw 8 rfl)) (mvT hZ (ow hw 9 rfl)) (by decide) (own_backOfS (W := 1) (rx1_113 l Z a0 hw [] n0 h109 O109 G1 G3 w_NULL w_NUMBER w_NULL2 w_STRING GF b32 b110 b111 k112 p1 Y109_2 Y109_1 Y109_3 Y109_0 (A32.keep K109c) (F_kind_b32.keep K109c nin0) (F_text_b32.keep K109c nin0) g_b32 hDG hd48_) hZ (ow hw 9 rfl) (ow hw 6 rfl) (by decide) (by decide) (fun q_ => by cases q_)) (g := (mkF m 55 #[ci p0, ci p1, ci p2, ci p3, ci 1, cu, cr w_NUMBER, cu, cu] [(.ref b110), (.ref w_NUMBER), (.ref b32), (.ref b32)])) rfl (by rw [hml]; rfl) (Steps.refl _) (a := b32) (argsL := [(.ref w_NUMBER), (.ref b110)]) (rest := [(.ref b32)]) (lenOf pdx_2 rfl) rfl (by show 2 * 0 + _ ≤ _; exact Nat.le_of_eq rfl) (hb hby at_55) (fun _ _ => ⟨rfl, e109, (by decide : 3 + 2 ≤ _), (by decide : 7 + 20 ≤ _)⟩)
    dsimp only [Pt.U, Pt.locs, Pt.cells, Pt.slots] at X138 l138 y138 z138 st138 hQ138 hSq138 hgq138
    subst l138 y138 z138
    have hS138 := foldS hS0 (Nat.le_trans (Nat.le_trans (Nat.le_trans hk0 E32.1) K109c.1) (Nat.le_of_eq (congrArg Array.size e109.symm))) hSq138 hgq138
    have hZ : Z.Warmed39 T138.vm := State.Warmed39.trans (t := s.setVm s.vm) hZ hSq138.1
    have hown : T138.vm.findClass "com/example/wakeline/wakeline/event/ValueIsNullPinLaw" = some m.cls := by rw [hSq138.1.alike.findClass]; exact hown
    obtain ⟨rfl, N138q, K138c, Y138_0, Y138_1⟩ := hQ138
    have N138 := Fr.app N109 N138q
    refine EndsW.go (fun _ k => st138.trans k) ?_
    obtain ⟨h138, e138⟩ : ∃ z, T138.heap = z := ⟨_, rfl⟩
    rw [e138] at K138c Y138_0 Y138_1
    have K138 := K109.trans K138c (allS (Or.inr sz_b32) all0)
    have O138 := O109.keep K138c (allS g_b32 all0)
    refine wasW X138 hx hby at_58 (l' := #[ci p0, ci p1, ci p2, ci p3, ci 1, cr b32, cr w_NUMBER, cu, cu]) rfl rfl ?_
    refine wgoW (pc := 60) (pc' := 94) X138 hx hby at_60 (by decide) (by decide) ?_
    show EndsW _ _ _ _ T138 (mkF m 94 #[ci p0, ci p1, ci p2, ci p3, ci 1, cr b32, cr w_NUMBER, cu, cu] []) _ _ _
    refine wilW X138 hx hby at_94 rfl ?_
    refine wiyW (pc := 96) (pc' := 103) X138 hx hby at_96 ((if0 _ _).trans (feq (by decide : ¬ ((1 : Int32) = (0 : Int32)))).2) (by decide) (by decide) ?_
    refine wicW X138 hx hby at_103 ?_
    refine wstW X138 hx hby at_104 (l' := #[ci p0, ci p1, ci p2, ci p3, ci 1, cr b32, cr w_NUMBER, ci 0, cu]) rfl ?_
    show EndsW _ _ _ _ T138 (mkF m 106 #[ci p0, ci p1, ci p2, ci p3, ci 1, cr b32, cr w_NUMBER, ci 0, cu] []) _ _ _
    refine walW X138 hx hby at_106 rfl rfl ?_
    obtain ⟨cq139, kq139, q139a, q139b, q139c⟩ := isOf hZ e138 ((A32.keep K109c).keep K138c)
    obtain ⟨_, _, ⟨T139, L139, k139, n139⟩, -, X139, ⟨Lc139, hQ139, l139, y139, z139⟩, st139⟩ := X138.virtualBack hx (y := ym5) (z := ym5) hown (mvT hZ (ow hw 37 rfl)) (mvT hZ (ow hw 38 rfl)) (notFace_of_selects (args := #[]) (mvT hZ (ow hw 40 rfl))) (mvT hZ (ow hw 40 rfl)) (mvT hZ (ow hw 39 rfl)) (by decide) (own_backOf (W := 0) (rx5_97 l Z a0 hw [] n0 h138 O138 G1 G3 w_NULL w_NUMBER w_NULL2 w_STRING GF b32 Y138_0) hZ (ow hw 41 rfl) (ow hw 6 rfl) (by decide) (by decide)) q139a q139c (g := (mkF m 108 #[ci p0, ci p1, ci p2, ci p3, ci 1, cr b32, cr w_NUMBER, ci 0, cu] [(.ref b32)])) rfl (by rw [hml]; rfl) (Steps.refl _) (argsL := []) (rest := []) (lenOf pdx_3 rfl) rfl (by show 2 * 0 + _ ≤ _; exact Nat.le_of_eq rfl) (hb hby at_108) (fun _ _ => ⟨rfl, e138, (by decide : 5 + 0 ≤ _), (by decide : 27 + 0 ≤ _)⟩)
    dsimp only [Pt.U, Pt.locs, Pt.cells, Pt.slots] at X139 l139 y139 z139 st139 hQ139
    subst l139 y139 z139
    obtain ⟨rfl, N139q, K139c⟩ := hQ139
    have N139 := Fr.app N138 N139q
    refine EndsW.go (fun _ k => st139.trans k) ?_
    obtain ⟨h139, e139⟩ : ∃ z, T139.heap = z := ⟨_, rfl⟩
    rw [e139] at K139c
    have K139 := K138.trans K139c all0
    have O139 := O138.keep K139c all0
    refine wstW X139 hx hby at_111 (l' := #[ci p0, ci p1, ci p2, ci p3, ci 1, cr b32, cr w_NUMBER, ci 0, ci 0]) rfl ?_
    refine wilW X139 hx hby at_113 rfl ?_
    show EndsW _ _ _ _ T139 (mkF m 115 #[ci p0, ci p1, ci p2, ci p3, ci 1, cr b32, cr w_NUMBER, ci 0, ci 0] [(.int 0)]) _ _ _
    refine wilW X139 hx hby at_115 rfl ?_
    refine wcnW X139 hx hby at_117 (teq (by decide : (0 : Int32) = (0 : Int32))).2 ?_
    refine wilW X139 hx hby at_120 rfl ?_
    refine walW X139 hx hby at_122 rfl rfl ?_
    show EndsW _ _ _ _ T139 (mkF m 124 #[ci p0, ci p1, ci p2, ci p3, ci 1, cr b32, cr w_NUMBER, ci 0, ci 0] [(.ref b32), (.int 0)]) _ _ _
    obtain ⟨cq140, kq140, q140a, q140b, q140c⟩ := isOf hZ e139 (((A32.keep K109c).keep K138c).keep K139c)
    obtain ⟨_, _, ⟨T140, L140, k140, n140⟩, -, X140, ⟨Lc140, hQ140, l140, y140, z140⟩, st140⟩ := X139.virtualBack hx (y := ym6) (z := ym6) hown (mvT hZ (ow hw 42 rfl)) (mvT hZ (ow hw 43 rfl)) (notFace_of_selects (args := #[]) (mvT hZ (ow hw 45 rfl))) (mvT hZ (ow hw 45 rfl)) (mvT hZ (ow hw 44 rfl)) (by decide) (own_backOf (W := 1) (rx6_101 l Z a0 hw [] n0 h139 O139  b32 b110 (Y138_1.keep K139c nin0)) hZ (ow hw 46 rfl) (ow hw 6 rfl) (by decide) (by decide)) q140a q140c (g := (mkF m 124 #[ci p0, ci p1, ci p2, ci p3, ci 1, cr b32, cr w_NUMBER, ci 0, ci 0] [(.ref b32), (.int 0)])) rfl (by rw [hml]; rfl) (Steps.refl _) (argsL := []) (rest := [(.int 0)]) (lenOf pdx_4 rfl) rfl (by show 2 * 0 + _ ≤ _; exact Nat.le_of_eq rfl) (hb hby at_124) (fun _ _ => ⟨rfl, e139, (by decide : 5 + 0 ≤ _), (by decide : 27 + 0 ≤ _)⟩)
    dsimp only [Pt.U, Pt.locs, Pt.cells, Pt.slots] at X140 l140 y140 z140 st140 hQ140
    subst l140 y140 z140
    obtain ⟨rfl, N140q, K140c⟩ := hQ140
    have N140 := Fr.app N139 N140q
    refine EndsW.go (fun _ k => st140.trans k) ?_
    obtain ⟨h140, e140⟩ : ∃ z, T140.heap = z := ⟨_, rfl⟩
    rw [e140] at K140c
    have K140 := K139.trans K140c all0
    have O140 := O139.keep K140c all0
    refine .go (fun _ => XS.ifnonnullYes X140.here hx rfl (pc0 := 127) (pc' := 134) rfl (hb hby at_127) rfl (by decide) (by decide)) ?_
    refine wicW X140 hx hby at_134 ?_
    refine wcnW X140 hx hby at_135 (teq (by decide : (0 : Int32) = (0 : Int32))).2 ?_
    show EndsW _ _ _ _ T140 (mkF m 138 #[ci p0, ci p1, ci p2, ci p3, ci 1, cr b32, cr w_NUMBER, ci 0, ci 0] []) _ _ _
    refine walW X140 hx hby at_138 rfl rfl ?_
    obtain ⟨cq141, kq141, q141a, q141b, q141c⟩ := isOf hZ e140 ((((A32.keep K109c).keep K138c).keep K139c).keep K140c)
    obtain ⟨_, _, ⟨T141, L141, k141, n141⟩, -, X141, ⟨Lc141, hQ141, l141, y141, z141⟩, st141⟩ := X140.virtualBack hx (y := ym7) (z := ym7) hown (mvT hZ (ow hw 47 rfl)) (mvT hZ (ow hw 48 rfl)) (notFace_of_selects (args := #[]) (mvT hZ (ow hw 50 rfl))) (mvT hZ (ow hw 50 rfl)) (mvT hZ (ow hw 49 rfl)) (by decide) (own_backOf (W := 0) (rx7_104 l Z a0 hw [] n0 h140 O140 G1 G3 w_NULL w_NUMBER w_NULL2 w_STRING GF b32 ((Y138_0.keep K139c nin0).keep K140c nin0)) hZ (ow hw 51 rfl) (ow hw 6 rfl) (by decide) (by decide)) q141a q141c (g := (mkF m 140 #[ci p0, ci p1, ci p2, ci p3, ci 1, cr b32, cr w_NUMBER, ci 0, ci 0] [(.ref b32)])) rfl (by rw [hml]; rfl) (Steps.refl _) (argsL := []) (rest := []) (lenOf pdx_5 rfl) rfl (by show 2 * 0 + _ ≤ _; exact Nat.le_of_eq rfl) (hb hby at_140) (fun _ _ => ⟨rfl, e140, (by decide : 5 + 0 ≤ _), (by decide : 27 + 0 ≤ _)⟩)
    dsimp only [Pt.U, Pt.locs, Pt.cells, Pt.slots] at X141 l141 y141 z141 st141 hQ141
    subst l141 y141 z141
    obtain ⟨rfl, N141q, K141c⟩ := hQ141
    have N141 := Fr.app N140 N141q
    refine EndsW.go (fun _ k => st141.trans k) ?_
    obtain ⟨h141, e141⟩ : ∃ z, T141.heap = z := ⟨_, rfl⟩
    rw [e141] at K141c
    have K141 := K140.trans K141c all0
    have O141 := O140.keep K141c all0
    refine walW X141 hx hby at_143 rfl rfl ?_
    refine .go (fun _ => Jvm.RoadKit.acmp (g := (mkF m 145 #[ci p0, ci p1, ci p2, ci p3, ci 1, cr b32, cr w_NUMBER, ci 0, ci 0] [(.ref w_NUMBER), (.ref w_NUMBER)])) X141 hx rfl rfl rfl (pc0 := 145) (pc' := 148) (same := true) rfl (hb hby at_145) rfl (decide_eq_true rfl) (by decide) (by decide)) ?_
    show EndsW _ _ _ _ T141 (mkF m 148 #[ci p0, ci p1, ci p2, ci p3, ci 1, cr b32, cr w_NUMBER, ci 0, ci 0] []) _ _ _
    obtain ⟨T142, X142, e142, st142⟩ := getS2 X141 hx hZ hown (host := "") (Or.inl (ow hw 52 rfl)) Via.refl e141 (S_NULL2.ext O141.2) (g := (mkF m 148 #[ci p0, ci p1, ci p2, ci p3, ci 1, cr b32, cr w_NUMBER, ci 0, ci 0] [])) rfl (hb hby at_148)
    refine EndsW.go st142 ?_
    obtain ⟨cq143, kq143, q143a, q143b, q143c⟩ := isOf hZ e142 (E_NULL2.ext O141.2)
    obtain ⟨_, _, ⟨T143, L143, k143, n143⟩, -, X143, ⟨Lc143, hQ143, l143, y143, z143⟩, st143⟩ := X142.virtualBack hx (y := ym5) (z := ym5) hown (mvT hZ (ow hw 37 rfl)) (mvT hZ (ow hw 38 rfl)) (notFace_of_selects (args := #[]) (mvT hZ (ow hw 40 rfl))) (mvT hZ (ow hw 40 rfl)) (mvT hZ (ow hw 39 rfl)) (by decide) (own_backOf (W := 0) (rx5_27 l Z a0 hw [] n0 h141 O141 G1 G3 w_NULL w_NUMBER w_NULL2 w_STRING GF  ) hZ (ow hw 41 rfl) (ow hw 6 rfl) (by decide) (by decide)) q143a q143c (g := (mkF m 151 #[ci p0, ci p1, ci p2, ci p3, ci 1, cr b32, cr w_NUMBER, ci 0, ci 0] [(.ref w_NULL2)])) rfl (by rw [hml]; rfl) (Steps.refl _) (argsL := []) (rest := []) (lenOf pdx_3 rfl) rfl (by show 2 * 0 + _ ≤ _; exact Nat.le_of_eq rfl) (hb hby at_151) (fun _ _ => ⟨rfl, e142, (by decide : 5 + 0 ≤ _), (by decide : 27 + 0 ≤ _)⟩)
    dsimp only [Pt.U, Pt.locs, Pt.cells, Pt.slots] at X143 l143 y143 z143 st143 hQ143
    subst l143 y143 z143
    obtain ⟨rfl, N143q, K143c⟩ := hQ143
    have N143 := Fr.app N141 N143q
    refine EndsW.go (fun _ k => st143.trans k) ?_
    obtain ⟨h143, e143⟩ : ∃ z, T143.heap = z := ⟨_, rfl⟩
    rw [e143] at K143c
    have K143 := K141.trans K143c all0
    have O143 := O141.keep K143c all0
    refine winW X143 hx hby at_154 ((if0 _ _).trans (feq (by decide : ¬ ((1 : Int32) = (0 : Int32)))).1) ?_
    refine wicW X143 hx hby at_157 ?_
    show EndsW _ _ _ _ T143 (mkF m 158 #[ci p0, ci p1, ci p2, ci p3, ci 1, cr b32, cr w_NUMBER, ci 0, ci 0] [(.int 1)]) _ _ _
    refine wgoW (pc := 158) (pc' := 162) X143 hx hby at_158 (by decide) (by decide) ?_
    refine EndsW.retZ (s := s) (vm := T138.vm) X143 hx hS138 (Nat.le_trans (Nat.le_trans (Nat.le_trans (Nat.le_trans (Nat.le_trans (Nat.le_of_eq (congrArg Array.size e138)) K139c.1) K140c.1) K141c.1) K143c.1) (Nat.le_of_eq (congrArg Array.size e143.symm))) Bd.notSynchronized (t := .boolean) Bd.returns (by simp) (hb hby at_162) (by decide) (by decide) ?_
    exact ⟨rfl, N143⟩
  ·by_cases hd48_ : (((48 : Int32) + ((p1 &&& (2147483647 : Int32)) % (10 : Int32))).toUInt32.toUInt16.toUInt32.toInt32) = (48 : Int32)
   ·show EndsW _ _ _ _ T32 (mkF m 52 #[ci p0, ci p1, ci p2, ci p3, ci 1, cu, cr w_NUMBER, cu, cu] [(.int p2), (.int p1), (.ref w_NUMBER), (.ref b32), (.ref b32)]) _ _ _
    obtain ⟨_, _, ⟨T176, L176, k176, n176⟩, -, X176, ⟨Lc176, hQ176, l176, y176, z176⟩, st176⟩ := Jvm.LawKit.callS X32 hx (y := ym12) hown (mvT hZ (ow hw 55 rfl)) (mvT hZ (ow hw 56 rfl)) (mvT hZ (ow hw 57 rfl)) (mvT hZ (ow hw 58 rfl)) (by decide) (own_backOf (W := 3) (rx8_144 l Z a0 hw [] n0 h32 O32 G1 G3 w_NULL w_NUMBER w_NULL2 w_STRING GF p1 p2 hbit_ hDG) hZ (ow hw 58 rfl) (ow hw 57 rfl) (by decide) (by decide)) (g := (mkF m 52 #[ci p0, ci p1, ci p2, ci p3, ci 1, cu, cr w_NUMBER, cu, cu] [(.int p2), (.int p1), (.ref w_NUMBER), (.ref b32), (.ref b32)])) rfl (by rw [hml]; rfl) (argsL := [(.int p1), (.int p2)]) (rest := [(.ref w_NUMBER), (.ref b32), (.ref b32)]) (lenOf pdx_10 rfl) rfl (by show 2 * 0 + _ ≤ _; exact Nat.le_of_eq rfl) (hb hby at_52) (fun _ _ => ⟨rfl, e32, (by decide : 1 + 3 ≤ _), (by decide : 2 + 8 ≤ _)⟩)
    dsimp only [Pt.U, Pt.locs, Pt.cells, Pt.slots] at X176 l176 y176 z176 st176 hQ176
    subst l176 y176 z176
    obtain ⟨b177, b178, b179, k180, k181, rfl, N176q, K176c, hb176_b177, hb176_b178, hb176_b179, hne176_b177_b178, hne176_b177_b179, hne176_b178_b179, Y176_0, Y176_1, Y176_2, Y176_3, Y176_4⟩ := hQ176
    have N176 := Fr.app N0 N176q
    refine EndsW.go st176 ?_
    have g_b177 : n0 ≤ b177 := Nat.le_trans (own_old_le O32) hb176_b177
    have sz_b177 : h0.size ≤ b177 := Nat.le_trans K32.1 hb176_b177
    have g_b178 : n0 ≤ b178 := Nat.le_trans (own_old_le O32) hb176_b178
    have sz_b178 : h0.size ≤ b178 := Nat.le_trans K32.1 hb176_b178
    have g_b179 : n0 ≤ b179 := Nat.le_trans (own_old_le O32) hb176_b179
    have sz_b179 : h0.size ≤ b179 := Nat.le_trans K32.1 hb176_b179
    obtain ⟨h176, e176⟩ : ∃ z, T176.heap = z := ⟨_, rfl⟩
    rw [e176] at K176c Y176_0 Y176_1 Y176_2 Y176_3 Y176_4
    have K176 := K32.trans K176c all0
    have O176 := O32.keep K176c all0
    obtain ⟨_, _, ⟨T221, L221, k221, n221⟩, -, X221, hSq221, hgq221, ⟨Lc221, hQ221, l221, y221, z221⟩, st221⟩ := X176.specialBackS hx (y := ym4) rfl hown (mvT hZ (ow hw 7 rfl)) (mvT hZ (ow hw 8 rfl)) (mvT hZ (ow hw 9 rfl)) (by decide) (own_backOfS (W := 1) (rx1_182 l Z a0 hw [] n0 h176 O176 G1 G3 w_NULL w_NUMBER w_NULL2 w_STRING GF b32 b177 b179 k181 p1 Y176_4 Y176_2 Y176_3 Y176_0 (A32.keep K176c) (F_kind_b32.keep K176c nin0) (F_text_b32.keep K176c nin0) g_b32 hDG hd48_) hZ (ow hw 9 rfl) (ow hw 6 rfl) (by decide) (by decide) (fun q_ => by cases q_)) (g := (mkF m 55 #[ci p0, ci p1, ci p2, ci p3, ci 1, cu, cr w_NUMBER, cu, cu] [(.ref b177), (.ref w_NUMBER), (.ref b32), (.ref b32)])) rfl (by rw [hml]; rfl) (Steps.refl _) (a := b32) (argsL := [(.ref w_NUMBER), (.ref b177)]) (rest := [(.ref b32)]) (lenOf pdx_2 rfl) rfl (by show 2 * 0 + _ ≤ _; exact Nat.le_of_eq rfl) (hb hby at_55) (fun _ _ => ⟨rfl, e176, (by decide : 4 + 2 ≤ _), (by decide : 10 + 20 ≤ _)⟩)
    dsimp only [Pt.U, Pt.locs, Pt.cells, Pt.slots] at X221 l221 y221 z221 st221 hQ221 hSq221 hgq221
    subst l221 y221 z221
    have hS221 := foldS hS0 (Nat.le_trans (Nat.le_trans (Nat.le_trans hk0 E32.1) K176c.1) (Nat.le_of_eq (congrArg Array.size e176.symm))) hSq221 hgq221
    have hZ : Z.Warmed39 T221.vm := State.Warmed39.trans (t := s.setVm s.vm) hZ hSq221.1
    have hown : T221.vm.findClass "com/example/wakeline/wakeline/event/ValueIsNullPinLaw" = some m.cls := by rw [hSq221.1.alike.findClass]; exact hown
    obtain ⟨rfl, N221q, K221c, Y221_0, Y221_1⟩ := hQ221
    have N221 := Fr.app N176 N221q
    refine EndsW.go (fun _ k => st221.trans k) ?_
    obtain ⟨h221, e221⟩ : ∃ z, T221.heap = z := ⟨_, rfl⟩
    rw [e221] at K221c Y221_0 Y221_1
    have K221 := K176.trans K221c (allS (Or.inr sz_b32) all0)
    have O221 := O176.keep K221c (allS g_b32 all0)
    show EndsW _ _ _ _ T221 (mkF m 58 #[ci p0, ci p1, ci p2, ci p3, ci 1, cu, cr w_NUMBER, cu, cu] [(.ref b32)]) _ _ _
    refine wasW X221 hx hby at_58 (l' := #[ci p0, ci p1, ci p2, ci p3, ci 1, cr b32, cr w_NUMBER, cu, cu]) rfl rfl ?_
    refine wgoW (pc := 60) (pc' := 94) X221 hx hby at_60 (by decide) (by decide) ?_
    refine wilW X221 hx hby at_94 rfl ?_
    refine wiyW (pc := 96) (pc' := 103) X221 hx hby at_96 ((if0 _ _).trans (feq (by decide : ¬ ((1 : Int32) = (0 : Int32)))).2) (by decide) (by decide) ?_
    show EndsW _ _ _ _ T221 (mkF m 103 #[ci p0, ci p1, ci p2, ci p3, ci 1, cr b32, cr w_NUMBER, cu, cu] []) _ _ _
    refine wicW X221 hx hby at_103 ?_
    refine wstW X221 hx hby at_104 (l' := #[ci p0, ci p1, ci p2, ci p3, ci 1, cr b32, cr w_NUMBER, ci 0, cu]) rfl ?_
    refine walW X221 hx hby at_106 rfl rfl ?_
    obtain ⟨cq222, kq222, q222a, q222b, q222c⟩ := isOf hZ e221 ((A32.keep K176c).keep K221c)
    obtain ⟨_, _, ⟨T222, L222, k222, n222⟩, -, X222, ⟨Lc222, hQ222, l222, y222, z222⟩, st222⟩ := X221.virtualBack hx (y := ym5) (z := ym5) hown (mvT hZ (ow hw 37 rfl)) (mvT hZ (ow hw 38 rfl)) (notFace_of_selects (args := #[]) (mvT hZ (ow hw 40 rfl))) (mvT hZ (ow hw 40 rfl)) (mvT hZ (ow hw 39 rfl)) (by decide) (own_backOf (W := 0) (rx5_97 l Z a0 hw [] n0 h221 O221 G1 G3 w_NULL w_NUMBER w_NULL2 w_STRING GF b32 Y221_0) hZ (ow hw 41 rfl) (ow hw 6 rfl) (by decide) (by decide)) q222a q222c (g := (mkF m 108 #[ci p0, ci p1, ci p2, ci p3, ci 1, cr b32, cr w_NUMBER, ci 0, cu] [(.ref b32)])) rfl (by rw [hml]; rfl) (Steps.refl _) (argsL := []) (rest := []) (lenOf pdx_3 rfl) rfl (by show 2 * 0 + _ ≤ _; exact Nat.le_of_eq rfl) (hb hby at_108) (fun _ _ => ⟨rfl, e221, (by decide : 6 + 0 ≤ _), (by decide : 30 + 0 ≤ _)⟩)
    dsimp only [Pt.U, Pt.locs, Pt.cells, Pt.slots] at X222 l222 y222 z222 st222 hQ222
    subst l222 y222 z222
    obtain ⟨rfl, N222q, K222c⟩ := hQ222
    have N222 := Fr.app N221 N222q
    refine EndsW.go (fun _ k => st222.trans k) ?_
    obtain ⟨h222, e222⟩ : ∃ z, T222.heap = z := ⟨_, rfl⟩
    rw [e222] at K222c
    have K222 := K221.trans K222c all0
    have O222 := O221.keep K222c all0
    show EndsW _ _ _ _ T222 (mkF m 111 #[ci p0, ci p1, ci p2, ci p3, ci 1, cr b32, cr w_NUMBER, ci 0, cu] [(.int 0)]) _ _ _
    refine wstW X222 hx hby at_111 (l' := #[ci p0, ci p1, ci p2, ci p3, ci 1, cr b32, cr w_NUMBER, ci 0, ci 0]) rfl ?_
    refine wilW X222 hx hby at_113 rfl ?_
    refine wilW X222 hx hby at_115 rfl ?_
    refine wcnW X222 hx hby at_117 (teq (by decide : (0 : Int32) = (0 : Int32))).2 ?_
    show EndsW _ _ _ _ T222 (mkF m 120 #[ci p0, ci p1, ci p2, ci p3, ci 1, cr b32, cr w_NUMBER, ci 0, ci 0] []) _ _ _
    refine wilW X222 hx hby at_120 rfl ?_
    refine walW X222 hx hby at_122 rfl rfl ?_
    obtain ⟨cq223, kq223, q223a, q223b, q223c⟩ := isOf hZ e222 (((A32.keep K176c).keep K221c).keep K222c)
    obtain ⟨_, _, ⟨T223, L223, k223, n223⟩, -, X223, ⟨Lc223, hQ223, l223, y223, z223⟩, st223⟩ := X222.virtualBack hx (y := ym6) (z := ym6) hown (mvT hZ (ow hw 42 rfl)) (mvT hZ (ow hw 43 rfl)) (notFace_of_selects (args := #[]) (mvT hZ (ow hw 45 rfl))) (mvT hZ (ow hw 45 rfl)) (mvT hZ (ow hw 44 rfl)) (by decide) (own_backOf (W := 1) (rx6_101 l Z a0 hw [] n0 h222 O222  b32 b177 (Y221_1.keep K222c nin0)) hZ (ow hw 46 rfl) (ow hw 6 rfl) (by decide) (by decide)) q223a q223c (g := (mkF m 124 #[ci p0, ci p1, ci p2, ci p3, ci 1, cr b32, cr w_NUMBER, ci 0, ci 0] [(.ref b32), (.int 0)])) rfl (by rw [hml]; rfl) (Steps.refl _) (argsL := []) (rest := [(.int 0)]) (lenOf pdx_4 rfl) rfl (by show 2 * 0 + _ ≤ _; exact Nat.le_of_eq rfl) (hb hby at_124) (fun _ _ => ⟨rfl, e222, (by decide : 6 + 0 ≤ _), (by decide : 30 + 0 ≤ _)⟩)
    dsimp only [Pt.U, Pt.locs, Pt.cells, Pt.slots] at X223 l223 y223 z223 st223 hQ223
    subst l223 y223 z223
    obtain ⟨rfl, N223q, K223c⟩ := hQ223
    have N223 := Fr.app N222 N223q
    refine EndsW.go (fun _ k => st223.trans k) ?_
    obtain ⟨h223, e223⟩ : ∃ z, T223.heap = z := ⟨_, rfl⟩
    rw [e223] at K223c
    have K223 := K222.trans K223c all0
    have O223 := O222.keep K223c all0
    refine .go (fun _ => XS.ifnonnullYes X223.here hx rfl (pc0 := 127) (pc' := 134) rfl (hb hby at_127) rfl (by decide) (by decide)) ?_
    show EndsW _ _ _ _ T223 (mkF m 134 #[ci p0, ci p1, ci p2, ci p3, ci 1, cr b32, cr w_NUMBER, ci 0, ci 0] [(.int 0)]) _ _ _
    refine wicW X223 hx hby at_134 ?_
    refine wcnW X223 hx hby at_135 (teq (by decide : (0 : Int32) = (0 : Int32))).2 ?_
    refine walW X223 hx hby at_138 rfl rfl ?_
    obtain ⟨cq224, kq224, q224a, q224b, q224c⟩ := isOf hZ e223 ((((A32.keep K176c).keep K221c).keep K222c).keep K223c)
    obtain ⟨_, _, ⟨T224, L224, k224, n224⟩, -, X224, ⟨Lc224, hQ224, l224, y224, z224⟩, st224⟩ := X223.virtualBack hx (y := ym7) (z := ym7) hown (mvT hZ (ow hw 47 rfl)) (mvT hZ (ow hw 48 rfl)) (notFace_of_selects (args := #[]) (mvT hZ (ow hw 50 rfl))) (mvT hZ (ow hw 50 rfl)) (mvT hZ (ow hw 49 rfl)) (by decide) (own_backOf (W := 0) (rx7_104 l Z a0 hw [] n0 h223 O223 G1 G3 w_NULL w_NUMBER w_NULL2 w_STRING GF b32 ((Y221_0.keep K222c nin0).keep K223c nin0)) hZ (ow hw 51 rfl) (ow hw 6 rfl) (by decide) (by decide)) q224a q224c (g := (mkF m 140 #[ci p0, ci p1, ci p2, ci p3, ci 1, cr b32, cr w_NUMBER, ci 0, ci 0] [(.ref b32)])) rfl (by rw [hml]; rfl) (Steps.refl _) (argsL := []) (rest := []) (lenOf pdx_5 rfl) rfl (by show 2 * 0 + _ ≤ _; exact Nat.le_of_eq rfl) (hb hby at_140) (fun _ _ => ⟨rfl, e223, (by decide : 6 + 0 ≤ _), (by decide : 30 + 0 ≤ _)⟩)
    dsimp only [Pt.U, Pt.locs, Pt.cells, Pt.slots] at X224 l224 y224 z224 st224 hQ224
    subst l224 y224 z224
    obtain ⟨rfl, N224q, K224c⟩ := hQ224
    have N224 := Fr.app N223 N224q
    refine EndsW.go (fun _ k => st224.trans k) ?_
    obtain ⟨h224, e224⟩ : ∃ z, T224.heap = z := ⟨_, rfl⟩
    rw [e224] at K224c
    have K224 := K223.trans K224c all0
    have O224 := O223.keep K224c all0
    show EndsW _ _ _ _ T224 (mkF m 143 #[ci p0, ci p1, ci p2, ci p3, ci 1, cr b32, cr w_NUMBER, ci 0, ci 0] [(.ref w_NUMBER)]) _ _ _
    refine walW X224 hx hby at_143 rfl rfl ?_
    refine .go (fun _ => Jvm.RoadKit.acmp (g := (mkF m 145 #[ci p0, ci p1, ci p2, ci p3, ci 1, cr b32, cr w_NUMBER, ci 0, ci 0] [(.ref w_NUMBER), (.ref w_NUMBER)])) X224 hx rfl rfl rfl (pc0 := 145) (pc' := 148) (same := true) rfl (hb hby at_145) rfl (decide_eq_true rfl) (by decide) (by decide)) ?_
    obtain ⟨T225, X225, e225, st225⟩ := getS2 X224 hx hZ hown (host := "") (Or.inl (ow hw 52 rfl)) Via.refl e224 (S_NULL2.ext O224.2) (g := (mkF m 148 #[ci p0, ci p1, ci p2, ci p3, ci 1, cr b32, cr w_NUMBER, ci 0, ci 0] [])) rfl (hb hby at_148)
    refine EndsW.go st225 ?_
    obtain ⟨cq226, kq226, q226a, q226b, q226c⟩ := isOf hZ e225 (E_NULL2.ext O224.2)
    obtain ⟨_, _, ⟨T226, L226, k226, n226⟩, -, X226, ⟨Lc226, hQ226, l226, y226, z226⟩, st226⟩ := X225.virtualBack hx (y := ym5) (z := ym5) hown (mvT hZ (ow hw 37 rfl)) (mvT hZ (ow hw 38 rfl)) (notFace_of_selects (args := #[]) (mvT hZ (ow hw 40 rfl))) (mvT hZ (ow hw 40 rfl)) (mvT hZ (ow hw 39 rfl)) (by decide) (own_backOf (W := 0) (rx5_27 l Z a0 hw [] n0 h224 O224 G1 G3 w_NULL w_NUMBER w_NULL2 w_STRING GF  ) hZ (ow hw 41 rfl) (ow hw 6 rfl) (by decide) (by decide)) q226a q226c (g := (mkF m 151 #[ci p0, ci p1, ci p2, ci p3, ci 1, cr b32, cr w_NUMBER, ci 0, ci 0] [(.ref w_NULL2)])) rfl (by rw [hml]; rfl) (Steps.refl _) (argsL := []) (rest := []) (lenOf pdx_3 rfl) rfl (by show 2 * 0 + _ ≤ _; exact Nat.le_of_eq rfl) (hb hby at_151) (fun _ _ => ⟨rfl, e225, (by decide : 6 + 0 ≤ _), (by decide : 30 + 0 ≤ _)⟩)
    dsimp only [Pt.U, Pt.locs, Pt.cells, Pt.slots] at X226 l226 y226 z226 st226 hQ226
    subst l226 y226 z226
    obtain ⟨rfl, N226q, K226c⟩ := hQ226
    have N226 := Fr.app N224 N226q
    refine EndsW.go (fun _ k => st226.trans k) ?_
    obtain ⟨h226, e226⟩ : ∃ z, T226.heap = z := ⟨_, rfl⟩
    rw [e226] at K226c
    have K226 := K224.trans K226c all0
    have O226 := O224.keep K226c all0
    show EndsW _ _ _ _ T226 (mkF m 154 #[ci p0, ci p1, ci p2, ci p3, ci 1, cr b32, cr w_NUMBER, ci 0, ci 0] [(.int 1)]) _ _ _
    refine winW X226 hx hby at_154 ((if0 _ _).trans (feq (by decide : ¬ ((1 : Int32) = (0 : Int32)))).1) ?_
    refine wicW X226 hx hby at_157 ?_
    refine wgoW (pc := 158) (pc' := 162) X226 hx hby at_158 (by decide) (by decide) ?_
    refine EndsW.retZ (s := s) (vm := T221.vm) X226 hx hS221 (Nat.le_trans (Nat.le_trans (Nat.le_trans (Nat.le_trans (Nat.le_trans (Nat.le_of_eq (congrArg Array.size e221)) K222c.1) K223c.1) K224c.1) K226c.1) (Nat.le_of_eq (congrArg Array.size e226.symm))) Bd.notSynchronized (t := .boolean) Bd.returns (by simp) (hb hby at_162) (by decide) (by decide) ?_
    exact ⟨rfl, N226⟩
   ·show EndsW _ _ _ _ T32 (mkF m 52 #[ci p0, ci p1, ci p2, ci p3, ci 1, cu, cr w_NUMBER, cu, cu] [(.int p2), (.int p1), (.ref w_NUMBER), (.ref b32), (.ref b32)]) _ _ _
    obtain ⟨_, _, ⟨T227, L227, k227, n227⟩, -, X227, ⟨Lc227, hQ227, l227, y227, z227⟩, st227⟩ := Jvm.LawKit.callS X32 hx (y := ym12) hown (mvT hZ (ow hw 55 rfl)) (mvT hZ (ow hw 56 rfl)) (mvT hZ (ow hw 57 rfl)) (mvT hZ (ow hw 58 rfl)) (by decide) (own_backOf (W := 3) (rx8_144 l Z a0 hw [] n0 h32 O32 G1 G3 w_NULL w_NUMBER w_NULL2 w_STRING GF p1 p2 hbit_ hDG) hZ (ow hw 58 rfl) (ow hw 57 rfl) (by decide) (by decide)) (g := (mkF m 52 #[ci p0, ci p1, ci p2, ci p3, ci 1, cu, cr w_NUMBER, cu, cu] [(.int p2), (.int p1), (.ref w_NUMBER), (.ref b32), (.ref b32)])) rfl (by rw [hml]; rfl) (argsL := [(.int p1), (.int p2)]) (rest := [(.ref w_NUMBER), (.ref b32), (.ref b32)]) (lenOf pdx_10 rfl) rfl (by show 2 * 0 + _ ≤ _; exact Nat.le_of_eq rfl) (hb hby at_52) (fun _ _ => ⟨rfl, e32, (by decide : 1 + 3 ≤ _), (by decide : 2 + 8 ≤ _)⟩)
    dsimp only [Pt.U, Pt.locs, Pt.cells, Pt.slots] at X227 l227 y227 z227 st227 hQ227
    subst l227 y227 z227
    obtain ⟨b228, b229, b230, k231, k232, rfl, N227q, K227c, hb227_b228, hb227_b229, hb227_b230, hne227_b228_b229, hne227_b228_b230, hne227_b229_b230, Y227_0, Y227_1, Y227_2, Y227_3, Y227_4⟩ := hQ227
    have N227 := Fr.app N0 N227q
    refine EndsW.go st227 ?_
    have g_b228 : n0 ≤ b228 := Nat.le_trans (own_old_le O32) hb227_b228
    have sz_b228 : h0.size ≤ b228 := Nat.le_trans K32.1 hb227_b228
    have g_b229 : n0 ≤ b229 := Nat.le_trans (own_old_le O32) hb227_b229
    have sz_b229 : h0.size ≤ b229 := Nat.le_trans K32.1 hb227_b229
    have g_b230 : n0 ≤ b230 := Nat.le_trans (own_old_le O32) hb227_b230
    have sz_b230 : h0.size ≤ b230 := Nat.le_trans K32.1 hb227_b230
    obtain ⟨h227, e227⟩ : ∃ z, T227.heap = z := ⟨_, rfl⟩
    rw [e227] at K227c Y227_0 Y227_1 Y227_2 Y227_3 Y227_4
    have K227 := K32.trans K227c all0
    have O227 := O32.keep K227c all0
    obtain ⟨_, _, ⟨T258, L258, k258, n258⟩, -, X258, hSq258, hgq258, ⟨Lc258, hQ258, l258, y258, z258⟩, st258⟩ := X227.specialBackS hx (y := ym4) rfl hown (mvT hZ (ow hw 7 rfl)) (mvT hZ (ow hw 8 rfl)) (mvT hZ (ow hw 9 rfl)) (by decide) (own_backOfS (W := 1) (rx1_233 l Z a0 hw [] n0 h227 O227 G1 G3 w_NULL w_NUMBER w_NULL2 w_STRING GF b32 b228 b230 k232 p1 Y227_4 Y227_2 Y227_3 Y227_0 (A32.keep K227c) (F_kind_b32.keep K227c nin0) (F_text_b32.keep K227c nin0) g_b32 hDG hd48_) hZ (ow hw 9 rfl) (ow hw 6 rfl) (by decide) (by decide) (fun q_ => by cases q_)) (g := (mkF m 55 #[ci p0, ci p1, ci p2, ci p3, ci 1, cu, cr w_NUMBER, cu, cu] [(.ref b228), (.ref w_NUMBER), (.ref b32), (.ref b32)])) rfl (by rw [hml]; rfl) (Steps.refl _) (a := b32) (argsL := [(.ref w_NUMBER), (.ref b228)]) (rest := [(.ref b32)]) (lenOf pdx_2 rfl) rfl (by show 2 * 0 + _ ≤ _; exact Nat.le_of_eq rfl) (hb hby at_55) (fun _ _ => ⟨rfl, e227, (by decide : 4 + 2 ≤ _), (by decide : 10 + 20 ≤ _)⟩)
    dsimp only [Pt.U, Pt.locs, Pt.cells, Pt.slots] at X258 l258 y258 z258 st258 hQ258 hSq258 hgq258
    subst l258 y258 z258
    have hS258 := foldS hS0 (Nat.le_trans (Nat.le_trans (Nat.le_trans hk0 E32.1) K227c.1) (Nat.le_of_eq (congrArg Array.size e227.symm))) hSq258 hgq258
    have hZ : Z.Warmed39 T258.vm := State.Warmed39.trans (t := s.setVm s.vm) hZ hSq258.1
    have hown : T258.vm.findClass "com/example/wakeline/wakeline/event/ValueIsNullPinLaw" = some m.cls := by rw [hSq258.1.alike.findClass]; exact hown
    obtain ⟨rfl, N258q, K258c, Y258_0, Y258_1⟩ := hQ258
    have N258 := Fr.app N227 N258q
    refine EndsW.go (fun _ k => st258.trans k) ?_
    obtain ⟨h258, e258⟩ : ∃ z, T258.heap = z := ⟨_, rfl⟩
    rw [e258] at K258c Y258_0 Y258_1
    have K258 := K227.trans K258c (allS (Or.inr sz_b32) all0)
    have O258 := O227.keep K258c (allS g_b32 all0)
    refine wasW X258 hx hby at_58 (l' := #[ci p0, ci p1, ci p2, ci p3, ci 1, cr b32, cr w_NUMBER, cu, cu]) rfl rfl ?_
    refine wgoW (pc := 60) (pc' := 94) X258 hx hby at_60 (by decide) (by decide) ?_
    show EndsW _ _ _ _ T258 (mkF m 94 #[ci p0, ci p1, ci p2, ci p3, ci 1, cr b32, cr w_NUMBER, cu, cu] []) _ _ _
    refine wilW X258 hx hby at_94 rfl ?_
    refine wiyW (pc := 96) (pc' := 103) X258 hx hby at_96 ((if0 _ _).trans (feq (by decide : ¬ ((1 : Int32) = (0 : Int32)))).2) (by decide) (by decide) ?_
    refine wicW X258 hx hby at_103 ?_
    refine wstW X258 hx hby at_104 (l' := #[ci p0, ci p1, ci p2, ci p3, ci 1, cr b32, cr w_NUMBER, ci 0, cu]) rfl ?_
    show EndsW _ _ _ _ T258 (mkF m 106 #[ci p0, ci p1, ci p2, ci p3, ci 1, cr b32, cr w_NUMBER, ci 0, cu] []) _ _ _
    refine walW X258 hx hby at_106 rfl rfl ?_
    obtain ⟨cq259, kq259, q259a, q259b, q259c⟩ := isOf hZ e258 ((A32.keep K227c).keep K258c)
    obtain ⟨_, _, ⟨T259, L259, k259, n259⟩, -, X259, ⟨Lc259, hQ259, l259, y259, z259⟩, st259⟩ := X258.virtualBack hx (y := ym5) (z := ym5) hown (mvT hZ (ow hw 37 rfl)) (mvT hZ (ow hw 38 rfl)) (notFace_of_selects (args := #[]) (mvT hZ (ow hw 40 rfl))) (mvT hZ (ow hw 40 rfl)) (mvT hZ (ow hw 39 rfl)) (by decide) (own_backOf (W := 0) (rx5_97 l Z a0 hw [] n0 h258 O258 G1 G3 w_NULL w_NUMBER w_NULL2 w_STRING GF b32 Y258_0) hZ (ow hw 41 rfl) (ow hw 6 rfl) (by decide) (by decide)) q259a q259c (g := (mkF m 108 #[ci p0, ci p1, ci p2, ci p3, ci 1, cr b32, cr w_NUMBER, ci 0, cu] [(.ref b32)])) rfl (by rw [hml]; rfl) (Steps.refl _) (argsL := []) (rest := []) (lenOf pdx_3 rfl) rfl (by show 2 * 0 + _ ≤ _; exact Nat.le_of_eq rfl) (hb hby at_108) (fun _ _ => ⟨rfl, e258, (by decide : 6 + 0 ≤ _), (by decide : 30 + 0 ≤ _)⟩)
    dsimp only [Pt.U, Pt.locs, Pt.cells, Pt.slots] at X259 l259 y259 z259 st259 hQ259
    subst l259 y259 z259
    obtain ⟨rfl, N259q, K259c⟩ := hQ259
    have N259 := Fr.app N258 N259q
    refine EndsW.go (fun _ k => st259.trans k) ?_
    obtain ⟨h259, e259⟩ : ∃ z, T259.heap = z := ⟨_, rfl⟩
    rw [e259] at K259c
    have K259 := K258.trans K259c all0
    have O259 := O258.keep K259c all0
    refine wstW X259 hx hby at_111 (l' := #[ci p0, ci p1, ci p2, ci p3, ci 1, cr b32, cr w_NUMBER, ci 0, ci 0]) rfl ?_
    refine wilW X259 hx hby at_113 rfl ?_
    show EndsW _ _ _ _ T259 (mkF m 115 #[ci p0, ci p1, ci p2, ci p3, ci 1, cr b32, cr w_NUMBER, ci 0, ci 0] [(.int 0)]) _ _ _
    refine wilW X259 hx hby at_115 rfl ?_
    refine wcnW X259 hx hby at_117 (teq (by decide : (0 : Int32) = (0 : Int32))).2 ?_
    refine wilW X259 hx hby at_120 rfl ?_
    refine walW X259 hx hby at_122 rfl rfl ?_
    show EndsW _ _ _ _ T259 (mkF m 124 #[ci p0, ci p1, ci p2, ci p3, ci 1, cr b32, cr w_NUMBER, ci 0, ci 0] [(.ref b32), (.int 0)]) _ _ _
    obtain ⟨cq260, kq260, q260a, q260b, q260c⟩ := isOf hZ e259 (((A32.keep K227c).keep K258c).keep K259c)
    obtain ⟨_, _, ⟨T260, L260, k260, n260⟩, -, X260, ⟨Lc260, hQ260, l260, y260, z260⟩, st260⟩ := X259.virtualBack hx (y := ym6) (z := ym6) hown (mvT hZ (ow hw 42 rfl)) (mvT hZ (ow hw 43 rfl)) (notFace_of_selects (args := #[]) (mvT hZ (ow hw 45 rfl))) (mvT hZ (ow hw 45 rfl)) (mvT hZ (ow hw 44 rfl)) (by decide) (own_backOf (W := 1) (rx6_101 l Z a0 hw [] n0 h259 O259  b32 b228 (Y258_1.keep K259c nin0)) hZ (ow hw 46 rfl) (ow hw 6 rfl) (by decide) (by decide)) q260a q260c (g := (mkF m 124 #[ci p0, ci p1, ci p2, ci p3, ci 1, cr b32, cr w_NUMBER, ci 0, ci 0] [(.ref b32), (.int 0)])) rfl (by rw [hml]; rfl) (Steps.refl _) (argsL := []) (rest := [(.int 0)]) (lenOf pdx_4 rfl) rfl (by show 2 * 0 + _ ≤ _; exact Nat.le_of_eq rfl) (hb hby at_124) (fun _ _ => ⟨rfl, e259, (by decide : 6 + 0 ≤ _), (by decide : 30 + 0 ≤ _)⟩)
    dsimp only [Pt.U, Pt.locs, Pt.cells, Pt.slots] at X260 l260 y260 z260 st260 hQ260
    subst l260 y260 z260
    obtain ⟨rfl, N260q, K260c⟩ := hQ260
    have N260 := Fr.app N259 N260q
    refine EndsW.go (fun _ k => st260.trans k) ?_
    obtain ⟨h260, e260⟩ : ∃ z, T260.heap = z := ⟨_, rfl⟩
    rw [e260] at K260c
    have K260 := K259.trans K260c all0
    have O260 := O259.keep K260c all0
    refine .go (fun _ => XS.ifnonnullYes X260.here hx rfl (pc0 := 127) (pc' := 134) rfl (hb hby at_127) rfl (by decide) (by decide)) ?_
    refine wicW X260 hx hby at_134 ?_
    refine wcnW X260 hx hby at_135 (teq (by decide : (0 : Int32) = (0 : Int32))).2 ?_
    show EndsW _ _ _ _ T260 (mkF m 138 #[ci p0, ci p1, ci p2, ci p3, ci 1, cr b32, cr w_NUMBER, ci 0, ci 0] []) _ _ _
    refine walW X260 hx hby at_138 rfl rfl ?_
    obtain ⟨cq261, kq261, q261a, q261b, q261c⟩ := isOf hZ e260 ((((A32.keep K227c).keep K258c).keep K259c).keep K260c)
    obtain ⟨_, _, ⟨T261, L261, k261, n261⟩, -, X261, ⟨Lc261, hQ261, l261, y261, z261⟩, st261⟩ := X260.virtualBack hx (y := ym7) (z := ym7) hown (mvT hZ (ow hw 47 rfl)) (mvT hZ (ow hw 48 rfl)) (notFace_of_selects (args := #[]) (mvT hZ (ow hw 50 rfl))) (mvT hZ (ow hw 50 rfl)) (mvT hZ (ow hw 49 rfl)) (by decide) (own_backOf (W := 0) (rx7_104 l Z a0 hw [] n0 h260 O260 G1 G3 w_NULL w_NUMBER w_NULL2 w_STRING GF b32 ((Y258_0.keep K259c nin0).keep K260c nin0)) hZ (ow hw 51 rfl) (ow hw 6 rfl) (by decide) (by decide)) q261a q261c (g := (mkF m 140 #[ci p0, ci p1, ci p2, ci p3, ci 1, cr b32, cr w_NUMBER, ci 0, ci 0] [(.ref b32)])) rfl (by rw [hml]; rfl) (Steps.refl _) (argsL := []) (rest := []) (lenOf pdx_5 rfl) rfl (by show 2 * 0 + _ ≤ _; exact Nat.le_of_eq rfl) (hb hby at_140) (fun _ _ => ⟨rfl, e260, (by decide : 6 + 0 ≤ _), (by decide : 30 + 0 ≤ _)⟩)
    dsimp only [Pt.U, Pt.locs, Pt.cells, Pt.slots] at X261 l261 y261 z261 st261 hQ261
    subst l261 y261 z261
    obtain ⟨rfl, N261q, K261c⟩ := hQ261
    have N261 := Fr.app N260 N261q
    refine EndsW.go (fun _ k => st261.trans k) ?_
    obtain ⟨h261, e261⟩ : ∃ z, T261.heap = z := ⟨_, rfl⟩
    rw [e261] at K261c
    have K261 := K260.trans K261c all0
    have O261 := O260.keep K261c all0
    refine walW X261 hx hby at_143 rfl rfl ?_
    refine .go (fun _ => Jvm.RoadKit.acmp (g := (mkF m 145 #[ci p0, ci p1, ci p2, ci p3, ci 1, cr b32, cr w_NUMBER, ci 0, ci 0] [(.ref w_NUMBER), (.ref w_NUMBER)])) X261 hx rfl rfl rfl (pc0 := 145) (pc' := 148) (same := true) rfl (hb hby at_145) rfl (decide_eq_true rfl) (by decide) (by decide)) ?_
    show EndsW _ _ _ _ T261 (mkF m 148 #[ci p0, ci p1, ci p2, ci p3, ci 1, cr b32, cr w_NUMBER, ci 0, ci 0] []) _ _ _
    obtain ⟨T262, X262, e262, st262⟩ := getS2 X261 hx hZ hown (host := "") (Or.inl (ow hw 52 rfl)) Via.refl e261 (S_NULL2.ext O261.2) (g := (mkF m 148 #[ci p0, ci p1, ci p2, ci p3, ci 1, cr b32, cr w_NUMBER, ci 0, ci 0] [])) rfl (hb hby at_148)
    refine EndsW.go st262 ?_
    obtain ⟨cq263, kq263, q263a, q263b, q263c⟩ := isOf hZ e262 (E_NULL2.ext O261.2)
    obtain ⟨_, _, ⟨T263, L263, k263, n263⟩, -, X263, ⟨Lc263, hQ263, l263, y263, z263⟩, st263⟩ := X262.virtualBack hx (y := ym5) (z := ym5) hown (mvT hZ (ow hw 37 rfl)) (mvT hZ (ow hw 38 rfl)) (notFace_of_selects (args := #[]) (mvT hZ (ow hw 40 rfl))) (mvT hZ (ow hw 40 rfl)) (mvT hZ (ow hw 39 rfl)) (by decide) (own_backOf (W := 0) (rx5_27 l Z a0 hw [] n0 h261 O261 G1 G3 w_NULL w_NUMBER w_NULL2 w_STRING GF  ) hZ (ow hw 41 rfl) (ow hw 6 rfl) (by decide) (by decide)) q263a q263c (g := (mkF m 151 #[ci p0, ci p1, ci p2, ci p3, ci 1, cr b32, cr w_NUMBER, ci 0, ci 0] [(.ref w_NULL2)])) rfl (by rw [hml]; rfl) (Steps.refl _) (argsL := []) (rest := []) (lenOf pdx_3 rfl) rfl (by show 2 * 0 + _ ≤ _; exact Nat.le_of_eq rfl) (hb hby at_151) (fun _ _ => ⟨rfl, e262, (by decide : 6 + 0 ≤ _), (by decide : 30 + 0 ≤ _)⟩)
    dsimp only [Pt.U, Pt.locs, Pt.cells, Pt.slots] at X263 l263 y263 z263 st263 hQ263
    subst l263 y263 z263
    obtain ⟨rfl, N263q, K263c⟩ := hQ263
    have N263 := Fr.app N261 N263q
    refine EndsW.go (fun _ k => st263.trans k) ?_
    obtain ⟨h263, e263⟩ : ∃ z, T263.heap = z := ⟨_, rfl⟩
    rw [e263] at K263c
    have K263 := K261.trans K263c all0
    have O263 := O261.keep K263c all0
    refine winW X263 hx hby at_154 ((if0 _ _).trans (feq (by decide : ¬ ((1 : Int32) = (0 : Int32)))).1) ?_
    refine wicW X263 hx hby at_157 ?_
    show EndsW _ _ _ _ T263 (mkF m 158 #[ci p0, ci p1, ci p2, ci p3, ci 1, cr b32, cr w_NUMBER, ci 0, ci 0] [(.int 1)]) _ _ _
    refine wgoW (pc := 158) (pc' := 162) X263 hx hby at_158 (by decide) (by decide) ?_
    refine EndsW.retZ (s := s) (vm := T258.vm) X263 hx hS258 (Nat.le_trans (Nat.le_trans (Nat.le_trans (Nat.le_trans (Nat.le_trans (Nat.le_of_eq (congrArg Array.size e258)) K259c.1) K260c.1) K261c.1) K263c.1) (Nat.le_of_eq (congrArg Array.size e263.symm))) Bd.notSynchronized (t := .boolean) Bd.returns (by simp) (hb hby at_162) (by decide) (by decide) ?_
    exact ⟨rfl, N263⟩
 ·show EndsW _ _ _ _ s₁ (mkF m 6 #[ci p0, ci p1, ci p2, ci p3, cu, cu, cu, cu, cu] [(.int 2)]) _ _ _
  refine wstW X0 hx hby at_6 (l' := #[ci p0, ci p1, ci p2, ci p3, ci 2, cu, cu, cu, cu]) rfl ?_
  refine wilW X0 hx hby at_8 rfl ?_
  show EndsW _ _ _ _ s₁ (mkF m 10 #[ci p0, ci p1, ci p2, ci p3, ci 2, cu, cu, cu, cu] [(.int 2)]) _ _ _
  refine wiyW (pc := 10) (pc' := 33) X0 hx hby at_10 ((if0 _ _).trans (feq (by decide : ¬ ((2 : Int32) = (0 : Int32)))).2) (by decide) (by decide) ?_
  refine wilW X0 hx hby at_33 rfl ?_
  refine wicW X0 hx hby at_35 ?_
  refine wcyW (pc := 36) (pc' := 63) X0 hx hby at_36 (feq (by decide : ¬ ((2 : Int32) = (1 : Int32)))).2 (by decide) (by decide) ?_
  show EndsW _ _ _ _ s₁ (mkF m 63 #[ci p0, ci p1, ci p2, ci p3, ci 2, cu, cu, cu, cu] []) _ _ _
  obtain ⟨T264, X264, e264, st264⟩ := getS2 X0 hx hZ hown (host := "") (Or.inl (ow hw 137 rfl)) Via.refl e0 (S_STRING.ext O0.2) (g := (mkF m 63 #[ci p0, ci p1, ci p2, ci p3, ci 2, cu, cu, cu, cu] [])) rfl (hb hby at_63)
  refine EndsW.go st264 ?_
  refine wasW X264 hx hby at_66 (l' := #[ci p0, ci p1, ci p2, ci p3, ci 2, cu, cr w_STRING, cu, cu]) rfl rfl ?_
  refine wilNW X264 hx hby at_68 rfl ?_
  refine EndsW.go (X264.ldcInt hx hown (mvT hZ (ow hw 0 rfl)) (g := (mkF m 69 #[ci p0, ci p1, ci p2, ci p3, ci 2, cu, cr w_STRING, cu, cu] [(.int p3)])) rfl (hb hby at_69)) ?_
  show EndsW _ _ _ _ T264 (mkF m 71 #[ci p0, ci p1, ci p2, ci p3, ci 2, cu, cr w_STRING, cu, cu] [(.int 2147483647), (.int p3)]) _ _ _
  refine wanW X264 hx hby at_71 ?_
  refine wicW X264 hx hby at_72 ?_
  refine .go (fun _ => iremM X264 hx rfl (hb hby at_73) rfl (by decide)) ?_
  show EndsW _ _ _ _ T264 (mkF m 74 #[ci p0, ci p1, ci p2, ci p3, ci 2, cu, cr w_STRING, cu, cu] [(.int ((p3 &&& (2147483647 : Int32)) % (3 : Int32)))]) _ _ _
  generalize hi265 : ((p3 &&& (2147483647 : Int32)) % (3 : Int32)) = i265
  rcases own_m3 p3 i265 hi265 with rfl | rfl | rfl
  ·show EndsW _ _ _ _ T264 (mkF m 74 #[ci p0, ci p1, ci p2, ci p3, ci 2, cu, cr w_STRING, cu, cu] [(.int 0)]) _ _ _
   refine wstW X264 hx hby at_74 (l' := #[ci p0, ci p1, ci p2, ci p3, ci 2, cu, cr w_STRING, ci 0, cu]) rfl ?_
   obtain ⟨T266, h266, X266, e266, E266, A266, D266, -, st266⟩ := newO X264 hx hZ hown (ow hw 4 rfl) (ow hw 5 rfl) (ow hw 6 rfl) e264 (g := (mkF m 76 #[ci p0, ci p1, ci p2, ci p3, ci 2, cu, cr w_STRING, ci 0, cu] [])) rfl (hb hby at_76) (by decide) (by decide)
   obtain ⟨b266, g266⟩ : ∃ z, z = h0.size := ⟨_, rfl⟩
   rw [← g266] at A266 D266 st266
   refine EndsW.go st266 ?_
   have g_b266 : n0 ≤ b266 := Nat.le_trans (own_old_le O0) (Nat.le_of_eq g266.symm)
   have sz_b266 : h0.size ≤ b266 := Nat.le_trans K0.1 (Nat.le_of_eq g266.symm)
   have K266 := K0.ext E266
   have O266 := O0.ext E266
   have F_kind_b266 : Fld Z h266 b266 "com/example/wakeline/wakeline/event/Value" "kind" "Lcom/example/wakeline/wakeline/event/Value$Kind;" .null := D266 (Or.inr (ow hw 34 rfl)) (ty := (.object "com/example/wakeline/wakeline/event/Value$Kind")) (by decide)
   have F_text_b266 : Fld Z h266 b266 "com/example/wakeline/wakeline/event/Value" "text" "Ljava/lang/String;" .null := D266 (Or.inr (ow hw 36 rfl)) (ty := (.object "java/lang/String")) (by decide)
   refine wduW X266 hx hby at_79 rfl ?_
   show EndsW _ _ _ _ T266 (mkF m 80 #[ci p0, ci p1, ci p2, ci p3, ci 2, cu, cr w_STRING, ci 0, cu] [(.ref b266), (.ref b266)]) _ _ _
   refine walW X266 hx hby at_80 rfl rfl ?_
   refine wilW X266 hx hby at_82 rfl ?_
   refine wilNW X266 hx hby at_84 rfl ?_
   refine wilNW X266 hx hby at_85 rfl ?_
   show EndsW _ _ _ _ T266 (mkF m 86 #[ci p0, ci p1, ci p2, ci p3, ci 2, cu, cr w_STRING, ci 0, cu] [(.int p2), (.int p1), (.int 0), (.ref w_STRING), (.ref b266), (.ref b266)]) _ _ _
   obtain ⟨_, _, ⟨T282, L282, k282, n282⟩, -, X282, hSq282, hgq282, ⟨Lc282, hQ282, l282, y282, z282⟩, st282⟩ := callSS X266 hx (y := ym26) hown (mvT hZ (ow hw 139 rfl)) (mvT hZ (ow hw 140 rfl)) (mvT hZ (ow hw 57 rfl)) (mvT hZ (ow hw 141 rfl)) (by decide) (own_backOfS (W := 3) (rx28_267 l Z a0 hw [] n0 h266 O266 G1 G3 w_NULL w_NUMBER w_NULL2 w_STRING GF p1 p2 ) hZ (ow hw 141 rfl) (ow hw 57 rfl) (by decide) (by decide) hI) (g := (mkF m 86 #[ci p0, ci p1, ci p2, ci p3, ci 2, cu, cr w_STRING, ci 0, cu] [(.int p2), (.int p1), (.int 0), (.ref w_STRING), (.ref b266), (.ref b266)])) rfl (by rw [hml]; rfl) (argsL := [(.int 0), (.int p1), (.int p2)]) (rest := [(.ref w_STRING), (.ref b266), (.ref b266)]) (lenOf pdx_24 rfl) rfl (by show 2 * 0 + _ ≤ _; exact Nat.le_of_eq rfl) (hb hby at_86) (fun _ _ => ⟨rfl, e266, (by decide : 1 + 4 ≤ _), (by decide : 2 + 8 ≤ _)⟩)
   dsimp only [Pt.U, Pt.locs, Pt.cells, Pt.slots] at X282 l282 y282 z282 st282 hQ282 hSq282 hgq282
   subst l282 y282 z282
   have hS282 := foldS hS0 (Nat.le_trans (Nat.le_trans hk0 E266.1) (Nat.le_of_eq (congrArg Array.size e266.symm))) hSq282 hgq282
   have hZ : Z.Warmed39 T282.vm := State.Warmed39.trans (t := s.setVm s.vm) hZ hSq282.1
   have hown : T282.vm.findClass "com/example/wakeline/wakeline/event/ValueIsNullPinLaw" = some m.cls := by rw [hSq282.1.alike.findClass]; exact hown
   obtain ⟨b283, b284, k285, rfl, N282q, K282c, hb282_b283, hb282_b284, hne282_b283_b284, Y282_0, Y282_1, Y282_2⟩ := hQ282
   have N282 := Fr.app N0 N282q
   refine EndsW.go (fun _ k => st282.trans k) ?_
   have g_b283 : n0 ≤ b283 := Nat.le_trans (own_old_le O266) hb282_b283
   have sz_b283 : h0.size ≤ b283 := Nat.le_trans K266.1 hb282_b283
   have g_b284 : n0 ≤ b284 := Nat.le_trans (own_old_le O266) hb282_b284
   have sz_b284 : h0.size ≤ b284 := Nat.le_trans K266.1 hb282_b284
   obtain ⟨h282, e282⟩ : ∃ z, T282.heap = z := ⟨_, rfl⟩
   rw [e282] at K282c Y282_0 Y282_1 Y282_2
   have K282 := K266.trans K282c all0
   have O282 := O266.keep K282c all0
   obtain ⟨_, _, ⟨T295, L295, k295, n295⟩, -, X295, hSq295, hgq295, ⟨Lc295, hQ295, l295, y295, z295⟩, st295⟩ := X282.specialBackS hx (y := ym4) rfl hown (mvT hZ (ow hw 7 rfl)) (mvT hZ (ow hw 8 rfl)) (mvT hZ (ow hw 9 rfl)) (by decide) (own_backOfS (W := 1) (rx1_286 l Z a0 hw [] n0 h282 O282 G1 G3 w_NULL w_NUMBER w_NULL2 w_STRING GF b266 b283 (A266.keep K282c) (F_kind_b266.keep K282c nin0) (F_text_b266.keep K282c nin0) g_b266) hZ (ow hw 9 rfl) (ow hw 6 rfl) (by decide) (by decide) (fun q_ => by cases q_)) (g := (mkF m 89 #[ci p0, ci p1, ci p2, ci p3, ci 2, cu, cr w_STRING, ci 0, cu] [(.ref b283), (.ref w_STRING), (.ref b266), (.ref b266)])) rfl (by rw [hml]; rfl) (Steps.refl _) (a := b266) (argsL := [(.ref w_STRING), (.ref b283)]) (rest := [(.ref b266)]) (lenOf pdx_2 rfl) rfl (by show 2 * 0 + _ ≤ _; exact Nat.le_of_eq rfl) (hb hby at_89) (fun _ _ => ⟨rfl, e282, (by decide : 5 + 2 ≤ _), (by decide : 10 + 20 ≤ _)⟩)
   dsimp only [Pt.U, Pt.locs, Pt.cells, Pt.slots] at X295 l295 y295 z295 st295 hQ295 hSq295 hgq295
   subst l295 y295 z295
   have hS295 := foldS hS282 (Nat.le_trans (Nat.le_of_eq (congrArg Array.size e282)) (Nat.le_of_eq (congrArg Array.size e282.symm))) hSq295 hgq295
   have hZ : Z.Warmed39 T295.vm := State.Warmed39.trans (t := s.setVm T282.vm) hZ hSq295.1
   have hown : T295.vm.findClass "com/example/wakeline/wakeline/event/ValueIsNullPinLaw" = some m.cls := by rw [hSq295.1.alike.findClass]; exact hown
   obtain ⟨rfl, N295q, K295c, Y295_0, Y295_1⟩ := hQ295
   have N295 := Fr.app N282 N295q
   refine EndsW.go (fun _ k => st295.trans k) ?_
   obtain ⟨h295, e295⟩ : ∃ z, T295.heap = z := ⟨_, rfl⟩
   rw [e295] at K295c Y295_0 Y295_1
   have K295 := K282.trans K295c (allS (Or.inr sz_b266) all0)
   have O295 := O282.keep K295c (allS g_b266 all0)
   refine wasW X295 hx hby at_92 (l' := #[ci p0, ci p1, ci p2, ci p3, ci 2, cr b266, cr w_STRING, ci 0, cu]) rfl rfl ?_
   refine wilW X295 hx hby at_94 rfl ?_
   show EndsW _ _ _ _ T295 (mkF m 96 #[ci p0, ci p1, ci p2, ci p3, ci 2, cr b266, cr w_STRING, ci 0, cu] [(.int 2)]) _ _ _
   refine wiyW (pc := 96) (pc' := 103) X295 hx hby at_96 ((if0 _ _).trans (feq (by decide : ¬ ((2 : Int32) = (0 : Int32)))).2) (by decide) (by decide) ?_
   refine wicW X295 hx hby at_103 ?_
   refine wstW X295 hx hby at_104 (l' := #[ci p0, ci p1, ci p2, ci p3, ci 2, cr b266, cr w_STRING, ci 0, cu]) rfl ?_
   refine walW X295 hx hby at_106 rfl rfl ?_
   show EndsW _ _ _ _ T295 (mkF m 108 #[ci p0, ci p1, ci p2, ci p3, ci 2, cr b266, cr w_STRING, ci 0, cu] [(.ref b266)]) _ _ _
   obtain ⟨cq299, kq299, q299a, q299b, q299c⟩ := isOf hZ e295 ((A266.keep K282c).keep K295c)
   obtain ⟨_, _, ⟨T299, L299, k299, n299⟩, -, X299, ⟨Lc299, hQ299, l299, y299, z299⟩, st299⟩ := X295.virtualBack hx (y := ym5) (z := ym5) hown (mvT hZ (ow hw 37 rfl)) (mvT hZ (ow hw 38 rfl)) (notFace_of_selects (args := #[]) (mvT hZ (ow hw 40 rfl))) (mvT hZ (ow hw 40 rfl)) (mvT hZ (ow hw 39 rfl)) (by decide) (own_backOf (W := 0) (rx5_296 l Z a0 hw [] n0 h295 O295 G1 G3 w_NULL w_NUMBER w_NULL2 w_STRING GF b266 Y295_0) hZ (ow hw 41 rfl) (ow hw 6 rfl) (by decide) (by decide)) q299a q299c (g := (mkF m 108 #[ci p0, ci p1, ci p2, ci p3, ci 2, cr b266, cr w_STRING, ci 0, cu] [(.ref b266)])) rfl (by rw [hml]; rfl) (Steps.refl _) (argsL := []) (rest := []) (lenOf pdx_3 rfl) rfl (by show 2 * 0 + _ ≤ _; exact Nat.le_of_eq rfl) (hb hby at_108) (fun _ _ => ⟨rfl, e295, (by decide : 7 + 0 ≤ _), (by decide : 30 + 0 ≤ _)⟩)
   dsimp only [Pt.U, Pt.locs, Pt.cells, Pt.slots] at X299 l299 y299 z299 st299 hQ299
   subst l299 y299 z299
   obtain ⟨rfl, N299q, K299c⟩ := hQ299
   have N299 := Fr.app N295 N299q
   refine EndsW.go (fun _ k => st299.trans k) ?_
   obtain ⟨h299, e299⟩ : ∃ z, T299.heap = z := ⟨_, rfl⟩
   rw [e299] at K299c
   have K299 := K295.trans K299c all0
   have O299 := O295.keep K299c all0
   refine wstW X299 hx hby at_111 (l' := #[ci p0, ci p1, ci p2, ci p3, ci 2, cr b266, cr w_STRING, ci 0, ci 0]) rfl ?_
   refine wilW X299 hx hby at_113 rfl ?_
   refine wilW X299 hx hby at_115 rfl ?_
   show EndsW _ _ _ _ T299 (mkF m 117 #[ci p0, ci p1, ci p2, ci p3, ci 2, cr b266, cr w_STRING, ci 0, ci 0] [(.int 0), (.int 0)]) _ _ _
   refine wcnW X299 hx hby at_117 (teq (by decide : (0 : Int32) = (0 : Int32))).2 ?_
   refine wilW X299 hx hby at_120 rfl ?_
   refine walW X299 hx hby at_122 rfl rfl ?_
   obtain ⟨cq300, kq300, q300a, q300b, q300c⟩ := isOf hZ e299 (((A266.keep K282c).keep K295c).keep K299c)
   obtain ⟨_, _, ⟨T300, L300, k300, n300⟩, -, X300, ⟨Lc300, hQ300, l300, y300, z300⟩, st300⟩ := X299.virtualBack hx (y := ym6) (z := ym6) hown (mvT hZ (ow hw 42 rfl)) (mvT hZ (ow hw 43 rfl)) (notFace_of_selects (args := #[]) (mvT hZ (ow hw 45 rfl))) (mvT hZ (ow hw 45 rfl)) (mvT hZ (ow hw 44 rfl)) (by decide) (own_backOf (W := 1) (rx6_101 l Z a0 hw [] n0 h299 O299  b266 b283 (Y295_1.keep K299c nin0)) hZ (ow hw 46 rfl) (ow hw 6 rfl) (by decide) (by decide)) q300a q300c (g := (mkF m 124 #[ci p0, ci p1, ci p2, ci p3, ci 2, cr b266, cr w_STRING, ci 0, ci 0] [(.ref b266), (.int 0)])) rfl (by rw [hml]; rfl) (Steps.refl _) (argsL := []) (rest := [(.int 0)]) (lenOf pdx_4 rfl) rfl (by show 2 * 0 + _ ≤ _; exact Nat.le_of_eq rfl) (hb hby at_124) (fun _ _ => ⟨rfl, e299, (by decide : 7 + 0 ≤ _), (by decide : 30 + 0 ≤ _)⟩)
   dsimp only [Pt.U, Pt.locs, Pt.cells, Pt.slots] at X300 l300 y300 z300 st300 hQ300
   subst l300 y300 z300
   obtain ⟨rfl, N300q, K300c⟩ := hQ300
   have N300 := Fr.app N299 N300q
   refine EndsW.go (fun _ k => st300.trans k) ?_
   obtain ⟨h300, e300⟩ : ∃ z, T300.heap = z := ⟨_, rfl⟩
   rw [e300] at K300c
   have K300 := K299.trans K300c all0
   have O300 := O299.keep K300c all0
   show EndsW _ _ _ _ T300 (mkF m 127 #[ci p0, ci p1, ci p2, ci p3, ci 2, cr b266, cr w_STRING, ci 0, ci 0] [(.ref b283), (.int 0)]) _ _ _
   refine .go (fun _ => XS.ifnonnullYes X300.here hx rfl (pc0 := 127) (pc' := 134) rfl (hb hby at_127) rfl (by decide) (by decide)) ?_
   refine wicW X300 hx hby at_134 ?_
   refine wcnW X300 hx hby at_135 (teq (by decide : (0 : Int32) = (0 : Int32))).2 ?_
   refine walW X300 hx hby at_138 rfl rfl ?_
   show EndsW _ _ _ _ T300 (mkF m 140 #[ci p0, ci p1, ci p2, ci p3, ci 2, cr b266, cr w_STRING, ci 0, ci 0] [(.ref b266)]) _ _ _
   obtain ⟨cq303, kq303, q303a, q303b, q303c⟩ := isOf hZ e300 ((((A266.keep K282c).keep K295c).keep K299c).keep K300c)
   obtain ⟨_, _, ⟨T303, L303, k303, n303⟩, -, X303, ⟨Lc303, hQ303, l303, y303, z303⟩, st303⟩ := X300.virtualBack hx (y := ym7) (z := ym7) hown (mvT hZ (ow hw 47 rfl)) (mvT hZ (ow hw 48 rfl)) (notFace_of_selects (args := #[]) (mvT hZ (ow hw 50 rfl))) (mvT hZ (ow hw 50 rfl)) (mvT hZ (ow hw 49 rfl)) (by decide) (own_backOf (W := 0) (rx7_301 l Z a0 hw [] n0 h300 O300 G1 G3 w_NULL w_NUMBER w_NULL2 w_STRING GF b266 ((Y295_0.keep K299c nin0).keep K300c nin0)) hZ (ow hw 51 rfl) (ow hw 6 rfl) (by decide) (by decide)) q303a q303c (g := (mkF m 140 #[ci p0, ci p1, ci p2, ci p3, ci 2, cr b266, cr w_STRING, ci 0, ci 0] [(.ref b266)])) rfl (by rw [hml]; rfl) (Steps.refl _) (argsL := []) (rest := []) (lenOf pdx_5 rfl) rfl (by show 2 * 0 + _ ≤ _; exact Nat.le_of_eq rfl) (hb hby at_140) (fun _ _ => ⟨rfl, e300, (by decide : 7 + 0 ≤ _), (by decide : 30 + 0 ≤ _)⟩)
   dsimp only [Pt.U, Pt.locs, Pt.cells, Pt.slots] at X303 l303 y303 z303 st303 hQ303
   subst l303 y303 z303
   obtain ⟨rfl, N303q, K303c⟩ := hQ303
   have N303 := Fr.app N300 N303q
   refine EndsW.go (fun _ k => st303.trans k) ?_
   obtain ⟨h303, e303⟩ : ∃ z, T303.heap = z := ⟨_, rfl⟩
   rw [e303] at K303c
   have K303 := K300.trans K303c all0
   have O303 := O300.keep K303c all0
   refine walW X303 hx hby at_143 rfl rfl ?_
   refine .go (fun _ => Jvm.RoadKit.acmp (g := (mkF m 145 #[ci p0, ci p1, ci p2, ci p3, ci 2, cr b266, cr w_STRING, ci 0, ci 0] [(.ref w_STRING), (.ref w_STRING)])) X303 hx rfl rfl rfl (pc0 := 145) (pc' := 148) (same := true) rfl (hb hby at_145) rfl (decide_eq_true rfl) (by decide) (by decide)) ?_
   obtain ⟨T304, X304, e304, st304⟩ := getS2 X303 hx hZ hown (host := "") (Or.inl (ow hw 52 rfl)) Via.refl e303 (S_NULL2.ext O303.2) (g := (mkF m 148 #[ci p0, ci p1, ci p2, ci p3, ci 2, cr b266, cr w_STRING, ci 0, ci 0] [])) rfl (hb hby at_148)
   refine EndsW.go st304 ?_
   show EndsW _ _ _ _ T304 (mkF m 151 #[ci p0, ci p1, ci p2, ci p3, ci 2, cr b266, cr w_STRING, ci 0, ci 0] [(.ref w_NULL2)]) _ _ _
   obtain ⟨cq305, kq305, q305a, q305b, q305c⟩ := isOf hZ e304 (E_NULL2.ext O303.2)
   obtain ⟨_, _, ⟨T305, L305, k305, n305⟩, -, X305, ⟨Lc305, hQ305, l305, y305, z305⟩, st305⟩ := X304.virtualBack hx (y := ym5) (z := ym5) hown (mvT hZ (ow hw 37 rfl)) (mvT hZ (ow hw 38 rfl)) (notFace_of_selects (args := #[]) (mvT hZ (ow hw 40 rfl))) (mvT hZ (ow hw 40 rfl)) (mvT hZ (ow hw 39 rfl)) (by decide) (own_backOf (W := 0) (rx5_27 l Z a0 hw [] n0 h303 O303 G1 G3 w_NULL w_NUMBER w_NULL2 w_STRING GF  ) hZ (ow hw 41 rfl) (ow hw 6 rfl) (by decide) (by decide)) q305a q305c (g := (mkF m 151 #[ci p0, ci p1, ci p2, ci p3, ci 2, cr b266, cr w_STRING, ci 0, ci 0] [(.ref w_NULL2)])) rfl (by rw [hml]; rfl) (Steps.refl _) (argsL := []) (rest := []) (lenOf pdx_3 rfl) rfl (by show 2 * 0 + _ ≤ _; exact Nat.le_of_eq rfl) (hb hby at_151) (fun _ _ => ⟨rfl, e304, (by decide : 7 + 0 ≤ _), (by decide : 30 + 0 ≤ _)⟩)
   dsimp only [Pt.U, Pt.locs, Pt.cells, Pt.slots] at X305 l305 y305 z305 st305 hQ305
   subst l305 y305 z305
   obtain ⟨rfl, N305q, K305c⟩ := hQ305
   have N305 := Fr.app N303 N305q
   refine EndsW.go (fun _ k => st305.trans k) ?_
   obtain ⟨h305, e305⟩ : ∃ z, T305.heap = z := ⟨_, rfl⟩
   rw [e305] at K305c
   have K305 := K303.trans K305c all0
   have O305 := O303.keep K305c all0
   refine winW X305 hx hby at_154 ((if0 _ _).trans (feq (by decide : ¬ ((1 : Int32) = (0 : Int32)))).1) ?_
   refine wicW X305 hx hby at_157 ?_
   refine wgoW (pc := 158) (pc' := 162) X305 hx hby at_158 (by decide) (by decide) ?_
   show EndsW _ _ _ _ T305 (mkF m 162 #[ci p0, ci p1, ci p2, ci p3, ci 2, cr b266, cr w_STRING, ci 0, ci 0] [(.int 1)]) _ _ _
   refine EndsW.retZ (s := s) (vm := T295.vm) X305 hx hS295 (Nat.le_trans (Nat.le_trans (Nat.le_trans (Nat.le_trans (Nat.le_trans (Nat.le_of_eq (congrArg Array.size e295)) K299c.1) K300c.1) K303c.1) K305c.1) (Nat.le_of_eq (congrArg Array.size e305.symm))) Bd.notSynchronized (t := .boolean) Bd.returns (by simp) (hb hby at_162) (by decide) (by decide) ?_
   exact ⟨rfl, N305⟩
  ·show EndsW _ _ _ _ T264 (mkF m 74 #[ci p0, ci p1, ci p2, ci p3, ci 2, cu, cr w_STRING, cu, cu] [(.int 1)]) _ _ _
   refine wstW X264 hx hby at_74 (l' := #[ci p0, ci p1, ci p2, ci p3, ci 2, cu, cr w_STRING, ci 1, cu]) rfl ?_
   obtain ⟨T306, h306, X306, e306, E306, A306, D306, -, st306⟩ := newO X264 hx hZ hown (ow hw 4 rfl) (ow hw 5 rfl) (ow hw 6 rfl) e264 (g := (mkF m 76 #[ci p0, ci p1, ci p2, ci p3, ci 2, cu, cr w_STRING, ci 1, cu] [])) rfl (hb hby at_76) (by decide) (by decide)
   obtain ⟨b306, g306⟩ : ∃ z, z = h0.size := ⟨_, rfl⟩
   rw [← g306] at A306 D306 st306
   refine EndsW.go st306 ?_
   have g_b306 : n0 ≤ b306 := Nat.le_trans (own_old_le O0) (Nat.le_of_eq g306.symm)
   have sz_b306 : h0.size ≤ b306 := Nat.le_trans K0.1 (Nat.le_of_eq g306.symm)
   have K306 := K0.ext E306
   have O306 := O0.ext E306
   have F_kind_b306 : Fld Z h306 b306 "com/example/wakeline/wakeline/event/Value" "kind" "Lcom/example/wakeline/wakeline/event/Value$Kind;" .null := D306 (Or.inr (ow hw 34 rfl)) (ty := (.object "com/example/wakeline/wakeline/event/Value$Kind")) (by decide)
   have F_text_b306 : Fld Z h306 b306 "com/example/wakeline/wakeline/event/Value" "text" "Ljava/lang/String;" .null := D306 (Or.inr (ow hw 36 rfl)) (ty := (.object "java/lang/String")) (by decide)
   refine wduW X306 hx hby at_79 rfl ?_
   show EndsW _ _ _ _ T306 (mkF m 80 #[ci p0, ci p1, ci p2, ci p3, ci 2, cu, cr w_STRING, ci 1, cu] [(.ref b306), (.ref b306)]) _ _ _
   refine walW X306 hx hby at_80 rfl rfl ?_
   refine wilW X306 hx hby at_82 rfl ?_
   refine wilNW X306 hx hby at_84 rfl ?_
   refine wilNW X306 hx hby at_85 rfl ?_
   show EndsW _ _ _ _ T306 (mkF m 86 #[ci p0, ci p1, ci p2, ci p3, ci 2, cu, cr w_STRING, ci 1, cu] [(.int p2), (.int p1), (.int 1), (.ref w_STRING), (.ref b306), (.ref b306)]) _ _ _
   obtain ⟨_, _, ⟨T324, L324, k324, n324⟩, -, X324, ⟨Lc324, hQ324, l324, y324, z324⟩, st324⟩ := Jvm.LawKit.callS X306 hx (y := ym26) hown (mvT hZ (ow hw 139 rfl)) (mvT hZ (ow hw 140 rfl)) (mvT hZ (ow hw 57 rfl)) (mvT hZ (ow hw 141 rfl)) (by decide) (own_backOf (W := 3) (rx28_307 l Z a0 hw [] n0 h306 O306 G1 G3 w_NULL w_NUMBER w_NULL2 w_STRING GF p1 p2 ) hZ (ow hw 141 rfl) (ow hw 57 rfl) (by decide) (by decide)) (g := (mkF m 86 #[ci p0, ci p1, ci p2, ci p3, ci 2, cu, cr w_STRING, ci 1, cu] [(.int p2), (.int p1), (.int 1), (.ref w_STRING), (.ref b306), (.ref b306)])) rfl (by rw [hml]; rfl) (argsL := [(.int 1), (.int p1), (.int p2)]) (rest := [(.ref w_STRING), (.ref b306), (.ref b306)]) (lenOf pdx_24 rfl) rfl (by show 2 * 0 + _ ≤ _; exact Nat.le_of_eq rfl) (hb hby at_86) (fun _ _ => ⟨rfl, e306, (by decide : 1 + 2 ≤ _), (by decide : 2 + 5 ≤ _)⟩)
   dsimp only [Pt.U, Pt.locs, Pt.cells, Pt.slots] at X324 l324 y324 z324 st324 hQ324
   subst l324 y324 z324
   obtain ⟨b325, b326, k327, rfl, N324q, K324c, hb324_b325, hb324_b326, hne324_b325_b326, Y324_0, Y324_1, Y324_2, Y324_3⟩ := hQ324
   have N324 := Fr.app N0 N324q
   refine EndsW.go st324 ?_
   have g_b325 : n0 ≤ b325 := Nat.le_trans (own_old_le O306) hb324_b325
   have sz_b325 : h0.size ≤ b325 := Nat.le_trans K306.1 hb324_b325
   have g_b326 : n0 ≤ b326 := Nat.le_trans (own_old_le O306) hb324_b326
   have sz_b326 : h0.size ≤ b326 := Nat.le_trans K306.1 hb324_b326
   obtain ⟨h324, e324⟩ : ∃ z, T324.heap = z := ⟨_, rfl⟩
   rw [e324] at K324c Y324_0 Y324_1 Y324_2 Y324_3
   have K324 := K306.trans K324c all0
   have O324 := O306.keep K324c all0
   obtain ⟨_, _, ⟨T328, L328, k328, n328⟩, -, X328, hSq328, hgq328, ⟨Lc328, hQ328, l328, y328, z328⟩, st328⟩ := X324.specialBackS hx (y := ym4) rfl hown (mvT hZ (ow hw 7 rfl)) (mvT hZ (ow hw 8 rfl)) (mvT hZ (ow hw 9 rfl)) (by decide) (own_backOfS (W := 1) (rx1_286 l Z a0 hw [] n0 h324 O324 G1 G3 w_NULL w_NUMBER w_NULL2 w_STRING GF b306 b325 (A306.keep K324c) (F_kind_b306.keep K324c nin0) (F_text_b306.keep K324c nin0) g_b306) hZ (ow hw 9 rfl) (ow hw 6 rfl) (by decide) (by decide) (fun q_ => by cases q_)) (g := (mkF m 89 #[ci p0, ci p1, ci p2, ci p3, ci 2, cu, cr w_STRING, ci 1, cu] [(.ref b325), (.ref w_STRING), (.ref b306), (.ref b306)])) rfl (by rw [hml]; rfl) (Steps.refl _) (a := b306) (argsL := [(.ref w_STRING), (.ref b325)]) (rest := [(.ref b306)]) (lenOf pdx_2 rfl) rfl (by show 2 * 0 + _ ≤ _; exact Nat.le_of_eq rfl) (hb hby at_89) (fun _ _ => ⟨rfl, e324, (by decide : 3 + 2 ≤ _), (by decide : 7 + 20 ≤ _)⟩)
   dsimp only [Pt.U, Pt.locs, Pt.cells, Pt.slots] at X328 l328 y328 z328 st328 hQ328 hSq328 hgq328
   subst l328 y328 z328
   have hS328 := foldS hS0 (Nat.le_trans (Nat.le_trans (Nat.le_trans hk0 E306.1) K324c.1) (Nat.le_of_eq (congrArg Array.size e324.symm))) hSq328 hgq328
   have hZ : Z.Warmed39 T328.vm := State.Warmed39.trans (t := s.setVm s.vm) hZ hSq328.1
   have hown : T328.vm.findClass "com/example/wakeline/wakeline/event/ValueIsNullPinLaw" = some m.cls := by rw [hSq328.1.alike.findClass]; exact hown
   obtain ⟨rfl, N328q, K328c, Y328_0, Y328_1⟩ := hQ328
   have N328 := Fr.app N324 N328q
   refine EndsW.go (fun _ k => st328.trans k) ?_
   obtain ⟨h328, e328⟩ : ∃ z, T328.heap = z := ⟨_, rfl⟩
   rw [e328] at K328c Y328_0 Y328_1
   have K328 := K324.trans K328c (allS (Or.inr sz_b306) all0)
   have O328 := O324.keep K328c (allS g_b306 all0)
   refine wasW X328 hx hby at_92 (l' := #[ci p0, ci p1, ci p2, ci p3, ci 2, cr b306, cr w_STRING, ci 1, cu]) rfl rfl ?_
   refine wilW X328 hx hby at_94 rfl ?_
   show EndsW _ _ _ _ T328 (mkF m 96 #[ci p0, ci p1, ci p2, ci p3, ci 2, cr b306, cr w_STRING, ci 1, cu] [(.int 2)]) _ _ _
   refine wiyW (pc := 96) (pc' := 103) X328 hx hby at_96 ((if0 _ _).trans (feq (by decide : ¬ ((2 : Int32) = (0 : Int32)))).2) (by decide) (by decide) ?_
   refine wicW X328 hx hby at_103 ?_
   refine wstW X328 hx hby at_104 (l' := #[ci p0, ci p1, ci p2, ci p3, ci 2, cr b306, cr w_STRING, ci 0, cu]) rfl ?_
   refine walW X328 hx hby at_106 rfl rfl ?_
   show EndsW _ _ _ _ T328 (mkF m 108 #[ci p0, ci p1, ci p2, ci p3, ci 2, cr b306, cr w_STRING, ci 0, cu] [(.ref b306)]) _ _ _
   obtain ⟨cq329, kq329, q329a, q329b, q329c⟩ := isOf hZ e328 ((A306.keep K324c).keep K328c)
   obtain ⟨_, _, ⟨T329, L329, k329, n329⟩, -, X329, ⟨Lc329, hQ329, l329, y329, z329⟩, st329⟩ := X328.virtualBack hx (y := ym5) (z := ym5) hown (mvT hZ (ow hw 37 rfl)) (mvT hZ (ow hw 38 rfl)) (notFace_of_selects (args := #[]) (mvT hZ (ow hw 40 rfl))) (mvT hZ (ow hw 40 rfl)) (mvT hZ (ow hw 39 rfl)) (by decide) (own_backOf (W := 0) (rx5_296 l Z a0 hw [] n0 h328 O328 G1 G3 w_NULL w_NUMBER w_NULL2 w_STRING GF b306 Y328_0) hZ (ow hw 41 rfl) (ow hw 6 rfl) (by decide) (by decide)) q329a q329c (g := (mkF m 108 #[ci p0, ci p1, ci p2, ci p3, ci 2, cr b306, cr w_STRING, ci 0, cu] [(.ref b306)])) rfl (by rw [hml]; rfl) (Steps.refl _) (argsL := []) (rest := []) (lenOf pdx_3 rfl) rfl (by show 2 * 0 + _ ≤ _; exact Nat.le_of_eq rfl) (hb hby at_108) (fun _ _ => ⟨rfl, e328, (by decide : 5 + 0 ≤ _), (by decide : 27 + 0 ≤ _)⟩)
   dsimp only [Pt.U, Pt.locs, Pt.cells, Pt.slots] at X329 l329 y329 z329 st329 hQ329
   subst l329 y329 z329
   obtain ⟨rfl, N329q, K329c⟩ := hQ329
   have N329 := Fr.app N328 N329q
   refine EndsW.go (fun _ k => st329.trans k) ?_
   obtain ⟨h329, e329⟩ : ∃ z, T329.heap = z := ⟨_, rfl⟩
   rw [e329] at K329c
   have K329 := K328.trans K329c all0
   have O329 := O328.keep K329c all0
   refine wstW X329 hx hby at_111 (l' := #[ci p0, ci p1, ci p2, ci p3, ci 2, cr b306, cr w_STRING, ci 0, ci 0]) rfl ?_
   refine wilW X329 hx hby at_113 rfl ?_
   refine wilW X329 hx hby at_115 rfl ?_
   show EndsW _ _ _ _ T329 (mkF m 117 #[ci p0, ci p1, ci p2, ci p3, ci 2, cr b306, cr w_STRING, ci 0, ci 0] [(.int 0), (.int 0)]) _ _ _
   refine wcnW X329 hx hby at_117 (teq (by decide : (0 : Int32) = (0 : Int32))).2 ?_
   refine wilW X329 hx hby at_120 rfl ?_
   refine walW X329 hx hby at_122 rfl rfl ?_
   obtain ⟨cq330, kq330, q330a, q330b, q330c⟩ := isOf hZ e329 (((A306.keep K324c).keep K328c).keep K329c)
   obtain ⟨_, _, ⟨T330, L330, k330, n330⟩, -, X330, ⟨Lc330, hQ330, l330, y330, z330⟩, st330⟩ := X329.virtualBack hx (y := ym6) (z := ym6) hown (mvT hZ (ow hw 42 rfl)) (mvT hZ (ow hw 43 rfl)) (notFace_of_selects (args := #[]) (mvT hZ (ow hw 45 rfl))) (mvT hZ (ow hw 45 rfl)) (mvT hZ (ow hw 44 rfl)) (by decide) (own_backOf (W := 1) (rx6_101 l Z a0 hw [] n0 h329 O329  b306 b325 (Y328_1.keep K329c nin0)) hZ (ow hw 46 rfl) (ow hw 6 rfl) (by decide) (by decide)) q330a q330c (g := (mkF m 124 #[ci p0, ci p1, ci p2, ci p3, ci 2, cr b306, cr w_STRING, ci 0, ci 0] [(.ref b306), (.int 0)])) rfl (by rw [hml]; rfl) (Steps.refl _) (argsL := []) (rest := [(.int 0)]) (lenOf pdx_4 rfl) rfl (by show 2 * 0 + _ ≤ _; exact Nat.le_of_eq rfl) (hb hby at_124) (fun _ _ => ⟨rfl, e329, (by decide : 5 + 0 ≤ _), (by decide : 27 + 0 ≤ _)⟩)
   dsimp only [Pt.U, Pt.locs, Pt.cells, Pt.slots] at X330 l330 y330 z330 st330 hQ330
   subst l330 y330 z330
   obtain ⟨rfl, N330q, K330c⟩ := hQ330
   have N330 := Fr.app N329 N330q
   refine EndsW.go (fun _ k => st330.trans k) ?_
   obtain ⟨h330, e330⟩ : ∃ z, T330.heap = z := ⟨_, rfl⟩
   rw [e330] at K330c
   have K330 := K329.trans K330c all0
   have O330 := O329.keep K330c all0
   show EndsW _ _ _ _ T330 (mkF m 127 #[ci p0, ci p1, ci p2, ci p3, ci 2, cr b306, cr w_STRING, ci 0, ci 0] [(.ref b325), (.int 0)]) _ _ _
   refine .go (fun _ => XS.ifnonnullYes X330.here hx rfl (pc0 := 127) (pc' := 134) rfl (hb hby at_127) rfl (by decide) (by decide)) ?_
   refine wicW X330 hx hby at_134 ?_
   refine wcnW X330 hx hby at_135 (teq (by decide : (0 : Int32) = (0 : Int32))).2 ?_
   refine walW X330 hx hby at_138 rfl rfl ?_
   show EndsW _ _ _ _ T330 (mkF m 140 #[ci p0, ci p1, ci p2, ci p3, ci 2, cr b306, cr w_STRING, ci 0, ci 0] [(.ref b306)]) _ _ _
   obtain ⟨cq331, kq331, q331a, q331b, q331c⟩ := isOf hZ e330 ((((A306.keep K324c).keep K328c).keep K329c).keep K330c)
   obtain ⟨_, _, ⟨T331, L331, k331, n331⟩, -, X331, ⟨Lc331, hQ331, l331, y331, z331⟩, st331⟩ := X330.virtualBack hx (y := ym7) (z := ym7) hown (mvT hZ (ow hw 47 rfl)) (mvT hZ (ow hw 48 rfl)) (notFace_of_selects (args := #[]) (mvT hZ (ow hw 50 rfl))) (mvT hZ (ow hw 50 rfl)) (mvT hZ (ow hw 49 rfl)) (by decide) (own_backOf (W := 0) (rx7_301 l Z a0 hw [] n0 h330 O330 G1 G3 w_NULL w_NUMBER w_NULL2 w_STRING GF b306 ((Y328_0.keep K329c nin0).keep K330c nin0)) hZ (ow hw 51 rfl) (ow hw 6 rfl) (by decide) (by decide)) q331a q331c (g := (mkF m 140 #[ci p0, ci p1, ci p2, ci p3, ci 2, cr b306, cr w_STRING, ci 0, ci 0] [(.ref b306)])) rfl (by rw [hml]; rfl) (Steps.refl _) (argsL := []) (rest := []) (lenOf pdx_5 rfl) rfl (by show 2 * 0 + _ ≤ _; exact Nat.le_of_eq rfl) (hb hby at_140) (fun _ _ => ⟨rfl, e330, (by decide : 5 + 0 ≤ _), (by decide : 27 + 0 ≤ _)⟩)
   dsimp only [Pt.U, Pt.locs, Pt.cells, Pt.slots] at X331 l331 y331 z331 st331 hQ331
   subst l331 y331 z331
   obtain ⟨rfl, N331q, K331c⟩ := hQ331
   have N331 := Fr.app N330 N331q
   refine EndsW.go (fun _ k => st331.trans k) ?_
   obtain ⟨h331, e331⟩ : ∃ z, T331.heap = z := ⟨_, rfl⟩
   rw [e331] at K331c
   have K331 := K330.trans K331c all0
   have O331 := O330.keep K331c all0
   refine walW X331 hx hby at_143 rfl rfl ?_
   refine .go (fun _ => Jvm.RoadKit.acmp (g := (mkF m 145 #[ci p0, ci p1, ci p2, ci p3, ci 2, cr b306, cr w_STRING, ci 0, ci 0] [(.ref w_STRING), (.ref w_STRING)])) X331 hx rfl rfl rfl (pc0 := 145) (pc' := 148) (same := true) rfl (hb hby at_145) rfl (decide_eq_true rfl) (by decide) (by decide)) ?_
   obtain ⟨T332, X332, e332, st332⟩ := getS2 X331 hx hZ hown (host := "") (Or.inl (ow hw 52 rfl)) Via.refl e331 (S_NULL2.ext O331.2) (g := (mkF m 148 #[ci p0, ci p1, ci p2, ci p3, ci 2, cr b306, cr w_STRING, ci 0, ci 0] [])) rfl (hb hby at_148)
   refine EndsW.go st332 ?_
   show EndsW _ _ _ _ T332 (mkF m 151 #[ci p0, ci p1, ci p2, ci p3, ci 2, cr b306, cr w_STRING, ci 0, ci 0] [(.ref w_NULL2)]) _ _ _
   obtain ⟨cq333, kq333, q333a, q333b, q333c⟩ := isOf hZ e332 (E_NULL2.ext O331.2)
   obtain ⟨_, _, ⟨T333, L333, k333, n333⟩, -, X333, ⟨Lc333, hQ333, l333, y333, z333⟩, st333⟩ := X332.virtualBack hx (y := ym5) (z := ym5) hown (mvT hZ (ow hw 37 rfl)) (mvT hZ (ow hw 38 rfl)) (notFace_of_selects (args := #[]) (mvT hZ (ow hw 40 rfl))) (mvT hZ (ow hw 40 rfl)) (mvT hZ (ow hw 39 rfl)) (by decide) (own_backOf (W := 0) (rx5_27 l Z a0 hw [] n0 h331 O331 G1 G3 w_NULL w_NUMBER w_NULL2 w_STRING GF  ) hZ (ow hw 41 rfl) (ow hw 6 rfl) (by decide) (by decide)) q333a q333c (g := (mkF m 151 #[ci p0, ci p1, ci p2, ci p3, ci 2, cr b306, cr w_STRING, ci 0, ci 0] [(.ref w_NULL2)])) rfl (by rw [hml]; rfl) (Steps.refl _) (argsL := []) (rest := []) (lenOf pdx_3 rfl) rfl (by show 2 * 0 + _ ≤ _; exact Nat.le_of_eq rfl) (hb hby at_151) (fun _ _ => ⟨rfl, e332, (by decide : 5 + 0 ≤ _), (by decide : 27 + 0 ≤ _)⟩)
   dsimp only [Pt.U, Pt.locs, Pt.cells, Pt.slots] at X333 l333 y333 z333 st333 hQ333
   subst l333 y333 z333
   obtain ⟨rfl, N333q, K333c⟩ := hQ333
   have N333 := Fr.app N331 N333q
   refine EndsW.go (fun _ k => st333.trans k) ?_
   obtain ⟨h333, e333⟩ : ∃ z, T333.heap = z := ⟨_, rfl⟩
   rw [e333] at K333c
   have K333 := K331.trans K333c all0
   have O333 := O331.keep K333c all0
   refine winW X333 hx hby at_154 ((if0 _ _).trans (feq (by decide : ¬ ((1 : Int32) = (0 : Int32)))).1) ?_
   refine wicW X333 hx hby at_157 ?_
   refine wgoW (pc := 158) (pc' := 162) X333 hx hby at_158 (by decide) (by decide) ?_
   show EndsW _ _ _ _ T333 (mkF m 162 #[ci p0, ci p1, ci p2, ci p3, ci 2, cr b306, cr w_STRING, ci 0, ci 0] [(.int 1)]) _ _ _
   refine EndsW.retZ (s := s) (vm := T328.vm) X333 hx hS328 (Nat.le_trans (Nat.le_trans (Nat.le_trans (Nat.le_trans (Nat.le_trans (Nat.le_of_eq (congrArg Array.size e328)) K329c.1) K330c.1) K331c.1) K333c.1) (Nat.le_of_eq (congrArg Array.size e333.symm))) Bd.notSynchronized (t := .boolean) Bd.returns (by simp) (hb hby at_162) (by decide) (by decide) ?_
   exact ⟨rfl, N333⟩
  ·show EndsW _ _ _ _ T264 (mkF m 74 #[ci p0, ci p1, ci p2, ci p3, ci 2, cu, cr w_STRING, cu, cu] [(.int 2)]) _ _ _
   refine wstW X264 hx hby at_74 (l' := #[ci p0, ci p1, ci p2, ci p3, ci 2, cu, cr w_STRING, ci 2, cu]) rfl ?_
   obtain ⟨T334, h334, X334, e334, E334, A334, D334, -, st334⟩ := newO X264 hx hZ hown (ow hw 4 rfl) (ow hw 5 rfl) (ow hw 6 rfl) e264 (g := (mkF m 76 #[ci p0, ci p1, ci p2, ci p3, ci 2, cu, cr w_STRING, ci 2, cu] [])) rfl (hb hby at_76) (by decide) (by decide)
   obtain ⟨b334, g334⟩ : ∃ z, z = h0.size := ⟨_, rfl⟩
   rw [← g334] at A334 D334 st334
   refine EndsW.go st334 ?_
   have g_b334 : n0 ≤ b334 := Nat.le_trans (own_old_le O0) (Nat.le_of_eq g334.symm)
   have sz_b334 : h0.size ≤ b334 := Nat.le_trans K0.1 (Nat.le_of_eq g334.symm)
   have K334 := K0.ext E334
   have O334 := O0.ext E334
   have F_kind_b334 : Fld Z h334 b334 "com/example/wakeline/wakeline/event/Value" "kind" "Lcom/example/wakeline/wakeline/event/Value$Kind;" .null := D334 (Or.inr (ow hw 34 rfl)) (ty := (.object "com/example/wakeline/wakeline/event/Value$Kind")) (by decide)
   have F_text_b334 : Fld Z h334 b334 "com/example/wakeline/wakeline/event/Value" "text" "Ljava/lang/String;" .null := D334 (Or.inr (ow hw 36 rfl)) (ty := (.object "java/lang/String")) (by decide)
   refine wduW X334 hx hby at_79 rfl ?_
   show EndsW _ _ _ _ T334 (mkF m 80 #[ci p0, ci p1, ci p2, ci p3, ci 2, cu, cr w_STRING, ci 2, cu] [(.ref b334), (.ref b334)]) _ _ _
   refine walW X334 hx hby at_80 rfl rfl ?_
   refine wilW X334 hx hby at_82 rfl ?_
   refine wilNW X334 hx hby at_84 rfl ?_
   refine wilNW X334 hx hby at_85 rfl ?_
   show EndsW _ _ _ _ T334 (mkF m 86 #[ci p0, ci p1, ci p2, ci p3, ci 2, cu, cr w_STRING, ci 2, cu] [(.int p2), (.int p1), (.int 2), (.ref w_STRING), (.ref b334), (.ref b334)]) _ _ _
   obtain ⟨_, _, ⟨T367, L367, k367, n367⟩, -, X367, ⟨Lc367, hQ367, l367, y367, z367⟩, st367⟩ := Jvm.LawKit.callS X334 hx (y := ym26) hown (mvT hZ (ow hw 139 rfl)) (mvT hZ (ow hw 140 rfl)) (mvT hZ (ow hw 57 rfl)) (mvT hZ (ow hw 141 rfl)) (by decide) (own_backOf (W := 3) (rx28_335 l Z a0 hw [] n0 h334 O334 G1 G3 w_NULL w_NUMBER w_NULL2 w_STRING GF p1 p2 ) hZ (ow hw 141 rfl) (ow hw 57 rfl) (by decide) (by decide)) (g := (mkF m 86 #[ci p0, ci p1, ci p2, ci p3, ci 2, cu, cr w_STRING, ci 2, cu] [(.int p2), (.int p1), (.int 2), (.ref w_STRING), (.ref b334), (.ref b334)])) rfl (by rw [hml]; rfl) (argsL := [(.int 2), (.int p1), (.int p2)]) (rest := [(.ref w_STRING), (.ref b334), (.ref b334)]) (lenOf pdx_24 rfl) rfl (by show 2 * 0 + _ ≤ _; exact Nat.le_of_eq rfl) (hb hby at_86) (fun _ _ => ⟨rfl, e334, (by decide : 1 + 3 ≤ _), (by decide : 2 + 8 ≤ _)⟩)
   dsimp only [Pt.U, Pt.locs, Pt.cells, Pt.slots] at X367 l367 y367 z367 st367 hQ367
   subst l367 y367 z367
   obtain ⟨b368, b369, b370, k371, k372, rfl, N367q, K367c, hb367_b368, hb367_b369, hb367_b370, hne367_b368_b369, hne367_b368_b370, hne367_b369_b370, Y367_0, Y367_1, Y367_2, Y367_3, Y367_4⟩ := hQ367
   have N367 := Fr.app N0 N367q
   refine EndsW.go st367 ?_
   have g_b368 : n0 ≤ b368 := Nat.le_trans (own_old_le O334) hb367_b368
   have sz_b368 : h0.size ≤ b368 := Nat.le_trans K334.1 hb367_b368
   have g_b369 : n0 ≤ b369 := Nat.le_trans (own_old_le O334) hb367_b369
   have sz_b369 : h0.size ≤ b369 := Nat.le_trans K334.1 hb367_b369
   have g_b370 : n0 ≤ b370 := Nat.le_trans (own_old_le O334) hb367_b370
   have sz_b370 : h0.size ≤ b370 := Nat.le_trans K334.1 hb367_b370
   obtain ⟨h367, e367⟩ : ∃ z, T367.heap = z := ⟨_, rfl⟩
   rw [e367] at K367c Y367_0 Y367_1 Y367_2 Y367_3 Y367_4
   have K367 := K334.trans K367c all0
   have O367 := O334.keep K367c all0
   obtain ⟨_, _, ⟨T373, L373, k373, n373⟩, -, X373, hSq373, hgq373, ⟨Lc373, hQ373, l373, y373, z373⟩, st373⟩ := X367.specialBackS hx (y := ym4) rfl hown (mvT hZ (ow hw 7 rfl)) (mvT hZ (ow hw 8 rfl)) (mvT hZ (ow hw 9 rfl)) (by decide) (own_backOfS (W := 1) (rx1_286 l Z a0 hw [] n0 h367 O367 G1 G3 w_NULL w_NUMBER w_NULL2 w_STRING GF b334 b368 (A334.keep K367c) (F_kind_b334.keep K367c nin0) (F_text_b334.keep K367c nin0) g_b334) hZ (ow hw 9 rfl) (ow hw 6 rfl) (by decide) (by decide) (fun q_ => by cases q_)) (g := (mkF m 89 #[ci p0, ci p1, ci p2, ci p3, ci 2, cu, cr w_STRING, ci 2, cu] [(.ref b368), (.ref w_STRING), (.ref b334), (.ref b334)])) rfl (by rw [hml]; rfl) (Steps.refl _) (a := b334) (argsL := [(.ref w_STRING), (.ref b368)]) (rest := [(.ref b334)]) (lenOf pdx_2 rfl) rfl (by show 2 * 0 + _ ≤ _; exact Nat.le_of_eq rfl) (hb hby at_89) (fun _ _ => ⟨rfl, e367, (by decide : 4 + 2 ≤ _), (by decide : 10 + 20 ≤ _)⟩)
   dsimp only [Pt.U, Pt.locs, Pt.cells, Pt.slots] at X373 l373 y373 z373 st373 hQ373 hSq373 hgq373
   subst l373 y373 z373
   have hS373 := foldS hS0 (Nat.le_trans (Nat.le_trans (Nat.le_trans hk0 E334.1) K367c.1) (Nat.le_of_eq (congrArg Array.size e367.symm))) hSq373 hgq373
   have hZ : Z.Warmed39 T373.vm := State.Warmed39.trans (t := s.setVm s.vm) hZ hSq373.1
   have hown : T373.vm.findClass "com/example/wakeline/wakeline/event/ValueIsNullPinLaw" = some m.cls := by rw [hSq373.1.alike.findClass]; exact hown
   obtain ⟨rfl, N373q, K373c, Y373_0, Y373_1⟩ := hQ373
   have N373 := Fr.app N367 N373q
   refine EndsW.go (fun _ k => st373.trans k) ?_
   obtain ⟨h373, e373⟩ : ∃ z, T373.heap = z := ⟨_, rfl⟩
   rw [e373] at K373c Y373_0 Y373_1
   have K373 := K367.trans K373c (allS (Or.inr sz_b334) all0)
   have O373 := O367.keep K373c (allS g_b334 all0)
   refine wasW X373 hx hby at_92 (l' := #[ci p0, ci p1, ci p2, ci p3, ci 2, cr b334, cr w_STRING, ci 2, cu]) rfl rfl ?_
   refine wilW X373 hx hby at_94 rfl ?_
   show EndsW _ _ _ _ T373 (mkF m 96 #[ci p0, ci p1, ci p2, ci p3, ci 2, cr b334, cr w_STRING, ci 2, cu] [(.int 2)]) _ _ _
   refine wiyW (pc := 96) (pc' := 103) X373 hx hby at_96 ((if0 _ _).trans (feq (by decide : ¬ ((2 : Int32) = (0 : Int32)))).2) (by decide) (by decide) ?_
   refine wicW X373 hx hby at_103 ?_
   refine wstW X373 hx hby at_104 (l' := #[ci p0, ci p1, ci p2, ci p3, ci 2, cr b334, cr w_STRING, ci 0, cu]) rfl ?_
   refine walW X373 hx hby at_106 rfl rfl ?_
   show EndsW _ _ _ _ T373 (mkF m 108 #[ci p0, ci p1, ci p2, ci p3, ci 2, cr b334, cr w_STRING, ci 0, cu] [(.ref b334)]) _ _ _
   obtain ⟨cq374, kq374, q374a, q374b, q374c⟩ := isOf hZ e373 ((A334.keep K367c).keep K373c)
   obtain ⟨_, _, ⟨T374, L374, k374, n374⟩, -, X374, ⟨Lc374, hQ374, l374, y374, z374⟩, st374⟩ := X373.virtualBack hx (y := ym5) (z := ym5) hown (mvT hZ (ow hw 37 rfl)) (mvT hZ (ow hw 38 rfl)) (notFace_of_selects (args := #[]) (mvT hZ (ow hw 40 rfl))) (mvT hZ (ow hw 40 rfl)) (mvT hZ (ow hw 39 rfl)) (by decide) (own_backOf (W := 0) (rx5_296 l Z a0 hw [] n0 h373 O373 G1 G3 w_NULL w_NUMBER w_NULL2 w_STRING GF b334 Y373_0) hZ (ow hw 41 rfl) (ow hw 6 rfl) (by decide) (by decide)) q374a q374c (g := (mkF m 108 #[ci p0, ci p1, ci p2, ci p3, ci 2, cr b334, cr w_STRING, ci 0, cu] [(.ref b334)])) rfl (by rw [hml]; rfl) (Steps.refl _) (argsL := []) (rest := []) (lenOf pdx_3 rfl) rfl (by show 2 * 0 + _ ≤ _; exact Nat.le_of_eq rfl) (hb hby at_108) (fun _ _ => ⟨rfl, e373, (by decide : 6 + 0 ≤ _), (by decide : 30 + 0 ≤ _)⟩)
   dsimp only [Pt.U, Pt.locs, Pt.cells, Pt.slots] at X374 l374 y374 z374 st374 hQ374
   subst l374 y374 z374
   obtain ⟨rfl, N374q, K374c⟩ := hQ374
   have N374 := Fr.app N373 N374q
   refine EndsW.go (fun _ k => st374.trans k) ?_
   obtain ⟨h374, e374⟩ : ∃ z, T374.heap = z := ⟨_, rfl⟩
   rw [e374] at K374c
   have K374 := K373.trans K374c all0
   have O374 := O373.keep K374c all0
   refine wstW X374 hx hby at_111 (l' := #[ci p0, ci p1, ci p2, ci p3, ci 2, cr b334, cr w_STRING, ci 0, ci 0]) rfl ?_
   refine wilW X374 hx hby at_113 rfl ?_
   refine wilW X374 hx hby at_115 rfl ?_
   show EndsW _ _ _ _ T374 (mkF m 117 #[ci p0, ci p1, ci p2, ci p3, ci 2, cr b334, cr w_STRING, ci 0, ci 0] [(.int 0), (.int 0)]) _ _ _
   refine wcnW X374 hx hby at_117 (teq (by decide : (0 : Int32) = (0 : Int32))).2 ?_
   refine wilW X374 hx hby at_120 rfl ?_
   refine walW X374 hx hby at_122 rfl rfl ?_
   obtain ⟨cq375, kq375, q375a, q375b, q375c⟩ := isOf hZ e374 (((A334.keep K367c).keep K373c).keep K374c)
   obtain ⟨_, _, ⟨T375, L375, k375, n375⟩, -, X375, ⟨Lc375, hQ375, l375, y375, z375⟩, st375⟩ := X374.virtualBack hx (y := ym6) (z := ym6) hown (mvT hZ (ow hw 42 rfl)) (mvT hZ (ow hw 43 rfl)) (notFace_of_selects (args := #[]) (mvT hZ (ow hw 45 rfl))) (mvT hZ (ow hw 45 rfl)) (mvT hZ (ow hw 44 rfl)) (by decide) (own_backOf (W := 1) (rx6_101 l Z a0 hw [] n0 h374 O374  b334 b368 (Y373_1.keep K374c nin0)) hZ (ow hw 46 rfl) (ow hw 6 rfl) (by decide) (by decide)) q375a q375c (g := (mkF m 124 #[ci p0, ci p1, ci p2, ci p3, ci 2, cr b334, cr w_STRING, ci 0, ci 0] [(.ref b334), (.int 0)])) rfl (by rw [hml]; rfl) (Steps.refl _) (argsL := []) (rest := [(.int 0)]) (lenOf pdx_4 rfl) rfl (by show 2 * 0 + _ ≤ _; exact Nat.le_of_eq rfl) (hb hby at_124) (fun _ _ => ⟨rfl, e374, (by decide : 6 + 0 ≤ _), (by decide : 30 + 0 ≤ _)⟩)
   dsimp only [Pt.U, Pt.locs, Pt.cells, Pt.slots] at X375 l375 y375 z375 st375 hQ375
   subst l375 y375 z375
   obtain ⟨rfl, N375q, K375c⟩ := hQ375
   have N375 := Fr.app N374 N375q
   refine EndsW.go (fun _ k => st375.trans k) ?_
   obtain ⟨h375, e375⟩ : ∃ z, T375.heap = z := ⟨_, rfl⟩
   rw [e375] at K375c
   have K375 := K374.trans K375c all0
   have O375 := O374.keep K375c all0
   show EndsW _ _ _ _ T375 (mkF m 127 #[ci p0, ci p1, ci p2, ci p3, ci 2, cr b334, cr w_STRING, ci 0, ci 0] [(.ref b368), (.int 0)]) _ _ _
   refine .go (fun _ => XS.ifnonnullYes X375.here hx rfl (pc0 := 127) (pc' := 134) rfl (hb hby at_127) rfl (by decide) (by decide)) ?_
   refine wicW X375 hx hby at_134 ?_
   refine wcnW X375 hx hby at_135 (teq (by decide : (0 : Int32) = (0 : Int32))).2 ?_
   refine walW X375 hx hby at_138 rfl rfl ?_
   show EndsW _ _ _ _ T375 (mkF m 140 #[ci p0, ci p1, ci p2, ci p3, ci 2, cr b334, cr w_STRING, ci 0, ci 0] [(.ref b334)]) _ _ _
   obtain ⟨cq376, kq376, q376a, q376b, q376c⟩ := isOf hZ e375 ((((A334.keep K367c).keep K373c).keep K374c).keep K375c)
   obtain ⟨_, _, ⟨T376, L376, k376, n376⟩, -, X376, ⟨Lc376, hQ376, l376, y376, z376⟩, st376⟩ := X375.virtualBack hx (y := ym7) (z := ym7) hown (mvT hZ (ow hw 47 rfl)) (mvT hZ (ow hw 48 rfl)) (notFace_of_selects (args := #[]) (mvT hZ (ow hw 50 rfl))) (mvT hZ (ow hw 50 rfl)) (mvT hZ (ow hw 49 rfl)) (by decide) (own_backOf (W := 0) (rx7_301 l Z a0 hw [] n0 h375 O375 G1 G3 w_NULL w_NUMBER w_NULL2 w_STRING GF b334 ((Y373_0.keep K374c nin0).keep K375c nin0)) hZ (ow hw 51 rfl) (ow hw 6 rfl) (by decide) (by decide)) q376a q376c (g := (mkF m 140 #[ci p0, ci p1, ci p2, ci p3, ci 2, cr b334, cr w_STRING, ci 0, ci 0] [(.ref b334)])) rfl (by rw [hml]; rfl) (Steps.refl _) (argsL := []) (rest := []) (lenOf pdx_5 rfl) rfl (by show 2 * 0 + _ ≤ _; exact Nat.le_of_eq rfl) (hb hby at_140) (fun _ _ => ⟨rfl, e375, (by decide : 6 + 0 ≤ _), (by decide : 30 + 0 ≤ _)⟩)
   dsimp only [Pt.U, Pt.locs, Pt.cells, Pt.slots] at X376 l376 y376 z376 st376 hQ376
   subst l376 y376 z376
   obtain ⟨rfl, N376q, K376c⟩ := hQ376
   have N376 := Fr.app N375 N376q
   refine EndsW.go (fun _ k => st376.trans k) ?_
   obtain ⟨h376, e376⟩ : ∃ z, T376.heap = z := ⟨_, rfl⟩
   rw [e376] at K376c
   have K376 := K375.trans K376c all0
   have O376 := O375.keep K376c all0
   refine walW X376 hx hby at_143 rfl rfl ?_
   refine .go (fun _ => Jvm.RoadKit.acmp (g := (mkF m 145 #[ci p0, ci p1, ci p2, ci p3, ci 2, cr b334, cr w_STRING, ci 0, ci 0] [(.ref w_STRING), (.ref w_STRING)])) X376 hx rfl rfl rfl (pc0 := 145) (pc' := 148) (same := true) rfl (hb hby at_145) rfl (decide_eq_true rfl) (by decide) (by decide)) ?_
   obtain ⟨T377, X377, e377, st377⟩ := getS2 X376 hx hZ hown (host := "") (Or.inl (ow hw 52 rfl)) Via.refl e376 (S_NULL2.ext O376.2) (g := (mkF m 148 #[ci p0, ci p1, ci p2, ci p3, ci 2, cr b334, cr w_STRING, ci 0, ci 0] [])) rfl (hb hby at_148)
   refine EndsW.go st377 ?_
   show EndsW _ _ _ _ T377 (mkF m 151 #[ci p0, ci p1, ci p2, ci p3, ci 2, cr b334, cr w_STRING, ci 0, ci 0] [(.ref w_NULL2)]) _ _ _
   obtain ⟨cq378, kq378, q378a, q378b, q378c⟩ := isOf hZ e377 (E_NULL2.ext O376.2)
   obtain ⟨_, _, ⟨T378, L378, k378, n378⟩, -, X378, ⟨Lc378, hQ378, l378, y378, z378⟩, st378⟩ := X377.virtualBack hx (y := ym5) (z := ym5) hown (mvT hZ (ow hw 37 rfl)) (mvT hZ (ow hw 38 rfl)) (notFace_of_selects (args := #[]) (mvT hZ (ow hw 40 rfl))) (mvT hZ (ow hw 40 rfl)) (mvT hZ (ow hw 39 rfl)) (by decide) (own_backOf (W := 0) (rx5_27 l Z a0 hw [] n0 h376 O376 G1 G3 w_NULL w_NUMBER w_NULL2 w_STRING GF  ) hZ (ow hw 41 rfl) (ow hw 6 rfl) (by decide) (by decide)) q378a q378c (g := (mkF m 151 #[ci p0, ci p1, ci p2, ci p3, ci 2, cr b334, cr w_STRING, ci 0, ci 0] [(.ref w_NULL2)])) rfl (by rw [hml]; rfl) (Steps.refl _) (argsL := []) (rest := []) (lenOf pdx_3 rfl) rfl (by show 2 * 0 + _ ≤ _; exact Nat.le_of_eq rfl) (hb hby at_151) (fun _ _ => ⟨rfl, e377, (by decide : 6 + 0 ≤ _), (by decide : 30 + 0 ≤ _)⟩)
   dsimp only [Pt.U, Pt.locs, Pt.cells, Pt.slots] at X378 l378 y378 z378 st378 hQ378
   subst l378 y378 z378
   obtain ⟨rfl, N378q, K378c⟩ := hQ378
   have N378 := Fr.app N376 N378q
   refine EndsW.go (fun _ k => st378.trans k) ?_
   obtain ⟨h378, e378⟩ : ∃ z, T378.heap = z := ⟨_, rfl⟩
   rw [e378] at K378c
   have K378 := K376.trans K378c all0
   have O378 := O376.keep K378c all0
   refine winW X378 hx hby at_154 ((if0 _ _).trans (feq (by decide : ¬ ((1 : Int32) = (0 : Int32)))).1) ?_
   refine wicW X378 hx hby at_157 ?_
   refine wgoW (pc := 158) (pc' := 162) X378 hx hby at_158 (by decide) (by decide) ?_
   show EndsW _ _ _ _ T378 (mkF m 162 #[ci p0, ci p1, ci p2, ci p3, ci 2, cr b334, cr w_STRING, ci 0, ci 0] [(.int 1)]) _ _ _
   refine EndsW.retZ (s := s) (vm := T373.vm) X378 hx hS373 (Nat.le_trans (Nat.le_trans (Nat.le_trans (Nat.le_trans (Nat.le_trans (Nat.le_of_eq (congrArg Array.size e373)) K374c.1) K375c.1) K376c.1) K378c.1) (Nat.le_of_eq (congrArg Array.size e378.symm))) Bd.notSynchronized (t := .boolean) Bd.returns (by simp) (hb hby at_162) (by decide) (by decide) ?_
   exact ⟨rfl, N378⟩
set_option maxRecDepth 65536 in
set_option maxHeartbeats 40000000 in
theorem comes_1 {Post : Tables → Env → Array Value → State → Outcome → State → Prop} (hpost : ∀ tb e args s v u, (limb_1_1.after args s (.returned v) u = true ∧ limb_1_2.after args s (.returned v) u = true ∧ True) → ReturnedEndW s (.returned v) u (Jvm.fieldLocs frame_1_writes args s ++ Jvm.arrayLocs frame_1_arrays args s ++ Jvm.staticLocs frame_1_statics s) 24 2176 → Post tb e args s (.returned v) u) :
  ArmFor flags0 classFile x code maxLocals ret World_1 tables_1 room_1 Calls_1 rest_1 Pre_1 Post := by
 intro l hfl _ _ p e ha hc hk s m args below hf hA hF happ hP
 obtain ⟨hcalls, hrest, hpre⟩ := hP
 obtain ⟨-, -, -, hnamed, -, -, -, hat⟩ := (Spec.applies_iff hf).mp happ
 obtain ⟨hg, hn⟩ := and_e (Cond.before_iff.mp (show (Jvm.Cond.and given_1 narrow_1).before args s = true from hpre))
 obtain ⟨g0a, g0b⟩ := and_e hg
 obtain ⟨g1a, g1b⟩ := and_e g0b
 obtain ⟨g2a, g2b⟩ := and_e g1b
 obtain ⟨g3a, g3b⟩ := and_e g2b
 obtain ⟨w0, w1, w2, w3, rfl⟩ : ∃ w0 w1 w2 w3 : Value, args = #[w0, w1, w2, w3] := by
  have hs : args.size = 4 := by simpa [Cond.value, given_1] using g0a
  obtain ⟨L⟩ := args
  match L, hs with
  | [w0, w1, w2, w3], _ => exact ⟨w0, w1, w2, w3, rfl⟩
 have hw := fun d (hd : d ∈ tables_1) => atoms_spec (ws := Jvm.Cond.code x code maxLocals ret :: tables_1) hat d (List.mem_cons_of_mem _ hd)
 have hfit : Fit s := fun {y c} hc i hi => by
  obtain ⟨ha, rfl⟩ := Array.getElem?_eq_some_iff.mp hc
  have q := List.all_eq_true.mp ((Array.all_eq_true_iff_forall_mem.mp hF) _ (Array.getElem_mem ha)) i (List.mem_range.mpr hi)
  simpa [Array.getElem?_eq_getElem hi] using q
 obtain ⟨hsets, hown0⟩ := atoms_of _ (rest_1_c_eq ▸ (show rest_1_c.before _ s = true from hrest))
 have hr0 := Cond.before_iff.mp hown0
 obtain ⟨i0, ei0⟩ := is_v g1a
 obtain rfl : w0 = (.int i0) := Option.some.inj ei0
 obtain ⟨i1, ei1⟩ := is_v g2a
 obtain rfl : w1 = (.int i1) := Option.some.inj ei1
 obtain ⟨i2, ei2⟩ := is_v g3a
 obtain rfl : w2 = (.int i2) := Option.some.inj ei2
 obtain ⟨i3, ei3⟩ := is_v g3b
 obtain rfl : w3 = (.int i3) := Option.some.inj ei3
 obtain ⟨n0a, n0b⟩ := and_e hn
 obtain ⟨w_NULL, ev_NULL⟩ := exa_v n0a
 obtain ⟨n1a, n1b⟩ := and_e n0b
 obtain ⟨w_NUMBER, ev_NUMBER⟩ := exa_v n1a
 obtain ⟨n2a, n2b⟩ := and_e n1b
 obtain ⟨n3a, n3b⟩ := and_e n2b
 obtain ⟨n4a, n4b⟩ := and_e n3b
 obtain ⟨w_NULL2, ev_NULL2⟩ := exa_v n4a
 obtain ⟨n5a, n5b⟩ := and_e n4b
 obtain ⟨n6a, n6b⟩ := and_e n5b
 obtain ⟨w_STRING, ev_STRING⟩ := exa_v n6a
 obtain ⟨G1, ev1⟩ := is_v (Cond.before_iff.mp (hsets _ (List.mem_of_getElem? (i := 1) rfl)))
 have SCS := Sta.start ev1 (Or.inl (hsets _ (List.mem_of_getElem? (i := 0) rfl)))
 have P5 : ¬ G1 = (0 : Int32) := gotF (Cond.eq_ints ev1 rfl) (not_v (Cond.before_iff.mp (hsets _ (List.mem_of_getElem? (i := 2) rfl))))
 obtain ⟨G3, ev3, RG3⟩ := isR_v (Cond.before_iff.mp (hsets _ (List.mem_of_getElem? (i := 8) rfl)))
 have SSF := Sta.start ev3 (Or.inl (hsets _ (List.mem_of_getElem? (i := 7) rfl)))
 have HCST : Jvm.Lit.constHeld s "java/lang/String" 7 := hcalls.1 _ (List.mem_of_getElem? (i := 1) rfl)
 obtain ⟨n, o, h1, h2, h3, _, L, rfl, ⟨rfl, N⟩, hq⟩ := rm0 l s _ hw tables_1 s.heap.size s.heap (Old.start s) i0 i1 i2 i3 G1 G3 w_NULL w_NUMBER w_NULL2 w_STRING ⟨SCS, P5, SSF, RG3, HCST, (hsets _ (List.mem_of_getElem? (i := 2) rfl)), Sta.start ev_NULL (Or.inr ⟨(ow hw 2 rfl), (ow hw 3 rfl)⟩), Exa.start ev_NULL n0a, Sta.start ev_NUMBER (Or.inr ⟨(ow hw 2 rfl), (ow hw 32 rfl)⟩), Exa.start ev_NUMBER n1a, Fld.start ((fld_at ev_NULL).symm.trans (own_eqI n2a)), Fld.start ((fld_at ev_NUMBER).symm.trans (own_eqI n3a)), Sta.start ev_NULL2 (Or.inr ⟨(ow hw 6 rfl), (ow hw 53 rfl)⟩), Exa.start ev_NULL2 n4a, Fld.start ((fld_at ev_NULL2).symm.trans (own_eqR ev_NULL n5a)), Sta.start ev_STRING (Or.inr ⟨(ow hw 2 rfl), (ow hw 138 rfl)⟩), Exa.start ev_STRING n6a, Fld.start ((fld_at ev_STRING).symm.trans (own_eqI n6b))⟩ p e ha hc hk s m _ below hf ((Spec.applies_iff_loose hf).mp happ).1 ⟨rfl, State.Warmed39.refl s, rfl, fun _ => rfl⟩ trivial
 refine ⟨n, _, h1, h2, h3, hpost _ _ _ _ _ _ ⟨Cond.after_iff.mpr rfl, Cond.after_iff.mpr (eq_i res_at (Term.int_eval (1)) rfl), trivial⟩ ⟨hq.1, hq.2.1, hq.2.2.1, (hq.2.2.2.sift fun y hy => Or.inr (N y hy)).mono (by decide) (by decide)⟩⟩
theorem main_1_1 : Claimed_1_1 := comes_1 fun _ _ _ _ _ _ h hF => ⟨h.1, hF⟩
theorem main_1_2 : Claimed_1_2 := comes_1 fun _ _ _ _ _ _ h hF => ⟨h.2.1, hF⟩
end Jvm.Pilot.@@N@@
namespace Jvm.Pilot.@@N@@
open Jvm Jvm.ClassFile Sem Op Lib Jvm.Free Jvm.Stand Jvm.Pilot.@@N@@.Jvm.D
/-! MADE BY PROGRAM (witnessworld.py) out of the Statement's table words and the real class files: 25 classes; the members and pool entries that the words name. The judged class is class 1, her method 3. -/
namespace start1
open Jvm.ClassFile
def u (s : String) : CpInfo := .utf8 (stringToUtf16 s)
/-- a pool by its gaps: so many unusable entries, then the entry; so many at the end -/
def gap : Nat → List CpInfo → List CpInfo
  | 0, r => r
  | n + 1, r => .unusable :: gap n r
def poolList (es : List (Nat × CpInfo)) (last : Nat) : List CpInfo := es.foldr (fun e r => gap e.1 (e.2 :: r)) (gap last [])
def pool (es : List (Nat × CpInfo)) (last : Nat) : Array CpInfo := ⟨poolList es last⟩
def fileOf (pool : Array CpInfo) (this : Nat) (attrs : Array Attribute := #[]) (ms : Array MethodInfo := #[]) (fl : Nat := 33) (sup : Nat := 0) (ifs : Array Nat := #[]) (fds : Array FieldInfo := #[]) : ClassFile where
  minorVersion := 0
  majorVersion := 65
  constantPool := pool
  accessFlags := fl
  thisClass := this
  superClass := sup
  interfaces := ifs
  fields := fds
  methods := ms
  attributes := attrs
def plain (name : String) (sup : Option ClassId) : Class where
  name := name
  kind := .ordinary
  loader := none
  accessFlags := 33
  super := sup
  interfaces := #[]
  cf := none
  fields := #[]
  methods := #[]
  instanceTypes := #[]
  staticTypes := #[]
  resolved := #[]
  callSites := []
  init := .initialized
  statics := none
  mirror := none

def pool0 : Array CpInfo := pool [(5, u "<init>"), (0, u "()V"), (1, .class_ 10), (1, u "java/lang/Object")] 113

def k0c0 : Code := { maxStack := 0, maxLocals := 1, code := object_method_1_code, exceptionTable := #[], attributes := #[] }
def k0m0 : Method := { name := "<init>", desc := "()V", sig := { parameters := [], returnType := none }, accessFlags := 1, code := some k0c0 }
/-- java/lang/Object -/
def k0 : Class := { plain "java/lang/Object" none with
  accessFlags := 33
  interfaces := #[]
  cf := some (fileOf pool0 8 #[] #[{ accessFlags := 1, nameIndex := 5, descriptorIndex := 6, attributes := #[] }] 33 0 #[] #[])
  fields := #[]
  methods := #[k0m0]
  instanceTypes := #[]
  staticTypes := #[]
  resolved := Array.replicate 124 none
  statics := none }

def pool1 : Array CpInfo := pool [(2, .class_ 4), (1, u "java/lang/Object"), (0, u "<init>"), (0, u "()V"), (0, .class_ 8), (0, u "java/lang/String"), (0, .methodref 7 10), (0, .nameAndType 5 11), (0, u "([C)V"), (0, .methodref 7 13), (0, .nameAndType 14 15), (0, u "valueOf"), (0, u "(C)Ljava/lang/String;"), (0, .integer 2147483647), (0, .fieldref 18 19), (0, .class_ 20), (0, .nameAndType 21 22), (0, u "com/example/wakeline/wakeline/event/Value$Kind"), (0, u "NULL"), (0, u "Lcom/example/wakeline/wakeline/event/Value$Kind;"), (0, .class_ 24), (0, u "com/example/wakeline/wakeline/event/Value"), (0, .methodref 23 26), (0, .nameAndType 5 27), (0, u "(Lcom/example/wakeline/wakeline/event/Value$Kind;Ljava/lang/String;)V"), (0, .fieldref 18 29), (0, .nameAndType 30 22), (0, u "NUMBER"), (0, .methodref 32 33), (0, .class_ 34), (0, .nameAndType 35 36), (0, u "com/example/wakeline/wakeline/event/ValueIsNullPinLaw"), (0, u "drawnNumber"), (0, u "(II)Ljava/lang/String;"), (0, .fieldref 18 38), (0, .nameAndType 39 22), (0, u "STRING"), (0, .methodref 32 41), (0, .nameAndType 42 43), (0, u "drawnString"), (0, u "(III)Ljava/lang/String;"), (0, .methodref 23 45), (0, .nameAndType 46 47), (0, u "isNull"), (0, u "()Z"), (0, .methodref 23 49), (0, .nameAndType 50 51), (0, u "text"), (0, u "()Ljava/lang/String;"), (0, .methodref 23 53), (0, .nameAndType 54 55), (0, u "kind"), (0, u "()Lcom/example/wakeline/wakeline/event/Value$Kind;"), (0, .fieldref 23 57), (0, .nameAndType 21 58), (0, u "Lcom/example/wakeline/wakeline/event/Value;"), (3, u "law"), (0, u "(IIII)Z")] 4

def k1m0 : Method := { name := "<init>", desc := "()V", sig := { parameters := [], returnType := none }, accessFlags := 2, code := none }
def k1c1 : Code := { maxStack := 7, maxLocals := 3, code := method_2_code, exceptionTable := #[], attributes := #[] }
def k1m1 : Method := { name := "drawnString", desc := "(III)Ljava/lang/String;", sig := { parameters := [.int, .int, .int], returnType := some (.object "java/lang/String") }, accessFlags := 10, code := some k1c1 }
def k1c2 : Code := { maxStack := 6, maxLocals := 4, code := method_3_code, exceptionTable := #[], attributes := #[] }
def k1m2 : Method := { name := "drawnNumber", desc := "(II)Ljava/lang/String;", sig := { parameters := [.int, .int], returnType := some (.object "java/lang/String") }, accessFlags := 10, code := some k1c2 }
def k1c3 : Code := { maxStack := 6, maxLocals := 9, code := code, exceptionTable := #[], attributes := #[] }
def k1m3 : Method := { name := "law", desc := "(IIII)Z", sig := { parameters := [.int, .int, .int, .int], returnType := some .boolean }, accessFlags := 9, code := some k1c3 }
/-- com/example/wakeline/wakeline/event/ValueIsNullPinLaw -/
def k1 : Class := { plain "com/example/wakeline/wakeline/event/ValueIsNullPinLaw" (some 0) with
  accessFlags := 49
  interfaces := #[]
  cf := some (fileOf pool1 32 #[] #[{ accessFlags := 2, nameIndex := 5, descriptorIndex := 6, attributes := #[] }, { accessFlags := 10, nameIndex := 42, descriptorIndex := 43, attributes := #[] }, { accessFlags := 10, nameIndex := 35, descriptorIndex := 36, attributes := #[] }, { accessFlags := 9, nameIndex := 62, descriptorIndex := 63, attributes := #[] }] 49 2 #[] #[])
  fields := #[]
  methods := #[k1m0, k1m1, k1m2, k1m3]
  instanceTypes := #[]
  staticTypes := #[]
  resolved := Array.replicate 68 none
  statics := none }

def pool2 : Array CpInfo := pool [(1, .class_ 2), (0, u "java/lang/constant/Constable"), (0, .class_ 4), (0, u "java/lang/Object")] 6

/-- java/lang/constant/Constable -/
def k2 : Class := { plain "java/lang/constant/Constable" (some 0) with
  accessFlags := 1537
  interfaces := #[]
  cf := some (fileOf pool2 1 #[] #[] 1537 3 #[] #[])
  fields := #[]
  methods := #[]
  instanceTypes := #[]
  staticTypes := #[]
  resolved := Array.replicate 11 none
  statics := none }

def pool3 : Array CpInfo := pool [(1, .class_ 2), (0, u "java/lang/Comparable"), (0, .class_ 4), (0, u "java/lang/Object")] 7

/-- java/lang/Comparable -/
def k3 : Class := { plain "java/lang/Comparable" (some 0) with
  accessFlags := 1537
  interfaces := #[]
  cf := some (fileOf pool3 1 #[] #[] 1537 3 #[] #[])
  fields := #[]
  methods := #[]
  instanceTypes := #[]
  staticTypes := #[]
  resolved := Array.replicate 12 none
  statics := none }

def pool4 : Array CpInfo := pool [(1, .class_ 2), (0, u "java/io/Serializable"), (0, .class_ 4), (0, u "java/lang/Object")] 2

/-- java/io/Serializable -/
def k4 : Class := { plain "java/io/Serializable" (some 0) with
  accessFlags := 1537
  interfaces := #[]
  cf := some (fileOf pool4 1 #[] #[] 1537 3 #[] #[])
  fields := #[]
  methods := #[]
  instanceTypes := #[]
  staticTypes := #[]
  resolved := Array.replicate 7 none
  statics := none }

def pool5 : Array CpInfo := pool [(2, .class_ 4), (1, u "java/lang/Enum"), (0, u "name"), (0, u "Ljava/lang/String;"), (2, u "ordinal"), (0, u "I"), (1, .class_ 14), (1, u "java/lang/Object"), (4, u "hash"), (86, .class_ 108), (1, u "java/lang/Enum$EnumDesc"), (2, .class_ 112), (0, u "java/lang/constant/Constable"), (0, .class_ 114), (0, u "java/lang/Comparable"), (0, .class_ 116), (0, u "java/io/Serializable")] 87

/-- java/lang/Enum -/
def k5 : Class := { plain "java/lang/Enum" (some 0) with
  accessFlags := 1057
  interfaces := #[2, 3, 4]
  cf := some (fileOf pool5 2 #[.nestMembers #[106]] #[] 1057 12 #[111, 113, 115] #[{ accessFlags := 18, nameIndex := 5, descriptorIndex := 6, attributes := #[] }, { accessFlags := 18, nameIndex := 9, descriptorIndex := 10, attributes := #[] }, { accessFlags := 2, nameIndex := 19, descriptorIndex := 10, attributes := #[] }])
  fields := #[{ name := "name", type := (.object "java/lang/String"), accessFlags := 18, slot := 0, constantValue := 0 }, { name := "ordinal", type := .int, accessFlags := 18, slot := 1, constantValue := 0 }, { name := "hash", type := .int, accessFlags := 2, slot := 2, constantValue := 0 }]
  methods := #[]
  instanceTypes := #[(.object "java/lang/String"), .int, .int]
  staticTypes := #[]
  resolved := Array.replicate 204 none
  statics := none }

def pool6 : Array CpInfo := pool [(1, .class_ 2), (0, u "com/example/wakeline/wakeline/event/Value$Kind"), (2, u "NULL"), (0, u "Lcom/example/wakeline/wakeline/event/Value$Kind;"), (2, u "NUMBER"), (2, u "STRING"), (2, u "$VALUES"), (0, u "[Lcom/example/wakeline/wakeline/event/Value$Kind;"), (6, .class_ 25), (1, u "java/lang/Enum"), (26, .class_ 53), (0, u "com/example/wakeline/wakeline/event/Value")] 2

/-- com/example/wakeline/wakeline/event/Value$Kind -/
def k6 : Class := { plain "com/example/wakeline/wakeline/event/Value$Kind" (some 5) with
  accessFlags := 16433
  interfaces := #[]
  cf := some (fileOf pool6 1 #[.nestHost 52] #[] 16433 23 #[] #[{ accessFlags := 16409, nameIndex := 5, descriptorIndex := 6, attributes := #[] }, { accessFlags := 16409, nameIndex := 9, descriptorIndex := 6, attributes := #[] }, { accessFlags := 16409, nameIndex := 12, descriptorIndex := 6, attributes := #[] }, { accessFlags := 4122, nameIndex := 15, descriptorIndex := 16, attributes := #[] }])
  fields := #[{ name := "NULL", type := (.object "com/example/wakeline/wakeline/event/Value$Kind"), accessFlags := 16409, slot := 0, constantValue := 0 }, { name := "NUMBER", type := (.object "com/example/wakeline/wakeline/event/Value$Kind"), accessFlags := 16409, slot := 1, constantValue := 0 }, { name := "STRING", type := (.object "com/example/wakeline/wakeline/event/Value$Kind"), accessFlags := 16409, slot := 2, constantValue := 0 }, { name := "$VALUES", type := (.array (.object "com/example/wakeline/wakeline/event/Value$Kind")), accessFlags := 4122, slot := 3, constantValue := 0 }]
  methods := #[]
  instanceTypes := #[(.object "java/lang/String"), .int, .int]
  staticTypes := #[(.object "com/example/wakeline/wakeline/event/Value$Kind"), (.object "com/example/wakeline/wakeline/event/Value$Kind"), (.object "com/example/wakeline/wakeline/event/Value$Kind"), (.array (.object "com/example/wakeline/wakeline/event/Value$Kind"))]
  resolved := Array.replicate 56 none
  statics := some 0 }

def pool7 : Array CpInfo := pool [(1, .methodref 2 3), (0, .class_ 4), (0, .nameAndType 5 6), (0, u "java/lang/Object"), (0, u "<init>"), (0, u "()V"), (0, .class_ 8), (0, u "java/lang/Record")] 13

def k7c0 : Code := { maxStack := 1, maxLocals := 1, code := jdk_30_method_1_code, exceptionTable := #[], attributes := #[] }
def k7m0 : Method := { name := "<init>", desc := "()V", sig := { parameters := [], returnType := none }, accessFlags := 4, code := some k7c0 }
/-- java/lang/Record -/
def k7 : Class := { plain "java/lang/Record" (some 0) with
  accessFlags := 1057
  interfaces := #[]
  cf := some (fileOf pool7 7 #[] #[{ accessFlags := 4, nameIndex := 5, descriptorIndex := 6, attributes := #[] }] 1057 2 #[] #[])
  fields := #[]
  methods := #[k7m0]
  instanceTypes := #[]
  staticTypes := #[]
  resolved := Array.replicate 22 none
  statics := none }

def pool8 : Array CpInfo := pool [(1, .methodref 2 3), (0, .class_ 4), (0, .nameAndType 5 6), (0, u "java/lang/Record"), (0, u "<init>"), (0, u "()V"), (0, .string 8), (0, u "kind"), (0, .methodref 10 11), (0, .class_ 12), (0, .nameAndType 13 14), (0, u "java/util/Objects"), (0, u "requireNonNull"), (0, u "(Ljava/lang/Object;Ljava/lang/String;)Ljava/lang/Object;"), (0, .fieldref 16 17), (0, .class_ 18), (0, .nameAndType 19 20), (0, u "com/example/wakeline/wakeline/event/Value$Kind"), (0, u "NULL"), (0, u "Lcom/example/wakeline/wakeline/event/Value$Kind;"), (19, .fieldref 16 41), (0, .nameAndType 42 20), (0, u "NUMBER"), (0, .methodref 44 45), (0, .class_ 46), (0, .nameAndType 47 48), (0, u "com/example/wakeline/wakeline/event/NumberSyntax"), (0, u "isNumber"), (0, u "(Ljava/lang/String;)Z"), (3, .fieldref 53 54), (0, .class_ 55), (0, .nameAndType 8 20), (0, u "com/example/wakeline/wakeline/event/Value"), (0, .fieldref 53 57), (0, .nameAndType 58 59), (0, u "text"), (0, u "Ljava/lang/String;"), (2, u "(Lcom/example/wakeline/wakeline/event/Value$Kind;Ljava/lang/String;)V"), (20, u "Lcom/example/wakeline/wakeline/event/Value;"), (7, u "isNull"), (0, u "()Z"), (0, u "()Ljava/lang/String;"), (2, u "()Lcom/example/wakeline/wakeline/event/Value$Kind;")] 34

def k8c0 : Code := { maxStack := 4, maxLocals := 3, code := prog_15_method_1_code, exceptionTable := #[], attributes := #[] }
def k8m0 : Method := { name := "<init>", desc := "(Lcom/example/wakeline/wakeline/event/Value$Kind;Ljava/lang/String;)V", sig := { parameters := [(.object "com/example/wakeline/wakeline/event/Value$Kind"), (.object "java/lang/String")], returnType := none }, accessFlags := 1, code := some k8c0 }
def k8c1 : Code := { maxStack := 2, maxLocals := 1, code := prog_15_method_4_code, exceptionTable := #[], attributes := #[] }
def k8m1 : Method := { name := "isNull", desc := "()Z", sig := { parameters := [], returnType := some .boolean }, accessFlags := 1, code := some k8c1 }
def k8c2 : Code := { maxStack := 1, maxLocals := 1, code := prog_15_method_9_code, exceptionTable := #[], attributes := #[] }
def k8m2 : Method := { name := "kind", desc := "()Lcom/example/wakeline/wakeline/event/Value$Kind;", sig := { parameters := [], returnType := some (.object "com/example/wakeline/wakeline/event/Value$Kind") }, accessFlags := 1, code := some k8c2 }
def k8c3 : Code := { maxStack := 1, maxLocals := 1, code := prog_15_method_10_code, exceptionTable := #[], attributes := #[] }
def k8m3 : Method := { name := "text", desc := "()Ljava/lang/String;", sig := { parameters := [], returnType := some (.object "java/lang/String") }, accessFlags := 1, code := some k8c3 }
/-- com/example/wakeline/wakeline/event/Value -/
def k8 : Class := { plain "com/example/wakeline/wakeline/event/Value" (some 7) with
  accessFlags := 49
  interfaces := #[]
  cf := some (fileOf pool8 53 #[.nestMembers #[16]] #[{ accessFlags := 1, nameIndex := 5, descriptorIndex := 62, attributes := #[] }, { accessFlags := 1, nameIndex := 91, descriptorIndex := 92, attributes := #[] }, { accessFlags := 1, nameIndex := 8, descriptorIndex := 96, attributes := #[] }, { accessFlags := 1, nameIndex := 58, descriptorIndex := 93, attributes := #[] }] 49 2 #[] #[{ accessFlags := 18, nameIndex := 8, descriptorIndex := 20, attributes := #[] }, { accessFlags := 18, nameIndex := 58, descriptorIndex := 59, attributes := #[] }, { accessFlags := 25, nameIndex := 19, descriptorIndex := 83, attributes := #[] }])
  fields := #[{ name := "kind", type := (.object "com/example/wakeline/wakeline/event/Value$Kind"), accessFlags := 18, slot := 0, constantValue := 0 }, { name := "text", type := (.object "java/lang/String"), accessFlags := 18, slot := 1, constantValue := 0 }, { name := "NULL", type := (.object "com/example/wakeline/wakeline/event/Value"), accessFlags := 25, slot := 0, constantValue := 0 }]
  methods := #[k8m0, k8m1, k8m2, k8m3]
  instanceTypes := #[(.object "com/example/wakeline/wakeline/event/Value$Kind"), (.object "java/lang/String")]
  staticTypes := #[(.object "com/example/wakeline/wakeline/event/Value")]
  resolved := Array.replicate 131 none
  statics := some 1 }

def pool9 : Array CpInfo := pool [(2, .class_ 4), (1, u "java/lang/CharSequence"), (42, .class_ 48), (0, u "java/lang/CharSequence$1CodePointIterator"), (10, .class_ 60), (0, u "java/lang/CharSequence$1CharIterator"), (5, .class_ 67), (0, u "java/lang/Object")] 63

/-- java/lang/CharSequence -/
def k9 : Class := { plain "java/lang/CharSequence" (some 0) with
  accessFlags := 1537
  interfaces := #[]
  cf := some (fileOf pool9 2 #[.nestMembers #[47, 59]] #[] 1537 66 #[] #[])
  fields := #[]
  methods := #[]
  instanceTypes := #[]
  staticTypes := #[]
  resolved := Array.replicate 131 none
  statics := none }

def pool10 : Array CpInfo := pool [(1, .class_ 2), (0, u "java/lang/constant/ConstantDesc"), (0, .class_ 4), (0, u "java/lang/Object")] 32

/-- java/lang/constant/ConstantDesc -/
def k10 : Class := { plain "java/lang/constant/ConstantDesc" (some 0) with
  accessFlags := 1537
  interfaces := #[]
  cf := some (fileOf pool10 1 #[] #[] 1537 3 #[] #[])
  fields := #[]
  methods := #[]
  instanceTypes := #[]
  staticTypes := #[]
  resolved := Array.replicate 37 none
  statics := none }

def pool11 : Array CpInfo := pool [(1, .methodref 2 3), (0, .class_ 4), (0, .nameAndType 5 6), (0, u "java/lang/Object"), (0, u "<init>"), (0, u "()V"), (0, .string 8), (0, u ""), (0, .fieldref 10 11), (0, .class_ 12), (0, .nameAndType 13 14), (0, u "java/lang/String"), (0, u "value"), (0, u "[B"), (0, .fieldref 10 16), (0, .nameAndType 17 18), (0, u "coder"), (0, u "B"), (2, u "hash"), (0, u "I"), (2, u "hashIsZero"), (0, u "Z"), (0, .methodref 10 28), (0, .nameAndType 5 29), (0, u "([CIILjava/lang/Void;)V"), (8, .fieldref 10 39), (0, .nameAndType 40 26), (0, u "COMPACT_STRINGS"), (1, .class_ 44), (1, u "java/lang/StringUTF16"), (0, u "compress"), (1, .methodref 42 48), (0, .nameAndType 49 50), (0, u "coderFromArrayLen"), (0, u "([BI)B"), (2, u "toBytes"), (53, .class_ 109), (1, u "java/lang/StringLatin1"), (32, u "()Z"), (34, .methodref 42 178), (0, .nameAndType 45 179), (0, u "([CII)[B"), (29, .methodref 10 210), (0, .nameAndType 5 211), (0, u "([BB)V"), (122, u "()I"), (0, .methodref 10 336), (0, .nameAndType 17 337), (0, u "()B"), (25, u "([BI)C"), (5, u "(C)Z"), (21, u "(II)V"), (35, u "(I)C"), (64, .methodref 10 493), (0, .nameAndType 494 142), (0, u "isLatin1"), (0, .methodref 107 496), (0, .nameAndType 497 363), (0, u "charAt"), (3, u "checkIndex"), (5, u "length"), (67, .class_ 576), (0, u "java/lang/CharSequence"), (22, u "CASE_INSENSITIVE_ORDER"), (0, u "Ljava/util/Comparator;"), (181, u "valueOf"), (0, u "(C)Ljava/lang/String;"), (226, u "([C)V"), (4, .methodref 107 1016), (0, .nameAndType 1017 369), (0, u "canEncode"), (0, .methodref 107 1019), (0, .nameAndType 53 1020), (0, u "(C)[B"), (32, .fieldref 1054 1055), (0, .class_ 1056), (0, .nameAndType 1057 1058), (0, u "jdk/internal/util/Preconditions"), (0, u "SIOOBE_FORMATTER"), (0, u "Ljava/util/function/BiFunction;"), (0, .methodref 1054 1060), (0, .nameAndType 501 1061), (0, u "(IILjava/util/function/BiFunction;)I"), (39, u "serialPersistentFields"), (0, u "[Ljava/io/ObjectStreamField;"), (0, .class_ 1104), (0, u "java/lang/String$CaseInsensitiveComparator"), (1, .class_ 1107), (0, u "java/io/Serializable"), (0, .class_ 1109), (0, u "java/lang/Comparable"), (0, .class_ 1111), (0, u "java/lang/constant/Constable"), (0, .class_ 1113), (0, u "java/lang/constant/ConstantDesc"), (2, u "serialVersionUID"), (0, u "J"), (3, u "REPL"), (0, u "C"), (2, u "LATIN1"), (1, u "UTF16")] 323

def k11m0 : Method := { name := "<init>", desc := "()V", sig := { parameters := [], returnType := none }, accessFlags := 1, code := none }
def k11c1 : Code := { maxStack := 5, maxLocals := 2, code := jdk_42_method_3_code, exceptionTable := #[], attributes := #[] }
def k11m1 : Method := { name := "<init>", desc := "([C)V", sig := { parameters := [(.array .char)], returnType := none }, accessFlags := 1, code := some k11c1 }
def k11c2 : Code := { maxStack := 2, maxLocals := 1, code := jdk_42_method_54_code, exceptionTable := #[], attributes := #[] }
def k11m2 : Method := { name := "length", desc := "()I", sig := { parameters := [], returnType := some .int }, accessFlags := 1, code := some k11c2 }
def k11c3 : Code := { maxStack := 2, maxLocals := 2, code := jdk_42_method_56_code, exceptionTable := #[], attributes := #[] }
def k11m3 : Method := { name := "charAt", desc := "(I)C", sig := { parameters := [.int], returnType := some .char }, accessFlags := 1, code := some k11c3 }
def k11c4 : Code := { maxStack := 4, maxLocals := 1, code := jdk_42_method_139_code, exceptionTable := #[], attributes := #[] }
def k11m4 : Method := { name := "valueOf", desc := "(C)Ljava/lang/String;", sig := { parameters := [.char], returnType := some (.object "java/lang/String") }, accessFlags := 9, code := some k11c4 }
def k11c5 : Code := { maxStack := 4, maxLocals := 6, code := jdk_42_method_149_code, exceptionTable := #[], attributes := #[] }
def k11m5 : Method := { name := "<init>", desc := "([CIILjava/lang/Void;)V", sig := { parameters := [(.array .char), .int, .int, (.object "java/lang/Void")], returnType := none }, accessFlags := 2, code := some k11c5 }
def k11c6 : Code := { maxStack := 2, maxLocals := 3, code := jdk_42_method_151_code, exceptionTable := #[], attributes := #[] }
def k11m6 : Method := { name := "<init>", desc := "([BB)V", sig := { parameters := [(.array .byte), .byte], returnType := none }, accessFlags := 0, code := some k11c6 }
def k11c7 : Code := { maxStack := 1, maxLocals := 1, code := jdk_42_method_152_code, exceptionTable := #[], attributes := #[] }
def k11m7 : Method := { name := "coder", desc := "()B", sig := { parameters := [], returnType := some .byte }, accessFlags := 0, code := some k11c7 }
def k11c8 : Code := { maxStack := 1, maxLocals := 1, code := jdk_42_method_154_code, exceptionTable := #[], attributes := #[] }
def k11m8 : Method := { name := "isLatin1", desc := "()Z", sig := { parameters := [], returnType := some .boolean }, accessFlags := 0, code := some k11c8 }
def k11c9 : Code := { maxStack := 3, maxLocals := 2, code := jdk_42_method_155_code, exceptionTable := #[], attributes := #[] }
def k11m9 : Method := { name := "checkIndex", desc := "(II)V", sig := { parameters := [.int, .int], returnType := none }, accessFlags := 8, code := some k11c9 }
/-- java/lang/String -/
def k11 : Class := { plain "java/lang/String" (some 0) with
  accessFlags := 49
  interfaces := #[4, 3, 9, 2, 10]
  cf := some (fileOf pool11 10 #[.nestMembers #[1103]] #[{ accessFlags := 1, nameIndex := 5, descriptorIndex := 6, attributes := #[] }, { accessFlags := 1, nameIndex := 5, descriptorIndex := 1010, attributes := #[] }, { accessFlags := 1, nameIndex := 507, descriptorIndex := 334, attributes := #[] }, { accessFlags := 1, nameIndex := 497, descriptorIndex := 427, attributes := #[] }, { accessFlags := 9, nameIndex := 782, descriptorIndex := 783, attributes := #[] }, { accessFlags := 2, nameIndex := 5, descriptorIndex := 29, attributes := #[] }, { accessFlags := 0, nameIndex := 5, descriptorIndex := 211, attributes := #[] }, { accessFlags := 0, nameIndex := 17, descriptorIndex := 337, attributes := #[] }, { accessFlags := 0, nameIndex := 494, descriptorIndex := 142, attributes := #[] }, { accessFlags := 8, nameIndex := 501, descriptorIndex := 391, attributes := #[] }] 49 2 #[1106, 1108, 575, 1110, 1112] #[{ accessFlags := 18, nameIndex := 13, descriptorIndex := 14, attributes := #[] }, { accessFlags := 18, nameIndex := 17, descriptorIndex := 18, attributes := #[] }, { accessFlags := 2, nameIndex := 21, descriptorIndex := 22, attributes := #[] }, { accessFlags := 2, nameIndex := 25, descriptorIndex := 26, attributes := #[] }, { accessFlags := 26, nameIndex := 1116, descriptorIndex := 1117, attributes := #[] }, { accessFlags := 24, nameIndex := 40, descriptorIndex := 26, attributes := #[] }, { accessFlags := 26, nameIndex := 1101, descriptorIndex := 1102, attributes := #[] }, { accessFlags := 26, nameIndex := 1121, descriptorIndex := 1122, attributes := #[] }, { accessFlags := 25, nameIndex := 599, descriptorIndex := 600, attributes := #[] }, { accessFlags := 24, nameIndex := 1125, descriptorIndex := 18, attributes := #[] }, { accessFlags := 24, nameIndex := 1127, descriptorIndex := 18, attributes := #[] }])
  fields := #[{ name := "value", type := (.array .byte), accessFlags := 18, slot := 0, constantValue := 0 }, { name := "coder", type := .byte, accessFlags := 18, slot := 1, constantValue := 0 }, { name := "hash", type := .int, accessFlags := 2, slot := 2, constantValue := 0 }, { name := "hashIsZero", type := .boolean, accessFlags := 2, slot := 3, constantValue := 0 }, { name := "serialVersionUID", type := .long, accessFlags := 26, slot := 0, constantValue := 0 }, { name := "COMPACT_STRINGS", type := .boolean, accessFlags := 24, slot := 1, constantValue := 0 }, { name := "serialPersistentFields", type := (.array (.object "java/io/ObjectStreamField")), accessFlags := 26, slot := 2, constantValue := 0 }, { name := "REPL", type := .char, accessFlags := 26, slot := 3, constantValue := 0 }, { name := "CASE_INSENSITIVE_ORDER", type := (.object "java/util/Comparator"), accessFlags := 25, slot := 4, constantValue := 0 }, { name := "LATIN1", type := .byte, accessFlags := 24, slot := 5, constantValue := 0 }, { name := "UTF16", type := .byte, accessFlags := 24, slot := 6, constantValue := 0 }]
  methods := #[k11m0, k11m1, k11m2, k11m3, k11m4, k11m5, k11m6, k11m7, k11m8, k11m9]
  instanceTypes := #[(.array .byte), .byte, .int, .boolean]
  staticTypes := #[.long, .boolean, (.array (.object "java/io/ObjectStreamField")), .char, (.object "java/util/Comparator"), .byte, .byte]
  resolved := Array.replicate 1451 none
  statics := some 2 }

def pool12 : Array CpInfo := pool [(2, .class_ 4), (1, u "java/lang/Object"), (0, u "<init>"), (0, u "()V"), (35, .class_ 44), (1, u "java/util/Objects"), (0, u "requireNonNull"), (48, u "(Ljava/lang/Object;Ljava/lang/String;)Ljava/lang/Object;")] 89

def k12m0 : Method := { name := "<init>", desc := "()V", sig := { parameters := [], returnType := none }, accessFlags := 2, code := none }
def k12c1 : Code := { maxStack := 3, maxLocals := 2, code := jdk_31_method_11_code, exceptionTable := #[], attributes := #[] }
def k12m1 : Method := { name := "requireNonNull", desc := "(Ljava/lang/Object;Ljava/lang/String;)Ljava/lang/Object;", sig := { parameters := [(.object "java/lang/Object"), (.object "java/lang/String")], returnType := some (.object "java/lang/Object") }, accessFlags := 9, code := some k12c1 }
/-- java/util/Objects -/
def k12 : Class := { plain "java/util/Objects" (some 0) with
  accessFlags := 49
  interfaces := #[]
  cf := some (fileOf pool12 42 #[] #[{ accessFlags := 2, nameIndex := 5, descriptorIndex := 6, attributes := #[] }, { accessFlags := 9, nameIndex := 45, descriptorIndex := 94, attributes := #[] }] 49 2 #[] #[])
  fields := #[]
  methods := #[k12m0, k12m1]
  instanceTypes := #[]
  staticTypes := #[]
  resolved := Array.replicate 184 none
  statics := none }

def pool13 : Array CpInfo := pool [(1, .class_ 2), (0, u "java/lang/String"), (1, .class_ 6), (1, u "java/lang/Object"), (0, u "<init>"), (0, u "()V"), (0, .methodref 1 10), (0, .nameAndType 11 12), (0, u "checkIndex"), (0, u "(II)V"), (1, .class_ 16), (1, u "java/lang/StringLatin1"), (36, u "([BI)C"), (36, u "canEncode"), (14, u "(C)Z"), (15, u "$assertionsDisabled"), (0, u "Z"), (98, .class_ 223), (1, u "java/lang/StringLatin1$LinesSpliterator"), (28, u "charAt"), (127, u "toBytes"), (1, u "(C)[B"), (7, .class_ 391), (0, u "java/lang/StringLatin1$CharsSpliterator")] 3

def k13m0 : Method := { name := "<init>", desc := "()V", sig := { parameters := [], returnType := none }, accessFlags := 0, code := none }
def k13c1 : Code := { maxStack := 2, maxLocals := 2, code := jdk_43_method_2_code, exceptionTable := #[], attributes := #[] }
def k13m1 : Method := { name := "charAt", desc := "([BI)C", sig := { parameters := [(.array .byte), .int], returnType := some .char }, accessFlags := 9, code := some k13c1 }
def k13c2 : Code := { maxStack := 2, maxLocals := 1, code := jdk_43_method_3_code, exceptionTable := #[], attributes := #[] }
def k13m2 : Method := { name := "canEncode", desc := "(C)Z", sig := { parameters := [.char], returnType := some .boolean }, accessFlags := 9, code := some k13c2 }
def k13c3 : Code := { maxStack := 4, maxLocals := 1, code := jdk_43_method_46_code, exceptionTable := #[], attributes := #[] }
def k13m3 : Method := { name := "toBytes", desc := "(C)[B", sig := { parameters := [.char], returnType := some (.array .byte) }, accessFlags := 9, code := some k13c3 }
/-- java/lang/StringLatin1 -/
def k13 : Class := { plain "java/lang/StringLatin1" (some 0) with
  accessFlags := 48
  interfaces := #[]
  cf := some (fileOf pool13 14 #[.nestMembers #[390, 221]] #[{ accessFlags := 0, nameIndex := 7, descriptorIndex := 8, attributes := #[] }, { accessFlags := 9, nameIndex := 252, descriptorIndex := 53, attributes := #[] }, { accessFlags := 9, nameIndex := 90, descriptorIndex := 105, attributes := #[] }, { accessFlags := 9, nameIndex := 380, descriptorIndex := 382, attributes := #[] }] 48 4 #[] #[{ accessFlags := 4120, nameIndex := 121, descriptorIndex := 122, attributes := #[] }])
  fields := #[{ name := "$assertionsDisabled", type := .boolean, accessFlags := 4120, slot := 0, constantValue := 0 }]
  methods := #[k13m0, k13m1, k13m2, k13m3]
  instanceTypes := #[]
  staticTypes := #[.boolean]
  resolved := Array.replicate 395 none
  statics := none }

def pool14 : Array CpInfo := pool [(2, .class_ 4), (1, u "java/lang/Object"), (0, u "<init>"), (0, u "()V"), (0, .methodref 8 9), (0, .class_ 10), (0, .nameAndType 11 12), (0, u "com/example/wakeline/wakeline/event/NumberSyntax"), (0, u "integerEnd"), (0, u "(Ljava/lang/String;)I"), (0, .methodref 14 15), (0, .class_ 16), (0, .nameAndType 17 18), (0, u "java/lang/String"), (0, u "length"), (0, u "()I"), (0, .methodref 14 20), (0, .nameAndType 21 22), (0, u "charAt"), (0, u "(I)C"), (0, .methodref 8 24), (0, .nameAndType 25 26), (0, u "digitsEnd"), (0, u "(Ljava/lang/String;I)I"), (3, u "(Ljava/lang/String;)Z"), (1, u "isNumber")] 2

def k14m0 : Method := { name := "<init>", desc := "()V", sig := { parameters := [], returnType := none }, accessFlags := 2, code := none }
def k14c1 : Code := { maxStack := 3, maxLocals := 2, code := prog_10_method_3_code, exceptionTable := #[], attributes := #[] }
def k14m1 : Method := { name := "isNumber", desc := "(Ljava/lang/String;)Z", sig := { parameters := [(.object "java/lang/String")], returnType := some .boolean }, accessFlags := 8, code := some k14c1 }
def k14c2 : Code := { maxStack := 2, maxLocals := 2, code := prog_10_method_4_code, exceptionTable := #[], attributes := #[] }
def k14m2 : Method := { name := "integerEnd", desc := "(Ljava/lang/String;)I", sig := { parameters := [(.object "java/lang/String")], returnType := some .int }, accessFlags := 10, code := some k14c2 }
def k14c3 : Code := { maxStack := 2, maxLocals := 3, code := prog_10_method_5_code, exceptionTable := #[], attributes := #[] }
def k14m3 : Method := { name := "digitsEnd", desc := "(Ljava/lang/String;I)I", sig := { parameters := [(.object "java/lang/String"), .int], returnType := some .int }, accessFlags := 10, code := some k14c3 }
/-- com/example/wakeline/wakeline/event/NumberSyntax -/
def k14 : Class := { plain "com/example/wakeline/wakeline/event/NumberSyntax" (some 0) with
  accessFlags := 48
  interfaces := #[]
  cf := some (fileOf pool14 8 #[] #[{ accessFlags := 2, nameIndex := 5, descriptorIndex := 6, attributes := #[] }, { accessFlags := 8, nameIndex := 32, descriptorIndex := 30, attributes := #[] }, { accessFlags := 10, nameIndex := 11, descriptorIndex := 12, attributes := #[] }, { accessFlags := 10, nameIndex := 25, descriptorIndex := 26, attributes := #[] }] 48 2 #[] #[])
  fields := #[]
  methods := #[k14m0, k14m1, k14m2, k14m3]
  instanceTypes := #[]
  staticTypes := #[]
  resolved := Array.replicate 35 none
  statics := none }

def pool15 : Array CpInfo := pool [(2, .class_ 4), (1, u "java/lang/Object"), (0, u "<init>"), (0, u "()V"), (17, .class_ 26), (1, u "jdk/internal/util/Preconditions"), (6, u "checkIndex"), (21, .class_ 56), (0, u "jdk/internal/util/Preconditions$4"), (57, .class_ 115), (0, u "jdk/internal/util/Preconditions$1"), (7, u "SIOOBE_FORMATTER"), (0, u "Ljava/util/function/BiFunction;"), (0, .class_ 126), (0, u "jdk/internal/util/Preconditions$2"), (3, u "AIOOBE_FORMATTER"), (0, .class_ 132), (0, u "jdk/internal/util/Preconditions$3"), (3, u "IOOBE_FORMATTER"), (41, u "(IILjava/util/function/BiFunction;)I")] 15

def k15m0 : Method := { name := "<init>", desc := "()V", sig := { parameters := [], returnType := none }, accessFlags := 1, code := none }
def k15c1 : Code := { maxStack := 3, maxLocals := 3, code := jdk_41_method_11_code, exceptionTable := #[], attributes := #[] }
def k15m1 : Method := { name := "checkIndex", desc := "(IILjava/util/function/BiFunction;)I", sig := { parameters := [.int, .int, (.object "java/util/function/BiFunction")], returnType := some .int }, accessFlags := 9, code := some k15c1 }
/-- jdk/internal/util/Preconditions -/
def k15 : Class := { plain "jdk/internal/util/Preconditions" (some 0) with
  accessFlags := 33
  interfaces := #[]
  cf := some (fileOf pool15 24 #[.nestMembers #[55, 131, 125, 114]] #[{ accessFlags := 1, nameIndex := 5, descriptorIndex := 6, attributes := #[] }, { accessFlags := 9, nameIndex := 33, descriptorIndex := 178, attributes := #[] }] 33 2 #[] #[{ accessFlags := 25, nameIndex := 123, descriptorIndex := 124, attributes := #[] }, { accessFlags := 25, nameIndex := 130, descriptorIndex := 124, attributes := #[] }, { accessFlags := 25, nameIndex := 136, descriptorIndex := 124, attributes := #[] }])
  fields := #[{ name := "SIOOBE_FORMATTER", type := (.object "java/util/function/BiFunction"), accessFlags := 25, slot := 0, constantValue := 0 }, { name := "AIOOBE_FORMATTER", type := (.object "java/util/function/BiFunction"), accessFlags := 25, slot := 1, constantValue := 0 }, { name := "IOOBE_FORMATTER", type := (.object "java/util/function/BiFunction"), accessFlags := 25, slot := 2, constantValue := 0 }]
  methods := #[k15m0, k15m1]
  instanceTypes := #[]
  staticTypes := #[(.object "java/util/function/BiFunction"), (.object "java/util/function/BiFunction"), (.object "java/util/function/BiFunction")]
  resolved := Array.replicate 194 none
  statics := some 3 }

def pool16 : Array CpInfo := pool [(6, .class_ 8), (1, u "java/lang/Object"), (0, u "<init>"), (0, u "()V"), (1, .class_ 14), (1, u "java/lang/StringUTF16"), (31, u "$assertionsDisabled"), (0, u "Z"), (13, u "HI_BYTE_SHIFT"), (0, u "I"), (2, u "LO_BYTE_SHIFT"), (49, .methodref 12 116), (0, .nameAndType 117 118), (0, u "compress"), (0, u "([CI[BII)I"), (3, u "([CII)[B"), (138, u "coderFromArrayLen"), (0, u "([BI)B"), (106, .class_ 371), (1, u "java/lang/StringUTF16$LinesSpliterator"), (58, u "MAX_LENGTH"), (196, .class_ 628), (0, u "java/lang/StringUTF16$CodePointsSpliterator"), (0, .class_ 630), (0, u "java/lang/StringUTF16$CharsSpliterator")] 4

def k16m0 : Method := { name := "<init>", desc := "()V", sig := { parameters := [], returnType := none }, accessFlags := 0, code := none }
def k16c1 : Code := { maxStack := 2, maxLocals := 2, code := jdk_52_method_15_code, exceptionTable := #[], attributes := #[] }
def k16m1 : Method := { name := "coderFromArrayLen", desc := "([BI)B", sig := { parameters := [(.array .byte), .int], returnType := some .byte }, accessFlags := 8, code := some k16c1 }
def k16c2 : Code := { maxStack := 5, maxLocals := 6, code := jdk_52_method_16_code, exceptionTable := #[], attributes := #[] }
def k16m2 : Method := { name := "compress", desc := "([CII)[B", sig := { parameters := [(.array .char), .int, .int], returnType := some (.array .byte) }, accessFlags := 9, code := some k16c2 }
def k16c3 : Code := { maxStack := 3, maxLocals := 7, code := jdk_52_method_21_code, exceptionTable := #[], attributes := #[] }
def k16m3 : Method := { name := "compress", desc := "([CI[BII)I", sig := { parameters := [(.array .char), .int, (.array .byte), .int, .int], returnType := some .int }, accessFlags := 9, code := some k16c3 }
/-- java/lang/StringUTF16 -/
def k16 : Class := { plain "java/lang/StringUTF16" (some 0) with
  accessFlags := 48
  interfaces := #[]
  cf := some (fileOf pool16 12 #[.nestMembers #[627, 629, 369]] #[{ accessFlags := 0, nameIndex := 9, descriptorIndex := 10, attributes := #[] }, { accessFlags := 8, nameIndex := 261, descriptorIndex := 262, attributes := #[] }, { accessFlags := 9, nameIndex := 117, descriptorIndex := 122, attributes := #[] }, { accessFlags := 9, nameIndex := 117, descriptorIndex := 118, attributes := #[] }] 48 6 #[] #[{ accessFlags := 26, nameIndex := 61, descriptorIndex := 62, attributes := #[] }, { accessFlags := 26, nameIndex := 65, descriptorIndex := 62, attributes := #[] }, { accessFlags := 24, nameIndex := 430, descriptorIndex := 62, attributes := #[] }, { accessFlags := 4120, nameIndex := 46, descriptorIndex := 47, attributes := #[] }])
  fields := #[{ name := "HI_BYTE_SHIFT", type := .int, accessFlags := 26, slot := 0, constantValue := 0 }, { name := "LO_BYTE_SHIFT", type := .int, accessFlags := 26, slot := 1, constantValue := 0 }, { name := "MAX_LENGTH", type := .int, accessFlags := 24, slot := 2, constantValue := 0 }, { name := "$assertionsDisabled", type := .boolean, accessFlags := 4120, slot := 3, constantValue := 0 }]
  methods := #[k16m0, k16m1, k16m2, k16m3]
  instanceTypes := #[]
  staticTypes := #[.int, .int, .int, .boolean]
  resolved := Array.replicate 635 none
  statics := none }

def pool17 : Array CpInfo := pool [(9, u "<init>"), (6, .class_ 18), (1, u "java/lang/Object"), (0, u "()V"), (1, .class_ 23), (1, u "jdk/internal/util/ArraysSupport"), (0, u "LOG2_ARRAY_LONG_INDEX_SCALE"), (0, u "I"), (2, u "U"), (0, u "Ljdk/internal/misc/Unsafe;"), (8, u "BIG_ENDIAN"), (0, u "Z"), (8, u "LOG2_BYTE_BIT_SIZE"), (4, u "LOG2_ARRAY_INT_INDEX_SCALE"), (54, u "JLA"), (0, u "Ljdk/internal/access/JavaLangAccess;"), (11, u "LOG2_ARRAY_BOOLEAN_INDEX_SCALE"), (9, u "LOG2_ARRAY_BYTE_INDEX_SCALE"), (5, u "LOG2_ARRAY_CHAR_INDEX_SCALE"), (5, u "LOG2_ARRAY_SHORT_INDEX_SCALE"), (18, u "LOG2_ARRAY_FLOAT_INDEX_SCALE"), (24, u "LOG2_ARRAY_DOUBLE_INDEX_SCALE"), (89, u "T_BOOLEAN"), (2, u "T_CHAR"), (1, u "T_FLOAT"), (1, u "T_DOUBLE"), (1, u "T_BYTE"), (1, u "T_SHORT"), (1, u "T_INT"), (1, u "T_LONG"), (1, u "SOFT_MAX_ARRAY_LENGTH")] 83

def k17m0 : Method := { name := "<init>", desc := "()V", sig := { parameters := [], returnType := none }, accessFlags := 2, code := none }
/-- jdk/internal/util/ArraysSupport -/
def k17 : Class := { plain "jdk/internal/util/ArraysSupport" (some 0) with
  accessFlags := 33
  interfaces := #[]
  cf := some (fileOf pool17 21 #[] #[{ accessFlags := 2, nameIndex := 9, descriptorIndex := 19, attributes := #[] }] 33 16 #[] #[{ accessFlags := 24, nameIndex := 28, descriptorIndex := 29, attributes := #[] }, { accessFlags := 26, nameIndex := 38, descriptorIndex := 39, attributes := #[] }, { accessFlags := 25, nameIndex := 121, descriptorIndex := 25, attributes := #[] }, { accessFlags := 25, nameIndex := 131, descriptorIndex := 25, attributes := #[] }, { accessFlags := 25, nameIndex := 137, descriptorIndex := 25, attributes := #[] }, { accessFlags := 25, nameIndex := 143, descriptorIndex := 25, attributes := #[] }, { accessFlags := 25, nameIndex := 53, descriptorIndex := 25, attributes := #[] }, { accessFlags := 25, nameIndex := 24, descriptorIndex := 25, attributes := #[] }, { accessFlags := 25, nameIndex := 162, descriptorIndex := 25, attributes := #[] }, { accessFlags := 25, nameIndex := 187, descriptorIndex := 25, attributes := #[] }, { accessFlags := 26, nameIndex := 48, descriptorIndex := 25, attributes := #[] }, { accessFlags := 25, nameIndex := 277, descriptorIndex := 25, attributes := #[] }, { accessFlags := 25, nameIndex := 280, descriptorIndex := 25, attributes := #[] }, { accessFlags := 25, nameIndex := 282, descriptorIndex := 25, attributes := #[] }, { accessFlags := 25, nameIndex := 284, descriptorIndex := 25, attributes := #[] }, { accessFlags := 25, nameIndex := 286, descriptorIndex := 25, attributes := #[] }, { accessFlags := 25, nameIndex := 288, descriptorIndex := 25, attributes := #[] }, { accessFlags := 25, nameIndex := 290, descriptorIndex := 25, attributes := #[] }, { accessFlags := 25, nameIndex := 292, descriptorIndex := 25, attributes := #[] }, { accessFlags := 26, nameIndex := 108, descriptorIndex := 109, attributes := #[] }, { accessFlags := 25, nameIndex := 294, descriptorIndex := 25, attributes := #[] }])
  fields := #[{ name := "U", type := (.object "jdk/internal/misc/Unsafe"), accessFlags := 24, slot := 0, constantValue := 0 }, { name := "BIG_ENDIAN", type := .boolean, accessFlags := 26, slot := 1, constantValue := 0 }, { name := "LOG2_ARRAY_BOOLEAN_INDEX_SCALE", type := .int, accessFlags := 25, slot := 2, constantValue := 0 }, { name := "LOG2_ARRAY_BYTE_INDEX_SCALE", type := .int, accessFlags := 25, slot := 3, constantValue := 0 }, { name := "LOG2_ARRAY_CHAR_INDEX_SCALE", type := .int, accessFlags := 25, slot := 4, constantValue := 0 }, { name := "LOG2_ARRAY_SHORT_INDEX_SCALE", type := .int, accessFlags := 25, slot := 5, constantValue := 0 }, { name := "LOG2_ARRAY_INT_INDEX_SCALE", type := .int, accessFlags := 25, slot := 6, constantValue := 0 }, { name := "LOG2_ARRAY_LONG_INDEX_SCALE", type := .int, accessFlags := 25, slot := 7, constantValue := 0 }, { name := "LOG2_ARRAY_FLOAT_INDEX_SCALE", type := .int, accessFlags := 25, slot := 8, constantValue := 0 }, { name := "LOG2_ARRAY_DOUBLE_INDEX_SCALE", type := .int, accessFlags := 25, slot := 9, constantValue := 0 }, { name := "LOG2_BYTE_BIT_SIZE", type := .int, accessFlags := 26, slot := 10, constantValue := 0 }, { name := "T_BOOLEAN", type := .int, accessFlags := 25, slot := 11, constantValue := 0 }, { name := "T_CHAR", type := .int, accessFlags := 25, slot := 12, constantValue := 0 }, { name := "T_FLOAT", type := .int, accessFlags := 25, slot := 13, constantValue := 0 }, { name := "T_DOUBLE", type := .int, accessFlags := 25, slot := 14, constantValue := 0 }, { name := "T_BYTE", type := .int, accessFlags := 25, slot := 15, constantValue := 0 }, { name := "T_SHORT", type := .int, accessFlags := 25, slot := 16, constantValue := 0 }, { name := "T_INT", type := .int, accessFlags := 25, slot := 17, constantValue := 0 }, { name := "T_LONG", type := .int, accessFlags := 25, slot := 18, constantValue := 0 }, { name := "JLA", type := (.object "jdk/internal/access/JavaLangAccess"), accessFlags := 26, slot := 19, constantValue := 0 }, { name := "SOFT_MAX_ARRAY_LENGTH", type := .int, accessFlags := 25, slot := 20, constantValue := 0 }]
  methods := #[k17m0]
  instanceTypes := #[]
  staticTypes := #[(.object "jdk/internal/misc/Unsafe"), .boolean, .int, .int, .int, .int, .int, .int, .int, .int, .int, .int, .int, .int, .int, .int, .int, .int, .int, (.object "jdk/internal/access/JavaLangAccess"), .int]
  resolved := Array.replicate 378 none
  statics := none }

def pool18 : Array CpInfo := pool [(1, u "java/lang/Cloneable"), (0, .class_ 1), (0, u "java/lang/Object"), (0, .class_ 3)] 3

/-- java/lang/Cloneable -/
def k18 : Class := { plain "java/lang/Cloneable" (some 0) with
  accessFlags := 1537
  interfaces := #[]
  cf := some (fileOf pool18 2 #[] #[] 1537 4 #[] #[])
  fields := #[]
  methods := #[]
  instanceTypes := #[]
  staticTypes := #[]
  resolved := Array.replicate 8 none
  statics := none }

/-- the primitive byte -/
def k19 : Class := { plain "byte" none with kind := .primitive 'B', accessFlags := 0x411 }
/-- [B -/
def k20 : Class := { plain "[B" (some 0) with kind := .array 19 .byte, interfaces := #[18, 4], accessFlags := 1041 }

/-- the primitive char -/
def k21 : Class := { plain "char" none with kind := .primitive 'C', accessFlags := 0x411 }
/-- [C -/
def k22 : Class := { plain "[C" (some 0) with kind := .array 21 .char, interfaces := #[18, 4], accessFlags := 1041 }

/-- the primitive int -/
def k23 : Class := { plain "int" none with kind := .primitive 'I', accessFlags := 0x411 }
/-- [I -/
def k24 : Class := { plain "[I" (some 0) with kind := .array 23 .int, interfaces := #[18, 4], accessFlags := 1041 }

def heap : Heap := #[{ cls := 6, slots := #[.ref 4, .ref 5, .ref 7, .null], vm := .statics 6 },
  { cls := 8, slots := #[.ref 6], vm := .statics 8 },
  { cls := 11, slots := #[.long 0, .int 1, .null, .int 0, .null, .int 0, .int 0], vm := .statics 11 },
  { cls := 15, slots := #[.null, .null, .null], vm := .statics 15 },
  { cls := 6, slots := #[.null, .int 0, .int 0], vm := .none },
  { cls := 6, slots := #[.null, .int 1, .int 0], vm := .none },
  { cls := 8, slots := #[.ref 4, .null], vm := .none },
  { cls := 6, slots := #[.null, .int 2, .int 0], vm := .none }]
def classes : Array Class := #[k0, k1, k2, k3, k4, k5, k6, k7, k8, k9, k10, k11, k12, k13, k14, k15, k16, k17, k18, k19, k20, k21, k22, k23, k24]
def interned : List (Array UInt16 × Addr) := []
def slotsUsed : Nat := 26
def theMethod : MethodId := ⟨1, 3⟩
def args0 : Array Value := #[.int 5, .int 3, .int 7, .int 2]
def aboutOver (below : List Frame) : State where
  vm := { classes := classes, interned := interned.toArray }
  heap := heap
  slotsUsed := slotsUsed
  threads := #[{ frames := .invoking theMethod args0 :: below }]
def below0 : List Frame := [.native { method := ⟨0, 0⟩, args := #[] }]
def about1 : State := aboutOver below0
def p0 : Program := .bare "" "" ""
def e0 : Env := launch0.env 0 0 0
theorem w_frames : about1.frames = Frame.invoking theMethod args0 :: below0 := rfl
set_option maxRecDepth 65536 in
theorem w_args : argsFit about1.vm theMethod args0 = true := by decide +kernel
set_option maxRecDepth 65536 in
theorem w_heap : heapFits about1 = true := by decide +kernel
set_option maxRecDepth 65536 in
theorem w_runnable : about1.curStatus? = some .runnable := by decide +kernel
set_option maxRecDepth 65536 in
theorem w_alone : about1.alone = true := by decide +kernel
set_option maxRecDepth 65536 in
theorem w_named : about1.methodNamed? x = some theMethod := by decide +kernel
set_option maxRecDepth 65536 in
theorem w_hears : about1.hears theMethod below0 = true := by decide +kernel
set_option maxRecDepth 65536 in
theorem w_ripe : about1.ripe theMethod args0 below0 = true := by decide +kernel
theorem w_running : about1.status = .running := rfl
set_option maxRecDepth 65536 in
theorem w_room : about1.hasRoom e0.platform room_1 = true :=
  launch0.hasRoom_least _ room_1 (by decide +kernel) (by decide +kernel) (by decide +kernel) (by decide +kernel) (by decide +kernel) (by decide +kernel)
theorem allAtoms_all (ts : List Jvm.Cond) (a : Array Jvm.Value) (st : Jvm.State) : (allAtoms ts).before a st = ts.all (fun c => c.before a st) := by
  induction ts with
  | nil => rfl
  | cons c t ih =>
    show (Jvm.Cond.and c (allAtoms t)).before a st = _
    rw [Jvm.Cond.before_and, ih, List.all_cons]
def words1 : List Jvm.Cond := Jvm.Cond.code x code maxLocals ret :: tables_1
/-- a 'code' word, met by the world's own term for the bytes: nothing is compared byte by byte -/
theorem code_word {y : MethodName} {bytes : ByteArray} {mx : Nat} {rt : Option FieldType} {a : Array Value} {s : State} {m : MethodId} {meth : Method} {c : Code} (h1 : s.methodNamed? y = some m) (h2 : s.vm.method? m = some meth) (h3 : meth.code = some c) (h4 : c.code = bytes)
    (h5 : (c.maxLocals == mx && c.exceptionTable.isEmpty && decide (c.maxStack ≤ mostOperands) && decide (meth.sig.returnType = rt) && !meth.locks && decide (parseMethodDescriptor y.desc = some meth.sig)) = true) : (Jvm.Cond.code y bytes mx rt).before a s = true := by
  simp only [Bool.and_eq_true, beq_iff_eq, Bool.not_eq_true', decide_eq_true_eq] at h5
  obtain ⟨⟨⟨⟨⟨g1, g2⟩, g3⟩, g4⟩, g5⟩, g6⟩ := h5
  simp [Cond.before, Cond.holds, Cond.value, h1, h2, h3, h4, g1, g2, g3, g4, g5, g6]
def isCode : Jvm.Cond → Bool
  | .code _ _ _ _ => true
  | _ => false
theorem all_split {L : List Jvm.Cond} {P : Jvm.Cond → Bool} (h1 : L.all (fun c => isCode c || P c) = true) (h2 : ∀ c ∈ L.filter isCode, P c = true) : L.all P = true := by
  refine List.all_eq_true.mpr fun c hc => ?_
  have h := List.all_eq_true.mp h1 c hc
  rcases Bool.eq_false_or_eq_true (isCode c) with hi | hi
  · exact h2 c (List.mem_filter.mpr ⟨hc, hi⟩)
  · simpa [hi] using h
set_option maxRecDepth 65536 in
theorem w_c0 : (Jvm.Cond.code x code maxLocals ret).before args0 about1 = true := code_word (m := ⟨1, 3⟩) (meth := k1m3) (c := k1c3) (by decide +kernel) rfl rfl rfl (by decide +kernel)
set_option maxRecDepth 65536 in
theorem w_c1 : (Jvm.Cond.code ({ cls := "com/example/wakeline/wakeline/event/Value", name := "<init>", desc := "(Lcom/example/wakeline/wakeline/event/Value$Kind;Ljava/lang/String;)V" } : Jvm.MethodName) prog_15_method_1_code (3 : Nat) (Option.none : Option Jvm.ClassFile.FieldType)).before args0 about1 = true := code_word (m := ⟨8, 0⟩) (meth := k8m0) (c := k8c0) (by decide +kernel) rfl rfl rfl (by decide +kernel)
set_option maxRecDepth 65536 in
theorem w_c2 : (Jvm.Cond.code ({ cls := "java/lang/Record", name := "<init>", desc := "()V" } : Jvm.MethodName) jdk_30_method_1_code (1 : Nat) (Option.none : Option Jvm.ClassFile.FieldType)).before args0 about1 = true := code_word (m := ⟨7, 0⟩) (meth := k7m0) (c := k7c0) (by decide +kernel) rfl rfl rfl (by decide +kernel)
set_option maxRecDepth 65536 in
theorem w_c3 : (Jvm.Cond.code ({ cls := "java/lang/Object", name := "<init>", desc := "()V" } : Jvm.MethodName) object_method_1_code (1 : Nat) (Option.none : Option Jvm.ClassFile.FieldType)).before args0 about1 = true := code_word (m := ⟨0, 0⟩) (meth := k0m0) (c := k0c0) (by decide +kernel) rfl rfl rfl (by decide +kernel)
set_option maxRecDepth 65536 in
theorem w_c4 : (Jvm.Cond.code ({ cls := "java/util/Objects", name := "requireNonNull", desc := "(Ljava/lang/Object;Ljava/lang/String;)Ljava/lang/Object;" } : Jvm.MethodName) jdk_31_method_11_code (2 : Nat) (Option.some (Jvm.ClassFile.FieldType.object "java/lang/Object"))).before args0 about1 = true := code_word (m := ⟨12, 1⟩) (meth := k12m1) (c := k12c1) (by decide +kernel) rfl rfl rfl (by decide +kernel)
set_option maxRecDepth 65536 in
theorem w_c5 : (Jvm.Cond.code ({ cls := "com/example/wakeline/wakeline/event/Value", name := "isNull", desc := "()Z" } : Jvm.MethodName) prog_15_method_4_code (1 : Nat) (Option.some Jvm.ClassFile.FieldType.boolean)).before args0 about1 = true := code_word (m := ⟨8, 1⟩) (meth := k8m1) (c := k8c1) (by decide +kernel) rfl rfl rfl (by decide +kernel)
set_option maxRecDepth 65536 in
theorem w_c6 : (Jvm.Cond.code ({ cls := "com/example/wakeline/wakeline/event/Value", name := "text", desc := "()Ljava/lang/String;" } : Jvm.MethodName) prog_15_method_10_code (1 : Nat) (Option.some (Jvm.ClassFile.FieldType.object "java/lang/String"))).before args0 about1 = true := code_word (m := ⟨8, 3⟩) (meth := k8m3) (c := k8c3) (by decide +kernel) rfl rfl rfl (by decide +kernel)
set_option maxRecDepth 65536 in
theorem w_c7 : (Jvm.Cond.code ({ cls := "com/example/wakeline/wakeline/event/Value", name := "kind", desc := "()Lcom/example/wakeline/wakeline/event/Value$Kind;" } : Jvm.MethodName) prog_15_method_9_code (1 : Nat) (Option.some (Jvm.ClassFile.FieldType.object "com/example/wakeline/wakeline/event/Value$Kind"))).before args0 about1 = true := code_word (m := ⟨8, 2⟩) (meth := k8m2) (c := k8c2) (by decide +kernel) rfl rfl rfl (by decide +kernel)
set_option maxRecDepth 65536 in
theorem w_c8 : (Jvm.Cond.code ({ cls := "com/example/wakeline/wakeline/event/ValueIsNullPinLaw", name := "drawnNumber", desc := "(II)Ljava/lang/String;" } : Jvm.MethodName) method_3_code (4 : Nat) (Option.some (Jvm.ClassFile.FieldType.object "java/lang/String"))).before args0 about1 = true := code_word (m := ⟨1, 2⟩) (meth := k1m2) (c := k1c2) (by decide +kernel) rfl rfl rfl (by decide +kernel)
set_option maxRecDepth 65536 in
theorem w_c9 : (Jvm.Cond.code ({ cls := "java/lang/String", name := "valueOf", desc := "(C)Ljava/lang/String;" } : Jvm.MethodName) jdk_42_method_139_code (1 : Nat) (Option.some (Jvm.ClassFile.FieldType.object "java/lang/String"))).before args0 about1 = true := code_word (m := ⟨11, 4⟩) (meth := k11m4) (c := k11c4) (by decide +kernel) rfl rfl rfl (by decide +kernel)
set_option maxRecDepth 65536 in
theorem w_c10 : (Jvm.Cond.code ({ cls := "java/lang/StringLatin1", name := "canEncode", desc := "(C)Z" } : Jvm.MethodName) jdk_43_method_3_code (1 : Nat) (Option.some Jvm.ClassFile.FieldType.boolean)).before args0 about1 = true := code_word (m := ⟨13, 2⟩) (meth := k13m2) (c := k13c2) (by decide +kernel) rfl rfl rfl (by decide +kernel)
set_option maxRecDepth 65536 in
theorem w_c11 : (Jvm.Cond.code ({ cls := "java/lang/StringLatin1", name := "toBytes", desc := "(C)[B" } : Jvm.MethodName) jdk_43_method_46_code (1 : Nat) (Option.some (Jvm.ClassFile.FieldType.array Jvm.ClassFile.FieldType.byte))).before args0 about1 = true := code_word (m := ⟨13, 3⟩) (meth := k13m3) (c := k13c3) (by decide +kernel) rfl rfl rfl (by decide +kernel)
set_option maxRecDepth 65536 in
theorem w_c12 : (Jvm.Cond.code ({ cls := "java/lang/String", name := "<init>", desc := "([BB)V" } : Jvm.MethodName) jdk_42_method_151_code (3 : Nat) (Option.none : Option Jvm.ClassFile.FieldType)).before args0 about1 = true := code_word (m := ⟨11, 6⟩) (meth := k11m6) (c := k11c6) (by decide +kernel) rfl rfl rfl (by decide +kernel)
set_option maxRecDepth 65536 in
theorem w_c13 : (Jvm.Cond.code ({ cls := "com/example/wakeline/wakeline/event/NumberSyntax", name := "isNumber", desc := "(Ljava/lang/String;)Z" } : Jvm.MethodName) prog_10_method_3_code (2 : Nat) (Option.some Jvm.ClassFile.FieldType.boolean)).before args0 about1 = true := code_word (m := ⟨14, 1⟩) (meth := k14m1) (c := k14c1) (by decide +kernel) rfl rfl rfl (by decide +kernel)
set_option maxRecDepth 65536 in
theorem w_c14 : (Jvm.Cond.code ({ cls := "com/example/wakeline/wakeline/event/NumberSyntax", name := "integerEnd", desc := "(Ljava/lang/String;)I" } : Jvm.MethodName) prog_10_method_4_code (2 : Nat) (Option.some Jvm.ClassFile.FieldType.int)).before args0 about1 = true := code_word (m := ⟨14, 2⟩) (meth := k14m2) (c := k14c2) (by decide +kernel) rfl rfl rfl (by decide +kernel)
set_option maxRecDepth 65536 in
theorem w_c15 : (Jvm.Cond.code ({ cls := "java/lang/String", name := "length", desc := "()I" } : Jvm.MethodName) jdk_42_method_54_code (1 : Nat) (Option.some Jvm.ClassFile.FieldType.int)).before args0 about1 = true := code_word (m := ⟨11, 2⟩) (meth := k11m2) (c := k11c2) (by decide +kernel) rfl rfl rfl (by decide +kernel)
set_option maxRecDepth 65536 in
theorem w_c16 : (Jvm.Cond.code ({ cls := "java/lang/String", name := "coder", desc := "()B" } : Jvm.MethodName) jdk_42_method_152_code (1 : Nat) (Option.some Jvm.ClassFile.FieldType.byte)).before args0 about1 = true := code_word (m := ⟨11, 7⟩) (meth := k11m7) (c := k11c7) (by decide +kernel) rfl rfl rfl (by decide +kernel)
set_option maxRecDepth 65536 in
theorem w_c17 : (Jvm.Cond.code ({ cls := "java/lang/String", name := "charAt", desc := "(I)C" } : Jvm.MethodName) jdk_42_method_56_code (2 : Nat) (Option.some Jvm.ClassFile.FieldType.char)).before args0 about1 = true := code_word (m := ⟨11, 3⟩) (meth := k11m3) (c := k11c3) (by decide +kernel) rfl rfl rfl (by decide +kernel)
set_option maxRecDepth 65536 in
theorem w_c18 : (Jvm.Cond.code ({ cls := "java/lang/String", name := "isLatin1", desc := "()Z" } : Jvm.MethodName) jdk_42_method_154_code (1 : Nat) (Option.some Jvm.ClassFile.FieldType.boolean)).before args0 about1 = true := code_word (m := ⟨11, 8⟩) (meth := k11m8) (c := k11c8) (by decide +kernel) rfl rfl rfl (by decide +kernel)
set_option maxRecDepth 65536 in
theorem w_c19 : (Jvm.Cond.code ({ cls := "java/lang/StringLatin1", name := "charAt", desc := "([BI)C" } : Jvm.MethodName) jdk_43_method_2_code (2 : Nat) (Option.some Jvm.ClassFile.FieldType.char)).before args0 about1 = true := code_word (m := ⟨13, 1⟩) (meth := k13m1) (c := k13c1) (by decide +kernel) rfl rfl rfl (by decide +kernel)
set_option maxRecDepth 65536 in
theorem w_c20 : (Jvm.Cond.code ({ cls := "java/lang/String", name := "checkIndex", desc := "(II)V" } : Jvm.MethodName) jdk_42_method_155_code (2 : Nat) (Option.none : Option Jvm.ClassFile.FieldType)).before args0 about1 = true := code_word (m := ⟨11, 9⟩) (meth := k11m9) (c := k11c9) (by decide +kernel) rfl rfl rfl (by decide +kernel)
set_option maxRecDepth 65536 in
theorem w_c21 : (Jvm.Cond.code ({ cls := "jdk/internal/util/Preconditions", name := "checkIndex", desc := "(IILjava/util/function/BiFunction;)I" } : Jvm.MethodName) jdk_41_method_11_code (3 : Nat) (Option.some Jvm.ClassFile.FieldType.int)).before args0 about1 = true := code_word (m := ⟨15, 1⟩) (meth := k15m1) (c := k15c1) (by decide +kernel) rfl rfl rfl (by decide +kernel)
set_option maxRecDepth 65536 in
theorem w_c22 : (Jvm.Cond.code ({ cls := "com/example/wakeline/wakeline/event/NumberSyntax", name := "digitsEnd", desc := "(Ljava/lang/String;I)I" } : Jvm.MethodName) prog_10_method_5_code (3 : Nat) (Option.some Jvm.ClassFile.FieldType.int)).before args0 about1 = true := code_word (m := ⟨14, 3⟩) (meth := k14m3) (c := k14c3) (by decide +kernel) rfl rfl rfl (by decide +kernel)
set_option maxRecDepth 65536 in
theorem w_c23 : (Jvm.Cond.code ({ cls := "java/lang/String", name := "<init>", desc := "([C)V" } : Jvm.MethodName) jdk_42_method_3_code (2 : Nat) (Option.none : Option Jvm.ClassFile.FieldType)).before args0 about1 = true := code_word (m := ⟨11, 1⟩) (meth := k11m1) (c := k11c1) (by decide +kernel) rfl rfl rfl (by decide +kernel)
set_option maxRecDepth 65536 in
theorem w_c24 : (Jvm.Cond.code ({ cls := "java/lang/String", name := "<init>", desc := "([CIILjava/lang/Void;)V" } : Jvm.MethodName) jdk_42_method_149_code (6 : Nat) (Option.none : Option Jvm.ClassFile.FieldType)).before args0 about1 = true := code_word (m := ⟨11, 5⟩) (meth := k11m5) (c := k11c5) (by decide +kernel) rfl rfl rfl (by decide +kernel)
set_option maxRecDepth 65536 in
theorem w_c25 : (Jvm.Cond.code ({ cls := "java/lang/StringUTF16", name := "compress", desc := "([CII)[B" } : Jvm.MethodName) jdk_52_method_16_code (6 : Nat) (Option.some (Jvm.ClassFile.FieldType.array Jvm.ClassFile.FieldType.byte))).before args0 about1 = true := code_word (m := ⟨16, 2⟩) (meth := k16m2) (c := k16c2) (by decide +kernel) rfl rfl rfl (by decide +kernel)
set_option maxRecDepth 65536 in
theorem w_c26 : (Jvm.Cond.code ({ cls := "java/lang/StringUTF16", name := "compress", desc := "([CI[BII)I" } : Jvm.MethodName) jdk_52_method_21_code (7 : Nat) (Option.some Jvm.ClassFile.FieldType.int)).before args0 about1 = true := code_word (m := ⟨16, 3⟩) (meth := k16m3) (c := k16c3) (by decide +kernel) rfl rfl rfl (by decide +kernel)
set_option maxRecDepth 65536 in
theorem w_c27 : (Jvm.Cond.code ({ cls := "java/lang/StringUTF16", name := "coderFromArrayLen", desc := "([BI)B" } : Jvm.MethodName) jdk_52_method_15_code (2 : Nat) (Option.some Jvm.ClassFile.FieldType.byte)).before args0 about1 = true := code_word (m := ⟨16, 1⟩) (meth := k16m1) (c := k16c1) (by decide +kernel) rfl rfl rfl (by decide +kernel)
set_option maxRecDepth 65536 in
theorem w_c28 : (Jvm.Cond.code ({ cls := "com/example/wakeline/wakeline/event/ValueIsNullPinLaw", name := "drawnString", desc := "(III)Ljava/lang/String;" } : Jvm.MethodName) method_2_code (3 : Nat) (Option.some (Jvm.ClassFile.FieldType.object "java/lang/String"))).before args0 about1 = true := code_word (m := ⟨1, 1⟩) (meth := k1m1) (c := k1c1) (by decide +kernel) rfl rfl rfl (by decide +kernel)
def codes1 : List Jvm.Cond := [Jvm.Cond.code x code maxLocals ret, Jvm.Cond.code ({ cls := "com/example/wakeline/wakeline/event/Value", name := "<init>", desc := "(Lcom/example/wakeline/wakeline/event/Value$Kind;Ljava/lang/String;)V" } : Jvm.MethodName) prog_15_method_1_code (3 : Nat) (Option.none : Option Jvm.ClassFile.FieldType), Jvm.Cond.code ({ cls := "java/lang/Record", name := "<init>", desc := "()V" } : Jvm.MethodName) jdk_30_method_1_code (1 : Nat) (Option.none : Option Jvm.ClassFile.FieldType), Jvm.Cond.code ({ cls := "java/lang/Object", name := "<init>", desc := "()V" } : Jvm.MethodName) object_method_1_code (1 : Nat) (Option.none : Option Jvm.ClassFile.FieldType), Jvm.Cond.code ({ cls := "java/util/Objects", name := "requireNonNull", desc := "(Ljava/lang/Object;Ljava/lang/String;)Ljava/lang/Object;" } : Jvm.MethodName) jdk_31_method_11_code (2 : Nat) (Option.some (Jvm.ClassFile.FieldType.object "java/lang/Object")), Jvm.Cond.code ({ cls := "com/example/wakeline/wakeline/event/Value", name := "isNull", desc := "()Z" } : Jvm.MethodName) prog_15_method_4_code (1 : Nat) (Option.some Jvm.ClassFile.FieldType.boolean), Jvm.Cond.code ({ cls := "com/example/wakeline/wakeline/event/Value", name := "text", desc := "()Ljava/lang/String;" } : Jvm.MethodName) prog_15_method_10_code (1 : Nat) (Option.some (Jvm.ClassFile.FieldType.object "java/lang/String")), Jvm.Cond.code ({ cls := "com/example/wakeline/wakeline/event/Value", name := "kind", desc := "()Lcom/example/wakeline/wakeline/event/Value$Kind;" } : Jvm.MethodName) prog_15_method_9_code (1 : Nat) (Option.some (Jvm.ClassFile.FieldType.object "com/example/wakeline/wakeline/event/Value$Kind")), Jvm.Cond.code ({ cls := "com/example/wakeline/wakeline/event/ValueIsNullPinLaw", name := "drawnNumber", desc := "(II)Ljava/lang/String;" } : Jvm.MethodName) method_3_code (4 : Nat) (Option.some (Jvm.ClassFile.FieldType.object "java/lang/String")), Jvm.Cond.code ({ cls := "java/lang/String", name := "valueOf", desc := "(C)Ljava/lang/String;" } : Jvm.MethodName) jdk_42_method_139_code (1 : Nat) (Option.some (Jvm.ClassFile.FieldType.object "java/lang/String")), Jvm.Cond.code ({ cls := "java/lang/StringLatin1", name := "canEncode", desc := "(C)Z" } : Jvm.MethodName) jdk_43_method_3_code (1 : Nat) (Option.some Jvm.ClassFile.FieldType.boolean), Jvm.Cond.code ({ cls := "java/lang/StringLatin1", name := "toBytes", desc := "(C)[B" } : Jvm.MethodName) jdk_43_method_46_code (1 : Nat) (Option.some (Jvm.ClassFile.FieldType.array Jvm.ClassFile.FieldType.byte)), Jvm.Cond.code ({ cls := "java/lang/String", name := "<init>", desc := "([BB)V" } : Jvm.MethodName) jdk_42_method_151_code (3 : Nat) (Option.none : Option Jvm.ClassFile.FieldType), Jvm.Cond.code ({ cls := "com/example/wakeline/wakeline/event/NumberSyntax", name := "isNumber", desc := "(Ljava/lang/String;)Z" } : Jvm.MethodName) prog_10_method_3_code (2 : Nat) (Option.some Jvm.ClassFile.FieldType.boolean), Jvm.Cond.code ({ cls := "com/example/wakeline/wakeline/event/NumberSyntax", name := "integerEnd", desc := "(Ljava/lang/String;)I" } : Jvm.MethodName) prog_10_method_4_code (2 : Nat) (Option.some Jvm.ClassFile.FieldType.int), Jvm.Cond.code ({ cls := "java/lang/String", name := "length", desc := "()I" } : Jvm.MethodName) jdk_42_method_54_code (1 : Nat) (Option.some Jvm.ClassFile.FieldType.int), Jvm.Cond.code ({ cls := "java/lang/String", name := "coder", desc := "()B" } : Jvm.MethodName) jdk_42_method_152_code (1 : Nat) (Option.some Jvm.ClassFile.FieldType.byte), Jvm.Cond.code ({ cls := "java/lang/String", name := "charAt", desc := "(I)C" } : Jvm.MethodName) jdk_42_method_56_code (2 : Nat) (Option.some Jvm.ClassFile.FieldType.char), Jvm.Cond.code ({ cls := "java/lang/String", name := "isLatin1", desc := "()Z" } : Jvm.MethodName) jdk_42_method_154_code (1 : Nat) (Option.some Jvm.ClassFile.FieldType.boolean), Jvm.Cond.code ({ cls := "java/lang/StringLatin1", name := "charAt", desc := "([BI)C" } : Jvm.MethodName) jdk_43_method_2_code (2 : Nat) (Option.some Jvm.ClassFile.FieldType.char), Jvm.Cond.code ({ cls := "java/lang/String", name := "checkIndex", desc := "(II)V" } : Jvm.MethodName) jdk_42_method_155_code (2 : Nat) (Option.none : Option Jvm.ClassFile.FieldType), Jvm.Cond.code ({ cls := "jdk/internal/util/Preconditions", name := "checkIndex", desc := "(IILjava/util/function/BiFunction;)I" } : Jvm.MethodName) jdk_41_method_11_code (3 : Nat) (Option.some Jvm.ClassFile.FieldType.int), Jvm.Cond.code ({ cls := "com/example/wakeline/wakeline/event/NumberSyntax", name := "digitsEnd", desc := "(Ljava/lang/String;I)I" } : Jvm.MethodName) prog_10_method_5_code (3 : Nat) (Option.some Jvm.ClassFile.FieldType.int), Jvm.Cond.code ({ cls := "java/lang/String", name := "<init>", desc := "([C)V" } : Jvm.MethodName) jdk_42_method_3_code (2 : Nat) (Option.none : Option Jvm.ClassFile.FieldType), Jvm.Cond.code ({ cls := "java/lang/String", name := "<init>", desc := "([CIILjava/lang/Void;)V" } : Jvm.MethodName) jdk_42_method_149_code (6 : Nat) (Option.none : Option Jvm.ClassFile.FieldType), Jvm.Cond.code ({ cls := "java/lang/StringUTF16", name := "compress", desc := "([CII)[B" } : Jvm.MethodName) jdk_52_method_16_code (6 : Nat) (Option.some (Jvm.ClassFile.FieldType.array Jvm.ClassFile.FieldType.byte)), Jvm.Cond.code ({ cls := "java/lang/StringUTF16", name := "compress", desc := "([CI[BII)I" } : Jvm.MethodName) jdk_52_method_21_code (7 : Nat) (Option.some Jvm.ClassFile.FieldType.int), Jvm.Cond.code ({ cls := "java/lang/StringUTF16", name := "coderFromArrayLen", desc := "([BI)B" } : Jvm.MethodName) jdk_52_method_15_code (2 : Nat) (Option.some Jvm.ClassFile.FieldType.byte), Jvm.Cond.code ({ cls := "com/example/wakeline/wakeline/event/ValueIsNullPinLaw", name := "drawnString", desc := "(III)Ljava/lang/String;" } : Jvm.MethodName) method_2_code (3 : Nat) (Option.some (Jvm.ClassFile.FieldType.object "java/lang/String"))]
set_option maxRecDepth 65536 in
theorem codes_eq : words1.filter isCode = codes1 := rfl
theorem w_codes : ∀ c ∈ words1.filter isCode, c.before args0 about1 = true := by
  rw [codes_eq]
  intro c hc
  simp only [codes1, List.mem_cons, List.not_mem_nil, or_false] at hc
  rcases hc with rfl | rfl | rfl | rfl | rfl | rfl | rfl | rfl | rfl | rfl | rfl | rfl | rfl | rfl | rfl | rfl | rfl | rfl | rfl | rfl | rfl | rfl | rfl | rfl | rfl | rfl | rfl | rfl | rfl
  · exact w_c0
  · exact w_c1
  · exact w_c2
  · exact w_c3
  · exact w_c4
  · exact w_c5
  · exact w_c6
  · exact w_c7
  · exact w_c8
  · exact w_c9
  · exact w_c10
  · exact w_c11
  · exact w_c12
  · exact w_c13
  · exact w_c14
  · exact w_c15
  · exact w_c16
  · exact w_c17
  · exact w_c18
  · exact w_c19
  · exact w_c20
  · exact w_c21
  · exact w_c22
  · exact w_c23
  · exact w_c24
  · exact w_c25
  · exact w_c26
  · exact w_c27
  · exact w_c28
set_option maxRecDepth 65536 in
theorem w_t1 : (words1.take 24).all (fun c => isCode c || c.before args0 about1) = true := by decide +kernel
set_option maxRecDepth 65536 in
theorem w_t2 : ((words1.drop 24).take 24).all (fun c => isCode c || c.before args0 about1) = true := by decide +kernel
set_option maxRecDepth 65536 in
theorem w_t3 : (((words1.drop 24).drop 24).take 24).all (fun c => isCode c || c.before args0 about1) = true := by decide +kernel
set_option maxRecDepth 65536 in
theorem w_t4 : ((((words1.drop 24).drop 24).drop 24).take 24).all (fun c => isCode c || c.before args0 about1) = true := by decide +kernel
set_option maxRecDepth 65536 in
theorem w_t5 : (((((words1.drop 24).drop 24).drop 24).drop 24).take 24).all (fun c => isCode c || c.before args0 about1) = true := by decide +kernel
set_option maxRecDepth 65536 in
theorem w_t6 : (((((words1.drop 24).drop 24).drop 24).drop 24).drop 24).all (fun c => isCode c || c.before args0 about1) = true := by decide +kernel
theorem w_tables : (allAtoms (Jvm.Cond.code x code maxLocals ret :: tables_1)).before args0 about1 = true := by
  rw [allAtoms_all]
  show words1.all (fun c => c.before args0 about1) = true
  refine all_split ?_ w_codes
  rw [← List.take_append_drop 24 words1, List.all_append, w_t1, ← List.take_append_drop 24 (words1.drop 24), List.all_append, w_t2, ← List.take_append_drop 24 ((words1.drop 24).drop 24), List.all_append, w_t3, ← List.take_append_drop 24 (((words1.drop 24).drop 24).drop 24), List.all_append, w_t4, ← List.take_append_drop 24 ((((words1.drop 24).drop 24).drop 24).drop 24), List.all_append, w_t5, w_t6]
  rfl
set_option maxRecDepth 65536 in
theorem w_rest : rest_1_c.before args0 about1 = true := by decide +kernel
set_option maxRecDepth 65536 in
theorem w_case : (Jvm.Cond.and given_1 narrow_1).before args0 about1 = true := by decide +kernel
set_option maxRecDepth 65536 in
theorem w_consts : constsHeld consts_1 about1 := Jvm.Lit.constsHeldB_iff.mp (by decide +kernel)
theorem w_applies : (headSpec (Jvm.Cond.code x code maxLocals ret :: tables_1) room_1).applies x e0.platform about1 = true :=
  (Spec.applies_iff w_frames).mpr ⟨w_running, w_runnable, w_alone, w_named, w_hears, w_ripe, w_room, w_tables⟩
theorem atStart : AtStart classFile x code maxLocals ret World_1 tables_1 room_1 Calls_1 rest_1 Pre_1 launch0 p0 e0 about1 theMethod args0 below0 :=
  ⟨lists_1, trivial, launch0.admits_env _ _ _, launch0.least_env, fairChoices_fair.cas, fairChoices_fair.clock, w_frames, w_args, w_heap, w_applies, ⟨w_consts, trivial⟩, w_rest, w_case⟩
end start1
theorem witness_1 : WitnessClaimed_1 := ⟨start1.p0, start1.e0, start1.about1, start1.theMethod, start1.args0, start1.below0, start1.atStart⟩
end Jvm.Pilot.@@N@@
