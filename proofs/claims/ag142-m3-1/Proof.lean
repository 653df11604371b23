import JvmDerived
import JvmDerived.Pilot.@@N@@Statement
import JvmDerived.Pilot.@@N@@Code
set_option linter.unusedVariables false
set_option linter.unusedSimpArgs false
namespace Jvm.Pilot.@@N@@
open Jvm Jvm.ClassFile Sem Op Lib Jvm.Free Jvm.Stand Jvm.LawKit Jvm.RoadKit Bundle Jvm.Pilot.@@N@@.Jvm.D

set_option maxRecDepth 65536
set_option maxHeartbeats 40000000
abbrev HW (a0 : Array Value) (Z : State) : Prop := ∀ d ∈ tables_1, d.before a0 Z = true
abbrev yb (c : Int32) : Value := .int (c.toInt8.toInt32)
abbrev mkR (a b c d : Nat) : Room := { frames := a, cells := b, slots := c, locals := d }
theorem own_w {a b : Nat} (h : 2 * 0 + a = b) : 2 * 0 + a ≤ b := Nat.le_of_eq h
abbrev ci (x : Int32) : Slot := .val (.int x)
abbrev cj (x : Int64) : Slot := .val (.long x)
abbrev cr (x : Addr) : Slot := .val (.ref x)
abbrev cs : Slot := .second
abbrev cu : Slot := .unset
abbrev cJV : String := "com/example/ratatoskr/ratatoskr/JsonValue"
abbrev cJA : String := "com/example/ratatoskr/ratatoskr/JsonArray"
abbrev cJO : String := "com/example/ratatoskr/ratatoskr/JsonObject"
abbrev cNA : String := "com/example/ratatoskr/ratatoskr/Names"
abbrev cWK : String := "com/example/ratatoskr/ratatoskr/Walk"
abbrev cLHM : String := "java/util/LinkedHashMap"
abbrev cHM : String := "java/util/HashMap"
abbrev cAJ : String := "[Lcom/example/ratatoskr/ratatoskr/JsonValue;"
abbrev cST : String := "java/lang/String"
abbrev cHN : String := "java/util/HashMap$Node"
abbrev cLE : String := "java/util/LinkedHashMap$Entry"
abbrev cLI : String := "java/util/LinkedHashMap$LinkedHashIterator"
abbrev cLJ : String := "java/util/LinkedHashMap$LinkedEntryIterator"
abbrev qs0 : String := "Lcom/example/ratatoskr/ratatoskr/Names;"
abbrev qs1 : String := "outerValues"
abbrev qs2 : String := "[[Lcom/example/ratatoskr/ratatoskr/JsonValue;"
abbrev qs3 : String := "outerNames"
abbrev qs4 : String := "[Lcom/example/ratatoskr/ratatoskr/Names;"
abbrev qs5 : String := "outerPlaces"
abbrev qs6 : String := " (.int (1 : Int32)) ∧ Fld Z h wk_ "
abbrev qs7 : String := " (.int (0 : Int32))) (Pa2 : Exa Z h0 wk_ "
abbrev qs8 : String := ") (Pa3 : Arv Z h0 va_ kva_ (.object "
abbrev qs9 : String := ") (2 : Int32) [(.ref w_EMPTY), (.ref ob_)] .null) (Pa4 : Fld Z h0 wk_ "
abbrev qs10 : String := " (.int (2 : Int32)) ∧ Fld Z h wk_ "
abbrev qs11 : String := " (.ref op_) ∧ Fld Z h wk_ "
abbrev qs12 : String := " (.int (3 : Int32)) ∧ Fld Z h wk_ "
abbrev qs13 : String := " (.int (0 : Int32)) ∧ Fld Z h b589 "
abbrev qs14 : String := "loadFactor"
abbrev qs15 : String := "accessOrder"
abbrev qs16 : String := "[Ljava/util/HashMap$Node;"
abbrev qs17 : String := "threshold"
abbrev qs18 : String := "Ljava/util/LinkedHashMap$Entry;"
abbrev qs19 : String := "Ljava/util/Set;"
abbrev qs20 : String := " (.float (1061158912 : UInt32)) ∧ Fld Z h b611 "
abbrev qs21 : String := " (.int (0 : Int32)) ∧ Fld Z h b611 "
abbrev qs22 : String := "java/util/Set"
abbrev qs23 : String := "com/example/ratatoskr/ratatoskr/JsonObject$Builder"
abbrev qs24 : String := "Ljava/util/Map;"
abbrev qs25 : String := "java/util/Map"
abbrev qs26 : String := "java/lang/Object"
abbrev qs27 : String := " (.int (0 : Int32))) (Pa10 : Fld Z h0 b652 "
abbrev qs28 : String := " (.float (1061158912 : UInt32)) ∧ Fld Z h b652 "
abbrev qs29 : String := " (.int (0 : Int32)) ∧ Fld Z h b652 "
abbrev qs30 : String := "Ljava/lang/Object;"
abbrev qs31 : String := "Ljava/util/HashMap$Node;"
abbrev qs32 : String := " (.int r663) ∧ Fld Z h b689 "
abbrev qs33 : String := " (.int (12 : Int32)) ∧ Fld Z h b652 "
abbrev qs34 : String := " (.int (1 : Int32)) ∧ Fld Z h b652 "
abbrev qs35 : String := "java/util/LinkedHashMap$LinkedEntrySet"
abbrev qs36 : String := "Ljava/util/LinkedHashMap;"
abbrev qs37 : String := "expectedModCount"
abbrev qs38 : String := " (.int (0 : Int32)) ∧ Fld Z h b844 "
abbrev qs39 : String := " (.int (1 : Int32)) ∧ Fld Z h b844 "
abbrev qs40 : String := " (.int (1 : Int32)) ∧ Fld Z h b870 "
abbrev qs41 : String := "java/util/AbstractList"
abbrev qs42 : String := "[Ljava/lang/String;"
abbrev qs43 : String := " (.int (0 : Int32)) ∧ Fld Z h b924 "
abbrev qs44 : String := " .null ∧ Fld Z h b924 "
abbrev qs45 : String := " (.int (1 : Int32)) ∧ Fld Z h b1038 "
abbrev qs46 : String := " (.int (2 : Int32)) ∧ Fld Z h b1038 "
abbrev qs47 : String := " (.ref b1065) ∧ Fld Z h b1038 "
abbrev qs48 : String := " (.int z_)) (Q8_17 : Fld Z h8 b1038 "
abbrev qs49 : String := " (.ref b1065)) (Q8_21 : Arv Z h8 b1063 k1066 (.array (.object "
abbrev ym0 : MethodName := ⟨"com/example/ratatoskr/ratatoskr/WalkLeavePinLaw", "place", "(IZ)I"⟩
abbrev ym1 : MethodName := ⟨"java/lang/String", "isLatin1", "()Z"⟩
abbrev ym2 : MethodName := ⟨"java/lang/StringLatin1", "hashCode", "([B)I"⟩
abbrev ym3 : MethodName := ⟨"java/lang/String", "hashCode", "()I"⟩
abbrev ym4 : MethodName := ⟨"java/util/HashMap", "hash", "(Ljava/lang/Object;)I"⟩
abbrev ym5 : MethodName := ⟨"java/lang/Object", "hashCode", "()I"⟩
abbrev ym6 : MethodName := ⟨"com/example/ratatoskr/ratatoskr/JsonObject", "values", "()[Lcom/example/ratatoskr/ratatoskr/JsonValue;"⟩
abbrev ym7 : MethodName := ⟨"com/example/ratatoskr/ratatoskr/JsonObject", "shape", "()Lcom/example/ratatoskr/ratatoskr/Names;"⟩
abbrev ym8 : MethodName := ⟨"com/example/ratatoskr/ratatoskr/Walk", "enter", "(Lcom/example/ratatoskr/ratatoskr/JsonValue;)V"⟩
abbrev ym9 : MethodName := ⟨"com/example/ratatoskr/ratatoskr/Walk", "next", "()Lcom/example/ratatoskr/ratatoskr/JsonValue;"⟩
abbrev ym10 : MethodName := ⟨"com/example/ratatoskr/ratatoskr/WalkLeavePinLaw", "step", "(Lcom/example/ratatoskr/ratatoskr/Walk;Lcom/example/ratatoskr/ratatoskr/JsonValue;I)V"⟩
abbrev ym11 : MethodName := ⟨"com/example/ratatoskr/ratatoskr/JsonArray", "elements", "()[Lcom/example/ratatoskr/ratatoskr/JsonValue;"⟩
abbrev ym12 : MethodName := ⟨"java/lang/StringLatin1", "canEncode", "(C)Z"⟩
abbrev ym13 : MethodName := ⟨"java/lang/StringLatin1", "toBytes", "(C)[B"⟩
abbrev ym14 : MethodName := ⟨"java/lang/String", "<init>", "([BB)V"⟩
abbrev ym15 : MethodName := ⟨"java/lang/String", "valueOf", "(C)Ljava/lang/String;"⟩
abbrev ym16 : MethodName := ⟨"java/util/AbstractMap", "<init>", "()V"⟩
abbrev ym17 : MethodName := ⟨"java/util/HashMap", "<init>", "()V"⟩
abbrev ym18 : MethodName := ⟨"java/util/LinkedHashMap", "<init>", "()V"⟩
abbrev ym19 : MethodName := ⟨"com/example/ratatoskr/ratatoskr/JsonObject$Builder", "<init>", "(Ljava/util/Map;Lcom/example/ratatoskr/ratatoskr/Names;)V"⟩
abbrev ym20 : MethodName := ⟨"com/example/ratatoskr/ratatoskr/JsonObject", "builder", "()Lcom/example/ratatoskr/ratatoskr/JsonObject$Builder;"⟩
abbrev ym21 : MethodName := ⟨"java/util/Objects", "requireNonNull", "(Ljava/lang/Object;Ljava/lang/String;)Ljava/lang/Object;"⟩
abbrev ym22 : MethodName := ⟨"java/util/HashMap", "resize", "()[Ljava/util/HashMap$Node;"⟩
abbrev ym23 : MethodName := ⟨"java/util/HashMap$Node", "<init>", "(ILjava/lang/Object;Ljava/lang/Object;Ljava/util/HashMap$Node;)V"⟩
abbrev ym24 : MethodName := ⟨"java/util/LinkedHashMap$Entry", "<init>", "(ILjava/lang/Object;Ljava/lang/Object;Ljava/util/HashMap$Node;)V"⟩
abbrev ym25 : MethodName := ⟨"java/util/LinkedHashMap", "linkNodeAtEnd", "(Ljava/util/LinkedHashMap$Entry;)V"⟩
abbrev ym26 : MethodName := ⟨"java/util/LinkedHashMap", "newNode", "(ILjava/lang/Object;Ljava/lang/Object;Ljava/util/HashMap$Node;)Ljava/util/HashMap$Node;"⟩
abbrev ym27 : MethodName := ⟨"java/util/LinkedHashMap", "removeEldestEntry", "(Ljava/util/Map$Entry;)Z"⟩
abbrev ym28 : MethodName := ⟨"java/util/LinkedHashMap", "afterNodeInsertion", "(Z)V"⟩
abbrev ym29 : MethodName := ⟨"java/util/HashMap", "putVal", "(ILjava/lang/Object;Ljava/lang/Object;ZZ)Ljava/lang/Object;"⟩
abbrev ym30 : MethodName := ⟨"java/util/HashMap", "newNode", "(ILjava/lang/Object;Ljava/lang/Object;Ljava/util/HashMap$Node;)Ljava/util/HashMap$Node;"⟩
abbrev ym31 : MethodName := ⟨"java/util/HashMap", "afterNodeInsertion", "(Z)V"⟩
abbrev ym32 : MethodName := ⟨"java/util/HashMap", "put", "(Ljava/lang/Object;Ljava/lang/Object;)Ljava/lang/Object;"⟩
abbrev ym33 : MethodName := ⟨"com/example/ratatoskr/ratatoskr/JsonObject$Builder", "put", "(Ljava/lang/String;Lcom/example/ratatoskr/ratatoskr/JsonValue;)Lcom/example/ratatoskr/ratatoskr/JsonObject$Builder;"⟩
abbrev ym34 : MethodName := ⟨"java/util/Map", "put", "(Ljava/lang/Object;Ljava/lang/Object;)Ljava/lang/Object;"⟩
abbrev ym35 : MethodName := ⟨"java/util/HashMap", "size", "()I"⟩
abbrev ym36 : MethodName := ⟨"java/util/AbstractCollection", "<init>", "()V"⟩
abbrev ym37 : MethodName := ⟨"java/util/AbstractSet", "<init>", "()V"⟩
abbrev ym38 : MethodName := ⟨"java/util/LinkedHashMap$LinkedEntrySet", "<init>", "(Ljava/util/LinkedHashMap;Z)V"⟩
abbrev ym39 : MethodName := ⟨"java/util/LinkedHashMap", "sequencedEntrySet", "()Ljava/util/SequencedSet;"⟩
abbrev ym40 : MethodName := ⟨"java/util/LinkedHashMap", "entrySet", "()Ljava/util/Set;"⟩
abbrev ym41 : MethodName := ⟨"java/util/LinkedHashMap$LinkedHashIterator", "<init>", "(Ljava/util/LinkedHashMap;Z)V"⟩
abbrev ym42 : MethodName := ⟨"java/util/LinkedHashMap$LinkedEntryIterator", "<init>", "(Ljava/util/LinkedHashMap;Z)V"⟩
abbrev ym43 : MethodName := ⟨"java/util/LinkedHashMap$LinkedEntrySet", "iterator", "()Ljava/util/Iterator;"⟩
abbrev ym44 : MethodName := ⟨"java/util/LinkedHashMap$LinkedHashIterator", "hasNext", "()Z"⟩
abbrev ym45 : MethodName := ⟨"java/util/LinkedHashMap$LinkedHashIterator", "nextNode", "()Ljava/util/LinkedHashMap$Entry;"⟩
abbrev ym46 : MethodName := ⟨"java/util/LinkedHashMap$LinkedEntryIterator", "next", "()Ljava/util/Map$Entry;"⟩
abbrev ym47 : MethodName := ⟨"java/util/LinkedHashMap$LinkedEntryIterator", "nextNode", "()Ljava/util/LinkedHashMap$Entry;"⟩
abbrev ym48 : MethodName := ⟨"java/util/LinkedHashMap$LinkedEntryIterator", "next", "()Ljava/lang/Object;"⟩
abbrev ym49 : MethodName := ⟨"java/util/HashMap$Node", "getKey", "()Ljava/lang/Object;"⟩
abbrev ym50 : MethodName := ⟨"java/util/HashMap$Node", "getValue", "()Ljava/lang/Object;"⟩
abbrev ym51 : MethodName := ⟨"java/util/AbstractList", "<init>", "()V"⟩
abbrev ym52 : MethodName := ⟨"com/example/ratatoskr/ratatoskr/Names", "<init>", "(I)V"⟩
abbrev ym53 : MethodName := ⟨"com/example/ratatoskr/ratatoskr/Names", "findInOrder", "(Ljava/lang/String;)I"⟩
abbrev ym54 : MethodName := ⟨"com/example/ratatoskr/ratatoskr/Names", "find", "(Ljava/lang/String;)I"⟩
abbrev ym55 : MethodName := ⟨"com/example/ratatoskr/ratatoskr/Names", "append", "(Ljava/lang/String;)V"⟩
abbrev ym56 : MethodName := ⟨"com/example/ratatoskr/ratatoskr/Names", "of", "([Ljava/lang/String;II)Lcom/example/ratatoskr/ratatoskr/Names;"⟩
abbrev ym57 : MethodName := ⟨"com/example/ratatoskr/ratatoskr/JsonObject", "<init>", "(Lcom/example/ratatoskr/ratatoskr/Names;[Lcom/example/ratatoskr/ratatoskr/JsonValue;)V"⟩
abbrev ym58 : MethodName := ⟨"com/example/ratatoskr/ratatoskr/JsonObject$Builder", "build", "()Lcom/example/ratatoskr/ratatoskr/JsonObject;"⟩
abbrev ym59 : MethodName := ⟨"java/util/Map", "size", "()I"⟩
abbrev ym60 : MethodName := ⟨"java/util/Map", "entrySet", "()Ljava/util/Set;"⟩
abbrev ym61 : MethodName := ⟨"java/util/Set", "iterator", "()Ljava/util/Iterator;"⟩
abbrev ym62 : MethodName := ⟨"java/util/Iterator", "hasNext", "()Z"⟩
abbrev ym63 : MethodName := ⟨"java/util/Iterator", "next", "()Ljava/lang/Object;"⟩
abbrev ym64 : MethodName := ⟨"java/util/Map$Entry", "getKey", "()Ljava/lang/Object;"⟩
abbrev ym65 : MethodName := ⟨"java/util/Map$Entry", "getValue", "()Ljava/lang/Object;"⟩
abbrev ym66 : MethodName := ⟨"com/example/ratatoskr/ratatoskr/JsonArray", "<init>", "([Lcom/example/ratatoskr/ratatoskr/JsonValue;)V"⟩
abbrev ym67 : MethodName := ⟨"com/example/ratatoskr/ratatoskr/JsonArray", "holding", "([Lcom/example/ratatoskr/ratatoskr/JsonValue;)Lcom/example/ratatoskr/ratatoskr/JsonArray;"⟩
abbrev ym68 : MethodName := ⟨"com/example/ratatoskr/ratatoskr/Walk", "<init>", "()V"⟩
abbrev ym69 : MethodName := ⟨"com/example/ratatoskr/ratatoskr/Walk", "depth", "()I"⟩
abbrev ym70 : MethodName := ⟨"com/example/ratatoskr/ratatoskr/Walk", "inObject", "()Z"⟩
abbrev ym71 : MethodName := ⟨"com/example/ratatoskr/ratatoskr/Walk", "place", "()I"⟩
abbrev ym72 : MethodName := ⟨"com/example/ratatoskr/ratatoskr/Walk", "hasNext", "()Z"⟩
abbrev ym73 : MethodName := ⟨"com/example/ratatoskr/ratatoskr/Names", "get", "(I)Ljava/lang/String;"⟩
abbrev ym74 : MethodName := ⟨"com/example/ratatoskr/ratatoskr/Walk", "name", "()Ljava/lang/String;"⟩
abbrev ym75 : MethodName := ⟨"java/lang/String", "equals", "(Ljava/lang/Object;)Z"⟩
abbrev ym76 : MethodName := ⟨"com/example/ratatoskr/ratatoskr/Walk", "leave", "()V"⟩
section OwnEnds
variable {p : Program} {l : Launch} {e : Env} {R : Room} {s : State} {m : MethodId} {args : Array Value} {below : List Frame} {meth : Method} {c : Code} {T : State} {locs : List Loc} {cells slots : Nat}
/-- from here the body comes to its end, returns, and leaves what Q says -/
def Ends (p : Program) (e : Env) (below : List Frame) (s T : State) (g : JFrame) (kc ks : Nat) (Q : Option Value → Heap → List Loc → Prop) : Prop :=
 ∃ s₂ o, Steps p.tables e below (T.setTop g) s₂ ∧ s₂.status = .running ∧ Ended s₂ below o ∧ ∃ v L, o = .returned v ∧ Q v s₂.heap L ∧ FrameEnd s o s₂ L kc ks
theorem Ends.go {T' : State} {g g' : JFrame} {kc ks : Nat} {Q : Option Value → Heap → List Loc → Prop} (h : ∀ target, Steps p.tables e below (T'.setTop g') target → Steps p.tables e below (T.setTop g) target) (k : Ends p e below s T' g' kc ks Q) : Ends p e below s T g kc ks Q := by
 obtain ⟨s₂, o, h1, h2⟩ := k
 exact ⟨s₂, o, h _ h1, h2⟩
theorem Ends.ret (X : Stand p l e R s m args below meth c T locs cells slots) (hx : p.tables.exec = Jvm.exec) (hlocks : meth.locks = false) {pc : Nat} {Ls : Array Slot} {w : Value} {t : FieldType} {i : Instr} {rest : List Value} (hret : meth.sig.returnType = some t) (hn : narrow t w = w)
  (hi : (i = .ireturn ∧ (t = .int ∨ t = .boolean ∨ t = .byte ∨ t = .char ∨ t = .short) ∧ ∃ z, w = .int z) ∨ (i = .lreturn ∧ t = .long ∧ ∃ z, w = .long z) ∨ (i = .dreturn ∧ t = .double ∧ ∃ z, w = .double z) ∨ (i = .freturn ∧ t = .float ∧ ∃ z, w = .float z) ∨ (i = .areturn ∧ t.isReference = true ∧ w.isRef = true))
  (hd : decode c.code pc = .ok (i, 1)) {kc ks : Nat} {Q : Option Value → Heap → List Loc → Prop} (hc : cells ≤ kc) (hs : slots ≤ ks) (hq : Q (some w) T.heap locs) : Ends p e below s T (mkF m pc Ls (w :: rest)) kc ks Q := by
 obtain ⟨fs, hr, hrun, hended, hW, hsame⟩ := X.leave (v := some w) (fun h => by rw [hret] at h; cases h) hlocks
 exact ⟨_, _, retOut X hx hret hn hi hd hr, hrun, hended, _, _, rfl, hq, ⟨_, rfl⟩, hW, hsame.mono hc hs⟩
theorem Ends.retZ (X : Stand p l e R s m args below meth c T locs cells slots) (hx : p.tables.exec = Jvm.exec) (hlocks : meth.locks = false) {pc : Nat} {Ls : Array Slot} {z : Int32} {t : FieldType} {rest : List Value} (hret : meth.sig.returnType = some t) (ht : t = .boolean ∨ t = .byte ∨ t = .char ∨ t = .short)
  (hd : decode c.code pc = .ok (.ireturn, 1)) {kc ks : Nat} {Q : Option Value → Heap → List Loc → Prop} (hc : cells ≤ kc) (hs : slots ≤ ks) (hq : Q (some (.int (nar t z))) T.heap locs) : Ends p e below s T (mkF m pc Ls (.int z :: rest)) kc ks Q := by
 obtain ⟨fs, hr, hrun, hended, hW, hsame⟩ := X.leave (v := some (.int (nar t z))) (fun h => by rw [hret] at h; cases h) hlocks
 exact ⟨_, _, retN X hx hret ht hd hr, hrun, hended, _, _, rfl, hq, ⟨_, rfl⟩, hW, hsame.mono hc hs⟩
theorem Ends.retV (X : Stand p l e R s m args below meth c T locs cells slots) (hx : p.tables.exec = Jvm.exec) (hlocks : meth.locks = false) {pc : Nat} {Ls : Array Slot} (hret : meth.sig.returnType = none)
  (hd : decode c.code pc = .ok (.return_, 1)) {kc ks : Nat} {Q : Option Value → Heap → List Loc → Prop} (hc : cells ≤ kc) (hs : slots ≤ ks) (hq : Q none T.heap locs) : Ends p e below s T (mkF m pc Ls []) kc ks Q := by
 obtain ⟨fs, hr, hrun, hended, hW, hsame⟩ := X.leave (v := none) (fun _ => rfl) hlocks
 exact ⟨_, _, X.returnOut hx hret hd hr, hrun, hended, _, _, rfl, hq, ⟨_, rfl⟩, hW, hsame.mono hc hs⟩
theorem own_mono (X : Stand p l e R s m args below meth c T locs cells slots) {kc ks : Nat} (hc : cells ≤ kc) (hs : slots ≤ ks) : Stand p l e R s m args below meth c T locs kc ks := { X with same := X.same.mono hc hs }
theorem wil {kc ks : Nat} {Q : Option Value → Heap → List Loc → Prop} {pc : Nat} {L : Array Slot} {S : List Value} {B : ByteArray} {k : Nat} {v : Int32} (X : Stand p l e R s m args below meth c T locs cells slots) (hx : p.tables.exec = Jvm.exec) (hby : c.code = B) (hd : decode B pc = .ok (.iload k, 2)) (hl : L[k]? = some (.val (.int v))) (q : Ends p e below s T (mkF m (pc + 2) L (.int v :: S)) kc ks Q) : Ends p e below s T (mkF m pc L S) kc ks Q := Ends.go (fun _ k => XS.iload X.here hx rfl (hb hby hd) hl k) q
theorem wilN {kc ks : Nat} {Q : Option Value → Heap → List Loc → Prop} {pc : Nat} {L : Array Slot} {S : List Value} {B : ByteArray} {k : Fin 4} {v : Int32} (X : Stand p l e R s m args below meth c T locs cells slots) (hx : p.tables.exec = Jvm.exec) (hby : c.code = B) (hd : decode B pc = .ok (.iload_n k, 1)) (hl : L[k.val]? = some (.val (.int v))) (q : Ends p e below s T (mkF m (pc + 1) L (.int v :: S)) kc ks Q) : Ends p e below s T (mkF m pc L S) kc ks Q := Ends.go (fun _ k => XS.iloadN X.here hx rfl (hb hby hd) hl k) q
theorem wal {kc ks : Nat} {Q : Option Value → Heap → List Loc → Prop} {pc : Nat} {L : Array Slot} {S : List Value} {B : ByteArray} {k : Nat} {v : Value} (X : Stand p l e R s m args below meth c T locs cells slots) (hx : p.tables.exec = Jvm.exec) (hby : c.code = B) (hd : decode B pc = .ok (.aload k, 2)) (hl : L[k]? = some (.val v)) (hv : v.isRef = true) (q : Ends p e below s T (mkF m (pc + 2) L (v :: S)) kc ks Q) : Ends p e below s T (mkF m pc L S) kc ks Q := Ends.go (fun _ k => XS.aload X.here hx rfl (hb hby hd) hl hv k) q
theorem walN {kc ks : Nat} {Q : Option Value → Heap → List Loc → Prop} {pc : Nat} {L : Array Slot} {S : List Value} {B : ByteArray} {k : Fin 4} {v : Value} (X : Stand p l e R s m args below meth c T locs cells slots) (hx : p.tables.exec = Jvm.exec) (hby : c.code = B) (hd : decode B pc = .ok (.aload_n k, 1)) (hl : L[k.val]? = some (.val v)) (hv : v.isRef = true) (q : Ends p e below s T (mkF m (pc + 1) L (v :: S)) kc ks Q) : Ends p e below s T (mkF m pc L S) kc ks Q := Ends.go (fun _ k => XS.aloadN X.here hx rfl (hb hby hd) hl hv k) q
theorem wic {kc ks : Nat} {Q : Option Value → Heap → List Loc → Prop} {pc : Nat} {L : Array Slot} {S : List Value} {B : ByteArray} {i : Int} (X : Stand p l e R s m args below meth c T locs cells slots) (hx : p.tables.exec = Jvm.exec) (hby : c.code = B) (hd : decode B pc = .ok (.iconst i, 1)) (q : Ends p e below s T (mkF m (pc + 1) L (.int (Int32.ofInt i) :: S)) kc ks Q) : Ends p e below s T (mkF m pc L S) kc ks Q := Ends.go (fun _ k => XS.iconst X.here hx rfl (hb hby hd)  k) q
theorem wbp {kc ks : Nat} {Q : Option Value → Heap → List Loc → Prop} {pc : Nat} {L : Array Slot} {S : List Value} {B : ByteArray} {i : Int} (X : Stand p l e R s m args below meth c T locs cells slots) (hx : p.tables.exec = Jvm.exec) (hby : c.code = B) (hd : decode B pc = .ok (.bipush i, 2)) (q : Ends p e below s T (mkF m (pc + 2) L (.int (Int8.ofInt i).toInt32 :: S)) kc ks Q) : Ends p e below s T (mkF m pc L S) kc ks Q := Ends.go (fun _ k => XS.bipush X.here hx rfl (hb hby hd)  k) q
theorem wsp {kc ks : Nat} {Q : Option Value → Heap → List Loc → Prop} {pc : Nat} {L : Array Slot} {S : List Value} {B : ByteArray} {i : Int} (X : Stand p l e R s m args below meth c T locs cells slots) (hx : p.tables.exec = Jvm.exec) (hby : c.code = B) (hd : decode B pc = .ok (.sipush i, 3)) (q : Ends p e below s T (mkF m (pc + 3) L (.int (Int16.ofInt i).toInt32 :: S)) kc ks Q) : Ends p e below s T (mkF m pc L S) kc ks Q := Ends.go (fun _ k => XS.sipush X.here hx rfl (hb hby hd)  k) q
theorem wia {kc ks : Nat} {Q : Option Value → Heap → List Loc → Prop} {pc : Nat} {L : Array Slot} {S : List Value} {B : ByteArray} {x y : Int32} (X : Stand p l e R s m args below meth c T locs cells slots) (hx : p.tables.exec = Jvm.exec) (hby : c.code = B) (hd : decode B pc = .ok (.iadd, 1)) (q : Ends p e below s T (mkF m (pc + 1) L (.int (x + y) :: S)) kc ks Q) : Ends p e below s T (mkF m pc L (.int y :: .int x :: S)) kc ks Q := Ends.go (fun _ k => XS.iadd X.here hx rfl (hb hby hd) rfl k) q
theorem wis {kc ks : Nat} {Q : Option Value → Heap → List Loc → Prop} {pc : Nat} {L : Array Slot} {S : List Value} {B : ByteArray} {x y : Int32} (X : Stand p l e R s m args below meth c T locs cells slots) (hx : p.tables.exec = Jvm.exec) (hby : c.code = B) (hd : decode B pc = .ok (.isub, 1)) (q : Ends p e below s T (mkF m (pc + 1) L (.int (x - y) :: S)) kc ks Q) : Ends p e below s T (mkF m pc L (.int y :: .int x :: S)) kc ks Q := Ends.go (fun _ k => XS.isub X.here hx rfl (hb hby hd) rfl k) q
theorem wst {kc ks : Nat} {Q : Option Value → Heap → List Loc → Prop} {pc : Nat} {L : Array Slot} {S : List Value} {B : ByteArray} {k : Nat} {x : Int32} {l' : Array Slot} (X : Stand p l e R s m args below meth c T locs cells slots) (hx : p.tables.exec = Jvm.exec) (hby : c.code = B) (hd : decode B pc = .ok (.istore k, 2)) (hl : storeLocals L k (.int x) = some l') (q : Ends p e below s T (mkF m (pc + 2) l' S) kc ks Q) : Ends p e below s T (mkF m pc L (.int x :: S)) kc ks Q := Ends.go (fun _ k => XS.istore X.here hx rfl (hb hby hd) rfl hl k) q
theorem wstN {kc ks : Nat} {Q : Option Value → Heap → List Loc → Prop} {pc : Nat} {L : Array Slot} {S : List Value} {B : ByteArray} {k : Fin 4} {x : Int32} {l' : Array Slot} (X : Stand p l e R s m args below meth c T locs cells slots) (hx : p.tables.exec = Jvm.exec) (hby : c.code = B) (hd : decode B pc = .ok (.istore_n k, 1)) (hl : storeLocals L k.val (.int x) = some l') (q : Ends p e below s T (mkF m (pc + 1) l' S) kc ks Q) : Ends p e below s T (mkF m pc L (.int x :: S)) kc ks Q := Ends.go (fun _ k => XS.istoreN X.here hx rfl (hb hby hd) rfl hl k) q
theorem was {kc ks : Nat} {Q : Option Value → Heap → List Loc → Prop} {pc : Nat} {L : Array Slot} {S : List Value} {B : ByteArray} {k : Nat} {x : Value} {l' : Array Slot} (X : Stand p l e R s m args below meth c T locs cells slots) (hx : p.tables.exec = Jvm.exec) (hby : c.code = B) (hd : decode B pc = .ok (.astore k, 2)) (hv : x.isRef = true) (hl : storeLocals L k x = some l') (q : Ends p e below s T (mkF m (pc + 2) l' S) kc ks Q) : Ends p e below s T (mkF m pc L (x :: S)) kc ks Q := Ends.go (fun _ k => XS.astore X.here hx rfl (hb hby hd) rfl hv hl k) q
theorem wasN {kc ks : Nat} {Q : Option Value → Heap → List Loc → Prop} {pc : Nat} {L : Array Slot} {S : List Value} {B : ByteArray} {k : Fin 4} {x : Value} {l' : Array Slot} (X : Stand p l e R s m args below meth c T locs cells slots) (hx : p.tables.exec = Jvm.exec) (hby : c.code = B) (hd : decode B pc = .ok (.astore_n k, 1)) (hv : x.isRef = true) (hl : storeLocals L k.val x = some l') (q : Ends p e below s T (mkF m (pc + 1) l' S) kc ks Q) : Ends p e below s T (mkF m pc L (x :: S)) kc ks Q := Ends.go (fun _ k => XS.astoreN X.here hx rfl (hb hby hd) rfl hv hl k) q
theorem wii {kc ks : Nat} {Q : Option Value → Heap → List Loc → Prop} {pc : Nat} {L : Array Slot} {S : List Value} {B : ByteArray} {k : Nat} {cst : Int} {x : Int32} {l' : Array Slot} (X : Stand p l e R s m args below meth c T locs cells slots) (hx : p.tables.exec = Jvm.exec) (hby : c.code = B) (hd : decode B pc = .ok (.iinc k cst, 3)) (hl : L[k]? = some (.val (.int x))) (hl' : storeLocals L k (.int (x + Int32.ofInt cst)) = some l') (q : Ends p e below s T (mkF m (pc + 3) l' S) kc ks Q) : Ends p e below s T (mkF m pc L S) kc ks Q := Ends.go (fun _ k => XS.iinc X.here hx rfl (hb hby hd) hl hl' k) q
theorem wgo {kc ks : Nat} {Q : Option Value → Heap → List Loc → Prop} {pc : Nat} {L : Array Slot} {S : List Value} {B : ByteArray} {o : Int} {pc' : Nat} (X : Stand p l e R s m args below meth c T locs cells slots) (hx : p.tables.exec = Jvm.exec) (hby : c.code = B) (hd : decode B pc = .ok (.goto o, 3)) (q : Ends p e below s T (mkF m pc' L S) kc ks Q) (ho : 0 ≤ (pc : Int) + o := by decide) (hp : ((pc : Int) + o).toNat = pc' := by decide) : Ends p e below s T (mkF m pc L S) kc ks Q := Ends.go (fun _ k => XS.goto X.here hx rfl rfl (hb hby hd) ho hp k) q
theorem wcy {kc ks : Nat} {Q : Option Value → Heap → List Loc → Prop} {pc : Nat} {L : Array Slot} {S : List Value} {B : ByteArray} {cd : ClassFile.Cond} {x y : Int32} {o : Int} {pc' : Nat} (X : Stand p l e R s m args below meth c T locs cells slots) (hx : p.tables.exec = Jvm.exec) (hby : c.code = B) (hd : decode B pc = .ok (.if_icmp cd o, 3)) (hc : if_icmp.holds cd x y = true) (q : Ends p e below s T (mkF m pc' L S) kc ks Q) (ho : 0 ≤ (pc : Int) + o := by decide) (hp : ((pc : Int) + o).toNat = pc' := by decide) : Ends p e below s T (mkF m pc L (.int y :: .int x :: S)) kc ks Q := Ends.go (fun _ k => XS.icmpYes X.here hx rfl rfl (hb hby hd) rfl hc ho hp k) q
theorem wcn {kc ks : Nat} {Q : Option Value → Heap → List Loc → Prop} {pc : Nat} {L : Array Slot} {S : List Value} {B : ByteArray} {cd : ClassFile.Cond} {x y : Int32} {o : Int} (X : Stand p l e R s m args below meth c T locs cells slots) (hx : p.tables.exec = Jvm.exec) (hby : c.code = B) (hd : decode B pc = .ok (.if_icmp cd o, 3)) (hc : if_icmp.holds cd x y = false) (q : Ends p e below s T (mkF m (pc + 3) L S) kc ks Q) : Ends p e below s T (mkF m pc L (.int y :: .int x :: S)) kc ks Q := Ends.go (fun _ k => XS.icmpNo X.here hx rfl (hb hby hd) rfl hc k) q
theorem wiy {kc ks : Nat} {Q : Option Value → Heap → List Loc → Prop} {pc : Nat} {L : Array Slot} {S : List Value} {B : ByteArray} {cd : ClassFile.Cond} {x : Int32} {o : Int} {pc' : Nat} (X : Stand p l e R s m args below meth c T locs cells slots) (hx : p.tables.exec = Jvm.exec) (hby : c.code = B) (hd : decode B pc = .ok (.ifCond cd o, 3)) (hc : ifCond.holds cd x = true) (q : Ends p e below s T (mkF m pc' L S) kc ks Q) (ho : 0 ≤ (pc : Int) + o := by decide) (hp : ((pc : Int) + o).toNat = pc' := by decide) : Ends p e below s T (mkF m pc L (.int x :: S)) kc ks Q := Ends.go (fun _ k => XS.ifYes X.here hx rfl rfl (hb hby hd) rfl hc ho hp k) q
theorem win {kc ks : Nat} {Q : Option Value → Heap → List Loc → Prop} {pc : Nat} {L : Array Slot} {S : List Value} {B : ByteArray} {cd : ClassFile.Cond} {x : Int32} {o : Int} (X : Stand p l e R s m args below meth c T locs cells slots) (hx : p.tables.exec = Jvm.exec) (hby : c.code = B) (hd : decode B pc = .ok (.ifCond cd o, 3)) (hc : ifCond.holds cd x = false) (q : Ends p e below s T (mkF m (pc + 3) L S) kc ks Q) : Ends p e below s T (mkF m pc L (.int x :: S)) kc ks Q := Ends.go (fun _ k => XS.ifNo X.here hx rfl (hb hby hd) rfl hc k) q
theorem wan {kc ks : Nat} {Q : Option Value → Heap → List Loc → Prop} {pc : Nat} {L : Array Slot} {S : List Value} {B : ByteArray} {x y : Int32} (X : Stand p l e R s m args below meth c T locs cells slots) (hx : p.tables.exec = Jvm.exec) (hby : c.code = B) (hd : decode B pc = .ok (.iand, 1)) (q : Ends p e below s T (mkF m (pc + 1) L (.int (x &&& y) :: S)) kc ks Q) : Ends p e below s T (mkF m pc L (.int y :: .int x :: S)) kc ks Q := Ends.go (fun _ k => XS.iand X.here hx rfl (hb hby hd) rfl k) q
theorem wdu {kc ks : Nat} {Q : Option Value → Heap → List Loc → Prop} {pc : Nat} {L : Array Slot} {S : List Value} {B : ByteArray} {x : Value} (X : Stand p l e R s m args below meth c T locs cells slots) (hx : p.tables.exec = Jvm.exec) (hby : c.code = B) (hd : decode B pc = .ok (.dup, 1)) (hv : x.category = 1) (q : Ends p e below s T (mkF m (pc + 1) L (x :: x :: S)) kc ks Q) : Ends p e below s T (mkF m pc L (x :: S)) kc ks Q := Ends.go (fun _ k => XS.dup X.here hx rfl (hb hby hd) rfl hv k) q
theorem wnu {kc ks : Nat} {Q : Option Value → Heap → List Loc → Prop} {pc : Nat} {L : Array Slot} {S : List Value} {B : ByteArray}  (X : Stand p l e R s m args below meth c T locs cells slots) (hx : p.tables.exec = Jvm.exec) (hby : c.code = B) (hd : decode B pc = .ok (.aconst_null, 1)) (q : Ends p e below s T (mkF m (pc + 1) L (.null :: S)) kc ks Q) : Ends p e below s T (mkF m pc L S) kc ks Q := Ends.go (fun _ k => XS.aconstNull X.here hx rfl (hb hby hd) k) q
theorem wpo {kc ks : Nat} {Q : Option Value → Heap → List Loc → Prop} {pc : Nat} {L : Array Slot} {S : List Value} {B : ByteArray} {x : Value} (X : Stand p l e R s m args below meth c T locs cells slots) (hx : p.tables.exec = Jvm.exec) (hby : c.code = B) (hd : decode B pc = .ok (.pop, 1)) (hv : x.category = 1) (q : Ends p e below s T (mkF m (pc + 1) L S) kc ks Q) : Ends p e below s T (mkF m pc L (x :: S)) kc ks Q := Ends.go (fun _ k => XS.pop X.here hx rfl (hb hby hd) rfl hv k) q
theorem wdx {kc ks : Nat} {Q : Option Value → Heap → List Loc → Prop} {pc : Nat} {L : Array Slot} {S : List Value} {B : ByteArray} {x y : Value} (X : Stand p l e R s m args below meth c T locs cells slots) (hx : p.tables.exec = Jvm.exec) (hby : c.code = B) (hd : decode B pc = .ok (.dup_x1, 1)) (hv : x.category = 1) (hv' : y.category = 1) (q : Ends p e below s T (mkF m (pc + 1) L (x :: y :: x :: S)) kc ks Q) : Ends p e below s T (mkF m pc L (x :: y :: S)) kc ks Q := Ends.go (fun _ k => XS.dupX1 X.here hx rfl (hb hby hd) rfl hv hv' k) q
theorem wnn {kc ks : Nat} {Q : Option Value → Heap → List Loc → Prop} {pc : Nat} {L : Array Slot} {S : List Value} {B : ByteArray} {o : Int} (X : Stand p l e R s m args below meth c T locs cells slots) (hx : p.tables.exec = Jvm.exec) (hby : c.code = B) (hd : decode B pc = .ok (.ifnonnull o, 3)) (q : Ends p e below s T (mkF m (pc + 3) L S) kc ks Q) : Ends p e below s T (mkF m pc L (.null :: S)) kc ks Q := Ends.go (fun _ k => XS.ifnonnullNo X.here hx rfl (hb hby hd) rfl k) q
theorem wun {kc ks : Nat} {Q : Option Value → Heap → List Loc → Prop} {pc : Nat} {L : Array Slot} {S : List Value} {B : ByteArray} {a : Addr} {o : Int} (X : Stand p l e R s m args below meth c T locs cells slots) (hx : p.tables.exec = Jvm.exec) (hby : c.code = B) (hd : decode B pc = .ok (.ifnull o, 3)) (q : Ends p e below s T (mkF m (pc + 3) L S) kc ks Q) : Ends p e below s T (mkF m pc L (.ref a :: S)) kc ks Q := Ends.go (fun _ k => XS.ifnullNo X.here hx rfl (hb hby hd) rfl k) q
theorem wny {kc ks : Nat} {Q : Option Value → Heap → List Loc → Prop} {pc : Nat} {L : Array Slot} {S : List Value} {B : ByteArray} {a : Addr} {o : Int} {pc' : Nat} (X : Stand p l e R s m args below meth c T locs cells slots) (hx : p.tables.exec = Jvm.exec) (hby : c.code = B) (hd : decode B pc = .ok (.ifnonnull o, 3)) (q : Ends p e below s T (mkF m pc' L S) kc ks Q) (ho : 0 ≤ (pc : Int) + o := by decide) (hp : ((pc : Int) + o).toNat = pc' := by decide) : Ends p e below s T (mkF m pc L (.ref a :: S)) kc ks Q := Ends.go (fun _ k => XS.ifnonnullYes X.here hx rfl rfl (hb hby hd) rfl ho hp k) q
theorem wuy {kc ks : Nat} {Q : Option Value → Heap → List Loc → Prop} {pc : Nat} {L : Array Slot} {S : List Value} {B : ByteArray} {o : Int} {pc' : Nat} (X : Stand p l e R s m args below meth c T locs cells slots) (hx : p.tables.exec = Jvm.exec) (hby : c.code = B) (hd : decode B pc = .ok (.ifnull o, 3)) (q : Ends p e below s T (mkF m pc' L S) kc ks Q) (ho : 0 ≤ (pc : Int) + o := by decide) (hp : ((pc : Int) + o).toNat = pc' := by decide) : Ends p e below s T (mkF m pc L (.null :: S)) kc ks Q := Ends.go (fun _ k => XS.ifnullYes X.here hx rfl rfl (hb hby hd) rfl ho hp k) q
theorem wir {kc ks : Nat} {Q : Option Value → Heap → List Loc → Prop} {pc : Nat} {L : Array Slot} {S : List Value} {B : ByteArray} {x y : Int32} (X : Stand p l e R s m args below meth c T locs cells slots) (hx : p.tables.exec = Jvm.exec) (hby : c.code = B) (hd : decode B pc = .ok (.irem, 1)) (hz : y ≠ 0) (q : Ends p e below s T (mkF m (pc + 1) L (.int (x % y) :: S)) kc ks Q) : Ends p e below s T (mkF m pc L (.int y :: .int x :: S)) kc ks Q := Ends.go (fun _ k => iremM X hx rfl (hb hby hd) rfl hz k) q
end OwnEnds
abbrev Meets1 (l : Launch) (y : MethodName) (bytes : ByteArray) (ml : Nat) (rt : Option FieldType) (ws : List Jvm.Cond) (rm : Room) (av : Array Value) (Z : State) (h0 : Heap) (Q : Option Value → Heap → List Loc → Prop) : Prop :=
 MetFree l y (head1 (Jvm.Cond.code y bytes ml rt :: ws) rm) (fun a U => a = av ∧ Z.Warmed39 U.vm ∧ U.heap = h0) (fun _ _ _ _ _ => True) (fun _ U o U' => ∃ v L, o = .returned v ∧ Q v U'.heap L ∧ FrameEnd U o U' L rm.cells rm.slots)
theorem own_backOf {p : Program} {l : Launch} {e : Env} {R : Room} {s : State} {args : Array Value} {below : List Frame} {Z : State} {a0 : Array Value} {h : Heap} {y : MethodName} {bytes : ByteArray} {maxL : Nat} {ret : Option FieldType} {rm : Room} {len W : Nat} {as' : Array Value} {Q : Option Value → Heap → List Loc → Prop}
  (hM : Meets1 l y bytes maxL ret [] rm as' Z h Q) (hZ : Z.Warmed39 s.vm) (wc : (Jvm.Cond.code y bytes maxL ret).before a0 Z = true) (wz : (Jvm.Cond.initialized y.cls).before a0 Z = true) (hf : rm.frames + 1 ≤ R.frames) (hl : W + (maxL + 11) + rm.locals ≤ R.locals) :
  Back l R p e below s args y len W (fun A a => a = as' ∧ A.U.heap = h ∧ A.cells + rm.cells ≤ R.cells ∧ A.slots + rm.slots ≤ R.slots)
   (fun A _ v B => ∃ L, Q v B.U.heap L ∧ B.locs = A.locs ++ L ∧ B.cells = A.cells + rm.cells ∧ B.slots = A.slots + rm.slots) := backOf (Q := Q) hM hZ wc wz hf hl
theorem ow {Z : State} {a0 : Array Value} (hw : HW a0 Z) {d : Jvm.Cond} (i : Nat) (h : tables_1[i]? = some d) : d.before a0 Z = true := hw d (List.mem_of_getElem? h)
theorem ov {Z s : State} {a0 args : Array Value} (hZ : Z.Warmed39 s.vm) (hw : HW a0 Z) {d : Jvm.Cond} (i : Nat) (h : tables_1[i]? = some d) (hd : (d.onTables && d.keepsFace) = true := by first | rfl | simp [Cond.onTables, Cond.keepsFace, Cond.keeps, Cond.steady]) : d.before args s = true := mvT hZ (ow hw i h) hd
theorem own_old_le {Z : State} {n0 : Nat} {h : Heap} (O : Old Z n0 h) : n0 ≤ h.size := O.1 ▸ O.2.1
section OwnEndsW
variable {p : Program} {l : Launch} {e : Env} {R : Room} {s : State} {vm : Vm} {m : MethodId} {args : Array Value} {below : List Frame} {meth : Method} {c : Code} {T : State} {locs : List Loc} {cells slots : Nat}
/-- as Ends, for a body that may load a String constant -/
def EndsW (p : Program) (e : Env) (below : List Frame) (s T : State) (g : JFrame) (kc ks : Nat) (Q : Option Value → Heap → List Loc → Prop) : Prop :=
 ∃ s₂ o, Steps p.tables e below (T.setTop g) s₂ ∧ s₂.status = .running ∧ Ended s₂ below o ∧ ∃ v L, o = .returned v ∧ Q v s₂.heap L ∧ ReturnedEndW s o s₂ L kc ks
theorem EndsW.go {T' : State} {g g' : JFrame} {kc ks : Nat} {Q : Option Value → Heap → List Loc → Prop} (h : ∀ target, Steps p.tables e below (T'.setTop g') target → Steps p.tables e below (T.setTop g) target) (k : EndsW p e below s T' g' kc ks Q) : EndsW p e below s T g kc ks Q := by
 obtain ⟨s₂, o, h1, h2⟩ := k
 exact ⟨s₂, o, h _ h1, h2⟩
theorem own_wmono {o : Outcome} {t : State} {L : List Loc} {k n kc ks : Nat} (h : ReturnedEndW s o t L k n) (hc : k ≤ kc) (hs : n ≤ ks) : ReturnedEndW s o t L kc ks := ⟨h.1, h.2.1, h.2.2.1, h.2.2.2.mono hc hs⟩
theorem EndsW.ret (X : Stand p l e R (s.setVm vm) m args below meth c T locs cells slots) (hx : p.tables.exec = Jvm.exec) {kk : Nat} (hS : s.Since vm kk) (hk : kk ≤ T.heap.size) (hlocks : meth.locks = false) {pc : Nat} {Ls : Array Slot} {w : Value} {t : FieldType} {i : Instr} {rest : List Value} (hret : meth.sig.returnType = some t) (hn : narrow t w = w)
  (hi : (i = .ireturn ∧ (t = .int ∨ t = .boolean ∨ t = .byte ∨ t = .char ∨ t = .short) ∧ ∃ z, w = .int z) ∨ (i = .lreturn ∧ t = .long ∧ ∃ z, w = .long z) ∨ (i = .dreturn ∧ t = .double ∧ ∃ z, w = .double z) ∨ (i = .freturn ∧ t = .float ∧ ∃ z, w = .float z) ∨ (i = .areturn ∧ t.isReference = true ∧ w.isRef = true))
  (hd : decode c.code pc = .ok (i, 1)) {kc ks : Nat} {Q : Option Value → Heap → List Loc → Prop} (hc : cells ≤ kc) (hs : slots ≤ ks) (hq : Q (some w) T.heap locs) : EndsW p e below s T (mkF m pc Ls (w :: rest)) kc ks Q := by
 obtain ⟨fs, hr, hrun, hended, hW⟩ := X.leaveW hS hk (v := some w) (fun h => by rw [hret] at h; cases h) hlocks
 exact ⟨_, _, retOut X hx hret hn hi hd hr, hrun, hended, _, _, rfl, hq, own_wmono hW hc hs⟩
theorem EndsW.retZ (X : Stand p l e R (s.setVm vm) m args below meth c T locs cells slots) (hx : p.tables.exec = Jvm.exec) {kk : Nat} (hS : s.Since vm kk) (hk : kk ≤ T.heap.size) (hlocks : meth.locks = false) {pc : Nat} {Ls : Array Slot} {z : Int32} {t : FieldType} {rest : List Value} (hret : meth.sig.returnType = some t) (ht : t = .boolean ∨ t = .byte ∨ t = .char ∨ t = .short)
  (hd : decode c.code pc = .ok (.ireturn, 1)) {kc ks : Nat} {Q : Option Value → Heap → List Loc → Prop} (hc : cells ≤ kc) (hs : slots ≤ ks) (hq : Q (some (.int (nar t z))) T.heap locs) : EndsW p e below s T (mkF m pc Ls (.int z :: rest)) kc ks Q := by
 obtain ⟨fs, hr, hrun, hended, hW⟩ := X.leaveW hS hk (v := some (.int (nar t z))) (fun h => by rw [hret] at h; cases h) hlocks
 exact ⟨_, _, retN X hx hret ht hd hr, hrun, hended, _, _, rfl, hq, own_wmono hW hc hs⟩
theorem EndsW.retV (X : Stand p l e R (s.setVm vm) m args below meth c T locs cells slots) (hx : p.tables.exec = Jvm.exec) {kk : Nat} (hS : s.Since vm kk) (hk : kk ≤ T.heap.size) (hlocks : meth.locks = false) {pc : Nat} {Ls : Array Slot} (hret : meth.sig.returnType = none)
  (hd : decode c.code pc = .ok (.return_, 1)) {kc ks : Nat} {Q : Option Value → Heap → List Loc → Prop} (hc : cells ≤ kc) (hs : slots ≤ ks) (hq : Q none T.heap locs) : EndsW p e below s T (mkF m pc Ls []) kc ks Q := by
 obtain ⟨fs, hr, hrun, hended, hW⟩ := X.leaveW hS hk (v := none) (fun _ => rfl) hlocks
 exact ⟨_, _, X.returnOut hx hret hd hr, hrun, hended, _, _, rfl, hq, own_wmono hW hc hs⟩
theorem own_since0 (s : State) : s.Since s.vm s.heap.size := ⟨State.Warmed39.refl s, fun j q h1 h2 => absurd h2 (by rw [Array.getElem?_eq_none h1]; simp)⟩
theorem own_wrsz {h h' : Heap} {a : Addr} {sl : Nat} {v : Value} (W : Wr h h' a sl v) : h.size ≤ h'.size := by obtain ⟨c0, -, -, -, rfl⟩ := W; simp
theorem own_ib {Z : State} {vm : Vm} (h : vm.interned = Z.vm.interned) : IB Z vm [] := ⟨#[], by simp [h], fun q hq => by simp at hq⟩
theorem wilW {kc ks : Nat} {Q : Option Value → Heap → List Loc → Prop} {pc : Nat} {L : Array Slot} {S : List Value} {B : ByteArray} {k : Nat} {v : Int32} {s' : State} (X : Stand p l e R s' m args below meth c T locs cells slots) (hx : p.tables.exec = Jvm.exec) (hby : c.code = B) (hd : decode B pc = .ok (.iload k, 2)) (hl : L[k]? = some (.val (.int v))) (q : EndsW p e below s T (mkF m (pc + 2) L (.int v :: S)) kc ks Q) : EndsW p e below s T (mkF m pc L S) kc ks Q := EndsW.go (fun _ k => XS.iload X.here hx rfl (hb hby hd) hl k) q
theorem wilNW {kc ks : Nat} {Q : Option Value → Heap → List Loc → Prop} {pc : Nat} {L : Array Slot} {S : List Value} {B : ByteArray} {k : Fin 4} {v : Int32} {s' : State} (X : Stand p l e R s' m args below meth c T locs cells slots) (hx : p.tables.exec = Jvm.exec) (hby : c.code = B) (hd : decode B pc = .ok (.iload_n k, 1)) (hl : L[k.val]? = some (.val (.int v))) (q : EndsW p e below s T (mkF m (pc + 1) L (.int v :: S)) kc ks Q) : EndsW p e below s T (mkF m pc L S) kc ks Q := EndsW.go (fun _ k => XS.iloadN X.here hx rfl (hb hby hd) hl k) q
theorem walW {kc ks : Nat} {Q : Option Value → Heap → List Loc → Prop} {pc : Nat} {L : Array Slot} {S : List Value} {B : ByteArray} {k : Nat} {v : Value} {s' : State} (X : Stand p l e R s' m args below meth c T locs cells slots) (hx : p.tables.exec = Jvm.exec) (hby : c.code = B) (hd : decode B pc = .ok (.aload k, 2)) (hl : L[k]? = some (.val v)) (hv : v.isRef = true) (q : EndsW p e below s T (mkF m (pc + 2) L (v :: S)) kc ks Q) : EndsW p e below s T (mkF m pc L S) kc ks Q := EndsW.go (fun _ k => XS.aload X.here hx rfl (hb hby hd) hl hv k) q
theorem walNW {kc ks : Nat} {Q : Option Value → Heap → List Loc → Prop} {pc : Nat} {L : Array Slot} {S : List Value} {B : ByteArray} {k : Fin 4} {v : Value} {s' : State} (X : Stand p l e R s' m args below meth c T locs cells slots) (hx : p.tables.exec = Jvm.exec) (hby : c.code = B) (hd : decode B pc = .ok (.aload_n k, 1)) (hl : L[k.val]? = some (.val v)) (hv : v.isRef = true) (q : EndsW p e below s T (mkF m (pc + 1) L (v :: S)) kc ks Q) : EndsW p e below s T (mkF m pc L S) kc ks Q := EndsW.go (fun _ k => XS.aloadN X.here hx rfl (hb hby hd) hl hv k) q
theorem wicW {kc ks : Nat} {Q : Option Value → Heap → List Loc → Prop} {pc : Nat} {L : Array Slot} {S : List Value} {B : ByteArray} {i : Int} {s' : State} (X : Stand p l e R s' m args below meth c T locs cells slots) (hx : p.tables.exec = Jvm.exec) (hby : c.code = B) (hd : decode B pc = .ok (.iconst i, 1)) (q : EndsW p e below s T (mkF m (pc + 1) L (.int (Int32.ofInt i) :: S)) kc ks Q) : EndsW p e below s T (mkF m pc L S) kc ks Q := EndsW.go (fun _ k => XS.iconst X.here hx rfl (hb hby hd)  k) q
theorem wbpW {kc ks : Nat} {Q : Option Value → Heap → List Loc → Prop} {pc : Nat} {L : Array Slot} {S : List Value} {B : ByteArray} {i : Int} {s' : State} (X : Stand p l e R s' m args below meth c T locs cells slots) (hx : p.tables.exec = Jvm.exec) (hby : c.code = B) (hd : decode B pc = .ok (.bipush i, 2)) (q : EndsW p e below s T (mkF m (pc + 2) L (.int (Int8.ofInt i).toInt32 :: S)) kc ks Q) : EndsW p e below s T (mkF m pc L S) kc ks Q := EndsW.go (fun _ k => XS.bipush X.here hx rfl (hb hby hd)  k) q
theorem wspW {kc ks : Nat} {Q : Option Value → Heap → List Loc → Prop} {pc : Nat} {L : Array Slot} {S : List Value} {B : ByteArray} {i : Int} {s' : State} (X : Stand p l e R s' m args below meth c T locs cells slots) (hx : p.tables.exec = Jvm.exec) (hby : c.code = B) (hd : decode B pc = .ok (.sipush i, 3)) (q : EndsW p e below s T (mkF m (pc + 3) L (.int (Int16.ofInt i).toInt32 :: S)) kc ks Q) : EndsW p e below s T (mkF m pc L S) kc ks Q := EndsW.go (fun _ k => XS.sipush X.here hx rfl (hb hby hd)  k) q
theorem wiaW {kc ks : Nat} {Q : Option Value → Heap → List Loc → Prop} {pc : Nat} {L : Array Slot} {S : List Value} {B : ByteArray} {x y : Int32} {s' : State} (X : Stand p l e R s' m args below meth c T locs cells slots) (hx : p.tables.exec = Jvm.exec) (hby : c.code = B) (hd : decode B pc = .ok (.iadd, 1)) (q : EndsW p e below s T (mkF m (pc + 1) L (.int (x + y) :: S)) kc ks Q) : EndsW p e below s T (mkF m pc L (.int y :: .int x :: S)) kc ks Q := EndsW.go (fun _ k => XS.iadd X.here hx rfl (hb hby hd) rfl k) q
theorem wisW {kc ks : Nat} {Q : Option Value → Heap → List Loc → Prop} {pc : Nat} {L : Array Slot} {S : List Value} {B : ByteArray} {x y : Int32} {s' : State} (X : Stand p l e R s' m args below meth c T locs cells slots) (hx : p.tables.exec = Jvm.exec) (hby : c.code = B) (hd : decode B pc = .ok (.isub, 1)) (q : EndsW p e below s T (mkF m (pc + 1) L (.int (x - y) :: S)) kc ks Q) : EndsW p e below s T (mkF m pc L (.int y :: .int x :: S)) kc ks Q := EndsW.go (fun _ k => XS.isub X.here hx rfl (hb hby hd) rfl k) q
theorem wstW {kc ks : Nat} {Q : Option Value → Heap → List Loc → Prop} {pc : Nat} {L : Array Slot} {S : List Value} {B : ByteArray} {k : Nat} {x : Int32} {l' : Array Slot} {s' : State} (X : Stand p l e R s' m args below meth c T locs cells slots) (hx : p.tables.exec = Jvm.exec) (hby : c.code = B) (hd : decode B pc = .ok (.istore k, 2)) (hl : storeLocals L k (.int x) = some l') (q : EndsW p e below s T (mkF m (pc + 2) l' S) kc ks Q) : EndsW p e below s T (mkF m pc L (.int x :: S)) kc ks Q := EndsW.go (fun _ k => XS.istore X.here hx rfl (hb hby hd) rfl hl k) q
theorem wasW {kc ks : Nat} {Q : Option Value → Heap → List Loc → Prop} {pc : Nat} {L : Array Slot} {S : List Value} {B : ByteArray} {k : Nat} {x : Value} {l' : Array Slot} {s' : State} (X : Stand p l e R s' m args below meth c T locs cells slots) (hx : p.tables.exec = Jvm.exec) (hby : c.code = B) (hd : decode B pc = .ok (.astore k, 2)) (hv : x.isRef = true) (hl : storeLocals L k x = some l') (q : EndsW p e below s T (mkF m (pc + 2) l' S) kc ks Q) : EndsW p e below s T (mkF m pc L (x :: S)) kc ks Q := EndsW.go (fun _ k => XS.astore X.here hx rfl (hb hby hd) rfl hv hl k) q
theorem wgoW {kc ks : Nat} {Q : Option Value → Heap → List Loc → Prop} {pc : Nat} {L : Array Slot} {S : List Value} {B : ByteArray} {o : Int} {pc' : Nat} {s' : State} (X : Stand p l e R s' m args below meth c T locs cells slots) (hx : p.tables.exec = Jvm.exec) (hby : c.code = B) (hd : decode B pc = .ok (.goto o, 3)) (q : EndsW p e below s T (mkF m pc' L S) kc ks Q) (ho : 0 ≤ (pc : Int) + o := by decide) (hp : ((pc : Int) + o).toNat = pc' := by decide) : EndsW p e below s T (mkF m pc L S) kc ks Q := EndsW.go (fun _ k => XS.goto X.here hx rfl rfl (hb hby hd) ho hp k) q
theorem wcyW {kc ks : Nat} {Q : Option Value → Heap → List Loc → Prop} {pc : Nat} {L : Array Slot} {S : List Value} {B : ByteArray} {cd : ClassFile.Cond} {x y : Int32} {o : Int} {pc' : Nat} {s' : State} (X : Stand p l e R s' m args below meth c T locs cells slots) (hx : p.tables.exec = Jvm.exec) (hby : c.code = B) (hd : decode B pc = .ok (.if_icmp cd o, 3)) (hc : if_icmp.holds cd x y = true) (q : EndsW p e below s T (mkF m pc' L S) kc ks Q) (ho : 0 ≤ (pc : Int) + o := by decide) (hp : ((pc : Int) + o).toNat = pc' := by decide) : EndsW p e below s T (mkF m pc L (.int y :: .int x :: S)) kc ks Q := EndsW.go (fun _ k => XS.icmpYes X.here hx rfl rfl (hb hby hd) rfl hc ho hp k) q
theorem wcnW {kc ks : Nat} {Q : Option Value → Heap → List Loc → Prop} {pc : Nat} {L : Array Slot} {S : List Value} {B : ByteArray} {cd : ClassFile.Cond} {x y : Int32} {o : Int} {s' : State} (X : Stand p l e R s' m args below meth c T locs cells slots) (hx : p.tables.exec = Jvm.exec) (hby : c.code = B) (hd : decode B pc = .ok (.if_icmp cd o, 3)) (hc : if_icmp.holds cd x y = false) (q : EndsW p e below s T (mkF m (pc + 3) L S) kc ks Q) : EndsW p e below s T (mkF m pc L (.int y :: .int x :: S)) kc ks Q := EndsW.go (fun _ k => XS.icmpNo X.here hx rfl (hb hby hd) rfl hc k) q
theorem wiyW {kc ks : Nat} {Q : Option Value → Heap → List Loc → Prop} {pc : Nat} {L : Array Slot} {S : List Value} {B : ByteArray} {cd : ClassFile.Cond} {x : Int32} {o : Int} {pc' : Nat} {s' : State} (X : Stand p l e R s' m args below meth c T locs cells slots) (hx : p.tables.exec = Jvm.exec) (hby : c.code = B) (hd : decode B pc = .ok (.ifCond cd o, 3)) (hc : ifCond.holds cd x = true) (q : EndsW p e below s T (mkF m pc' L S) kc ks Q) (ho : 0 ≤ (pc : Int) + o := by decide) (hp : ((pc : Int) + o).toNat = pc' := by decide) : EndsW p e below s T (mkF m pc L (.int x :: S)) kc ks Q := EndsW.go (fun _ k => XS.ifYes X.here hx rfl rfl (hb hby hd) rfl hc ho hp k) q
theorem winW {kc ks : Nat} {Q : Option Value → Heap → List Loc → Prop} {pc : Nat} {L : Array Slot} {S : List Value} {B : ByteArray} {cd : ClassFile.Cond} {x : Int32} {o : Int} {s' : State} (X : Stand p l e R s' m args below meth c T locs cells slots) (hx : p.tables.exec = Jvm.exec) (hby : c.code = B) (hd : decode B pc = .ok (.ifCond cd o, 3)) (hc : ifCond.holds cd x = false) (q : EndsW p e below s T (mkF m (pc + 3) L S) kc ks Q) : EndsW p e below s T (mkF m pc L (.int x :: S)) kc ks Q := EndsW.go (fun _ k => XS.ifNo X.here hx rfl (hb hby hd) rfl hc k) q
theorem wanW {kc ks : Nat} {Q : Option Value → Heap → List Loc → Prop} {pc : Nat} {L : Array Slot} {S : List Value} {B : ByteArray} {x y : Int32} {s' : State} (X : Stand p l e R s' m args below meth c T locs cells slots) (hx : p.tables.exec = Jvm.exec) (hby : c.code = B) (hd : decode B pc = .ok (.iand, 1)) (q : EndsW p e below s T (mkF m (pc + 1) L (.int (x &&& y) :: S)) kc ks Q) : EndsW p e below s T (mkF m pc L (.int y :: .int x :: S)) kc ks Q := EndsW.go (fun _ k => XS.iand X.here hx rfl (hb hby hd) rfl k) q
theorem wduW {kc ks : Nat} {Q : Option Value → Heap → List Loc → Prop} {pc : Nat} {L : Array Slot} {S : List Value} {B : ByteArray} {x : Value} {s' : State} (X : Stand p l e R s' m args below meth c T locs cells slots) (hx : p.tables.exec = Jvm.exec) (hby : c.code = B) (hd : decode B pc = .ok (.dup, 1)) (hv : x.category = 1) (q : EndsW p e below s T (mkF m (pc + 1) L (x :: x :: S)) kc ks Q) : EndsW p e below s T (mkF m pc L (x :: S)) kc ks Q := EndsW.go (fun _ k => XS.dup X.here hx rfl (hb hby hd) rfl hv k) q
theorem wnuW {kc ks : Nat} {Q : Option Value → Heap → List Loc → Prop} {pc : Nat} {L : Array Slot} {S : List Value} {B : ByteArray}  {s' : State} (X : Stand p l e R s' m args below meth c T locs cells slots) (hx : p.tables.exec = Jvm.exec) (hby : c.code = B) (hd : decode B pc = .ok (.aconst_null, 1)) (q : EndsW p e below s T (mkF m (pc + 1) L (.null :: S)) kc ks Q) : EndsW p e below s T (mkF m pc L S) kc ks Q := EndsW.go (fun _ k => XS.aconstNull X.here hx rfl (hb hby hd) k) q
theorem wpoW {kc ks : Nat} {Q : Option Value → Heap → List Loc → Prop} {pc : Nat} {L : Array Slot} {S : List Value} {B : ByteArray} {x : Value} {s' : State} (X : Stand p l e R s' m args below meth c T locs cells slots) (hx : p.tables.exec = Jvm.exec) (hby : c.code = B) (hd : decode B pc = .ok (.pop, 1)) (hv : x.category = 1) (q : EndsW p e below s T (mkF m (pc + 1) L S) kc ks Q) : EndsW p e below s T (mkF m pc L (x :: S)) kc ks Q := EndsW.go (fun _ k => XS.pop X.here hx rfl (hb hby hd) rfl hv k) q
theorem wnnW {kc ks : Nat} {Q : Option Value → Heap → List Loc → Prop} {pc : Nat} {L : Array Slot} {S : List Value} {B : ByteArray} {o : Int} {s' : State} (X : Stand p l e R s' m args below meth c T locs cells slots) (hx : p.tables.exec = Jvm.exec) (hby : c.code = B) (hd : decode B pc = .ok (.ifnonnull o, 3)) (q : EndsW p e below s T (mkF m (pc + 3) L S) kc ks Q) : EndsW p e below s T (mkF m pc L (.null :: S)) kc ks Q := EndsW.go (fun _ k => XS.ifnonnullNo X.here hx rfl (hb hby hd) rfl k) q
theorem wirW {kc ks : Nat} {Q : Option Value → Heap → List Loc → Prop} {pc : Nat} {L : Array Slot} {S : List Value} {B : ByteArray} {x y : Int32} {s' : State} (X : Stand p l e R s' m args below meth c T locs cells slots) (hx : p.tables.exec = Jvm.exec) (hby : c.code = B) (hd : decode B pc = .ok (.irem, 1)) (hz : y ≠ 0) (q : EndsW p e below s T (mkF m (pc + 1) L (.int (x % y) :: S)) kc ks Q) : EndsW p e below s T (mkF m pc L (.int y :: .int x :: S)) kc ks Q := EndsW.go (fun _ k => iremM X hx rfl (hb hby hd) rfl hz k) q
end OwnEndsW
/-- a body that may load String constants; I: it asks that none has been interned since Z -/
abbrev Meets1W (l : Launch) (y : MethodName) (bytes : ByteArray) (ml : Nat) (rt : Option FieldType) (ws : List Jvm.Cond) (rm : Room) (av : Array Value) (Z : State) (h0 : Heap) (I : Bool) (Q : Option Value → Heap → List Loc → Prop) : Prop :=
 MetFree l y (head1 (Jvm.Cond.code y bytes ml rt :: ws) rm) (fun a U => a = av ∧ Z.Warmed39 U.vm ∧ U.heap = h0 ∧ (I = true → U.vm.interned = Z.vm.interned)) (fun _ _ _ _ _ => True) (fun _ U o U' => ∃ v L, o = .returned v ∧ Q v U'.heap L ∧ ReturnedEndW U o U' L rm.cells rm.slots)
theorem own_backOfS {p : Program} {l : Launch} {e : Env} {R : Room} {s : State} {args : Array Value} {below : List Frame} {Z : State} {a0 : Array Value} {h : Heap} {y : MethodName} {bytes : ByteArray} {maxL : Nat} {ret : Option FieldType} {rm : Room} {len W : Nat} {as' : Array Value} {I : Bool} {Q : Option Value → Heap → List Loc → Prop}
  (hM : Meets1W l y bytes maxL ret [] rm as' Z h I Q) (hZ : Z.Warmed39 s.vm) (wc : (Jvm.Cond.code y bytes maxL ret).before a0 Z = true) (wz : (Jvm.Cond.initialized y.cls).before a0 Z = true) (hf : rm.frames + 1 ≤ R.frames) (hl : W + (maxL + 11) + rm.locals ≤ R.locals) (hI : I = true → s.vm.interned = Z.vm.interned) :
  BackS l R p e below s args y len W (fun A a => a = as' ∧ A.U.heap = h ∧ A.cells + rm.cells ≤ R.cells ∧ A.slots + rm.slots ≤ R.slots)
   (fun A _ v B => ∃ L, Q v B.U.heap L ∧ B.locs = A.locs ++ L ∧ B.cells = A.cells + rm.cells ∧ B.slots = A.slots + rm.slots) :=
 BackS.of_freeW (bytes := bytes) (maxL := maxL) (ret := ret) (E := fun _ _ o t L k n => k = rm.cells ∧ n = rm.slots ∧ ∃ v, o = .returned v ∧ Q v t.heap L) hM hf hl
  (fun m meth c A a Y hp => have hU : Z.Warmed39 A.U.vm := wtrans hZ Y.warmed
   ⟨by show (Cond.and _ .tt).before a A.U = true; rw [Cond.before_and, mv hU wc]; rfl, mv hU wc, mv hU wz, hp.2.2.1, hp.2.2.2⟩)
  (fun m meth c A a g mk Y hp => ⟨hp.1, wtrans hZ Y.warmed, hp.2.1, fun i => (Y.warmed.interned_eq).trans (hI i)⟩) (fun _ _ _ _ _ _ _ _ _ => trivial)
  (fun _ _ _ _ ⟨v, L, h1, h2, h3⟩ => ⟨L, _, _, h3, rfl, rfl, v, h1, h2⟩)
  (fun m meth c A a g mk v t L k n Y hp _ _ ⟨e1, e2, v', e3, e4⟩ => by cases e3; subst e1 e2; exact ⟨L, e4, rfl, rfl, rfl⟩)
theorem wgf {p : Program} {l : Launch} {e : Env} {R : Room} {s : State} {m : MethodId} {args : Array Value} {below : List Frame} {meth : Method} {c : Code} {T : State} {locs : List Loc} {cells slots : Nat} {Z : State} {a0 : Array Value} {h : Heap} {a : Addr} {kc ks : Nat} {Q : Option Value → Heap → List Loc → Prop} {pc : Nat} {L : Array Slot} {S : List Value} {B : ByteArray} {own O n d : String} {index : Nat} {v : Value} (X : Stand p l e R s m args below meth c T locs cells slots) (hx : p.tables.exec = Jvm.exec) (hZ : Z.Warmed39 s.vm) (hown : s.vm.findClass own = some m.cls) (hw : HW a0 Z) (i : Nat) (hi : tables_1[i]? = some (Jvm.Cond.fieldLink own index O n d)) (eT : T.heap = h) (F : Fld Z h a O n d v) (hby : c.code = B) (hd : decode B pc = .ok (.getfield index, 3)) (q : ∀ T', Stand p l e R s m args below meth c T' locs cells slots → T'.heap = h → Ends p e below s T' (mkF m (pc + 3) L (v :: S)) kc ks Q) : Ends p e below s T (mkF m pc L (.ref a :: S)) kc ks Q := by
  obtain ⟨T', X', e', st⟩ := getF X hx hZ hown (host := "") (Or.inl (ow hw i hi)) Via.refl eT F (g := mkF m pc L (.ref a :: S)) rfl rfl (hb hby hd)
  exact Ends.go st (q T' X' e')
theorem wpf {p : Program} {l : Launch} {e : Env} {R : Room} {s : State} {m : MethodId} {args : Array Value} {below : List Frame} {meth : Method} {c : Code} {T : State} {locs : List Loc} {cells slots : Nat} {Z : State} {a0 : Array Value} {h : Heap} {a : Addr} {kc ks : Nat} {Q : Option Value → Heap → List Loc → Prop} {pc : Nat} {L : Array Slot} {S : List Value} {B : ByteArray} {own O n d C : String} {index kk : Nat} {v old : Value} {ty : FieldType} (X : Stand p l e R s m args below meth c T locs cells slots) (hx : p.tables.exec = Jvm.exec) (hZ : Z.Warmed39 s.vm) (hown : s.vm.findClass own = some m.cls) (hw : HW a0 Z) (i : Nat) (hi : tables_1[i]? = some (Jvm.Cond.fieldLink own index O n d)) (eT : T.heap = h) (F : Fld Z h a O n d old) (E : Exa Z h a C) (i2 : Nat) (hi2 : tables_1[i2]? = some (Jvm.Cond.lays C O n d)) (i3 : Nat) (hi3 : tables_1[i3]? = some (Jvm.Cond.instantiable C kk)) (hty : parseFieldDescriptor d = some ty) (hn : narrow ty v = v) (hf : fits ty v = true) (hby : c.code = B) (hd : decode B pc = .ok (.putfield index, 3)) (q : ∀ T' h', Stand p l e R s m args below meth c T' (locs ++ [⟨a, Jvm.RoadKit.slotOf Z O n d⟩]) cells slots → T'.heap = h' → Wr h h' a (Jvm.RoadKit.slotOf Z O n d) v → Ends p e below s T' (mkF m (pc + 3) L S) kc ks Q) : Ends p e below s T (mkF m pc L (v :: .ref a :: S)) kc ks Q := by
  obtain ⟨T', h', X', e', W', st⟩ := putF X hx hZ hown (host := "") (Or.inl (ow hw i hi)) Via.refl eT F E (Or.inl (ow hw i2 hi2)) (ow hw i3 hi3) (ty := ty) hty hn hf (g := mkF m pc L (v :: .ref a :: S)) rfl rfl (hb hby hd)
  exact Ends.go st (q T' h' X' e' W')
theorem wvb {p : Program} {l : Launch} {e : Env} {R : Room} {s : State} {m : MethodId} {args : Array Value} {below : List Frame} {meth : Method} {c : Code} {T : State} {locs : List Loc} {cells slots : Nat} {Z : State} {a0 : Array Value} {h : Heap} {a : Addr} {kc ks : Nat} {Q : Option Value → Heap → List Loc → Prop} {pc : Nat} {L : Array Slot} {S : List Value} {B : ByteArray} {own C : String} {index : Nat} {y : MethodName} {bytes : ByteArray} {maxL : Nat} {ret : Option FieldType} {rm : Room} {as' : Array Value} {Qc : Option Value → Heap → List Loc → Prop} {W : Nat} (X : Stand p l e R s m args below meth c T locs cells slots) (hx : p.tables.exec = Jvm.exec) (hZ : Z.Warmed39 s.vm) (hown : s.vm.findClass own = some m.cls) (hw : HW a0 Z) {nl : Nat} (hml : c.maxLocals = nl) (hsz : L.size = nl) (hby : c.code = B) (hd : decode B pc = .ok (.invokevirtual index, 3)) (i1 : Nat) (h1 : tables_1[i1]? = some (Jvm.Cond.methodLink own index y)) (i2 : Nat) (h2 : tables_1[i2]? = some (Jvm.Cond.declares y)) (i3 : Nat) (h3 : tables_1[i3]? = some (Jvm.Cond.selects C y y)) (i4 : Nat) (h4 : tables_1[i4]? = some (Jvm.Cond.instanceMethod y)) (hy : y.cls ≠ "java/lang/invoke/MethodHandle" ∧ y.cls ≠ "java/lang/invoke/VarHandle") (eT : T.heap = h) (E : Exa Z h a C) (hM : Meets1 l y bytes maxL ret [] rm as' Z h Qc) (i5 : Nat) (h5 : tables_1[i5]? = some (Jvm.Cond.code y bytes maxL ret)) (i6 : Nat) (h6 : tables_1[i6]? = some (Jvm.Cond.initialized y.cls)) (hf : rm.frames + 1 ≤ R.frames) (hl : W + (maxL + 11) + rm.locals ≤ R.locals) (argsL rest : List Value) {dps : List FieldType} {dr : Option FieldType} (pd : parseMethodDescriptor y.desc = some ⟨dps, dr⟩) (hlen : argsL.length = dps.length) (hS : S = argsL.reverse ++ .ref a :: rest) (hW : 2 * 0 + (rest.map fun v => v.category).sum = W) (hc : cells + rm.cells ≤ R.cells) (hs : slots + rm.slots ≤ R.slots) (hargs : (.ref a :: argsL).toArray = as') (q : ∀ v T' Lc, Stand p l e R s m args below meth c T' (locs ++ Lc) (cells + rm.cells) (slots + rm.slots) → Qc v T'.heap Lc → Ends p e below s T' (mkF m (pc + 3) L (v.toList ++ rest)) kc ks Q) : Ends p e below s T (mkF m pc L S) kc ks Q := by
  obtain ⟨cq, kq, qa, qb, qc⟩ := isOf hZ eT E
  have w3 : (Jvm.Cond.selects C y y).before args s = true := mvT hZ (ow hw i3 h3)
  obtain ⟨v, _, ⟨T', L', k', n'⟩, -, X', ⟨Lc, hQ, l1, y1, z1⟩, st⟩ := X.virtualBack hx (y := y) (z := y) hown (mvT hZ (ow hw i1 h1)) (mvT hZ (ow hw i2 h2)) (notFace_of_selects (args := args) w3) w3 (mvT hZ (ow hw i4 h4)) hy (own_backOf (W := W) hM hZ (ow hw i5 h5) (ow hw i6 h6) hf hl) qa qc (g := mkF m pc L S) rfl (hsz.trans hml.symm) (Steps.refl _) (argsL := argsL) (rest := rest) (lenOf pd hlen) hS (Nat.le_of_eq hW) (hb hby hd) (fun _ _ => ⟨hargs, eT, hc, hs⟩)
  dsimp only [Pt.U, Pt.locs, Pt.cells, Pt.slots] at X' l1 y1 z1 st hQ
  subst l1 y1 z1
  exact Ends.go (fun _ k => st.trans k) (q v T' Lc X' hQ)
theorem wsb {p : Program} {l : Launch} {e : Env} {R : Room} {s : State} {m : MethodId} {args : Array Value} {below : List Frame} {meth : Method} {c : Code} {T : State} {locs : List Loc} {cells slots : Nat} {Z : State} {a0 : Array Value} {h : Heap} {kc ks : Nat} {Q : Option Value → Heap → List Loc → Prop} {pc : Nat} {L : Array Slot} {S : List Value} {B : ByteArray} {own : String} {index : Nat} {y : MethodName} {bytes : ByteArray} {maxL : Nat} {ret : Option FieldType} {rm : Room} {as' : Array Value} {Qc : Option Value → Heap → List Loc → Prop} {W : Nat} (X : Stand p l e R s m args below meth c T locs cells slots) (hx : p.tables.exec = Jvm.exec) (hZ : Z.Warmed39 s.vm) (hown : s.vm.findClass own = some m.cls) (hw : HW a0 Z) {nl : Nat} (hml : c.maxLocals = nl) (hsz : L.size = nl) (hby : c.code = B) (hd : decode B pc = .ok (.invokestatic index, 3)) (i1 : Nat) (h1 : tables_1[i1]? = some (Jvm.Cond.methodLink own index y)) (i2 : Nat) (h2 : tables_1[i2]? = some (Jvm.Cond.static y)) (i3 : Nat) (h3 : tables_1[i3]? = some (Jvm.Cond.initialized y.cls)) (i4 : Nat) (h4 : tables_1[i4]? = some (Jvm.Cond.code y bytes maxL ret)) (hy : y.cls ≠ "java/lang/invoke/MethodHandle" ∧ y.cls ≠ "java/lang/invoke/VarHandle") (eT : T.heap = h) (hM : Meets1 l y bytes maxL ret [] rm as' Z h Qc) (hf : rm.frames + 1 ≤ R.frames) (hl : W + (maxL + 11) + rm.locals ≤ R.locals) (argsL rest : List Value) {dps : List FieldType} {dr : Option FieldType} (pd : parseMethodDescriptor y.desc = some ⟨dps, dr⟩) (hlen : argsL.length = dps.length) (hS : S = argsL.reverse ++ rest) (hW : 2 * 0 + (rest.map fun v => v.category).sum = W) (hc : cells + rm.cells ≤ R.cells) (hs : slots + rm.slots ≤ R.slots) (hargs : argsL.toArray = as') (q : ∀ v T' Lc, Stand p l e R s m args below meth c T' (locs ++ Lc) (cells + rm.cells) (slots + rm.slots) → Qc v T'.heap Lc → Ends p e below s T' (mkF m (pc + 3) L (v.toList ++ rest)) kc ks Q) : Ends p e below s T (mkF m pc L S) kc ks Q := by
  obtain ⟨v, _, ⟨T', L', k', n'⟩, -, X', ⟨Lc, hQ, l1, y1, z1⟩, st⟩ := Jvm.LawKit.callS X hx (y := y) hown (mvT hZ (ow hw i1 h1)) (mvT hZ (ow hw i2 h2)) (mvT hZ (ow hw i3 h3)) (mvT hZ (ow hw i4 h4)) hy (own_backOf (W := W) hM hZ (ow hw i4 h4) (ow hw i3 h3) hf hl) (g := mkF m pc L S) rfl (hsz.trans hml.symm) (argsL := argsL) (rest := rest) (lenOf pd hlen) hS (Nat.le_of_eq hW) (hb hby hd) (fun _ _ => ⟨hargs, eT, hc, hs⟩)
  dsimp only [Pt.U, Pt.locs, Pt.cells, Pt.slots] at X' l1 y1 z1 st hQ
  subst l1 y1 z1
  exact Ends.go st (q v T' Lc X' hQ)
theorem wvbW {p : Program} {l : Launch} {e : Env} {R : Room} {s s' : State} {m : MethodId} {args : Array Value} {below : List Frame} {meth : Method} {c : Code} {T : State} {locs : List Loc} {cells slots : Nat} {Z : State} {a0 : Array Value} {h : Heap} {a : Addr} {kc ks : Nat} {Q : Option Value → Heap → List Loc → Prop} {pc : Nat} {L : Array Slot} {S : List Value} {B : ByteArray} {own C : String} {index : Nat} {y : MethodName} {bytes : ByteArray} {maxL : Nat} {ret : Option FieldType} {rm : Room} {as' : Array Value} {Qc : Option Value → Heap → List Loc → Prop} {W : Nat} (X : Stand p l e R s' m args below meth c T locs cells slots) (hx : p.tables.exec = Jvm.exec) (hZ : Z.Warmed39 s'.vm) (hown : s'.vm.findClass own = some m.cls) (hw : HW a0 Z) {nl : Nat} (hml : c.maxLocals = nl) (hsz : L.size = nl) (hby : c.code = B) (hd : decode B pc = .ok (.invokevirtual index, 3)) (i1 : Nat) (h1 : tables_1[i1]? = some (Jvm.Cond.methodLink own index y)) (i2 : Nat) (h2 : tables_1[i2]? = some (Jvm.Cond.declares y)) (i3 : Nat) (h3 : tables_1[i3]? = some (Jvm.Cond.selects C y y)) (i4 : Nat) (h4 : tables_1[i4]? = some (Jvm.Cond.instanceMethod y)) (hy : y.cls ≠ "java/lang/invoke/MethodHandle" ∧ y.cls ≠ "java/lang/invoke/VarHandle") (eT : T.heap = h) (E : Exa Z h a C) (hM : Meets1 l y bytes maxL ret [] rm as' Z h Qc) (i5 : Nat) (h5 : tables_1[i5]? = some (Jvm.Cond.code y bytes maxL ret)) (i6 : Nat) (h6 : tables_1[i6]? = some (Jvm.Cond.initialized y.cls)) (hf : rm.frames + 1 ≤ R.frames) (hl : W + (maxL + 11) + rm.locals ≤ R.locals) (argsL rest : List Value) {dps : List FieldType} {dr : Option FieldType} (pd : parseMethodDescriptor y.desc = some ⟨dps, dr⟩) (hlen : argsL.length = dps.length) (hS : S = argsL.reverse ++ .ref a :: rest) (hW : 2 * 0 + (rest.map fun v => v.category).sum = W) (hc : cells + rm.cells ≤ R.cells) (hs : slots + rm.slots ≤ R.slots) (hargs : (.ref a :: argsL).toArray = as') (q : ∀ v T' Lc, Stand p l e R s' m args below meth c T' (locs ++ Lc) (cells + rm.cells) (slots + rm.slots) → Qc v T'.heap Lc → EndsW p e below s T' (mkF m (pc + 3) L (v.toList ++ rest)) kc ks Q) : EndsW p e below s T (mkF m pc L S) kc ks Q := by
  obtain ⟨cq, kq, qa, qb, qc⟩ := isOf hZ eT E
  have w3 : (Jvm.Cond.selects C y y).before args s' = true := mvT hZ (ow hw i3 h3)
  obtain ⟨v, _, ⟨T', L', k', n'⟩, -, X', ⟨Lc, hQ, l1, y1, z1⟩, st⟩ := X.virtualBack hx (y := y) (z := y) hown (mvT hZ (ow hw i1 h1)) (mvT hZ (ow hw i2 h2)) (notFace_of_selects (args := args) w3) w3 (mvT hZ (ow hw i4 h4)) hy (own_backOf (W := W) hM hZ (ow hw i5 h5) (ow hw i6 h6) hf hl) qa qc (g := mkF m pc L S) rfl (hsz.trans hml.symm) (Steps.refl _) (argsL := argsL) (rest := rest) (lenOf pd hlen) hS (Nat.le_of_eq hW) (hb hby hd) (fun _ _ => ⟨hargs, eT, hc, hs⟩)
  dsimp only [Pt.U, Pt.locs, Pt.cells, Pt.slots] at X' l1 y1 z1 st hQ
  subst l1 y1 z1
  exact EndsW.go (fun _ k => st.trans k) (q v T' Lc X' hQ)
theorem wsbW {p : Program} {l : Launch} {e : Env} {R : Room} {s s' : State} {m : MethodId} {args : Array Value} {below : List Frame} {meth : Method} {c : Code} {T : State} {locs : List Loc} {cells slots : Nat} {Z : State} {a0 : Array Value} {h : Heap} {kc ks : Nat} {Q : Option Value → Heap → List Loc → Prop} {pc : Nat} {L : Array Slot} {S : List Value} {B : ByteArray} {own : String} {index : Nat} {y : MethodName} {bytes : ByteArray} {maxL : Nat} {ret : Option FieldType} {rm : Room} {as' : Array Value} {Qc : Option Value → Heap → List Loc → Prop} {W : Nat} (X : Stand p l e R s' m args below meth c T locs cells slots) (hx : p.tables.exec = Jvm.exec) (hZ : Z.Warmed39 s'.vm) (hown : s'.vm.findClass own = some m.cls) (hw : HW a0 Z) {nl : Nat} (hml : c.maxLocals = nl) (hsz : L.size = nl) (hby : c.code = B) (hd : decode B pc = .ok (.invokestatic index, 3)) (i1 : Nat) (h1 : tables_1[i1]? = some (Jvm.Cond.methodLink own index y)) (i2 : Nat) (h2 : tables_1[i2]? = some (Jvm.Cond.static y)) (i3 : Nat) (h3 : tables_1[i3]? = some (Jvm.Cond.initialized y.cls)) (i4 : Nat) (h4 : tables_1[i4]? = some (Jvm.Cond.code y bytes maxL ret)) (hy : y.cls ≠ "java/lang/invoke/MethodHandle" ∧ y.cls ≠ "java/lang/invoke/VarHandle") (eT : T.heap = h) (hM : Meets1 l y bytes maxL ret [] rm as' Z h Qc) (hf : rm.frames + 1 ≤ R.frames) (hl : W + (maxL + 11) + rm.locals ≤ R.locals) (argsL rest : List Value) {dps : List FieldType} {dr : Option FieldType} (pd : parseMethodDescriptor y.desc = some ⟨dps, dr⟩) (hlen : argsL.length = dps.length) (hS : S = argsL.reverse ++ rest) (hW : 2 * 0 + (rest.map fun v => v.category).sum = W) (hc : cells + rm.cells ≤ R.cells) (hs : slots + rm.slots ≤ R.slots) (hargs : argsL.toArray = as') (q : ∀ v T' Lc, Stand p l e R s' m args below meth c T' (locs ++ Lc) (cells + rm.cells) (slots + rm.slots) → Qc v T'.heap Lc → EndsW p e below s T' (mkF m (pc + 3) L (v.toList ++ rest)) kc ks Q) : EndsW p e below s T (mkF m pc L S) kc ks Q := by
  obtain ⟨v, _, ⟨T', L', k', n'⟩, -, X', ⟨Lc, hQ, l1, y1, z1⟩, st⟩ := Jvm.LawKit.callS X hx (y := y) hown (mvT hZ (ow hw i1 h1)) (mvT hZ (ow hw i2 h2)) (mvT hZ (ow hw i3 h3)) (mvT hZ (ow hw i4 h4)) hy (own_backOf (W := W) hM hZ (ow hw i4 h4) (ow hw i3 h3) hf hl) (g := mkF m pc L S) rfl (hsz.trans hml.symm) (argsL := argsL) (rest := rest) (lenOf pd hlen) hS (Nat.le_of_eq hW) (hb hby hd) (fun _ _ => ⟨hargs, eT, hc, hs⟩)
  dsimp only [Pt.U, Pt.locs, Pt.cells, Pt.slots] at X' l1 y1 z1 st hQ
  subst l1 y1 z1
  exact EndsW.go st (q v T' Lc X' hQ)
abbrev nZ14 : List Value := [(.int 0), (.int 0), (.int 0), (.int 0), (.int 0), (.int 0), (.int 0), (.int 0), (.int 0), (.int 0), (.int 0), (.int 0), (.int 0), (.int 0)]
abbrev nN14 : List Value := [.null, .null, .null, .null, .null, .null, .null, .null, .null, .null, .null, .null, .null, .null]
abbrev nZ15 : List Value := [(.int 0), (.int 0), (.int 0), (.int 0), (.int 0), (.int 0), (.int 0), (.int 0), (.int 0), (.int 0), (.int 0), (.int 0), (.int 0), (.int 0), (.int 0)]
abbrev nN15 : List Value := [.null, .null, .null, .null, .null, .null, .null, .null, .null, .null, .null, .null, .null, .null, .null]
abbrev nZ16 : List Value := [(.int 0), (.int 0), (.int 0), (.int 0), (.int 0), (.int 0), (.int 0), (.int 0), (.int 0), (.int 0), (.int 0), (.int 0), (.int 0), (.int 0), (.int 0), (.int 0)]
abbrev nN16 : List Value := [.null, .null, .null, .null, .null, .null, .null, .null, .null, .null, .null, .null, .null, .null, .null, .null]
abbrev f37_ (Z : State) (h : Heap) (o : Addr) (v : Value) : Prop := Fld Z h o cNA "size" "I" v
abbrev f36_ (Z : State) (h : Heap) (o : Addr) (v : Value) : Prop := Fld Z h o cNA "sorted" qs24 v
abbrev f35_ (Z : State) (h : Heap) (o : Addr) (v : Value) : Prop := Fld Z h o cNA "heads" "[I" v
abbrev f34_ (Z : State) (h : Heap) (o : Addr) (v : Value) : Prop := Fld Z h o cNA "names" qs42 v
abbrev f33_ (Z : State) (h : Heap) (o : Addr) (v : Value) : Prop := Fld Z h o qs41 "modCount" "I" v
abbrev f32_ (Z : State) (h : Heap) (o : Addr) (v : Value) : Prop := Fld Z h o cLI "current" qs18 v
abbrev f31_ (Z : State) (h : Heap) (o : Addr) (v : Value) : Prop := Fld Z h o cLI qs37 "I" v
abbrev f30_ (Z : State) (h : Heap) (o : Addr) (v : Value) : Prop := Fld Z h o cLI "next" qs18 v
abbrev f29_ (Z : State) (h : Heap) (o : Addr) (v : Value) : Prop := Fld Z h o cLI "reversed" "Z" v
abbrev f28_ (Z : State) (h : Heap) (o : Addr) (v : Value) : Prop := Fld Z h o cLI "this$0" qs36 v
abbrev f27_ (Z : State) (h : Heap) (o : Addr) (v : Value) : Prop := Fld Z h o cLE "after" qs18 v
abbrev f26_ (Z : State) (h : Heap) (o : Addr) (v : Value) : Prop := Fld Z h o cHN "next" qs31 v
abbrev f25_ (Z : State) (h : Heap) (o : Addr) (v : Value) : Prop := Fld Z h o cHN "value" qs30 v
abbrev f24_ (Z : State) (h : Heap) (o : Addr) (v : Value) : Prop := Fld Z h o cHN "key" qs30 v
abbrev f23_ (Z : State) (h : Heap) (o : Addr) (v : Value) : Prop := Fld Z h o qs23 "members" qs24 v
abbrev f22_ (Z : State) (h : Heap) (o : Addr) (v : Value) : Prop := Fld Z h o cHM "entrySet" qs19 v
abbrev f21_ (Z : State) (h : Heap) (o : Addr) (v : Value) : Prop := Fld Z h o cHM "size" "I" v
abbrev f20_ (Z : State) (h : Heap) (o : Addr) (v : Value) : Prop := Fld Z h o cHM "modCount" "I" v
abbrev f19_ (Z : State) (h : Heap) (o : Addr) (v : Value) : Prop := Fld Z h o cLHM "head" qs18 v
abbrev f18_ (Z : State) (h : Heap) (o : Addr) (v : Value) : Prop := Fld Z h o cLHM "tail" qs18 v
abbrev f17_ (Z : State) (h : Heap) (o : Addr) (v : Value) : Prop := Fld Z h o cHM qs17 "I" v
abbrev f16_ (Z : State) (h : Heap) (o : Addr) (v : Value) : Prop := Fld Z h o cHM "table" qs16 v
abbrev f15_ (Z : State) (h : Heap) (o : Addr) (v : Value) : Prop := Fld Z h o cLHM qs15 "Z" v
abbrev f14_ (Z : State) (h : Heap) (o : Addr) (v : Value) : Prop := Fld Z h o cLHM "putMode" "I" v
abbrev f13_ (Z : State) (h : Heap) (o : Addr) (v : Value) : Prop := Fld Z h o cHM qs14 "F" v
abbrev f12_ (Z : State) (h : Heap) (o : Addr) (v : Value) : Prop := Fld Z h o cJA "elements" cAJ v
abbrev f11_ (Z : State) (h : Heap) (o : Addr) (v : Value) : Prop := Fld Z h o cWK qs5 "[I" v
abbrev f10_ (Z : State) (h : Heap) (o : Addr) (v : Value) : Prop := Fld Z h o cWK qs3 qs4 v
abbrev f9_ (Z : State) (h : Heap) (o : Addr) (v : Value) : Prop := Fld Z h o cWK qs1 qs2 v
abbrev f8_ (Z : State) (h : Heap) (o : Addr) (v : Value) : Prop := Fld Z h o cWK "place" "I" v
abbrev f7_ (Z : State) (h : Heap) (o : Addr) (v : Value) : Prop := Fld Z h o cWK "names" qs0 v
abbrev f6_ (Z : State) (h : Heap) (o : Addr) (v : Value) : Prop := Fld Z h o cWK "values" cAJ v
abbrev f5_ (Z : State) (h : Heap) (o : Addr) (v : Value) : Prop := Fld Z h o cWK "depth" "I" v
abbrev f4_ (Z : State) (h : Heap) (o : Addr) (v : Value) : Prop := Fld Z h o cJO "names" qs0 v
abbrev f3_ (Z : State) (h : Heap) (o : Addr) (v : Value) : Prop := Fld Z h o cJO "values" cAJ v
abbrev f2_ (Z : State) (h : Heap) (o : Addr) (v : Value) : Prop := Fld Z h o cST "value" "[B" v
abbrev f1_ (Z : State) (h : Heap) (o : Addr) (v : Value) : Prop := Fld Z h o cST "hashIsZero" "Z" v
abbrev f0_ (Z : State) (h : Heap) (o : Addr) (v : Value) : Prop := Fld Z h o cST "coder" "B" v
abbrev B65_ : ByteArray := prog_6_method_3_code
abbrev B64_ : ByteArray := prog_6_method_1_code
abbrev B63_ : ByteArray := prog_6_method_10_code
abbrev B62_ : ByteArray := prog_23_method_8_code
abbrev B61_ : ByteArray := prog_23_method_7_code
abbrev B60_ : ByteArray := prog_23_method_6_code
abbrev B59_ : ByteArray := prog_23_method_5_code
abbrev B58_ : ByteArray := prog_23_method_4_code
abbrev B57_ : ByteArray := prog_23_method_2_code
abbrev B56_ : ByteArray := prog_23_method_1_code
abbrev B55_ : ByteArray := prog_23_method_11_code
abbrev B54_ : ByteArray := prog_23_method_10_code
abbrev B53_ : ByteArray := prog_21_method_9_code
abbrev B52_ : ByteArray := prog_21_method_5_code
abbrev B51_ : ByteArray := prog_21_method_2_code
abbrev B50_ : ByteArray := prog_21_method_1_code
abbrev B49_ : ByteArray := prog_21_method_12_code
abbrev B48_ : ByteArray := prog_21_method_11_code
abbrev B47_ : ByteArray := prog_14_method_4_code
abbrev B46_ : ByteArray := prog_14_method_2_code
abbrev B45_ : ByteArray := prog_14_method_1_code
abbrev B44_ : ByteArray := prog_13_method_4_code
abbrev B43_ : ByteArray := prog_13_method_1_code
abbrev B42_ : ByteArray := prog_13_method_11_code
abbrev B41_ : ByteArray := prog_13_method_10_code
abbrev B39_ : ByteArray := method_3_code
abbrev B38_ : ByteArray := method_2_code
abbrev B37_ : ByteArray := jdk_94_method_9_code
abbrev B36_ : ByteArray := jdk_94_method_4_code
abbrev B35_ : ByteArray := jdk_94_method_33_code
abbrev B34_ : ByteArray := jdk_94_method_32_code
abbrev B33_ : ByteArray := jdk_94_method_23_code
abbrev B32_ : ByteArray := jdk_94_method_1_code
abbrev B31_ : ByteArray := jdk_94_method_16_code
abbrev B30_ : ByteArray := jdk_91_method_1_code
abbrev B29_ : ByteArray := jdk_83_method_1_code
abbrev B28_ : ByteArray := jdk_71_method_1_code
abbrev B27_ : ByteArray := jdk_70_method_3_code
abbrev B26_ : ByteArray := jdk_70_method_2_code
abbrev B25_ : ByteArray := jdk_70_method_1_code
abbrev B24_ : ByteArray := jdk_69_method_7_code
abbrev B23_ : ByteArray := jdk_69_method_1_code
abbrev B22_ : ByteArray := jdk_69_method_17_code
abbrev B21_ : ByteArray := jdk_69_method_16_code
abbrev B20_ : ByteArray := jdk_69_method_15_code
abbrev B19_ : ByteArray := jdk_69_method_10_code
abbrev B18_ : ByteArray := jdk_43_method_46_code
abbrev B17_ : ByteArray := jdk_43_method_3_code
abbrev B16_ : ByteArray := jdk_43_method_21_code
abbrev B15_ : ByteArray := jdk_42_method_78_code
abbrev B14_ : ByteArray := jdk_42_method_66_code
abbrev B13_ : ByteArray := jdk_42_method_154_code
abbrev B12_ : ByteArray := jdk_42_method_151_code
abbrev B11_ : ByteArray := jdk_42_method_139_code
abbrev B10_ : ByteArray := jdk_39_method_1_code
abbrev B9_ : ByteArray := jdk_31_method_11_code
abbrev B8_ : ByteArray := jdk_2616_method_3_code
abbrev B7_ : ByteArray := jdk_2616_method_2_code
abbrev B6_ : ByteArray := jdk_2616_method_1_code
abbrev B5_ : ByteArray := jdk_2615_method_3_code
abbrev B4_ : ByteArray := jdk_2615_method_2_code
abbrev B3_ : ByteArray := jdk_2615_method_1_code
abbrev B2_ : ByteArray := jdk_22_method_1_code
abbrev B1_ : ByteArray := jdk_113_method_4_code
abbrev B0_ : ByteArray := jdk_113_method_1_code
theorem sll {Z : State} {a0 : Array Value} (hw : HW a0 Z) (i : Nat) {C O n d : String} (hi : tables_1[i]? = some (Jvm.Cond.lays C O n d)) (j : Nat) {O' n' d' : String} (hj : tables_1[j]? = some (Jvm.Cond.lays C O' n' d')) {a b : Addr} (hn : n ≠ n' := by decide) (ht : (parseFieldDescriptor d).isSome = true := by decide) (ht' : (parseFieldDescriptor d').isSome = true := by decide) : a ≠ b ∨ Jvm.RoadKit.slotOf Z O n d ≠ Jvm.RoadKit.slotOf Z O' n' d' := by
  obtain ⟨t1, h1⟩ := Option.isSome_iff_exists.mp ht
  obtain ⟨t2, h2⟩ := Option.isSome_iff_exists.mp ht'
  exact Or.inr (slot_ne (C := C) (Or.inl (ow hw i hi)) (Or.inl (ow hw j hj)) hn h1 h2)
theorem slf {Z : State} {a0 : Array Value} (hw : HW a0 Z) (i : Nat) {C O n d : String} (hi : tables_1[i]? = some (Jvm.Cond.lays C O n d)) (j : Nat) {O' n' d' : String} (hj : tables_1[j]? = some (Jvm.Cond.laysFinal C O' n' d')) {a b : Addr} (hn : n ≠ n' := by decide) (ht : (parseFieldDescriptor d).isSome = true := by decide) (ht' : (parseFieldDescriptor d').isSome = true := by decide) : a ≠ b ∨ Jvm.RoadKit.slotOf Z O n d ≠ Jvm.RoadKit.slotOf Z O' n' d' := by
  obtain ⟨t1, h1⟩ := Option.isSome_iff_exists.mp ht
  obtain ⟨t2, h2⟩ := Option.isSome_iff_exists.mp ht'
  exact Or.inr (slot_ne (C := C) (Or.inl (ow hw i hi)) (Or.inr (ow hw j hj)) hn h1 h2)
theorem sfl {Z : State} {a0 : Array Value} (hw : HW a0 Z) (i : Nat) {C O n d : String} (hi : tables_1[i]? = some (Jvm.Cond.laysFinal C O n d)) (j : Nat) {O' n' d' : String} (hj : tables_1[j]? = some (Jvm.Cond.lays C O' n' d')) {a b : Addr} (hn : n ≠ n' := by decide) (ht : (parseFieldDescriptor d).isSome = true := by decide) (ht' : (parseFieldDescriptor d').isSome = true := by decide) : a ≠ b ∨ Jvm.RoadKit.slotOf Z O n d ≠ Jvm.RoadKit.slotOf Z O' n' d' := by
  obtain ⟨t1, h1⟩ := Option.isSome_iff_exists.mp ht
  obtain ⟨t2, h2⟩ := Option.isSome_iff_exists.mp ht'
  exact Or.inr (slot_ne (C := C) (Or.inr (ow hw i hi)) (Or.inl (ow hw j hj)) hn h1 h2)
theorem sff {Z : State} {a0 : Array Value} (hw : HW a0 Z) (i : Nat) {C O n d : String} (hi : tables_1[i]? = some (Jvm.Cond.laysFinal C O n d)) (j : Nat) {O' n' d' : String} (hj : tables_1[j]? = some (Jvm.Cond.laysFinal C O' n' d')) {a b : Addr} (hn : n ≠ n' := by decide) (ht : (parseFieldDescriptor d).isSome = true := by decide) (ht' : (parseFieldDescriptor d').isSome = true := by decide) : a ≠ b ∨ Jvm.RoadKit.slotOf Z O n d ≠ Jvm.RoadKit.slotOf Z O' n' d' := by
  obtain ⟨t1, h1⟩ := Option.isSome_iff_exists.mp ht
  obtain ⟨t2, h2⟩ := Option.isSome_iff_exists.mp ht'
  exact Or.inr (slot_ne (C := C) (Or.inr (ow hw i hi)) (Or.inr (ow hw j hj)) hn h1 h2)
theorem own_start {l : Launch} {y : MethodName} {bytes : ByteArray} {ml : Nat} {rt : Option FieldType} {ws : List Jvm.Cond} {rm : Room} {av : Array Value} {Z : State} {h0 : Heap} {Q : Option Value → Heap → List Loc → Prop} {L0 : Array Slot} (n0 : Nat) (hp : plainFor y = true) (hef : ∀ m, entryFrame m av ml = mkF m 0 L0 [])
    (k : ∀ (p : Program) (e : Env) (s : State) (m : MethodId) (below : List Frame) (meth : Method) (c : Code) (s₁ : State), meth.locks = false → meth.sig.returnType = rt → Z.Warmed39 s.vm → p.tables.exec = Jvm.exec → c.code = bytes → c.maxLocals = ml → s.vm.findClass y.cls = some m.cls → meth.name = y.name → Stand p l e rm s m av below meth c s₁ [] 0 0 → s₁.heap = h0 → Fr n0 [] → Ends p e below s s₁ (mkF m 0 L0 []) rm.cells rm.slots Q) : Meets1 l y bytes ml rt ws rm av Z h0 Q := by
  refine MetFree.of_bodySF hp hisR ?_
  intro p e s m args below meth c s₁ Bd hml0 hP hK
  obtain ⟨rfl, hZ, hh⟩ := hP
  have e0 : s₁.heap = h0 := by rw [← hh, Bd.state]; rfl
  exact Ends.go (fun _ k' => castTop (hef m) k') (k p e s m below meth c s₁ Bd.notSynchronized Bd.returns hZ Bd.exec Bd.bytes hml0 (findClass_of_methodNamed Bd.named) (name_of_methodNamed Bd.named Bd.method).1 (Stand.of_body Bd) e0 (Fr.nil n0))
theorem mi {a : Addr} {ws : List Addr} {n : Nat} (i : Nat) (h : ws[i]? = some a) : a ∈ ws ∨ n ≤ a := Or.inl (List.mem_of_getElem? h)
theorem own_eqI {args : Array Value} {s : State} {t : Term} {k : Int32} (h : (Jvm.Cond.eq t (.int k)).value args s none s [] = some true) : t.eval args s none [] s = some (.int k) := by
 cases ht : t.eval args s none [] s with
 | none => simp [Cond.value, ht] at h
 | some x => cases x <;> simp_all [Cond.value, Term.eval]
theorem own_atoms {Z : State} {a0 : Array Value} (hw : HW a0 Z) : ∀ a ∈ Bundle.stringAtoms, a.before a0 Z = true := by
 intro a ha
 simp only [Bundle.stringAtoms, List.mem_cons, List.not_mem_nil, or_false] at ha
 rcases ha with rfl | rfl | rfl | rfl | rfl | rfl | rfl
 ·exact ow hw 5 rfl
 ·exact ow hw 13 rfl
 ·exact ow hw 17 rfl
 ·exact ow hw 26 rfl
 ·exact ow hw 28 rfl
 ·exact ow hw 76 rfl
 ·exact ow hw 77 rfl
theorem own_narb {r : Int32} : nar .byte (r.toInt8.toInt32) = r.toInt8.toInt32 := by
 have a1 := c_i2b r
 have a2 := c_i2b r.toInt8.toInt32
 exact Int32.toInt_inj.mp (by show r.toInt8.toInt32.toInt8.toInt32.toInt = r.toInt8.toInt32.toInt; omega)
theorem own_rngc {x c : Int32} (h : ((x &&& (255 : Int32)).toUInt32.toUInt16.toUInt32.toInt32) = c) : 0 ≤ c.toInt ∧ c.toInt < 256 := by
 have h1 : 0 ≤ (x &&& (255 : Int32)).toInt ∧ (x &&& (255 : Int32)).toInt ≤ 255 := c_and x 255 (by decide)
 have h2 := c_i2c (x &&& (255 : Int32))
 rw [h] at h2
 omega
theorem own_c255 {c : Int32} (h : 0 ≤ c.toInt ∧ c.toInt < 256) : ¬ (255 : Int32) < c := fun q => by
 have q' : 255 < c.toInt := Int32.lt_iff_toInt_lt.mp q
 omega
theorem own_in15 (x : Int32) : ¬ ((15 : Int32) &&& x) < 0 ∧ ((15 : Int32) &&& x) < 16 := by
 have h1 : 0 ≤ ((15 : Int32) &&& x).toInt ∧ ((15 : Int32) &&& x).toInt ≤ 15 := c_and' 15 x (by decide)
 constructor
 ·intro q
  have q' : ((15 : Int32) &&& x).toInt < 0 := Int32.lt_iff_toInt_lt.mp q
  omega
 ·exact Int32.lt_iff_toInt_lt.mpr (show ((15 : Int32) &&& x).toInt < 16 by omega)
theorem own_n16 (k : Nat) : (nN16 : List Value).getD k .null = .null := by
 rw [show (nN16 : List Value) = List.replicate 16 .null from rfl, List.getD_eq_getElem?_getD, List.getElem?_replicate]
 split <;> rfl
theorem own_nf {args : Array Value} {s : State} {C : String} {x y y' : MethodName} (h : (Jvm.Cond.selects C x y).before args s = true) (hc : y'.cls = y.cls) : NotFace s y' := fun r0 h0 => by
 obtain ⟨c2, r2, m2, q1, q2, q3, q4, kP, hkP, hkPi⟩ := Cond.selects_spec h
 have a := findClass_of_methodNamed h0
 have b := findClass_of_methodNamed q3
 rw [hc, b] at a
 have e : m2.cls = r0.cls := Option.some.inj a
 exact ⟨kP, e ▸ hkP, hkPi⟩
theorem own_mvNM {Z s : State} {a0 args : Array Value} {own host : String} {x : MethodName} {index : Nat} (hZ : Z.Warmed39 s.vm) (w : (Jvm.Cond.methodLinkNest own index x host).before a0 Z = true) : (Jvm.Cond.methodLinkNest own index x host).before args s = true := (Cond.methodLinkNest_wide hZ w :)
theorem own_noinst {Z : State} {a0 : Array Value} {C O K : String} {n : Nat} (w : (Jvm.Cond.superclass C O).before a0 Z = true) (wo : (Jvm.Cond.noSuperclass O).before a0 Z = true) (wk : (Jvm.Cond.instantiable K n).before a0 Z = true) (h1 : C ≠ K) (h2 : O ≠ K) : ∃ c t, Z.vm.findClass C = some c ∧ Z.vm.findClass K = some t ∧ Z.vm.assignable c t = false := by
 obtain ⟨t, kt, g0, g2, g5, g7, -⟩ := Cond.instantiable_spec wk
 obtain ⟨o, ko, o1, o2, o3, -, -⟩ := Cond.noSuperclass_spec wo
 obtain ⟨c, h0⟩ := found_sup w
 obtain ⟨p, k, kp, f1, f2, f3, f4, f5, f6, f7⟩ := Cond.superclass_spec h0 w
 cases o1.symm.trans f1
 have ne1 := ids_ne h0 g0 h1
 have ne2 := ids_ne o1 g0 h2
 have i1 : kt.isInterface = false := by cases hi : kt.isInterface <;> simp_all
 have n2 : ∀ fuel, Z.vm.isSubclassAux fuel o t = false := fun fuel => by
  cases fuel with
  | zero => rfl
  | succ f => simp [Vm.isSubclassAux, ne2, o2, o3]
 have n3 : ∀ fuel, Z.vm.isSubclassAux fuel c t = false := fun fuel => by
  cases fuel with
  | zero => rfl
  | succ f => simp [Vm.isSubclassAux, ne1, f2, f4, n2]
 refine ⟨c, t, h0, g0, ?_⟩
 show Z.vm.assignableAux (255 + 1) c t = false
 simp [Vm.assignableAux, ne1, f2, g2, f5, g5, i1, Vm.isSubclass, n3]
theorem own_readyM {Z : State} {vm' : Vm} (h : Z.Warmed39 vm') {cur index : Nat} {m : MethodId} (r : Z.vm.methodReady cur index m) : vm'.methodReady cur index m := by
 obtain ⟨k, h1, h2⟩ := r
 obtain ⟨k', a1, a2, a3, a4, -⟩ := h.2.2.2 _ _ h1
 refine ⟨k', a1, ?_⟩
 rcases a4 index with q | ⟨q, -⟩
 ·rw [q]; exact h2
 ·rw [q] at h2; cases h2
theorem own_readyC {Z : State} {vm' : Vm} (h : Z.Warmed39 vm') {cur index : Nat} {c : ClassId} (r : Z.vm.classReady cur index c) : vm'.classReady cur index c := by
 obtain ⟨k, h1, h2⟩ := r
 obtain ⟨k', a1, a2, a3, a4, -⟩ := h.2.2.2 _ _ h1
 refine ⟨k', a1, ?_⟩
 rcases a4 index with q | ⟨q, -⟩
 ·rw [q]; exact h2
 ·rw [q] at h2; cases h2
theorem own_specialRef {p : Program} {l : Launch} {e : Env} {R : Room} {s : State} {m : MethodId} {args : Array Value} {below : List Frame} {meth : Method} {c : Code} {T : State} {locs : List Loc} {cells slots : Nat} {Z : State} {a0 : Array Value}
  (X : Stand p l e R s m args below meth c T locs cells slots) (hexec : p.tables.exec = Jvm.exec) (hZ : Z.Warmed39 s.vm) {own : String} {index : Nat} {y : MethodName} (hy1 : y.name = "<init>")
  (hown : s.vm.findClass own = some m.cls) (href : (Jvm.Cond.methodRef own index y).before a0 Z = true) (hinst : (Jvm.Cond.instanceMethod y).before args s = true)
  {bytes : ByteArray} {maxL : Nat} (hcode : (Jvm.Cond.code y bytes maxL none).before args s = true)
  (hy : y.cls ≠ "java/lang/invoke/MethodHandle" ∧ y.cls ≠ "java/lang/invoke/VarHandle")
  {W : Nat} {Pre : Pt → Array Value → Prop} {Post : Pt → Array Value → Option Value → Pt → Prop} (hK : Back l R p e below s args y 3 W Pre Post)
  {g : JFrame} (hg : g.method = m) (hsize : g.locals.size = c.maxLocals) {s₀ : State} (hcome : Steps p.tables e below s₀ (T.setTop g)) {a : Addr} {argsL rest : List Value}
  (hlen : ∀ sig, parseMethodDescriptor y.desc = some sig → argsL.length = sig.parameters.length) (hstack : g.stack = argsL.reverse ++ .ref a :: rest) (hW : 2 * g.monitorRoom + (rest.map fun v => v.category).sum ≤ W)
  (hdg : decode c.code g.pc = .ok (.invokespecial index, 3)) (hpre : ∀ vm₁, s.WarmedH vm₁ → Pre ⟨T.setVm vm₁, locs, cells, slots⟩ (.ref a :: argsL).toArray) :
  ∃ (v : Option Value) (vm₁ : Vm) (B : Pt), s.WarmedH vm₁ ∧ Stand p l e R s m args below meth c B.U B.locs B.cells B.slots ∧ Post ⟨T.setVm vm₁, locs, cells, slots⟩ (.ref a :: argsL).toArray v B ∧
   Steps p.tables e below s₀ (B.U.setTop { g with pc := g.pc + 3, stack := v.toList ++ rest }) := by
 have hU : Z.Warmed39 T.vm := wtrans hZ X.warmed
 have hZo : Z.vm.findClass own = some m.cls := by rw [← hZ.alike.findClass]; exact hown
 obtain ⟨mr, c', r1, r2, r3, kc, cf, ci, n, n1, n2, n3, n4⟩ := Cond.methodRef_named e hZo href
 obtain ⟨obj, methO, hnO, hmO, hstO, habO⟩ := Cond.instanceMethod_spec hinst
 obtain ⟨methO', cO, hmO', hcO, hbO, hlO, -, hlockO, -, hsigO⟩ := Cond.code_spec hnO hcode
 cases hmO.symm.trans hmO'
 obtain ⟨kO, hkO, hnameO⟩ := className_of_methodNamed hnO
 obtain ⟨hnameMO, hdescO⟩ := name_of_methodNamed hnO hmO
 have hnZ : Z.methodNamed? y = some obj := by
  have h := hnO
  rw [show s.methodNamed? y = (Z.setVm s.vm).methodNamed? y from rfl, State.methodNamed?_setVm hZ.alike] at h
  exact h
 cases r1.symm.trans (State.methodFound?_of_named hnZ hy)
 cases r3.symm.trans (findClass_of_methodNamed hnZ)
 have hal : s.vm.Alike T.vm := X.warmed.alike
 obtain ⟨kc', d1, d2⟩ := hU.alike.2.2 _ _ n1
 obtain ⟨kO₂, hkO₂, heO₂⟩ := hal.2.2 _ _ hkO
 have hmO₂ : T.vm.method? mr = some methO := by rw [hal.method?]; exact hmO
 have hfound : lookupSpecial T.vm mr.cls "<init>" methO.desc = .method mr := by
  rw [hal.lookupSpecial, hdescO, ← hy1]; exact lookupSpecial_of_named hnO hmO hstO
 have hstep : ∀ target, (∀ acts, Steps p.tables e below (doInvoke e (T.setTop { g with stack := rest }) acts mr (.ref a :: argsL).toArray).1 target) → Steps p.tables e below (T.setTop g) target := by
  intro target hrest
  subst hg
  jvm_step X.here [hexec, hdg, invokespecial.wp_init (e := e) (s := T) (k := kO₂) (meth := methO) (m := mr) (a := a) (args := argsL) (rest := rest) (f := g)
   X.here.top ⟨kc', cf, ci, n, d1, by rw [d2]; exact n2, n3, own_readyC hU n4⟩ (own_readyM hU r2) hkO₂ hmO₂ (by rw [hnameMO]; exact hy1) hstO habO hfound (hlen _ hsigO) hstack]
  exact hrest
 obtain ⟨v, B, X', hpost, hsteps⟩ := hK m meth c ⟨T.setVm T.vm, locs, cells, slots⟩ { g with stack := rest } (.invokespecial index) mr (.ref a :: argsL).toArray X hg hsize hdg hW (X.named hnO) (hpre T.vm X.warmed)
 exact ⟨v, T.vm, B, X.warmed, X', hpost, (hcome.trans (hstep _ fun acts => by rw [doInvoke_state]; exact Steps.refl _)).trans hsteps⟩
theorem own_selp {s : State} {args : Array Value} {y : MethodName} {n : Nat} (wi : (Jvm.Cond.instantiable y.cls n).before args s = true) (hpriv : s.PrivateAt y) (hinst : (Jvm.Cond.instanceMethod y).before args s = true) (hy : y.cls ≠ "java/lang/invoke/MethodHandle" ∧ y.cls ≠ "java/lang/invoke/VarHandle") : (Jvm.Cond.selects y.cls y y).before args s = true := by
 obtain ⟨t, kt, g0, g2, g5, g7, -⟩ := Cond.instantiable_spec wi
 exact selects_self_of_private g0 g2 (by cases hi : kt.isInterface <;> simp_all) hpriv hinst hy
theorem own_m2 (p0 i : Int32) (h : ((p0 &&& (2147483647 : Int32)) % (2 : Int32)) = i) : i = 0 ∨ i = 1 := by
 have h1 := c_and p0 2147483647 (by decide)
 have h2 := (c_irem (p0 &&& 2147483647) 2 2 (by decide)).1 h1.1
 rw [h] at h2
 have h3 : i.toInt = 0 ∨ i.toInt = 1 := by omega
 rcases h3 with q | q
 ·exact Or.inl (Int32.toInt_inj.mp q)
 ·exact Or.inr (Int32.toInt_inj.mp q)
theorem own_m3 (p0 i : Int32) (h : ((p0 &&& (2147483647 : Int32)) % (3 : Int32)) = i) : i = 0 ∨ i = 1 ∨ i = 2 := by
 have h1 := c_and p0 2147483647 (by decide)
 have h2 := (c_irem (p0 &&& 2147483647) 3 3 (by decide)).1 h1.1
 rw [h] at h2
 have h3 : i.toInt = 0 ∨ i.toInt = 1 ∨ i.toInt = 2 := by omega
 rcases h3 with q | q | q
 ·exact Or.inl (Int32.toInt_inj.mp q)
 ·exact Or.inr (Or.inl (Int32.toInt_inj.mp q))
 ·exact Or.inr (Or.inr (Int32.toInt_inj.mp q))
theorem own_n3 (p0 i : Int32) (h : (((p0 &&& (3 : Int32)) % (3 : Int32)) + (1 : Int32)) = i) : i = 1 ∨ i = 2 ∨ i = 3 := by
 have h1 : 0 ≤ (p0 &&& (3 : Int32)).toInt ∧ (p0 &&& (3 : Int32)).toInt ≤ 3 := c_and p0 3 (by decide)
 have h2 := (c_irem (p0 &&& 3) 3 3 (by decide)).1 h1.1
 have h3 := c_iadd ((p0 &&& (3 : Int32)) % (3 : Int32)) 1
 have e : (1 : Int32).toInt = 1 := by decide
 have e1 := i.le_toInt
 have e2 := i.toInt_lt
 rw [h] at h3
 have h4 : i.toInt = 1 ∨ i.toInt = 2 ∨ i.toInt = 3 := by omega
 rcases h4 with q | q | q
 ·exact Or.inl (Int32.toInt_inj.mp q)
 ·exact Or.inr (Or.inl (Int32.toInt_inj.mp q))
 ·exact Or.inr (Or.inr (Int32.toInt_inj.mp q))
abbrev own_NE (wk_ ov_ on_ op_ ob_ nm_ vo_ ar_ va_ : Addr) : Prop := wk_ ≠ ov_ ∧ wk_ ≠ on_ ∧ wk_ ≠ op_ ∧ wk_ ≠ ob_ ∧ wk_ ≠ nm_ ∧ wk_ ≠ vo_ ∧ wk_ ≠ ar_ ∧ wk_ ≠ va_ ∧ ov_ ≠ on_ ∧ ov_ ≠ op_ ∧ ov_ ≠ ob_ ∧ ov_ ≠ nm_ ∧ ov_ ≠ vo_ ∧ ov_ ≠ ar_ ∧ ov_ ≠ va_ ∧ on_ ≠ op_ ∧ on_ ≠ ob_ ∧ on_ ≠ nm_ ∧ on_ ≠ vo_ ∧ on_ ≠ ar_ ∧ on_ ≠ va_ ∧ op_ ≠ ob_ ∧ op_ ≠ nm_ ∧ op_ ≠ vo_ ∧ op_ ≠ ar_ ∧ op_ ≠ va_
abbrev own_SF (Z : State) (h : Heap) (w_EMPTY wk_ ov_ on_ op_ ob_ nm_ vo_ ar_ va_ : Addr) (kvo_ kva_ kov_ kon_ kop_ : ClassId) (vV_ nV_ : Value) (pI_ dI_ : Int32) (lo_ ln_ lp_ : List Value) : Prop := Exa Z h wk_ "com/example/ratatoskr/ratatoskr/Walk" ∧ Exa Z h ob_ "com/example/ratatoskr/ratatoskr/JsonObject" ∧ Exa Z h nm_ "com/example/ratatoskr/ratatoskr/Names" ∧ Exa Z h vo_ "[Lcom/example/ratatoskr/ratatoskr/JsonValue;" ∧ Exa Z h ar_ "com/example/ratatoskr/ratatoskr/JsonArray" ∧ Exa Z h va_ "[Lcom/example/ratatoskr/ratatoskr/JsonValue;" ∧ Fld Z h ob_ "com/example/ratatoskr/ratatoskr/JsonObject" "names" "Lcom/example/ratatoskr/ratatoskr/Names;" (.ref nm_) ∧ Fld Z h ob_ "com/example/ratatoskr/ratatoskr/JsonObject" "values" "[Lcom/example/ratatoskr/ratatoskr/JsonValue;" (.ref vo_) ∧ Fld Z h ar_ "com/example/ratatoskr/ratatoskr/JsonArray" "elements" "[Lcom/example/ratatoskr/ratatoskr/JsonValue;" (.ref va_) ∧ Fld Z h wk_ "com/example/ratatoskr/ratatoskr/Walk" "values" "[Lcom/example/ratatoskr/ratatoskr/JsonValue;" vV_ ∧ Fld Z h wk_ "com/example/ratatoskr/ratatoskr/Walk" "names" "Lcom/example/ratatoskr/ratatoskr/Names;" nV_ ∧ Fld Z h wk_ "com/example/ratatoskr/ratatoskr/Walk" "place" "I" (.int pI_) ∧ Fld Z h wk_ "com/example/ratatoskr/ratatoskr/Walk" "depth" "I" (.int dI_) ∧ Fld Z h wk_ "com/example/ratatoskr/ratatoskr/Walk" "outerValues" "[[Lcom/example/ratatoskr/ratatoskr/JsonValue;" (.ref ov_) ∧ Fld Z h wk_ "com/example/ratatoskr/ratatoskr/Walk" "outerNames" "[Lcom/example/ratatoskr/ratatoskr/Names;" (.ref on_) ∧ Fld Z h wk_ "com/example/ratatoskr/ratatoskr/Walk" "outerPlaces" "[I" (.ref op_) ∧ Arv Z h vo_ kvo_ (.object "com/example/ratatoskr/ratatoskr/JsonValue") (1 : Int32) [(.ref w_EMPTY)] .null ∧ Arv Z h va_ kva_ (.object "com/example/ratatoskr/ratatoskr/JsonValue") (2 : Int32) [(.ref w_EMPTY), (.ref ob_)] .null ∧ Arv Z h ov_ kov_ (.array (.object "com/example/ratatoskr/ratatoskr/JsonValue")) (16 : Int32) lo_ .null ∧ Arv Z h on_ kon_ (.object "com/example/ratatoskr/ratatoskr/Names") (16 : Int32) ln_ .null ∧ Arv Z h op_ kop_ .int (16 : Int32) lp_ (.int 0) ∧ OvrA Z kov_ (.object "com/example/ratatoskr/ratatoskr/JsonValue") "[Lcom/example/ratatoskr/ratatoskr/JsonValue;" ∧ Ovr Z kon_ "com/example/ratatoskr/ratatoskr/Names"
abbrev own_SQ (Z : State) (h : Heap) (wk_ ov_ on_ op_ : Addr) (kov_ kon_ kop_ : ClassId) (vV_ nV_ : Value) (pI_ dI_ : Int32) (lo_ ln_ lp_ : List Value) : Prop := Fld Z h wk_ "com/example/ratatoskr/ratatoskr/Walk" "values" "[Lcom/example/ratatoskr/ratatoskr/JsonValue;" vV_ ∧ Fld Z h wk_ "com/example/ratatoskr/ratatoskr/Walk" "names" "Lcom/example/ratatoskr/ratatoskr/Names;" nV_ ∧ Fld Z h wk_ "com/example/ratatoskr/ratatoskr/Walk" "place" "I" (.int pI_) ∧ Fld Z h wk_ "com/example/ratatoskr/ratatoskr/Walk" "depth" "I" (.int dI_) ∧ Fld Z h wk_ "com/example/ratatoskr/ratatoskr/Walk" "outerValues" "[[Lcom/example/ratatoskr/ratatoskr/JsonValue;" (.ref ov_) ∧ Fld Z h wk_ "com/example/ratatoskr/ratatoskr/Walk" "outerNames" "[Lcom/example/ratatoskr/ratatoskr/Names;" (.ref on_) ∧ Fld Z h wk_ "com/example/ratatoskr/ratatoskr/Walk" "outerPlaces" "[I" (.ref op_) ∧ Arv Z h ov_ kov_ (.array (.object "com/example/ratatoskr/ratatoskr/JsonValue")) (16 : Int32) lo_ .null ∧ Arv Z h on_ kon_ (.object "com/example/ratatoskr/ratatoskr/Names") (16 : Int32) ln_ .null ∧ Arv Z h op_ kop_ .int (16 : Int32) lp_ (.int 0)
def GlobF (Z : State) (G1 : Int32) (w_EMPTY : Addr) : Prop := Sta Z Z.heap "java/lang/String" "COMPACT_STRINGS" "Z" (.int G1) ∧ ¬ G1 = (0 : Int32) ∧ Sta Z Z.heap "com/example/ratatoskr/ratatoskr/JsonArray" "EMPTY" "Lcom/example/ratatoskr/ratatoskr/JsonArray;" (.ref w_EMPTY) ∧ Exa Z Z.heap w_EMPTY "com/example/ratatoskr/ratatoskr/JsonArray"
theorem d51_0 : decode B38_ 0 = .ok (.iload_n 0, 1) := by decide +kernel
theorem d51_1 : decode B38_ 1 = .ok (.ldc 7, 2) := by decide +kernel
theorem d51_3 : decode B38_ 3 = .ok (.iand, 1) := by decide +kernel
theorem d51_4 : decode B38_ 4 = .ok (.iload_n 1, 1) := by decide +kernel
theorem d51_5 : decode B38_ 5 = .ok (.ifCond .eq 7, 3) := by decide +kernel
theorem d51_8 : decode B38_ 8 = .ok (.iconst 2, 1) := by decide +kernel
theorem d51_9 : decode B38_ 9 = .ok (.goto 4, 3) := by decide +kernel
theorem d51_12 : decode B38_ 12 = .ok (.iconst 3, 1) := by decide +kernel
theorem d51_13 : decode B38_ 13 = .ok (.irem, 1) := by decide +kernel
theorem d51_14 : decode B38_ 14 = .ok (.ireturn, 1) := by decide +kernel
theorem pn51 : plainName "com/example/ratatoskr/ratatoskr/WalkLeavePinLaw" = true := by first | (simp [plainName, overriddenIn]; done) | decide +kernel
theorem ef51 (m : MethodId) (p0 : Int32) (p1 : Int32) : entryFrame m #[(.int p0), (.int p1)] 2 = mkF m 0 #[.val (.int p0), .val (.int p1)] [] := by first | (simp [entryFrame, mkF, argsToLocals, Value.category]; done) | rfl
theorem rmPl (l : Launch) (Z : State) (a0 : Array Value) (hw : HW a0 Z) (ws : List Jvm.Cond) (n0 : Nat) (h0 : Heap) (O0 : Old Z n0 h0) (p0 : Int32) (p1 : Int32)  :
  Meets1 l ym0 B38_ 2 (some .int) ws (mkR 0 0 0 0) #[(.int p0), (.int p1)] Z h0 (fun v h L => ∃ r : Int32, v = some (.int r) ∧ Fr n0 L ∧ h = h0 ∧ ((p1 = 0 ∧ (r = 0 ∨ r = 1 ∨ r = 2)) ∨ (¬ p1 = 0 ∧ (r = 0 ∨ r = 1)))) := by
 refine own_start n0 (plainFor_of_name pn51) (fun m => ef51 m p0 p1) ?_
 intro p e s m below meth c s₁ hns hrt hZ hx hby hml hown hnm X0 e0 N0
 refine wilN X0 hx hby d51_0 rfl ?_
 refine Ends.go (X0.ldcInt hx hown (ov hZ hw 392 rfl) (g := (mkF m 1 #[ci p0, ci p1] [(.int p0)])) rfl (hb hby d51_1)) ?_
 refine wan X0 hx hby d51_3 ?_
 refine wilN X0 hx hby d51_4 rfl ?_
 by_cases hc5_1 : p1 = (0 : Int32)
 ·refine wiy (pc := 5) (pc' := 12) X0 hx hby d51_5 ((if0 _ _).trans (teq hc5_1).1) ?_
  refine wic X0 hx hby d51_12 ?_
  refine wir X0 hx hby d51_13 (by decide) ?_
  refine Ends.ret X0 hx hns (t := .int) hrt rfl (Or.inl ⟨rfl, by simp, _, rfl⟩) (hb hby d51_14) (by decide) (by decide) ?_
  exact ⟨_, rfl, N0, e0, Or.inl ⟨hc5_1, own_m3 p0 _ rfl⟩⟩
 ·refine win X0 hx hby d51_5 ((if0 _ _).trans (feq hc5_1).1) ?_
  refine wic X0 hx hby d51_8 ?_
  refine wgo (pc := 9) (pc' := 13) X0 hx hby d51_9 ?_
  refine wir X0 hx hby d51_13 (by decide) ?_
  refine Ends.ret X0 hx hns (t := .int) hrt rfl (Or.inl ⟨rfl, by simp, _, rfl⟩) (hb hby d51_14) (by decide) (by decide) ?_
  exact ⟨_, rfl, N0, e0, Or.inr ⟨hc5_1, own_m2 p0 _ rfl⟩⟩
theorem d16_0 : decode B13_ 0 = .ok (.getstatic 38, 3) := by decide +kernel
theorem d16_3 : decode B13_ 3 = .ok (.ifCond .eq 14, 3) := by decide +kernel
theorem d16_6 : decode B13_ 6 = .ok (.aload_n 0, 1) := by decide +kernel
theorem d16_7 : decode B13_ 7 = .ok (.getfield 15, 3) := by decide +kernel
theorem d16_10 : decode B13_ 10 = .ok (.ifCond .ne 7, 3) := by decide +kernel
theorem d16_13 : decode B13_ 13 = .ok (.iconst 1, 1) := by decide +kernel
theorem d16_14 : decode B13_ 14 = .ok (.goto 4, 3) := by decide +kernel
theorem d16_18 : decode B13_ 18 = .ok (.ireturn, 1) := by decide +kernel
theorem pn16 : plainName "java/lang/String" = true := by first | (simp [plainName, overriddenIn]; done) | decide +kernel
theorem ef16_r (m : MethodId) (x0 : Addr) : entryFrame m #[(.ref x0)] 1 = mkF m 0 #[.val (.ref x0)] [] := by first | (simp [entryFrame, mkF, argsToLocals, Value.category]; done) | rfl
theorem rx16_3 (l : Launch) (Z : State) (a0 : Array Value) (hw : HW a0 Z) (ws : List Jvm.Cond) (n0 : Nat) (h0 : Heap) (O0 : Old Z n0 h0) (G1 : Int32) (w_EMPTY : Addr) (GF : GlobF Z G1 w_EMPTY) (o0 : Addr) (Pa0 : f0_ Z h0 o0 (.int 0)) :
  Meets1 l ym1 B13_ 1 (some .boolean) ws (mkR 0 0 0 0) #[(.ref o0)] Z h0 (fun v h L => v = some (.int 1) ∧ Fr n0 L ∧ Keep h0 h []) := by
 refine own_start n0 (plainFor_of_name pn16) (fun m => ef16_r m o0) ?_
 intro p e s m below meth c s₁ hns hrt hZ hx hby hml hown hnm X0 e0 N0
 obtain ⟨SCS, P5, S_EMPTY, E_EMPTY⟩ := id GF
 have K0 := Keep.refl h0 []
 show Ends _ _ _ _ s₁ (mkF m 0 #[cr o0] []) _ _ _
 obtain ⟨T4, X4, e4, st4⟩ := getS2 X0 hx hZ hown (host := "") (Or.inl (ow hw 7 rfl)) Via.refl e0 (SCS.ext O0.2) (g := (mkF m 0 #[cr o0] [])) rfl (hb hby d16_0)
 refine Ends.go st4 ?_
 refine win X4 hx hby d16_3 ((if0 _ _).trans (feq (P5 : ¬ (G1 = (0 : Int32)))).1) ?_
 refine walN X4 hx hby d16_6 rfl rfl ?_
 refine wgf X4 hx hZ hown hw 27 rfl e4 Pa0 hby d16_7 ?_
 intro T5 X5 e5
 refine win X5 hx hby d16_10 ((if0 _ _).trans (teq (by decide : (0 : Int32) = (0 : Int32))).2) ?_
 refine wic X5 hx hby d16_13 ?_
 refine wgo (pc := 14) (pc' := 18) X5 hx hby d16_14 ?_
 refine Ends.retZ X5 hx hns (t := .boolean) hrt (by simp) (hb hby d16_18) (by decide) (by decide) ?_
 rw [e5]
 exact ⟨rfl, N0, K0⟩
theorem d17_0 : decode B16_ 0 = .ok (.aload_n 0, 1) := by decide +kernel
theorem d17_1 : decode B16_ 1 = .ok (.arraylength, 1) := by decide +kernel
theorem d17_2 : decode B16_ 2 = .ok (.lookupswitch 40 #[(0, 26), (1, 30)], 26) := by decide +kernel
theorem d17_32 : decode B16_ 32 = .ok (.aload_n 0, 1) := by decide +kernel
theorem d17_33 : decode B16_ 33 = .ok (.iconst 0, 1) := by decide +kernel
theorem d17_34 : decode B16_ 34 = .ok (.baload, 1) := by decide +kernel
theorem d17_35 : decode B16_ 35 = .ok (.sipush 255, 3) := by decide +kernel
theorem d17_38 : decode B16_ 38 = .ok (.iand, 1) := by decide +kernel
theorem d17_39 : decode B16_ 39 = .ok (.goto 12, 3) := by decide +kernel
theorem d17_51 : decode B16_ 51 = .ok (.ireturn, 1) := by decide +kernel
theorem pn17 : plainName "java/lang/StringLatin1" = true := by first | (simp [plainName, overriddenIn]; done) | decide +kernel
theorem pdx_0 : parseMethodDescriptor "()Z" = some ⟨[], some .boolean⟩ := by decide +kernel
theorem ef17_r (m : MethodId) (x0 : Addr) : entryFrame m #[(.ref x0)] 1 = mkF m 0 #[.val (.ref x0)] [] := by first | (simp [entryFrame, mkF, argsToLocals, Value.category]; done) | rfl
theorem rx17_8 (l : Launch) (Z : State) (a0 : Array Value) (hw : HW a0 Z) (ws : List Jvm.Cond) (n0 : Nat) (h0 : Heap) (O0 : Old Z n0 h0)  (b0_ : Addr) (kb_ : ClassId) (c_ : Int32) (Pa0 : Arv Z h0 b0_ kb_ .byte (1 : Int32) [(.int (c_.toInt8.toInt32))] (.int 0)) :
  Meets1 l ym2 B16_ 1 (some .int) ws (mkR 0 0 0 0) #[(.ref b0_)] Z h0 (fun v h L => v = some (.int ((c_.toInt8.toInt32) &&& (255 : Int32))) ∧ Fr n0 L ∧ Keep h0 h []) := by
 refine own_start n0 (plainFor_of_name pn17) (fun m => ef17_r m b0_) ?_
 intro p e s m below meth c s₁ hns hrt hZ hx hby hml hown hnm X0 e0 N0
 have K0 := Keep.refl h0 []
 refine walN X0 hx hby d17_0 rfl rfl ?_
 obtain ⟨cl9, Ar9, q9, S9, M9, H9, G9⟩ := id Pa0
 refine Ends.go (X0.arraylength hx (by rw [e0]; exact Ar9.1) (State.isArrayOf_alike hZ.alike Ar9.2.1) (g := (mkF m 1 #[cr b0_] [(.ref b0_)])) rfl rfl (hb hby d17_1)) ?_
 rw [len_of S9 M9]
 refine Ends.go (X0.lookupswitchHit hx (g := (mkF m 2 #[cr b0_] [(.int 1)])) rfl (k := (1 : Int32)) (rest := []) rfl (hb hby d17_2) (by decide) (a := 1) (off := 30) (by decide) (by show (0 : Int) ≤ ((2 : Nat) : Int) + 30; decide)) ?_
 refine walN X0 hx hby d17_32 rfl rfl ?_
 refine wic X0 hx hby d17_33 ?_
 obtain ⟨cl10, Ar10, q10, S10, M10, H10, G10⟩ := id Pa0
 have hin10 := inb_of (j := (0 : Int32)) S10 ⟨by decide, by decide⟩
 refine Ends.go (X0.baloadBytes hx (j := (0 : Int32)) (v := (.int (c_.toInt8.toInt32))) (by rw [e0]; exact Ar10.1) (State.isArrayOf_alike hZ.alike Ar10.2.1) Ar10.2.2 hin10 (H10.at hin10 rfl) (g := (mkF m 34 #[cr b0_] [(.int 0), (.ref b0_)])) rfl rfl (hb hby d17_34)) ?_
 refine wsp X0 hx hby d17_35 ?_
 refine wan X0 hx hby d17_38 ?_
 refine wgo (pc := 39) (pc' := 51) X0 hx hby d17_39 ?_
 refine Ends.ret X0 hx hns (t := .int) hrt rfl (Or.inl ⟨rfl, by simp, _, rfl⟩) (hb hby d17_51) (by decide) (by decide) ?_
 rw [e0]
 exact ⟨rfl, N0, K0⟩
theorem d15_0 : decode B15_ 0 = .ok (.aload_n 0, 1) := by decide +kernel
theorem d15_1 : decode B15_ 1 = .ok (.getfield 19, 3) := by decide +kernel
theorem d15_4 : decode B15_ 4 = .ok (.istore_n 1, 1) := by decide +kernel
theorem d15_5 : decode B15_ 5 = .ok (.iload_n 1, 1) := by decide +kernel
theorem d15_6 : decode B15_ 6 = .ok (.ifCond .ne 52, 3) := by decide +kernel
theorem d15_9 : decode B15_ 9 = .ok (.aload_n 0, 1) := by decide +kernel
theorem d15_10 : decode B15_ 10 = .ok (.getfield 23, 3) := by decide +kernel
theorem d15_13 : decode B15_ 13 = .ok (.ifCond .ne 45, 3) := by decide +kernel
theorem d15_16 : decode B15_ 16 = .ok (.aload_n 0, 1) := by decide +kernel
theorem d15_17 : decode B15_ 17 = .ok (.invokevirtual 492, 3) := by decide +kernel
theorem d15_20 : decode B15_ 20 = .ok (.ifCond .eq 13, 3) := by decide +kernel
theorem d15_23 : decode B15_ 23 = .ok (.aload_n 0, 1) := by decide +kernel
theorem d15_24 : decode B15_ 24 = .ok (.getfield 9, 3) := by decide +kernel
theorem d15_27 : decode B15_ 27 = .ok (.invokestatic 628, 3) := by decide +kernel
theorem d15_30 : decode B15_ 30 = .ok (.goto 10, 3) := by decide +kernel
theorem d15_40 : decode B15_ 40 = .ok (.istore_n 1, 1) := by decide +kernel
theorem d15_41 : decode B15_ 41 = .ok (.iload_n 1, 1) := by decide +kernel
theorem d15_42 : decode B15_ 42 = .ok (.ifCond .ne 11, 3) := by decide +kernel
theorem d15_45 : decode B15_ 45 = .ok (.aload_n 0, 1) := by decide +kernel
theorem d15_46 : decode B15_ 46 = .ok (.iconst 1, 1) := by decide +kernel
theorem d15_47 : decode B15_ 47 = .ok (.putfield 23, 3) := by decide +kernel
theorem d15_50 : decode B15_ 50 = .ok (.goto 8, 3) := by decide +kernel
theorem d15_53 : decode B15_ 53 = .ok (.aload_n 0, 1) := by decide +kernel
theorem d15_54 : decode B15_ 54 = .ok (.iload_n 1, 1) := by decide +kernel
theorem d15_55 : decode B15_ 55 = .ok (.putfield 19, 3) := by decide +kernel
theorem d15_58 : decode B15_ 58 = .ok (.iload_n 1, 1) := by decide +kernel
theorem d15_59 : decode B15_ 59 = .ok (.ireturn, 1) := by decide +kernel
theorem pn15 : plainName "java/lang/String" = true := by first | (simp [plainName, overriddenIn]; done) | decide +kernel
theorem pdx_1 : parseMethodDescriptor "([B)I" = some ⟨[(.array .byte)], some .int⟩ := by decide +kernel
theorem ef15_r (m : MethodId) (x0 : Addr) : entryFrame m #[(.ref x0)] 2 = mkF m 0 #[.val (.ref x0), .unset] [] := by first | (simp [entryFrame, mkF, argsToLocals, Value.category]; done) | rfl
theorem rmHC (l : Launch) (Z : State) (a0 : Array Value) (hw : HW a0 Z) (ws : List Jvm.Cond) (n0 : Nat) (h0 : Heap) (O0 : Old Z n0 h0)  (G1 : Int32) (w_EMPTY : Addr) (GF : GlobF Z G1 w_EMPTY) (o0 b0_ : Addr) (kb_ : ClassId) (c_ : Int32) (g_o0 : n0 ≤ o0) (hob : o0 ≠ b0_) (E0 : Exa Z h0 o0 cST) (Fh : Fld Z h0 o0 cST "hash" "I" (.int 0)) (Fz : f1_ Z h0 o0 (.int 0)) (Fv : f2_ Z h0 o0 (.ref b0_)) (Fc : f0_ Z h0 o0 (.int 0)) (Vb : Arv Z h0 b0_ kb_ .byte (1 : Int32) [(.int (c_.toInt8.toInt32))] (.int 0)) :
  Meets1 l ym3 B15_ 2 (some .int) ws (mkR 1 0 0 20) #[(.ref o0)] Z h0 (fun v h L => ∃ r : Int32, v = some (.int r) ∧ Fr n0 L ∧ Keep h0 h [o0]) := by
 refine own_start n0 (plainFor_of_name pn15) (fun m => ef15_r m o0) ?_
 intro p e s m below meth c s₁ hns hrt hZ hx hby hml hown hnm X0 e0 N0
 have K0 := Keep.refl h0 [o0]
 obtain ⟨SCS, P5, S_EMPTY, E_EMPTY⟩ := id GF
 refine walN X0 hx hby d15_0 rfl rfl ?_
 refine wgf X0 hx hZ hown hw 101 rfl e0 Fh hby d15_1 ?_
 intro T1 X1 e1
 refine wstN X1 hx hby d15_4 (l' := #[cr o0, ci 0]) rfl ?_
 refine wilN X1 hx hby d15_5 rfl ?_
 refine win X1 hx hby d15_6 ((if0 _ _).trans (teq (by decide : (0 : Int32) = (0 : Int32))).2) ?_
 refine walN X1 hx hby d15_9 rfl rfl ?_
 refine wgf X1 hx hZ hown hw 103 rfl e1 Fz hby d15_10 ?_
 intro T2 X2 e2
 refine win X2 hx hby d15_13 ((if0 _ _).trans (teq (by decide : (0 : Int32) = (0 : Int32))).2) ?_
 refine walN X2 hx hby d15_16 rfl rfl ?_
 refine wvb X2 hx hZ hown hw hml rfl hby d15_17 105 rfl 106 rfl 108 rfl 107 rfl (by decide) e2 E0 (rx16_3 l Z a0 hw [] n0 h0 O0 G1 w_EMPTY GF o0 Fc) 109 rfl 5 rfl (by decide) (by decide) [] [] pdx_0 rfl rfl rfl (by decide) (by decide) rfl ?_
 intro _ T6 _ X6 hQ6
 obtain ⟨rfl, N6q, K6c⟩ := hQ6
 have N6 := Fr.app N0 N6q
 obtain ⟨h6, e6⟩ : ∃ z, T6.heap = z := ⟨_, rfl⟩
 rw [e6] at K6c
 have K6 := K0.trans K6c all0
 have O6 := O0.keep K6c all0
 refine win X6 hx hby d15_20 ((if0 _ _).trans (feq (by decide : ¬ ((1 : Int32) = (0 : Int32)))).1) ?_
 refine walN X6 hx hby d15_23 rfl rfl ?_
 refine wgf X6 hx hZ hown hw 25 rfl e6 (Fv.keep K6c nin0) hby d15_24 ?_
 intro T7 X7 e7
 refine wsb X7 hx hZ hown hw hml rfl hby d15_27 110 rfl 111 rfl 10 rfl 112 rfl (by decide) e7 (rx17_8 l Z a0 hw [] n0 h6 O6  b0_ kb_ c_ (Vb.keep K6c nin0)) (by decide) (by decide) [(.ref b0_)] [] pdx_1 rfl rfl rfl (by decide) (by decide) rfl ?_
 intro _ T11 _ X11 hQ11
 obtain ⟨rfl, N11q, K11c⟩ := hQ11
 have N11 := Fr.app N6 N11q
 obtain ⟨h11, e11⟩ : ∃ z, T11.heap = z := ⟨_, rfl⟩
 rw [e11] at K11c
 have K11 := K6.trans K11c all0
 refine wgo (pc := 30) (pc' := 40) X11 hx hby d15_30 ?_
 refine wstN X11 hx hby d15_40 (l' := #[cr o0, ci ((c_.toInt8.toInt32) &&& (255 : Int32))]) rfl ?_
 refine wilN X11 hx hby d15_41 rfl ?_
 by_cases hc42_12 : ((c_.toInt8.toInt32) &&& (255 : Int32)) = (0 : Int32)
 ·refine win X11 hx hby d15_42 ((if0 _ _).trans (teq hc42_12).2) ?_
  refine walN X11 hx hby d15_45 rfl rfl ?_
  refine wic X11 hx hby d15_46 ?_
  obtain ⟨T13, h13, X13, e13, W13, st13⟩ := putFN X11 hx hZ hown (ow hw 103 rfl) Via.refl e11 ((Fz.keep K6c nin0).keep K11c nin0) ((E0.keep K6c).keep K11c) (Or.inl (ow hw 104 rfl)) (ow hw 13 rfl) (ty := .boolean) (v' := (.int 1)) (by decide) rfl (by decide) (g := (mkF m 47 #[cr o0, ci ((c_.toInt8.toInt32) &&& (255 : Int32))] [(.int 1), (.ref o0)])) rfl rfl (hb hby d15_47)
  refine Ends.go st13 ?_
  have K13 := K11.wr W13 (mi 0 rfl)
  have N13 := Fr.snoc X13 N11 g_o0
  refine wgo (pc := 50) (pc' := 58) X13 hx hby d15_50 ?_
  refine wilN X13 hx hby d15_58 rfl ?_
  refine Ends.ret X13 hx hns (t := .int) hrt rfl (Or.inl ⟨rfl, by simp, _, rfl⟩) (hb hby d15_59) (by decide) (by decide) ?_
  rw [e13]
  exact ⟨_, rfl, N13, K13⟩
 ·refine wiy (pc := 42) (pc' := 53) X11 hx hby d15_42 ((if0 _ _).trans (feq hc42_12).2) ?_
  refine walN X11 hx hby d15_53 rfl rfl ?_
  refine wilN X11 hx hby d15_54 rfl ?_
  refine wpf X11 hx hZ hown hw 101 rfl e11 ((Fh.keep K6c nin0).keep K11c nin0) ((E0.keep K6c).keep K11c) 102 rfl 13 rfl (ty := .int) (by decide) rfl rfl hby d15_55 ?_
  intro T14 h14 X14 e14 W14
  have K14 := K11.wr W14 (mi 0 rfl)
  have N14 := Fr.snoc X14 N11 g_o0
  refine wilN X14 hx hby d15_58 rfl ?_
  refine Ends.ret X14 hx hns (t := .int) hrt rfl (Or.inl ⟨rfl, by simp, _, rfl⟩) (hb hby d15_59) (by decide) (by decide) ?_
  rw [e14]
  exact ⟨_, rfl, N14, K14⟩
theorem d14_0 : decode B23_ 0 = .ok (.aload_n 0, 1) := by decide +kernel
theorem d14_1 : decode B23_ 1 = .ok (.ifnonnull 7, 3) := by decide +kernel
theorem d14_8 : decode B23_ 8 = .ok (.aload_n 0, 1) := by decide +kernel
theorem d14_9 : decode B23_ 9 = .ok (.invokevirtual 1, 3) := by decide +kernel
theorem d14_12 : decode B23_ 12 = .ok (.dup, 1) := by decide +kernel
theorem d14_13 : decode B23_ 13 = .ok (.istore_n 1, 1) := by decide +kernel
theorem d14_14 : decode B23_ 14 = .ok (.iload_n 1, 1) := by decide +kernel
theorem d14_15 : decode B23_ 15 = .ok (.bipush 16, 2) := by decide +kernel
theorem d14_17 : decode B23_ 17 = .ok (.iushr, 1) := by decide +kernel
theorem d14_18 : decode B23_ 18 = .ok (.ixor, 1) := by decide +kernel
theorem d14_19 : decode B23_ 19 = .ok (.ireturn, 1) := by decide +kernel
theorem pn14 : plainName "java/util/HashMap" = true := by first | (simp [plainName, overriddenIn]; done) | decide +kernel
theorem pdx_2 : parseMethodDescriptor "()I" = some ⟨[], some .int⟩ := by decide +kernel
theorem ef14_r (m : MethodId) (x0 : Addr) : entryFrame m #[(.ref x0)] 2 = mkF m 0 #[.val (.ref x0), .unset] [] := by first | (simp [entryFrame, mkF, argsToLocals, Value.category]; done) | rfl
theorem rmHM (l : Launch) (Z : State) (a0 : Array Value) (hw : HW a0 Z) (ws : List Jvm.Cond) (n0 : Nat) (h0 : Heap) (O0 : Old Z n0 h0)  (G1 : Int32) (w_EMPTY : Addr) (GF : GlobF Z G1 w_EMPTY) (o0 b0_ : Addr) (kb_ : ClassId) (c_ : Int32) (g_o0 : n0 ≤ o0) (hob : o0 ≠ b0_) (E0 : Exa Z h0 o0 cST) (Fh : Fld Z h0 o0 cST "hash" "I" (.int 0)) (Fz : f1_ Z h0 o0 (.int 0)) (Fv : f2_ Z h0 o0 (.ref b0_)) (Fc : f0_ Z h0 o0 (.int 0)) (Vb : Arv Z h0 b0_ kb_ .byte (1 : Int32) [(.int (c_.toInt8.toInt32))] (.int 0)) :
  Meets1 l ym4 B23_ 2 (some .int) ws (mkR 2 0 0 40) #[(.ref o0)] Z h0 (fun v h L => ∃ r : Int32, v = some (.int r) ∧ Fr n0 L ∧ Keep h0 h [o0]) := by
 refine own_start n0 (plainFor_of_name pn14) (fun m => ef14_r m o0) ?_
 intro p e s m below meth c s₁ hns hrt hZ hx hby hml hown hnm X0 e0 N0
 have K0 := Keep.refl h0 [o0]
 obtain ⟨SCS, P5, S_EMPTY, E_EMPTY⟩ := id GF
 refine walN X0 hx hby d14_0 rfl rfl ?_
 refine wny (pc := 1) (pc' := 8) X0 hx hby d14_1 ?_
 refine walN X0 hx hby d14_8 rfl rfl ?_
 obtain ⟨cq15, kq15, q15a, q15b, q15c⟩ := isOf hZ e0 E0
 obtain ⟨_, _, ⟨T15, L15, k15, n15⟩, -, X15, ⟨Lc15, hQ15, l15, y15, z15⟩, st15⟩ := X0.virtualBack hx (y := ym5) (z := ym3) hown (ov hZ hw 95 rfl) (ov hZ hw 96 rfl) (nf_top (args := #[]) (ov hZ hw 421 rfl)) (ov hZ hw 98 rfl) (ov hZ hw 99 rfl) (by decide) (own_backOf (W := 0) (rmHC l Z a0 hw [] n0 h0 O0 G1 w_EMPTY GF o0 b0_ kb_ c_ g_o0 hob E0 Fh Fz Fv Fc Vb) hZ (ow hw 100 rfl) (ow hw 5 rfl) (by decide) (by decide)) q15a q15c (g := (mkF m 9 #[cr o0, cu] [(.ref o0)])) rfl (by rw [hml]; rfl) (Steps.refl _) (argsL := []) (rest := []) (lenOf pdx_2 rfl) rfl (own_w rfl) (hb hby d14_9) (fun _ _ => ⟨rfl, e0, (by decide : 0 + 0 ≤ _), (by decide : 0 + 0 ≤ _)⟩)
 dsimp only [Pt.U, Pt.locs, Pt.cells, Pt.slots] at X15 l15 y15 z15 st15 hQ15
 subst l15 y15 z15
 obtain ⟨r15, rfl, N15q, K15c⟩ := hQ15
 have N15 := Fr.app N0 N15q
 refine Ends.go (fun _ k => st15.trans k) ?_
 obtain ⟨h15, e15⟩ : ∃ z, T15.heap = z := ⟨_, rfl⟩
 rw [e15] at K15c
 have K15 := K0.trans K15c (allS (mi 0 rfl) all0)
 refine wdu X15 hx hby d14_12 rfl ?_
 refine wstN X15 hx hby d14_13 (l' := #[cr o0, ci r15]) rfl ?_
 refine wilN X15 hx hby d14_14 rfl ?_
 refine wbp X15 hx hby d14_15 ?_
 refine .go (fun _ => XS.iushr X15.here hx rfl (hb hby d14_17) rfl) ?_
 refine .go (fun _ => XS.ixor X15.here hx rfl (hb hby d14_18) rfl) ?_
 refine Ends.ret X15 hx hns (t := .int) hrt rfl (Or.inl ⟨rfl, by simp, _, rfl⟩) (hb hby d14_19) (by decide) (by decide) ?_
 rw [e15]
 exact ⟨_, rfl, N15, K15⟩
theorem d60_0 : decode B42_ 0 = .ok (.aload_n 0, 1) := by decide +kernel
theorem d60_1 : decode B42_ 1 = .ok (.getfield 13, 3) := by decide +kernel
theorem d60_4 : decode B42_ 4 = .ok (.areturn, 1) := by decide +kernel
theorem pn60 : plainName "com/example/ratatoskr/ratatoskr/JsonObject" = true := by first | (simp [plainName, overriddenIn]; done) | decide +kernel
theorem ef60_r (m : MethodId) (x0 : Addr) : entryFrame m #[(.ref x0)] 1 = mkF m 0 #[.val (.ref x0)] [] := by first | (simp [entryFrame, mkF, argsToLocals, Value.category]; done) | rfl
theorem rx60_19 (l : Launch) (Z : State) (a0 : Array Value) (hw : HW a0 Z) (ws : List Jvm.Cond) (n0 : Nat) (h0 : Heap) (O0 : Old Z n0 h0)  (ob_ : Addr) (vo_ : Addr) (Pa0 : f3_ Z h0 ob_ (.ref vo_)) :
  Meets1 l ym6 B42_ 1 (some (.array (.object cJV))) ws (mkR 0 0 0 0) #[(.ref ob_)] Z h0 (fun v h L => v = some (.ref vo_) ∧ Fr n0 L ∧ Keep h0 h []) := by
 refine own_start n0 (plainFor_of_name pn60) (fun m => ef60_r m ob_) ?_
 intro p e s m below meth c s₁ hns hrt hZ hx hby hml hown hnm X0 e0 N0
 have K0 := Keep.refl h0 []
 refine walN X0 hx hby d60_0 rfl rfl ?_
 refine wgf X0 hx hZ hown hw 373 rfl e0 Pa0 hby d60_1 ?_
 intro T20 X20 e20
 refine Ends.ret X20 hx hns (t := (.array (.object cJV))) hrt rfl (Or.inr (Or.inr (Or.inr (Or.inr ⟨rfl, rfl, rfl⟩)))) (hb hby d60_4) (by decide) (by decide) ?_
 rw [e20]
 exact ⟨rfl, N0, K0⟩

theorem d61_0 : decode B41_ 0 = .ok (.aload_n 0, 1) := by decide +kernel
theorem d61_1 : decode B41_ 1 = .ok (.getfield 7, 3) := by decide +kernel
theorem d61_4 : decode B41_ 4 = .ok (.areturn, 1) := by decide +kernel
theorem pn61 : plainName "com/example/ratatoskr/ratatoskr/JsonObject" = true := by first | (simp [plainName, overriddenIn]; done) | decide +kernel
theorem pdx_3 : parseMethodDescriptor "()[Lcom/example/ratatoskr/ratatoskr/JsonValue;" = some ⟨[], some (.array (.object "com/example/ratatoskr/ratatoskr/JsonValue"))⟩ := by decide +kernel
theorem ef61_r (m : MethodId) (x0 : Addr) : entryFrame m #[(.ref x0)] 1 = mkF m 0 #[.val (.ref x0)] [] := by first | (simp [entryFrame, mkF, argsToLocals, Value.category]; done) | rfl
theorem rx61_22 (l : Launch) (Z : State) (a0 : Array Value) (hw : HW a0 Z) (ws : List Jvm.Cond) (n0 : Nat) (h0 : Heap) (O0 : Old Z n0 h0)  (ob_ : Addr) (nm_ : Addr) (Pa0 : f4_ Z h0 ob_ (.ref nm_)) :
  Meets1 l ym7 B41_ 1 (some (.object cNA)) ws (mkR 0 0 0 0) #[(.ref ob_)] Z h0 (fun v h L => v = some (.ref nm_) ∧ Fr n0 L ∧ Keep h0 h []) := by
 refine own_start n0 (plainFor_of_name pn61) (fun m => ef61_r m ob_) ?_
 intro p e s m below meth c s₁ hns hrt hZ hx hby hml hown hnm X0 e0 N0
 have K0 := Keep.refl h0 []
 refine walN X0 hx hby d61_0 rfl rfl ?_
 refine wgf X0 hx hZ hown hw 371 rfl e0 Pa0 hby d61_1 ?_
 intro T23 X23 e23
 refine Ends.ret X23 hx hns (t := (.object cNA)) hrt rfl (Or.inr (Or.inr (Or.inr (Or.inr ⟨rfl, rfl, rfl⟩)))) (hb hby d61_4) (by decide) (by decide) ?_
 rw [e23]
 exact ⟨rfl, N0, K0⟩

theorem d54_0 : decode B57_ 0 = .ok (.aconst_null, 1) := by decide +kernel
theorem d54_1 : decode B57_ 1 = .ok (.astore_n 3, 1) := by decide +kernel
theorem d54_2 : decode B57_ 2 = .ok (.aload_n 1, 1) := by decide +kernel
theorem d54_3 : decode B57_ 3 = .ok (.instanceof 25, 3) := by decide +kernel
theorem d54_6 : decode B57_ 6 = .ok (.ifCond .eq 24, 3) := by decide +kernel
theorem d54_9 : decode B57_ 9 = .ok (.aload_n 1, 1) := by decide +kernel
theorem d54_10 : decode B57_ 10 = .ok (.checkcast 25, 3) := by decide +kernel
theorem d54_13 : decode B57_ 13 = .ok (.astore 4, 2) := by decide +kernel
theorem d54_15 : decode B57_ 15 = .ok (.aload 4, 2) := by decide +kernel
theorem d54_17 : decode B57_ 17 = .ok (.invokevirtual 27, 3) := by decide +kernel
theorem d54_20 : decode B57_ 20 = .ok (.astore_n 2, 1) := by decide +kernel
theorem d54_21 : decode B57_ 21 = .ok (.aload 4, 2) := by decide +kernel
theorem d54_23 : decode B57_ 23 = .ok (.invokevirtual 31, 3) := by decide +kernel
theorem d54_26 : decode B57_ 26 = .ok (.astore_n 3, 1) := by decide +kernel
theorem d54_27 : decode B57_ 27 = .ok (.goto 11, 3) := by decide +kernel
theorem d54_38 : decode B57_ 38 = .ok (.aload_n 0, 1) := by decide +kernel
theorem d54_39 : decode B57_ 39 = .ok (.getfield 40, 3) := by decide +kernel
theorem d54_42 : decode B57_ 42 = .ok (.ifCond .le 64, 3) := by decide +kernel
theorem d54_106 : decode B57_ 106 = .ok (.aload_n 0, 1) := by decide +kernel
theorem d54_107 : decode B57_ 107 = .ok (.aload_n 2, 1) := by decide +kernel
theorem d54_108 : decode B57_ 108 = .ok (.putfield 47, 3) := by decide +kernel
theorem d54_111 : decode B57_ 111 = .ok (.aload_n 0, 1) := by decide +kernel
theorem d54_112 : decode B57_ 112 = .ok (.aload_n 3, 1) := by decide +kernel
theorem d54_113 : decode B57_ 113 = .ok (.putfield 49, 3) := by decide +kernel
theorem d54_116 : decode B57_ 116 = .ok (.aload_n 0, 1) := by decide +kernel
theorem d54_117 : decode B57_ 117 = .ok (.iconst 0, 1) := by decide +kernel
theorem d54_118 : decode B57_ 118 = .ok (.putfield 53, 3) := by decide +kernel
theorem d54_121 : decode B57_ 121 = .ok (.aload_n 0, 1) := by decide +kernel
theorem d54_122 : decode B57_ 122 = .ok (.dup, 1) := by decide +kernel
theorem d54_123 : decode B57_ 123 = .ok (.getfield 40, 3) := by decide +kernel
theorem d54_126 : decode B57_ 126 = .ok (.iconst 1, 1) := by decide +kernel
theorem d54_127 : decode B57_ 127 = .ok (.iadd, 1) := by decide +kernel
theorem d54_128 : decode B57_ 128 = .ok (.putfield 40, 3) := by decide +kernel
theorem d54_131 : decode B57_ 131 = .ok (.return_, 1) := by decide +kernel
theorem pn54 : plainName "com/example/ratatoskr/ratatoskr/Walk" = true := by first | (simp [plainName, overriddenIn]; done) | decide +kernel
theorem pdx_4 : parseMethodDescriptor "()Lcom/example/ratatoskr/ratatoskr/Names;" = some ⟨[], some (.object "com/example/ratatoskr/ratatoskr/Names")⟩ := by decide +kernel
theorem ef54_rr (m : MethodId) (x0 : Addr) (x1 : Addr) : entryFrame m #[(.ref x0), (.ref x1)] 5 = mkF m 0 #[.val (.ref x0), .val (.ref x1), .unset, .unset, .unset] [] := by first | (simp [entryFrame, mkF, argsToLocals, Value.category]; done) | rfl
theorem rx54_16 (l : Launch) (Z : State) (a0 : Array Value) (hw : HW a0 Z) (ws : List Jvm.Cond) (n0 : Nat) (h0 : Heap) (O0 : Old Z n0 h0)  (wk_ : Addr) (ob_ : Addr) (vo_ : Addr) (nm_ : Addr) (ov_ : Addr) (on_ : Addr) (op_ : Addr) (Pa0 : Exa Z h0 ob_ cJO) (Pa1 : f3_ Z h0 ob_ (.ref vo_)) (Pa2 : f4_ Z h0 ob_ (.ref nm_)) (Pa3 : f5_ Z h0 wk_ (.int 0)) (Pa4 : Exa Z h0 wk_ cWK) (Pa5 : f6_ Z h0 wk_ .null) (Pa6 : f7_ Z h0 wk_ .null) (Pa7 : f8_ Z h0 wk_ (.int 0)) (Pa8 : f9_ Z h0 wk_ (.ref ov_)) (Pa9 : f10_ Z h0 wk_ (.ref on_)) (Pa10 : f11_ Z h0 wk_ (.ref op_)) (g_wk_ : n0 ≤ wk_) :
  Meets1 l ym8 B57_ 5 none ws (mkR 1 0 0 12) #[(.ref wk_), (.ref ob_)] Z h0 (fun v h L => v = none ∧ Fr n0 L ∧ Keep h0 h [wk_] ∧ f5_ Z h wk_ (.int 1) ∧ f6_ Z h wk_ (.ref vo_) ∧ f7_ Z h wk_ (.ref nm_) ∧ f8_ Z h wk_ (.int 0) ∧ f9_ Z h wk_ (.ref ov_) ∧ f10_ Z h wk_ (.ref on_) ∧ f11_ Z h wk_ (.ref op_)) := by
 refine own_start n0 (plainFor_of_name pn54) (fun m => ef54_rr m wk_ ob_) ?_
 intro p e s m below meth c s₁ hns hrt hZ hx hby hml hown hnm X0 e0 N0
 have K0 := Keep.refl h0 [wk_]
 refine wnu X0 hx hby d54_0 ?_
 refine wasN X0 hx hby d54_1 (l' := #[cr wk_, cr ob_, cu, .val .null, cu]) rfl rfl ?_
 refine walN X0 hx hby d54_2 rfl rfl ?_
 obtain ⟨T17, X17, e17, st17⟩ := instY X0 hx hZ hown (ow hw 419 rfl) e0 (Ins.self Pa0) (g := (mkF m 3 #[cr wk_, cr ob_, cu, .val .null, cu] [(.ref ob_)])) rfl rfl (hb hby d54_3)
 refine Ends.go st17 ?_
 refine win X17 hx hby d54_6 ((if0 _ _).trans (feq (by decide : ¬ ((1 : Int32) = (0 : Int32)))).1) ?_
 refine walN X17 hx hby d54_9 rfl rfl ?_
 obtain ⟨T18, X18, e18, st18⟩ := castY X17 hx hZ hown (ow hw 419 rfl) e17 (Ins.self Pa0) (g := (mkF m 10 #[cr wk_, cr ob_, cu, .val .null, cu] [(.ref ob_)])) rfl rfl (hb hby d54_10)
 refine Ends.go st18 ?_
 refine was X18 hx hby d54_13 (l' := #[cr wk_, cr ob_, cu, .val .null, cr ob_]) rfl rfl ?_
 refine wal X18 hx hby d54_15 rfl rfl ?_
 refine wvb X18 hx hZ hown hw hml rfl hby d54_17 458 rfl 459 rfl 461 rfl 460 rfl (by decide) e18 Pa0 (rx60_19 l Z a0 hw [] n0 h0 O0  ob_ vo_ Pa1) 462 rfl 31 rfl (by decide) (by decide) [] [] pdx_3 rfl rfl rfl (by decide) (by decide) rfl ?_
 intro _ T21 _ X21 hQ21
 obtain ⟨rfl, N21q, K21c⟩ := hQ21
 have N21 := Fr.app N0 N21q
 obtain ⟨h21, e21⟩ : ∃ z, T21.heap = z := ⟨_, rfl⟩
 rw [e21] at K21c
 have K21 := K0.trans K21c all0
 have O21 := O0.keep K21c all0
 refine wasN X21 hx hby d54_20 (l' := #[cr wk_, cr ob_, cr vo_, .val .null, cr ob_]) rfl rfl ?_
 refine wal X21 hx hby d54_21 rfl rfl ?_
 refine wvb X21 hx hZ hown hw hml rfl hby d54_23 463 rfl 464 rfl 466 rfl 465 rfl (by decide) e21 (Pa0.keep K21c) (rx61_22 l Z a0 hw [] n0 h21 O21  ob_ nm_ (Pa2.keep K21c nin0)) 467 rfl 31 rfl (by decide) (by decide) [] [] pdx_4 rfl rfl rfl (by decide) (by decide) rfl ?_
 intro _ T24 _ X24 hQ24
 obtain ⟨rfl, N24q, K24c⟩ := hQ24
 have N24 := Fr.app N21 N24q
 obtain ⟨h24, e24⟩ : ∃ z, T24.heap = z := ⟨_, rfl⟩
 rw [e24] at K24c
 have K24 := K21.trans K24c all0
 refine wasN X24 hx hby d54_26 (l' := #[cr wk_, cr ob_, cr vo_, cr nm_, cr ob_]) rfl rfl ?_
 refine wgo (pc := 27) (pc' := 38) X24 hx hby d54_27 ?_
 refine walN X24 hx hby d54_38 rfl rfl ?_
 refine wgf X24 hx hZ hown hw 429 rfl e24 ((Pa3.keep K21c nin0).keep K24c nin0) hby d54_39 ?_
 intro T25 X25 e25
 refine wiy (pc := 42) (pc' := 106) X25 hx hby d54_42 ((if0 _ _).trans (flt (by decide : ¬ ((0 : Int32) < (0 : Int32)))).2.2.2) ?_
 refine walN X25 hx hby d54_106 rfl rfl ?_
 refine walN X25 hx hby d54_107 rfl rfl ?_
 refine wpf X25 hx hZ hown hw 431 rfl e25 ((Pa5.keep K21c nin0).keep K24c nin0) ((Pa4.keep K21c).keep K24c) 432 rfl 394 rfl (ty := (.array (.object cJV))) (by decide) rfl rfl hby d54_108 ?_
 intro T26 h26 X26 e26 W26
 have Fw26 := ((Pa5.keep K21c nin0).keep K24c nin0).same W26
 have K26 := K24.wr W26 (mi 0 rfl)
 have N26 := Fr.snoc X26 N24 g_wk_
 refine walN X26 hx hby d54_111 rfl rfl ?_
 refine walN X26 hx hby d54_112 rfl rfl ?_
 have c27 := ((Pa6.keep K21c nin0).keep K24c nin0).other W26 (sll hw 434 rfl 432 rfl)
 refine wpf X26 hx hZ hown hw 433 rfl e26 c27 (((Pa4.keep K21c).keep K24c).wr W26) 434 rfl 394 rfl (ty := (.object cNA)) (by decide) rfl rfl hby d54_113 ?_
 intro T28 h28 X28 e28 W28
 have Fw28 := c27.same W28
 have K28 := K26.wr W28 (mi 0 rfl)
 have N28 := Fr.snoc X28 N26 g_wk_
 refine walN X28 hx hby d54_116 rfl rfl ?_
 refine wic X28 hx hby d54_117 ?_
 have c29 := (((Pa7.keep K21c nin0).keep K24c nin0).other W26 (sll hw 436 rfl 432 rfl)).other W28 (sll hw 436 rfl 434 rfl)
 refine wpf X28 hx hZ hown hw 435 rfl e28 c29 ((((Pa4.keep K21c).keep K24c).wr W26).wr W28) 436 rfl 394 rfl (ty := .int) (by decide) rfl rfl hby d54_118 ?_
 intro T30 h30 X30 e30 W30
 have Fw30 := c29.same W30
 have K30 := K28.wr W30 (mi 0 rfl)
 have N30 := Fr.snoc X30 N28 g_wk_
 refine walN X30 hx hby d54_121 rfl rfl ?_
 refine wdu X30 hx hby d54_122 rfl ?_
 show Ends _ _ _ _ T30 (mkF m 123 #[cr wk_, cr ob_, cr vo_, cr nm_, cr ob_] [(.ref wk_), (.ref wk_)]) _ _ _
 have c31 := ((((Pa3.keep K21c nin0).keep K24c nin0).other W26 (sll hw 430 rfl 432 rfl)).other W28 (sll hw 430 rfl 434 rfl)).other W30 (sll hw 430 rfl 436 rfl)
 refine wgf X30 hx hZ hown hw 429 rfl e30 c31 hby d54_123 ?_
 intro T32 X32 e32
 refine wic X32 hx hby d54_126 ?_
 refine wia X32 hx hby d54_127 ?_
 refine wpf X32 hx hZ hown hw 429 rfl e32 c31 (((((Pa4.keep K21c).keep K24c).wr W26).wr W28).wr W30) 430 rfl 394 rfl (ty := .int) (by decide) rfl rfl hby d54_128 ?_
 intro T33 h33 X33 e33 W33
 have Fw33 := c31.same W33
 have K33 := K30.wr W33 (mi 0 rfl)
 have N33 := Fr.snoc X33 N30 g_wk_
 refine Ends.retV X33 hx hns hrt (hb hby d54_131) (by decide) (by decide) ?_
 rw [e33]
 have c34 := (((((Pa8.keep K21c nin0).keep K24c nin0).other W26 (sll hw 403 rfl 432 rfl)).other W28 (sll hw 403 rfl 434 rfl)).other W30 (sll hw 403 rfl 436 rfl)).other W33 (sll hw 403 rfl 430 rfl)
 have c35 := (((((Pa9.keep K21c nin0).keep K24c nin0).other W26 (sll hw 407 rfl 432 rfl)).other W28 (sll hw 407 rfl 434 rfl)).other W30 (sll hw 407 rfl 436 rfl)).other W33 (sll hw 407 rfl 430 rfl)
 have c36 := (((((Pa10.keep K21c nin0).keep K24c nin0).other W26 (sll hw 410 rfl 432 rfl)).other W28 (sll hw 410 rfl 434 rfl)).other W30 (sll hw 410 rfl 436 rfl)).other W33 (sll hw 410 rfl 430 rfl)
 have c37 := ((Fw26.other W28 (sll hw 432 rfl 434 rfl)).other W30 (sll hw 432 rfl 436 rfl)).other W33 (sll hw 432 rfl 430 rfl)
 have c38 := (Fw28.other W30 (sll hw 434 rfl 436 rfl)).other W33 (sll hw 434 rfl 430 rfl)
 have c39 := Fw30.other W33 (sll hw 436 rfl 430 rfl)
 exact ⟨rfl, N33, K33, Fw33, c37, c38, c39, c34, c35, c36⟩

theorem d59_0 : decode B61_ 0 = .ok (.aload_n 0, 1) := by decide +kernel
theorem d59_1 : decode B61_ 1 = .ok (.getfield 47, 3) := by decide +kernel
theorem d59_4 : decode B61_ 4 = .ok (.aload_n 0, 1) := by decide +kernel
theorem d59_5 : decode B61_ 5 = .ok (.dup, 1) := by decide +kernel
theorem d59_6 : decode B61_ 6 = .ok (.getfield 53, 3) := by decide +kernel
theorem d59_9 : decode B61_ 9 = .ok (.dup_x1, 1) := by decide +kernel
theorem d59_10 : decode B61_ 10 = .ok (.iconst 1, 1) := by decide +kernel
theorem d59_11 : decode B61_ 11 = .ok (.iadd, 1) := by decide +kernel
theorem d59_12 : decode B61_ 12 = .ok (.putfield 53, 3) := by decide +kernel
theorem d59_15 : decode B61_ 15 = .ok (.aaload, 1) := by decide +kernel
theorem d59_16 : decode B61_ 16 = .ok (.areturn, 1) := by decide +kernel
theorem pn59 : plainName "com/example/ratatoskr/ratatoskr/Walk" = true := by first | (simp [plainName, overriddenIn]; done) | decide +kernel
theorem pdx_5 : parseMethodDescriptor "(Lcom/example/ratatoskr/ratatoskr/JsonValue;)V" = some ⟨[(.object "com/example/ratatoskr/ratatoskr/JsonValue")], none⟩ := by decide +kernel
theorem ef59_r (m : MethodId) (x0 : Addr) : entryFrame m #[(.ref x0)] 1 = mkF m 0 #[.val (.ref x0)] [] := by first | (simp [entryFrame, mkF, argsToLocals, Value.category]; done) | rfl
theorem rx59_41 (l : Launch) (Z : State) (a0 : Array Value) (hw : HW a0 Z) (ws : List Jvm.Cond) (n0 : Nat) (h0 : Heap) (O0 : Old Z n0 h0) (G1 : Int32) (w_EMPTY : Addr) (GF : GlobF Z G1 w_EMPTY) (wk_ : Addr) (vo_ : Addr) (kvo_ : ClassId) (nm_ : Addr) (ov_ : Addr) (on_ : Addr) (op_ : Addr) (Pa0 : f6_ Z h0 wk_ (.ref vo_)) (Pa1 : f8_ Z h0 wk_ (.int 0)) (Pa2 : Exa Z h0 wk_ cWK) (Pa3 : Arv Z h0 vo_ kvo_ (.object cJV) (1 : Int32) [(.ref w_EMPTY)] .null) (Pa4 : f5_ Z h0 wk_ (.int 1)) (Pa5 : f7_ Z h0 wk_ (.ref nm_)) (Pa6 : f9_ Z h0 wk_ (.ref ov_)) (Pa7 : f10_ Z h0 wk_ (.ref on_)) (Pa8 : f11_ Z h0 wk_ (.ref op_)) (ne_vo__wk_ : vo_ ≠ wk_) (g_wk_ : n0 ≤ wk_) :
  Meets1 l ym9 B61_ 1 (some (.object cJV)) ws (mkR 0 0 0 0) #[(.ref wk_)] Z h0 (fun v h L => v = some (.ref w_EMPTY) ∧ Fr n0 L ∧ Keep h0 h [wk_] ∧ f6_ Z h wk_ (.ref vo_) ∧ f8_ Z h wk_ (.int 1) ∧ f5_ Z h wk_ (.int 1) ∧ f7_ Z h wk_ (.ref nm_) ∧ f9_ Z h wk_ (.ref ov_) ∧ f10_ Z h wk_ (.ref on_) ∧ f11_ Z h wk_ (.ref op_)) := by
 refine own_start n0 (plainFor_of_name pn59) (fun m => ef59_r m wk_) ?_
 intro p e s m below meth c s₁ hns hrt hZ hx hby hml hown hnm X0 e0 N0
 obtain ⟨SCS, P5, S_EMPTY, E_EMPTY⟩ := id GF
 have K0 := Keep.refl h0 [wk_]
 show Ends _ _ _ _ s₁ (mkF m 0 #[cr wk_] []) _ _ _
 refine walN X0 hx hby d59_0 rfl rfl ?_
 refine wgf X0 hx hZ hown hw 431 rfl e0 Pa0 hby d59_1 ?_
 intro T42 X42 e42
 refine walN X42 hx hby d59_4 rfl rfl ?_
 refine wdu X42 hx hby d59_5 rfl ?_
 refine wgf X42 hx hZ hown hw 435 rfl e42 Pa1 hby d59_6 ?_
 intro T43 X43 e43
 refine wdx X43 hx hby d59_9 rfl rfl ?_
 refine wic X43 hx hby d59_10 ?_
 refine wia X43 hx hby d59_11 ?_
 refine wpf X43 hx hZ hown hw 435 rfl e43 Pa1 Pa2 436 rfl 394 rfl (ty := .int) (by decide) rfl rfl hby d59_12 ?_
 intro T44 h44 X44 e44 W44
 have Fw44 := Pa1.same W44
 have K44 := K0.wr W44 (mi 0 rfl)
 have N44 := Fr.snoc X44 N0 g_wk_
 obtain ⟨cl45, Ar45, q45, S45, M45, H45, G45⟩ := id (Pa3.other W44 ne_vo__wk_)
 have hin45 := inb_of (j := (0 : Int32)) S45 ⟨by decide, by decide⟩
 refine Ends.go (X44.aaload hx (j := (0 : Int32)) (v := (.ref w_EMPTY)) (by rw [e44]; exact Ar45.1) (State.isArrayOf_alike hZ.alike Ar45.2.1) rfl Ar45.2.2 hin45 (H45.at hin45 rfl) (g := (mkF m 15 #[cr wk_] [(.int 0), (.ref vo_)])) rfl rfl (hb hby d59_15)) ?_
 refine Ends.ret X44 hx hns (t := (.object cJV)) hrt rfl (Or.inr (Or.inr (Or.inr (Or.inr ⟨rfl, rfl, rfl⟩)))) (hb hby d59_16) (by decide) (by decide) ?_
 rw [e44]
 have c46 := Pa4.other W44 (sll hw 430 rfl 436 rfl)
 have c47 := Pa5.other W44 (sll hw 434 rfl 436 rfl)
 have c48 := Pa6.other W44 (sll hw 403 rfl 436 rfl)
 have c49 := Pa7.other W44 (sll hw 407 rfl 436 rfl)
 have c50 := Pa8.other W44 (sll hw 410 rfl 436 rfl)
 have c51 := Pa0.other W44 (sll hw 432 rfl 436 rfl)
 exact ⟨rfl, N44, K44, c51, Fw44, c46, c47, c48, c49, c50⟩

theorem d53_0 : decode B39_ 0 = .ok (.aload_n 0, 1) := by decide +kernel
theorem d53_1 : decode B39_ 1 = .ok (.aload_n 1, 1) := by decide +kernel
theorem d53_2 : decode B39_ 2 = .ok (.invokevirtual 8, 3) := by decide +kernel
theorem d53_5 : decode B39_ 5 = .ok (.iload_n 2, 1) := by decide +kernel
theorem d53_6 : decode B39_ 6 = .ok (.ifCond .le 8, 3) := by decide +kernel
theorem d53_9 : decode B39_ 9 = .ok (.aload_n 0, 1) := by decide +kernel
theorem d53_10 : decode B39_ 10 = .ok (.invokevirtual 14, 3) := by decide +kernel
theorem d53_13 : decode B39_ 13 = .ok (.pop, 1) := by decide +kernel
theorem d53_14 : decode B39_ 14 = .ok (.iload_n 2, 1) := by decide +kernel
theorem d53_15 : decode B39_ 15 = .ok (.iconst 1, 1) := by decide +kernel
theorem d53_16 : decode B39_ 16 = .ok (.if_icmp .le 8, 3) := by decide +kernel
theorem d53_24 : decode B39_ 24 = .ok (.return_, 1) := by decide +kernel
theorem pn53 : plainName "com/example/ratatoskr/ratatoskr/WalkLeavePinLaw" = true := by first | (simp [plainName, overriddenIn]; done) | decide +kernel
theorem pdx_6 : parseMethodDescriptor "()Lcom/example/ratatoskr/ratatoskr/JsonValue;" = some ⟨[], some (.object "com/example/ratatoskr/ratatoskr/JsonValue")⟩ := by decide +kernel
theorem ef53_rri (m : MethodId) (x0 : Addr) (x1 : Addr) (x2 : Int32) : entryFrame m #[(.ref x0), (.ref x1), (.int x2)] 3 = mkF m 0 #[.val (.ref x0), .val (.ref x1), .val (.int x2)] [] := by first | (simp [entryFrame, mkF, argsToLocals, Value.category]; done) | rfl
theorem rmStep_0no (l : Launch) (Z : State) (a0 : Array Value) (hw : HW a0 Z) (ws : List Jvm.Cond) (n0 : Nat) (h0 : Heap) (O0 : Old Z n0 h0)  (G1 : Int32) (w_EMPTY : Addr) (GF : GlobF Z G1 w_EMPTY) (wk_ ov_ on_ op_ ob_ nm_ vo_ ar_ va_ : Addr) (kvo_ kva_ kov_ kon_ kop_ : ClassId)  (p_ : Int32) (g_wk_ : n0 ≤ wk_) (g_ov_ : n0 ≤ ov_) (g_on_ : n0 ≤ on_) (g_op_ : n0 ≤ op_) (NEs : own_NE wk_ ov_ on_ op_ ob_ nm_ vo_ ar_ va_) (SF : own_SF Z h0 w_EMPTY wk_ ov_ on_ op_ ob_ nm_ vo_ ar_ va_ kvo_ kva_ kov_ kon_ kop_ .null .null (0 : Int32) (0 : Int32) nN16 nN16 nZ16) (hp_ : (p_ = 0 ∨ p_ = 1)) :
  Meets1 l ym10 B39_ 3 none ws (mkR 2 0 0 40) #[(.ref wk_), (.ref ob_), (.int p_)] Z h0 (fun v h L => v = none ∧ Fr n0 L ∧ Keep h0 h [wk_, ov_, on_, op_] ∧ own_SQ Z h wk_ ov_ on_ op_ kov_ kon_ kop_ (.ref vo_) (.ref nm_) p_ (1 : Int32) nN16 nN16 nZ16) := by
 refine own_start n0 (plainFor_of_name pn53) (fun m => ef53_rri m wk_ ob_ p_) ?_
 intro p e s m below meth c s₁ hns hrt hZ hx hby hml hown hnm X0 e0 N0
 have K0 := Keep.refl h0 [wk_, ov_, on_, op_]
 obtain ⟨SCS, P5, S_EMPTY, E_EMPTY⟩ := id GF
 obtain ⟨ne_wk_ov_, ne_wk_on_, ne_wk_op_, ne_wk_ob_, ne_wk_nm_, ne_wk_vo_, ne_wk_ar_, ne_wk_va_, ne_ov_on_, ne_ov_op_, ne_ov_ob_, ne_ov_nm_, ne_ov_vo_, ne_ov_ar_, ne_ov_va_, ne_on_op_, ne_on_ob_, ne_on_nm_, ne_on_vo_, ne_on_ar_, ne_on_va_, ne_op_ob_, ne_op_nm_, ne_op_vo_, ne_op_ar_, ne_op_va_⟩ := NEs
 obtain ⟨PE_wk_, PE_ob_, PE_nm_, PE_vo_, PE_ar_, PE_va_, PF_ob__names, PF_ob__values, PF_ar__elements, PF_wk__values, PF_wk__names, PF_wk__place, PF_wk__depth, PF_wk__outerValues, PF_wk__outerNames, PF_wk__outerPlaces, PV_vo_, PV_va_, PV_ov_, PV_on_, PV_op_, PO_ov_, PO_on_⟩ := SF
 refine walN X0 hx hby d53_0 rfl rfl ?_
 refine walN X0 hx hby d53_1 rfl rfl ?_
 refine wvb X0 hx hZ hown hw hml rfl hby d53_2 414 rfl 415 rfl 417 rfl 416 rfl (by decide) e0 PE_wk_ (rx54_16 l Z a0 hw [] n0 h0 O0  wk_ ob_ vo_ nm_ ov_ on_ op_ PE_ob_ PF_ob__values PF_ob__names PF_wk__depth PE_wk_ PF_wk__values PF_wk__names PF_wk__place PF_wk__outerValues PF_wk__outerNames PF_wk__outerPlaces g_wk_) 418 rfl 395 rfl (by decide) (by decide) [(.ref ob_)] [] pdx_5 rfl rfl rfl (by decide) (by decide) rfl ?_
 intro _ T40 _ X40 hQ40
 obtain ⟨rfl, N40q, K40c, Y40_0, Y40_1, Y40_2, Y40_3, Y40_4, Y40_5, Y40_6⟩ := hQ40
 have N40 := Fr.app N0 N40q
 obtain ⟨h40, e40⟩ : ∃ z, T40.heap = z := ⟨_, rfl⟩
 rw [e40] at K40c Y40_0 Y40_1 Y40_2 Y40_3 Y40_4 Y40_5 Y40_6
 have K40 := K0.trans K40c (allS (mi 0 rfl) all0)
 have O40 := O0.keep K40c (allS g_wk_ all0)
 rcases hp_ with rfl | rfl
 ·show Ends _ _ _ _ T40 (mkF m 5 #[cr wk_, cr ob_, ci 0] []) _ _ _
  refine wilN X40 hx hby d53_5 rfl ?_
  refine wiy (pc := 6) (pc' := 14) X40 hx hby d53_6 ((if0 _ _).trans (flt (by decide : ¬ ((0 : Int32) < (0 : Int32)))).2.2.2) ?_
  refine wilN X40 hx hby d53_14 rfl ?_
  refine wic X40 hx hby d53_15 ?_
  refine wcy (pc := 16) (pc' := 24) X40 hx hby d53_16 (flt (by decide : ¬ ((1 : Int32) < (0 : Int32)))).2.2.2 ?_
  refine Ends.retV X40 hx hns hrt (hb hby d53_24) (by decide) (by decide) ?_
  rw [e40]
  exact ⟨rfl, N40, K40, Y40_1, Y40_2, Y40_3, Y40_0, Y40_4, Y40_5, Y40_6, (PV_ov_.keep K40c (ninS (Ne.symm ne_wk_ov_) nin0)), (PV_on_.keep K40c (ninS (Ne.symm ne_wk_on_) nin0)), (PV_op_.keep K40c (ninS (Ne.symm ne_wk_op_) nin0))⟩
 ·show Ends _ _ _ _ T40 (mkF m 5 #[cr wk_, cr ob_, ci 1] []) _ _ _
  refine wilN X40 hx hby d53_5 rfl ?_
  refine win X40 hx hby d53_6 ((if0 _ _).trans (tlt (by decide : (0 : Int32) < (1 : Int32))).2.2.2) ?_
  refine walN X40 hx hby d53_9 rfl rfl ?_
  refine wvb X40 hx hZ hown hw hml rfl hby d53_10 452 rfl 453 rfl 455 rfl 454 rfl (by decide) e40 (PE_wk_.keep K40c) (rx59_41 l Z a0 hw [] n0 h40 O40 G1 w_EMPTY GF wk_ vo_ kvo_ nm_ ov_ on_ op_ Y40_1 Y40_3 (PE_wk_.keep K40c) (PV_vo_.keep K40c (ninS (Ne.symm ne_wk_vo_) nin0)) Y40_0 Y40_2 Y40_4 Y40_5 Y40_6 (Ne.symm ne_wk_vo_) g_wk_) 456 rfl 395 rfl (by decide) (by decide) [] [] pdx_6 rfl rfl rfl (by decide) (by decide) rfl ?_
  intro _ T52 _ X52 hQ52
  obtain ⟨rfl, N52q, K52c, Y52_0, Y52_1, Y52_2, Y52_3, Y52_4, Y52_5, Y52_6⟩ := hQ52
  have N52 := Fr.app N40 N52q
  obtain ⟨h52, e52⟩ : ∃ z, T52.heap = z := ⟨_, rfl⟩
  rw [e52] at K52c Y52_0 Y52_1 Y52_2 Y52_3 Y52_4 Y52_5 Y52_6
  have K52 := K40.trans K52c (allS (mi 0 rfl) all0)
  refine wpo X52 hx hby d53_13 rfl ?_
  refine wilN X52 hx hby d53_14 rfl ?_
  refine wic X52 hx hby d53_15 ?_
  refine wcy (pc := 16) (pc' := 24) X52 hx hby d53_16 (flt (by decide : ¬ ((1 : Int32) < (1 : Int32)))).2.2.2 ?_
  refine Ends.retV X52 hx hns hrt (hb hby d53_24) (by decide) (by decide) ?_
  rw [e52]
  have c53 := (PV_ov_.keep K40c (ninS (Ne.symm ne_wk_ov_) nin0)).keep K52c (ninS (Ne.symm ne_wk_ov_) nin0)
  have c54 := (PV_on_.keep K40c (ninS (Ne.symm ne_wk_on_) nin0)).keep K52c (ninS (Ne.symm ne_wk_on_) nin0)
  have c55 := (PV_op_.keep K40c (ninS (Ne.symm ne_wk_op_) nin0)).keep K52c (ninS (Ne.symm ne_wk_op_) nin0)
  exact ⟨rfl, N52, K52, Y52_0, Y52_3, Y52_1, Y52_2, Y52_4, Y52_5, Y52_6, c53, c54, c55⟩

theorem d55_0 : decode B63_ 0 = .ok (.aload_n 0, 1) := by decide +kernel
theorem d55_1 : decode B63_ 1 = .ok (.getfield 7, 3) := by decide +kernel
theorem d55_4 : decode B63_ 4 = .ok (.areturn, 1) := by decide +kernel
theorem pn55 : plainName "com/example/ratatoskr/ratatoskr/JsonArray" = true := by first | (simp [plainName, overriddenIn]; done) | decide +kernel
theorem ef55_r (m : MethodId) (x0 : Addr) : entryFrame m #[(.ref x0)] 1 = mkF m 0 #[.val (.ref x0)] [] := by first | (simp [entryFrame, mkF, argsToLocals, Value.category]; done) | rfl
theorem rx55_59 (l : Launch) (Z : State) (a0 : Array Value) (hw : HW a0 Z) (ws : List Jvm.Cond) (n0 : Nat) (h0 : Heap) (O0 : Old Z n0 h0)  (ar_ : Addr) (va_ : Addr) (Pa0 : f12_ Z h0 ar_ (.ref va_)) :
  Meets1 l ym11 B63_ 1 (some (.array (.object cJV))) ws (mkR 0 0 0 0) #[(.ref ar_)] Z h0 (fun v h L => v = some (.ref va_) ∧ Fr n0 L ∧ Keep h0 h []) := by
 refine own_start n0 (plainFor_of_name pn55) (fun m => ef55_r m ar_) ?_
 intro p e s m below meth c s₁ hns hrt hZ hx hby hml hown hnm X0 e0 N0
 have K0 := Keep.refl h0 []
 refine walN X0 hx hby d55_0 rfl rfl ?_
 refine wgf X0 hx hZ hown hw 386 rfl e0 Pa0 hby d55_1 ?_
 intro T60 X60 e60
 refine Ends.ret X60 hx hns (t := (.array (.object cJV))) hrt rfl (Or.inr (Or.inr (Or.inr (Or.inr ⟨rfl, rfl, rfl⟩)))) (hb hby d55_4) (by decide) (by decide) ?_
 rw [e60]
 exact ⟨rfl, N0, K0⟩

theorem d54_30 : decode B57_ 30 = .ok (.aload_n 1, 1) := by decide +kernel
theorem d54_31 : decode B57_ 31 = .ok (.checkcast 35, 3) := by decide +kernel
theorem d54_34 : decode B57_ 34 = .ok (.invokevirtual 37, 3) := by decide +kernel
theorem d54_37 : decode B57_ 37 = .ok (.astore_n 2, 1) := by decide +kernel
theorem rx54_56 (l : Launch) (Z : State) (a0 : Array Value) (hw : HW a0 Z) (ws : List Jvm.Cond) (n0 : Nat) (h0 : Heap) (O0 : Old Z n0 h0)  (wk_ : Addr) (ar_ : Addr) (va_ : Addr) (ov_ : Addr) (on_ : Addr) (op_ : Addr) (Pa0 : Exa Z h0 ar_ cJA) (Pa1 : f12_ Z h0 ar_ (.ref va_)) (Pa2 : f5_ Z h0 wk_ (.int 0)) (Pa3 : Exa Z h0 wk_ cWK) (Pa4 : f6_ Z h0 wk_ .null) (Pa5 : f7_ Z h0 wk_ .null) (Pa6 : f8_ Z h0 wk_ (.int 0)) (Pa7 : f9_ Z h0 wk_ (.ref ov_)) (Pa8 : f10_ Z h0 wk_ (.ref on_)) (Pa9 : f11_ Z h0 wk_ (.ref op_)) (g_wk_ : n0 ≤ wk_) :
  Meets1 l ym8 B57_ 5 none ws (mkR 1 0 0 12) #[(.ref wk_), (.ref ar_)] Z h0 (fun v h L => v = none ∧ Fr n0 L ∧ Keep h0 h [wk_] ∧ f5_ Z h wk_ (.int 1) ∧ f6_ Z h wk_ (.ref va_) ∧ f7_ Z h wk_ .null ∧ f8_ Z h wk_ (.int 0) ∧ f9_ Z h wk_ (.ref ov_) ∧ f10_ Z h wk_ (.ref on_) ∧ f11_ Z h wk_ (.ref op_)) := by
 refine own_start n0 (plainFor_of_name pn54) (fun m => ef54_rr m wk_ ar_) ?_
 intro p e s m below meth c s₁ hns hrt hZ hx hby hml hown hnm X0 e0 N0
 have K0 := Keep.refl h0 [wk_]
 refine wnu X0 hx hby d54_0 ?_
 refine wasN X0 hx hby d54_1 (l' := #[cr wk_, cr ar_, cu, .val .null, cu]) rfl rfl ?_
 refine walN X0 hx hby d54_2 rfl rfl ?_
 obtain ⟨T57, X57, e57, st57⟩ := instNo X0 hx hZ hown (ow hw 419 rfl) e0 Pa0 (own_noinst (ow hw 420 rfl) (ow hw 421 rfl) (ow hw 366 rfl) (by decide) (by decide)) (g := (mkF m 3 #[cr wk_, cr ar_, cu, .val .null, cu] [(.ref ar_)])) rfl rfl (hb hby d54_3)
 refine Ends.go st57 ?_
 refine wiy (pc := 6) (pc' := 30) X57 hx hby d54_6 ((if0 _ _).trans (teq (by decide : (0 : Int32) = (0 : Int32))).1) ?_
 refine walN X57 hx hby d54_30 rfl rfl ?_
 obtain ⟨T58, X58, e58, st58⟩ := castY X57 hx hZ hown (ow hw 422 rfl) e57 (Ins.self Pa0) (g := (mkF m 31 #[cr wk_, cr ar_, cu, .val .null, cu] [(.ref ar_)])) rfl rfl (hb hby d54_31)
 refine Ends.go st58 ?_
 refine wvb X58 hx hZ hown hw hml rfl hby d54_34 424 rfl 425 rfl 427 rfl 426 rfl (by decide) e58 Pa0 (rx55_59 l Z a0 hw [] n0 h0 O0  ar_ va_ Pa1) 428 rfl 1 rfl (by decide) (by decide) [] [] pdx_3 rfl rfl rfl (by decide) (by decide) rfl ?_
 intro _ T61 _ X61 hQ61
 obtain ⟨rfl, N61q, K61c⟩ := hQ61
 have N61 := Fr.app N0 N61q
 obtain ⟨h61, e61⟩ : ∃ z, T61.heap = z := ⟨_, rfl⟩
 rw [e61] at K61c
 have K61 := K0.trans K61c all0
 refine wasN X61 hx hby d54_37 (l' := #[cr wk_, cr ar_, cr va_, .val .null, cu]) rfl rfl ?_
 refine walN X61 hx hby d54_38 rfl rfl ?_
 refine wgf X61 hx hZ hown hw 429 rfl e61 (Pa2.keep K61c nin0) hby d54_39 ?_
 intro T62 X62 e62
 refine wiy (pc := 42) (pc' := 106) X62 hx hby d54_42 ((if0 _ _).trans (flt (by decide : ¬ ((0 : Int32) < (0 : Int32)))).2.2.2) ?_
 refine walN X62 hx hby d54_106 rfl rfl ?_
 refine walN X62 hx hby d54_107 rfl rfl ?_
 refine wpf X62 hx hZ hown hw 431 rfl e62 (Pa4.keep K61c nin0) (Pa3.keep K61c) 432 rfl 394 rfl (ty := (.array (.object cJV))) (by decide) rfl rfl hby d54_108 ?_
 intro T63 h63 X63 e63 W63
 have Fw63 := (Pa4.keep K61c nin0).same W63
 have K63 := K61.wr W63 (mi 0 rfl)
 have N63 := Fr.snoc X63 N61 g_wk_
 refine walN X63 hx hby d54_111 rfl rfl ?_
 refine walN X63 hx hby d54_112 rfl rfl ?_
 have c64 := (Pa5.keep K61c nin0).other W63 (sll hw 434 rfl 432 rfl)
 refine wpf X63 hx hZ hown hw 433 rfl e63 c64 ((Pa3.keep K61c).wr W63) 434 rfl 394 rfl (ty := (.object cNA)) (by decide) rfl rfl hby d54_113 ?_
 intro T65 h65 X65 e65 W65
 have Fw65 := c64.same W65
 have K65 := K63.wr W65 (mi 0 rfl)
 have N65 := Fr.snoc X65 N63 g_wk_
 refine walN X65 hx hby d54_116 rfl rfl ?_
 refine wic X65 hx hby d54_117 ?_
 have c66 := ((Pa6.keep K61c nin0).other W63 (sll hw 436 rfl 432 rfl)).other W65 (sll hw 436 rfl 434 rfl)
 refine wpf X65 hx hZ hown hw 435 rfl e65 c66 (((Pa3.keep K61c).wr W63).wr W65) 436 rfl 394 rfl (ty := .int) (by decide) rfl rfl hby d54_118 ?_
 intro T67 h67 X67 e67 W67
 have Fw67 := c66.same W67
 have K67 := K65.wr W67 (mi 0 rfl)
 have N67 := Fr.snoc X67 N65 g_wk_
 refine walN X67 hx hby d54_121 rfl rfl ?_
 refine wdu X67 hx hby d54_122 rfl ?_
 have c68 := (((Pa2.keep K61c nin0).other W63 (sll hw 430 rfl 432 rfl)).other W65 (sll hw 430 rfl 434 rfl)).other W67 (sll hw 430 rfl 436 rfl)
 refine wgf X67 hx hZ hown hw 429 rfl e67 c68 hby d54_123 ?_
 intro T69 X69 e69
 refine wic X69 hx hby d54_126 ?_
 refine wia X69 hx hby d54_127 ?_
 refine wpf X69 hx hZ hown hw 429 rfl e69 c68 ((((Pa3.keep K61c).wr W63).wr W65).wr W67) 430 rfl 394 rfl (ty := .int) (by decide) rfl rfl hby d54_128 ?_
 intro T70 h70 X70 e70 W70
 have Fw70 := c68.same W70
 have K70 := K67.wr W70 (mi 0 rfl)
 have N70 := Fr.snoc X70 N67 g_wk_
 refine Ends.retV X70 hx hns hrt (hb hby d54_131) (by decide) (by decide) ?_
 rw [e70]
 have c71 := ((((Pa7.keep K61c nin0).other W63 (sll hw 403 rfl 432 rfl)).other W65 (sll hw 403 rfl 434 rfl)).other W67 (sll hw 403 rfl 436 rfl)).other W70 (sll hw 403 rfl 430 rfl)
 have c72 := ((((Pa8.keep K61c nin0).other W63 (sll hw 407 rfl 432 rfl)).other W65 (sll hw 407 rfl 434 rfl)).other W67 (sll hw 407 rfl 436 rfl)).other W70 (sll hw 407 rfl 430 rfl)
 have c73 := ((((Pa9.keep K61c nin0).other W63 (sll hw 410 rfl 432 rfl)).other W65 (sll hw 410 rfl 434 rfl)).other W67 (sll hw 410 rfl 436 rfl)).other W70 (sll hw 410 rfl 430 rfl)
 have c74 := ((Fw63.other W65 (sll hw 432 rfl 434 rfl)).other W67 (sll hw 432 rfl 436 rfl)).other W70 (sll hw 432 rfl 430 rfl)
 have c75 := (Fw65.other W67 (sll hw 434 rfl 436 rfl)).other W70 (sll hw 434 rfl 430 rfl)
 have c76 := Fw67.other W70 (sll hw 436 rfl 430 rfl)
 exact ⟨rfl, N70, K70, Fw70, c74, c75, c76, c71, c72, c73⟩

theorem rx59_78 (l : Launch) (Z : State) (a0 : Array Value) (hw : HW a0 Z) (ws : List Jvm.Cond) (n0 : Nat) (h0 : Heap) (O0 : Old Z n0 h0) (G1 : Int32) (w_EMPTY : Addr) (GF : GlobF Z G1 w_EMPTY) (wk_ : Addr) (va_ : Addr) (kva_ : ClassId) (ob_ : Addr) (ov_ : Addr) (on_ : Addr) (op_ : Addr) (Pa0 : f6_ Z h0 wk_ (.ref va_)) (Pa1 : f8_ Z h0 wk_ (.int 0)) (Pa2 : Exa Z h0 wk_ cWK) (Pa3 : Arv Z h0 va_ kva_ (.object cJV) (2 : Int32) [(.ref w_EMPTY), (.ref ob_)] .null) (Pa4 : f5_ Z h0 wk_ (.int 1)) (Pa5 : f7_ Z h0 wk_ .null) (Pa6 : f9_ Z h0 wk_ (.ref ov_)) (Pa7 : f10_ Z h0 wk_ (.ref on_)) (Pa8 : f11_ Z h0 wk_ (.ref op_)) (ne_va__wk_ : va_ ≠ wk_) (g_wk_ : n0 ≤ wk_) :
  Meets1 l ym9 B61_ 1 (some (.object cJV)) ws (mkR 0 0 0 0) #[(.ref wk_)] Z h0 (fun v h L => v = some (.ref w_EMPTY) ∧ Fr n0 L ∧ Keep h0 h [wk_] ∧ f6_ Z h wk_ (.ref va_) ∧ f8_ Z h wk_ (.int 1) ∧ f5_ Z h wk_ (.int 1) ∧ f7_ Z h wk_ .null ∧ f9_ Z h wk_ (.ref ov_) ∧ f10_ Z h wk_ (.ref on_) ∧ f11_ Z h wk_ (.ref op_)) := by
 refine own_start n0 (plainFor_of_name pn59) (fun m => ef59_r m wk_) ?_
 intro p e s m below meth c s₁ hns hrt hZ hx hby hml hown hnm X0 e0 N0
 obtain ⟨SCS, P5, S_EMPTY, E_EMPTY⟩ := id GF
 have K0 := Keep.refl h0 [wk_]
 show Ends _ _ _ _ s₁ (mkF m 0 #[cr wk_] []) _ _ _
 refine walN X0 hx hby d59_0 rfl rfl ?_
 refine wgf X0 hx hZ hown hw 431 rfl e0 Pa0 hby d59_1 ?_
 intro T79 X79 e79
 refine walN X79 hx hby d59_4 rfl rfl ?_
 refine wdu X79 hx hby d59_5 rfl ?_
 refine wgf X79 hx hZ hown hw 435 rfl e79 Pa1 hby d59_6 ?_
 intro T80 X80 e80
 refine wdx X80 hx hby d59_9 rfl rfl ?_
 refine wic X80 hx hby d59_10 ?_
 refine wia X80 hx hby d59_11 ?_
 refine wpf X80 hx hZ hown hw 435 rfl e80 Pa1 Pa2 436 rfl 394 rfl (ty := .int) (by decide) rfl rfl hby d59_12 ?_
 intro T81 h81 X81 e81 W81
 have Fw81 := Pa1.same W81
 have K81 := K0.wr W81 (mi 0 rfl)
 have N81 := Fr.snoc X81 N0 g_wk_
 obtain ⟨cl82, Ar82, q82, S82, M82, H82, G82⟩ := id (Pa3.other W81 ne_va__wk_)
 have hin82 := inb_of (j := (0 : Int32)) S82 ⟨by decide, by decide⟩
 refine Ends.go (X81.aaload hx (j := (0 : Int32)) (v := (.ref w_EMPTY)) (by rw [e81]; exact Ar82.1) (State.isArrayOf_alike hZ.alike Ar82.2.1) rfl Ar82.2.2 hin82 (H82.at hin82 rfl) (g := (mkF m 15 #[cr wk_] [(.int 0), (.ref va_)])) rfl rfl (hb hby d59_15)) ?_
 refine Ends.ret X81 hx hns (t := (.object cJV)) hrt rfl (Or.inr (Or.inr (Or.inr (Or.inr ⟨rfl, rfl, rfl⟩)))) (hb hby d59_16) (by decide) (by decide) ?_
 rw [e81]
 have c83 := Pa4.other W81 (sll hw 430 rfl 436 rfl)
 have c84 := Pa5.other W81 (sll hw 434 rfl 436 rfl)
 have c85 := Pa6.other W81 (sll hw 403 rfl 436 rfl)
 have c86 := Pa7.other W81 (sll hw 407 rfl 436 rfl)
 have c87 := Pa8.other W81 (sll hw 410 rfl 436 rfl)
 have c88 := Pa0.other W81 (sll hw 432 rfl 436 rfl)
 exact ⟨rfl, N81, K81, c88, Fw81, c83, c84, c85, c86, c87⟩

theorem rx59_94 (l : Launch) (Z : State) (a0 : Array Value) (hw : HW a0 Z) (ws : List Jvm.Cond) (n0 : Nat) (h0 : Heap) (O0 : Old Z n0 h0)  (wk_ : Addr) (va_ : Addr) (kva_ : ClassId) (ob_ : Addr) (ov_ : Addr) (on_ : Addr) (op_ : Addr) (Pa0 : f6_ Z h0 wk_ (.ref va_)) (Pa1 : f8_ Z h0 wk_ (.int 1)) (Pa2 : Exa Z h0 wk_ cWK) (Pa3 : Arv Z h0 va_ kva_ (.object cJV) (2 : Int32) [(.ref w_EMPTY), (.ref ob_)] .null) (Pa4 : f5_ Z h0 wk_ (.int 1)) (Pa5 : f7_ Z h0 wk_ .null) (Pa6 : f9_ Z h0 wk_ (.ref ov_)) (Pa7 : f10_ Z h0 wk_ (.ref on_)) (Pa8 : f11_ Z h0 wk_ (.ref op_)) (ne_va__wk_ : va_ ≠ wk_) (g_wk_ : n0 ≤ wk_) :
  Meets1 l ym9 B61_ 1 (some (.object cJV)) ws (mkR 0 0 0 0) #[(.ref wk_)] Z h0 (fun v h L => v = some (.ref ob_) ∧ Fr n0 L ∧ Keep h0 h [wk_] ∧ f6_ Z h wk_ (.ref va_) ∧ f8_ Z h wk_ (.int 2) ∧ f5_ Z h wk_ (.int 1) ∧ f7_ Z h wk_ .null ∧ f9_ Z h wk_ (.ref ov_) ∧ f10_ Z h wk_ (.ref on_) ∧ f11_ Z h wk_ (.ref op_)) := by
 refine own_start n0 (plainFor_of_name pn59) (fun m => ef59_r m wk_) ?_
 intro p e s m below meth c s₁ hns hrt hZ hx hby hml hown hnm X0 e0 N0
 have K0 := Keep.refl h0 [wk_]
 refine walN X0 hx hby d59_0 rfl rfl ?_
 refine wgf X0 hx hZ hown hw 431 rfl e0 Pa0 hby d59_1 ?_
 intro T95 X95 e95
 refine walN X95 hx hby d59_4 rfl rfl ?_
 refine wdu X95 hx hby d59_5 rfl ?_
 refine wgf X95 hx hZ hown hw 435 rfl e95 Pa1 hby d59_6 ?_
 intro T96 X96 e96
 refine wdx X96 hx hby d59_9 rfl rfl ?_
 refine wic X96 hx hby d59_10 ?_
 refine wia X96 hx hby d59_11 ?_
 refine wpf X96 hx hZ hown hw 435 rfl e96 Pa1 Pa2 436 rfl 394 rfl (ty := .int) (by decide) rfl rfl hby d59_12 ?_
 intro T97 h97 X97 e97 W97
 have Fw97 := Pa1.same W97
 have K97 := K0.wr W97 (mi 0 rfl)
 have N97 := Fr.snoc X97 N0 g_wk_
 obtain ⟨cl98, Ar98, q98, S98, M98, H98, G98⟩ := id (Pa3.other W97 ne_va__wk_)
 have hin98 := inb_of (j := (1 : Int32)) S98 ⟨by decide, by decide⟩
 refine Ends.go (X97.aaload hx (j := (1 : Int32)) (v := (.ref ob_)) (by rw [e97]; exact Ar98.1) (State.isArrayOf_alike hZ.alike Ar98.2.1) rfl Ar98.2.2 hin98 (H98.at hin98 rfl) (g := (mkF m 15 #[cr wk_] [(.int 1), (.ref va_)])) rfl rfl (hb hby d59_15)) ?_
 refine Ends.ret X97 hx hns (t := (.object cJV)) hrt rfl (Or.inr (Or.inr (Or.inr (Or.inr ⟨rfl, rfl, rfl⟩)))) (hb hby d59_16) (by decide) (by decide) ?_
 rw [e97]
 have c99 := Pa4.other W97 (sll hw 430 rfl 436 rfl)
 have c100 := Pa5.other W97 (sll hw 434 rfl 436 rfl)
 have c101 := Pa6.other W97 (sll hw 403 rfl 436 rfl)
 have c102 := Pa7.other W97 (sll hw 407 rfl 436 rfl)
 have c103 := Pa8.other W97 (sll hw 410 rfl 436 rfl)
 have c104 := Pa0.other W97 (sll hw 432 rfl 436 rfl)
 exact ⟨rfl, N97, K97, c104, Fw97, c99, c100, c101, c102, c103⟩

theorem d53_19 : decode B39_ 19 = .ok (.aload_n 0, 1) := by decide +kernel
theorem d53_20 : decode B39_ 20 = .ok (.invokevirtual 14, 3) := by decide +kernel
theorem d53_23 : decode B39_ 23 = .ok (.pop, 1) := by decide +kernel
theorem rmStep_0na (l : Launch) (Z : State) (a0 : Array Value) (hw : HW a0 Z) (ws : List Jvm.Cond) (n0 : Nat) (h0 : Heap) (O0 : Old Z n0 h0)  (G1 : Int32) (w_EMPTY : Addr) (GF : GlobF Z G1 w_EMPTY) (wk_ ov_ on_ op_ ob_ nm_ vo_ ar_ va_ : Addr) (kvo_ kva_ kov_ kon_ kop_ : ClassId)  (p_ : Int32) (g_wk_ : n0 ≤ wk_) (g_ov_ : n0 ≤ ov_) (g_on_ : n0 ≤ on_) (g_op_ : n0 ≤ op_) (NEs : own_NE wk_ ov_ on_ op_ ob_ nm_ vo_ ar_ va_) (SF : own_SF Z h0 w_EMPTY wk_ ov_ on_ op_ ob_ nm_ vo_ ar_ va_ kvo_ kva_ kov_ kon_ kop_ .null .null (0 : Int32) (0 : Int32) nN16 nN16 nZ16) (hp_ : (p_ = 0 ∨ p_ = 1 ∨ p_ = 2)) :
  Meets1 l ym10 B39_ 3 none ws (mkR 2 0 0 40) #[(.ref wk_), (.ref ar_), (.int p_)] Z h0 (fun v h L => v = none ∧ Fr n0 L ∧ Keep h0 h [wk_, ov_, on_, op_] ∧ own_SQ Z h wk_ ov_ on_ op_ kov_ kon_ kop_ (.ref va_) .null p_ (1 : Int32) nN16 nN16 nZ16) := by
 refine own_start n0 (plainFor_of_name pn53) (fun m => ef53_rri m wk_ ar_ p_) ?_
 intro p e s m below meth c s₁ hns hrt hZ hx hby hml hown hnm X0 e0 N0
 have K0 := Keep.refl h0 [wk_, ov_, on_, op_]
 obtain ⟨SCS, P5, S_EMPTY, E_EMPTY⟩ := id GF
 obtain ⟨ne_wk_ov_, ne_wk_on_, ne_wk_op_, ne_wk_ob_, ne_wk_nm_, ne_wk_vo_, ne_wk_ar_, ne_wk_va_, ne_ov_on_, ne_ov_op_, ne_ov_ob_, ne_ov_nm_, ne_ov_vo_, ne_ov_ar_, ne_ov_va_, ne_on_op_, ne_on_ob_, ne_on_nm_, ne_on_vo_, ne_on_ar_, ne_on_va_, ne_op_ob_, ne_op_nm_, ne_op_vo_, ne_op_ar_, ne_op_va_⟩ := NEs
 obtain ⟨PE_wk_, PE_ob_, PE_nm_, PE_vo_, PE_ar_, PE_va_, PF_ob__names, PF_ob__values, PF_ar__elements, PF_wk__values, PF_wk__names, PF_wk__place, PF_wk__depth, PF_wk__outerValues, PF_wk__outerNames, PF_wk__outerPlaces, PV_vo_, PV_va_, PV_ov_, PV_on_, PV_op_, PO_ov_, PO_on_⟩ := SF
 refine walN X0 hx hby d53_0 rfl rfl ?_
 refine walN X0 hx hby d53_1 rfl rfl ?_
 refine wvb X0 hx hZ hown hw hml rfl hby d53_2 414 rfl 415 rfl 417 rfl 416 rfl (by decide) e0 PE_wk_ (rx54_56 l Z a0 hw [] n0 h0 O0  wk_ ar_ va_ ov_ on_ op_ PE_ar_ PF_ar__elements PF_wk__depth PE_wk_ PF_wk__values PF_wk__names PF_wk__place PF_wk__outerValues PF_wk__outerNames PF_wk__outerPlaces g_wk_) 418 rfl 395 rfl (by decide) (by decide) [(.ref ar_)] [] pdx_5 rfl rfl rfl (by decide) (by decide) rfl ?_
 intro _ T77 _ X77 hQ77
 obtain ⟨rfl, N77q, K77c, Y77_0, Y77_1, Y77_2, Y77_3, Y77_4, Y77_5, Y77_6⟩ := hQ77
 have N77 := Fr.app N0 N77q
 obtain ⟨h77, e77⟩ : ∃ z, T77.heap = z := ⟨_, rfl⟩
 rw [e77] at K77c Y77_0 Y77_1 Y77_2 Y77_3 Y77_4 Y77_5 Y77_6
 have K77 := K0.trans K77c (allS (mi 0 rfl) all0)
 have O77 := O0.keep K77c (allS g_wk_ all0)
 rcases hp_ with rfl | rfl | rfl
 ·show Ends _ _ _ _ T77 (mkF m 5 #[cr wk_, cr ar_, ci 0] []) _ _ _
  refine wilN X77 hx hby d53_5 rfl ?_
  refine wiy (pc := 6) (pc' := 14) X77 hx hby d53_6 ((if0 _ _).trans (flt (by decide : ¬ ((0 : Int32) < (0 : Int32)))).2.2.2) ?_
  refine wilN X77 hx hby d53_14 rfl ?_
  refine wic X77 hx hby d53_15 ?_
  refine wcy (pc := 16) (pc' := 24) X77 hx hby d53_16 (flt (by decide : ¬ ((1 : Int32) < (0 : Int32)))).2.2.2 ?_
  refine Ends.retV X77 hx hns hrt (hb hby d53_24) (by decide) (by decide) ?_
  rw [e77]
  exact ⟨rfl, N77, K77, Y77_1, Y77_2, Y77_3, Y77_0, Y77_4, Y77_5, Y77_6, (PV_ov_.keep K77c (ninS (Ne.symm ne_wk_ov_) nin0)), (PV_on_.keep K77c (ninS (Ne.symm ne_wk_on_) nin0)), (PV_op_.keep K77c (ninS (Ne.symm ne_wk_op_) nin0))⟩
 ·show Ends _ _ _ _ T77 (mkF m 5 #[cr wk_, cr ar_, ci 1] []) _ _ _
  refine wilN X77 hx hby d53_5 rfl ?_
  refine win X77 hx hby d53_6 ((if0 _ _).trans (tlt (by decide : (0 : Int32) < (1 : Int32))).2.2.2) ?_
  refine walN X77 hx hby d53_9 rfl rfl ?_
  refine wvb X77 hx hZ hown hw hml rfl hby d53_10 452 rfl 453 rfl 455 rfl 454 rfl (by decide) e77 (PE_wk_.keep K77c) (rx59_78 l Z a0 hw [] n0 h77 O77 G1 w_EMPTY GF wk_ va_ kva_ ob_ ov_ on_ op_ Y77_1 Y77_3 (PE_wk_.keep K77c) (PV_va_.keep K77c (ninS (Ne.symm ne_wk_va_) nin0)) Y77_0 Y77_2 Y77_4 Y77_5 Y77_6 (Ne.symm ne_wk_va_) g_wk_) 456 rfl 395 rfl (by decide) (by decide) [] [] pdx_6 rfl rfl rfl (by decide) (by decide) rfl ?_
  intro _ T89 _ X89 hQ89
  obtain ⟨rfl, N89q, K89c, Y89_0, Y89_1, Y89_2, Y89_3, Y89_4, Y89_5, Y89_6⟩ := hQ89
  have N89 := Fr.app N77 N89q
  obtain ⟨h89, e89⟩ : ∃ z, T89.heap = z := ⟨_, rfl⟩
  rw [e89] at K89c Y89_0 Y89_1 Y89_2 Y89_3 Y89_4 Y89_5 Y89_6
  have K89 := K77.trans K89c (allS (mi 0 rfl) all0)
  refine wpo X89 hx hby d53_13 rfl ?_
  refine wilN X89 hx hby d53_14 rfl ?_
  refine wic X89 hx hby d53_15 ?_
  refine wcy (pc := 16) (pc' := 24) X89 hx hby d53_16 (flt (by decide : ¬ ((1 : Int32) < (1 : Int32)))).2.2.2 ?_
  refine Ends.retV X89 hx hns hrt (hb hby d53_24) (by decide) (by decide) ?_
  rw [e89]
  have c90 := (PV_ov_.keep K77c (ninS (Ne.symm ne_wk_ov_) nin0)).keep K89c (ninS (Ne.symm ne_wk_ov_) nin0)
  have c91 := (PV_on_.keep K77c (ninS (Ne.symm ne_wk_on_) nin0)).keep K89c (ninS (Ne.symm ne_wk_on_) nin0)
  have c92 := (PV_op_.keep K77c (ninS (Ne.symm ne_wk_op_) nin0)).keep K89c (ninS (Ne.symm ne_wk_op_) nin0)
  exact ⟨rfl, N89, K89, Y89_0, Y89_3, Y89_1, Y89_2, Y89_4, Y89_5, Y89_6, c90, c91, c92⟩
 ·show Ends _ _ _ _ T77 (mkF m 5 #[cr wk_, cr ar_, ci 2] []) _ _ _
  refine wilN X77 hx hby d53_5 rfl ?_
  refine win X77 hx hby d53_6 ((if0 _ _).trans (tlt (by decide : (0 : Int32) < (2 : Int32))).2.2.2) ?_
  refine walN X77 hx hby d53_9 rfl rfl ?_
  refine wvb X77 hx hZ hown hw hml rfl hby d53_10 452 rfl 453 rfl 455 rfl 454 rfl (by decide) e77 (PE_wk_.keep K77c) (rx59_78 l Z a0 hw [] n0 h77 O77 G1 w_EMPTY GF wk_ va_ kva_ ob_ ov_ on_ op_ Y77_1 Y77_3 (PE_wk_.keep K77c) (PV_va_.keep K77c (ninS (Ne.symm ne_wk_va_) nin0)) Y77_0 Y77_2 Y77_4 Y77_5 Y77_6 (Ne.symm ne_wk_va_) g_wk_) 456 rfl 395 rfl (by decide) (by decide) [] [] pdx_6 rfl rfl rfl (by decide) (by decide) rfl ?_
  intro _ T93 _ X93 hQ93
  obtain ⟨rfl, N93q, K93c, Y93_0, Y93_1, Y93_2, Y93_3, Y93_4, Y93_5, Y93_6⟩ := hQ93
  have N93 := Fr.app N77 N93q
  obtain ⟨h93, e93⟩ : ∃ z, T93.heap = z := ⟨_, rfl⟩
  rw [e93] at K93c Y93_0 Y93_1 Y93_2 Y93_3 Y93_4 Y93_5 Y93_6
  have K93 := K77.trans K93c (allS (mi 0 rfl) all0)
  have O93 := O77.keep K93c (allS g_wk_ all0)
  refine wpo X93 hx hby d53_13 rfl ?_
  refine wilN X93 hx hby d53_14 rfl ?_
  refine wic X93 hx hby d53_15 ?_
  refine wcn X93 hx hby d53_16 (tlt (by decide : (1 : Int32) < (2 : Int32))).2.2.2 ?_
  refine walN X93 hx hby d53_19 rfl rfl ?_
  have c105 := (PV_va_.keep K77c (ninS (Ne.symm ne_wk_va_) nin0)).keep K93c (ninS (Ne.symm ne_wk_va_) nin0)
  refine wvb X93 hx hZ hown hw hml rfl hby d53_20 452 rfl 453 rfl 455 rfl 454 rfl (by decide) e93 ((PE_wk_.keep K77c).keep K93c) (rx59_94 l Z a0 hw [] n0 h93 O93  wk_ va_ kva_ ob_ ov_ on_ op_ Y93_0 Y93_1 ((PE_wk_.keep K77c).keep K93c) c105 Y93_2 Y93_3 Y93_4 Y93_5 Y93_6 (Ne.symm ne_wk_va_) g_wk_) 456 rfl 395 rfl (by decide) (by decide) [] [] pdx_6 rfl rfl rfl (by decide) (by decide) rfl ?_
  intro _ T106 _ X106 hQ106
  obtain ⟨rfl, N106q, K106c, Y106_0, Y106_1, Y106_2, Y106_3, Y106_4, Y106_5, Y106_6⟩ := hQ106
  have N106 := Fr.app N93 N106q
  obtain ⟨h106, e106⟩ : ∃ z, T106.heap = z := ⟨_, rfl⟩
  rw [e106] at K106c Y106_0 Y106_1 Y106_2 Y106_3 Y106_4 Y106_5 Y106_6
  have K106 := K93.trans K106c (allS (mi 0 rfl) all0)
  show Ends _ _ _ _ T106 (mkF m 23 #[cr wk_, cr ar_, ci 2] [(.ref ob_)]) _ _ _
  refine wpo X106 hx hby d53_23 rfl ?_
  refine Ends.retV X106 hx hns hrt (hb hby d53_24) (by decide) (by decide) ?_
  rw [e106]
  have c107 := ((PV_ov_.keep K77c (ninS (Ne.symm ne_wk_ov_) nin0)).keep K93c (ninS (Ne.symm ne_wk_ov_) nin0)).keep K106c (ninS (Ne.symm ne_wk_ov_) nin0)
  have c108 := ((PV_on_.keep K77c (ninS (Ne.symm ne_wk_on_) nin0)).keep K93c (ninS (Ne.symm ne_wk_on_) nin0)).keep K106c (ninS (Ne.symm ne_wk_on_) nin0)
  have c109 := ((PV_op_.keep K77c (ninS (Ne.symm ne_wk_op_) nin0)).keep K93c (ninS (Ne.symm ne_wk_op_) nin0)).keep K106c (ninS (Ne.symm ne_wk_op_) nin0)
  exact ⟨rfl, N106, K106, Y106_0, Y106_3, Y106_1, Y106_2, Y106_4, Y106_5, Y106_6, c107, c108, c109⟩

theorem d54_45 : decode B57_ 45 = .ok (.aload_n 0, 1) := by decide +kernel
theorem d54_46 : decode B57_ 46 = .ok (.getfield 40, 3) := by decide +kernel
theorem d54_49 : decode B57_ 49 = .ok (.aload_n 0, 1) := by decide +kernel
theorem d54_50 : decode B57_ 50 = .ok (.getfield 9, 3) := by decide +kernel
theorem d54_53 : decode B57_ 53 = .ok (.arraylength, 1) := by decide +kernel
theorem d54_54 : decode B57_ 54 = .ok (.if_icmp .le 7, 3) := by decide +kernel
theorem d54_61 : decode B57_ 61 = .ok (.aload_n 0, 1) := by decide +kernel
theorem d54_62 : decode B57_ 62 = .ok (.getfield 9, 3) := by decide +kernel
theorem d54_65 : decode B57_ 65 = .ok (.aload_n 0, 1) := by decide +kernel
theorem d54_66 : decode B57_ 66 = .ok (.getfield 40, 3) := by decide +kernel
theorem d54_69 : decode B57_ 69 = .ok (.iconst 1, 1) := by decide +kernel
theorem d54_70 : decode B57_ 70 = .ok (.isub, 1) := by decide +kernel
theorem d54_71 : decode B57_ 71 = .ok (.aload_n 0, 1) := by decide +kernel
theorem d54_72 : decode B57_ 72 = .ok (.getfield 47, 3) := by decide +kernel
theorem d54_75 : decode B57_ 75 = .ok (.aastore, 1) := by decide +kernel
theorem d54_76 : decode B57_ 76 = .ok (.aload_n 0, 1) := by decide +kernel
theorem d54_77 : decode B57_ 77 = .ok (.getfield 17, 3) := by decide +kernel
theorem d54_80 : decode B57_ 80 = .ok (.aload_n 0, 1) := by decide +kernel
theorem d54_81 : decode B57_ 81 = .ok (.getfield 40, 3) := by decide +kernel
theorem d54_84 : decode B57_ 84 = .ok (.iconst 1, 1) := by decide +kernel
theorem d54_85 : decode B57_ 85 = .ok (.isub, 1) := by decide +kernel
theorem d54_86 : decode B57_ 86 = .ok (.aload_n 0, 1) := by decide +kernel
theorem d54_87 : decode B57_ 87 = .ok (.getfield 49, 3) := by decide +kernel
theorem d54_90 : decode B57_ 90 = .ok (.aastore, 1) := by decide +kernel
theorem d54_91 : decode B57_ 91 = .ok (.aload_n 0, 1) := by decide +kernel
theorem d54_92 : decode B57_ 92 = .ok (.getfield 21, 3) := by decide +kernel
theorem d54_95 : decode B57_ 95 = .ok (.aload_n 0, 1) := by decide +kernel
theorem d54_96 : decode B57_ 96 = .ok (.getfield 40, 3) := by decide +kernel
theorem d54_99 : decode B57_ 99 = .ok (.iconst 1, 1) := by decide +kernel
theorem d54_100 : decode B57_ 100 = .ok (.isub, 1) := by decide +kernel
theorem d54_101 : decode B57_ 101 = .ok (.aload_n 0, 1) := by decide +kernel
theorem d54_102 : decode B57_ 102 = .ok (.getfield 53, 3) := by decide +kernel
theorem d54_105 : decode B57_ 105 = .ok (.iastore, 1) := by decide +kernel
theorem rx54_110 (l : Launch) (Z : State) (a0 : Array Value) (hw : HW a0 Z) (ws : List Jvm.Cond) (n0 : Nat) (h0 : Heap) (O0 : Old Z n0 h0)  (wk_ : Addr) (ob_ : Addr) (vo_ : Addr) (nm_ : Addr) (ov_ : Addr) (kov_ : ClassId) (on_ : Addr) (kon_ : ClassId) (op_ : Addr) (z_ : Int32) (kop_ : ClassId) (Pa0 : Exa Z h0 ob_ cJO) (Pa1 : f3_ Z h0 ob_ (.ref vo_)) (Pa2 : f4_ Z h0 ob_ (.ref nm_)) (Pa3 : f5_ Z h0 wk_ (.int 1)) (Pa4 : f9_ Z h0 wk_ (.ref ov_)) (Pa5 : Arv Z h0 ov_ kov_ (.array (.object cJV)) (16 : Int32) nN16 .null) (Pa6 : f6_ Z h0 wk_ (.ref vo_)) (Pa7 : OvrA Z kov_ (.object cJV) cAJ) (Pa8 : Exa Z h0 vo_ cAJ) (Pa9 : f10_ Z h0 wk_ (.ref on_)) (Pa10 : f7_ Z h0 wk_ (.ref nm_)) (Pa11 : Arv Z h0 on_ kon_ (.object cNA) (16 : Int32) nN16 .null) (Pa12 : Ovr Z kon_ cNA) (Pa13 : Exa Z h0 nm_ cNA) (Pa14 : f11_ Z h0 wk_ (.ref op_)) (Pa15 : f8_ Z h0 wk_ (.int z_)) (Pa16 : Arv Z h0 op_ kop_ .int (16 : Int32) nZ16 (.int 0)) (Pa17 : Exa Z h0 wk_ cWK) (ne_wk__ov_ : wk_ ≠ ov_) (ne_on__ov_ : on_ ≠ ov_) (ne_wk__on_ : wk_ ≠ on_) (ne_op__ov_ : op_ ≠ ov_) (ne_op__on_ : op_ ≠ on_) (ne_wk__op_ : wk_ ≠ op_) (g_ov_ : n0 ≤ ov_) (g_on_ : n0 ≤ on_) (g_op_ : n0 ≤ op_) (g_wk_ : n0 ≤ wk_) :
  Meets1 l ym8 B57_ 5 none ws (mkR 1 0 0 12) #[(.ref wk_), (.ref ob_)] Z h0 (fun v h L => v = none ∧ Fr n0 L ∧ Keep h0 h [ov_, on_, op_, wk_] ∧ f5_ Z h wk_ (.int 2) ∧ f9_ Z h wk_ (.ref ov_) ∧ Arv Z h ov_ kov_ (.array (.object cJV)) (16 : Int32) ((.ref vo_) :: nN15) .null ∧ f6_ Z h wk_ (.ref vo_) ∧ f10_ Z h wk_ (.ref on_) ∧ f7_ Z h wk_ (.ref nm_) ∧ Arv Z h on_ kon_ (.object cNA) (16 : Int32) ((.ref nm_) :: nN15) .null ∧ f11_ Z h wk_ (.ref op_) ∧ f8_ Z h wk_ (.int 0) ∧ Arv Z h op_ kop_ .int (16 : Int32) ((.int z_) :: nZ15) (.int 0)) := by
 refine own_start n0 (plainFor_of_name pn54) (fun m => ef54_rr m wk_ ob_) ?_
 intro p e s m below meth c s₁ hns hrt hZ hx hby hml hown hnm X0 e0 N0
 have K0 := Keep.refl h0 [ov_, on_, op_, wk_]
 refine wnu X0 hx hby d54_0 ?_
 refine wasN X0 hx hby d54_1 (l' := #[cr wk_, cr ob_, cu, .val .null, cu]) rfl rfl ?_
 refine walN X0 hx hby d54_2 rfl rfl ?_
 obtain ⟨T111, X111, e111, st111⟩ := instY X0 hx hZ hown (ow hw 419 rfl) e0 (Ins.self Pa0) (g := (mkF m 3 #[cr wk_, cr ob_, cu, .val .null, cu] [(.ref ob_)])) rfl rfl (hb hby d54_3)
 refine Ends.go st111 ?_
 refine win X111 hx hby d54_6 ((if0 _ _).trans (feq (by decide : ¬ ((1 : Int32) = (0 : Int32)))).1) ?_
 refine walN X111 hx hby d54_9 rfl rfl ?_
 obtain ⟨T112, X112, e112, st112⟩ := castY X111 hx hZ hown (ow hw 419 rfl) e111 (Ins.self Pa0) (g := (mkF m 10 #[cr wk_, cr ob_, cu, .val .null, cu] [(.ref ob_)])) rfl rfl (hb hby d54_10)
 refine Ends.go st112 ?_
 refine was X112 hx hby d54_13 (l' := #[cr wk_, cr ob_, cu, .val .null, cr ob_]) rfl rfl ?_
 refine wal X112 hx hby d54_15 rfl rfl ?_
 refine wvb X112 hx hZ hown hw hml rfl hby d54_17 458 rfl 459 rfl 461 rfl 460 rfl (by decide) e112 Pa0 (rx60_19 l Z a0 hw [] n0 h0 O0  ob_ vo_ Pa1) 462 rfl 31 rfl (by decide) (by decide) [] [] pdx_3 rfl rfl rfl (by decide) (by decide) rfl ?_
 intro _ T113 _ X113 hQ113
 obtain ⟨rfl, N113q, K113c⟩ := hQ113
 have N113 := Fr.app N0 N113q
 obtain ⟨h113, e113⟩ : ∃ z, T113.heap = z := ⟨_, rfl⟩
 rw [e113] at K113c
 have K113 := K0.trans K113c all0
 have O113 := O0.keep K113c all0
 refine wasN X113 hx hby d54_20 (l' := #[cr wk_, cr ob_, cr vo_, .val .null, cr ob_]) rfl rfl ?_
 refine wal X113 hx hby d54_21 rfl rfl ?_
 refine wvb X113 hx hZ hown hw hml rfl hby d54_23 463 rfl 464 rfl 466 rfl 465 rfl (by decide) e113 (Pa0.keep K113c) (rx61_22 l Z a0 hw [] n0 h113 O113  ob_ nm_ (Pa2.keep K113c nin0)) 467 rfl 31 rfl (by decide) (by decide) [] [] pdx_4 rfl rfl rfl (by decide) (by decide) rfl ?_
 intro _ T114 _ X114 hQ114
 obtain ⟨rfl, N114q, K114c⟩ := hQ114
 have N114 := Fr.app N113 N114q
 obtain ⟨h114, e114⟩ : ∃ z, T114.heap = z := ⟨_, rfl⟩
 rw [e114] at K114c
 have K114 := K113.trans K114c all0
 refine wasN X114 hx hby d54_26 (l' := #[cr wk_, cr ob_, cr vo_, cr nm_, cr ob_]) rfl rfl ?_
 refine wgo (pc := 27) (pc' := 38) X114 hx hby d54_27 ?_
 refine walN X114 hx hby d54_38 rfl rfl ?_
 refine wgf X114 hx hZ hown hw 429 rfl e114 ((Pa3.keep K113c nin0).keep K114c nin0) hby d54_39 ?_
 intro T115 X115 e115
 refine win X115 hx hby d54_42 ((if0 _ _).trans (tlt (by decide : (0 : Int32) < (1 : Int32))).2.2.2) ?_
 refine walN X115 hx hby d54_45 rfl rfl ?_
 refine wgf X115 hx hZ hown hw 429 rfl e115 ((Pa3.keep K113c nin0).keep K114c nin0) hby d54_46 ?_
 intro T116 X116 e116
 refine walN X116 hx hby d54_49 rfl rfl ?_
 refine wgf X116 hx hZ hown hw 402 rfl e116 ((Pa4.keep K113c nin0).keep K114c nin0) hby d54_50 ?_
 intro T117 X117 e117
 obtain ⟨cl118, Ar118, q118, S118, M118, H118, G118⟩ := id ((Pa5.keep K113c nin0).keep K114c nin0)
 refine Ends.go (X117.arraylength hx (by rw [e117]; exact Ar118.1) (State.isArrayOf_alike hZ.alike Ar118.2.1) (g := (mkF m 53 #[cr wk_, cr ob_, cr vo_, cr nm_, cr ob_] [(.ref ov_), (.int 1)])) rfl rfl (hb hby d54_53)) ?_
 rw [len_of S118 M118]
 refine wcy (pc := 54) (pc' := 61) X117 hx hby d54_54 (flt (by decide : ¬ ((16 : Int32) < (1 : Int32)))).2.2.2 ?_
 refine walN X117 hx hby d54_61 rfl rfl ?_
 refine wgf X117 hx hZ hown hw 402 rfl e117 ((Pa4.keep K113c nin0).keep K114c nin0) hby d54_62 ?_
 intro T119 X119 e119
 refine walN X119 hx hby d54_65 rfl rfl ?_
 refine wgf X119 hx hZ hown hw 429 rfl e119 ((Pa3.keep K113c nin0).keep K114c nin0) hby d54_66 ?_
 intro T120 X120 e120
 refine wic X120 hx hby d54_69 ?_
 show Ends _ _ _ _ T120 (mkF m 70 #[cr wk_, cr ob_, cr vo_, cr nm_, cr ob_] [(.int 1), (.int 1), (.ref ov_)]) _ _ _
 refine wis X120 hx hby d54_70 ?_
 refine walN X120 hx hby d54_71 rfl rfl ?_
 refine wgf X120 hx hZ hown hw 431 rfl e120 ((Pa6.keep K113c nin0).keep K114c nin0) hby d54_72 ?_
 intro T121 X121 e121
 obtain ⟨cl122, Ar122, q122, S122, M122, H122, G122⟩ := id ((Pa5.keep K113c nin0).keep K114c nin0)
 have hin122 := inb_of (j := (0 : Int32)) S122 ⟨by decide, by decide⟩
 obtain ⟨T122, h122, X122, e122, W122, st122⟩ := stR X121 hx hZ e121 Ar122 (j := (0 : Int32)) hin122 rfl (Sto.ofVA Ar122 q122 Pa7 (Ins.self ((Pa8.keep K113c).keep K114c))) (g := (mkF m 75 #[cr wk_, cr ob_, cr vo_, cr nm_, cr ob_] [(.ref vo_), (.int 0), (.ref ov_)])) rfl rfl (hb hby d54_75)
 refine Ends.go st122 ?_
 have V122 : Arv Z h122 ov_ kov_ (.array (.object cJV)) (16 : Int32) ((.ref vo_) :: nN15) .null := Arv.set Ar122 q122 S122 M122 H122 G122 rfl W122 0 rfl (Nat.le_of_ble_eq_true rfl)
 have K122 := K114.wr W122 (mi 0 rfl)
 have N122 := Fr.snoc X122 N114 g_ov_
 refine walN X122 hx hby d54_76 rfl rfl ?_
 have c123 := ((Pa9.keep K113c nin0).keep K114c nin0).other W122 (Or.inl ne_wk__ov_)
 refine wgf X122 hx hZ hown hw 406 rfl e122 c123 hby d54_77 ?_
 intro T124 X124 e124
 refine walN X124 hx hby d54_80 rfl rfl ?_
 have c125 := ((Pa3.keep K113c nin0).keep K114c nin0).other W122 (Or.inl ne_wk__ov_)
 refine wgf X124 hx hZ hown hw 429 rfl e124 c125 hby d54_81 ?_
 intro T126 X126 e126
 refine wic X126 hx hby d54_84 ?_
 refine wis X126 hx hby d54_85 ?_
 refine walN X126 hx hby d54_86 rfl rfl ?_
 have c127 := ((Pa10.keep K113c nin0).keep K114c nin0).other W122 (Or.inl ne_wk__ov_)
 refine wgf X126 hx hZ hown hw 433 rfl e126 c127 hby d54_87 ?_
 intro T128 X128 e128
 have c130 := ((Pa11.keep K113c nin0).keep K114c nin0).other W122 ne_on__ov_
 obtain ⟨cl129, Ar129, q129, S129, M129, H129, G129⟩ := id c130
 have hin129 := inb_of (j := (0 : Int32)) S129 ⟨by decide, by decide⟩
 obtain ⟨T129, h129, X129, e129, W129, st129⟩ := stR X128 hx hZ e128 Ar129 (j := (0 : Int32)) hin129 rfl (Sto.ofV Ar129 q129 Pa12 (Ins.self (((Pa13.keep K113c).keep K114c).wr W122))) (g := (mkF m 90 #[cr wk_, cr ob_, cr vo_, cr nm_, cr ob_] [(.ref nm_), (.int 0), (.ref on_)])) rfl rfl (hb hby d54_90)
 refine Ends.go st129 ?_
 have V129 : Arv Z h129 on_ kon_ (.object cNA) (16 : Int32) ((.ref nm_) :: nN15) .null := Arv.set Ar129 q129 S129 M129 H129 G129 rfl W129 0 rfl (Nat.le_of_ble_eq_true rfl)
 have K129 := K122.wr W129 (mi 1 rfl)
 have N129 := Fr.snoc X129 N122 g_on_
 refine walN X129 hx hby d54_91 rfl rfl ?_
 have c131 := (((Pa14.keep K113c nin0).keep K114c nin0).other W122 (Or.inl ne_wk__ov_)).other W129 (Or.inl ne_wk__on_)
 refine wgf X129 hx hZ hown hw 409 rfl e129 c131 hby d54_92 ?_
 intro T132 X132 e132
 refine walN X132 hx hby d54_95 rfl rfl ?_
 refine wgf X132 hx hZ hown hw 429 rfl e132 (c125.other W129 (Or.inl ne_wk__on_)) hby d54_96 ?_
 intro T133 X133 e133
 refine wic X133 hx hby d54_99 ?_
 refine wis X133 hx hby d54_100 ?_
 refine walN X133 hx hby d54_101 rfl rfl ?_
 have c134 := (((Pa15.keep K113c nin0).keep K114c nin0).other W122 (Or.inl ne_wk__ov_)).other W129 (Or.inl ne_wk__on_)
 refine wgf X133 hx hZ hown hw 435 rfl e133 c134 hby d54_102 ?_
 intro T135 X135 e135
 have c137 := (((Pa16.keep K113c nin0).keep K114c nin0).other W122 ne_op__ov_).other W129 ne_op__on_
 obtain ⟨cl136, Ar136, q136, S136, M136, H136, G136⟩ := id c137
 have hin136 := inb_of (j := (0 : Int32)) S136 ⟨by decide, by decide⟩
 obtain ⟨T136, h136, X136, e136, W136, st136⟩ := stI X135 hx hZ e135 Ar136 (j := (0 : Int32)) hin136 (g := (mkF m 105 #[cr wk_, cr ob_, cr vo_, cr nm_, cr ob_] [(.int z_), (.int 0), (.ref op_)])) rfl rfl (hb hby d54_105)
 refine Ends.go st136 ?_
 have V136 : Arv Z h136 op_ kop_ .int (16 : Int32) ((.int z_) :: nZ15) (.int 0) := Arv.set Ar136 q136 S136 M136 H136 G136 rfl W136 0 rfl (Nat.le_of_ble_eq_true rfl)
 have K136 := K129.wr W136 (mi 2 rfl)
 have N136 := Fr.snoc X136 N129 g_op_
 refine walN X136 hx hby d54_106 rfl rfl ?_
 refine walN X136 hx hby d54_107 rfl rfl ?_
 have c138 := ((((Pa6.keep K113c nin0).keep K114c nin0).other W122 (Or.inl ne_wk__ov_)).other W129 (Or.inl ne_wk__on_)).other W136 (Or.inl ne_wk__op_)
 refine wpf X136 hx hZ hown hw 431 rfl e136 c138 (((((Pa17.keep K113c).keep K114c).wr W122).wr W129).wr W136) 432 rfl 394 rfl (ty := (.array (.object cJV))) (by decide) rfl rfl hby d54_108 ?_
 intro T139 h139 X139 e139 W139
 have Fw139 := c138.same W139
 have K139 := K136.wr W139 (mi 3 rfl)
 have N139 := Fr.snoc X139 N136 g_wk_
 refine walN X139 hx hby d54_111 rfl rfl ?_
 refine walN X139 hx hby d54_112 rfl rfl ?_
 have c140 := (((((Pa17.keep K113c).keep K114c).wr W122).wr W129).wr W136).wr W139
 have c141 := ((c127.other W129 (Or.inl ne_wk__on_)).other W136 (Or.inl ne_wk__op_)).other W139 (sll hw 434 rfl 432 rfl)
 refine wpf X139 hx hZ hown hw 433 rfl e139 c141 c140 434 rfl 394 rfl (ty := (.object cNA)) (by decide) rfl rfl hby d54_113 ?_
 intro T142 h142 X142 e142 W142
 have Fw142 := c141.same W142
 have K142 := K139.wr W142 (mi 3 rfl)
 have N142 := Fr.snoc X142 N139 g_wk_
 refine walN X142 hx hby d54_116 rfl rfl ?_
 refine wic X142 hx hby d54_117 ?_
 show Ends _ _ _ _ T142 (mkF m 118 #[cr wk_, cr ob_, cr vo_, cr nm_, cr ob_] [(.int 0), (.ref wk_)]) _ _ _
 have c143 := ((c134.other W136 (Or.inl ne_wk__op_)).other W139 (sll hw 436 rfl 432 rfl)).other W142 (sll hw 436 rfl 434 rfl)
 refine wpf X142 hx hZ hown hw 435 rfl e142 c143 (c140.wr W142) 436 rfl 394 rfl (ty := .int) (by decide) rfl rfl hby d54_118 ?_
 intro T144 h144 X144 e144 W144
 have Fw144 := c143.same W144
 have K144 := K142.wr W144 (mi 3 rfl)
 have N144 := Fr.snoc X144 N142 g_wk_
 refine walN X144 hx hby d54_121 rfl rfl ?_
 refine wdu X144 hx hby d54_122 rfl ?_
 have c145 := ((((c125.other W129 (Or.inl ne_wk__on_)).other W136 (Or.inl ne_wk__op_)).other W139 (sll hw 430 rfl 432 rfl)).other W142 (sll hw 430 rfl 434 rfl)).other W144 (sll hw 430 rfl 436 rfl)
 refine wgf X144 hx hZ hown hw 429 rfl e144 c145 hby d54_123 ?_
 intro T146 X146 e146
 refine wic X146 hx hby d54_126 ?_
 refine wia X146 hx hby d54_127 ?_
 refine wpf X146 hx hZ hown hw 429 rfl e146 c145 ((c140.wr W142).wr W144) 430 rfl 394 rfl (ty := .int) (by decide) rfl rfl hby d54_128 ?_
 intro T147 h147 X147 e147 W147
 have Fw147 := c145.same W147
 have K147 := K144.wr W147 (mi 3 rfl)
 have N147 := Fr.snoc X147 N144 g_wk_
 refine Ends.retV X147 hx hns hrt (hb hby d54_131) (by decide) (by decide) ?_
 rw [e147]
 have c148 := ((((((((Pa4.keep K113c nin0).keep K114c nin0).other W122 (Or.inl ne_wk__ov_)).other W129 (Or.inl ne_wk__on_)).other W136 (Or.inl ne_wk__op_)).other W139 (sll hw 403 rfl 432 rfl)).other W142 (sll hw 403 rfl 434 rfl)).other W144 (sll hw 403 rfl 436 rfl)).other W147 (sll hw 403 rfl 430 rfl)
 have c149 := (((((V122.other W129 (Ne.symm ne_on__ov_)).other W136 (Ne.symm ne_op__ov_)).other W139 (Ne.symm ne_wk__ov_)).other W142 (Ne.symm ne_wk__ov_)).other W144 (Ne.symm ne_wk__ov_)).other W147 (Ne.symm ne_wk__ov_)
 have c150 := ((Fw139.other W142 (sll hw 432 rfl 434 rfl)).other W144 (sll hw 432 rfl 436 rfl)).other W147 (sll hw 432 rfl 430 rfl)
 have c151 := (((((c123.other W129 (Or.inl ne_wk__on_)).other W136 (Or.inl ne_wk__op_)).other W139 (sll hw 407 rfl 432 rfl)).other W142 (sll hw 407 rfl 434 rfl)).other W144 (sll hw 407 rfl 436 rfl)).other W147 (sll hw 407 rfl 430 rfl)
 have c152 := (Fw142.other W144 (sll hw 434 rfl 436 rfl)).other W147 (sll hw 434 rfl 430 rfl)
 have c153 := ((((V129.other W136 (Ne.symm ne_op__on_)).other W139 (Ne.symm ne_wk__on_)).other W142 (Ne.symm ne_wk__on_)).other W144 (Ne.symm ne_wk__on_)).other W147 (Ne.symm ne_wk__on_)
 have c154 := ((((c131.other W136 (Or.inl ne_wk__op_)).other W139 (sll hw 410 rfl 432 rfl)).other W142 (sll hw 410 rfl 434 rfl)).other W144 (sll hw 410 rfl 436 rfl)).other W147 (sll hw 410 rfl 430 rfl)
 have c155 := Fw144.other W147 (sll hw 436 rfl 430 rfl)
 have c156 := (((V136.other W139 (Ne.symm ne_wk__op_)).other W142 (Ne.symm ne_wk__op_)).other W144 (Ne.symm ne_wk__op_)).other W147 (Ne.symm ne_wk__op_)
 exact ⟨rfl, N147, K147, Fw147, c148, c149, c150, c151, c152, c153, c154, c155, c156⟩

theorem rx59_158 (l : Launch) (Z : State) (a0 : Array Value) (hw : HW a0 Z) (ws : List Jvm.Cond) (n0 : Nat) (h0 : Heap) (O0 : Old Z n0 h0) (G1 : Int32) (w_EMPTY : Addr) (GF : GlobF Z G1 w_EMPTY) (wk_ : Addr) (vo_ : Addr) (kvo_ : ClassId) (ov_ : Addr) (on_ : Addr) (nm_ : Addr) (op_ : Addr) (Pa0 : f6_ Z h0 wk_ (.ref vo_)) (Pa1 : f8_ Z h0 wk_ (.int 0)) (Pa2 : Exa Z h0 wk_ cWK) (Pa3 : Arv Z h0 vo_ kvo_ (.object cJV) (1 : Int32) [(.ref w_EMPTY)] .null) (Pa4 : f5_ Z h0 wk_ (.int 2)) (Pa5 : f9_ Z h0 wk_ (.ref ov_)) (Pa6 : f10_ Z h0 wk_ (.ref on_)) (Pa7 : f7_ Z h0 wk_ (.ref nm_)) (Pa8 : f11_ Z h0 wk_ (.ref op_)) (ne_vo__wk_ : vo_ ≠ wk_) (g_wk_ : n0 ≤ wk_) :
  Meets1 l ym9 B61_ 1 (some (.object cJV)) ws (mkR 0 0 0 0) #[(.ref wk_)] Z h0 (fun v h L => v = some (.ref w_EMPTY) ∧ Fr n0 L ∧ Keep h0 h [wk_] ∧ f6_ Z h wk_ (.ref vo_) ∧ f8_ Z h wk_ (.int 1) ∧ f5_ Z h wk_ (.int 2) ∧ f9_ Z h wk_ (.ref ov_) ∧ f10_ Z h wk_ (.ref on_) ∧ f7_ Z h wk_ (.ref nm_) ∧ f11_ Z h wk_ (.ref op_)) := by
 refine own_start n0 (plainFor_of_name pn59) (fun m => ef59_r m wk_) ?_
 intro p e s m below meth c s₁ hns hrt hZ hx hby hml hown hnm X0 e0 N0
 obtain ⟨SCS, P5, S_EMPTY, E_EMPTY⟩ := id GF
 have K0 := Keep.refl h0 [wk_]
 show Ends _ _ _ _ s₁ (mkF m 0 #[cr wk_] []) _ _ _
 refine walN X0 hx hby d59_0 rfl rfl ?_
 refine wgf X0 hx hZ hown hw 431 rfl e0 Pa0 hby d59_1 ?_
 intro T159 X159 e159
 refine walN X159 hx hby d59_4 rfl rfl ?_
 refine wdu X159 hx hby d59_5 rfl ?_
 refine wgf X159 hx hZ hown hw 435 rfl e159 Pa1 hby d59_6 ?_
 intro T160 X160 e160
 refine wdx X160 hx hby d59_9 rfl rfl ?_
 refine wic X160 hx hby d59_10 ?_
 refine wia X160 hx hby d59_11 ?_
 refine wpf X160 hx hZ hown hw 435 rfl e160 Pa1 Pa2 436 rfl 394 rfl (ty := .int) (by decide) rfl rfl hby d59_12 ?_
 intro T161 h161 X161 e161 W161
 have Fw161 := Pa1.same W161
 have K161 := K0.wr W161 (mi 0 rfl)
 have N161 := Fr.snoc X161 N0 g_wk_
 obtain ⟨cl162, Ar162, q162, S162, M162, H162, G162⟩ := id (Pa3.other W161 ne_vo__wk_)
 have hin162 := inb_of (j := (0 : Int32)) S162 ⟨by decide, by decide⟩
 refine Ends.go (X161.aaload hx (j := (0 : Int32)) (v := (.ref w_EMPTY)) (by rw [e161]; exact Ar162.1) (State.isArrayOf_alike hZ.alike Ar162.2.1) rfl Ar162.2.2 hin162 (H162.at hin162 rfl) (g := (mkF m 15 #[cr wk_] [(.int 0), (.ref vo_)])) rfl rfl (hb hby d59_15)) ?_
 refine Ends.ret X161 hx hns (t := (.object cJV)) hrt rfl (Or.inr (Or.inr (Or.inr (Or.inr ⟨rfl, rfl, rfl⟩)))) (hb hby d59_16) (by decide) (by decide) ?_
 rw [e161]
 have c163 := Pa4.other W161 (sll hw 430 rfl 436 rfl)
 have c164 := Pa5.other W161 (sll hw 403 rfl 436 rfl)
 have c165 := Pa6.other W161 (sll hw 407 rfl 436 rfl)
 have c166 := Pa7.other W161 (sll hw 434 rfl 436 rfl)
 have c167 := Pa8.other W161 (sll hw 410 rfl 436 rfl)
 have c168 := Pa0.other W161 (sll hw 432 rfl 436 rfl)
 exact ⟨rfl, N161, K161, c168, Fw161, c163, c164, c165, c166, c167⟩

theorem rmStep_1oo (l : Launch) (Z : State) (a0 : Array Value) (hw : HW a0 Z) (ws : List Jvm.Cond) (n0 : Nat) (h0 : Heap) (O0 : Old Z n0 h0)  (G1 : Int32) (w_EMPTY : Addr) (GF : GlobF Z G1 w_EMPTY) (wk_ ov_ on_ op_ ob_ nm_ vo_ ar_ va_ : Addr) (kvo_ kva_ kov_ kon_ kop_ : ClassId) (z_ : Int32) (p_ : Int32) (g_wk_ : n0 ≤ wk_) (g_ov_ : n0 ≤ ov_) (g_on_ : n0 ≤ on_) (g_op_ : n0 ≤ op_) (NEs : own_NE wk_ ov_ on_ op_ ob_ nm_ vo_ ar_ va_) (SF : own_SF Z h0 w_EMPTY wk_ ov_ on_ op_ ob_ nm_ vo_ ar_ va_ kvo_ kva_ kov_ kon_ kop_ (.ref vo_) (.ref nm_) z_ (1 : Int32) nN16 nN16 nZ16) (hp_ : (p_ = 0 ∨ p_ = 1)) :
  Meets1 l ym10 B39_ 3 none ws (mkR 2 0 0 40) #[(.ref wk_), (.ref ob_), (.int p_)] Z h0 (fun v h L => v = none ∧ Fr n0 L ∧ Keep h0 h [wk_, ov_, on_, op_] ∧ own_SQ Z h wk_ ov_ on_ op_ kov_ kon_ kop_ (.ref vo_) (.ref nm_) p_ (2 : Int32) ((.ref vo_) :: nN15) ((.ref nm_) :: nN15) ((.int z_) :: nZ15)) := by
 refine own_start n0 (plainFor_of_name pn53) (fun m => ef53_rri m wk_ ob_ p_) ?_
 intro p e s m below meth c s₁ hns hrt hZ hx hby hml hown hnm X0 e0 N0
 have K0 := Keep.refl h0 [wk_, ov_, on_, op_]
 obtain ⟨SCS, P5, S_EMPTY, E_EMPTY⟩ := id GF
 obtain ⟨ne_wk_ov_, ne_wk_on_, ne_wk_op_, ne_wk_ob_, ne_wk_nm_, ne_wk_vo_, ne_wk_ar_, ne_wk_va_, ne_ov_on_, ne_ov_op_, ne_ov_ob_, ne_ov_nm_, ne_ov_vo_, ne_ov_ar_, ne_ov_va_, ne_on_op_, ne_on_ob_, ne_on_nm_, ne_on_vo_, ne_on_ar_, ne_on_va_, ne_op_ob_, ne_op_nm_, ne_op_vo_, ne_op_ar_, ne_op_va_⟩ := NEs
 obtain ⟨PE_wk_, PE_ob_, PE_nm_, PE_vo_, PE_ar_, PE_va_, PF_ob__names, PF_ob__values, PF_ar__elements, PF_wk__values, PF_wk__names, PF_wk__place, PF_wk__depth, PF_wk__outerValues, PF_wk__outerNames, PF_wk__outerPlaces, PV_vo_, PV_va_, PV_ov_, PV_on_, PV_op_, PO_ov_, PO_on_⟩ := SF
 refine walN X0 hx hby d53_0 rfl rfl ?_
 refine walN X0 hx hby d53_1 rfl rfl ?_
 refine wvb X0 hx hZ hown hw hml rfl hby d53_2 414 rfl 415 rfl 417 rfl 416 rfl (by decide) e0 PE_wk_ (rx54_110 l Z a0 hw [] n0 h0 O0  wk_ ob_ vo_ nm_ ov_ kov_ on_ kon_ op_ z_ kop_ PE_ob_ PF_ob__values PF_ob__names PF_wk__depth PF_wk__outerValues PV_ov_ PF_wk__values PO_ov_ PE_vo_ PF_wk__outerNames PF_wk__names PV_on_ PO_on_ PE_nm_ PF_wk__outerPlaces PF_wk__place PV_op_ PE_wk_ ne_wk_ov_ (Ne.symm ne_ov_on_) ne_wk_on_ (Ne.symm ne_ov_op_) (Ne.symm ne_on_op_) ne_wk_op_ g_ov_ g_on_ g_op_ g_wk_) 418 rfl 395 rfl (by decide) (by decide) [(.ref ob_)] [] pdx_5 rfl rfl rfl (by decide) (by decide) rfl ?_
 intro _ T157 _ X157 hQ157
 obtain ⟨rfl, N157q, K157c, Y157_0, Y157_1, Y157_2, Y157_3, Y157_4, Y157_5, Y157_6, Y157_7, Y157_8, Y157_9⟩ := hQ157
 have N157 := Fr.app N0 N157q
 obtain ⟨h157, e157⟩ : ∃ z, T157.heap = z := ⟨_, rfl⟩
 rw [e157] at K157c Y157_0 Y157_1 Y157_2 Y157_3 Y157_4 Y157_5 Y157_6 Y157_7 Y157_8 Y157_9
 have K157 := K0.trans K157c (allS (mi 1 rfl) (allS (mi 2 rfl) (allS (mi 3 rfl) (allS (mi 0 rfl) all0))))
 have O157 := O0.keep K157c (allS g_ov_ (allS g_on_ (allS g_op_ (allS g_wk_ all0))))
 rcases hp_ with rfl | rfl
 ·show Ends _ _ _ _ T157 (mkF m 5 #[cr wk_, cr ob_, ci 0] []) _ _ _
  refine wilN X157 hx hby d53_5 rfl ?_
  refine wiy (pc := 6) (pc' := 14) X157 hx hby d53_6 ((if0 _ _).trans (flt (by decide : ¬ ((0 : Int32) < (0 : Int32)))).2.2.2) ?_
  refine wilN X157 hx hby d53_14 rfl ?_
  refine wic X157 hx hby d53_15 ?_
  refine wcy (pc := 16) (pc' := 24) X157 hx hby d53_16 (flt (by decide : ¬ ((1 : Int32) < (0 : Int32)))).2.2.2 ?_
  refine Ends.retV X157 hx hns hrt (hb hby d53_24) (by decide) (by decide) ?_
  rw [e157]
  exact ⟨rfl, N157, K157, Y157_3, Y157_5, Y157_8, Y157_0, Y157_1, Y157_4, Y157_7, Y157_2, Y157_6, Y157_9⟩
 ·show Ends _ _ _ _ T157 (mkF m 5 #[cr wk_, cr ob_, ci 1] []) _ _ _
  refine wilN X157 hx hby d53_5 rfl ?_
  refine win X157 hx hby d53_6 ((if0 _ _).trans (tlt (by decide : (0 : Int32) < (1 : Int32))).2.2.2) ?_
  refine walN X157 hx hby d53_9 rfl rfl ?_
  have c169 := PV_vo_.keep K157c (ninS (Ne.symm ne_ov_vo_) (ninS (Ne.symm ne_on_vo_) (ninS (Ne.symm ne_op_vo_) (ninS (Ne.symm ne_wk_vo_) nin0))))
  refine wvb X157 hx hZ hown hw hml rfl hby d53_10 452 rfl 453 rfl 455 rfl 454 rfl (by decide) e157 (PE_wk_.keep K157c) (rx59_158 l Z a0 hw [] n0 h157 O157 G1 w_EMPTY GF wk_ vo_ kvo_ ov_ on_ nm_ op_ Y157_3 Y157_8 (PE_wk_.keep K157c) c169 Y157_0 Y157_1 Y157_4 Y157_5 Y157_7 (Ne.symm ne_wk_vo_) g_wk_) 456 rfl 395 rfl (by decide) (by decide) [] [] pdx_6 rfl rfl rfl (by decide) (by decide) rfl ?_
  intro _ T170 _ X170 hQ170
  obtain ⟨rfl, N170q, K170c, Y170_0, Y170_1, Y170_2, Y170_3, Y170_4, Y170_5, Y170_6⟩ := hQ170
  have N170 := Fr.app N157 N170q
  obtain ⟨h170, e170⟩ : ∃ z, T170.heap = z := ⟨_, rfl⟩
  rw [e170] at K170c Y170_0 Y170_1 Y170_2 Y170_3 Y170_4 Y170_5 Y170_6
  have K170 := K157.trans K170c (allS (mi 0 rfl) all0)
  refine wpo X170 hx hby d53_13 rfl ?_
  refine wilN X170 hx hby d53_14 rfl ?_
  refine wic X170 hx hby d53_15 ?_
  refine wcy (pc := 16) (pc' := 24) X170 hx hby d53_16 (flt (by decide : ¬ ((1 : Int32) < (1 : Int32)))).2.2.2 ?_
  refine Ends.retV X170 hx hns hrt (hb hby d53_24) (by decide) (by decide) ?_
  rw [e170]
  exact ⟨rfl, N170, K170, Y170_0, Y170_5, Y170_1, Y170_2, Y170_3, Y170_4, Y170_6, (Y157_2.keep K170c (ninS (Ne.symm ne_wk_ov_) nin0)), (Y157_6.keep K170c (ninS (Ne.symm ne_wk_on_) nin0)), (Y157_9.keep K170c (ninS (Ne.symm ne_wk_op_) nin0))⟩

theorem rx54_171 (l : Launch) (Z : State) (a0 : Array Value) (hw : HW a0 Z) (ws : List Jvm.Cond) (n0 : Nat) (h0 : Heap) (O0 : Old Z n0 h0)  (wk_ : Addr) (ar_ : Addr) (va_ : Addr) (ov_ : Addr) (kov_ : ClassId) (vo_ : Addr) (on_ : Addr) (nm_ : Addr) (kon_ : ClassId) (op_ : Addr) (z_ : Int32) (kop_ : ClassId) (Pa0 : Exa Z h0 ar_ cJA) (Pa1 : f12_ Z h0 ar_ (.ref va_)) (Pa2 : f5_ Z h0 wk_ (.int 1)) (Pa3 : f9_ Z h0 wk_ (.ref ov_)) (Pa4 : Arv Z h0 ov_ kov_ (.array (.object cJV)) (16 : Int32) nN16 .null) (Pa5 : f6_ Z h0 wk_ (.ref vo_)) (Pa6 : OvrA Z kov_ (.object cJV) cAJ) (Pa7 : Exa Z h0 vo_ cAJ) (Pa8 : f10_ Z h0 wk_ (.ref on_)) (Pa9 : f7_ Z h0 wk_ (.ref nm_)) (Pa10 : Arv Z h0 on_ kon_ (.object cNA) (16 : Int32) nN16 .null) (Pa11 : Ovr Z kon_ cNA) (Pa12 : Exa Z h0 nm_ cNA) (Pa13 : f11_ Z h0 wk_ (.ref op_)) (Pa14 : f8_ Z h0 wk_ (.int z_)) (Pa15 : Arv Z h0 op_ kop_ .int (16 : Int32) nZ16 (.int 0)) (Pa16 : Exa Z h0 wk_ cWK) (ne_wk__ov_ : wk_ ≠ ov_) (ne_on__ov_ : on_ ≠ ov_) (ne_wk__on_ : wk_ ≠ on_) (ne_op__ov_ : op_ ≠ ov_) (ne_op__on_ : op_ ≠ on_) (ne_wk__op_ : wk_ ≠ op_) (g_ov_ : n0 ≤ ov_) (g_on_ : n0 ≤ on_) (g_op_ : n0 ≤ op_) (g_wk_ : n0 ≤ wk_) :
  Meets1 l ym8 B57_ 5 none ws (mkR 1 0 0 12) #[(.ref wk_), (.ref ar_)] Z h0 (fun v h L => v = none ∧ Fr n0 L ∧ Keep h0 h [ov_, on_, op_, wk_] ∧ f5_ Z h wk_ (.int 2) ∧ f9_ Z h wk_ (.ref ov_) ∧ Arv Z h ov_ kov_ (.array (.object cJV)) (16 : Int32) ((.ref vo_) :: nN15) .null ∧ f6_ Z h wk_ (.ref va_) ∧ f10_ Z h wk_ (.ref on_) ∧ f7_ Z h wk_ .null ∧ Arv Z h on_ kon_ (.object cNA) (16 : Int32) ((.ref nm_) :: nN15) .null ∧ f11_ Z h wk_ (.ref op_) ∧ f8_ Z h wk_ (.int 0) ∧ Arv Z h op_ kop_ .int (16 : Int32) ((.int z_) :: nZ15) (.int 0)) := by
 refine own_start n0 (plainFor_of_name pn54) (fun m => ef54_rr m wk_ ar_) ?_
 intro p e s m below meth c s₁ hns hrt hZ hx hby hml hown hnm X0 e0 N0
 have K0 := Keep.refl h0 [ov_, on_, op_, wk_]
 refine wnu X0 hx hby d54_0 ?_
 refine wasN X0 hx hby d54_1 (l' := #[cr wk_, cr ar_, cu, .val .null, cu]) rfl rfl ?_
 refine walN X0 hx hby d54_2 rfl rfl ?_
 obtain ⟨T172, X172, e172, st172⟩ := instNo X0 hx hZ hown (ow hw 419 rfl) e0 Pa0 (own_noinst (ow hw 420 rfl) (ow hw 421 rfl) (ow hw 366 rfl) (by decide) (by decide)) (g := (mkF m 3 #[cr wk_, cr ar_, cu, .val .null, cu] [(.ref ar_)])) rfl rfl (hb hby d54_3)
 refine Ends.go st172 ?_
 refine wiy (pc := 6) (pc' := 30) X172 hx hby d54_6 ((if0 _ _).trans (teq (by decide : (0 : Int32) = (0 : Int32))).1) ?_
 refine walN X172 hx hby d54_30 rfl rfl ?_
 obtain ⟨T173, X173, e173, st173⟩ := castY X172 hx hZ hown (ow hw 422 rfl) e172 (Ins.self Pa0) (g := (mkF m 31 #[cr wk_, cr ar_, cu, .val .null, cu] [(.ref ar_)])) rfl rfl (hb hby d54_31)
 refine Ends.go st173 ?_
 refine wvb X173 hx hZ hown hw hml rfl hby d54_34 424 rfl 425 rfl 427 rfl 426 rfl (by decide) e173 Pa0 (rx55_59 l Z a0 hw [] n0 h0 O0  ar_ va_ Pa1) 428 rfl 1 rfl (by decide) (by decide) [] [] pdx_3 rfl rfl rfl (by decide) (by decide) rfl ?_
 intro _ T174 _ X174 hQ174
 obtain ⟨rfl, N174q, K174c⟩ := hQ174
 have N174 := Fr.app N0 N174q
 obtain ⟨h174, e174⟩ : ∃ z, T174.heap = z := ⟨_, rfl⟩
 rw [e174] at K174c
 have K174 := K0.trans K174c all0
 refine wasN X174 hx hby d54_37 (l' := #[cr wk_, cr ar_, cr va_, .val .null, cu]) rfl rfl ?_
 refine walN X174 hx hby d54_38 rfl rfl ?_
 refine wgf X174 hx hZ hown hw 429 rfl e174 (Pa2.keep K174c nin0) hby d54_39 ?_
 intro T175 X175 e175
 refine win X175 hx hby d54_42 ((if0 _ _).trans (tlt (by decide : (0 : Int32) < (1 : Int32))).2.2.2) ?_
 refine walN X175 hx hby d54_45 rfl rfl ?_
 refine wgf X175 hx hZ hown hw 429 rfl e175 (Pa2.keep K174c nin0) hby d54_46 ?_
 intro T176 X176 e176
 refine walN X176 hx hby d54_49 rfl rfl ?_
 refine wgf X176 hx hZ hown hw 402 rfl e176 (Pa3.keep K174c nin0) hby d54_50 ?_
 intro T177 X177 e177
 obtain ⟨cl178, Ar178, q178, S178, M178, H178, G178⟩ := id (Pa4.keep K174c nin0)
 refine Ends.go (X177.arraylength hx (by rw [e177]; exact Ar178.1) (State.isArrayOf_alike hZ.alike Ar178.2.1) (g := (mkF m 53 #[cr wk_, cr ar_, cr va_, .val .null, cu] [(.ref ov_), (.int 1)])) rfl rfl (hb hby d54_53)) ?_
 rw [len_of S178 M178]
 refine wcy (pc := 54) (pc' := 61) X177 hx hby d54_54 (flt (by decide : ¬ ((16 : Int32) < (1 : Int32)))).2.2.2 ?_
 refine walN X177 hx hby d54_61 rfl rfl ?_
 refine wgf X177 hx hZ hown hw 402 rfl e177 (Pa3.keep K174c nin0) hby d54_62 ?_
 intro T179 X179 e179
 refine walN X179 hx hby d54_65 rfl rfl ?_
 refine wgf X179 hx hZ hown hw 429 rfl e179 (Pa2.keep K174c nin0) hby d54_66 ?_
 intro T180 X180 e180
 refine wic X180 hx hby d54_69 ?_
 refine wis X180 hx hby d54_70 ?_
 refine walN X180 hx hby d54_71 rfl rfl ?_
 refine wgf X180 hx hZ hown hw 431 rfl e180 (Pa5.keep K174c nin0) hby d54_72 ?_
 intro T181 X181 e181
 obtain ⟨cl182, Ar182, q182, S182, M182, H182, G182⟩ := id (Pa4.keep K174c nin0)
 have hin182 := inb_of (j := (0 : Int32)) S182 ⟨by decide, by decide⟩
 obtain ⟨T182, h182, X182, e182, W182, st182⟩ := stR X181 hx hZ e181 Ar182 (j := (0 : Int32)) hin182 rfl (Sto.ofVA Ar182 q182 Pa6 (Ins.self (Pa7.keep K174c))) (g := (mkF m 75 #[cr wk_, cr ar_, cr va_, .val .null, cu] [(.ref vo_), (.int 0), (.ref ov_)])) rfl rfl (hb hby d54_75)
 refine Ends.go st182 ?_
 have V182 : Arv Z h182 ov_ kov_ (.array (.object cJV)) (16 : Int32) ((.ref vo_) :: nN15) .null := Arv.set Ar182 q182 S182 M182 H182 G182 rfl W182 0 rfl (Nat.le_of_ble_eq_true rfl)
 have K182 := K174.wr W182 (mi 0 rfl)
 have N182 := Fr.snoc X182 N174 g_ov_
 refine walN X182 hx hby d54_76 rfl rfl ?_
 refine wgf X182 hx hZ hown hw 406 rfl e182 ((Pa8.keep K174c nin0).other W182 (Or.inl ne_wk__ov_)) hby d54_77 ?_
 intro T183 X183 e183
 show Ends _ _ _ _ T183 (mkF m 80 #[cr wk_, cr ar_, cr va_, .val .null, cu] [(.ref on_)]) _ _ _
 refine walN X183 hx hby d54_80 rfl rfl ?_
 refine wgf X183 hx hZ hown hw 429 rfl e183 ((Pa2.keep K174c nin0).other W182 (Or.inl ne_wk__ov_)) hby d54_81 ?_
 intro T184 X184 e184
 refine wic X184 hx hby d54_84 ?_
 refine wis X184 hx hby d54_85 ?_
 refine walN X184 hx hby d54_86 rfl rfl ?_
 refine wgf X184 hx hZ hown hw 433 rfl e184 ((Pa9.keep K174c nin0).other W182 (Or.inl ne_wk__ov_)) hby d54_87 ?_
 intro T185 X185 e185
 obtain ⟨cl186, Ar186, q186, S186, M186, H186, G186⟩ := id ((Pa10.keep K174c nin0).other W182 ne_on__ov_)
 have hin186 := inb_of (j := (0 : Int32)) S186 ⟨by decide, by decide⟩
 obtain ⟨T186, h186, X186, e186, W186, st186⟩ := stR X185 hx hZ e185 Ar186 (j := (0 : Int32)) hin186 rfl (Sto.ofV Ar186 q186 Pa11 (Ins.self ((Pa12.keep K174c).wr W182))) (g := (mkF m 90 #[cr wk_, cr ar_, cr va_, .val .null, cu] [(.ref nm_), (.int 0), (.ref on_)])) rfl rfl (hb hby d54_90)
 refine Ends.go st186 ?_
 have V186 : Arv Z h186 on_ kon_ (.object cNA) (16 : Int32) ((.ref nm_) :: nN15) .null := Arv.set Ar186 q186 S186 M186 H186 G186 rfl W186 0 rfl (Nat.le_of_ble_eq_true rfl)
 have K186 := K182.wr W186 (mi 1 rfl)
 have N186 := Fr.snoc X186 N182 g_on_
 refine walN X186 hx hby d54_91 rfl rfl ?_
 have c187 := ((Pa13.keep K174c nin0).other W182 (Or.inl ne_wk__ov_)).other W186 (Or.inl ne_wk__on_)
 refine wgf X186 hx hZ hown hw 409 rfl e186 c187 hby d54_92 ?_
 intro T188 X188 e188
 refine walN X188 hx hby d54_95 rfl rfl ?_
 have c189 := ((Pa2.keep K174c nin0).other W182 (Or.inl ne_wk__ov_)).other W186 (Or.inl ne_wk__on_)
 refine wgf X188 hx hZ hown hw 429 rfl e188 c189 hby d54_96 ?_
 intro T190 X190 e190
 refine wic X190 hx hby d54_99 ?_
 refine wis X190 hx hby d54_100 ?_
 refine walN X190 hx hby d54_101 rfl rfl ?_
 have c191 := ((Pa14.keep K174c nin0).other W182 (Or.inl ne_wk__ov_)).other W186 (Or.inl ne_wk__on_)
 refine wgf X190 hx hZ hown hw 435 rfl e190 c191 hby d54_102 ?_
 intro T192 X192 e192
 have c194 := ((Pa15.keep K174c nin0).other W182 ne_op__ov_).other W186 ne_op__on_
 obtain ⟨cl193, Ar193, q193, S193, M193, H193, G193⟩ := id c194
 have hin193 := inb_of (j := (0 : Int32)) S193 ⟨by decide, by decide⟩
 obtain ⟨T193, h193, X193, e193, W193, st193⟩ := stI X192 hx hZ e192 Ar193 (j := (0 : Int32)) hin193 (g := (mkF m 105 #[cr wk_, cr ar_, cr va_, .val .null, cu] [(.int z_), (.int 0), (.ref op_)])) rfl rfl (hb hby d54_105)
 refine Ends.go st193 ?_
 have V193 : Arv Z h193 op_ kop_ .int (16 : Int32) ((.int z_) :: nZ15) (.int 0) := Arv.set Ar193 q193 S193 M193 H193 G193 rfl W193 0 rfl (Nat.le_of_ble_eq_true rfl)
 have K193 := K186.wr W193 (mi 2 rfl)
 have N193 := Fr.snoc X193 N186 g_op_
 refine walN X193 hx hby d54_106 rfl rfl ?_
 refine walN X193 hx hby d54_107 rfl rfl ?_
 have c195 := (((Pa5.keep K174c nin0).other W182 (Or.inl ne_wk__ov_)).other W186 (Or.inl ne_wk__on_)).other W193 (Or.inl ne_wk__op_)
 refine wpf X193 hx hZ hown hw 431 rfl e193 c195 ((((Pa16.keep K174c).wr W182).wr W186).wr W193) 432 rfl 394 rfl (ty := (.array (.object cJV))) (by decide) rfl rfl hby d54_108 ?_
 intro T196 h196 X196 e196 W196
 have Fw196 := c195.same W196
 have K196 := K193.wr W196 (mi 3 rfl)
 have N196 := Fr.snoc X196 N193 g_wk_
 refine walN X196 hx hby d54_111 rfl rfl ?_
 refine walN X196 hx hby d54_112 rfl rfl ?_
 have c197 := ((((Pa9.keep K174c nin0).other W182 (Or.inl ne_wk__ov_)).other W186 (Or.inl ne_wk__on_)).other W193 (Or.inl ne_wk__op_)).other W196 (sll hw 434 rfl 432 rfl)
 refine wpf X196 hx hZ hown hw 433 rfl e196 c197 (((((Pa16.keep K174c).wr W182).wr W186).wr W193).wr W196) 434 rfl 394 rfl (ty := (.object cNA)) (by decide) rfl rfl hby d54_113 ?_
 intro T198 h198 X198 e198 W198
 have Fw198 := c197.same W198
 have K198 := K196.wr W198 (mi 3 rfl)
 have N198 := Fr.snoc X198 N196 g_wk_
 refine walN X198 hx hby d54_116 rfl rfl ?_
 refine wic X198 hx hby d54_117 ?_
 have c199 := (((((Pa16.keep K174c).wr W182).wr W186).wr W193).wr W196).wr W198
 have c200 := ((c191.other W193 (Or.inl ne_wk__op_)).other W196 (sll hw 436 rfl 432 rfl)).other W198 (sll hw 436 rfl 434 rfl)
 refine wpf X198 hx hZ hown hw 435 rfl e198 c200 c199 436 rfl 394 rfl (ty := .int) (by decide) rfl rfl hby d54_118 ?_
 intro T201 h201 X201 e201 W201
 have Fw201 := c200.same W201
 have K201 := K198.wr W201 (mi 3 rfl)
 have N201 := Fr.snoc X201 N198 g_wk_
 refine walN X201 hx hby d54_121 rfl rfl ?_
 refine wdu X201 hx hby d54_122 rfl ?_
 have c202 := (((c189.other W193 (Or.inl ne_wk__op_)).other W196 (sll hw 430 rfl 432 rfl)).other W198 (sll hw 430 rfl 434 rfl)).other W201 (sll hw 430 rfl 436 rfl)
 refine wgf X201 hx hZ hown hw 429 rfl e201 c202 hby d54_123 ?_
 intro T203 X203 e203
 refine wic X203 hx hby d54_126 ?_
 refine wia X203 hx hby d54_127 ?_
 show Ends _ _ _ _ T203 (mkF m 128 #[cr wk_, cr ar_, cr va_, .val .null, cu] [(.int 2), (.ref wk_)]) _ _ _
 refine wpf X203 hx hZ hown hw 429 rfl e203 c202 (c199.wr W201) 430 rfl 394 rfl (ty := .int) (by decide) rfl rfl hby d54_128 ?_
 intro T204 h204 X204 e204 W204
 have Fw204 := c202.same W204
 have K204 := K201.wr W204 (mi 3 rfl)
 have N204 := Fr.snoc X204 N201 g_wk_
 refine Ends.retV X204 hx hns hrt (hb hby d54_131) (by decide) (by decide) ?_
 rw [e204]
 have c205 := (((((((Pa3.keep K174c nin0).other W182 (Or.inl ne_wk__ov_)).other W186 (Or.inl ne_wk__on_)).other W193 (Or.inl ne_wk__op_)).other W196 (sll hw 403 rfl 432 rfl)).other W198 (sll hw 403 rfl 434 rfl)).other W201 (sll hw 403 rfl 436 rfl)).other W204 (sll hw 403 rfl 430 rfl)
 have c206 := (((((V182.other W186 (Ne.symm ne_on__ov_)).other W193 (Ne.symm ne_op__ov_)).other W196 (Ne.symm ne_wk__ov_)).other W198 (Ne.symm ne_wk__ov_)).other W201 (Ne.symm ne_wk__ov_)).other W204 (Ne.symm ne_wk__ov_)
 have c207 := ((Fw196.other W198 (sll hw 432 rfl 434 rfl)).other W201 (sll hw 432 rfl 436 rfl)).other W204 (sll hw 432 rfl 430 rfl)
 have c208 := (((((((Pa8.keep K174c nin0).other W182 (Or.inl ne_wk__ov_)).other W186 (Or.inl ne_wk__on_)).other W193 (Or.inl ne_wk__op_)).other W196 (sll hw 407 rfl 432 rfl)).other W198 (sll hw 407 rfl 434 rfl)).other W201 (sll hw 407 rfl 436 rfl)).other W204 (sll hw 407 rfl 430 rfl)
 have c209 := (Fw198.other W201 (sll hw 434 rfl 436 rfl)).other W204 (sll hw 434 rfl 430 rfl)
 have c210 := ((((V186.other W193 (Ne.symm ne_op__on_)).other W196 (Ne.symm ne_wk__on_)).other W198 (Ne.symm ne_wk__on_)).other W201 (Ne.symm ne_wk__on_)).other W204 (Ne.symm ne_wk__on_)
 have c211 := ((((c187.other W193 (Or.inl ne_wk__op_)).other W196 (sll hw 410 rfl 432 rfl)).other W198 (sll hw 410 rfl 434 rfl)).other W201 (sll hw 410 rfl 436 rfl)).other W204 (sll hw 410 rfl 430 rfl)
 have c212 := Fw201.other W204 (sll hw 436 rfl 430 rfl)
 have c213 := (((V193.other W196 (Ne.symm ne_wk__op_)).other W198 (Ne.symm ne_wk__op_)).other W201 (Ne.symm ne_wk__op_)).other W204 (Ne.symm ne_wk__op_)
 exact ⟨rfl, N204, K204, Fw204, c205, c206, c207, c208, c209, c210, c211, c212, c213⟩

theorem rx59_215 (l : Launch) (Z : State) (a0 : Array Value) (hw : HW a0 Z) (ws : List Jvm.Cond) (n0 : Nat) (h0 : Heap) (O0 : Old Z n0 h0) (G1 : Int32) (w_EMPTY : Addr) (GF : GlobF Z G1 w_EMPTY) (wk_ : Addr) (va_ : Addr) (kva_ : ClassId) (ob_ : Addr) (ov_ : Addr) (on_ : Addr) (op_ : Addr) (Pa0 : f6_ Z h0 wk_ (.ref va_)) (Pa1 : f8_ Z h0 wk_ (.int 0)) (Pa2 : Exa Z h0 wk_ cWK) (Pa3 : Arv Z h0 va_ kva_ (.object cJV) (2 : Int32) [(.ref w_EMPTY), (.ref ob_)] .null) (Pa4 : f5_ Z h0 wk_ (.int 2)) (Pa5 : f9_ Z h0 wk_ (.ref ov_)) (Pa6 : f10_ Z h0 wk_ (.ref on_)) (Pa7 : f7_ Z h0 wk_ .null) (Pa8 : f11_ Z h0 wk_ (.ref op_)) (ne_va__wk_ : va_ ≠ wk_) (g_wk_ : n0 ≤ wk_) :
  Meets1 l ym9 B61_ 1 (some (.object cJV)) ws (mkR 0 0 0 0) #[(.ref wk_)] Z h0 (fun v h L => v = some (.ref w_EMPTY) ∧ Fr n0 L ∧ Keep h0 h [wk_] ∧ f6_ Z h wk_ (.ref va_) ∧ f8_ Z h wk_ (.int 1) ∧ f5_ Z h wk_ (.int 2) ∧ f9_ Z h wk_ (.ref ov_) ∧ f10_ Z h wk_ (.ref on_) ∧ f7_ Z h wk_ .null ∧ f11_ Z h wk_ (.ref op_)) := by
 refine own_start n0 (plainFor_of_name pn59) (fun m => ef59_r m wk_) ?_
 intro p e s m below meth c s₁ hns hrt hZ hx hby hml hown hnm X0 e0 N0
 obtain ⟨SCS, P5, S_EMPTY, E_EMPTY⟩ := id GF
 have K0 := Keep.refl h0 [wk_]
 show Ends _ _ _ _ s₁ (mkF m 0 #[cr wk_] []) _ _ _
 refine walN X0 hx hby d59_0 rfl rfl ?_
 refine wgf X0 hx hZ hown hw 431 rfl e0 Pa0 hby d59_1 ?_
 intro T216 X216 e216
 refine walN X216 hx hby d59_4 rfl rfl ?_
 refine wdu X216 hx hby d59_5 rfl ?_
 refine wgf X216 hx hZ hown hw 435 rfl e216 Pa1 hby d59_6 ?_
 intro T217 X217 e217
 refine wdx X217 hx hby d59_9 rfl rfl ?_
 refine wic X217 hx hby d59_10 ?_
 refine wia X217 hx hby d59_11 ?_
 refine wpf X217 hx hZ hown hw 435 rfl e217 Pa1 Pa2 436 rfl 394 rfl (ty := .int) (by decide) rfl rfl hby d59_12 ?_
 intro T218 h218 X218 e218 W218
 have Fw218 := Pa1.same W218
 have K218 := K0.wr W218 (mi 0 rfl)
 have N218 := Fr.snoc X218 N0 g_wk_
 obtain ⟨cl219, Ar219, q219, S219, M219, H219, G219⟩ := id (Pa3.other W218 ne_va__wk_)
 have hin219 := inb_of (j := (0 : Int32)) S219 ⟨by decide, by decide⟩
 refine Ends.go (X218.aaload hx (j := (0 : Int32)) (v := (.ref w_EMPTY)) (by rw [e218]; exact Ar219.1) (State.isArrayOf_alike hZ.alike Ar219.2.1) rfl Ar219.2.2 hin219 (H219.at hin219 rfl) (g := (mkF m 15 #[cr wk_] [(.int 0), (.ref va_)])) rfl rfl (hb hby d59_15)) ?_
 refine Ends.ret X218 hx hns (t := (.object cJV)) hrt rfl (Or.inr (Or.inr (Or.inr (Or.inr ⟨rfl, rfl, rfl⟩)))) (hb hby d59_16) (by decide) (by decide) ?_
 rw [e218]
 have c220 := Pa4.other W218 (sll hw 430 rfl 436 rfl)
 have c221 := Pa5.other W218 (sll hw 403 rfl 436 rfl)
 have c222 := Pa6.other W218 (sll hw 407 rfl 436 rfl)
 have c223 := Pa7.other W218 (sll hw 434 rfl 436 rfl)
 have c224 := Pa8.other W218 (sll hw 410 rfl 436 rfl)
 have c225 := Pa0.other W218 (sll hw 432 rfl 436 rfl)
 exact ⟨rfl, N218, K218, c225, Fw218, c220, c221, c222, c223, c224⟩

theorem rx59_230 (l : Launch) (Z : State) (a0 : Array Value) (hw : HW a0 Z) (ws : List Jvm.Cond) (n0 : Nat) (h0 : Heap) (O0 : Old Z n0 h0)  (wk_ : Addr) (va_ : Addr) (kva_ : ClassId) (ob_ : Addr) (ov_ : Addr) (on_ : Addr) (op_ : Addr) (Pa0 : f6_ Z h0 wk_ (.ref va_)) (Pa1 : f8_ Z h0 wk_ (.int 1)) (Pa2 : Exa Z h0 wk_ cWK) (Pa3 : Arv Z h0 va_ kva_ (.object cJV) (2 : Int32) [(.ref w_EMPTY), (.ref ob_)] .null) (Pa4 : f5_ Z h0 wk_ (.int 2)) (Pa5 : f9_ Z h0 wk_ (.ref ov_)) (Pa6 : f10_ Z h0 wk_ (.ref on_)) (Pa7 : f7_ Z h0 wk_ .null) (Pa8 : f11_ Z h0 wk_ (.ref op_)) (ne_va__wk_ : va_ ≠ wk_) (g_wk_ : n0 ≤ wk_) :
  Meets1 l ym9 B61_ 1 (some (.object cJV)) ws (mkR 0 0 0 0) #[(.ref wk_)] Z h0 (fun v h L => v = some (.ref ob_) ∧ Fr n0 L ∧ Keep h0 h [wk_] ∧ f6_ Z h wk_ (.ref va_) ∧ f8_ Z h wk_ (.int 2) ∧ f5_ Z h wk_ (.int 2) ∧ f9_ Z h wk_ (.ref ov_) ∧ f10_ Z h wk_ (.ref on_) ∧ f7_ Z h wk_ .null ∧ f11_ Z h wk_ (.ref op_)) := by
 refine own_start n0 (plainFor_of_name pn59) (fun m => ef59_r m wk_) ?_
 intro p e s m below meth c s₁ hns hrt hZ hx hby hml hown hnm X0 e0 N0
 have K0 := Keep.refl h0 [wk_]
 refine walN X0 hx hby d59_0 rfl rfl ?_
 refine wgf X0 hx hZ hown hw 431 rfl e0 Pa0 hby d59_1 ?_
 intro T231 X231 e231
 refine walN X231 hx hby d59_4 rfl rfl ?_
 refine wdu X231 hx hby d59_5 rfl ?_
 refine wgf X231 hx hZ hown hw 435 rfl e231 Pa1 hby d59_6 ?_
 intro T232 X232 e232
 refine wdx X232 hx hby d59_9 rfl rfl ?_
 refine wic X232 hx hby d59_10 ?_
 refine wia X232 hx hby d59_11 ?_
 refine wpf X232 hx hZ hown hw 435 rfl e232 Pa1 Pa2 436 rfl 394 rfl (ty := .int) (by decide) rfl rfl hby d59_12 ?_
 intro T233 h233 X233 e233 W233
 have Fw233 := Pa1.same W233
 have K233 := K0.wr W233 (mi 0 rfl)
 have N233 := Fr.snoc X233 N0 g_wk_
 obtain ⟨cl234, Ar234, q234, S234, M234, H234, G234⟩ := id (Pa3.other W233 ne_va__wk_)
 have hin234 := inb_of (j := (1 : Int32)) S234 ⟨by decide, by decide⟩
 refine Ends.go (X233.aaload hx (j := (1 : Int32)) (v := (.ref ob_)) (by rw [e233]; exact Ar234.1) (State.isArrayOf_alike hZ.alike Ar234.2.1) rfl Ar234.2.2 hin234 (H234.at hin234 rfl) (g := (mkF m 15 #[cr wk_] [(.int 1), (.ref va_)])) rfl rfl (hb hby d59_15)) ?_
 refine Ends.ret X233 hx hns (t := (.object cJV)) hrt rfl (Or.inr (Or.inr (Or.inr (Or.inr ⟨rfl, rfl, rfl⟩)))) (hb hby d59_16) (by decide) (by decide) ?_
 rw [e233]
 have c235 := Pa4.other W233 (sll hw 430 rfl 436 rfl)
 have c236 := Pa5.other W233 (sll hw 403 rfl 436 rfl)
 have c237 := Pa6.other W233 (sll hw 407 rfl 436 rfl)
 have c238 := Pa7.other W233 (sll hw 434 rfl 436 rfl)
 have c239 := Pa8.other W233 (sll hw 410 rfl 436 rfl)
 have c240 := Pa0.other W233 (sll hw 432 rfl 436 rfl)
 exact ⟨rfl, N233, K233, c240, Fw233, c235, c236, c237, c238, c239⟩

theorem rmStep_1oa (l : Launch) (Z : State) (a0 : Array Value) (hw : HW a0 Z) (ws : List Jvm.Cond) (n0 : Nat) (h0 : Heap) (O0 : Old Z n0 h0)  (G1 : Int32) (w_EMPTY : Addr) (GF : GlobF Z G1 w_EMPTY) (wk_ ov_ on_ op_ ob_ nm_ vo_ ar_ va_ : Addr) (kvo_ kva_ kov_ kon_ kop_ : ClassId) (z_ : Int32) (p_ : Int32) (g_wk_ : n0 ≤ wk_) (g_ov_ : n0 ≤ ov_) (g_on_ : n0 ≤ on_) (g_op_ : n0 ≤ op_) (NEs : own_NE wk_ ov_ on_ op_ ob_ nm_ vo_ ar_ va_) (SF : own_SF Z h0 w_EMPTY wk_ ov_ on_ op_ ob_ nm_ vo_ ar_ va_ kvo_ kva_ kov_ kon_ kop_ (.ref vo_) (.ref nm_) z_ (1 : Int32) nN16 nN16 nZ16) (hp_ : (p_ = 0 ∨ p_ = 1 ∨ p_ = 2)) :
  Meets1 l ym10 B39_ 3 none ws (mkR 2 0 0 40) #[(.ref wk_), (.ref ar_), (.int p_)] Z h0 (fun v h L => v = none ∧ Fr n0 L ∧ Keep h0 h [wk_, ov_, on_, op_] ∧ own_SQ Z h wk_ ov_ on_ op_ kov_ kon_ kop_ (.ref va_) .null p_ (2 : Int32) ((.ref vo_) :: nN15) ((.ref nm_) :: nN15) ((.int z_) :: nZ15)) := by
 refine own_start n0 (plainFor_of_name pn53) (fun m => ef53_rri m wk_ ar_ p_) ?_
 intro p e s m below meth c s₁ hns hrt hZ hx hby hml hown hnm X0 e0 N0
 have K0 := Keep.refl h0 [wk_, ov_, on_, op_]
 obtain ⟨SCS, P5, S_EMPTY, E_EMPTY⟩ := id GF
 obtain ⟨ne_wk_ov_, ne_wk_on_, ne_wk_op_, ne_wk_ob_, ne_wk_nm_, ne_wk_vo_, ne_wk_ar_, ne_wk_va_, ne_ov_on_, ne_ov_op_, ne_ov_ob_, ne_ov_nm_, ne_ov_vo_, ne_ov_ar_, ne_ov_va_, ne_on_op_, ne_on_ob_, ne_on_nm_, ne_on_vo_, ne_on_ar_, ne_on_va_, ne_op_ob_, ne_op_nm_, ne_op_vo_, ne_op_ar_, ne_op_va_⟩ := NEs
 obtain ⟨PE_wk_, PE_ob_, PE_nm_, PE_vo_, PE_ar_, PE_va_, PF_ob__names, PF_ob__values, PF_ar__elements, PF_wk__values, PF_wk__names, PF_wk__place, PF_wk__depth, PF_wk__outerValues, PF_wk__outerNames, PF_wk__outerPlaces, PV_vo_, PV_va_, PV_ov_, PV_on_, PV_op_, PO_ov_, PO_on_⟩ := SF
 refine walN X0 hx hby d53_0 rfl rfl ?_
 refine walN X0 hx hby d53_1 rfl rfl ?_
 refine wvb X0 hx hZ hown hw hml rfl hby d53_2 414 rfl 415 rfl 417 rfl 416 rfl (by decide) e0 PE_wk_ (rx54_171 l Z a0 hw [] n0 h0 O0  wk_ ar_ va_ ov_ kov_ vo_ on_ nm_ kon_ op_ z_ kop_ PE_ar_ PF_ar__elements PF_wk__depth PF_wk__outerValues PV_ov_ PF_wk__values PO_ov_ PE_vo_ PF_wk__outerNames PF_wk__names PV_on_ PO_on_ PE_nm_ PF_wk__outerPlaces PF_wk__place PV_op_ PE_wk_ ne_wk_ov_ (Ne.symm ne_ov_on_) ne_wk_on_ (Ne.symm ne_ov_op_) (Ne.symm ne_on_op_) ne_wk_op_ g_ov_ g_on_ g_op_ g_wk_) 418 rfl 395 rfl (by decide) (by decide) [(.ref ar_)] [] pdx_5 rfl rfl rfl (by decide) (by decide) rfl ?_
 intro _ T214 _ X214 hQ214
 obtain ⟨rfl, N214q, K214c, Y214_0, Y214_1, Y214_2, Y214_3, Y214_4, Y214_5, Y214_6, Y214_7, Y214_8, Y214_9⟩ := hQ214
 have N214 := Fr.app N0 N214q
 obtain ⟨h214, e214⟩ : ∃ z, T214.heap = z := ⟨_, rfl⟩
 rw [e214] at K214c Y214_0 Y214_1 Y214_2 Y214_3 Y214_4 Y214_5 Y214_6 Y214_7 Y214_8 Y214_9
 have K214 := K0.trans K214c (allS (mi 1 rfl) (allS (mi 2 rfl) (allS (mi 3 rfl) (allS (mi 0 rfl) all0))))
 have O214 := O0.keep K214c (allS g_ov_ (allS g_on_ (allS g_op_ (allS g_wk_ all0))))
 rcases hp_ with rfl | rfl | rfl
 ·show Ends _ _ _ _ T214 (mkF m 5 #[cr wk_, cr ar_, ci 0] []) _ _ _
  refine wilN X214 hx hby d53_5 rfl ?_
  refine wiy (pc := 6) (pc' := 14) X214 hx hby d53_6 ((if0 _ _).trans (flt (by decide : ¬ ((0 : Int32) < (0 : Int32)))).2.2.2) ?_
  refine wilN X214 hx hby d53_14 rfl ?_
  refine wic X214 hx hby d53_15 ?_
  refine wcy (pc := 16) (pc' := 24) X214 hx hby d53_16 (flt (by decide : ¬ ((1 : Int32) < (0 : Int32)))).2.2.2 ?_
  refine Ends.retV X214 hx hns hrt (hb hby d53_24) (by decide) (by decide) ?_
  rw [e214]
  exact ⟨rfl, N214, K214, Y214_3, Y214_5, Y214_8, Y214_0, Y214_1, Y214_4, Y214_7, Y214_2, Y214_6, Y214_9⟩
 ·show Ends _ _ _ _ T214 (mkF m 5 #[cr wk_, cr ar_, ci 1] []) _ _ _
  refine wilN X214 hx hby d53_5 rfl ?_
  refine win X214 hx hby d53_6 ((if0 _ _).trans (tlt (by decide : (0 : Int32) < (1 : Int32))).2.2.2) ?_
  refine walN X214 hx hby d53_9 rfl rfl ?_
  have c226 := PV_va_.keep K214c (ninS (Ne.symm ne_ov_va_) (ninS (Ne.symm ne_on_va_) (ninS (Ne.symm ne_op_va_) (ninS (Ne.symm ne_wk_va_) nin0))))
  refine wvb X214 hx hZ hown hw hml rfl hby d53_10 452 rfl 453 rfl 455 rfl 454 rfl (by decide) e214 (PE_wk_.keep K214c) (rx59_215 l Z a0 hw [] n0 h214 O214 G1 w_EMPTY GF wk_ va_ kva_ ob_ ov_ on_ op_ Y214_3 Y214_8 (PE_wk_.keep K214c) c226 Y214_0 Y214_1 Y214_4 Y214_5 Y214_7 (Ne.symm ne_wk_va_) g_wk_) 456 rfl 395 rfl (by decide) (by decide) [] [] pdx_6 rfl rfl rfl (by decide) (by decide) rfl ?_
  intro _ T227 _ X227 hQ227
  obtain ⟨rfl, N227q, K227c, Y227_0, Y227_1, Y227_2, Y227_3, Y227_4, Y227_5, Y227_6⟩ := hQ227
  have N227 := Fr.app N214 N227q
  obtain ⟨h227, e227⟩ : ∃ z, T227.heap = z := ⟨_, rfl⟩
  rw [e227] at K227c Y227_0 Y227_1 Y227_2 Y227_3 Y227_4 Y227_5 Y227_6
  have K227 := K214.trans K227c (allS (mi 0 rfl) all0)
  refine wpo X227 hx hby d53_13 rfl ?_
  refine wilN X227 hx hby d53_14 rfl ?_
  refine wic X227 hx hby d53_15 ?_
  refine wcy (pc := 16) (pc' := 24) X227 hx hby d53_16 (flt (by decide : ¬ ((1 : Int32) < (1 : Int32)))).2.2.2 ?_
  refine Ends.retV X227 hx hns hrt (hb hby d53_24) (by decide) (by decide) ?_
  rw [e227]
  exact ⟨rfl, N227, K227, Y227_0, Y227_5, Y227_1, Y227_2, Y227_3, Y227_4, Y227_6, (Y214_2.keep K227c (ninS (Ne.symm ne_wk_ov_) nin0)), (Y214_6.keep K227c (ninS (Ne.symm ne_wk_on_) nin0)), (Y214_9.keep K227c (ninS (Ne.symm ne_wk_op_) nin0))⟩
 ·show Ends _ _ _ _ T214 (mkF m 5 #[cr wk_, cr ar_, ci 2] []) _ _ _
  refine wilN X214 hx hby d53_5 rfl ?_
  refine win X214 hx hby d53_6 ((if0 _ _).trans (tlt (by decide : (0 : Int32) < (2 : Int32))).2.2.2) ?_
  refine walN X214 hx hby d53_9 rfl rfl ?_
  have c228 := PV_va_.keep K214c (ninS (Ne.symm ne_ov_va_) (ninS (Ne.symm ne_on_va_) (ninS (Ne.symm ne_op_va_) (ninS (Ne.symm ne_wk_va_) nin0))))
  refine wvb X214 hx hZ hown hw hml rfl hby d53_10 452 rfl 453 rfl 455 rfl 454 rfl (by decide) e214 (PE_wk_.keep K214c) (rx59_215 l Z a0 hw [] n0 h214 O214 G1 w_EMPTY GF wk_ va_ kva_ ob_ ov_ on_ op_ Y214_3 Y214_8 (PE_wk_.keep K214c) c228 Y214_0 Y214_1 Y214_4 Y214_5 Y214_7 (Ne.symm ne_wk_va_) g_wk_) 456 rfl 395 rfl (by decide) (by decide) [] [] pdx_6 rfl rfl rfl (by decide) (by decide) rfl ?_
  intro _ T229 _ X229 hQ229
  obtain ⟨rfl, N229q, K229c, Y229_0, Y229_1, Y229_2, Y229_3, Y229_4, Y229_5, Y229_6⟩ := hQ229
  have N229 := Fr.app N214 N229q
  obtain ⟨h229, e229⟩ : ∃ z, T229.heap = z := ⟨_, rfl⟩
  rw [e229] at K229c Y229_0 Y229_1 Y229_2 Y229_3 Y229_4 Y229_5 Y229_6
  have K229 := K214.trans K229c (allS (mi 0 rfl) all0)
  have O229 := O214.keep K229c (allS g_wk_ all0)
  refine wpo X229 hx hby d53_13 rfl ?_
  refine wilN X229 hx hby d53_14 rfl ?_
  refine wic X229 hx hby d53_15 ?_
  refine wcn X229 hx hby d53_16 (tlt (by decide : (1 : Int32) < (2 : Int32))).2.2.2 ?_
  refine walN X229 hx hby d53_19 rfl rfl ?_
  refine wvb X229 hx hZ hown hw hml rfl hby d53_20 452 rfl 453 rfl 455 rfl 454 rfl (by decide) e229 ((PE_wk_.keep K214c).keep K229c) (rx59_230 l Z a0 hw [] n0 h229 O229  wk_ va_ kva_ ob_ ov_ on_ op_ Y229_0 Y229_1 ((PE_wk_.keep K214c).keep K229c) (c228.keep K229c (ninS (Ne.symm ne_wk_va_) nin0)) Y229_2 Y229_3 Y229_4 Y229_5 Y229_6 (Ne.symm ne_wk_va_) g_wk_) 456 rfl 395 rfl (by decide) (by decide) [] [] pdx_6 rfl rfl rfl (by decide) (by decide) rfl ?_
  intro _ T241 _ X241 hQ241
  obtain ⟨rfl, N241q, K241c, Y241_0, Y241_1, Y241_2, Y241_3, Y241_4, Y241_5, Y241_6⟩ := hQ241
  have N241 := Fr.app N229 N241q
  obtain ⟨h241, e241⟩ : ∃ z, T241.heap = z := ⟨_, rfl⟩
  rw [e241] at K241c Y241_0 Y241_1 Y241_2 Y241_3 Y241_4 Y241_5 Y241_6
  have K241 := K229.trans K241c (allS (mi 0 rfl) all0)
  show Ends _ _ _ _ T241 (mkF m 23 #[cr wk_, cr ar_, ci 2] [(.ref ob_)]) _ _ _
  refine wpo X241 hx hby d53_23 rfl ?_
  refine Ends.retV X241 hx hns hrt (hb hby d53_24) (by decide) (by decide) ?_
  rw [e241]
  have c242 := (Y214_2.keep K229c (ninS (Ne.symm ne_wk_ov_) nin0)).keep K241c (ninS (Ne.symm ne_wk_ov_) nin0)
  have c243 := (Y214_6.keep K229c (ninS (Ne.symm ne_wk_on_) nin0)).keep K241c (ninS (Ne.symm ne_wk_on_) nin0)
  have c244 := (Y214_9.keep K229c (ninS (Ne.symm ne_wk_op_) nin0)).keep K241c (ninS (Ne.symm ne_wk_op_) nin0)
  exact ⟨rfl, N241, K241, Y241_0, Y241_5, Y241_1, Y241_2, Y241_3, Y241_4, Y241_6, c242, c243, c244⟩

theorem rx54_245 (l : Launch) (Z : State) (a0 : Array Value) (hw : HW a0 Z) (ws : List Jvm.Cond) (n0 : Nat) (h0 : Heap) (O0 : Old Z n0 h0)  (wk_ : Addr) (ob_ : Addr) (vo_ : Addr) (nm_ : Addr) (ov_ : Addr) (kov_ : ClassId) (va_ : Addr) (on_ : Addr) (kon_ : ClassId) (op_ : Addr) (z_ : Int32) (kop_ : ClassId) (Pa0 : Exa Z h0 ob_ cJO) (Pa1 : f3_ Z h0 ob_ (.ref vo_)) (Pa2 : f4_ Z h0 ob_ (.ref nm_)) (Pa3 : f5_ Z h0 wk_ (.int 1)) (Pa4 : f9_ Z h0 wk_ (.ref ov_)) (Pa5 : Arv Z h0 ov_ kov_ (.array (.object cJV)) (16 : Int32) nN16 .null) (Pa6 : f6_ Z h0 wk_ (.ref va_)) (Pa7 : OvrA Z kov_ (.object cJV) cAJ) (Pa8 : Exa Z h0 va_ cAJ) (Pa9 : f10_ Z h0 wk_ (.ref on_)) (Pa10 : f7_ Z h0 wk_ .null) (Pa11 : Arv Z h0 on_ kon_ (.object cNA) (16 : Int32) nN16 .null) (Pa12 : f11_ Z h0 wk_ (.ref op_)) (Pa13 : f8_ Z h0 wk_ (.int z_)) (Pa14 : Arv Z h0 op_ kop_ .int (16 : Int32) nZ16 (.int 0)) (Pa15 : Exa Z h0 wk_ cWK) (Pa16 : Ovr Z kon_ cNA) (ne_wk__ov_ : wk_ ≠ ov_) (ne_on__ov_ : on_ ≠ ov_) (ne_wk__on_ : wk_ ≠ on_) (ne_op__ov_ : op_ ≠ ov_) (ne_op__on_ : op_ ≠ on_) (ne_wk__op_ : wk_ ≠ op_) (g_ov_ : n0 ≤ ov_) (g_on_ : n0 ≤ on_) (g_op_ : n0 ≤ op_) (g_wk_ : n0 ≤ wk_) :
  Meets1 l ym8 B57_ 5 none ws (mkR 1 0 0 12) #[(.ref wk_), (.ref ob_)] Z h0 (fun v h L => v = none ∧ Fr n0 L ∧ Keep h0 h [ov_, on_, op_, wk_] ∧ f5_ Z h wk_ (.int 2) ∧ f9_ Z h wk_ (.ref ov_) ∧ Arv Z h ov_ kov_ (.array (.object cJV)) (16 : Int32) ((.ref va_) :: nN15) .null ∧ f6_ Z h wk_ (.ref vo_) ∧ f10_ Z h wk_ (.ref on_) ∧ f7_ Z h wk_ (.ref nm_) ∧ Arv Z h on_ kon_ (.object cNA) (16 : Int32) nN16 .null ∧ f11_ Z h wk_ (.ref op_) ∧ f8_ Z h wk_ (.int 0) ∧ Arv Z h op_ kop_ .int (16 : Int32) ((.int z_) :: nZ15) (.int 0)) := by
 refine own_start n0 (plainFor_of_name pn54) (fun m => ef54_rr m wk_ ob_) ?_
 intro p e s m below meth c s₁ hns hrt hZ hx hby hml hown hnm X0 e0 N0
 have K0 := Keep.refl h0 [ov_, on_, op_, wk_]
 refine wnu X0 hx hby d54_0 ?_
 refine wasN X0 hx hby d54_1 (l' := #[cr wk_, cr ob_, cu, .val .null, cu]) rfl rfl ?_
 refine walN X0 hx hby d54_2 rfl rfl ?_
 obtain ⟨T246, X246, e246, st246⟩ := instY X0 hx hZ hown (ow hw 419 rfl) e0 (Ins.self Pa0) (g := (mkF m 3 #[cr wk_, cr ob_, cu, .val .null, cu] [(.ref ob_)])) rfl rfl (hb hby d54_3)
 refine Ends.go st246 ?_
 refine win X246 hx hby d54_6 ((if0 _ _).trans (feq (by decide : ¬ ((1 : Int32) = (0 : Int32)))).1) ?_
 refine walN X246 hx hby d54_9 rfl rfl ?_
 obtain ⟨T247, X247, e247, st247⟩ := castY X246 hx hZ hown (ow hw 419 rfl) e246 (Ins.self Pa0) (g := (mkF m 10 #[cr wk_, cr ob_, cu, .val .null, cu] [(.ref ob_)])) rfl rfl (hb hby d54_10)
 refine Ends.go st247 ?_
 refine was X247 hx hby d54_13 (l' := #[cr wk_, cr ob_, cu, .val .null, cr ob_]) rfl rfl ?_
 refine wal X247 hx hby d54_15 rfl rfl ?_
 refine wvb X247 hx hZ hown hw hml rfl hby d54_17 458 rfl 459 rfl 461 rfl 460 rfl (by decide) e247 Pa0 (rx60_19 l Z a0 hw [] n0 h0 O0  ob_ vo_ Pa1) 462 rfl 31 rfl (by decide) (by decide) [] [] pdx_3 rfl rfl rfl (by decide) (by decide) rfl ?_
 intro _ T248 _ X248 hQ248
 obtain ⟨rfl, N248q, K248c⟩ := hQ248
 have N248 := Fr.app N0 N248q
 obtain ⟨h248, e248⟩ : ∃ z, T248.heap = z := ⟨_, rfl⟩
 rw [e248] at K248c
 have K248 := K0.trans K248c all0
 have O248 := O0.keep K248c all0
 refine wasN X248 hx hby d54_20 (l' := #[cr wk_, cr ob_, cr vo_, .val .null, cr ob_]) rfl rfl ?_
 refine wal X248 hx hby d54_21 rfl rfl ?_
 refine wvb X248 hx hZ hown hw hml rfl hby d54_23 463 rfl 464 rfl 466 rfl 465 rfl (by decide) e248 (Pa0.keep K248c) (rx61_22 l Z a0 hw [] n0 h248 O248  ob_ nm_ (Pa2.keep K248c nin0)) 467 rfl 31 rfl (by decide) (by decide) [] [] pdx_4 rfl rfl rfl (by decide) (by decide) rfl ?_
 intro _ T249 _ X249 hQ249
 obtain ⟨rfl, N249q, K249c⟩ := hQ249
 have N249 := Fr.app N248 N249q
 obtain ⟨h249, e249⟩ : ∃ z, T249.heap = z := ⟨_, rfl⟩
 rw [e249] at K249c
 have K249 := K248.trans K249c all0
 refine wasN X249 hx hby d54_26 (l' := #[cr wk_, cr ob_, cr vo_, cr nm_, cr ob_]) rfl rfl ?_
 refine wgo (pc := 27) (pc' := 38) X249 hx hby d54_27 ?_
 refine walN X249 hx hby d54_38 rfl rfl ?_
 refine wgf X249 hx hZ hown hw 429 rfl e249 ((Pa3.keep K248c nin0).keep K249c nin0) hby d54_39 ?_
 intro T250 X250 e250
 refine win X250 hx hby d54_42 ((if0 _ _).trans (tlt (by decide : (0 : Int32) < (1 : Int32))).2.2.2) ?_
 refine walN X250 hx hby d54_45 rfl rfl ?_
 refine wgf X250 hx hZ hown hw 429 rfl e250 ((Pa3.keep K248c nin0).keep K249c nin0) hby d54_46 ?_
 intro T251 X251 e251
 refine walN X251 hx hby d54_49 rfl rfl ?_
 refine wgf X251 hx hZ hown hw 402 rfl e251 ((Pa4.keep K248c nin0).keep K249c nin0) hby d54_50 ?_
 intro T252 X252 e252
 obtain ⟨cl253, Ar253, q253, S253, M253, H253, G253⟩ := id ((Pa5.keep K248c nin0).keep K249c nin0)
 refine Ends.go (X252.arraylength hx (by rw [e252]; exact Ar253.1) (State.isArrayOf_alike hZ.alike Ar253.2.1) (g := (mkF m 53 #[cr wk_, cr ob_, cr vo_, cr nm_, cr ob_] [(.ref ov_), (.int 1)])) rfl rfl (hb hby d54_53)) ?_
 rw [len_of S253 M253]
 refine wcy (pc := 54) (pc' := 61) X252 hx hby d54_54 (flt (by decide : ¬ ((16 : Int32) < (1 : Int32)))).2.2.2 ?_
 refine walN X252 hx hby d54_61 rfl rfl ?_
 refine wgf X252 hx hZ hown hw 402 rfl e252 ((Pa4.keep K248c nin0).keep K249c nin0) hby d54_62 ?_
 intro T254 X254 e254
 refine walN X254 hx hby d54_65 rfl rfl ?_
 refine wgf X254 hx hZ hown hw 429 rfl e254 ((Pa3.keep K248c nin0).keep K249c nin0) hby d54_66 ?_
 intro T255 X255 e255
 refine wic X255 hx hby d54_69 ?_
 show Ends _ _ _ _ T255 (mkF m 70 #[cr wk_, cr ob_, cr vo_, cr nm_, cr ob_] [(.int 1), (.int 1), (.ref ov_)]) _ _ _
 refine wis X255 hx hby d54_70 ?_
 refine walN X255 hx hby d54_71 rfl rfl ?_
 refine wgf X255 hx hZ hown hw 431 rfl e255 ((Pa6.keep K248c nin0).keep K249c nin0) hby d54_72 ?_
 intro T256 X256 e256
 obtain ⟨cl257, Ar257, q257, S257, M257, H257, G257⟩ := id ((Pa5.keep K248c nin0).keep K249c nin0)
 have hin257 := inb_of (j := (0 : Int32)) S257 ⟨by decide, by decide⟩
 obtain ⟨T257, h257, X257, e257, W257, st257⟩ := stR X256 hx hZ e256 Ar257 (j := (0 : Int32)) hin257 rfl (Sto.ofVA Ar257 q257 Pa7 (Ins.self ((Pa8.keep K248c).keep K249c))) (g := (mkF m 75 #[cr wk_, cr ob_, cr vo_, cr nm_, cr ob_] [(.ref va_), (.int 0), (.ref ov_)])) rfl rfl (hb hby d54_75)
 refine Ends.go st257 ?_
 have V257 : Arv Z h257 ov_ kov_ (.array (.object cJV)) (16 : Int32) ((.ref va_) :: nN15) .null := Arv.set Ar257 q257 S257 M257 H257 G257 rfl W257 0 rfl (Nat.le_of_ble_eq_true rfl)
 have K257 := K249.wr W257 (mi 0 rfl)
 have N257 := Fr.snoc X257 N249 g_ov_
 refine walN X257 hx hby d54_76 rfl rfl ?_
 have c258 := ((Pa9.keep K248c nin0).keep K249c nin0).other W257 (Or.inl ne_wk__ov_)
 refine wgf X257 hx hZ hown hw 406 rfl e257 c258 hby d54_77 ?_
 intro T259 X259 e259
 refine walN X259 hx hby d54_80 rfl rfl ?_
 have c260 := ((Pa3.keep K248c nin0).keep K249c nin0).other W257 (Or.inl ne_wk__ov_)
 refine wgf X259 hx hZ hown hw 429 rfl e259 c260 hby d54_81 ?_
 intro T261 X261 e261
 refine wic X261 hx hby d54_84 ?_
 refine wis X261 hx hby d54_85 ?_
 refine walN X261 hx hby d54_86 rfl rfl ?_
 have c262 := ((Pa10.keep K248c nin0).keep K249c nin0).other W257 (Or.inl ne_wk__ov_)
 refine wgf X261 hx hZ hown hw 433 rfl e261 c262 hby d54_87 ?_
 intro T263 X263 e263
 have c265 := ((Pa11.keep K248c nin0).keep K249c nin0).other W257 ne_on__ov_
 obtain ⟨cl264, Ar264, q264, S264, M264, H264, G264⟩ := id c265
 have hin264 := inb_of (j := (0 : Int32)) S264 ⟨by decide, by decide⟩
 obtain ⟨T264, h264, X264, e264, W264, st264⟩ := stR X263 hx hZ e263 Ar264 (j := (0 : Int32)) hin264 rfl (Or.inl rfl) (g := (mkF m 90 #[cr wk_, cr ob_, cr vo_, cr nm_, cr ob_] [.null, (.int 0), (.ref on_)])) rfl rfl (hb hby d54_90)
 refine Ends.go st264 ?_
 have V264 : Arv Z h264 on_ kon_ (.object cNA) (16 : Int32) nN16 .null := Arv.set Ar264 q264 S264 M264 H264 G264 rfl W264 0 rfl (Nat.le_of_ble_eq_true rfl)
 have K264 := K257.wr W264 (mi 1 rfl)
 have N264 := Fr.snoc X264 N257 g_on_
 refine walN X264 hx hby d54_91 rfl rfl ?_
 have c266 := (((Pa12.keep K248c nin0).keep K249c nin0).other W257 (Or.inl ne_wk__ov_)).other W264 (Or.inl ne_wk__on_)
 refine wgf X264 hx hZ hown hw 409 rfl e264 c266 hby d54_92 ?_
 intro T267 X267 e267
 refine walN X267 hx hby d54_95 rfl rfl ?_
 refine wgf X267 hx hZ hown hw 429 rfl e267 (c260.other W264 (Or.inl ne_wk__on_)) hby d54_96 ?_
 intro T268 X268 e268
 refine wic X268 hx hby d54_99 ?_
 refine wis X268 hx hby d54_100 ?_
 refine walN X268 hx hby d54_101 rfl rfl ?_
 have c269 := (((Pa13.keep K248c nin0).keep K249c nin0).other W257 (Or.inl ne_wk__ov_)).other W264 (Or.inl ne_wk__on_)
 refine wgf X268 hx hZ hown hw 435 rfl e268 c269 hby d54_102 ?_
 intro T270 X270 e270
 have c272 := (((Pa14.keep K248c nin0).keep K249c nin0).other W257 ne_op__ov_).other W264 ne_op__on_
 obtain ⟨cl271, Ar271, q271, S271, M271, H271, G271⟩ := id c272
 have hin271 := inb_of (j := (0 : Int32)) S271 ⟨by decide, by decide⟩
 obtain ⟨T271, h271, X271, e271, W271, st271⟩ := stI X270 hx hZ e270 Ar271 (j := (0 : Int32)) hin271 (g := (mkF m 105 #[cr wk_, cr ob_, cr vo_, cr nm_, cr ob_] [(.int z_), (.int 0), (.ref op_)])) rfl rfl (hb hby d54_105)
 refine Ends.go st271 ?_
 have V271 : Arv Z h271 op_ kop_ .int (16 : Int32) ((.int z_) :: nZ15) (.int 0) := Arv.set Ar271 q271 S271 M271 H271 G271 rfl W271 0 rfl (Nat.le_of_ble_eq_true rfl)
 have K271 := K264.wr W271 (mi 2 rfl)
 have N271 := Fr.snoc X271 N264 g_op_
 refine walN X271 hx hby d54_106 rfl rfl ?_
 refine walN X271 hx hby d54_107 rfl rfl ?_
 have c273 := ((((Pa6.keep K248c nin0).keep K249c nin0).other W257 (Or.inl ne_wk__ov_)).other W264 (Or.inl ne_wk__on_)).other W271 (Or.inl ne_wk__op_)
 refine wpf X271 hx hZ hown hw 431 rfl e271 c273 (((((Pa15.keep K248c).keep K249c).wr W257).wr W264).wr W271) 432 rfl 394 rfl (ty := (.array (.object cJV))) (by decide) rfl rfl hby d54_108 ?_
 intro T274 h274 X274 e274 W274
 have Fw274 := c273.same W274
 have K274 := K271.wr W274 (mi 3 rfl)
 have N274 := Fr.snoc X274 N271 g_wk_
 refine walN X274 hx hby d54_111 rfl rfl ?_
 refine walN X274 hx hby d54_112 rfl rfl ?_
 have c275 := (((((Pa15.keep K248c).keep K249c).wr W257).wr W264).wr W271).wr W274
 have c276 := ((c262.other W264 (Or.inl ne_wk__on_)).other W271 (Or.inl ne_wk__op_)).other W274 (sll hw 434 rfl 432 rfl)
 refine wpf X274 hx hZ hown hw 433 rfl e274 c276 c275 434 rfl 394 rfl (ty := (.object cNA)) (by decide) rfl rfl hby d54_113 ?_
 intro T277 h277 X277 e277 W277
 have Fw277 := c276.same W277
 have K277 := K274.wr W277 (mi 3 rfl)
 have N277 := Fr.snoc X277 N274 g_wk_
 refine walN X277 hx hby d54_116 rfl rfl ?_
 refine wic X277 hx hby d54_117 ?_
 show Ends _ _ _ _ T277 (mkF m 118 #[cr wk_, cr ob_, cr vo_, cr nm_, cr ob_] [(.int 0), (.ref wk_)]) _ _ _
 have c278 := ((c269.other W271 (Or.inl ne_wk__op_)).other W274 (sll hw 436 rfl 432 rfl)).other W277 (sll hw 436 rfl 434 rfl)
 refine wpf X277 hx hZ hown hw 435 rfl e277 c278 (c275.wr W277) 436 rfl 394 rfl (ty := .int) (by decide) rfl rfl hby d54_118 ?_
 intro T279 h279 X279 e279 W279
 have Fw279 := c278.same W279
 have K279 := K277.wr W279 (mi 3 rfl)
 have N279 := Fr.snoc X279 N277 g_wk_
 refine walN X279 hx hby d54_121 rfl rfl ?_
 refine wdu X279 hx hby d54_122 rfl ?_
 have c280 := ((((c260.other W264 (Or.inl ne_wk__on_)).other W271 (Or.inl ne_wk__op_)).other W274 (sll hw 430 rfl 432 rfl)).other W277 (sll hw 430 rfl 434 rfl)).other W279 (sll hw 430 rfl 436 rfl)
 refine wgf X279 hx hZ hown hw 429 rfl e279 c280 hby d54_123 ?_
 intro T281 X281 e281
 refine wic X281 hx hby d54_126 ?_
 refine wia X281 hx hby d54_127 ?_
 refine wpf X281 hx hZ hown hw 429 rfl e281 c280 ((c275.wr W277).wr W279) 430 rfl 394 rfl (ty := .int) (by decide) rfl rfl hby d54_128 ?_
 intro T282 h282 X282 e282 W282
 have Fw282 := c280.same W282
 have K282 := K279.wr W282 (mi 3 rfl)
 have N282 := Fr.snoc X282 N279 g_wk_
 refine Ends.retV X282 hx hns hrt (hb hby d54_131) (by decide) (by decide) ?_
 rw [e282]
 have c283 := ((((((((Pa4.keep K248c nin0).keep K249c nin0).other W257 (Or.inl ne_wk__ov_)).other W264 (Or.inl ne_wk__on_)).other W271 (Or.inl ne_wk__op_)).other W274 (sll hw 403 rfl 432 rfl)).other W277 (sll hw 403 rfl 434 rfl)).other W279 (sll hw 403 rfl 436 rfl)).other W282 (sll hw 403 rfl 430 rfl)
 have c284 := (((((V257.other W264 (Ne.symm ne_on__ov_)).other W271 (Ne.symm ne_op__ov_)).other W274 (Ne.symm ne_wk__ov_)).other W277 (Ne.symm ne_wk__ov_)).other W279 (Ne.symm ne_wk__ov_)).other W282 (Ne.symm ne_wk__ov_)
 have c285 := ((Fw274.other W277 (sll hw 432 rfl 434 rfl)).other W279 (sll hw 432 rfl 436 rfl)).other W282 (sll hw 432 rfl 430 rfl)
 have c286 := (((((c258.other W264 (Or.inl ne_wk__on_)).other W271 (Or.inl ne_wk__op_)).other W274 (sll hw 407 rfl 432 rfl)).other W277 (sll hw 407 rfl 434 rfl)).other W279 (sll hw 407 rfl 436 rfl)).other W282 (sll hw 407 rfl 430 rfl)
 have c287 := (Fw277.other W279 (sll hw 434 rfl 436 rfl)).other W282 (sll hw 434 rfl 430 rfl)
 have c288 := ((((V264.other W271 (Ne.symm ne_op__on_)).other W274 (Ne.symm ne_wk__on_)).other W277 (Ne.symm ne_wk__on_)).other W279 (Ne.symm ne_wk__on_)).other W282 (Ne.symm ne_wk__on_)
 have c289 := ((((c266.other W271 (Or.inl ne_wk__op_)).other W274 (sll hw 410 rfl 432 rfl)).other W277 (sll hw 410 rfl 434 rfl)).other W279 (sll hw 410 rfl 436 rfl)).other W282 (sll hw 410 rfl 430 rfl)
 have c290 := Fw279.other W282 (sll hw 436 rfl 430 rfl)
 have c291 := (((V271.other W274 (Ne.symm ne_wk__op_)).other W277 (Ne.symm ne_wk__op_)).other W279 (Ne.symm ne_wk__op_)).other W282 (Ne.symm ne_wk__op_)
 exact ⟨rfl, N282, K282, Fw282, c283, c284, c285, c286, c287, c288, c289, c290, c291⟩

theorem rmStep_1ao (l : Launch) (Z : State) (a0 : Array Value) (hw : HW a0 Z) (ws : List Jvm.Cond) (n0 : Nat) (h0 : Heap) (O0 : Old Z n0 h0)  (G1 : Int32) (w_EMPTY : Addr) (GF : GlobF Z G1 w_EMPTY) (wk_ ov_ on_ op_ ob_ nm_ vo_ ar_ va_ : Addr) (kvo_ kva_ kov_ kon_ kop_ : ClassId) (z_ : Int32) (p_ : Int32) (g_wk_ : n0 ≤ wk_) (g_ov_ : n0 ≤ ov_) (g_on_ : n0 ≤ on_) (g_op_ : n0 ≤ op_) (NEs : own_NE wk_ ov_ on_ op_ ob_ nm_ vo_ ar_ va_) (SF : own_SF Z h0 w_EMPTY wk_ ov_ on_ op_ ob_ nm_ vo_ ar_ va_ kvo_ kva_ kov_ kon_ kop_ (.ref va_) .null z_ (1 : Int32) nN16 nN16 nZ16) (hp_ : (p_ = 0 ∨ p_ = 1)) :
  Meets1 l ym10 B39_ 3 none ws (mkR 2 0 0 40) #[(.ref wk_), (.ref ob_), (.int p_)] Z h0 (fun v h L => v = none ∧ Fr n0 L ∧ Keep h0 h [wk_, ov_, on_, op_] ∧ own_SQ Z h wk_ ov_ on_ op_ kov_ kon_ kop_ (.ref vo_) (.ref nm_) p_ (2 : Int32) ((.ref va_) :: nN15) nN16 ((.int z_) :: nZ15)) := by
 refine own_start n0 (plainFor_of_name pn53) (fun m => ef53_rri m wk_ ob_ p_) ?_
 intro p e s m below meth c s₁ hns hrt hZ hx hby hml hown hnm X0 e0 N0
 have K0 := Keep.refl h0 [wk_, ov_, on_, op_]
 obtain ⟨SCS, P5, S_EMPTY, E_EMPTY⟩ := id GF
 obtain ⟨ne_wk_ov_, ne_wk_on_, ne_wk_op_, ne_wk_ob_, ne_wk_nm_, ne_wk_vo_, ne_wk_ar_, ne_wk_va_, ne_ov_on_, ne_ov_op_, ne_ov_ob_, ne_ov_nm_, ne_ov_vo_, ne_ov_ar_, ne_ov_va_, ne_on_op_, ne_on_ob_, ne_on_nm_, ne_on_vo_, ne_on_ar_, ne_on_va_, ne_op_ob_, ne_op_nm_, ne_op_vo_, ne_op_ar_, ne_op_va_⟩ := NEs
 obtain ⟨PE_wk_, PE_ob_, PE_nm_, PE_vo_, PE_ar_, PE_va_, PF_ob__names, PF_ob__values, PF_ar__elements, PF_wk__values, PF_wk__names, PF_wk__place, PF_wk__depth, PF_wk__outerValues, PF_wk__outerNames, PF_wk__outerPlaces, PV_vo_, PV_va_, PV_ov_, PV_on_, PV_op_, PO_ov_, PO_on_⟩ := SF
 refine walN X0 hx hby d53_0 rfl rfl ?_
 refine walN X0 hx hby d53_1 rfl rfl ?_
 refine wvb X0 hx hZ hown hw hml rfl hby d53_2 414 rfl 415 rfl 417 rfl 416 rfl (by decide) e0 PE_wk_ (rx54_245 l Z a0 hw [] n0 h0 O0  wk_ ob_ vo_ nm_ ov_ kov_ va_ on_ kon_ op_ z_ kop_ PE_ob_ PF_ob__values PF_ob__names PF_wk__depth PF_wk__outerValues PV_ov_ PF_wk__values PO_ov_ PE_va_ PF_wk__outerNames PF_wk__names PV_on_ PF_wk__outerPlaces PF_wk__place PV_op_ PE_wk_ PO_on_ ne_wk_ov_ (Ne.symm ne_ov_on_) ne_wk_on_ (Ne.symm ne_ov_op_) (Ne.symm ne_on_op_) ne_wk_op_ g_ov_ g_on_ g_op_ g_wk_) 418 rfl 395 rfl (by decide) (by decide) [(.ref ob_)] [] pdx_5 rfl rfl rfl (by decide) (by decide) rfl ?_
 intro _ T292 _ X292 hQ292
 obtain ⟨rfl, N292q, K292c, Y292_0, Y292_1, Y292_2, Y292_3, Y292_4, Y292_5, Y292_6, Y292_7, Y292_8, Y292_9⟩ := hQ292
 have N292 := Fr.app N0 N292q
 obtain ⟨h292, e292⟩ : ∃ z, T292.heap = z := ⟨_, rfl⟩
 rw [e292] at K292c Y292_0 Y292_1 Y292_2 Y292_3 Y292_4 Y292_5 Y292_6 Y292_7 Y292_8 Y292_9
 have K292 := K0.trans K292c (allS (mi 1 rfl) (allS (mi 2 rfl) (allS (mi 3 rfl) (allS (mi 0 rfl) all0))))
 have O292 := O0.keep K292c (allS g_ov_ (allS g_on_ (allS g_op_ (allS g_wk_ all0))))
 rcases hp_ with rfl | rfl
 ·show Ends _ _ _ _ T292 (mkF m 5 #[cr wk_, cr ob_, ci 0] []) _ _ _
  refine wilN X292 hx hby d53_5 rfl ?_
  refine wiy (pc := 6) (pc' := 14) X292 hx hby d53_6 ((if0 _ _).trans (flt (by decide : ¬ ((0 : Int32) < (0 : Int32)))).2.2.2) ?_
  refine wilN X292 hx hby d53_14 rfl ?_
  refine wic X292 hx hby d53_15 ?_
  refine wcy (pc := 16) (pc' := 24) X292 hx hby d53_16 (flt (by decide : ¬ ((1 : Int32) < (0 : Int32)))).2.2.2 ?_
  refine Ends.retV X292 hx hns hrt (hb hby d53_24) (by decide) (by decide) ?_
  rw [e292]
  exact ⟨rfl, N292, K292, Y292_3, Y292_5, Y292_8, Y292_0, Y292_1, Y292_4, Y292_7, Y292_2, Y292_6, Y292_9⟩
 ·show Ends _ _ _ _ T292 (mkF m 5 #[cr wk_, cr ob_, ci 1] []) _ _ _
  refine wilN X292 hx hby d53_5 rfl ?_
  refine win X292 hx hby d53_6 ((if0 _ _).trans (tlt (by decide : (0 : Int32) < (1 : Int32))).2.2.2) ?_
  refine walN X292 hx hby d53_9 rfl rfl ?_
  have c293 := PV_vo_.keep K292c (ninS (Ne.symm ne_ov_vo_) (ninS (Ne.symm ne_on_vo_) (ninS (Ne.symm ne_op_vo_) (ninS (Ne.symm ne_wk_vo_) nin0))))
  refine wvb X292 hx hZ hown hw hml rfl hby d53_10 452 rfl 453 rfl 455 rfl 454 rfl (by decide) e292 (PE_wk_.keep K292c) (rx59_158 l Z a0 hw [] n0 h292 O292 G1 w_EMPTY GF wk_ vo_ kvo_ ov_ on_ nm_ op_ Y292_3 Y292_8 (PE_wk_.keep K292c) c293 Y292_0 Y292_1 Y292_4 Y292_5 Y292_7 (Ne.symm ne_wk_vo_) g_wk_) 456 rfl 395 rfl (by decide) (by decide) [] [] pdx_6 rfl rfl rfl (by decide) (by decide) rfl ?_
  intro _ T294 _ X294 hQ294
  obtain ⟨rfl, N294q, K294c, Y294_0, Y294_1, Y294_2, Y294_3, Y294_4, Y294_5, Y294_6⟩ := hQ294
  have N294 := Fr.app N292 N294q
  obtain ⟨h294, e294⟩ : ∃ z, T294.heap = z := ⟨_, rfl⟩
  rw [e294] at K294c Y294_0 Y294_1 Y294_2 Y294_3 Y294_4 Y294_5 Y294_6
  have K294 := K292.trans K294c (allS (mi 0 rfl) all0)
  refine wpo X294 hx hby d53_13 rfl ?_
  refine wilN X294 hx hby d53_14 rfl ?_
  refine wic X294 hx hby d53_15 ?_
  refine wcy (pc := 16) (pc' := 24) X294 hx hby d53_16 (flt (by decide : ¬ ((1 : Int32) < (1 : Int32)))).2.2.2 ?_
  refine Ends.retV X294 hx hns hrt (hb hby d53_24) (by decide) (by decide) ?_
  rw [e294]
  exact ⟨rfl, N294, K294, Y294_0, Y294_5, Y294_1, Y294_2, Y294_3, Y294_4, Y294_6, (Y292_2.keep K294c (ninS (Ne.symm ne_wk_ov_) nin0)), (Y292_6.keep K294c (ninS (Ne.symm ne_wk_on_) nin0)), (Y292_9.keep K294c (ninS (Ne.symm ne_wk_op_) nin0))⟩

theorem rx54_295 (l : Launch) (Z : State) (a0 : Array Value) (hw : HW a0 Z) (ws : List Jvm.Cond) (n0 : Nat) (h0 : Heap) (O0 : Old Z n0 h0)  (wk_ : Addr) (ar_ : Addr) (va_ : Addr) (ov_ : Addr) (kov_ : ClassId) (on_ : Addr) (kon_ : ClassId) (op_ : Addr) (z_ : Int32) (kop_ : ClassId) (Pa0 : Exa Z h0 ar_ cJA) (Pa1 : f12_ Z h0 ar_ (.ref va_)) (Pa2 : f5_ Z h0 wk_ (.int 1)) (Pa3 : f9_ Z h0 wk_ (.ref ov_)) (Pa4 : Arv Z h0 ov_ kov_ (.array (.object cJV)) (16 : Int32) nN16 .null) (Pa5 : f6_ Z h0 wk_ (.ref va_)) (Pa6 : OvrA Z kov_ (.object cJV) cAJ) (Pa7 : Exa Z h0 va_ cAJ) (Pa8 : f10_ Z h0 wk_ (.ref on_)) (Pa9 : f7_ Z h0 wk_ .null) (Pa10 : Arv Z h0 on_ kon_ (.object cNA) (16 : Int32) nN16 .null) (Pa11 : f11_ Z h0 wk_ (.ref op_)) (Pa12 : f8_ Z h0 wk_ (.int z_)) (Pa13 : Arv Z h0 op_ kop_ .int (16 : Int32) nZ16 (.int 0)) (Pa14 : Exa Z h0 wk_ cWK) (Pa15 : Ovr Z kon_ cNA) (ne_wk__ov_ : wk_ ≠ ov_) (ne_on__ov_ : on_ ≠ ov_) (ne_wk__on_ : wk_ ≠ on_) (ne_op__ov_ : op_ ≠ ov_) (ne_op__on_ : op_ ≠ on_) (ne_wk__op_ : wk_ ≠ op_) (g_ov_ : n0 ≤ ov_) (g_on_ : n0 ≤ on_) (g_op_ : n0 ≤ op_) (g_wk_ : n0 ≤ wk_) :
  Meets1 l ym8 B57_ 5 none ws (mkR 1 0 0 12) #[(.ref wk_), (.ref ar_)] Z h0 (fun v h L => v = none ∧ Fr n0 L ∧ Keep h0 h [ov_, on_, op_, wk_] ∧ f5_ Z h wk_ (.int 2) ∧ f9_ Z h wk_ (.ref ov_) ∧ Arv Z h ov_ kov_ (.array (.object cJV)) (16 : Int32) ((.ref va_) :: nN15) .null ∧ f6_ Z h wk_ (.ref va_) ∧ f10_ Z h wk_ (.ref on_) ∧ f7_ Z h wk_ .null ∧ Arv Z h on_ kon_ (.object cNA) (16 : Int32) nN16 .null ∧ f11_ Z h wk_ (.ref op_) ∧ f8_ Z h wk_ (.int 0) ∧ Arv Z h op_ kop_ .int (16 : Int32) ((.int z_) :: nZ15) (.int 0)) := by
 refine own_start n0 (plainFor_of_name pn54) (fun m => ef54_rr m wk_ ar_) ?_
 intro p e s m below meth c s₁ hns hrt hZ hx hby hml hown hnm X0 e0 N0
 have K0 := Keep.refl h0 [ov_, on_, op_, wk_]
 refine wnu X0 hx hby d54_0 ?_
 refine wasN X0 hx hby d54_1 (l' := #[cr wk_, cr ar_, cu, .val .null, cu]) rfl rfl ?_
 refine walN X0 hx hby d54_2 rfl rfl ?_
 obtain ⟨T296, X296, e296, st296⟩ := instNo X0 hx hZ hown (ow hw 419 rfl) e0 Pa0 (own_noinst (ow hw 420 rfl) (ow hw 421 rfl) (ow hw 366 rfl) (by decide) (by decide)) (g := (mkF m 3 #[cr wk_, cr ar_, cu, .val .null, cu] [(.ref ar_)])) rfl rfl (hb hby d54_3)
 refine Ends.go st296 ?_
 refine wiy (pc := 6) (pc' := 30) X296 hx hby d54_6 ((if0 _ _).trans (teq (by decide : (0 : Int32) = (0 : Int32))).1) ?_
 refine walN X296 hx hby d54_30 rfl rfl ?_
 obtain ⟨T297, X297, e297, st297⟩ := castY X296 hx hZ hown (ow hw 422 rfl) e296 (Ins.self Pa0) (g := (mkF m 31 #[cr wk_, cr ar_, cu, .val .null, cu] [(.ref ar_)])) rfl rfl (hb hby d54_31)
 refine Ends.go st297 ?_
 refine wvb X297 hx hZ hown hw hml rfl hby d54_34 424 rfl 425 rfl 427 rfl 426 rfl (by decide) e297 Pa0 (rx55_59 l Z a0 hw [] n0 h0 O0  ar_ va_ Pa1) 428 rfl 1 rfl (by decide) (by decide) [] [] pdx_3 rfl rfl rfl (by decide) (by decide) rfl ?_
 intro _ T298 _ X298 hQ298
 obtain ⟨rfl, N298q, K298c⟩ := hQ298
 have N298 := Fr.app N0 N298q
 obtain ⟨h298, e298⟩ : ∃ z, T298.heap = z := ⟨_, rfl⟩
 rw [e298] at K298c
 have K298 := K0.trans K298c all0
 refine wasN X298 hx hby d54_37 (l' := #[cr wk_, cr ar_, cr va_, .val .null, cu]) rfl rfl ?_
 refine walN X298 hx hby d54_38 rfl rfl ?_
 refine wgf X298 hx hZ hown hw 429 rfl e298 (Pa2.keep K298c nin0) hby d54_39 ?_
 intro T299 X299 e299
 refine win X299 hx hby d54_42 ((if0 _ _).trans (tlt (by decide : (0 : Int32) < (1 : Int32))).2.2.2) ?_
 refine walN X299 hx hby d54_45 rfl rfl ?_
 refine wgf X299 hx hZ hown hw 429 rfl e299 (Pa2.keep K298c nin0) hby d54_46 ?_
 intro T300 X300 e300
 refine walN X300 hx hby d54_49 rfl rfl ?_
 refine wgf X300 hx hZ hown hw 402 rfl e300 (Pa3.keep K298c nin0) hby d54_50 ?_
 intro T301 X301 e301
 obtain ⟨cl302, Ar302, q302, S302, M302, H302, G302⟩ := id (Pa4.keep K298c nin0)
 refine Ends.go (X301.arraylength hx (by rw [e301]; exact Ar302.1) (State.isArrayOf_alike hZ.alike Ar302.2.1) (g := (mkF m 53 #[cr wk_, cr ar_, cr va_, .val .null, cu] [(.ref ov_), (.int 1)])) rfl rfl (hb hby d54_53)) ?_
 rw [len_of S302 M302]
 refine wcy (pc := 54) (pc' := 61) X301 hx hby d54_54 (flt (by decide : ¬ ((16 : Int32) < (1 : Int32)))).2.2.2 ?_
 refine walN X301 hx hby d54_61 rfl rfl ?_
 refine wgf X301 hx hZ hown hw 402 rfl e301 (Pa3.keep K298c nin0) hby d54_62 ?_
 intro T303 X303 e303
 refine walN X303 hx hby d54_65 rfl rfl ?_
 refine wgf X303 hx hZ hown hw 429 rfl e303 (Pa2.keep K298c nin0) hby d54_66 ?_
 intro T304 X304 e304
 refine wic X304 hx hby d54_69 ?_
 refine wis X304 hx hby d54_70 ?_
 refine walN X304 hx hby d54_71 rfl rfl ?_
 refine wgf X304 hx hZ hown hw 431 rfl e304 (Pa5.keep K298c nin0) hby d54_72 ?_
 intro T305 X305 e305
 obtain ⟨cl306, Ar306, q306, S306, M306, H306, G306⟩ := id (Pa4.keep K298c nin0)
 have hin306 := inb_of (j := (0 : Int32)) S306 ⟨by decide, by decide⟩
 obtain ⟨T306, h306, X306, e306, W306, st306⟩ := stR X305 hx hZ e305 Ar306 (j := (0 : Int32)) hin306 rfl (Sto.ofVA Ar306 q306 Pa6 (Ins.self (Pa7.keep K298c))) (g := (mkF m 75 #[cr wk_, cr ar_, cr va_, .val .null, cu] [(.ref va_), (.int 0), (.ref ov_)])) rfl rfl (hb hby d54_75)
 refine Ends.go st306 ?_
 have V306 : Arv Z h306 ov_ kov_ (.array (.object cJV)) (16 : Int32) ((.ref va_) :: nN15) .null := Arv.set Ar306 q306 S306 M306 H306 G306 rfl W306 0 rfl (Nat.le_of_ble_eq_true rfl)
 have K306 := K298.wr W306 (mi 0 rfl)
 have N306 := Fr.snoc X306 N298 g_ov_
 refine walN X306 hx hby d54_76 rfl rfl ?_
 refine wgf X306 hx hZ hown hw 406 rfl e306 ((Pa8.keep K298c nin0).other W306 (Or.inl ne_wk__ov_)) hby d54_77 ?_
 intro T307 X307 e307
 show Ends _ _ _ _ T307 (mkF m 80 #[cr wk_, cr ar_, cr va_, .val .null, cu] [(.ref on_)]) _ _ _
 refine walN X307 hx hby d54_80 rfl rfl ?_
 refine wgf X307 hx hZ hown hw 429 rfl e307 ((Pa2.keep K298c nin0).other W306 (Or.inl ne_wk__ov_)) hby d54_81 ?_
 intro T308 X308 e308
 refine wic X308 hx hby d54_84 ?_
 refine wis X308 hx hby d54_85 ?_
 refine walN X308 hx hby d54_86 rfl rfl ?_
 refine wgf X308 hx hZ hown hw 433 rfl e308 ((Pa9.keep K298c nin0).other W306 (Or.inl ne_wk__ov_)) hby d54_87 ?_
 intro T309 X309 e309
 obtain ⟨cl310, Ar310, q310, S310, M310, H310, G310⟩ := id ((Pa10.keep K298c nin0).other W306 ne_on__ov_)
 have hin310 := inb_of (j := (0 : Int32)) S310 ⟨by decide, by decide⟩
 obtain ⟨T310, h310, X310, e310, W310, st310⟩ := stR X309 hx hZ e309 Ar310 (j := (0 : Int32)) hin310 rfl (Or.inl rfl) (g := (mkF m 90 #[cr wk_, cr ar_, cr va_, .val .null, cu] [.null, (.int 0), (.ref on_)])) rfl rfl (hb hby d54_90)
 refine Ends.go st310 ?_
 have V310 : Arv Z h310 on_ kon_ (.object cNA) (16 : Int32) nN16 .null := Arv.set Ar310 q310 S310 M310 H310 G310 rfl W310 0 rfl (Nat.le_of_ble_eq_true rfl)
 have K310 := K306.wr W310 (mi 1 rfl)
 have N310 := Fr.snoc X310 N306 g_on_
 refine walN X310 hx hby d54_91 rfl rfl ?_
 have c311 := ((Pa11.keep K298c nin0).other W306 (Or.inl ne_wk__ov_)).other W310 (Or.inl ne_wk__on_)
 refine wgf X310 hx hZ hown hw 409 rfl e310 c311 hby d54_92 ?_
 intro T312 X312 e312
 refine walN X312 hx hby d54_95 rfl rfl ?_
 have c313 := ((Pa2.keep K298c nin0).other W306 (Or.inl ne_wk__ov_)).other W310 (Or.inl ne_wk__on_)
 refine wgf X312 hx hZ hown hw 429 rfl e312 c313 hby d54_96 ?_
 intro T314 X314 e314
 refine wic X314 hx hby d54_99 ?_
 refine wis X314 hx hby d54_100 ?_
 refine walN X314 hx hby d54_101 rfl rfl ?_
 have c315 := ((Pa12.keep K298c nin0).other W306 (Or.inl ne_wk__ov_)).other W310 (Or.inl ne_wk__on_)
 refine wgf X314 hx hZ hown hw 435 rfl e314 c315 hby d54_102 ?_
 intro T316 X316 e316
 have c318 := ((Pa13.keep K298c nin0).other W306 ne_op__ov_).other W310 ne_op__on_
 obtain ⟨cl317, Ar317, q317, S317, M317, H317, G317⟩ := id c318
 have hin317 := inb_of (j := (0 : Int32)) S317 ⟨by decide, by decide⟩
 obtain ⟨T317, h317, X317, e317, W317, st317⟩ := stI X316 hx hZ e316 Ar317 (j := (0 : Int32)) hin317 (g := (mkF m 105 #[cr wk_, cr ar_, cr va_, .val .null, cu] [(.int z_), (.int 0), (.ref op_)])) rfl rfl (hb hby d54_105)
 refine Ends.go st317 ?_
 have V317 : Arv Z h317 op_ kop_ .int (16 : Int32) ((.int z_) :: nZ15) (.int 0) := Arv.set Ar317 q317 S317 M317 H317 G317 rfl W317 0 rfl (Nat.le_of_ble_eq_true rfl)
 have K317 := K310.wr W317 (mi 2 rfl)
 have N317 := Fr.snoc X317 N310 g_op_
 refine walN X317 hx hby d54_106 rfl rfl ?_
 refine walN X317 hx hby d54_107 rfl rfl ?_
 have c319 := (((Pa5.keep K298c nin0).other W306 (Or.inl ne_wk__ov_)).other W310 (Or.inl ne_wk__on_)).other W317 (Or.inl ne_wk__op_)
 refine wpf X317 hx hZ hown hw 431 rfl e317 c319 ((((Pa14.keep K298c).wr W306).wr W310).wr W317) 432 rfl 394 rfl (ty := (.array (.object cJV))) (by decide) rfl rfl hby d54_108 ?_
 intro T320 h320 X320 e320 W320
 have Fw320 := c319.same W320
 have K320 := K317.wr W320 (mi 3 rfl)
 have N320 := Fr.snoc X320 N317 g_wk_
 refine walN X320 hx hby d54_111 rfl rfl ?_
 refine walN X320 hx hby d54_112 rfl rfl ?_
 have c321 := ((((Pa9.keep K298c nin0).other W306 (Or.inl ne_wk__ov_)).other W310 (Or.inl ne_wk__on_)).other W317 (Or.inl ne_wk__op_)).other W320 (sll hw 434 rfl 432 rfl)
 refine wpf X320 hx hZ hown hw 433 rfl e320 c321 (((((Pa14.keep K298c).wr W306).wr W310).wr W317).wr W320) 434 rfl 394 rfl (ty := (.object cNA)) (by decide) rfl rfl hby d54_113 ?_
 intro T322 h322 X322 e322 W322
 have Fw322 := c321.same W322
 have K322 := K320.wr W322 (mi 3 rfl)
 have N322 := Fr.snoc X322 N320 g_wk_
 refine walN X322 hx hby d54_116 rfl rfl ?_
 refine wic X322 hx hby d54_117 ?_
 have c323 := (((((Pa14.keep K298c).wr W306).wr W310).wr W317).wr W320).wr W322
 have c324 := ((c315.other W317 (Or.inl ne_wk__op_)).other W320 (sll hw 436 rfl 432 rfl)).other W322 (sll hw 436 rfl 434 rfl)
 refine wpf X322 hx hZ hown hw 435 rfl e322 c324 c323 436 rfl 394 rfl (ty := .int) (by decide) rfl rfl hby d54_118 ?_
 intro T325 h325 X325 e325 W325
 have Fw325 := c324.same W325
 have K325 := K322.wr W325 (mi 3 rfl)
 have N325 := Fr.snoc X325 N322 g_wk_
 refine walN X325 hx hby d54_121 rfl rfl ?_
 refine wdu X325 hx hby d54_122 rfl ?_
 have c326 := (((c313.other W317 (Or.inl ne_wk__op_)).other W320 (sll hw 430 rfl 432 rfl)).other W322 (sll hw 430 rfl 434 rfl)).other W325 (sll hw 430 rfl 436 rfl)
 refine wgf X325 hx hZ hown hw 429 rfl e325 c326 hby d54_123 ?_
 intro T327 X327 e327
 refine wic X327 hx hby d54_126 ?_
 refine wia X327 hx hby d54_127 ?_
 show Ends _ _ _ _ T327 (mkF m 128 #[cr wk_, cr ar_, cr va_, .val .null, cu] [(.int 2), (.ref wk_)]) _ _ _
 refine wpf X327 hx hZ hown hw 429 rfl e327 c326 (c323.wr W325) 430 rfl 394 rfl (ty := .int) (by decide) rfl rfl hby d54_128 ?_
 intro T328 h328 X328 e328 W328
 have Fw328 := c326.same W328
 have K328 := K325.wr W328 (mi 3 rfl)
 have N328 := Fr.snoc X328 N325 g_wk_
 refine Ends.retV X328 hx hns hrt (hb hby d54_131) (by decide) (by decide) ?_
 rw [e328]
 have c329 := (((((((Pa3.keep K298c nin0).other W306 (Or.inl ne_wk__ov_)).other W310 (Or.inl ne_wk__on_)).other W317 (Or.inl ne_wk__op_)).other W320 (sll hw 403 rfl 432 rfl)).other W322 (sll hw 403 rfl 434 rfl)).other W325 (sll hw 403 rfl 436 rfl)).other W328 (sll hw 403 rfl 430 rfl)
 have c330 := (((((V306.other W310 (Ne.symm ne_on__ov_)).other W317 (Ne.symm ne_op__ov_)).other W320 (Ne.symm ne_wk__ov_)).other W322 (Ne.symm ne_wk__ov_)).other W325 (Ne.symm ne_wk__ov_)).other W328 (Ne.symm ne_wk__ov_)
 have c331 := ((Fw320.other W322 (sll hw 432 rfl 434 rfl)).other W325 (sll hw 432 rfl 436 rfl)).other W328 (sll hw 432 rfl 430 rfl)
 have c332 := (((((((Pa8.keep K298c nin0).other W306 (Or.inl ne_wk__ov_)).other W310 (Or.inl ne_wk__on_)).other W317 (Or.inl ne_wk__op_)).other W320 (sll hw 407 rfl 432 rfl)).other W322 (sll hw 407 rfl 434 rfl)).other W325 (sll hw 407 rfl 436 rfl)).other W328 (sll hw 407 rfl 430 rfl)
 have c333 := (Fw322.other W325 (sll hw 434 rfl 436 rfl)).other W328 (sll hw 434 rfl 430 rfl)
 have c334 := ((((V310.other W317 (Ne.symm ne_op__on_)).other W320 (Ne.symm ne_wk__on_)).other W322 (Ne.symm ne_wk__on_)).other W325 (Ne.symm ne_wk__on_)).other W328 (Ne.symm ne_wk__on_)
 have c335 := ((((c311.other W317 (Or.inl ne_wk__op_)).other W320 (sll hw 410 rfl 432 rfl)).other W322 (sll hw 410 rfl 434 rfl)).other W325 (sll hw 410 rfl 436 rfl)).other W328 (sll hw 410 rfl 430 rfl)
 have c336 := Fw325.other W328 (sll hw 436 rfl 430 rfl)
 have c337 := (((V317.other W320 (Ne.symm ne_wk__op_)).other W322 (Ne.symm ne_wk__op_)).other W325 (Ne.symm ne_wk__op_)).other W328 (Ne.symm ne_wk__op_)
 exact ⟨rfl, N328, K328, Fw328, c329, c330, c331, c332, c333, c334, c335, c336, c337⟩

theorem rmStep_1aa (l : Launch) (Z : State) (a0 : Array Value) (hw : HW a0 Z) (ws : List Jvm.Cond) (n0 : Nat) (h0 : Heap) (O0 : Old Z n0 h0)  (G1 : Int32) (w_EMPTY : Addr) (GF : GlobF Z G1 w_EMPTY) (wk_ ov_ on_ op_ ob_ nm_ vo_ ar_ va_ : Addr) (kvo_ kva_ kov_ kon_ kop_ : ClassId) (z_ : Int32) (p_ : Int32) (g_wk_ : n0 ≤ wk_) (g_ov_ : n0 ≤ ov_) (g_on_ : n0 ≤ on_) (g_op_ : n0 ≤ op_) (NEs : own_NE wk_ ov_ on_ op_ ob_ nm_ vo_ ar_ va_) (SF : own_SF Z h0 w_EMPTY wk_ ov_ on_ op_ ob_ nm_ vo_ ar_ va_ kvo_ kva_ kov_ kon_ kop_ (.ref va_) .null z_ (1 : Int32) nN16 nN16 nZ16) (hp_ : (p_ = 0 ∨ p_ = 1 ∨ p_ = 2)) :
  Meets1 l ym10 B39_ 3 none ws (mkR 2 0 0 40) #[(.ref wk_), (.ref ar_), (.int p_)] Z h0 (fun v h L => v = none ∧ Fr n0 L ∧ Keep h0 h [wk_, ov_, on_, op_] ∧ own_SQ Z h wk_ ov_ on_ op_ kov_ kon_ kop_ (.ref va_) .null p_ (2 : Int32) ((.ref va_) :: nN15) nN16 ((.int z_) :: nZ15)) := by
 refine own_start n0 (plainFor_of_name pn53) (fun m => ef53_rri m wk_ ar_ p_) ?_
 intro p e s m below meth c s₁ hns hrt hZ hx hby hml hown hnm X0 e0 N0
 have K0 := Keep.refl h0 [wk_, ov_, on_, op_]
 obtain ⟨SCS, P5, S_EMPTY, E_EMPTY⟩ := id GF
 obtain ⟨ne_wk_ov_, ne_wk_on_, ne_wk_op_, ne_wk_ob_, ne_wk_nm_, ne_wk_vo_, ne_wk_ar_, ne_wk_va_, ne_ov_on_, ne_ov_op_, ne_ov_ob_, ne_ov_nm_, ne_ov_vo_, ne_ov_ar_, ne_ov_va_, ne_on_op_, ne_on_ob_, ne_on_nm_, ne_on_vo_, ne_on_ar_, ne_on_va_, ne_op_ob_, ne_op_nm_, ne_op_vo_, ne_op_ar_, ne_op_va_⟩ := NEs
 obtain ⟨PE_wk_, PE_ob_, PE_nm_, PE_vo_, PE_ar_, PE_va_, PF_ob__names, PF_ob__values, PF_ar__elements, PF_wk__values, PF_wk__names, PF_wk__place, PF_wk__depth, PF_wk__outerValues, PF_wk__outerNames, PF_wk__outerPlaces, PV_vo_, PV_va_, PV_ov_, PV_on_, PV_op_, PO_ov_, PO_on_⟩ := SF
 refine walN X0 hx hby d53_0 rfl rfl ?_
 refine walN X0 hx hby d53_1 rfl rfl ?_
 refine wvb X0 hx hZ hown hw hml rfl hby d53_2 414 rfl 415 rfl 417 rfl 416 rfl (by decide) e0 PE_wk_ (rx54_295 l Z a0 hw [] n0 h0 O0  wk_ ar_ va_ ov_ kov_ on_ kon_ op_ z_ kop_ PE_ar_ PF_ar__elements PF_wk__depth PF_wk__outerValues PV_ov_ PF_wk__values PO_ov_ PE_va_ PF_wk__outerNames PF_wk__names PV_on_ PF_wk__outerPlaces PF_wk__place PV_op_ PE_wk_ PO_on_ ne_wk_ov_ (Ne.symm ne_ov_on_) ne_wk_on_ (Ne.symm ne_ov_op_) (Ne.symm ne_on_op_) ne_wk_op_ g_ov_ g_on_ g_op_ g_wk_) 418 rfl 395 rfl (by decide) (by decide) [(.ref ar_)] [] pdx_5 rfl rfl rfl (by decide) (by decide) rfl ?_
 intro _ T338 _ X338 hQ338
 obtain ⟨rfl, N338q, K338c, Y338_0, Y338_1, Y338_2, Y338_3, Y338_4, Y338_5, Y338_6, Y338_7, Y338_8, Y338_9⟩ := hQ338
 have N338 := Fr.app N0 N338q
 obtain ⟨h338, e338⟩ : ∃ z, T338.heap = z := ⟨_, rfl⟩
 rw [e338] at K338c Y338_0 Y338_1 Y338_2 Y338_3 Y338_4 Y338_5 Y338_6 Y338_7 Y338_8 Y338_9
 have K338 := K0.trans K338c (allS (mi 1 rfl) (allS (mi 2 rfl) (allS (mi 3 rfl) (allS (mi 0 rfl) all0))))
 have O338 := O0.keep K338c (allS g_ov_ (allS g_on_ (allS g_op_ (allS g_wk_ all0))))
 rcases hp_ with rfl | rfl | rfl
 ·show Ends _ _ _ _ T338 (mkF m 5 #[cr wk_, cr ar_, ci 0] []) _ _ _
  refine wilN X338 hx hby d53_5 rfl ?_
  refine wiy (pc := 6) (pc' := 14) X338 hx hby d53_6 ((if0 _ _).trans (flt (by decide : ¬ ((0 : Int32) < (0 : Int32)))).2.2.2) ?_
  refine wilN X338 hx hby d53_14 rfl ?_
  refine wic X338 hx hby d53_15 ?_
  refine wcy (pc := 16) (pc' := 24) X338 hx hby d53_16 (flt (by decide : ¬ ((1 : Int32) < (0 : Int32)))).2.2.2 ?_
  refine Ends.retV X338 hx hns hrt (hb hby d53_24) (by decide) (by decide) ?_
  rw [e338]
  exact ⟨rfl, N338, K338, Y338_3, Y338_5, Y338_8, Y338_0, Y338_1, Y338_4, Y338_7, Y338_2, Y338_6, Y338_9⟩
 ·show Ends _ _ _ _ T338 (mkF m 5 #[cr wk_, cr ar_, ci 1] []) _ _ _
  refine wilN X338 hx hby d53_5 rfl ?_
  refine win X338 hx hby d53_6 ((if0 _ _).trans (tlt (by decide : (0 : Int32) < (1 : Int32))).2.2.2) ?_
  refine walN X338 hx hby d53_9 rfl rfl ?_
  have c339 := PV_va_.keep K338c (ninS (Ne.symm ne_ov_va_) (ninS (Ne.symm ne_on_va_) (ninS (Ne.symm ne_op_va_) (ninS (Ne.symm ne_wk_va_) nin0))))
  refine wvb X338 hx hZ hown hw hml rfl hby d53_10 452 rfl 453 rfl 455 rfl 454 rfl (by decide) e338 (PE_wk_.keep K338c) (rx59_215 l Z a0 hw [] n0 h338 O338 G1 w_EMPTY GF wk_ va_ kva_ ob_ ov_ on_ op_ Y338_3 Y338_8 (PE_wk_.keep K338c) c339 Y338_0 Y338_1 Y338_4 Y338_5 Y338_7 (Ne.symm ne_wk_va_) g_wk_) 456 rfl 395 rfl (by decide) (by decide) [] [] pdx_6 rfl rfl rfl (by decide) (by decide) rfl ?_
  intro _ T340 _ X340 hQ340
  obtain ⟨rfl, N340q, K340c, Y340_0, Y340_1, Y340_2, Y340_3, Y340_4, Y340_5, Y340_6⟩ := hQ340
  have N340 := Fr.app N338 N340q
  obtain ⟨h340, e340⟩ : ∃ z, T340.heap = z := ⟨_, rfl⟩
  rw [e340] at K340c Y340_0 Y340_1 Y340_2 Y340_3 Y340_4 Y340_5 Y340_6
  have K340 := K338.trans K340c (allS (mi 0 rfl) all0)
  refine wpo X340 hx hby d53_13 rfl ?_
  refine wilN X340 hx hby d53_14 rfl ?_
  refine wic X340 hx hby d53_15 ?_
  refine wcy (pc := 16) (pc' := 24) X340 hx hby d53_16 (flt (by decide : ¬ ((1 : Int32) < (1 : Int32)))).2.2.2 ?_
  refine Ends.retV X340 hx hns hrt (hb hby d53_24) (by decide) (by decide) ?_
  rw [e340]
  exact ⟨rfl, N340, K340, Y340_0, Y340_5, Y340_1, Y340_2, Y340_3, Y340_4, Y340_6, (Y338_2.keep K340c (ninS (Ne.symm ne_wk_ov_) nin0)), (Y338_6.keep K340c (ninS (Ne.symm ne_wk_on_) nin0)), (Y338_9.keep K340c (ninS (Ne.symm ne_wk_op_) nin0))⟩
 ·show Ends _ _ _ _ T338 (mkF m 5 #[cr wk_, cr ar_, ci 2] []) _ _ _
  refine wilN X338 hx hby d53_5 rfl ?_
  refine win X338 hx hby d53_6 ((if0 _ _).trans (tlt (by decide : (0 : Int32) < (2 : Int32))).2.2.2) ?_
  refine walN X338 hx hby d53_9 rfl rfl ?_
  have c341 := PV_va_.keep K338c (ninS (Ne.symm ne_ov_va_) (ninS (Ne.symm ne_on_va_) (ninS (Ne.symm ne_op_va_) (ninS (Ne.symm ne_wk_va_) nin0))))
  refine wvb X338 hx hZ hown hw hml rfl hby d53_10 452 rfl 453 rfl 455 rfl 454 rfl (by decide) e338 (PE_wk_.keep K338c) (rx59_215 l Z a0 hw [] n0 h338 O338 G1 w_EMPTY GF wk_ va_ kva_ ob_ ov_ on_ op_ Y338_3 Y338_8 (PE_wk_.keep K338c) c341 Y338_0 Y338_1 Y338_4 Y338_5 Y338_7 (Ne.symm ne_wk_va_) g_wk_) 456 rfl 395 rfl (by decide) (by decide) [] [] pdx_6 rfl rfl rfl (by decide) (by decide) rfl ?_
  intro _ T342 _ X342 hQ342
  obtain ⟨rfl, N342q, K342c, Y342_0, Y342_1, Y342_2, Y342_3, Y342_4, Y342_5, Y342_6⟩ := hQ342
  have N342 := Fr.app N338 N342q
  obtain ⟨h342, e342⟩ : ∃ z, T342.heap = z := ⟨_, rfl⟩
  rw [e342] at K342c Y342_0 Y342_1 Y342_2 Y342_3 Y342_4 Y342_5 Y342_6
  have K342 := K338.trans K342c (allS (mi 0 rfl) all0)
  have O342 := O338.keep K342c (allS g_wk_ all0)
  refine wpo X342 hx hby d53_13 rfl ?_
  refine wilN X342 hx hby d53_14 rfl ?_
  refine wic X342 hx hby d53_15 ?_
  refine wcn X342 hx hby d53_16 (tlt (by decide : (1 : Int32) < (2 : Int32))).2.2.2 ?_
  refine walN X342 hx hby d53_19 rfl rfl ?_
  refine wvb X342 hx hZ hown hw hml rfl hby d53_20 452 rfl 453 rfl 455 rfl 454 rfl (by decide) e342 ((PE_wk_.keep K338c).keep K342c) (rx59_230 l Z a0 hw [] n0 h342 O342  wk_ va_ kva_ ob_ ov_ on_ op_ Y342_0 Y342_1 ((PE_wk_.keep K338c).keep K342c) (c341.keep K342c (ninS (Ne.symm ne_wk_va_) nin0)) Y342_2 Y342_3 Y342_4 Y342_5 Y342_6 (Ne.symm ne_wk_va_) g_wk_) 456 rfl 395 rfl (by decide) (by decide) [] [] pdx_6 rfl rfl rfl (by decide) (by decide) rfl ?_
  intro _ T343 _ X343 hQ343
  obtain ⟨rfl, N343q, K343c, Y343_0, Y343_1, Y343_2, Y343_3, Y343_4, Y343_5, Y343_6⟩ := hQ343
  have N343 := Fr.app N342 N343q
  obtain ⟨h343, e343⟩ : ∃ z, T343.heap = z := ⟨_, rfl⟩
  rw [e343] at K343c Y343_0 Y343_1 Y343_2 Y343_3 Y343_4 Y343_5 Y343_6
  have K343 := K342.trans K343c (allS (mi 0 rfl) all0)
  show Ends _ _ _ _ T343 (mkF m 23 #[cr wk_, cr ar_, ci 2] [(.ref ob_)]) _ _ _
  refine wpo X343 hx hby d53_23 rfl ?_
  refine Ends.retV X343 hx hns hrt (hb hby d53_24) (by decide) (by decide) ?_
  rw [e343]
  have c344 := (Y338_2.keep K342c (ninS (Ne.symm ne_wk_ov_) nin0)).keep K343c (ninS (Ne.symm ne_wk_ov_) nin0)
  have c345 := (Y338_6.keep K342c (ninS (Ne.symm ne_wk_on_) nin0)).keep K343c (ninS (Ne.symm ne_wk_on_) nin0)
  have c346 := (Y338_9.keep K342c (ninS (Ne.symm ne_wk_op_) nin0)).keep K343c (ninS (Ne.symm ne_wk_op_) nin0)
  exact ⟨rfl, N343, K343, Y343_0, Y343_5, Y343_1, Y343_2, Y343_3, Y343_4, Y343_6, c344, c345, c346⟩

theorem rx54_347 (l : Launch) (Z : State) (a0 : Array Value) (hw : HW a0 Z) (ws : List Jvm.Cond) (n0 : Nat) (h0 : Heap) (O0 : Old Z n0 h0)  (wk_ : Addr) (ob_ : Addr) (vo_ : Addr) (nm_ : Addr) (ov_ : Addr) (kov_ : ClassId) (x0_ : Value) (on_ : Addr) (kon_ : ClassId) (y0_ : Value) (op_ : Addr) (z_ : Int32) (kop_ : ClassId) (z0_ : Int32) (Pa0 : Exa Z h0 ob_ cJO) (Pa1 : f3_ Z h0 ob_ (.ref vo_)) (Pa2 : f4_ Z h0 ob_ (.ref nm_)) (Pa3 : f5_ Z h0 wk_ (.int 2)) (Pa4 : f9_ Z h0 wk_ (.ref ov_)) (Pa5 : Arv Z h0 ov_ kov_ (.array (.object cJV)) (16 : Int32) (x0_ :: nN15) .null) (Pa6 : f6_ Z h0 wk_ (.ref vo_)) (Pa7 : OvrA Z kov_ (.object cJV) cAJ) (Pa8 : Exa Z h0 vo_ cAJ) (Pa9 : f10_ Z h0 wk_ (.ref on_)) (Pa10 : f7_ Z h0 wk_ (.ref nm_)) (Pa11 : Arv Z h0 on_ kon_ (.object cNA) (16 : Int32) (y0_ :: nN15) .null) (Pa12 : Ovr Z kon_ cNA) (Pa13 : Exa Z h0 nm_ cNA) (Pa14 : f11_ Z h0 wk_ (.ref op_)) (Pa15 : f8_ Z h0 wk_ (.int z_)) (Pa16 : Arv Z h0 op_ kop_ .int (16 : Int32) ((.int z0_) :: nZ15) (.int 0)) (Pa17 : Exa Z h0 wk_ cWK) (ne_wk__ov_ : wk_ ≠ ov_) (ne_on__ov_ : on_ ≠ ov_) (ne_wk__on_ : wk_ ≠ on_) (ne_op__ov_ : op_ ≠ ov_) (ne_op__on_ : op_ ≠ on_) (ne_wk__op_ : wk_ ≠ op_) (g_ov_ : n0 ≤ ov_) (g_on_ : n0 ≤ on_) (g_op_ : n0 ≤ op_) (g_wk_ : n0 ≤ wk_) :
  Meets1 l ym8 B57_ 5 none ws (mkR 1 0 0 12) #[(.ref wk_), (.ref ob_)] Z h0 (fun v h L => v = none ∧ Fr n0 L ∧ Keep h0 h [ov_, on_, op_, wk_] ∧ f5_ Z h wk_ (.int 3) ∧ f9_ Z h wk_ (.ref ov_) ∧ Arv Z h ov_ kov_ (.array (.object cJV)) (16 : Int32) (x0_ :: (.ref vo_) :: nN14) .null ∧ f6_ Z h wk_ (.ref vo_) ∧ f10_ Z h wk_ (.ref on_) ∧ f7_ Z h wk_ (.ref nm_) ∧ Arv Z h on_ kon_ (.object cNA) (16 : Int32) (y0_ :: (.ref nm_) :: nN14) .null ∧ f11_ Z h wk_ (.ref op_) ∧ f8_ Z h wk_ (.int 0) ∧ Arv Z h op_ kop_ .int (16 : Int32) ((.int z0_) :: (.int z_) :: nZ14) (.int 0)) := by
 refine own_start n0 (plainFor_of_name pn54) (fun m => ef54_rr m wk_ ob_) ?_
 intro p e s m below meth c s₁ hns hrt hZ hx hby hml hown hnm X0 e0 N0
 have K0 := Keep.refl h0 [ov_, on_, op_, wk_]
 refine wnu X0 hx hby d54_0 ?_
 refine wasN X0 hx hby d54_1 (l' := #[cr wk_, cr ob_, cu, .val .null, cu]) rfl rfl ?_
 refine walN X0 hx hby d54_2 rfl rfl ?_
 obtain ⟨T348, X348, e348, st348⟩ := instY X0 hx hZ hown (ow hw 419 rfl) e0 (Ins.self Pa0) (g := (mkF m 3 #[cr wk_, cr ob_, cu, .val .null, cu] [(.ref ob_)])) rfl rfl (hb hby d54_3)
 refine Ends.go st348 ?_
 refine win X348 hx hby d54_6 ((if0 _ _).trans (feq (by decide : ¬ ((1 : Int32) = (0 : Int32)))).1) ?_
 refine walN X348 hx hby d54_9 rfl rfl ?_
 obtain ⟨T349, X349, e349, st349⟩ := castY X348 hx hZ hown (ow hw 419 rfl) e348 (Ins.self Pa0) (g := (mkF m 10 #[cr wk_, cr ob_, cu, .val .null, cu] [(.ref ob_)])) rfl rfl (hb hby d54_10)
 refine Ends.go st349 ?_
 refine was X349 hx hby d54_13 (l' := #[cr wk_, cr ob_, cu, .val .null, cr ob_]) rfl rfl ?_
 refine wal X349 hx hby d54_15 rfl rfl ?_
 refine wvb X349 hx hZ hown hw hml rfl hby d54_17 458 rfl 459 rfl 461 rfl 460 rfl (by decide) e349 Pa0 (rx60_19 l Z a0 hw [] n0 h0 O0  ob_ vo_ Pa1) 462 rfl 31 rfl (by decide) (by decide) [] [] pdx_3 rfl rfl rfl (by decide) (by decide) rfl ?_
 intro _ T350 _ X350 hQ350
 obtain ⟨rfl, N350q, K350c⟩ := hQ350
 have N350 := Fr.app N0 N350q
 obtain ⟨h350, e350⟩ : ∃ z, T350.heap = z := ⟨_, rfl⟩
 rw [e350] at K350c
 have K350 := K0.trans K350c all0
 have O350 := O0.keep K350c all0
 refine wasN X350 hx hby d54_20 (l' := #[cr wk_, cr ob_, cr vo_, .val .null, cr ob_]) rfl rfl ?_
 refine wal X350 hx hby d54_21 rfl rfl ?_
 refine wvb X350 hx hZ hown hw hml rfl hby d54_23 463 rfl 464 rfl 466 rfl 465 rfl (by decide) e350 (Pa0.keep K350c) (rx61_22 l Z a0 hw [] n0 h350 O350  ob_ nm_ (Pa2.keep K350c nin0)) 467 rfl 31 rfl (by decide) (by decide) [] [] pdx_4 rfl rfl rfl (by decide) (by decide) rfl ?_
 intro _ T351 _ X351 hQ351
 obtain ⟨rfl, N351q, K351c⟩ := hQ351
 have N351 := Fr.app N350 N351q
 obtain ⟨h351, e351⟩ : ∃ z, T351.heap = z := ⟨_, rfl⟩
 rw [e351] at K351c
 have K351 := K350.trans K351c all0
 refine wasN X351 hx hby d54_26 (l' := #[cr wk_, cr ob_, cr vo_, cr nm_, cr ob_]) rfl rfl ?_
 refine wgo (pc := 27) (pc' := 38) X351 hx hby d54_27 ?_
 refine walN X351 hx hby d54_38 rfl rfl ?_
 refine wgf X351 hx hZ hown hw 429 rfl e351 ((Pa3.keep K350c nin0).keep K351c nin0) hby d54_39 ?_
 intro T352 X352 e352
 refine win X352 hx hby d54_42 ((if0 _ _).trans (tlt (by decide : (0 : Int32) < (2 : Int32))).2.2.2) ?_
 refine walN X352 hx hby d54_45 rfl rfl ?_
 refine wgf X352 hx hZ hown hw 429 rfl e352 ((Pa3.keep K350c nin0).keep K351c nin0) hby d54_46 ?_
 intro T353 X353 e353
 refine walN X353 hx hby d54_49 rfl rfl ?_
 refine wgf X353 hx hZ hown hw 402 rfl e353 ((Pa4.keep K350c nin0).keep K351c nin0) hby d54_50 ?_
 intro T354 X354 e354
 obtain ⟨cl355, Ar355, q355, S355, M355, H355, G355⟩ := id ((Pa5.keep K350c nin0).keep K351c nin0)
 refine Ends.go (X354.arraylength hx (by rw [e354]; exact Ar355.1) (State.isArrayOf_alike hZ.alike Ar355.2.1) (g := (mkF m 53 #[cr wk_, cr ob_, cr vo_, cr nm_, cr ob_] [(.ref ov_), (.int 2)])) rfl rfl (hb hby d54_53)) ?_
 rw [len_of S355 M355]
 refine wcy (pc := 54) (pc' := 61) X354 hx hby d54_54 (flt (by decide : ¬ ((16 : Int32) < (2 : Int32)))).2.2.2 ?_
 refine walN X354 hx hby d54_61 rfl rfl ?_
 refine wgf X354 hx hZ hown hw 402 rfl e354 ((Pa4.keep K350c nin0).keep K351c nin0) hby d54_62 ?_
 intro T356 X356 e356
 refine walN X356 hx hby d54_65 rfl rfl ?_
 refine wgf X356 hx hZ hown hw 429 rfl e356 ((Pa3.keep K350c nin0).keep K351c nin0) hby d54_66 ?_
 intro T357 X357 e357
 refine wic X357 hx hby d54_69 ?_
 show Ends _ _ _ _ T357 (mkF m 70 #[cr wk_, cr ob_, cr vo_, cr nm_, cr ob_] [(.int 1), (.int 2), (.ref ov_)]) _ _ _
 refine wis X357 hx hby d54_70 ?_
 refine walN X357 hx hby d54_71 rfl rfl ?_
 refine wgf X357 hx hZ hown hw 431 rfl e357 ((Pa6.keep K350c nin0).keep K351c nin0) hby d54_72 ?_
 intro T358 X358 e358
 obtain ⟨cl359, Ar359, q359, S359, M359, H359, G359⟩ := id ((Pa5.keep K350c nin0).keep K351c nin0)
 have hin359 := inb_of (j := (1 : Int32)) S359 ⟨by decide, by decide⟩
 obtain ⟨T359, h359, X359, e359, W359, st359⟩ := stR X358 hx hZ e358 Ar359 (j := (1 : Int32)) hin359 rfl (Sto.ofVA Ar359 q359 Pa7 (Ins.self ((Pa8.keep K350c).keep K351c))) (g := (mkF m 75 #[cr wk_, cr ob_, cr vo_, cr nm_, cr ob_] [(.ref vo_), (.int 1), (.ref ov_)])) rfl rfl (hb hby d54_75)
 refine Ends.go st359 ?_
 have V359 : Arv Z h359 ov_ kov_ (.array (.object cJV)) (16 : Int32) (x0_ :: (.ref vo_) :: nN14) .null := Arv.set Ar359 q359 S359 M359 H359 G359 rfl W359 1 rfl (Nat.le_of_ble_eq_true rfl)
 have K359 := K351.wr W359 (mi 0 rfl)
 have N359 := Fr.snoc X359 N351 g_ov_
 refine walN X359 hx hby d54_76 rfl rfl ?_
 have c360 := ((Pa9.keep K350c nin0).keep K351c nin0).other W359 (Or.inl ne_wk__ov_)
 refine wgf X359 hx hZ hown hw 406 rfl e359 c360 hby d54_77 ?_
 intro T361 X361 e361
 refine walN X361 hx hby d54_80 rfl rfl ?_
 have c362 := ((Pa3.keep K350c nin0).keep K351c nin0).other W359 (Or.inl ne_wk__ov_)
 refine wgf X361 hx hZ hown hw 429 rfl e361 c362 hby d54_81 ?_
 intro T363 X363 e363
 refine wic X363 hx hby d54_84 ?_
 refine wis X363 hx hby d54_85 ?_
 refine walN X363 hx hby d54_86 rfl rfl ?_
 have c364 := ((Pa10.keep K350c nin0).keep K351c nin0).other W359 (Or.inl ne_wk__ov_)
 refine wgf X363 hx hZ hown hw 433 rfl e363 c364 hby d54_87 ?_
 intro T365 X365 e365
 have c367 := ((Pa11.keep K350c nin0).keep K351c nin0).other W359 ne_on__ov_
 obtain ⟨cl366, Ar366, q366, S366, M366, H366, G366⟩ := id c367
 have hin366 := inb_of (j := (1 : Int32)) S366 ⟨by decide, by decide⟩
 obtain ⟨T366, h366, X366, e366, W366, st366⟩ := stR X365 hx hZ e365 Ar366 (j := (1 : Int32)) hin366 rfl (Sto.ofV Ar366 q366 Pa12 (Ins.self (((Pa13.keep K350c).keep K351c).wr W359))) (g := (mkF m 90 #[cr wk_, cr ob_, cr vo_, cr nm_, cr ob_] [(.ref nm_), (.int 1), (.ref on_)])) rfl rfl (hb hby d54_90)
 refine Ends.go st366 ?_
 have V366 : Arv Z h366 on_ kon_ (.object cNA) (16 : Int32) (y0_ :: (.ref nm_) :: nN14) .null := Arv.set Ar366 q366 S366 M366 H366 G366 rfl W366 1 rfl (Nat.le_of_ble_eq_true rfl)
 have K366 := K359.wr W366 (mi 1 rfl)
 have N366 := Fr.snoc X366 N359 g_on_
 refine walN X366 hx hby d54_91 rfl rfl ?_
 have c368 := (((Pa14.keep K350c nin0).keep K351c nin0).other W359 (Or.inl ne_wk__ov_)).other W366 (Or.inl ne_wk__on_)
 refine wgf X366 hx hZ hown hw 409 rfl e366 c368 hby d54_92 ?_
 intro T369 X369 e369
 refine walN X369 hx hby d54_95 rfl rfl ?_
 refine wgf X369 hx hZ hown hw 429 rfl e369 (c362.other W366 (Or.inl ne_wk__on_)) hby d54_96 ?_
 intro T370 X370 e370
 refine wic X370 hx hby d54_99 ?_
 refine wis X370 hx hby d54_100 ?_
 refine walN X370 hx hby d54_101 rfl rfl ?_
 have c371 := (((Pa15.keep K350c nin0).keep K351c nin0).other W359 (Or.inl ne_wk__ov_)).other W366 (Or.inl ne_wk__on_)
 refine wgf X370 hx hZ hown hw 435 rfl e370 c371 hby d54_102 ?_
 intro T372 X372 e372
 have c374 := (((Pa16.keep K350c nin0).keep K351c nin0).other W359 ne_op__ov_).other W366 ne_op__on_
 obtain ⟨cl373, Ar373, q373, S373, M373, H373, G373⟩ := id c374
 have hin373 := inb_of (j := (1 : Int32)) S373 ⟨by decide, by decide⟩
 obtain ⟨T373, h373, X373, e373, W373, st373⟩ := stI X372 hx hZ e372 Ar373 (j := (1 : Int32)) hin373 (g := (mkF m 105 #[cr wk_, cr ob_, cr vo_, cr nm_, cr ob_] [(.int z_), (.int 1), (.ref op_)])) rfl rfl (hb hby d54_105)
 refine Ends.go st373 ?_
 have V373 : Arv Z h373 op_ kop_ .int (16 : Int32) ((.int z0_) :: (.int z_) :: nZ14) (.int 0) := Arv.set Ar373 q373 S373 M373 H373 G373 rfl W373 1 rfl (Nat.le_of_ble_eq_true rfl)
 have K373 := K366.wr W373 (mi 2 rfl)
 have N373 := Fr.snoc X373 N366 g_op_
 refine walN X373 hx hby d54_106 rfl rfl ?_
 refine walN X373 hx hby d54_107 rfl rfl ?_
 have c375 := ((((Pa6.keep K350c nin0).keep K351c nin0).other W359 (Or.inl ne_wk__ov_)).other W366 (Or.inl ne_wk__on_)).other W373 (Or.inl ne_wk__op_)
 refine wpf X373 hx hZ hown hw 431 rfl e373 c375 (((((Pa17.keep K350c).keep K351c).wr W359).wr W366).wr W373) 432 rfl 394 rfl (ty := (.array (.object cJV))) (by decide) rfl rfl hby d54_108 ?_
 intro T376 h376 X376 e376 W376
 have Fw376 := c375.same W376
 have K376 := K373.wr W376 (mi 3 rfl)
 have N376 := Fr.snoc X376 N373 g_wk_
 refine walN X376 hx hby d54_111 rfl rfl ?_
 refine walN X376 hx hby d54_112 rfl rfl ?_
 have c377 := (((((Pa17.keep K350c).keep K351c).wr W359).wr W366).wr W373).wr W376
 have c378 := ((c364.other W366 (Or.inl ne_wk__on_)).other W373 (Or.inl ne_wk__op_)).other W376 (sll hw 434 rfl 432 rfl)
 refine wpf X376 hx hZ hown hw 433 rfl e376 c378 c377 434 rfl 394 rfl (ty := (.object cNA)) (by decide) rfl rfl hby d54_113 ?_
 intro T379 h379 X379 e379 W379
 have Fw379 := c378.same W379
 have K379 := K376.wr W379 (mi 3 rfl)
 have N379 := Fr.snoc X379 N376 g_wk_
 refine walN X379 hx hby d54_116 rfl rfl ?_
 refine wic X379 hx hby d54_117 ?_
 show Ends _ _ _ _ T379 (mkF m 118 #[cr wk_, cr ob_, cr vo_, cr nm_, cr ob_] [(.int 0), (.ref wk_)]) _ _ _
 have c380 := ((c371.other W373 (Or.inl ne_wk__op_)).other W376 (sll hw 436 rfl 432 rfl)).other W379 (sll hw 436 rfl 434 rfl)
 refine wpf X379 hx hZ hown hw 435 rfl e379 c380 (c377.wr W379) 436 rfl 394 rfl (ty := .int) (by decide) rfl rfl hby d54_118 ?_
 intro T381 h381 X381 e381 W381
 have Fw381 := c380.same W381
 have K381 := K379.wr W381 (mi 3 rfl)
 have N381 := Fr.snoc X381 N379 g_wk_
 refine walN X381 hx hby d54_121 rfl rfl ?_
 refine wdu X381 hx hby d54_122 rfl ?_
 have c382 := ((((c362.other W366 (Or.inl ne_wk__on_)).other W373 (Or.inl ne_wk__op_)).other W376 (sll hw 430 rfl 432 rfl)).other W379 (sll hw 430 rfl 434 rfl)).other W381 (sll hw 430 rfl 436 rfl)
 refine wgf X381 hx hZ hown hw 429 rfl e381 c382 hby d54_123 ?_
 intro T383 X383 e383
 refine wic X383 hx hby d54_126 ?_
 refine wia X383 hx hby d54_127 ?_
 refine wpf X383 hx hZ hown hw 429 rfl e383 c382 ((c377.wr W379).wr W381) 430 rfl 394 rfl (ty := .int) (by decide) rfl rfl hby d54_128 ?_
 intro T384 h384 X384 e384 W384
 have Fw384 := c382.same W384
 have K384 := K381.wr W384 (mi 3 rfl)
 have N384 := Fr.snoc X384 N381 g_wk_
 refine Ends.retV X384 hx hns hrt (hb hby d54_131) (by decide) (by decide) ?_
 rw [e384]
 have c385 := ((((((((Pa4.keep K350c nin0).keep K351c nin0).other W359 (Or.inl ne_wk__ov_)).other W366 (Or.inl ne_wk__on_)).other W373 (Or.inl ne_wk__op_)).other W376 (sll hw 403 rfl 432 rfl)).other W379 (sll hw 403 rfl 434 rfl)).other W381 (sll hw 403 rfl 436 rfl)).other W384 (sll hw 403 rfl 430 rfl)
 have c386 := (((((V359.other W366 (Ne.symm ne_on__ov_)).other W373 (Ne.symm ne_op__ov_)).other W376 (Ne.symm ne_wk__ov_)).other W379 (Ne.symm ne_wk__ov_)).other W381 (Ne.symm ne_wk__ov_)).other W384 (Ne.symm ne_wk__ov_)
 have c387 := ((Fw376.other W379 (sll hw 432 rfl 434 rfl)).other W381 (sll hw 432 rfl 436 rfl)).other W384 (sll hw 432 rfl 430 rfl)
 have c388 := (((((c360.other W366 (Or.inl ne_wk__on_)).other W373 (Or.inl ne_wk__op_)).other W376 (sll hw 407 rfl 432 rfl)).other W379 (sll hw 407 rfl 434 rfl)).other W381 (sll hw 407 rfl 436 rfl)).other W384 (sll hw 407 rfl 430 rfl)
 have c389 := (Fw379.other W381 (sll hw 434 rfl 436 rfl)).other W384 (sll hw 434 rfl 430 rfl)
 have c390 := ((((V366.other W373 (Ne.symm ne_op__on_)).other W376 (Ne.symm ne_wk__on_)).other W379 (Ne.symm ne_wk__on_)).other W381 (Ne.symm ne_wk__on_)).other W384 (Ne.symm ne_wk__on_)
 have c391 := ((((c368.other W373 (Or.inl ne_wk__op_)).other W376 (sll hw 410 rfl 432 rfl)).other W379 (sll hw 410 rfl 434 rfl)).other W381 (sll hw 410 rfl 436 rfl)).other W384 (sll hw 410 rfl 430 rfl)
 have c392 := Fw381.other W384 (sll hw 436 rfl 430 rfl)
 have c393 := (((V373.other W376 (Ne.symm ne_wk__op_)).other W379 (Ne.symm ne_wk__op_)).other W381 (Ne.symm ne_wk__op_)).other W384 (Ne.symm ne_wk__op_)
 exact ⟨rfl, N384, K384, Fw384, c385, c386, c387, c388, c389, c390, c391, c392, c393⟩

theorem rx59_395 (l : Launch) (Z : State) (a0 : Array Value) (hw : HW a0 Z) (ws : List Jvm.Cond) (n0 : Nat) (h0 : Heap) (O0 : Old Z n0 h0) (G1 : Int32) (w_EMPTY : Addr) (GF : GlobF Z G1 w_EMPTY) (wk_ : Addr) (vo_ : Addr) (kvo_ : ClassId) (ov_ : Addr) (on_ : Addr) (nm_ : Addr) (op_ : Addr) (Pa0 : f6_ Z h0 wk_ (.ref vo_)) (Pa1 : f8_ Z h0 wk_ (.int 0)) (Pa2 : Exa Z h0 wk_ cWK) (Pa3 : Arv Z h0 vo_ kvo_ (.object cJV) (1 : Int32) [(.ref w_EMPTY)] .null) (Pa4 : f5_ Z h0 wk_ (.int 3)) (Pa5 : f9_ Z h0 wk_ (.ref ov_)) (Pa6 : f10_ Z h0 wk_ (.ref on_)) (Pa7 : f7_ Z h0 wk_ (.ref nm_)) (Pa8 : f11_ Z h0 wk_ (.ref op_)) (ne_vo__wk_ : vo_ ≠ wk_) (g_wk_ : n0 ≤ wk_) :
  Meets1 l ym9 B61_ 1 (some (.object cJV)) ws (mkR 0 0 0 0) #[(.ref wk_)] Z h0 (fun v h L => v = some (.ref w_EMPTY) ∧ Fr n0 L ∧ Keep h0 h [wk_] ∧ f6_ Z h wk_ (.ref vo_) ∧ f8_ Z h wk_ (.int 1) ∧ f5_ Z h wk_ (.int 3) ∧ f9_ Z h wk_ (.ref ov_) ∧ f10_ Z h wk_ (.ref on_) ∧ f7_ Z h wk_ (.ref nm_) ∧ f11_ Z h wk_ (.ref op_)) := by
 refine own_start n0 (plainFor_of_name pn59) (fun m => ef59_r m wk_) ?_
 intro p e s m below meth c s₁ hns hrt hZ hx hby hml hown hnm X0 e0 N0
 obtain ⟨SCS, P5, S_EMPTY, E_EMPTY⟩ := id GF
 have K0 := Keep.refl h0 [wk_]
 show Ends _ _ _ _ s₁ (mkF m 0 #[cr wk_] []) _ _ _
 refine walN X0 hx hby d59_0 rfl rfl ?_
 refine wgf X0 hx hZ hown hw 431 rfl e0 Pa0 hby d59_1 ?_
 intro T396 X396 e396
 refine walN X396 hx hby d59_4 rfl rfl ?_
 refine wdu X396 hx hby d59_5 rfl ?_
 refine wgf X396 hx hZ hown hw 435 rfl e396 Pa1 hby d59_6 ?_
 intro T397 X397 e397
 refine wdx X397 hx hby d59_9 rfl rfl ?_
 refine wic X397 hx hby d59_10 ?_
 refine wia X397 hx hby d59_11 ?_
 refine wpf X397 hx hZ hown hw 435 rfl e397 Pa1 Pa2 436 rfl 394 rfl (ty := .int) (by decide) rfl rfl hby d59_12 ?_
 intro T398 h398 X398 e398 W398
 have Fw398 := Pa1.same W398
 have K398 := K0.wr W398 (mi 0 rfl)
 have N398 := Fr.snoc X398 N0 g_wk_
 obtain ⟨cl399, Ar399, q399, S399, M399, H399, G399⟩ := id (Pa3.other W398 ne_vo__wk_)
 have hin399 := inb_of (j := (0 : Int32)) S399 ⟨by decide, by decide⟩
 refine Ends.go (X398.aaload hx (j := (0 : Int32)) (v := (.ref w_EMPTY)) (by rw [e398]; exact Ar399.1) (State.isArrayOf_alike hZ.alike Ar399.2.1) rfl Ar399.2.2 hin399 (H399.at hin399 rfl) (g := (mkF m 15 #[cr wk_] [(.int 0), (.ref vo_)])) rfl rfl (hb hby d59_15)) ?_
 refine Ends.ret X398 hx hns (t := (.object cJV)) hrt rfl (Or.inr (Or.inr (Or.inr (Or.inr ⟨rfl, rfl, rfl⟩)))) (hb hby d59_16) (by decide) (by decide) ?_
 rw [e398]
 have c400 := Pa4.other W398 (sll hw 430 rfl 436 rfl)
 have c401 := Pa5.other W398 (sll hw 403 rfl 436 rfl)
 have c402 := Pa6.other W398 (sll hw 407 rfl 436 rfl)
 have c403 := Pa7.other W398 (sll hw 434 rfl 436 rfl)
 have c404 := Pa8.other W398 (sll hw 410 rfl 436 rfl)
 have c405 := Pa0.other W398 (sll hw 432 rfl 436 rfl)
 exact ⟨rfl, N398, K398, c405, Fw398, c400, c401, c402, c403, c404⟩

theorem rmStep_2oo (l : Launch) (Z : State) (a0 : Array Value) (hw : HW a0 Z) (ws : List Jvm.Cond) (n0 : Nat) (h0 : Heap) (O0 : Old Z n0 h0)  (G1 : Int32) (w_EMPTY : Addr) (GF : GlobF Z G1 w_EMPTY) (wk_ ov_ on_ op_ ob_ nm_ vo_ ar_ va_ : Addr) (kvo_ kva_ kov_ kon_ kop_ : ClassId) (x0_ : Value) (y0_ : Value) (z0_ : Int32) (z_ : Int32) (p_ : Int32) (g_wk_ : n0 ≤ wk_) (g_ov_ : n0 ≤ ov_) (g_on_ : n0 ≤ on_) (g_op_ : n0 ≤ op_) (NEs : own_NE wk_ ov_ on_ op_ ob_ nm_ vo_ ar_ va_) (SF : own_SF Z h0 w_EMPTY wk_ ov_ on_ op_ ob_ nm_ vo_ ar_ va_ kvo_ kva_ kov_ kon_ kop_ (.ref vo_) (.ref nm_) z_ (2 : Int32) (x0_ :: nN15) (y0_ :: nN15) ((.int z0_) :: nZ15)) (hp_ : (p_ = 0 ∨ p_ = 1)) :
  Meets1 l ym10 B39_ 3 none ws (mkR 2 0 0 40) #[(.ref wk_), (.ref ob_), (.int p_)] Z h0 (fun v h L => v = none ∧ Fr n0 L ∧ Keep h0 h [wk_, ov_, on_, op_] ∧ own_SQ Z h wk_ ov_ on_ op_ kov_ kon_ kop_ (.ref vo_) (.ref nm_) p_ (3 : Int32) (x0_ :: (.ref vo_) :: nN14) (y0_ :: (.ref nm_) :: nN14) ((.int z0_) :: (.int z_) :: nZ14)) := by
 refine own_start n0 (plainFor_of_name pn53) (fun m => ef53_rri m wk_ ob_ p_) ?_
 intro p e s m below meth c s₁ hns hrt hZ hx hby hml hown hnm X0 e0 N0
 have K0 := Keep.refl h0 [wk_, ov_, on_, op_]
 obtain ⟨SCS, P5, S_EMPTY, E_EMPTY⟩ := id GF
 obtain ⟨ne_wk_ov_, ne_wk_on_, ne_wk_op_, ne_wk_ob_, ne_wk_nm_, ne_wk_vo_, ne_wk_ar_, ne_wk_va_, ne_ov_on_, ne_ov_op_, ne_ov_ob_, ne_ov_nm_, ne_ov_vo_, ne_ov_ar_, ne_ov_va_, ne_on_op_, ne_on_ob_, ne_on_nm_, ne_on_vo_, ne_on_ar_, ne_on_va_, ne_op_ob_, ne_op_nm_, ne_op_vo_, ne_op_ar_, ne_op_va_⟩ := NEs
 obtain ⟨PE_wk_, PE_ob_, PE_nm_, PE_vo_, PE_ar_, PE_va_, PF_ob__names, PF_ob__values, PF_ar__elements, PF_wk__values, PF_wk__names, PF_wk__place, PF_wk__depth, PF_wk__outerValues, PF_wk__outerNames, PF_wk__outerPlaces, PV_vo_, PV_va_, PV_ov_, PV_on_, PV_op_, PO_ov_, PO_on_⟩ := SF
 refine walN X0 hx hby d53_0 rfl rfl ?_
 refine walN X0 hx hby d53_1 rfl rfl ?_
 refine wvb X0 hx hZ hown hw hml rfl hby d53_2 414 rfl 415 rfl 417 rfl 416 rfl (by decide) e0 PE_wk_ (rx54_347 l Z a0 hw [] n0 h0 O0  wk_ ob_ vo_ nm_ ov_ kov_ x0_ on_ kon_ y0_ op_ z_ kop_ z0_ PE_ob_ PF_ob__values PF_ob__names PF_wk__depth PF_wk__outerValues PV_ov_ PF_wk__values PO_ov_ PE_vo_ PF_wk__outerNames PF_wk__names PV_on_ PO_on_ PE_nm_ PF_wk__outerPlaces PF_wk__place PV_op_ PE_wk_ ne_wk_ov_ (Ne.symm ne_ov_on_) ne_wk_on_ (Ne.symm ne_ov_op_) (Ne.symm ne_on_op_) ne_wk_op_ g_ov_ g_on_ g_op_ g_wk_) 418 rfl 395 rfl (by decide) (by decide) [(.ref ob_)] [] pdx_5 rfl rfl rfl (by decide) (by decide) rfl ?_
 intro _ T394 _ X394 hQ394
 obtain ⟨rfl, N394q, K394c, Y394_0, Y394_1, Y394_2, Y394_3, Y394_4, Y394_5, Y394_6, Y394_7, Y394_8, Y394_9⟩ := hQ394
 have N394 := Fr.app N0 N394q
 obtain ⟨h394, e394⟩ : ∃ z, T394.heap = z := ⟨_, rfl⟩
 rw [e394] at K394c Y394_0 Y394_1 Y394_2 Y394_3 Y394_4 Y394_5 Y394_6 Y394_7 Y394_8 Y394_9
 have K394 := K0.trans K394c (allS (mi 1 rfl) (allS (mi 2 rfl) (allS (mi 3 rfl) (allS (mi 0 rfl) all0))))
 have O394 := O0.keep K394c (allS g_ov_ (allS g_on_ (allS g_op_ (allS g_wk_ all0))))
 rcases hp_ with rfl | rfl
 ·show Ends _ _ _ _ T394 (mkF m 5 #[cr wk_, cr ob_, ci 0] []) _ _ _
  refine wilN X394 hx hby d53_5 rfl ?_
  refine wiy (pc := 6) (pc' := 14) X394 hx hby d53_6 ((if0 _ _).trans (flt (by decide : ¬ ((0 : Int32) < (0 : Int32)))).2.2.2) ?_
  refine wilN X394 hx hby d53_14 rfl ?_
  refine wic X394 hx hby d53_15 ?_
  refine wcy (pc := 16) (pc' := 24) X394 hx hby d53_16 (flt (by decide : ¬ ((1 : Int32) < (0 : Int32)))).2.2.2 ?_
  refine Ends.retV X394 hx hns hrt (hb hby d53_24) (by decide) (by decide) ?_
  rw [e394]
  exact ⟨rfl, N394, K394, Y394_3, Y394_5, Y394_8, Y394_0, Y394_1, Y394_4, Y394_7, Y394_2, Y394_6, Y394_9⟩
 ·show Ends _ _ _ _ T394 (mkF m 5 #[cr wk_, cr ob_, ci 1] []) _ _ _
  refine wilN X394 hx hby d53_5 rfl ?_
  refine win X394 hx hby d53_6 ((if0 _ _).trans (tlt (by decide : (0 : Int32) < (1 : Int32))).2.2.2) ?_
  refine walN X394 hx hby d53_9 rfl rfl ?_
  have c406 := PV_vo_.keep K394c (ninS (Ne.symm ne_ov_vo_) (ninS (Ne.symm ne_on_vo_) (ninS (Ne.symm ne_op_vo_) (ninS (Ne.symm ne_wk_vo_) nin0))))
  refine wvb X394 hx hZ hown hw hml rfl hby d53_10 452 rfl 453 rfl 455 rfl 454 rfl (by decide) e394 (PE_wk_.keep K394c) (rx59_395 l Z a0 hw [] n0 h394 O394 G1 w_EMPTY GF wk_ vo_ kvo_ ov_ on_ nm_ op_ Y394_3 Y394_8 (PE_wk_.keep K394c) c406 Y394_0 Y394_1 Y394_4 Y394_5 Y394_7 (Ne.symm ne_wk_vo_) g_wk_) 456 rfl 395 rfl (by decide) (by decide) [] [] pdx_6 rfl rfl rfl (by decide) (by decide) rfl ?_
  intro _ T407 _ X407 hQ407
  obtain ⟨rfl, N407q, K407c, Y407_0, Y407_1, Y407_2, Y407_3, Y407_4, Y407_5, Y407_6⟩ := hQ407
  have N407 := Fr.app N394 N407q
  obtain ⟨h407, e407⟩ : ∃ z, T407.heap = z := ⟨_, rfl⟩
  rw [e407] at K407c Y407_0 Y407_1 Y407_2 Y407_3 Y407_4 Y407_5 Y407_6
  have K407 := K394.trans K407c (allS (mi 0 rfl) all0)
  refine wpo X407 hx hby d53_13 rfl ?_
  refine wilN X407 hx hby d53_14 rfl ?_
  refine wic X407 hx hby d53_15 ?_
  refine wcy (pc := 16) (pc' := 24) X407 hx hby d53_16 (flt (by decide : ¬ ((1 : Int32) < (1 : Int32)))).2.2.2 ?_
  refine Ends.retV X407 hx hns hrt (hb hby d53_24) (by decide) (by decide) ?_
  rw [e407]
  exact ⟨rfl, N407, K407, Y407_0, Y407_5, Y407_1, Y407_2, Y407_3, Y407_4, Y407_6, (Y394_2.keep K407c (ninS (Ne.symm ne_wk_ov_) nin0)), (Y394_6.keep K407c (ninS (Ne.symm ne_wk_on_) nin0)), (Y394_9.keep K407c (ninS (Ne.symm ne_wk_op_) nin0))⟩

theorem rx54_408 (l : Launch) (Z : State) (a0 : Array Value) (hw : HW a0 Z) (ws : List Jvm.Cond) (n0 : Nat) (h0 : Heap) (O0 : Old Z n0 h0)  (wk_ : Addr) (ar_ : Addr) (va_ : Addr) (ov_ : Addr) (kov_ : ClassId) (x0_ : Value) (vo_ : Addr) (on_ : Addr) (nm_ : Addr) (kon_ : ClassId) (y0_ : Value) (op_ : Addr) (z_ : Int32) (kop_ : ClassId) (z0_ : Int32) (Pa0 : Exa Z h0 ar_ cJA) (Pa1 : f12_ Z h0 ar_ (.ref va_)) (Pa2 : f5_ Z h0 wk_ (.int 2)) (Pa3 : f9_ Z h0 wk_ (.ref ov_)) (Pa4 : Arv Z h0 ov_ kov_ (.array (.object cJV)) (16 : Int32) (x0_ :: nN15) .null) (Pa5 : f6_ Z h0 wk_ (.ref vo_)) (Pa6 : OvrA Z kov_ (.object cJV) cAJ) (Pa7 : Exa Z h0 vo_ cAJ) (Pa8 : f10_ Z h0 wk_ (.ref on_)) (Pa9 : f7_ Z h0 wk_ (.ref nm_)) (Pa10 : Arv Z h0 on_ kon_ (.object cNA) (16 : Int32) (y0_ :: nN15) .null) (Pa11 : Ovr Z kon_ cNA) (Pa12 : Exa Z h0 nm_ cNA) (Pa13 : f11_ Z h0 wk_ (.ref op_)) (Pa14 : f8_ Z h0 wk_ (.int z_)) (Pa15 : Arv Z h0 op_ kop_ .int (16 : Int32) ((.int z0_) :: nZ15) (.int 0)) (Pa16 : Exa Z h0 wk_ cWK) (ne_wk__ov_ : wk_ ≠ ov_) (ne_on__ov_ : on_ ≠ ov_) (ne_wk__on_ : wk_ ≠ on_) (ne_op__ov_ : op_ ≠ ov_) (ne_op__on_ : op_ ≠ on_) (ne_wk__op_ : wk_ ≠ op_) (g_ov_ : n0 ≤ ov_) (g_on_ : n0 ≤ on_) (g_op_ : n0 ≤ op_) (g_wk_ : n0 ≤ wk_) :
  Meets1 l ym8 B57_ 5 none ws (mkR 1 0 0 12) #[(.ref wk_), (.ref ar_)] Z h0 (fun v h L => v = none ∧ Fr n0 L ∧ Keep h0 h [ov_, on_, op_, wk_] ∧ f5_ Z h wk_ (.int 3) ∧ f9_ Z h wk_ (.ref ov_) ∧ Arv Z h ov_ kov_ (.array (.object cJV)) (16 : Int32) (x0_ :: (.ref vo_) :: nN14) .null ∧ f6_ Z h wk_ (.ref va_) ∧ f10_ Z h wk_ (.ref on_) ∧ f7_ Z h wk_ .null ∧ Arv Z h on_ kon_ (.object cNA) (16 : Int32) (y0_ :: (.ref nm_) :: nN14) .null ∧ f11_ Z h wk_ (.ref op_) ∧ f8_ Z h wk_ (.int 0) ∧ Arv Z h op_ kop_ .int (16 : Int32) ((.int z0_) :: (.int z_) :: nZ14) (.int 0)) := by
 refine own_start n0 (plainFor_of_name pn54) (fun m => ef54_rr m wk_ ar_) ?_
 intro p e s m below meth c s₁ hns hrt hZ hx hby hml hown hnm X0 e0 N0
 have K0 := Keep.refl h0 [ov_, on_, op_, wk_]
 refine wnu X0 hx hby d54_0 ?_
 refine wasN X0 hx hby d54_1 (l' := #[cr wk_, cr ar_, cu, .val .null, cu]) rfl rfl ?_
 refine walN X0 hx hby d54_2 rfl rfl ?_
 obtain ⟨T409, X409, e409, st409⟩ := instNo X0 hx hZ hown (ow hw 419 rfl) e0 Pa0 (own_noinst (ow hw 420 rfl) (ow hw 421 rfl) (ow hw 366 rfl) (by decide) (by decide)) (g := (mkF m 3 #[cr wk_, cr ar_, cu, .val .null, cu] [(.ref ar_)])) rfl rfl (hb hby d54_3)
 refine Ends.go st409 ?_
 refine wiy (pc := 6) (pc' := 30) X409 hx hby d54_6 ((if0 _ _).trans (teq (by decide : (0 : Int32) = (0 : Int32))).1) ?_
 refine walN X409 hx hby d54_30 rfl rfl ?_
 obtain ⟨T410, X410, e410, st410⟩ := castY X409 hx hZ hown (ow hw 422 rfl) e409 (Ins.self Pa0) (g := (mkF m 31 #[cr wk_, cr ar_, cu, .val .null, cu] [(.ref ar_)])) rfl rfl (hb hby d54_31)
 refine Ends.go st410 ?_
 refine wvb X410 hx hZ hown hw hml rfl hby d54_34 424 rfl 425 rfl 427 rfl 426 rfl (by decide) e410 Pa0 (rx55_59 l Z a0 hw [] n0 h0 O0  ar_ va_ Pa1) 428 rfl 1 rfl (by decide) (by decide) [] [] pdx_3 rfl rfl rfl (by decide) (by decide) rfl ?_
 intro _ T411 _ X411 hQ411
 obtain ⟨rfl, N411q, K411c⟩ := hQ411
 have N411 := Fr.app N0 N411q
 obtain ⟨h411, e411⟩ : ∃ z, T411.heap = z := ⟨_, rfl⟩
 rw [e411] at K411c
 have K411 := K0.trans K411c all0
 refine wasN X411 hx hby d54_37 (l' := #[cr wk_, cr ar_, cr va_, .val .null, cu]) rfl rfl ?_
 refine walN X411 hx hby d54_38 rfl rfl ?_
 refine wgf X411 hx hZ hown hw 429 rfl e411 (Pa2.keep K411c nin0) hby d54_39 ?_
 intro T412 X412 e412
 refine win X412 hx hby d54_42 ((if0 _ _).trans (tlt (by decide : (0 : Int32) < (2 : Int32))).2.2.2) ?_
 refine walN X412 hx hby d54_45 rfl rfl ?_
 refine wgf X412 hx hZ hown hw 429 rfl e412 (Pa2.keep K411c nin0) hby d54_46 ?_
 intro T413 X413 e413
 refine walN X413 hx hby d54_49 rfl rfl ?_
 refine wgf X413 hx hZ hown hw 402 rfl e413 (Pa3.keep K411c nin0) hby d54_50 ?_
 intro T414 X414 e414
 obtain ⟨cl415, Ar415, q415, S415, M415, H415, G415⟩ := id (Pa4.keep K411c nin0)
 refine Ends.go (X414.arraylength hx (by rw [e414]; exact Ar415.1) (State.isArrayOf_alike hZ.alike Ar415.2.1) (g := (mkF m 53 #[cr wk_, cr ar_, cr va_, .val .null, cu] [(.ref ov_), (.int 2)])) rfl rfl (hb hby d54_53)) ?_
 rw [len_of S415 M415]
 refine wcy (pc := 54) (pc' := 61) X414 hx hby d54_54 (flt (by decide : ¬ ((16 : Int32) < (2 : Int32)))).2.2.2 ?_
 refine walN X414 hx hby d54_61 rfl rfl ?_
 refine wgf X414 hx hZ hown hw 402 rfl e414 (Pa3.keep K411c nin0) hby d54_62 ?_
 intro T416 X416 e416
 refine walN X416 hx hby d54_65 rfl rfl ?_
 refine wgf X416 hx hZ hown hw 429 rfl e416 (Pa2.keep K411c nin0) hby d54_66 ?_
 intro T417 X417 e417
 refine wic X417 hx hby d54_69 ?_
 refine wis X417 hx hby d54_70 ?_
 refine walN X417 hx hby d54_71 rfl rfl ?_
 refine wgf X417 hx hZ hown hw 431 rfl e417 (Pa5.keep K411c nin0) hby d54_72 ?_
 intro T418 X418 e418
 obtain ⟨cl419, Ar419, q419, S419, M419, H419, G419⟩ := id (Pa4.keep K411c nin0)
 have hin419 := inb_of (j := (1 : Int32)) S419 ⟨by decide, by decide⟩
 obtain ⟨T419, h419, X419, e419, W419, st419⟩ := stR X418 hx hZ e418 Ar419 (j := (1 : Int32)) hin419 rfl (Sto.ofVA Ar419 q419 Pa6 (Ins.self (Pa7.keep K411c))) (g := (mkF m 75 #[cr wk_, cr ar_, cr va_, .val .null, cu] [(.ref vo_), (.int 1), (.ref ov_)])) rfl rfl (hb hby d54_75)
 refine Ends.go st419 ?_
 have V419 : Arv Z h419 ov_ kov_ (.array (.object cJV)) (16 : Int32) (x0_ :: (.ref vo_) :: nN14) .null := Arv.set Ar419 q419 S419 M419 H419 G419 rfl W419 1 rfl (Nat.le_of_ble_eq_true rfl)
 have K419 := K411.wr W419 (mi 0 rfl)
 have N419 := Fr.snoc X419 N411 g_ov_
 refine walN X419 hx hby d54_76 rfl rfl ?_
 refine wgf X419 hx hZ hown hw 406 rfl e419 ((Pa8.keep K411c nin0).other W419 (Or.inl ne_wk__ov_)) hby d54_77 ?_
 intro T420 X420 e420
 show Ends _ _ _ _ T420 (mkF m 80 #[cr wk_, cr ar_, cr va_, .val .null, cu] [(.ref on_)]) _ _ _
 refine walN X420 hx hby d54_80 rfl rfl ?_
 refine wgf X420 hx hZ hown hw 429 rfl e420 ((Pa2.keep K411c nin0).other W419 (Or.inl ne_wk__ov_)) hby d54_81 ?_
 intro T421 X421 e421
 refine wic X421 hx hby d54_84 ?_
 refine wis X421 hx hby d54_85 ?_
 refine walN X421 hx hby d54_86 rfl rfl ?_
 refine wgf X421 hx hZ hown hw 433 rfl e421 ((Pa9.keep K411c nin0).other W419 (Or.inl ne_wk__ov_)) hby d54_87 ?_
 intro T422 X422 e422
 obtain ⟨cl423, Ar423, q423, S423, M423, H423, G423⟩ := id ((Pa10.keep K411c nin0).other W419 ne_on__ov_)
 have hin423 := inb_of (j := (1 : Int32)) S423 ⟨by decide, by decide⟩
 obtain ⟨T423, h423, X423, e423, W423, st423⟩ := stR X422 hx hZ e422 Ar423 (j := (1 : Int32)) hin423 rfl (Sto.ofV Ar423 q423 Pa11 (Ins.self ((Pa12.keep K411c).wr W419))) (g := (mkF m 90 #[cr wk_, cr ar_, cr va_, .val .null, cu] [(.ref nm_), (.int 1), (.ref on_)])) rfl rfl (hb hby d54_90)
 refine Ends.go st423 ?_
 have V423 : Arv Z h423 on_ kon_ (.object cNA) (16 : Int32) (y0_ :: (.ref nm_) :: nN14) .null := Arv.set Ar423 q423 S423 M423 H423 G423 rfl W423 1 rfl (Nat.le_of_ble_eq_true rfl)
 have K423 := K419.wr W423 (mi 1 rfl)
 have N423 := Fr.snoc X423 N419 g_on_
 refine walN X423 hx hby d54_91 rfl rfl ?_
 have c424 := ((Pa13.keep K411c nin0).other W419 (Or.inl ne_wk__ov_)).other W423 (Or.inl ne_wk__on_)
 refine wgf X423 hx hZ hown hw 409 rfl e423 c424 hby d54_92 ?_
 intro T425 X425 e425
 refine walN X425 hx hby d54_95 rfl rfl ?_
 have c426 := ((Pa2.keep K411c nin0).other W419 (Or.inl ne_wk__ov_)).other W423 (Or.inl ne_wk__on_)
 refine wgf X425 hx hZ hown hw 429 rfl e425 c426 hby d54_96 ?_
 intro T427 X427 e427
 refine wic X427 hx hby d54_99 ?_
 refine wis X427 hx hby d54_100 ?_
 refine walN X427 hx hby d54_101 rfl rfl ?_
 have c428 := ((Pa14.keep K411c nin0).other W419 (Or.inl ne_wk__ov_)).other W423 (Or.inl ne_wk__on_)
 refine wgf X427 hx hZ hown hw 435 rfl e427 c428 hby d54_102 ?_
 intro T429 X429 e429
 have c431 := ((Pa15.keep K411c nin0).other W419 ne_op__ov_).other W423 ne_op__on_
 obtain ⟨cl430, Ar430, q430, S430, M430, H430, G430⟩ := id c431
 have hin430 := inb_of (j := (1 : Int32)) S430 ⟨by decide, by decide⟩
 obtain ⟨T430, h430, X430, e430, W430, st430⟩ := stI X429 hx hZ e429 Ar430 (j := (1 : Int32)) hin430 (g := (mkF m 105 #[cr wk_, cr ar_, cr va_, .val .null, cu] [(.int z_), (.int 1), (.ref op_)])) rfl rfl (hb hby d54_105)
 refine Ends.go st430 ?_
 have V430 : Arv Z h430 op_ kop_ .int (16 : Int32) ((.int z0_) :: (.int z_) :: nZ14) (.int 0) := Arv.set Ar430 q430 S430 M430 H430 G430 rfl W430 1 rfl (Nat.le_of_ble_eq_true rfl)
 have K430 := K423.wr W430 (mi 2 rfl)
 have N430 := Fr.snoc X430 N423 g_op_
 refine walN X430 hx hby d54_106 rfl rfl ?_
 refine walN X430 hx hby d54_107 rfl rfl ?_
 have c432 := (((Pa5.keep K411c nin0).other W419 (Or.inl ne_wk__ov_)).other W423 (Or.inl ne_wk__on_)).other W430 (Or.inl ne_wk__op_)
 refine wpf X430 hx hZ hown hw 431 rfl e430 c432 ((((Pa16.keep K411c).wr W419).wr W423).wr W430) 432 rfl 394 rfl (ty := (.array (.object cJV))) (by decide) rfl rfl hby d54_108 ?_
 intro T433 h433 X433 e433 W433
 have Fw433 := c432.same W433
 have K433 := K430.wr W433 (mi 3 rfl)
 have N433 := Fr.snoc X433 N430 g_wk_
 refine walN X433 hx hby d54_111 rfl rfl ?_
 refine walN X433 hx hby d54_112 rfl rfl ?_
 have c434 := ((((Pa9.keep K411c nin0).other W419 (Or.inl ne_wk__ov_)).other W423 (Or.inl ne_wk__on_)).other W430 (Or.inl ne_wk__op_)).other W433 (sll hw 434 rfl 432 rfl)
 refine wpf X433 hx hZ hown hw 433 rfl e433 c434 (((((Pa16.keep K411c).wr W419).wr W423).wr W430).wr W433) 434 rfl 394 rfl (ty := (.object cNA)) (by decide) rfl rfl hby d54_113 ?_
 intro T435 h435 X435 e435 W435
 have Fw435 := c434.same W435
 have K435 := K433.wr W435 (mi 3 rfl)
 have N435 := Fr.snoc X435 N433 g_wk_
 refine walN X435 hx hby d54_116 rfl rfl ?_
 refine wic X435 hx hby d54_117 ?_
 have c436 := (((((Pa16.keep K411c).wr W419).wr W423).wr W430).wr W433).wr W435
 have c437 := ((c428.other W430 (Or.inl ne_wk__op_)).other W433 (sll hw 436 rfl 432 rfl)).other W435 (sll hw 436 rfl 434 rfl)
 refine wpf X435 hx hZ hown hw 435 rfl e435 c437 c436 436 rfl 394 rfl (ty := .int) (by decide) rfl rfl hby d54_118 ?_
 intro T438 h438 X438 e438 W438
 have Fw438 := c437.same W438
 have K438 := K435.wr W438 (mi 3 rfl)
 have N438 := Fr.snoc X438 N435 g_wk_
 refine walN X438 hx hby d54_121 rfl rfl ?_
 refine wdu X438 hx hby d54_122 rfl ?_
 have c439 := (((c426.other W430 (Or.inl ne_wk__op_)).other W433 (sll hw 430 rfl 432 rfl)).other W435 (sll hw 430 rfl 434 rfl)).other W438 (sll hw 430 rfl 436 rfl)
 refine wgf X438 hx hZ hown hw 429 rfl e438 c439 hby d54_123 ?_
 intro T440 X440 e440
 refine wic X440 hx hby d54_126 ?_
 refine wia X440 hx hby d54_127 ?_
 show Ends _ _ _ _ T440 (mkF m 128 #[cr wk_, cr ar_, cr va_, .val .null, cu] [(.int 3), (.ref wk_)]) _ _ _
 refine wpf X440 hx hZ hown hw 429 rfl e440 c439 (c436.wr W438) 430 rfl 394 rfl (ty := .int) (by decide) rfl rfl hby d54_128 ?_
 intro T441 h441 X441 e441 W441
 have Fw441 := c439.same W441
 have K441 := K438.wr W441 (mi 3 rfl)
 have N441 := Fr.snoc X441 N438 g_wk_
 refine Ends.retV X441 hx hns hrt (hb hby d54_131) (by decide) (by decide) ?_
 rw [e441]
 have c442 := (((((((Pa3.keep K411c nin0).other W419 (Or.inl ne_wk__ov_)).other W423 (Or.inl ne_wk__on_)).other W430 (Or.inl ne_wk__op_)).other W433 (sll hw 403 rfl 432 rfl)).other W435 (sll hw 403 rfl 434 rfl)).other W438 (sll hw 403 rfl 436 rfl)).other W441 (sll hw 403 rfl 430 rfl)
 have c443 := (((((V419.other W423 (Ne.symm ne_on__ov_)).other W430 (Ne.symm ne_op__ov_)).other W433 (Ne.symm ne_wk__ov_)).other W435 (Ne.symm ne_wk__ov_)).other W438 (Ne.symm ne_wk__ov_)).other W441 (Ne.symm ne_wk__ov_)
 have c444 := ((Fw433.other W435 (sll hw 432 rfl 434 rfl)).other W438 (sll hw 432 rfl 436 rfl)).other W441 (sll hw 432 rfl 430 rfl)
 have c445 := (((((((Pa8.keep K411c nin0).other W419 (Or.inl ne_wk__ov_)).other W423 (Or.inl ne_wk__on_)).other W430 (Or.inl ne_wk__op_)).other W433 (sll hw 407 rfl 432 rfl)).other W435 (sll hw 407 rfl 434 rfl)).other W438 (sll hw 407 rfl 436 rfl)).other W441 (sll hw 407 rfl 430 rfl)
 have c446 := (Fw435.other W438 (sll hw 434 rfl 436 rfl)).other W441 (sll hw 434 rfl 430 rfl)
 have c447 := ((((V423.other W430 (Ne.symm ne_op__on_)).other W433 (Ne.symm ne_wk__on_)).other W435 (Ne.symm ne_wk__on_)).other W438 (Ne.symm ne_wk__on_)).other W441 (Ne.symm ne_wk__on_)
 have c448 := ((((c424.other W430 (Or.inl ne_wk__op_)).other W433 (sll hw 410 rfl 432 rfl)).other W435 (sll hw 410 rfl 434 rfl)).other W438 (sll hw 410 rfl 436 rfl)).other W441 (sll hw 410 rfl 430 rfl)
 have c449 := Fw438.other W441 (sll hw 436 rfl 430 rfl)
 have c450 := (((V430.other W433 (Ne.symm ne_wk__op_)).other W435 (Ne.symm ne_wk__op_)).other W438 (Ne.symm ne_wk__op_)).other W441 (Ne.symm ne_wk__op_)
 exact ⟨rfl, N441, K441, Fw441, c442, c443, c444, c445, c446, c447, c448, c449, c450⟩

theorem rx59_452 (l : Launch) (Z : State) (a0 : Array Value) (hw : HW a0 Z) (ws : List Jvm.Cond) (n0 : Nat) (h0 : Heap) (O0 : Old Z n0 h0) (G1 : Int32) (w_EMPTY : Addr) (GF : GlobF Z G1 w_EMPTY) (wk_ : Addr) (va_ : Addr) (kva_ : ClassId) (ob_ : Addr) (ov_ : Addr) (on_ : Addr) (op_ : Addr) (Pa0 : f6_ Z h0 wk_ (.ref va_)) (Pa1 : f8_ Z h0 wk_ (.int 0)) (Pa2 : Exa Z h0 wk_ cWK) (Pa3 : Arv Z h0 va_ kva_ (.object cJV) (2 : Int32) [(.ref w_EMPTY), (.ref ob_)] .null) (Pa4 : f5_ Z h0 wk_ (.int 3)) (Pa5 : f9_ Z h0 wk_ (.ref ov_)) (Pa6 : f10_ Z h0 wk_ (.ref on_)) (Pa7 : f7_ Z h0 wk_ .null) (Pa8 : f11_ Z h0 wk_ (.ref op_)) (ne_va__wk_ : va_ ≠ wk_) (g_wk_ : n0 ≤ wk_) :
  Meets1 l ym9 B61_ 1 (some (.object cJV)) ws (mkR 0 0 0 0) #[(.ref wk_)] Z h0 (fun v h L => v = some (.ref w_EMPTY) ∧ Fr n0 L ∧ Keep h0 h [wk_] ∧ f6_ Z h wk_ (.ref va_) ∧ f8_ Z h wk_ (.int 1) ∧ f5_ Z h wk_ (.int 3) ∧ f9_ Z h wk_ (.ref ov_) ∧ f10_ Z h wk_ (.ref on_) ∧ f7_ Z h wk_ .null ∧ f11_ Z h wk_ (.ref op_)) := by
 refine own_start n0 (plainFor_of_name pn59) (fun m => ef59_r m wk_) ?_
 intro p e s m below meth c s₁ hns hrt hZ hx hby hml hown hnm X0 e0 N0
 obtain ⟨SCS, P5, S_EMPTY, E_EMPTY⟩ := id GF
 have K0 := Keep.refl h0 [wk_]
 show Ends _ _ _ _ s₁ (mkF m 0 #[cr wk_] []) _ _ _
 refine walN X0 hx hby d59_0 rfl rfl ?_
 refine wgf X0 hx hZ hown hw 431 rfl e0 Pa0 hby d59_1 ?_
 intro T453 X453 e453
 refine walN X453 hx hby d59_4 rfl rfl ?_
 refine wdu X453 hx hby d59_5 rfl ?_
 refine wgf X453 hx hZ hown hw 435 rfl e453 Pa1 hby d59_6 ?_
 intro T454 X454 e454
 refine wdx X454 hx hby d59_9 rfl rfl ?_
 refine wic X454 hx hby d59_10 ?_
 refine wia X454 hx hby d59_11 ?_
 refine wpf X454 hx hZ hown hw 435 rfl e454 Pa1 Pa2 436 rfl 394 rfl (ty := .int) (by decide) rfl rfl hby d59_12 ?_
 intro T455 h455 X455 e455 W455
 have Fw455 := Pa1.same W455
 have K455 := K0.wr W455 (mi 0 rfl)
 have N455 := Fr.snoc X455 N0 g_wk_
 obtain ⟨cl456, Ar456, q456, S456, M456, H456, G456⟩ := id (Pa3.other W455 ne_va__wk_)
 have hin456 := inb_of (j := (0 : Int32)) S456 ⟨by decide, by decide⟩
 refine Ends.go (X455.aaload hx (j := (0 : Int32)) (v := (.ref w_EMPTY)) (by rw [e455]; exact Ar456.1) (State.isArrayOf_alike hZ.alike Ar456.2.1) rfl Ar456.2.2 hin456 (H456.at hin456 rfl) (g := (mkF m 15 #[cr wk_] [(.int 0), (.ref va_)])) rfl rfl (hb hby d59_15)) ?_
 refine Ends.ret X455 hx hns (t := (.object cJV)) hrt rfl (Or.inr (Or.inr (Or.inr (Or.inr ⟨rfl, rfl, rfl⟩)))) (hb hby d59_16) (by decide) (by decide) ?_
 rw [e455]
 have c457 := Pa4.other W455 (sll hw 430 rfl 436 rfl)
 have c458 := Pa5.other W455 (sll hw 403 rfl 436 rfl)
 have c459 := Pa6.other W455 (sll hw 407 rfl 436 rfl)
 have c460 := Pa7.other W455 (sll hw 434 rfl 436 rfl)
 have c461 := Pa8.other W455 (sll hw 410 rfl 436 rfl)
 have c462 := Pa0.other W455 (sll hw 432 rfl 436 rfl)
 exact ⟨rfl, N455, K455, c462, Fw455, c457, c458, c459, c460, c461⟩

theorem rx59_467 (l : Launch) (Z : State) (a0 : Array Value) (hw : HW a0 Z) (ws : List Jvm.Cond) (n0 : Nat) (h0 : Heap) (O0 : Old Z n0 h0)  (wk_ : Addr) (va_ : Addr) (kva_ : ClassId) (ob_ : Addr) (ov_ : Addr) (on_ : Addr) (op_ : Addr) (Pa0 : f6_ Z h0 wk_ (.ref va_)) (Pa1 : f8_ Z h0 wk_ (.int 1)) (Pa2 : Exa Z h0 wk_ cWK) (Pa3 : Arv Z h0 va_ kva_ (.object cJV) (2 : Int32) [(.ref w_EMPTY), (.ref ob_)] .null) (Pa4 : f5_ Z h0 wk_ (.int 3)) (Pa5 : f9_ Z h0 wk_ (.ref ov_)) (Pa6 : f10_ Z h0 wk_ (.ref on_)) (Pa7 : f7_ Z h0 wk_ .null) (Pa8 : f11_ Z h0 wk_ (.ref op_)) (ne_va__wk_ : va_ ≠ wk_) (g_wk_ : n0 ≤ wk_) :
  Meets1 l ym9 B61_ 1 (some (.object cJV)) ws (mkR 0 0 0 0) #[(.ref wk_)] Z h0 (fun v h L => v = some (.ref ob_) ∧ Fr n0 L ∧ Keep h0 h [wk_] ∧ f6_ Z h wk_ (.ref va_) ∧ f8_ Z h wk_ (.int 2) ∧ f5_ Z h wk_ (.int 3) ∧ f9_ Z h wk_ (.ref ov_) ∧ f10_ Z h wk_ (.ref on_) ∧ f7_ Z h wk_ .null ∧ f11_ Z h wk_ (.ref op_)) := by
 refine own_start n0 (plainFor_of_name pn59) (fun m => ef59_r m wk_) ?_
 intro p e s m below meth c s₁ hns hrt hZ hx hby hml hown hnm X0 e0 N0
 have K0 := Keep.refl h0 [wk_]
 refine walN X0 hx hby d59_0 rfl rfl ?_
 refine wgf X0 hx hZ hown hw 431 rfl e0 Pa0 hby d59_1 ?_
 intro T468 X468 e468
 refine walN X468 hx hby d59_4 rfl rfl ?_
 refine wdu X468 hx hby d59_5 rfl ?_
 refine wgf X468 hx hZ hown hw 435 rfl e468 Pa1 hby d59_6 ?_
 intro T469 X469 e469
 refine wdx X469 hx hby d59_9 rfl rfl ?_
 refine wic X469 hx hby d59_10 ?_
 refine wia X469 hx hby d59_11 ?_
 refine wpf X469 hx hZ hown hw 435 rfl e469 Pa1 Pa2 436 rfl 394 rfl (ty := .int) (by decide) rfl rfl hby d59_12 ?_
 intro T470 h470 X470 e470 W470
 have Fw470 := Pa1.same W470
 have K470 := K0.wr W470 (mi 0 rfl)
 have N470 := Fr.snoc X470 N0 g_wk_
 obtain ⟨cl471, Ar471, q471, S471, M471, H471, G471⟩ := id (Pa3.other W470 ne_va__wk_)
 have hin471 := inb_of (j := (1 : Int32)) S471 ⟨by decide, by decide⟩
 refine Ends.go (X470.aaload hx (j := (1 : Int32)) (v := (.ref ob_)) (by rw [e470]; exact Ar471.1) (State.isArrayOf_alike hZ.alike Ar471.2.1) rfl Ar471.2.2 hin471 (H471.at hin471 rfl) (g := (mkF m 15 #[cr wk_] [(.int 1), (.ref va_)])) rfl rfl (hb hby d59_15)) ?_
 refine Ends.ret X470 hx hns (t := (.object cJV)) hrt rfl (Or.inr (Or.inr (Or.inr (Or.inr ⟨rfl, rfl, rfl⟩)))) (hb hby d59_16) (by decide) (by decide) ?_
 rw [e470]
 have c472 := Pa4.other W470 (sll hw 430 rfl 436 rfl)
 have c473 := Pa5.other W470 (sll hw 403 rfl 436 rfl)
 have c474 := Pa6.other W470 (sll hw 407 rfl 436 rfl)
 have c475 := Pa7.other W470 (sll hw 434 rfl 436 rfl)
 have c476 := Pa8.other W470 (sll hw 410 rfl 436 rfl)
 have c477 := Pa0.other W470 (sll hw 432 rfl 436 rfl)
 exact ⟨rfl, N470, K470, c477, Fw470, c472, c473, c474, c475, c476⟩

theorem rmStep_2oa (l : Launch) (Z : State) (a0 : Array Value) (hw : HW a0 Z) (ws : List Jvm.Cond) (n0 : Nat) (h0 : Heap) (O0 : Old Z n0 h0)  (G1 : Int32) (w_EMPTY : Addr) (GF : GlobF Z G1 w_EMPTY) (wk_ ov_ on_ op_ ob_ nm_ vo_ ar_ va_ : Addr) (kvo_ kva_ kov_ kon_ kop_ : ClassId) (x0_ : Value) (y0_ : Value) (z0_ : Int32) (z_ : Int32) (p_ : Int32) (g_wk_ : n0 ≤ wk_) (g_ov_ : n0 ≤ ov_) (g_on_ : n0 ≤ on_) (g_op_ : n0 ≤ op_) (NEs : own_NE wk_ ov_ on_ op_ ob_ nm_ vo_ ar_ va_) (SF : own_SF Z h0 w_EMPTY wk_ ov_ on_ op_ ob_ nm_ vo_ ar_ va_ kvo_ kva_ kov_ kon_ kop_ (.ref vo_) (.ref nm_) z_ (2 : Int32) (x0_ :: nN15) (y0_ :: nN15) ((.int z0_) :: nZ15)) (hp_ : (p_ = 0 ∨ p_ = 1 ∨ p_ = 2)) :
  Meets1 l ym10 B39_ 3 none ws (mkR 2 0 0 40) #[(.ref wk_), (.ref ar_), (.int p_)] Z h0 (fun v h L => v = none ∧ Fr n0 L ∧ Keep h0 h [wk_, ov_, on_, op_] ∧ own_SQ Z h wk_ ov_ on_ op_ kov_ kon_ kop_ (.ref va_) .null p_ (3 : Int32) (x0_ :: (.ref vo_) :: nN14) (y0_ :: (.ref nm_) :: nN14) ((.int z0_) :: (.int z_) :: nZ14)) := by
 refine own_start n0 (plainFor_of_name pn53) (fun m => ef53_rri m wk_ ar_ p_) ?_
 intro p e s m below meth c s₁ hns hrt hZ hx hby hml hown hnm X0 e0 N0
 have K0 := Keep.refl h0 [wk_, ov_, on_, op_]
 obtain ⟨SCS, P5, S_EMPTY, E_EMPTY⟩ := id GF
 obtain ⟨ne_wk_ov_, ne_wk_on_, ne_wk_op_, ne_wk_ob_, ne_wk_nm_, ne_wk_vo_, ne_wk_ar_, ne_wk_va_, ne_ov_on_, ne_ov_op_, ne_ov_ob_, ne_ov_nm_, ne_ov_vo_, ne_ov_ar_, ne_ov_va_, ne_on_op_, ne_on_ob_, ne_on_nm_, ne_on_vo_, ne_on_ar_, ne_on_va_, ne_op_ob_, ne_op_nm_, ne_op_vo_, ne_op_ar_, ne_op_va_⟩ := NEs
 obtain ⟨PE_wk_, PE_ob_, PE_nm_, PE_vo_, PE_ar_, PE_va_, PF_ob__names, PF_ob__values, PF_ar__elements, PF_wk__values, PF_wk__names, PF_wk__place, PF_wk__depth, PF_wk__outerValues, PF_wk__outerNames, PF_wk__outerPlaces, PV_vo_, PV_va_, PV_ov_, PV_on_, PV_op_, PO_ov_, PO_on_⟩ := SF
 refine walN X0 hx hby d53_0 rfl rfl ?_
 refine walN X0 hx hby d53_1 rfl rfl ?_
 refine wvb X0 hx hZ hown hw hml rfl hby d53_2 414 rfl 415 rfl 417 rfl 416 rfl (by decide) e0 PE_wk_ (rx54_408 l Z a0 hw [] n0 h0 O0  wk_ ar_ va_ ov_ kov_ x0_ vo_ on_ nm_ kon_ y0_ op_ z_ kop_ z0_ PE_ar_ PF_ar__elements PF_wk__depth PF_wk__outerValues PV_ov_ PF_wk__values PO_ov_ PE_vo_ PF_wk__outerNames PF_wk__names PV_on_ PO_on_ PE_nm_ PF_wk__outerPlaces PF_wk__place PV_op_ PE_wk_ ne_wk_ov_ (Ne.symm ne_ov_on_) ne_wk_on_ (Ne.symm ne_ov_op_) (Ne.symm ne_on_op_) ne_wk_op_ g_ov_ g_on_ g_op_ g_wk_) 418 rfl 395 rfl (by decide) (by decide) [(.ref ar_)] [] pdx_5 rfl rfl rfl (by decide) (by decide) rfl ?_
 intro _ T451 _ X451 hQ451
 obtain ⟨rfl, N451q, K451c, Y451_0, Y451_1, Y451_2, Y451_3, Y451_4, Y451_5, Y451_6, Y451_7, Y451_8, Y451_9⟩ := hQ451
 have N451 := Fr.app N0 N451q
 obtain ⟨h451, e451⟩ : ∃ z, T451.heap = z := ⟨_, rfl⟩
 rw [e451] at K451c Y451_0 Y451_1 Y451_2 Y451_3 Y451_4 Y451_5 Y451_6 Y451_7 Y451_8 Y451_9
 have K451 := K0.trans K451c (allS (mi 1 rfl) (allS (mi 2 rfl) (allS (mi 3 rfl) (allS (mi 0 rfl) all0))))
 have O451 := O0.keep K451c (allS g_ov_ (allS g_on_ (allS g_op_ (allS g_wk_ all0))))
 rcases hp_ with rfl | rfl | rfl
 ·show Ends _ _ _ _ T451 (mkF m 5 #[cr wk_, cr ar_, ci 0] []) _ _ _
  refine wilN X451 hx hby d53_5 rfl ?_
  refine wiy (pc := 6) (pc' := 14) X451 hx hby d53_6 ((if0 _ _).trans (flt (by decide : ¬ ((0 : Int32) < (0 : Int32)))).2.2.2) ?_
  refine wilN X451 hx hby d53_14 rfl ?_
  refine wic X451 hx hby d53_15 ?_
  refine wcy (pc := 16) (pc' := 24) X451 hx hby d53_16 (flt (by decide : ¬ ((1 : Int32) < (0 : Int32)))).2.2.2 ?_
  refine Ends.retV X451 hx hns hrt (hb hby d53_24) (by decide) (by decide) ?_
  rw [e451]
  exact ⟨rfl, N451, K451, Y451_3, Y451_5, Y451_8, Y451_0, Y451_1, Y451_4, Y451_7, Y451_2, Y451_6, Y451_9⟩
 ·show Ends _ _ _ _ T451 (mkF m 5 #[cr wk_, cr ar_, ci 1] []) _ _ _
  refine wilN X451 hx hby d53_5 rfl ?_
  refine win X451 hx hby d53_6 ((if0 _ _).trans (tlt (by decide : (0 : Int32) < (1 : Int32))).2.2.2) ?_
  refine walN X451 hx hby d53_9 rfl rfl ?_
  have c463 := PV_va_.keep K451c (ninS (Ne.symm ne_ov_va_) (ninS (Ne.symm ne_on_va_) (ninS (Ne.symm ne_op_va_) (ninS (Ne.symm ne_wk_va_) nin0))))
  refine wvb X451 hx hZ hown hw hml rfl hby d53_10 452 rfl 453 rfl 455 rfl 454 rfl (by decide) e451 (PE_wk_.keep K451c) (rx59_452 l Z a0 hw [] n0 h451 O451 G1 w_EMPTY GF wk_ va_ kva_ ob_ ov_ on_ op_ Y451_3 Y451_8 (PE_wk_.keep K451c) c463 Y451_0 Y451_1 Y451_4 Y451_5 Y451_7 (Ne.symm ne_wk_va_) g_wk_) 456 rfl 395 rfl (by decide) (by decide) [] [] pdx_6 rfl rfl rfl (by decide) (by decide) rfl ?_
  intro _ T464 _ X464 hQ464
  obtain ⟨rfl, N464q, K464c, Y464_0, Y464_1, Y464_2, Y464_3, Y464_4, Y464_5, Y464_6⟩ := hQ464
  have N464 := Fr.app N451 N464q
  obtain ⟨h464, e464⟩ : ∃ z, T464.heap = z := ⟨_, rfl⟩
  rw [e464] at K464c Y464_0 Y464_1 Y464_2 Y464_3 Y464_4 Y464_5 Y464_6
  have K464 := K451.trans K464c (allS (mi 0 rfl) all0)
  refine wpo X464 hx hby d53_13 rfl ?_
  refine wilN X464 hx hby d53_14 rfl ?_
  refine wic X464 hx hby d53_15 ?_
  refine wcy (pc := 16) (pc' := 24) X464 hx hby d53_16 (flt (by decide : ¬ ((1 : Int32) < (1 : Int32)))).2.2.2 ?_
  refine Ends.retV X464 hx hns hrt (hb hby d53_24) (by decide) (by decide) ?_
  rw [e464]
  exact ⟨rfl, N464, K464, Y464_0, Y464_5, Y464_1, Y464_2, Y464_3, Y464_4, Y464_6, (Y451_2.keep K464c (ninS (Ne.symm ne_wk_ov_) nin0)), (Y451_6.keep K464c (ninS (Ne.symm ne_wk_on_) nin0)), (Y451_9.keep K464c (ninS (Ne.symm ne_wk_op_) nin0))⟩
 ·show Ends _ _ _ _ T451 (mkF m 5 #[cr wk_, cr ar_, ci 2] []) _ _ _
  refine wilN X451 hx hby d53_5 rfl ?_
  refine win X451 hx hby d53_6 ((if0 _ _).trans (tlt (by decide : (0 : Int32) < (2 : Int32))).2.2.2) ?_
  refine walN X451 hx hby d53_9 rfl rfl ?_
  have c465 := PV_va_.keep K451c (ninS (Ne.symm ne_ov_va_) (ninS (Ne.symm ne_on_va_) (ninS (Ne.symm ne_op_va_) (ninS (Ne.symm ne_wk_va_) nin0))))
  refine wvb X451 hx hZ hown hw hml rfl hby d53_10 452 rfl 453 rfl 455 rfl 454 rfl (by decide) e451 (PE_wk_.keep K451c) (rx59_452 l Z a0 hw [] n0 h451 O451 G1 w_EMPTY GF wk_ va_ kva_ ob_ ov_ on_ op_ Y451_3 Y451_8 (PE_wk_.keep K451c) c465 Y451_0 Y451_1 Y451_4 Y451_5 Y451_7 (Ne.symm ne_wk_va_) g_wk_) 456 rfl 395 rfl (by decide) (by decide) [] [] pdx_6 rfl rfl rfl (by decide) (by decide) rfl ?_
  intro _ T466 _ X466 hQ466
  obtain ⟨rfl, N466q, K466c, Y466_0, Y466_1, Y466_2, Y466_3, Y466_4, Y466_5, Y466_6⟩ := hQ466
  have N466 := Fr.app N451 N466q
  obtain ⟨h466, e466⟩ : ∃ z, T466.heap = z := ⟨_, rfl⟩
  rw [e466] at K466c Y466_0 Y466_1 Y466_2 Y466_3 Y466_4 Y466_5 Y466_6
  have K466 := K451.trans K466c (allS (mi 0 rfl) all0)
  have O466 := O451.keep K466c (allS g_wk_ all0)
  refine wpo X466 hx hby d53_13 rfl ?_
  refine wilN X466 hx hby d53_14 rfl ?_
  refine wic X466 hx hby d53_15 ?_
  refine wcn X466 hx hby d53_16 (tlt (by decide : (1 : Int32) < (2 : Int32))).2.2.2 ?_
  refine walN X466 hx hby d53_19 rfl rfl ?_
  refine wvb X466 hx hZ hown hw hml rfl hby d53_20 452 rfl 453 rfl 455 rfl 454 rfl (by decide) e466 ((PE_wk_.keep K451c).keep K466c) (rx59_467 l Z a0 hw [] n0 h466 O466  wk_ va_ kva_ ob_ ov_ on_ op_ Y466_0 Y466_1 ((PE_wk_.keep K451c).keep K466c) (c465.keep K466c (ninS (Ne.symm ne_wk_va_) nin0)) Y466_2 Y466_3 Y466_4 Y466_5 Y466_6 (Ne.symm ne_wk_va_) g_wk_) 456 rfl 395 rfl (by decide) (by decide) [] [] pdx_6 rfl rfl rfl (by decide) (by decide) rfl ?_
  intro _ T478 _ X478 hQ478
  obtain ⟨rfl, N478q, K478c, Y478_0, Y478_1, Y478_2, Y478_3, Y478_4, Y478_5, Y478_6⟩ := hQ478
  have N478 := Fr.app N466 N478q
  obtain ⟨h478, e478⟩ : ∃ z, T478.heap = z := ⟨_, rfl⟩
  rw [e478] at K478c Y478_0 Y478_1 Y478_2 Y478_3 Y478_4 Y478_5 Y478_6
  have K478 := K466.trans K478c (allS (mi 0 rfl) all0)
  show Ends _ _ _ _ T478 (mkF m 23 #[cr wk_, cr ar_, ci 2] [(.ref ob_)]) _ _ _
  refine wpo X478 hx hby d53_23 rfl ?_
  refine Ends.retV X478 hx hns hrt (hb hby d53_24) (by decide) (by decide) ?_
  rw [e478]
  have c479 := (Y451_2.keep K466c (ninS (Ne.symm ne_wk_ov_) nin0)).keep K478c (ninS (Ne.symm ne_wk_ov_) nin0)
  have c480 := (Y451_6.keep K466c (ninS (Ne.symm ne_wk_on_) nin0)).keep K478c (ninS (Ne.symm ne_wk_on_) nin0)
  have c481 := (Y451_9.keep K466c (ninS (Ne.symm ne_wk_op_) nin0)).keep K478c (ninS (Ne.symm ne_wk_op_) nin0)
  exact ⟨rfl, N478, K478, Y478_0, Y478_5, Y478_1, Y478_2, Y478_3, Y478_4, Y478_6, c479, c480, c481⟩

theorem rx54_482 (l : Launch) (Z : State) (a0 : Array Value) (hw : HW a0 Z) (ws : List Jvm.Cond) (n0 : Nat) (h0 : Heap) (O0 : Old Z n0 h0)  (wk_ : Addr) (ob_ : Addr) (vo_ : Addr) (nm_ : Addr) (ov_ : Addr) (kov_ : ClassId) (x0_ : Value) (va_ : Addr) (on_ : Addr) (kon_ : ClassId) (y0_ : Value) (op_ : Addr) (z_ : Int32) (kop_ : ClassId) (z0_ : Int32) (Pa0 : Exa Z h0 ob_ cJO) (Pa1 : f3_ Z h0 ob_ (.ref vo_)) (Pa2 : f4_ Z h0 ob_ (.ref nm_)) (Pa3 : f5_ Z h0 wk_ (.int 2)) (Pa4 : f9_ Z h0 wk_ (.ref ov_)) (Pa5 : Arv Z h0 ov_ kov_ (.array (.object cJV)) (16 : Int32) (x0_ :: nN15) .null) (Pa6 : f6_ Z h0 wk_ (.ref va_)) (Pa7 : OvrA Z kov_ (.object cJV) cAJ) (Pa8 : Exa Z h0 va_ cAJ) (Pa9 : f10_ Z h0 wk_ (.ref on_)) (Pa10 : f7_ Z h0 wk_ .null) (Pa11 : Arv Z h0 on_ kon_ (.object cNA) (16 : Int32) (y0_ :: nN15) .null) (Pa12 : f11_ Z h0 wk_ (.ref op_)) (Pa13 : f8_ Z h0 wk_ (.int z_)) (Pa14 : Arv Z h0 op_ kop_ .int (16 : Int32) ((.int z0_) :: nZ15) (.int 0)) (Pa15 : Exa Z h0 wk_ cWK) (Pa16 : Ovr Z kon_ cNA) (ne_wk__ov_ : wk_ ≠ ov_) (ne_on__ov_ : on_ ≠ ov_) (ne_wk__on_ : wk_ ≠ on_) (ne_op__ov_ : op_ ≠ ov_) (ne_op__on_ : op_ ≠ on_) (ne_wk__op_ : wk_ ≠ op_) (g_ov_ : n0 ≤ ov_) (g_on_ : n0 ≤ on_) (g_op_ : n0 ≤ op_) (g_wk_ : n0 ≤ wk_) :
  Meets1 l ym8 B57_ 5 none ws (mkR 1 0 0 12) #[(.ref wk_), (.ref ob_)] Z h0 (fun v h L => v = none ∧ Fr n0 L ∧ Keep h0 h [ov_, on_, op_, wk_] ∧ f5_ Z h wk_ (.int 3) ∧ f9_ Z h wk_ (.ref ov_) ∧ Arv Z h ov_ kov_ (.array (.object cJV)) (16 : Int32) (x0_ :: (.ref va_) :: nN14) .null ∧ f6_ Z h wk_ (.ref vo_) ∧ f10_ Z h wk_ (.ref on_) ∧ f7_ Z h wk_ (.ref nm_) ∧ Arv Z h on_ kon_ (.object cNA) (16 : Int32) (y0_ :: nN15) .null ∧ f11_ Z h wk_ (.ref op_) ∧ f8_ Z h wk_ (.int 0) ∧ Arv Z h op_ kop_ .int (16 : Int32) ((.int z0_) :: (.int z_) :: nZ14) (.int 0)) := by
 refine own_start n0 (plainFor_of_name pn54) (fun m => ef54_rr m wk_ ob_) ?_
 intro p e s m below meth c s₁ hns hrt hZ hx hby hml hown hnm X0 e0 N0
 have K0 := Keep.refl h0 [ov_, on_, op_, wk_]
 refine wnu X0 hx hby d54_0 ?_
 refine wasN X0 hx hby d54_1 (l' := #[cr wk_, cr ob_, cu, .val .null, cu]) rfl rfl ?_
 refine walN X0 hx hby d54_2 rfl rfl ?_
 obtain ⟨T483, X483, e483, st483⟩ := instY X0 hx hZ hown (ow hw 419 rfl) e0 (Ins.self Pa0) (g := (mkF m 3 #[cr wk_, cr ob_, cu, .val .null, cu] [(.ref ob_)])) rfl rfl (hb hby d54_3)
 refine Ends.go st483 ?_
 refine win X483 hx hby d54_6 ((if0 _ _).trans (feq (by decide : ¬ ((1 : Int32) = (0 : Int32)))).1) ?_
 refine walN X483 hx hby d54_9 rfl rfl ?_
 obtain ⟨T484, X484, e484, st484⟩ := castY X483 hx hZ hown (ow hw 419 rfl) e483 (Ins.self Pa0) (g := (mkF m 10 #[cr wk_, cr ob_, cu, .val .null, cu] [(.ref ob_)])) rfl rfl (hb hby d54_10)
 refine Ends.go st484 ?_
 refine was X484 hx hby d54_13 (l' := #[cr wk_, cr ob_, cu, .val .null, cr ob_]) rfl rfl ?_
 refine wal X484 hx hby d54_15 rfl rfl ?_
 refine wvb X484 hx hZ hown hw hml rfl hby d54_17 458 rfl 459 rfl 461 rfl 460 rfl (by decide) e484 Pa0 (rx60_19 l Z a0 hw [] n0 h0 O0  ob_ vo_ Pa1) 462 rfl 31 rfl (by decide) (by decide) [] [] pdx_3 rfl rfl rfl (by decide) (by decide) rfl ?_
 intro _ T485 _ X485 hQ485
 obtain ⟨rfl, N485q, K485c⟩ := hQ485
 have N485 := Fr.app N0 N485q
 obtain ⟨h485, e485⟩ : ∃ z, T485.heap = z := ⟨_, rfl⟩
 rw [e485] at K485c
 have K485 := K0.trans K485c all0
 have O485 := O0.keep K485c all0
 refine wasN X485 hx hby d54_20 (l' := #[cr wk_, cr ob_, cr vo_, .val .null, cr ob_]) rfl rfl ?_
 refine wal X485 hx hby d54_21 rfl rfl ?_
 refine wvb X485 hx hZ hown hw hml rfl hby d54_23 463 rfl 464 rfl 466 rfl 465 rfl (by decide) e485 (Pa0.keep K485c) (rx61_22 l Z a0 hw [] n0 h485 O485  ob_ nm_ (Pa2.keep K485c nin0)) 467 rfl 31 rfl (by decide) (by decide) [] [] pdx_4 rfl rfl rfl (by decide) (by decide) rfl ?_
 intro _ T486 _ X486 hQ486
 obtain ⟨rfl, N486q, K486c⟩ := hQ486
 have N486 := Fr.app N485 N486q
 obtain ⟨h486, e486⟩ : ∃ z, T486.heap = z := ⟨_, rfl⟩
 rw [e486] at K486c
 have K486 := K485.trans K486c all0
 refine wasN X486 hx hby d54_26 (l' := #[cr wk_, cr ob_, cr vo_, cr nm_, cr ob_]) rfl rfl ?_
 refine wgo (pc := 27) (pc' := 38) X486 hx hby d54_27 ?_
 refine walN X486 hx hby d54_38 rfl rfl ?_
 refine wgf X486 hx hZ hown hw 429 rfl e486 ((Pa3.keep K485c nin0).keep K486c nin0) hby d54_39 ?_
 intro T487 X487 e487
 refine win X487 hx hby d54_42 ((if0 _ _).trans (tlt (by decide : (0 : Int32) < (2 : Int32))).2.2.2) ?_
 refine walN X487 hx hby d54_45 rfl rfl ?_
 refine wgf X487 hx hZ hown hw 429 rfl e487 ((Pa3.keep K485c nin0).keep K486c nin0) hby d54_46 ?_
 intro T488 X488 e488
 refine walN X488 hx hby d54_49 rfl rfl ?_
 refine wgf X488 hx hZ hown hw 402 rfl e488 ((Pa4.keep K485c nin0).keep K486c nin0) hby d54_50 ?_
 intro T489 X489 e489
 obtain ⟨cl490, Ar490, q490, S490, M490, H490, G490⟩ := id ((Pa5.keep K485c nin0).keep K486c nin0)
 refine Ends.go (X489.arraylength hx (by rw [e489]; exact Ar490.1) (State.isArrayOf_alike hZ.alike Ar490.2.1) (g := (mkF m 53 #[cr wk_, cr ob_, cr vo_, cr nm_, cr ob_] [(.ref ov_), (.int 2)])) rfl rfl (hb hby d54_53)) ?_
 rw [len_of S490 M490]
 refine wcy (pc := 54) (pc' := 61) X489 hx hby d54_54 (flt (by decide : ¬ ((16 : Int32) < (2 : Int32)))).2.2.2 ?_
 refine walN X489 hx hby d54_61 rfl rfl ?_
 refine wgf X489 hx hZ hown hw 402 rfl e489 ((Pa4.keep K485c nin0).keep K486c nin0) hby d54_62 ?_
 intro T491 X491 e491
 refine walN X491 hx hby d54_65 rfl rfl ?_
 refine wgf X491 hx hZ hown hw 429 rfl e491 ((Pa3.keep K485c nin0).keep K486c nin0) hby d54_66 ?_
 intro T492 X492 e492
 refine wic X492 hx hby d54_69 ?_
 show Ends _ _ _ _ T492 (mkF m 70 #[cr wk_, cr ob_, cr vo_, cr nm_, cr ob_] [(.int 1), (.int 2), (.ref ov_)]) _ _ _
 refine wis X492 hx hby d54_70 ?_
 refine walN X492 hx hby d54_71 rfl rfl ?_
 refine wgf X492 hx hZ hown hw 431 rfl e492 ((Pa6.keep K485c nin0).keep K486c nin0) hby d54_72 ?_
 intro T493 X493 e493
 obtain ⟨cl494, Ar494, q494, S494, M494, H494, G494⟩ := id ((Pa5.keep K485c nin0).keep K486c nin0)
 have hin494 := inb_of (j := (1 : Int32)) S494 ⟨by decide, by decide⟩
 obtain ⟨T494, h494, X494, e494, W494, st494⟩ := stR X493 hx hZ e493 Ar494 (j := (1 : Int32)) hin494 rfl (Sto.ofVA Ar494 q494 Pa7 (Ins.self ((Pa8.keep K485c).keep K486c))) (g := (mkF m 75 #[cr wk_, cr ob_, cr vo_, cr nm_, cr ob_] [(.ref va_), (.int 1), (.ref ov_)])) rfl rfl (hb hby d54_75)
 refine Ends.go st494 ?_
 have V494 : Arv Z h494 ov_ kov_ (.array (.object cJV)) (16 : Int32) (x0_ :: (.ref va_) :: nN14) .null := Arv.set Ar494 q494 S494 M494 H494 G494 rfl W494 1 rfl (Nat.le_of_ble_eq_true rfl)
 have K494 := K486.wr W494 (mi 0 rfl)
 have N494 := Fr.snoc X494 N486 g_ov_
 refine walN X494 hx hby d54_76 rfl rfl ?_
 have c495 := ((Pa9.keep K485c nin0).keep K486c nin0).other W494 (Or.inl ne_wk__ov_)
 refine wgf X494 hx hZ hown hw 406 rfl e494 c495 hby d54_77 ?_
 intro T496 X496 e496
 refine walN X496 hx hby d54_80 rfl rfl ?_
 have c497 := ((Pa3.keep K485c nin0).keep K486c nin0).other W494 (Or.inl ne_wk__ov_)
 refine wgf X496 hx hZ hown hw 429 rfl e496 c497 hby d54_81 ?_
 intro T498 X498 e498
 refine wic X498 hx hby d54_84 ?_
 refine wis X498 hx hby d54_85 ?_
 refine walN X498 hx hby d54_86 rfl rfl ?_
 have c499 := ((Pa10.keep K485c nin0).keep K486c nin0).other W494 (Or.inl ne_wk__ov_)
 refine wgf X498 hx hZ hown hw 433 rfl e498 c499 hby d54_87 ?_
 intro T500 X500 e500
 have c502 := ((Pa11.keep K485c nin0).keep K486c nin0).other W494 ne_on__ov_
 obtain ⟨cl501, Ar501, q501, S501, M501, H501, G501⟩ := id c502
 have hin501 := inb_of (j := (1 : Int32)) S501 ⟨by decide, by decide⟩
 obtain ⟨T501, h501, X501, e501, W501, st501⟩ := stR X500 hx hZ e500 Ar501 (j := (1 : Int32)) hin501 rfl (Or.inl rfl) (g := (mkF m 90 #[cr wk_, cr ob_, cr vo_, cr nm_, cr ob_] [.null, (.int 1), (.ref on_)])) rfl rfl (hb hby d54_90)
 refine Ends.go st501 ?_
 have V501 : Arv Z h501 on_ kon_ (.object cNA) (16 : Int32) (y0_ :: nN15) .null := Arv.set Ar501 q501 S501 M501 H501 G501 rfl W501 1 rfl (Nat.le_of_ble_eq_true rfl)
 have K501 := K494.wr W501 (mi 1 rfl)
 have N501 := Fr.snoc X501 N494 g_on_
 refine walN X501 hx hby d54_91 rfl rfl ?_
 have c503 := (((Pa12.keep K485c nin0).keep K486c nin0).other W494 (Or.inl ne_wk__ov_)).other W501 (Or.inl ne_wk__on_)
 refine wgf X501 hx hZ hown hw 409 rfl e501 c503 hby d54_92 ?_
 intro T504 X504 e504
 refine walN X504 hx hby d54_95 rfl rfl ?_
 refine wgf X504 hx hZ hown hw 429 rfl e504 (c497.other W501 (Or.inl ne_wk__on_)) hby d54_96 ?_
 intro T505 X505 e505
 refine wic X505 hx hby d54_99 ?_
 refine wis X505 hx hby d54_100 ?_
 refine walN X505 hx hby d54_101 rfl rfl ?_
 have c506 := (((Pa13.keep K485c nin0).keep K486c nin0).other W494 (Or.inl ne_wk__ov_)).other W501 (Or.inl ne_wk__on_)
 refine wgf X505 hx hZ hown hw 435 rfl e505 c506 hby d54_102 ?_
 intro T507 X507 e507
 have c509 := (((Pa14.keep K485c nin0).keep K486c nin0).other W494 ne_op__ov_).other W501 ne_op__on_
 obtain ⟨cl508, Ar508, q508, S508, M508, H508, G508⟩ := id c509
 have hin508 := inb_of (j := (1 : Int32)) S508 ⟨by decide, by decide⟩
 obtain ⟨T508, h508, X508, e508, W508, st508⟩ := stI X507 hx hZ e507 Ar508 (j := (1 : Int32)) hin508 (g := (mkF m 105 #[cr wk_, cr ob_, cr vo_, cr nm_, cr ob_] [(.int z_), (.int 1), (.ref op_)])) rfl rfl (hb hby d54_105)
 refine Ends.go st508 ?_
 have V508 : Arv Z h508 op_ kop_ .int (16 : Int32) ((.int z0_) :: (.int z_) :: nZ14) (.int 0) := Arv.set Ar508 q508 S508 M508 H508 G508 rfl W508 1 rfl (Nat.le_of_ble_eq_true rfl)
 have K508 := K501.wr W508 (mi 2 rfl)
 have N508 := Fr.snoc X508 N501 g_op_
 refine walN X508 hx hby d54_106 rfl rfl ?_
 refine walN X508 hx hby d54_107 rfl rfl ?_
 have c510 := ((((Pa6.keep K485c nin0).keep K486c nin0).other W494 (Or.inl ne_wk__ov_)).other W501 (Or.inl ne_wk__on_)).other W508 (Or.inl ne_wk__op_)
 refine wpf X508 hx hZ hown hw 431 rfl e508 c510 (((((Pa15.keep K485c).keep K486c).wr W494).wr W501).wr W508) 432 rfl 394 rfl (ty := (.array (.object cJV))) (by decide) rfl rfl hby d54_108 ?_
 intro T511 h511 X511 e511 W511
 have Fw511 := c510.same W511
 have K511 := K508.wr W511 (mi 3 rfl)
 have N511 := Fr.snoc X511 N508 g_wk_
 refine walN X511 hx hby d54_111 rfl rfl ?_
 refine walN X511 hx hby d54_112 rfl rfl ?_
 have c512 := (((((Pa15.keep K485c).keep K486c).wr W494).wr W501).wr W508).wr W511
 have c513 := ((c499.other W501 (Or.inl ne_wk__on_)).other W508 (Or.inl ne_wk__op_)).other W511 (sll hw 434 rfl 432 rfl)
 refine wpf X511 hx hZ hown hw 433 rfl e511 c513 c512 434 rfl 394 rfl (ty := (.object cNA)) (by decide) rfl rfl hby d54_113 ?_
 intro T514 h514 X514 e514 W514
 have Fw514 := c513.same W514
 have K514 := K511.wr W514 (mi 3 rfl)
 have N514 := Fr.snoc X514 N511 g_wk_
 refine walN X514 hx hby d54_116 rfl rfl ?_
 refine wic X514 hx hby d54_117 ?_
 show Ends _ _ _ _ T514 (mkF m 118 #[cr wk_, cr ob_, cr vo_, cr nm_, cr ob_] [(.int 0), (.ref wk_)]) _ _ _
 have c515 := ((c506.other W508 (Or.inl ne_wk__op_)).other W511 (sll hw 436 rfl 432 rfl)).other W514 (sll hw 436 rfl 434 rfl)
 refine wpf X514 hx hZ hown hw 435 rfl e514 c515 (c512.wr W514) 436 rfl 394 rfl (ty := .int) (by decide) rfl rfl hby d54_118 ?_
 intro T516 h516 X516 e516 W516
 have Fw516 := c515.same W516
 have K516 := K514.wr W516 (mi 3 rfl)
 have N516 := Fr.snoc X516 N514 g_wk_
 refine walN X516 hx hby d54_121 rfl rfl ?_
 refine wdu X516 hx hby d54_122 rfl ?_
 have c517 := ((((c497.other W501 (Or.inl ne_wk__on_)).other W508 (Or.inl ne_wk__op_)).other W511 (sll hw 430 rfl 432 rfl)).other W514 (sll hw 430 rfl 434 rfl)).other W516 (sll hw 430 rfl 436 rfl)
 refine wgf X516 hx hZ hown hw 429 rfl e516 c517 hby d54_123 ?_
 intro T518 X518 e518
 refine wic X518 hx hby d54_126 ?_
 refine wia X518 hx hby d54_127 ?_
 refine wpf X518 hx hZ hown hw 429 rfl e518 c517 ((c512.wr W514).wr W516) 430 rfl 394 rfl (ty := .int) (by decide) rfl rfl hby d54_128 ?_
 intro T519 h519 X519 e519 W519
 have Fw519 := c517.same W519
 have K519 := K516.wr W519 (mi 3 rfl)
 have N519 := Fr.snoc X519 N516 g_wk_
 refine Ends.retV X519 hx hns hrt (hb hby d54_131) (by decide) (by decide) ?_
 rw [e519]
 have c520 := ((((((((Pa4.keep K485c nin0).keep K486c nin0).other W494 (Or.inl ne_wk__ov_)).other W501 (Or.inl ne_wk__on_)).other W508 (Or.inl ne_wk__op_)).other W511 (sll hw 403 rfl 432 rfl)).other W514 (sll hw 403 rfl 434 rfl)).other W516 (sll hw 403 rfl 436 rfl)).other W519 (sll hw 403 rfl 430 rfl)
 have c521 := (((((V494.other W501 (Ne.symm ne_on__ov_)).other W508 (Ne.symm ne_op__ov_)).other W511 (Ne.symm ne_wk__ov_)).other W514 (Ne.symm ne_wk__ov_)).other W516 (Ne.symm ne_wk__ov_)).other W519 (Ne.symm ne_wk__ov_)
 have c522 := ((Fw511.other W514 (sll hw 432 rfl 434 rfl)).other W516 (sll hw 432 rfl 436 rfl)).other W519 (sll hw 432 rfl 430 rfl)
 have c523 := (((((c495.other W501 (Or.inl ne_wk__on_)).other W508 (Or.inl ne_wk__op_)).other W511 (sll hw 407 rfl 432 rfl)).other W514 (sll hw 407 rfl 434 rfl)).other W516 (sll hw 407 rfl 436 rfl)).other W519 (sll hw 407 rfl 430 rfl)
 have c524 := (Fw514.other W516 (sll hw 434 rfl 436 rfl)).other W519 (sll hw 434 rfl 430 rfl)
 have c525 := ((((V501.other W508 (Ne.symm ne_op__on_)).other W511 (Ne.symm ne_wk__on_)).other W514 (Ne.symm ne_wk__on_)).other W516 (Ne.symm ne_wk__on_)).other W519 (Ne.symm ne_wk__on_)
 have c526 := ((((c503.other W508 (Or.inl ne_wk__op_)).other W511 (sll hw 410 rfl 432 rfl)).other W514 (sll hw 410 rfl 434 rfl)).other W516 (sll hw 410 rfl 436 rfl)).other W519 (sll hw 410 rfl 430 rfl)
 have c527 := Fw516.other W519 (sll hw 436 rfl 430 rfl)
 have c528 := (((V508.other W511 (Ne.symm ne_wk__op_)).other W514 (Ne.symm ne_wk__op_)).other W516 (Ne.symm ne_wk__op_)).other W519 (Ne.symm ne_wk__op_)
 exact ⟨rfl, N519, K519, Fw519, c520, c521, c522, c523, c524, c525, c526, c527, c528⟩

theorem rmStep_2ao (l : Launch) (Z : State) (a0 : Array Value) (hw : HW a0 Z) (ws : List Jvm.Cond) (n0 : Nat) (h0 : Heap) (O0 : Old Z n0 h0)  (G1 : Int32) (w_EMPTY : Addr) (GF : GlobF Z G1 w_EMPTY) (wk_ ov_ on_ op_ ob_ nm_ vo_ ar_ va_ : Addr) (kvo_ kva_ kov_ kon_ kop_ : ClassId) (x0_ : Value) (y0_ : Value) (z0_ : Int32) (z_ : Int32) (p_ : Int32) (g_wk_ : n0 ≤ wk_) (g_ov_ : n0 ≤ ov_) (g_on_ : n0 ≤ on_) (g_op_ : n0 ≤ op_) (NEs : own_NE wk_ ov_ on_ op_ ob_ nm_ vo_ ar_ va_) (SF : own_SF Z h0 w_EMPTY wk_ ov_ on_ op_ ob_ nm_ vo_ ar_ va_ kvo_ kva_ kov_ kon_ kop_ (.ref va_) .null z_ (2 : Int32) (x0_ :: nN15) (y0_ :: nN15) ((.int z0_) :: nZ15)) (hp_ : (p_ = 0 ∨ p_ = 1)) :
  Meets1 l ym10 B39_ 3 none ws (mkR 2 0 0 40) #[(.ref wk_), (.ref ob_), (.int p_)] Z h0 (fun v h L => v = none ∧ Fr n0 L ∧ Keep h0 h [wk_, ov_, on_, op_] ∧ own_SQ Z h wk_ ov_ on_ op_ kov_ kon_ kop_ (.ref vo_) (.ref nm_) p_ (3 : Int32) (x0_ :: (.ref va_) :: nN14) (y0_ :: nN15) ((.int z0_) :: (.int z_) :: nZ14)) := by
 refine own_start n0 (plainFor_of_name pn53) (fun m => ef53_rri m wk_ ob_ p_) ?_
 intro p e s m below meth c s₁ hns hrt hZ hx hby hml hown hnm X0 e0 N0
 have K0 := Keep.refl h0 [wk_, ov_, on_, op_]
 obtain ⟨SCS, P5, S_EMPTY, E_EMPTY⟩ := id GF
 obtain ⟨ne_wk_ov_, ne_wk_on_, ne_wk_op_, ne_wk_ob_, ne_wk_nm_, ne_wk_vo_, ne_wk_ar_, ne_wk_va_, ne_ov_on_, ne_ov_op_, ne_ov_ob_, ne_ov_nm_, ne_ov_vo_, ne_ov_ar_, ne_ov_va_, ne_on_op_, ne_on_ob_, ne_on_nm_, ne_on_vo_, ne_on_ar_, ne_on_va_, ne_op_ob_, ne_op_nm_, ne_op_vo_, ne_op_ar_, ne_op_va_⟩ := NEs
 obtain ⟨PE_wk_, PE_ob_, PE_nm_, PE_vo_, PE_ar_, PE_va_, PF_ob__names, PF_ob__values, PF_ar__elements, PF_wk__values, PF_wk__names, PF_wk__place, PF_wk__depth, PF_wk__outerValues, PF_wk__outerNames, PF_wk__outerPlaces, PV_vo_, PV_va_, PV_ov_, PV_on_, PV_op_, PO_ov_, PO_on_⟩ := SF
 refine walN X0 hx hby d53_0 rfl rfl ?_
 refine walN X0 hx hby d53_1 rfl rfl ?_
 refine wvb X0 hx hZ hown hw hml rfl hby d53_2 414 rfl 415 rfl 417 rfl 416 rfl (by decide) e0 PE_wk_ (rx54_482 l Z a0 hw [] n0 h0 O0  wk_ ob_ vo_ nm_ ov_ kov_ x0_ va_ on_ kon_ y0_ op_ z_ kop_ z0_ PE_ob_ PF_ob__values PF_ob__names PF_wk__depth PF_wk__outerValues PV_ov_ PF_wk__values PO_ov_ PE_va_ PF_wk__outerNames PF_wk__names PV_on_ PF_wk__outerPlaces PF_wk__place PV_op_ PE_wk_ PO_on_ ne_wk_ov_ (Ne.symm ne_ov_on_) ne_wk_on_ (Ne.symm ne_ov_op_) (Ne.symm ne_on_op_) ne_wk_op_ g_ov_ g_on_ g_op_ g_wk_) 418 rfl 395 rfl (by decide) (by decide) [(.ref ob_)] [] pdx_5 rfl rfl rfl (by decide) (by decide) rfl ?_
 intro _ T529 _ X529 hQ529
 obtain ⟨rfl, N529q, K529c, Y529_0, Y529_1, Y529_2, Y529_3, Y529_4, Y529_5, Y529_6, Y529_7, Y529_8, Y529_9⟩ := hQ529
 have N529 := Fr.app N0 N529q
 obtain ⟨h529, e529⟩ : ∃ z, T529.heap = z := ⟨_, rfl⟩
 rw [e529] at K529c Y529_0 Y529_1 Y529_2 Y529_3 Y529_4 Y529_5 Y529_6 Y529_7 Y529_8 Y529_9
 have K529 := K0.trans K529c (allS (mi 1 rfl) (allS (mi 2 rfl) (allS (mi 3 rfl) (allS (mi 0 rfl) all0))))
 have O529 := O0.keep K529c (allS g_ov_ (allS g_on_ (allS g_op_ (allS g_wk_ all0))))
 rcases hp_ with rfl | rfl
 ·show Ends _ _ _ _ T529 (mkF m 5 #[cr wk_, cr ob_, ci 0] []) _ _ _
  refine wilN X529 hx hby d53_5 rfl ?_
  refine wiy (pc := 6) (pc' := 14) X529 hx hby d53_6 ((if0 _ _).trans (flt (by decide : ¬ ((0 : Int32) < (0 : Int32)))).2.2.2) ?_
  refine wilN X529 hx hby d53_14 rfl ?_
  refine wic X529 hx hby d53_15 ?_
  refine wcy (pc := 16) (pc' := 24) X529 hx hby d53_16 (flt (by decide : ¬ ((1 : Int32) < (0 : Int32)))).2.2.2 ?_
  refine Ends.retV X529 hx hns hrt (hb hby d53_24) (by decide) (by decide) ?_
  rw [e529]
  exact ⟨rfl, N529, K529, Y529_3, Y529_5, Y529_8, Y529_0, Y529_1, Y529_4, Y529_7, Y529_2, Y529_6, Y529_9⟩
 ·show Ends _ _ _ _ T529 (mkF m 5 #[cr wk_, cr ob_, ci 1] []) _ _ _
  refine wilN X529 hx hby d53_5 rfl ?_
  refine win X529 hx hby d53_6 ((if0 _ _).trans (tlt (by decide : (0 : Int32) < (1 : Int32))).2.2.2) ?_
  refine walN X529 hx hby d53_9 rfl rfl ?_
  have c530 := PV_vo_.keep K529c (ninS (Ne.symm ne_ov_vo_) (ninS (Ne.symm ne_on_vo_) (ninS (Ne.symm ne_op_vo_) (ninS (Ne.symm ne_wk_vo_) nin0))))
  refine wvb X529 hx hZ hown hw hml rfl hby d53_10 452 rfl 453 rfl 455 rfl 454 rfl (by decide) e529 (PE_wk_.keep K529c) (rx59_395 l Z a0 hw [] n0 h529 O529 G1 w_EMPTY GF wk_ vo_ kvo_ ov_ on_ nm_ op_ Y529_3 Y529_8 (PE_wk_.keep K529c) c530 Y529_0 Y529_1 Y529_4 Y529_5 Y529_7 (Ne.symm ne_wk_vo_) g_wk_) 456 rfl 395 rfl (by decide) (by decide) [] [] pdx_6 rfl rfl rfl (by decide) (by decide) rfl ?_
  intro _ T531 _ X531 hQ531
  obtain ⟨rfl, N531q, K531c, Y531_0, Y531_1, Y531_2, Y531_3, Y531_4, Y531_5, Y531_6⟩ := hQ531
  have N531 := Fr.app N529 N531q
  obtain ⟨h531, e531⟩ : ∃ z, T531.heap = z := ⟨_, rfl⟩
  rw [e531] at K531c Y531_0 Y531_1 Y531_2 Y531_3 Y531_4 Y531_5 Y531_6
  have K531 := K529.trans K531c (allS (mi 0 rfl) all0)
  refine wpo X531 hx hby d53_13 rfl ?_
  refine wilN X531 hx hby d53_14 rfl ?_
  refine wic X531 hx hby d53_15 ?_
  refine wcy (pc := 16) (pc' := 24) X531 hx hby d53_16 (flt (by decide : ¬ ((1 : Int32) < (1 : Int32)))).2.2.2 ?_
  refine Ends.retV X531 hx hns hrt (hb hby d53_24) (by decide) (by decide) ?_
  rw [e531]
  exact ⟨rfl, N531, K531, Y531_0, Y531_5, Y531_1, Y531_2, Y531_3, Y531_4, Y531_6, (Y529_2.keep K531c (ninS (Ne.symm ne_wk_ov_) nin0)), (Y529_6.keep K531c (ninS (Ne.symm ne_wk_on_) nin0)), (Y529_9.keep K531c (ninS (Ne.symm ne_wk_op_) nin0))⟩

theorem rx54_532 (l : Launch) (Z : State) (a0 : Array Value) (hw : HW a0 Z) (ws : List Jvm.Cond) (n0 : Nat) (h0 : Heap) (O0 : Old Z n0 h0)  (wk_ : Addr) (ar_ : Addr) (va_ : Addr) (ov_ : Addr) (kov_ : ClassId) (x0_ : Value) (on_ : Addr) (kon_ : ClassId) (y0_ : Value) (op_ : Addr) (z_ : Int32) (kop_ : ClassId) (z0_ : Int32) (Pa0 : Exa Z h0 ar_ cJA) (Pa1 : f12_ Z h0 ar_ (.ref va_)) (Pa2 : f5_ Z h0 wk_ (.int 2)) (Pa3 : f9_ Z h0 wk_ (.ref ov_)) (Pa4 : Arv Z h0 ov_ kov_ (.array (.object cJV)) (16 : Int32) (x0_ :: nN15) .null) (Pa5 : f6_ Z h0 wk_ (.ref va_)) (Pa6 : OvrA Z kov_ (.object cJV) cAJ) (Pa7 : Exa Z h0 va_ cAJ) (Pa8 : f10_ Z h0 wk_ (.ref on_)) (Pa9 : f7_ Z h0 wk_ .null) (Pa10 : Arv Z h0 on_ kon_ (.object cNA) (16 : Int32) (y0_ :: nN15) .null) (Pa11 : f11_ Z h0 wk_ (.ref op_)) (Pa12 : f8_ Z h0 wk_ (.int z_)) (Pa13 : Arv Z h0 op_ kop_ .int (16 : Int32) ((.int z0_) :: nZ15) (.int 0)) (Pa14 : Exa Z h0 wk_ cWK) (Pa15 : Ovr Z kon_ cNA) (ne_wk__ov_ : wk_ ≠ ov_) (ne_on__ov_ : on_ ≠ ov_) (ne_wk__on_ : wk_ ≠ on_) (ne_op__ov_ : op_ ≠ ov_) (ne_op__on_ : op_ ≠ on_) (ne_wk__op_ : wk_ ≠ op_) (g_ov_ : n0 ≤ ov_) (g_on_ : n0 ≤ on_) (g_op_ : n0 ≤ op_) (g_wk_ : n0 ≤ wk_) :
  Meets1 l ym8 B57_ 5 none ws (mkR 1 0 0 12) #[(.ref wk_), (.ref ar_)] Z h0 (fun v h L => v = none ∧ Fr n0 L ∧ Keep h0 h [ov_, on_, op_, wk_] ∧ f5_ Z h wk_ (.int 3) ∧ f9_ Z h wk_ (.ref ov_) ∧ Arv Z h ov_ kov_ (.array (.object cJV)) (16 : Int32) (x0_ :: (.ref va_) :: nN14) .null ∧ f6_ Z h wk_ (.ref va_) ∧ f10_ Z h wk_ (.ref on_) ∧ f7_ Z h wk_ .null ∧ Arv Z h on_ kon_ (.object cNA) (16 : Int32) (y0_ :: nN15) .null ∧ f11_ Z h wk_ (.ref op_) ∧ f8_ Z h wk_ (.int 0) ∧ Arv Z h op_ kop_ .int (16 : Int32) ((.int z0_) :: (.int z_) :: nZ14) (.int 0)) := by
 refine own_start n0 (plainFor_of_name pn54) (fun m => ef54_rr m wk_ ar_) ?_
 intro p e s m below meth c s₁ hns hrt hZ hx hby hml hown hnm X0 e0 N0
 have K0 := Keep.refl h0 [ov_, on_, op_, wk_]
 refine wnu X0 hx hby d54_0 ?_
 refine wasN X0 hx hby d54_1 (l' := #[cr wk_, cr ar_, cu, .val .null, cu]) rfl rfl ?_
 refine walN X0 hx hby d54_2 rfl rfl ?_
 obtain ⟨T533, X533, e533, st533⟩ := instNo X0 hx hZ hown (ow hw 419 rfl) e0 Pa0 (own_noinst (ow hw 420 rfl) (ow hw 421 rfl) (ow hw 366 rfl) (by decide) (by decide)) (g := (mkF m 3 #[cr wk_, cr ar_, cu, .val .null, cu] [(.ref ar_)])) rfl rfl (hb hby d54_3)
 refine Ends.go st533 ?_
 refine wiy (pc := 6) (pc' := 30) X533 hx hby d54_6 ((if0 _ _).trans (teq (by decide : (0 : Int32) = (0 : Int32))).1) ?_
 refine walN X533 hx hby d54_30 rfl rfl ?_
 obtain ⟨T534, X534, e534, st534⟩ := castY X533 hx hZ hown (ow hw 422 rfl) e533 (Ins.self Pa0) (g := (mkF m 31 #[cr wk_, cr ar_, cu, .val .null, cu] [(.ref ar_)])) rfl rfl (hb hby d54_31)
 refine Ends.go st534 ?_
 refine wvb X534 hx hZ hown hw hml rfl hby d54_34 424 rfl 425 rfl 427 rfl 426 rfl (by decide) e534 Pa0 (rx55_59 l Z a0 hw [] n0 h0 O0  ar_ va_ Pa1) 428 rfl 1 rfl (by decide) (by decide) [] [] pdx_3 rfl rfl rfl (by decide) (by decide) rfl ?_
 intro _ T535 _ X535 hQ535
 obtain ⟨rfl, N535q, K535c⟩ := hQ535
 have N535 := Fr.app N0 N535q
 obtain ⟨h535, e535⟩ : ∃ z, T535.heap = z := ⟨_, rfl⟩
 rw [e535] at K535c
 have K535 := K0.trans K535c all0
 refine wasN X535 hx hby d54_37 (l' := #[cr wk_, cr ar_, cr va_, .val .null, cu]) rfl rfl ?_
 refine walN X535 hx hby d54_38 rfl rfl ?_
 refine wgf X535 hx hZ hown hw 429 rfl e535 (Pa2.keep K535c nin0) hby d54_39 ?_
 intro T536 X536 e536
 refine win X536 hx hby d54_42 ((if0 _ _).trans (tlt (by decide : (0 : Int32) < (2 : Int32))).2.2.2) ?_
 refine walN X536 hx hby d54_45 rfl rfl ?_
 refine wgf X536 hx hZ hown hw 429 rfl e536 (Pa2.keep K535c nin0) hby d54_46 ?_
 intro T537 X537 e537
 refine walN X537 hx hby d54_49 rfl rfl ?_
 refine wgf X537 hx hZ hown hw 402 rfl e537 (Pa3.keep K535c nin0) hby d54_50 ?_
 intro T538 X538 e538
 obtain ⟨cl539, Ar539, q539, S539, M539, H539, G539⟩ := id (Pa4.keep K535c nin0)
 refine Ends.go (X538.arraylength hx (by rw [e538]; exact Ar539.1) (State.isArrayOf_alike hZ.alike Ar539.2.1) (g := (mkF m 53 #[cr wk_, cr ar_, cr va_, .val .null, cu] [(.ref ov_), (.int 2)])) rfl rfl (hb hby d54_53)) ?_
 rw [len_of S539 M539]
 refine wcy (pc := 54) (pc' := 61) X538 hx hby d54_54 (flt (by decide : ¬ ((16 : Int32) < (2 : Int32)))).2.2.2 ?_
 refine walN X538 hx hby d54_61 rfl rfl ?_
 refine wgf X538 hx hZ hown hw 402 rfl e538 (Pa3.keep K535c nin0) hby d54_62 ?_
 intro T540 X540 e540
 refine walN X540 hx hby d54_65 rfl rfl ?_
 refine wgf X540 hx hZ hown hw 429 rfl e540 (Pa2.keep K535c nin0) hby d54_66 ?_
 intro T541 X541 e541
 refine wic X541 hx hby d54_69 ?_
 refine wis X541 hx hby d54_70 ?_
 refine walN X541 hx hby d54_71 rfl rfl ?_
 refine wgf X541 hx hZ hown hw 431 rfl e541 (Pa5.keep K535c nin0) hby d54_72 ?_
 intro T542 X542 e542
 obtain ⟨cl543, Ar543, q543, S543, M543, H543, G543⟩ := id (Pa4.keep K535c nin0)
 have hin543 := inb_of (j := (1 : Int32)) S543 ⟨by decide, by decide⟩
 obtain ⟨T543, h543, X543, e543, W543, st543⟩ := stR X542 hx hZ e542 Ar543 (j := (1 : Int32)) hin543 rfl (Sto.ofVA Ar543 q543 Pa6 (Ins.self (Pa7.keep K535c))) (g := (mkF m 75 #[cr wk_, cr ar_, cr va_, .val .null, cu] [(.ref va_), (.int 1), (.ref ov_)])) rfl rfl (hb hby d54_75)
 refine Ends.go st543 ?_
 have V543 : Arv Z h543 ov_ kov_ (.array (.object cJV)) (16 : Int32) (x0_ :: (.ref va_) :: nN14) .null := Arv.set Ar543 q543 S543 M543 H543 G543 rfl W543 1 rfl (Nat.le_of_ble_eq_true rfl)
 have K543 := K535.wr W543 (mi 0 rfl)
 have N543 := Fr.snoc X543 N535 g_ov_
 refine walN X543 hx hby d54_76 rfl rfl ?_
 refine wgf X543 hx hZ hown hw 406 rfl e543 ((Pa8.keep K535c nin0).other W543 (Or.inl ne_wk__ov_)) hby d54_77 ?_
 intro T544 X544 e544
 show Ends _ _ _ _ T544 (mkF m 80 #[cr wk_, cr ar_, cr va_, .val .null, cu] [(.ref on_)]) _ _ _
 refine walN X544 hx hby d54_80 rfl rfl ?_
 refine wgf X544 hx hZ hown hw 429 rfl e544 ((Pa2.keep K535c nin0).other W543 (Or.inl ne_wk__ov_)) hby d54_81 ?_
 intro T545 X545 e545
 refine wic X545 hx hby d54_84 ?_
 refine wis X545 hx hby d54_85 ?_
 refine walN X545 hx hby d54_86 rfl rfl ?_
 refine wgf X545 hx hZ hown hw 433 rfl e545 ((Pa9.keep K535c nin0).other W543 (Or.inl ne_wk__ov_)) hby d54_87 ?_
 intro T546 X546 e546
 obtain ⟨cl547, Ar547, q547, S547, M547, H547, G547⟩ := id ((Pa10.keep K535c nin0).other W543 ne_on__ov_)
 have hin547 := inb_of (j := (1 : Int32)) S547 ⟨by decide, by decide⟩
 obtain ⟨T547, h547, X547, e547, W547, st547⟩ := stR X546 hx hZ e546 Ar547 (j := (1 : Int32)) hin547 rfl (Or.inl rfl) (g := (mkF m 90 #[cr wk_, cr ar_, cr va_, .val .null, cu] [.null, (.int 1), (.ref on_)])) rfl rfl (hb hby d54_90)
 refine Ends.go st547 ?_
 have V547 : Arv Z h547 on_ kon_ (.object cNA) (16 : Int32) (y0_ :: nN15) .null := Arv.set Ar547 q547 S547 M547 H547 G547 rfl W547 1 rfl (Nat.le_of_ble_eq_true rfl)
 have K547 := K543.wr W547 (mi 1 rfl)
 have N547 := Fr.snoc X547 N543 g_on_
 refine walN X547 hx hby d54_91 rfl rfl ?_
 have c548 := ((Pa11.keep K535c nin0).other W543 (Or.inl ne_wk__ov_)).other W547 (Or.inl ne_wk__on_)
 refine wgf X547 hx hZ hown hw 409 rfl e547 c548 hby d54_92 ?_
 intro T549 X549 e549
 refine walN X549 hx hby d54_95 rfl rfl ?_
 have c550 := ((Pa2.keep K535c nin0).other W543 (Or.inl ne_wk__ov_)).other W547 (Or.inl ne_wk__on_)
 refine wgf X549 hx hZ hown hw 429 rfl e549 c550 hby d54_96 ?_
 intro T551 X551 e551
 refine wic X551 hx hby d54_99 ?_
 refine wis X551 hx hby d54_100 ?_
 refine walN X551 hx hby d54_101 rfl rfl ?_
 have c552 := ((Pa12.keep K535c nin0).other W543 (Or.inl ne_wk__ov_)).other W547 (Or.inl ne_wk__on_)
 refine wgf X551 hx hZ hown hw 435 rfl e551 c552 hby d54_102 ?_
 intro T553 X553 e553
 have c555 := ((Pa13.keep K535c nin0).other W543 ne_op__ov_).other W547 ne_op__on_
 obtain ⟨cl554, Ar554, q554, S554, M554, H554, G554⟩ := id c555
 have hin554 := inb_of (j := (1 : Int32)) S554 ⟨by decide, by decide⟩
 obtain ⟨T554, h554, X554, e554, W554, st554⟩ := stI X553 hx hZ e553 Ar554 (j := (1 : Int32)) hin554 (g := (mkF m 105 #[cr wk_, cr ar_, cr va_, .val .null, cu] [(.int z_), (.int 1), (.ref op_)])) rfl rfl (hb hby d54_105)
 refine Ends.go st554 ?_
 have V554 : Arv Z h554 op_ kop_ .int (16 : Int32) ((.int z0_) :: (.int z_) :: nZ14) (.int 0) := Arv.set Ar554 q554 S554 M554 H554 G554 rfl W554 1 rfl (Nat.le_of_ble_eq_true rfl)
 have K554 := K547.wr W554 (mi 2 rfl)
 have N554 := Fr.snoc X554 N547 g_op_
 refine walN X554 hx hby d54_106 rfl rfl ?_
 refine walN X554 hx hby d54_107 rfl rfl ?_
 have c556 := (((Pa5.keep K535c nin0).other W543 (Or.inl ne_wk__ov_)).other W547 (Or.inl ne_wk__on_)).other W554 (Or.inl ne_wk__op_)
 refine wpf X554 hx hZ hown hw 431 rfl e554 c556 ((((Pa14.keep K535c).wr W543).wr W547).wr W554) 432 rfl 394 rfl (ty := (.array (.object cJV))) (by decide) rfl rfl hby d54_108 ?_
 intro T557 h557 X557 e557 W557
 have Fw557 := c556.same W557
 have K557 := K554.wr W557 (mi 3 rfl)
 have N557 := Fr.snoc X557 N554 g_wk_
 refine walN X557 hx hby d54_111 rfl rfl ?_
 refine walN X557 hx hby d54_112 rfl rfl ?_
 have c558 := ((((Pa9.keep K535c nin0).other W543 (Or.inl ne_wk__ov_)).other W547 (Or.inl ne_wk__on_)).other W554 (Or.inl ne_wk__op_)).other W557 (sll hw 434 rfl 432 rfl)
 refine wpf X557 hx hZ hown hw 433 rfl e557 c558 (((((Pa14.keep K535c).wr W543).wr W547).wr W554).wr W557) 434 rfl 394 rfl (ty := (.object cNA)) (by decide) rfl rfl hby d54_113 ?_
 intro T559 h559 X559 e559 W559
 have Fw559 := c558.same W559
 have K559 := K557.wr W559 (mi 3 rfl)
 have N559 := Fr.snoc X559 N557 g_wk_
 refine walN X559 hx hby d54_116 rfl rfl ?_
 refine wic X559 hx hby d54_117 ?_
 have c560 := (((((Pa14.keep K535c).wr W543).wr W547).wr W554).wr W557).wr W559
 have c561 := ((c552.other W554 (Or.inl ne_wk__op_)).other W557 (sll hw 436 rfl 432 rfl)).other W559 (sll hw 436 rfl 434 rfl)
 refine wpf X559 hx hZ hown hw 435 rfl e559 c561 c560 436 rfl 394 rfl (ty := .int) (by decide) rfl rfl hby d54_118 ?_
 intro T562 h562 X562 e562 W562
 have Fw562 := c561.same W562
 have K562 := K559.wr W562 (mi 3 rfl)
 have N562 := Fr.snoc X562 N559 g_wk_
 refine walN X562 hx hby d54_121 rfl rfl ?_
 refine wdu X562 hx hby d54_122 rfl ?_
 have c563 := (((c550.other W554 (Or.inl ne_wk__op_)).other W557 (sll hw 430 rfl 432 rfl)).other W559 (sll hw 430 rfl 434 rfl)).other W562 (sll hw 430 rfl 436 rfl)
 refine wgf X562 hx hZ hown hw 429 rfl e562 c563 hby d54_123 ?_
 intro T564 X564 e564
 refine wic X564 hx hby d54_126 ?_
 refine wia X564 hx hby d54_127 ?_
 show Ends _ _ _ _ T564 (mkF m 128 #[cr wk_, cr ar_, cr va_, .val .null, cu] [(.int 3), (.ref wk_)]) _ _ _
 refine wpf X564 hx hZ hown hw 429 rfl e564 c563 (c560.wr W562) 430 rfl 394 rfl (ty := .int) (by decide) rfl rfl hby d54_128 ?_
 intro T565 h565 X565 e565 W565
 have Fw565 := c563.same W565
 have K565 := K562.wr W565 (mi 3 rfl)
 have N565 := Fr.snoc X565 N562 g_wk_
 refine Ends.retV X565 hx hns hrt (hb hby d54_131) (by decide) (by decide) ?_
 rw [e565]
 have c566 := (((((((Pa3.keep K535c nin0).other W543 (Or.inl ne_wk__ov_)).other W547 (Or.inl ne_wk__on_)).other W554 (Or.inl ne_wk__op_)).other W557 (sll hw 403 rfl 432 rfl)).other W559 (sll hw 403 rfl 434 rfl)).other W562 (sll hw 403 rfl 436 rfl)).other W565 (sll hw 403 rfl 430 rfl)
 have c567 := (((((V543.other W547 (Ne.symm ne_on__ov_)).other W554 (Ne.symm ne_op__ov_)).other W557 (Ne.symm ne_wk__ov_)).other W559 (Ne.symm ne_wk__ov_)).other W562 (Ne.symm ne_wk__ov_)).other W565 (Ne.symm ne_wk__ov_)
 have c568 := ((Fw557.other W559 (sll hw 432 rfl 434 rfl)).other W562 (sll hw 432 rfl 436 rfl)).other W565 (sll hw 432 rfl 430 rfl)
 have c569 := (((((((Pa8.keep K535c nin0).other W543 (Or.inl ne_wk__ov_)).other W547 (Or.inl ne_wk__on_)).other W554 (Or.inl ne_wk__op_)).other W557 (sll hw 407 rfl 432 rfl)).other W559 (sll hw 407 rfl 434 rfl)).other W562 (sll hw 407 rfl 436 rfl)).other W565 (sll hw 407 rfl 430 rfl)
 have c570 := (Fw559.other W562 (sll hw 434 rfl 436 rfl)).other W565 (sll hw 434 rfl 430 rfl)
 have c571 := ((((V547.other W554 (Ne.symm ne_op__on_)).other W557 (Ne.symm ne_wk__on_)).other W559 (Ne.symm ne_wk__on_)).other W562 (Ne.symm ne_wk__on_)).other W565 (Ne.symm ne_wk__on_)
 have c572 := ((((c548.other W554 (Or.inl ne_wk__op_)).other W557 (sll hw 410 rfl 432 rfl)).other W559 (sll hw 410 rfl 434 rfl)).other W562 (sll hw 410 rfl 436 rfl)).other W565 (sll hw 410 rfl 430 rfl)
 have c573 := Fw562.other W565 (sll hw 436 rfl 430 rfl)
 have c574 := (((V554.other W557 (Ne.symm ne_wk__op_)).other W559 (Ne.symm ne_wk__op_)).other W562 (Ne.symm ne_wk__op_)).other W565 (Ne.symm ne_wk__op_)
 exact ⟨rfl, N565, K565, Fw565, c566, c567, c568, c569, c570, c571, c572, c573, c574⟩

theorem rmStep_2aa (l : Launch) (Z : State) (a0 : Array Value) (hw : HW a0 Z) (ws : List Jvm.Cond) (n0 : Nat) (h0 : Heap) (O0 : Old Z n0 h0)  (G1 : Int32) (w_EMPTY : Addr) (GF : GlobF Z G1 w_EMPTY) (wk_ ov_ on_ op_ ob_ nm_ vo_ ar_ va_ : Addr) (kvo_ kva_ kov_ kon_ kop_ : ClassId) (x0_ : Value) (y0_ : Value) (z0_ : Int32) (z_ : Int32) (p_ : Int32) (g_wk_ : n0 ≤ wk_) (g_ov_ : n0 ≤ ov_) (g_on_ : n0 ≤ on_) (g_op_ : n0 ≤ op_) (NEs : own_NE wk_ ov_ on_ op_ ob_ nm_ vo_ ar_ va_) (SF : own_SF Z h0 w_EMPTY wk_ ov_ on_ op_ ob_ nm_ vo_ ar_ va_ kvo_ kva_ kov_ kon_ kop_ (.ref va_) .null z_ (2 : Int32) (x0_ :: nN15) (y0_ :: nN15) ((.int z0_) :: nZ15)) (hp_ : (p_ = 0 ∨ p_ = 1 ∨ p_ = 2)) :
  Meets1 l ym10 B39_ 3 none ws (mkR 2 0 0 40) #[(.ref wk_), (.ref ar_), (.int p_)] Z h0 (fun v h L => v = none ∧ Fr n0 L ∧ Keep h0 h [wk_, ov_, on_, op_] ∧ own_SQ Z h wk_ ov_ on_ op_ kov_ kon_ kop_ (.ref va_) .null p_ (3 : Int32) (x0_ :: (.ref va_) :: nN14) (y0_ :: nN15) ((.int z0_) :: (.int z_) :: nZ14)) := by
 refine own_start n0 (plainFor_of_name pn53) (fun m => ef53_rri m wk_ ar_ p_) ?_
 intro p e s m below meth c s₁ hns hrt hZ hx hby hml hown hnm X0 e0 N0
 have K0 := Keep.refl h0 [wk_, ov_, on_, op_]
 obtain ⟨SCS, P5, S_EMPTY, E_EMPTY⟩ := id GF
 obtain ⟨ne_wk_ov_, ne_wk_on_, ne_wk_op_, ne_wk_ob_, ne_wk_nm_, ne_wk_vo_, ne_wk_ar_, ne_wk_va_, ne_ov_on_, ne_ov_op_, ne_ov_ob_, ne_ov_nm_, ne_ov_vo_, ne_ov_ar_, ne_ov_va_, ne_on_op_, ne_on_ob_, ne_on_nm_, ne_on_vo_, ne_on_ar_, ne_on_va_, ne_op_ob_, ne_op_nm_, ne_op_vo_, ne_op_ar_, ne_op_va_⟩ := NEs
 obtain ⟨PE_wk_, PE_ob_, PE_nm_, PE_vo_, PE_ar_, PE_va_, PF_ob__names, PF_ob__values, PF_ar__elements, PF_wk__values, PF_wk__names, PF_wk__place, PF_wk__depth, PF_wk__outerValues, PF_wk__outerNames, PF_wk__outerPlaces, PV_vo_, PV_va_, PV_ov_, PV_on_, PV_op_, PO_ov_, PO_on_⟩ := SF
 refine walN X0 hx hby d53_0 rfl rfl ?_
 refine walN X0 hx hby d53_1 rfl rfl ?_
 refine wvb X0 hx hZ hown hw hml rfl hby d53_2 414 rfl 415 rfl 417 rfl 416 rfl (by decide) e0 PE_wk_ (rx54_532 l Z a0 hw [] n0 h0 O0  wk_ ar_ va_ ov_ kov_ x0_ on_ kon_ y0_ op_ z_ kop_ z0_ PE_ar_ PF_ar__elements PF_wk__depth PF_wk__outerValues PV_ov_ PF_wk__values PO_ov_ PE_va_ PF_wk__outerNames PF_wk__names PV_on_ PF_wk__outerPlaces PF_wk__place PV_op_ PE_wk_ PO_on_ ne_wk_ov_ (Ne.symm ne_ov_on_) ne_wk_on_ (Ne.symm ne_ov_op_) (Ne.symm ne_on_op_) ne_wk_op_ g_ov_ g_on_ g_op_ g_wk_) 418 rfl 395 rfl (by decide) (by decide) [(.ref ar_)] [] pdx_5 rfl rfl rfl (by decide) (by decide) rfl ?_
 intro _ T575 _ X575 hQ575
 obtain ⟨rfl, N575q, K575c, Y575_0, Y575_1, Y575_2, Y575_3, Y575_4, Y575_5, Y575_6, Y575_7, Y575_8, Y575_9⟩ := hQ575
 have N575 := Fr.app N0 N575q
 obtain ⟨h575, e575⟩ : ∃ z, T575.heap = z := ⟨_, rfl⟩
 rw [e575] at K575c Y575_0 Y575_1 Y575_2 Y575_3 Y575_4 Y575_5 Y575_6 Y575_7 Y575_8 Y575_9
 have K575 := K0.trans K575c (allS (mi 1 rfl) (allS (mi 2 rfl) (allS (mi 3 rfl) (allS (mi 0 rfl) all0))))
 have O575 := O0.keep K575c (allS g_ov_ (allS g_on_ (allS g_op_ (allS g_wk_ all0))))
 rcases hp_ with rfl | rfl | rfl
 ·show Ends _ _ _ _ T575 (mkF m 5 #[cr wk_, cr ar_, ci 0] []) _ _ _
  refine wilN X575 hx hby d53_5 rfl ?_
  refine wiy (pc := 6) (pc' := 14) X575 hx hby d53_6 ((if0 _ _).trans (flt (by decide : ¬ ((0 : Int32) < (0 : Int32)))).2.2.2) ?_
  refine wilN X575 hx hby d53_14 rfl ?_
  refine wic X575 hx hby d53_15 ?_
  refine wcy (pc := 16) (pc' := 24) X575 hx hby d53_16 (flt (by decide : ¬ ((1 : Int32) < (0 : Int32)))).2.2.2 ?_
  refine Ends.retV X575 hx hns hrt (hb hby d53_24) (by decide) (by decide) ?_
  rw [e575]
  exact ⟨rfl, N575, K575, Y575_3, Y575_5, Y575_8, Y575_0, Y575_1, Y575_4, Y575_7, Y575_2, Y575_6, Y575_9⟩
 ·show Ends _ _ _ _ T575 (mkF m 5 #[cr wk_, cr ar_, ci 1] []) _ _ _
  refine wilN X575 hx hby d53_5 rfl ?_
  refine win X575 hx hby d53_6 ((if0 _ _).trans (tlt (by decide : (0 : Int32) < (1 : Int32))).2.2.2) ?_
  refine walN X575 hx hby d53_9 rfl rfl ?_
  have c576 := PV_va_.keep K575c (ninS (Ne.symm ne_ov_va_) (ninS (Ne.symm ne_on_va_) (ninS (Ne.symm ne_op_va_) (ninS (Ne.symm ne_wk_va_) nin0))))
  refine wvb X575 hx hZ hown hw hml rfl hby d53_10 452 rfl 453 rfl 455 rfl 454 rfl (by decide) e575 (PE_wk_.keep K575c) (rx59_452 l Z a0 hw [] n0 h575 O575 G1 w_EMPTY GF wk_ va_ kva_ ob_ ov_ on_ op_ Y575_3 Y575_8 (PE_wk_.keep K575c) c576 Y575_0 Y575_1 Y575_4 Y575_5 Y575_7 (Ne.symm ne_wk_va_) g_wk_) 456 rfl 395 rfl (by decide) (by decide) [] [] pdx_6 rfl rfl rfl (by decide) (by decide) rfl ?_
  intro _ T577 _ X577 hQ577
  obtain ⟨rfl, N577q, K577c, Y577_0, Y577_1, Y577_2, Y577_3, Y577_4, Y577_5, Y577_6⟩ := hQ577
  have N577 := Fr.app N575 N577q
  obtain ⟨h577, e577⟩ : ∃ z, T577.heap = z := ⟨_, rfl⟩
  rw [e577] at K577c Y577_0 Y577_1 Y577_2 Y577_3 Y577_4 Y577_5 Y577_6
  have K577 := K575.trans K577c (allS (mi 0 rfl) all0)
  refine wpo X577 hx hby d53_13 rfl ?_
  refine wilN X577 hx hby d53_14 rfl ?_
  refine wic X577 hx hby d53_15 ?_
  refine wcy (pc := 16) (pc' := 24) X577 hx hby d53_16 (flt (by decide : ¬ ((1 : Int32) < (1 : Int32)))).2.2.2 ?_
  refine Ends.retV X577 hx hns hrt (hb hby d53_24) (by decide) (by decide) ?_
  rw [e577]
  exact ⟨rfl, N577, K577, Y577_0, Y577_5, Y577_1, Y577_2, Y577_3, Y577_4, Y577_6, (Y575_2.keep K577c (ninS (Ne.symm ne_wk_ov_) nin0)), (Y575_6.keep K577c (ninS (Ne.symm ne_wk_on_) nin0)), (Y575_9.keep K577c (ninS (Ne.symm ne_wk_op_) nin0))⟩
 ·show Ends _ _ _ _ T575 (mkF m 5 #[cr wk_, cr ar_, ci 2] []) _ _ _
  refine wilN X575 hx hby d53_5 rfl ?_
  refine win X575 hx hby d53_6 ((if0 _ _).trans (tlt (by decide : (0 : Int32) < (2 : Int32))).2.2.2) ?_
  refine walN X575 hx hby d53_9 rfl rfl ?_
  have c578 := PV_va_.keep K575c (ninS (Ne.symm ne_ov_va_) (ninS (Ne.symm ne_on_va_) (ninS (Ne.symm ne_op_va_) (ninS (Ne.symm ne_wk_va_) nin0))))
  refine wvb X575 hx hZ hown hw hml rfl hby d53_10 452 rfl 453 rfl 455 rfl 454 rfl (by decide) e575 (PE_wk_.keep K575c) (rx59_452 l Z a0 hw [] n0 h575 O575 G1 w_EMPTY GF wk_ va_ kva_ ob_ ov_ on_ op_ Y575_3 Y575_8 (PE_wk_.keep K575c) c578 Y575_0 Y575_1 Y575_4 Y575_5 Y575_7 (Ne.symm ne_wk_va_) g_wk_) 456 rfl 395 rfl (by decide) (by decide) [] [] pdx_6 rfl rfl rfl (by decide) (by decide) rfl ?_
  intro _ T579 _ X579 hQ579
  obtain ⟨rfl, N579q, K579c, Y579_0, Y579_1, Y579_2, Y579_3, Y579_4, Y579_5, Y579_6⟩ := hQ579
  have N579 := Fr.app N575 N579q
  obtain ⟨h579, e579⟩ : ∃ z, T579.heap = z := ⟨_, rfl⟩
  rw [e579] at K579c Y579_0 Y579_1 Y579_2 Y579_3 Y579_4 Y579_5 Y579_6
  have K579 := K575.trans K579c (allS (mi 0 rfl) all0)
  have O579 := O575.keep K579c (allS g_wk_ all0)
  refine wpo X579 hx hby d53_13 rfl ?_
  refine wilN X579 hx hby d53_14 rfl ?_
  refine wic X579 hx hby d53_15 ?_
  refine wcn X579 hx hby d53_16 (tlt (by decide : (1 : Int32) < (2 : Int32))).2.2.2 ?_
  refine walN X579 hx hby d53_19 rfl rfl ?_
  refine wvb X579 hx hZ hown hw hml rfl hby d53_20 452 rfl 453 rfl 455 rfl 454 rfl (by decide) e579 ((PE_wk_.keep K575c).keep K579c) (rx59_467 l Z a0 hw [] n0 h579 O579  wk_ va_ kva_ ob_ ov_ on_ op_ Y579_0 Y579_1 ((PE_wk_.keep K575c).keep K579c) (c578.keep K579c (ninS (Ne.symm ne_wk_va_) nin0)) Y579_2 Y579_3 Y579_4 Y579_5 Y579_6 (Ne.symm ne_wk_va_) g_wk_) 456 rfl 395 rfl (by decide) (by decide) [] [] pdx_6 rfl rfl rfl (by decide) (by decide) rfl ?_
  intro _ T580 _ X580 hQ580
  obtain ⟨rfl, N580q, K580c, Y580_0, Y580_1, Y580_2, Y580_3, Y580_4, Y580_5, Y580_6⟩ := hQ580
  have N580 := Fr.app N579 N580q
  obtain ⟨h580, e580⟩ : ∃ z, T580.heap = z := ⟨_, rfl⟩
  rw [e580] at K580c Y580_0 Y580_1 Y580_2 Y580_3 Y580_4 Y580_5 Y580_6
  have K580 := K579.trans K580c (allS (mi 0 rfl) all0)
  show Ends _ _ _ _ T580 (mkF m 23 #[cr wk_, cr ar_, ci 2] [(.ref ob_)]) _ _ _
  refine wpo X580 hx hby d53_23 rfl ?_
  refine Ends.retV X580 hx hns hrt (hb hby d53_24) (by decide) (by decide) ?_
  rw [e580]
  have c581 := (Y575_2.keep K579c (ninS (Ne.symm ne_wk_ov_) nin0)).keep K580c (ninS (Ne.symm ne_wk_ov_) nin0)
  have c582 := (Y575_6.keep K579c (ninS (Ne.symm ne_wk_on_) nin0)).keep K580c (ninS (Ne.symm ne_wk_on_) nin0)
  have c583 := (Y575_9.keep K579c (ninS (Ne.symm ne_wk_op_) nin0)).keep K580c (ninS (Ne.symm ne_wk_op_) nin0)
  exact ⟨rfl, N580, K580, Y580_0, Y580_5, Y580_1, Y580_2, Y580_3, Y580_4, Y580_6, c581, c582, c583⟩

theorem d2_0 : decode B17_ 0 = .ok (.iload_n 0, 1) := by decide +kernel
theorem d2_1 : decode B17_ 1 = .ok (.sipush 255, 3) := by decide +kernel
theorem d2_4 : decode B17_ 4 = .ok (.if_icmp .gt 7, 3) := by decide +kernel
theorem d2_7 : decode B17_ 7 = .ok (.iconst 1, 1) := by decide +kernel
theorem d2_8 : decode B17_ 8 = .ok (.goto 4, 3) := by decide +kernel
theorem d2_12 : decode B17_ 12 = .ok (.ireturn, 1) := by decide +kernel
theorem pn2 : plainName "java/lang/StringLatin1" = true := by first | (simp [plainName, overriddenIn]; done) | decide +kernel
theorem ef2_i (m : MethodId) (x0 : Int32) : entryFrame m #[(.int x0)] 1 = mkF m 0 #[.val (.int x0)] [] := by first | (simp [entryFrame, mkF, argsToLocals, Value.category]; done) | rfl
theorem rx2_587 (l : Launch) (Z : State) (a0 : Array Value) (hw : HW a0 Z) (ws : List Jvm.Cond) (n0 : Nat) (h0 : Heap) (O0 : Old Z n0 h0)  (c_ : Int32) (hc_ : 0 ≤ c_.toInt ∧ c_.toInt < 256) :
  Meets1 l ym12 B17_ 1 (some .boolean) ws (mkR 0 0 0 0) #[(.int c_)] Z h0 (fun v h L => v = some (.int 1) ∧ Fr n0 L ∧ Keep h0 h []) := by
 refine own_start n0 (plainFor_of_name pn2) (fun m => ef2_i m c_) ?_
 intro p e s m below meth c s₁ hns hrt hZ hx hby hml hown hnm X0 e0 N0
 have K0 := Keep.refl h0 []
 refine wilN X0 hx hby d2_0 rfl ?_
 refine wsp X0 hx hby d2_1 ?_
 refine wcn X0 hx hby d2_4 (flt ((own_c255 hc_) : ¬ ((255 : Int32) < c_))).2.2.1 ?_
 refine wic X0 hx hby d2_7 ?_
 refine wgo (pc := 8) (pc' := 12) X0 hx hby d2_8 ?_
 refine Ends.retZ X0 hx hns (t := .boolean) hrt (by simp) (hb hby d2_12) (by decide) (by decide) ?_
 rw [e0]
 exact ⟨rfl, N0, K0⟩

theorem d3_0 : decode B18_ 0 = .ok (.iconst 1, 1) := by decide +kernel
theorem d3_1 : decode B18_ 1 = .ok (.newarray .byte, 2) := by decide +kernel
theorem d3_3 : decode B18_ 3 = .ok (.dup, 1) := by decide +kernel
theorem d3_4 : decode B18_ 4 = .ok (.iconst 0, 1) := by decide +kernel
theorem d3_5 : decode B18_ 5 = .ok (.iload_n 0, 1) := by decide +kernel
theorem d3_6 : decode B18_ 6 = .ok (.i2b, 1) := by decide +kernel
theorem d3_7 : decode B18_ 7 = .ok (.bastore, 1) := by decide +kernel
theorem d3_8 : decode B18_ 8 = .ok (.areturn, 1) := by decide +kernel
theorem pn3 : plainName "java/lang/StringLatin1" = true := by first | (simp [plainName, overriddenIn]; done) | decide +kernel
theorem pdx_7 : parseMethodDescriptor "(C)Z" = some ⟨[.char], some .boolean⟩ := by decide +kernel
theorem ef3_i (m : MethodId) (x0 : Int32) : entryFrame m #[(.int x0)] 1 = mkF m 0 #[.val (.int x0)] [] := by first | (simp [entryFrame, mkF, argsToLocals, Value.category]; done) | rfl
theorem rx3_590 (l : Launch) (Z : State) (a0 : Array Value) (hw : HW a0 Z) (ws : List Jvm.Cond) (n0 : Nat) (h0 : Heap) (O0 : Old Z n0 h0)  (c_ : Int32)  :
  Meets1 l ym13 B18_ 1 (some (.array .byte)) ws (mkR 0 1 1 0) #[(.int c_)] Z h0 (fun v h L => ∃ (b591 : Addr) (k591 : ClassId), v = some (.ref b591) ∧ Fr n0 L ∧ Keep h0 h [] ∧ h0.size ≤ b591 ∧ Arv Z h b591 k591 .byte (1 : Int32) [(.int (c_.toInt8.toInt32))] (.int 0)) := by
 refine own_start n0 (plainFor_of_name pn3) (fun m => ef3_i m c_) ?_
 intro p e s m below meth c s₁ hns hrt hZ hx hby hml hown hnm X0 e0 N0
 have K0 := Keep.refl h0 []
 refine wic X0 hx hby d3_0 ?_
 obtain ⟨T591, h591, k591, X591, e591, E591, A591, st591⟩ := newP X0 hx hZ (ow hw 17 rfl) e0 (g := (mkF m 1 #[ci c_] [(.int 1)])) rfl (hb hby d3_1) rfl (by decide) (cap := 1) (by decide) (by decide) (by decide) (by decide)
 obtain ⟨b591, g591⟩ : ∃ z, z = h0.size := ⟨_, rfl⟩
 rw [← g591] at A591 st591
 refine Ends.go st591 ?_
 have g_b591 : n0 ≤ b591 := Nat.le_trans (own_old_le O0) (Nat.le_of_eq g591.symm)
 have sz_b591 : h0.size ≤ b591 := Nat.le_trans K0.1 (Nat.le_of_eq g591.symm)
 have K591 := K0.ext E591
 have V_b591 : Arv Z h591 b591 k591 .byte (1 : Int32) [(.int 0)] (.int 0) := (Arv.new A591 (by decide)).pad (pad_rep [] (.int 0) 1)
 refine wdu X591 hx hby d3_3 rfl ?_
 refine wic X591 hx hby d3_4 ?_
 refine wilN X591 hx hby d3_5 rfl ?_
 refine .go (fun _ => XS.i2b X591.here hx rfl (hb hby d3_6) rfl) ?_
 obtain ⟨cl592, Ar592, q592, S592, M592, H592, G592⟩ := id V_b591
 have hin592 := inb_of (j := (0 : Int32)) S592 ⟨by decide, by decide⟩
 obtain ⟨T592, h592, X592, e592, W592, st592⟩ := stB X591 hx hZ e591 Ar592 (j := (0 : Int32)) hin592 (g := (mkF m 7 #[ci c_] [(.int (c_.toInt8.toInt32)), (.int 0), (.ref b591), (.ref b591)])) rfl rfl (hb hby d3_7)
 refine Ends.go st592 ?_
 have V592 : Arv Z h592 b591 k591 .byte (1 : Int32) [(.int (nar .byte (c_.toInt8.toInt32)))] (.int 0) := Arv.set Ar592 q592 S592 M592 H592 G592 (fits_nar_byte _) W592 0 rfl (Nat.le_of_ble_eq_true rfl)
 rw [own_narb] at V592
 have K592 := K591.wr W592 (Or.inr sz_b591)
 have N592 := Fr.snoc X592 N0 g_b591
 refine Ends.ret X592 hx hns (t := (.array .byte)) hrt rfl (Or.inr (Or.inr (Or.inr (Or.inr ⟨rfl, rfl, rfl⟩)))) (hb hby d3_8) (by decide) (by decide) ?_
 rw [e592]
 exact ⟨b591, k591, rfl, N592, K592, sz_b591, V592⟩

theorem d4_0 : decode B12_ 0 = .ok (.aload_n 0, 1) := by decide +kernel
theorem d4_1 : decode B12_ 1 = .ok (.invokespecial 1, 3) := by decide +kernel
theorem d4_4 : decode B12_ 4 = .ok (.aload_n 0, 1) := by decide +kernel
theorem d4_5 : decode B12_ 5 = .ok (.aload_n 1, 1) := by decide +kernel
theorem d4_6 : decode B12_ 6 = .ok (.putfield 9, 3) := by decide +kernel
theorem d4_9 : decode B12_ 9 = .ok (.aload_n 0, 1) := by decide +kernel
theorem d4_10 : decode B12_ 10 = .ok (.iload_n 2, 1) := by decide +kernel
theorem d4_11 : decode B12_ 11 = .ok (.putfield 15, 3) := by decide +kernel
theorem d4_14 : decode B12_ 14 = .ok (.return_, 1) := by decide +kernel
theorem pn4 : plainName "java/lang/String" = true := by first | (simp [plainName, overriddenIn]; done) | decide +kernel
theorem pdx_8 : parseMethodDescriptor "(C)[B" = some ⟨[.char], some (.array .byte)⟩ := by decide +kernel
theorem ef4_rri (m : MethodId) (x0 : Addr) (x1 : Addr) (x2 : Int32) : entryFrame m #[(.ref x0), (.ref x1), (.int x2)] 3 = mkF m 0 #[.val (.ref x0), .val (.ref x1), .val (.int x2)] [] := by first | (simp [entryFrame, mkF, argsToLocals, Value.category]; done) | rfl
theorem rx4_596 (l : Launch) (Z : State) (a0 : Array Value) (hw : HW a0 Z) (ws : List Jvm.Cond) (n0 : Nat) (h0 : Heap) (O0 : Old Z n0 h0)  (b589 : Addr) (b594 : Addr) (Pa0 : Exa Z h0 b589 cST) (Pa1 : f2_ Z h0 b589 .null) (Pa2 : f0_ Z h0 b589 (.int 0)) (Pa3 : Fld Z h0 b589 cST "hash" "I" (.int 0)) (Pa4 : f1_ Z h0 b589 (.int 0)) (g_b589 : n0 ≤ b589) :
  Meets1 l ym14 B12_ 3 none ws (mkR 1 0 0 12) #[(.ref b589), (.ref b594), (.int 0)] Z h0 (fun v h L => v = none ∧ Fr n0 L ∧ Keep h0 h [b589] ∧ f2_ Z h b589 (.ref b594) ∧ f0_ Z h b589 (.int 0) ∧ Fld Z h b589 cST "hash" "I" (.int 0) ∧ f1_ Z h b589 (.int 0)) := by
 refine MetFree.of_bodySF (plainFor_of_name pn4) hisR ?_
 intro p e s m args below meth c s₁ Bd hml0 hP hK
 obtain ⟨rfl, hZ, hh⟩ := hP
 have hx := Bd.exec
 have hby := Bd.bytes
 have hml : c.maxLocals = 3 := hml0
 have hown : s.vm.findClass "java/lang/String" = some m.cls := findClass_of_methodNamed Bd.named
 have hnm := (name_of_methodNamed Bd.named Bd.method).1
 have X0 : Stand p l e (mkR 1 0 0 12) s m #[(.ref b589), (.ref b594), (.int 0)] below meth c s₁ [] 0 0 := Stand.of_body Bd
 have e0 : s₁.heap = h0 := by rw [← hh, Bd.state]; rfl
 have N0 := Fr.nil n0
 show Ends _ _ _ _ s₁ (entryFrame m #[(.ref b589), (.ref b594), (.int 0)] 3) (mkR 1 0 0 12).cells (mkR 1 0 0 12).slots (fun v h L => v = none ∧ Fr n0 L ∧ Keep h0 h [b589] ∧ f2_ Z h b589 (.ref b594) ∧ f0_ Z h b589 (.int 0) ∧ Fld Z h b589 cST "hash" "I" (.int 0) ∧ f1_ Z h b589 (.int 0))
 refine Ends.go (fun _ k => castTop (ef4_rri m b589 b594 (0 : Int32)) k) ?_
 have K0 := Keep.refl h0 [b589]
 show Ends _ _ _ _ s₁ (mkF m 0 #[cr b589, cr b594, ci 0] []) _ _ _
 refine walN X0 hx hby d4_0 rfl rfl ?_
 obtain ⟨T597, X597, e597, st597⟩ := initO X0 hx hZ hown (ow hw 22 rfl) (ow hw 23 rfl) (ow hw 24 rfl) e0 (g := (mkF m 1 #[cr b589, cr b594, ci 0] [(.ref b589)])) rfl (by rw [hml]; rfl) rfl (hb hby d4_1) (by decide) (W := 0) (own_w rfl) (by decide)
 refine Ends.go st597 ?_
 refine walN X597 hx hby d4_4 rfl rfl ?_
 refine walN X597 hx hby d4_5 rfl rfl ?_
 obtain ⟨T598, h598, X598, e598, W598, st598⟩ := putF X597 hx hZ hown (host := "") (Or.inl (ow hw 25 rfl)) Via.refl e597 Pa1 Pa0 (Or.inr ⟨(ow hw 26 rfl), rfl, hnm⟩) (ow hw 13 rfl) (ty := (.array .byte)) (by decide) rfl rfl (g := (mkF m 6 #[cr b589, cr b594, ci 0] [(.ref b594), (.ref b589)])) rfl rfl (hb hby d4_6)
 refine Ends.go st598 ?_
 have Fw598 := Pa1.same W598
 have K598 := K0.wr W598 (mi 0 rfl)
 have N598 := Fr.snoc X598 N0 g_b589
 refine walN X598 hx hby d4_9 rfl rfl ?_
 refine wilN X598 hx hby d4_10 rfl ?_
 have c599 := Pa2.other W598 (sff hw 28 rfl 26 rfl)
 obtain ⟨T600, h600, X600, e600, W600, st600⟩ := putFN X598 hx hZ hown (ow hw 27 rfl) Via.refl e598 c599 (Pa0.wr W598) (Or.inr ⟨(ow hw 28 rfl), rfl, hnm⟩) (ow hw 13 rfl) (ty := .byte) (v' := (.int 0)) (by decide) rfl (by decide) (g := (mkF m 11 #[cr b589, cr b594, ci 0] [(.int 0), (.ref b589)])) rfl rfl (hb hby d4_11)
 refine Ends.go st600 ?_
 have Fw600 := c599.same W600
 have K600 := K598.wr W600 (mi 0 rfl)
 have N600 := Fr.snoc X600 N598 g_b589
 refine Ends.retV X600 hx Bd.notSynchronized Bd.returns (hb hby d4_14) (by decide) (by decide) ?_
 rw [e600]
 have c601 := (Pa3.other W598 (slf hw 102 rfl 26 rfl)).other W600 (slf hw 102 rfl 28 rfl)
 have c602 := (Pa4.other W598 (slf hw 104 rfl 26 rfl)).other W600 (slf hw 104 rfl 28 rfl)
 have c603 := Fw598.other W600 (sff hw 26 rfl 28 rfl)
 exact ⟨rfl, N600, K600, c603, Fw600, c601, c602⟩

theorem d1_0 : decode B11_ 0 = .ok (.getstatic 38, 3) := by decide +kernel
theorem d1_3 : decode B11_ 3 = .ok (.ifCond .eq 23, 3) := by decide +kernel
theorem d1_6 : decode B11_ 6 = .ok (.iload_n 0, 1) := by decide +kernel
theorem d1_7 : decode B11_ 7 = .ok (.invokestatic 1015, 3) := by decide +kernel
theorem d1_10 : decode B11_ 10 = .ok (.ifCond .eq 16, 3) := by decide +kernel
theorem d1_13 : decode B11_ 13 = .ok (.new 10, 3) := by decide +kernel
theorem d1_16 : decode B11_ 16 = .ok (.dup, 1) := by decide +kernel
theorem d1_17 : decode B11_ 17 = .ok (.iload_n 0, 1) := by decide +kernel
theorem d1_18 : decode B11_ 18 = .ok (.invokestatic 1018, 3) := by decide +kernel
theorem d1_21 : decode B11_ 21 = .ok (.iconst 0, 1) := by decide +kernel
theorem d1_22 : decode B11_ 22 = .ok (.invokespecial 209, 3) := by decide +kernel
theorem d1_25 : decode B11_ 25 = .ok (.areturn, 1) := by decide +kernel
theorem pn1 : plainName "java/lang/String" = true := by first | (simp [plainName, overriddenIn]; done) | decide +kernel
theorem pdx_9 : parseMethodDescriptor "([BB)V" = some ⟨[(.array .byte), .byte], none⟩ := by decide +kernel
theorem ef1_i (m : MethodId) (x0 : Int32) : entryFrame m #[(.int x0)] 1 = mkF m 0 #[.val (.int x0)] [] := by first | (simp [entryFrame, mkF, argsToLocals, Value.category]; done) | rfl
theorem rx1_585 (l : Launch) (Z : State) (a0 : Array Value) (hw : HW a0 Z) (ws : List Jvm.Cond) (n0 : Nat) (h0 : Heap) (O0 : Old Z n0 h0) (G1 : Int32) (w_EMPTY : Addr) (GF : GlobF Z G1 w_EMPTY) (c_ : Int32) (hc_ : 0 ≤ c_.toInt ∧ c_.toInt < 256) :
  Meets1 l ym15 B11_ 1 (some (.object cST)) ws (mkR 2 2 5 27) #[(.int c_)] Z h0 (fun v h L => ∃ (b589 : Addr) (b594 : Addr) (k595 : ClassId), v = some (.ref b589) ∧ Fr n0 L ∧ Keep h0 h [] ∧ h0.size ≤ b589 ∧ h0.size ≤ b594 ∧ b589 ≠ b594 ∧ Exa Z h b589 cST ∧ Arv Z h b594 k595 .byte (1 : Int32) [(.int (c_.toInt8.toInt32))] (.int 0) ∧ f2_ Z h b589 (.ref b594) ∧ f0_ Z h b589 (.int 0) ∧ Fld Z h b589 cST "hash" "I" (.int 0) ∧ f1_ Z h b589 (.int 0)) := by
 refine MetFree.of_bodySF (plainFor_of_name pn1) hisR ?_
 intro p e s m args below meth c s₁ Bd hml0 hP hK
 obtain ⟨rfl, hZ, hh⟩ := hP
 have hx := Bd.exec
 have hby := Bd.bytes
 have hml : c.maxLocals = 1 := hml0
 have hown : s.vm.findClass "java/lang/String" = some m.cls := findClass_of_methodNamed Bd.named
 have X0 : Stand p l e (mkR 2 2 5 27) s m #[(.int c_)] below meth c s₁ [] 0 0 := Stand.of_body Bd
 have e0 : s₁.heap = h0 := by rw [← hh, Bd.state]; rfl
 have N0 := Fr.nil n0
 show Ends _ _ _ _ s₁ (entryFrame m #[(.int c_)] 1) (mkR 2 2 5 27).cells (mkR 2 2 5 27).slots (fun v h L => ∃ (b589 : Addr) (b594 : Addr) (k595 : ClassId), v = some (.ref b589) ∧ Fr n0 L ∧ Keep h0 h [] ∧ h0.size ≤ b589 ∧ h0.size ≤ b594 ∧ b589 ≠ b594 ∧ Exa Z h b589 cST ∧ Arv Z h b594 k595 .byte (1 : Int32) [(.int (c_.toInt8.toInt32))] (.int 0) ∧ f2_ Z h b589 (.ref b594) ∧ f0_ Z h b589 (.int 0) ∧ Fld Z h b589 cST "hash" "I" (.int 0) ∧ f1_ Z h b589 (.int 0))
 refine Ends.go (fun _ k => castTop (ef1_i m c_) k) ?_
 obtain ⟨SCS, P5, S_EMPTY, E_EMPTY⟩ := id GF
 have K0 := Keep.refl h0 []
 show Ends _ _ _ _ s₁ (mkF m 0 #[ci c_] []) _ _ _
 obtain ⟨T586, X586, e586, st586⟩ := getS2 X0 hx hZ hown (host := "") (Or.inl (ow hw 7 rfl)) Via.refl e0 (SCS.ext O0.2) (g := (mkF m 0 #[ci c_] [])) rfl (hb hby d1_0)
 refine Ends.go st586 ?_
 refine win X586 hx hby d1_3 ((if0 _ _).trans (feq (P5 : ¬ (G1 = (0 : Int32)))).1) ?_
 refine wilN X586 hx hby d1_6 rfl ?_
 refine wsb X586 hx hZ hown hw hml rfl hby d1_7 8 rfl 9 rfl 10 rfl 11 rfl (by decide) e586 (rx2_587 l Z a0 hw [] n0 h0 O0  c_ hc_) (by decide) (by decide) [(.int c_)] [] pdx_7 rfl rfl rfl (by decide) (by decide) rfl ?_
 intro _ T588 _ X588 hQ588
 obtain ⟨rfl, N588q, K588c⟩ := hQ588
 have N588 := Fr.app N0 N588q
 obtain ⟨h588, e588⟩ : ∃ z, T588.heap = z := ⟨_, rfl⟩
 rw [e588] at K588c
 have K588 := K0.trans K588c all0
 have O588 := O0.keep K588c all0
 refine win X588 hx hby d1_10 ((if0 _ _).trans (feq (by decide : ¬ ((1 : Int32) = (0 : Int32)))).1) ?_
 obtain ⟨T589, h589, X589, e589, E589, A589, D589, -, st589⟩ := newO X588 hx hZ hown (ow hw 12 rfl) (ow hw 13 rfl) (ow hw 5 rfl) e588 (g := (mkF m 13 #[ci c_] [])) rfl (hb hby d1_13) (by decide) (by decide)
 obtain ⟨b589, g589⟩ : ∃ z, z = h588.size := ⟨_, rfl⟩
 rw [← g589] at A589 D589 st589
 refine Ends.go st589 ?_
 have g_b589 : n0 ≤ b589 := Nat.le_trans (own_old_le O588) (Nat.le_of_eq g589.symm)
 have sz_b589 : h0.size ≤ b589 := Nat.le_trans K588.1 (Nat.le_of_eq g589.symm)
 have K589 := K588.ext E589
 have O589 := O588.ext E589
 have F_value_b589 : f2_ Z h589 b589 .null := D589 (Or.inr (ow hw 26 rfl)) (ty := (.array .byte)) (by decide)
 have F_coder_b589 : f0_ Z h589 b589 (.int 0) := D589 (Or.inr (ow hw 28 rfl)) (ty := .byte) (by decide)
 have F_hash_b589 : Fld Z h589 b589 cST "hash" "I" (.int 0) := D589 (Or.inl (ow hw 102 rfl)) (ty := .int) (by decide)
 have F_hashIsZero_b589 : f1_ Z h589 b589 (.int 0) := D589 (Or.inl (ow hw 104 rfl)) (ty := .boolean) (by decide)
 refine wdu X589 hx hby d1_16 rfl ?_
 refine wilN X589 hx hby d1_17 rfl ?_
 refine wsb (W := 2) X589 hx hZ hown hw hml rfl hby d1_18 14 rfl 15 rfl 10 rfl 16 rfl (by decide) e589 (rx3_590 l Z a0 hw [] n0 h589 O589  c_ ) (by decide) (by decide) [(.int c_)] [(.ref b589), (.ref b589)] pdx_8 rfl rfl rfl (by decide) (by decide) rfl ?_
 intro _ T593 _ X593 hQ593
 obtain ⟨b594, k595, rfl, N593q, K593c, hb593_b594, Y593_0⟩ := hQ593
 have N593 := Fr.app N588 N593q
 have sz_b594 : h0.size ≤ b594 := Nat.le_trans K589.1 hb593_b594
 obtain ⟨h593, e593⟩ : ∃ z, T593.heap = z := ⟨_, rfl⟩
 rw [e593] at K593c Y593_0
 have K593 := K589.trans K593c all0
 have O593 := O589.keep K593c all0
 refine wic X593 hx hby d1_21 ?_
 obtain ⟨_, _, ⟨T604, L604, k604, n604⟩, -, X604, ⟨Lc604, hQ604, l604, y604, z604⟩, st604⟩ := X593.specialBack hx (y := ym14) rfl hown (ov hZ hw 18 rfl) (ov hZ hw 19 rfl) (ov hZ hw 21 rfl) (by decide) (own_backOf (W := 1) (rx4_596 l Z a0 hw [] n0 h593 O593  b589 b594 (A589.keep K593c) (F_value_b589.keep K593c nin0) (F_coder_b589.keep K593c nin0) (F_hash_b589.keep K593c nin0) (F_hashIsZero_b589.keep K593c nin0) g_b589) hZ (ow hw 21 rfl) (ow hw 5 rfl) (by decide) (by decide)) (g := (mkF m 22 #[ci c_] [(.int 0), (.ref b594), (.ref b589), (.ref b589)])) rfl (by rw [hml]; rfl) (Steps.refl _) (a := b589) (argsL := [(.ref b594), (.int 0)]) (rest := [(.ref b589)]) (lenOf pdx_9 rfl) rfl (own_w rfl) (hb hby d1_22) (fun _ _ => ⟨rfl, e593, (by decide : 2 + 0 ≤ _), (by decide : 5 + 0 ≤ _)⟩)
 dsimp only [Pt.U, Pt.locs, Pt.cells, Pt.slots] at X604 l604 y604 z604 st604 hQ604
 subst l604 y604 z604
 obtain ⟨rfl, N604q, K604c, Y604_0, Y604_1, Y604_2, Y604_3⟩ := hQ604
 have N604 := Fr.app N593 N604q
 refine Ends.go (fun _ k => st604.trans k) ?_
 obtain ⟨h604, e604⟩ : ∃ z, T604.heap = z := ⟨_, rfl⟩
 rw [e604] at K604c Y604_0 Y604_1 Y604_2 Y604_3
 have K604 := K593.trans K604c (allS (Or.inr sz_b589) all0)
 refine Ends.ret X604 hx Bd.notSynchronized (t := (.object cST)) Bd.returns rfl (Or.inr (Or.inr (Or.inr (Or.inr ⟨rfl, rfl, rfl⟩)))) (hb hby d1_25) (by decide) (by decide) ?_
 rw [e604]
 have ne_b589_b594 : b589 ≠ b594 := Nat.ne_of_lt (Nat.lt_of_lt_of_le A589.lt hb593_b594)
 exact ⟨b589, b594, k595, rfl, N604, K604, sz_b589, sz_b594, ne_b589_b594, ((A589.keep K593c).keep K604c), (Y593_0.keep K604c (ninS (Ne.symm ne_b589_b594) nin0)), Y604_0, Y604_1, Y604_2, Y604_3⟩

theorem d9_0 : decode B28_ 0 = .ok (.aload_n 0, 1) := by decide +kernel
theorem d9_1 : decode B28_ 1 = .ok (.invokespecial 1, 3) := by decide +kernel
theorem d9_4 : decode B28_ 4 = .ok (.return_, 1) := by decide +kernel
theorem pn9 : plainName "java/util/AbstractMap" = true := by first | (simp [plainName, overriddenIn]; done) | decide +kernel
theorem pdx_10 : parseMethodDescriptor "(C)Ljava/lang/String;" = some ⟨[.char], some (.object "java/lang/String")⟩ := by decide +kernel
theorem ef9_r (m : MethodId) (x0 : Addr) : entryFrame m #[(.ref x0)] 1 = mkF m 0 #[.val (.ref x0)] [] := by first | (simp [entryFrame, mkF, argsToLocals, Value.category]; done) | rfl
theorem rx9_614 (l : Launch) (Z : State) (a0 : Array Value) (hw : HW a0 Z) (ws : List Jvm.Cond) (n0 : Nat) (h0 : Heap) (O0 : Old Z n0 h0)  (b611 : Addr)  :
  Meets1 l ym16 B28_ 1 none ws (mkR 1 0 0 12) #[(.ref b611)] Z h0 (fun v h L => v = none ∧ Fr n0 L ∧ Keep h0 h []) := by
 refine own_start n0 (plainFor_of_name pn9) (fun m => ef9_r m b611) ?_
 intro p e s m below meth c s₁ hns hrt hZ hx hby hml hown hnm X0 e0 N0
 have K0 := Keep.refl h0 []
 refine walN X0 hx hby d9_0 rfl rfl ?_
 obtain ⟨T615, X615, e615, st615⟩ := initO X0 hx hZ hown (ow hw 54 rfl) (ow hw 23 rfl) (ow hw 24 rfl) e0 (g := (mkF m 1 #[cr b611] [(.ref b611)])) rfl (by rw [hml]; rfl) rfl (hb hby d9_1) (by decide) (W := 0) (own_w rfl) (by decide)
 refine Ends.go st615 ?_
 refine Ends.retV X615 hx hns hrt (hb hby d9_4) (by decide) (by decide) ?_
 rw [e615]
 exact ⟨rfl, N0, K0⟩

theorem d8_0 : decode B24_ 0 = .ok (.aload_n 0, 1) := by decide +kernel
theorem d8_1 : decode B24_ 1 = .ok (.invokespecial 43, 3) := by decide +kernel
theorem d8_4 : decode B24_ 4 = .ok (.aload_n 0, 1) := by decide +kernel
theorem d8_5 : decode B24_ 5 = .ok (.ldc 92, 2) := by decide +kernel
theorem d8_7 : decode B24_ 7 = .ok (.putfield 81, 3) := by decide +kernel
theorem d8_10 : decode B24_ 10 = .ok (.return_, 1) := by decide +kernel
theorem pn8 : plainName "java/util/HashMap" = true := by first | (simp [plainName, overriddenIn]; done) | decide +kernel
theorem pdx_11 : parseMethodDescriptor "()V" = some ⟨[], none⟩ := by decide +kernel
theorem ef8_r (m : MethodId) (x0 : Addr) : entryFrame m #[(.ref x0)] 1 = mkF m 0 #[.val (.ref x0)] [] := by first | (simp [entryFrame, mkF, argsToLocals, Value.category]; done) | rfl
theorem rx8_613 (l : Launch) (Z : State) (a0 : Array Value) (hw : HW a0 Z) (ws : List Jvm.Cond) (n0 : Nat) (h0 : Heap) (O0 : Old Z n0 h0)  (b611 : Addr) (Pa0 : Exa Z h0 b611 cLHM) (Pa1 : f13_ Z h0 b611 (.float (0 : UInt32))) (Pa2 : f14_ Z h0 b611 (.int 0)) (Pa3 : f15_ Z h0 b611 (.int 0)) (Pa4 : f16_ Z h0 b611 .null) (Pa5 : f17_ Z h0 b611 (.int 0)) (Pa6 : f18_ Z h0 b611 .null) (Pa7 : f19_ Z h0 b611 .null) (Pa8 : f20_ Z h0 b611 (.int 0)) (Pa9 : f21_ Z h0 b611 (.int 0)) (Pa10 : f22_ Z h0 b611 .null) (g_b611 : n0 ≤ b611) :
  Meets1 l ym17 B24_ 1 none ws (mkR 2 0 0 24) #[(.ref b611)] Z h0 (fun v h L => v = none ∧ Fr n0 L ∧ Keep h0 h [b611] ∧ f13_ Z h b611 (.float (1061158912 : UInt32)) ∧ f14_ Z h b611 (.int 0) ∧ f15_ Z h b611 (.int 0) ∧ f16_ Z h b611 .null ∧ f17_ Z h b611 (.int 0) ∧ f18_ Z h b611 .null ∧ f19_ Z h b611 .null ∧ f20_ Z h b611 (.int 0) ∧ f21_ Z h b611 (.int 0) ∧ f22_ Z h b611 .null) := by
 refine own_start n0 (plainFor_of_name pn8) (fun m => ef8_r m b611) ?_
 intro p e s m below meth c s₁ hns hrt hZ hx hby hml hown hnm X0 e0 N0
 have K0 := Keep.refl h0 [b611]
 refine walN X0 hx hby d8_0 rfl rfl ?_
 obtain ⟨_, _, ⟨T616, L616, k616, n616⟩, -, X616, ⟨Lc616, hQ616, l616, y616, z616⟩, st616⟩ := X0.specialBack hx (y := ym16) rfl hown (ov hZ hw 48 rfl) (ov hZ hw 49 rfl) (ov hZ hw 53 rfl) (by decide) (own_backOf (W := 0) (rx9_614 l Z a0 hw [] n0 h0 O0  b611 ) hZ (ow hw 53 rfl) (ow hw 52 rfl) (by decide) (by decide)) (g := (mkF m 1 #[cr b611] [(.ref b611)])) rfl (by rw [hml]; rfl) (Steps.refl _) (a := b611) (argsL := []) (rest := []) (lenOf pdx_11 rfl) rfl (own_w rfl) (hb hby d8_1) (fun _ _ => ⟨rfl, e0, (by decide : 0 + 0 ≤ _), (by decide : 0 + 0 ≤ _)⟩)
 dsimp only [Pt.U, Pt.locs, Pt.cells, Pt.slots] at X616 l616 y616 z616 st616 hQ616
 subst l616 y616 z616
 obtain ⟨rfl, N616q, K616c⟩ := hQ616
 have N616 := Fr.app N0 N616q
 refine Ends.go (fun _ k => st616.trans k) ?_
 obtain ⟨h616, e616⟩ : ∃ z, T616.heap = z := ⟨_, rfl⟩
 rw [e616] at K616c
 have K616 := K0.trans K616c all0
 refine walN X616 hx hby d8_4 rfl rfl ?_
 refine Ends.go (X616.ldcFloatC hx hown (ov hZ hw 55 rfl) (g := (mkF m 5 #[cr b611] [(.ref b611)])) rfl (hb hby d8_5)) ?_
 obtain ⟨T617, h617, X617, e617, W617, st617⟩ := putF X616 hx hZ hown (host := "") (Or.inl (ow hw 56 rfl)) Via.refl e616 (Pa1.keep K616c nin0) (Pa0.keep K616c) (Or.inr ⟨(ow hw 57 rfl), rfl, hnm⟩) (ow hw 37 rfl) (ty := .float) (by decide) rfl rfl (g := (mkF m 7 #[cr b611] [(.float (1061158912 : UInt32)), (.ref b611)])) rfl rfl (hb hby d8_7)
 refine Ends.go st617 ?_
 have Fw617 := (Pa1.keep K616c nin0).same W617
 have K617 := K616.wr W617 (mi 0 rfl)
 have N617 := Fr.snoc X617 N616 g_b611
 refine Ends.retV X617 hx hns hrt (hb hby d8_10) (by decide) (by decide) ?_
 rw [e617]
 have c618 := (Pa2.keep K616c nin0).other W617 (slf hw 59 rfl 57 rfl)
 have c619 := (Pa3.keep K616c nin0).other W617 (sff hw 61 rfl 57 rfl)
 have c620 := (Pa4.keep K616c nin0).other W617 (slf hw 119 rfl 57 rfl)
 have c621 := (Pa5.keep K616c nin0).other W617 (slf hw 126 rfl 57 rfl)
 have c622 := (Pa6.keep K616c nin0).other W617 (slf hw 163 rfl 57 rfl)
 have c623 := (Pa7.keep K616c nin0).other W617 (slf hw 165 rfl 57 rfl)
 have c624 := (Pa8.keep K616c nin0).other W617 (slf hw 167 rfl 57 rfl)
 have c625 := (Pa9.keep K616c nin0).other W617 (slf hw 169 rfl 57 rfl)
 have c626 := (Pa10.keep K616c nin0).other W617 (slf hw 213 rfl 57 rfl)
 exact ⟨rfl, N617, K617, Fw617, c618, c619, c620, c621, c622, c623, c624, c625, c626⟩

theorem d7_0 : decode B31_ 0 = .ok (.aload_n 0, 1) := by decide +kernel
theorem d7_1 : decode B31_ 1 = .ok (.invokespecial 87, 3) := by decide +kernel
theorem d7_4 : decode B31_ 4 = .ok (.aload_n 0, 1) := by decide +kernel
theorem d7_5 : decode B31_ 5 = .ok (.iconst 0, 1) := by decide +kernel
theorem d7_6 : decode B31_ 6 = .ok (.putfield 1, 3) := by decide +kernel
theorem d7_9 : decode B31_ 9 = .ok (.aload_n 0, 1) := by decide +kernel
theorem d7_10 : decode B31_ 10 = .ok (.iconst 0, 1) := by decide +kernel
theorem d7_11 : decode B31_ 11 = .ok (.putfield 64, 3) := by decide +kernel
theorem d7_14 : decode B31_ 14 = .ok (.return_, 1) := by decide +kernel
theorem pn7 : plainName "java/util/LinkedHashMap" = true := by first | (simp [plainName, overriddenIn]; done) | decide +kernel
theorem ef7_r (m : MethodId) (x0 : Addr) : entryFrame m #[(.ref x0)] 1 = mkF m 0 #[.val (.ref x0)] [] := by first | (simp [entryFrame, mkF, argsToLocals, Value.category]; done) | rfl
theorem rx7_612 (l : Launch) (Z : State) (a0 : Array Value) (hw : HW a0 Z) (ws : List Jvm.Cond) (n0 : Nat) (h0 : Heap) (O0 : Old Z n0 h0)  (b611 : Addr) (Pa0 : Exa Z h0 b611 cLHM) (Pa1 : f13_ Z h0 b611 (.float (0 : UInt32))) (Pa2 : f14_ Z h0 b611 (.int 0)) (Pa3 : f15_ Z h0 b611 (.int 0)) (Pa4 : f16_ Z h0 b611 .null) (Pa5 : f17_ Z h0 b611 (.int 0)) (Pa6 : f18_ Z h0 b611 .null) (Pa7 : f19_ Z h0 b611 .null) (Pa8 : f20_ Z h0 b611 (.int 0)) (Pa9 : f21_ Z h0 b611 (.int 0)) (Pa10 : f22_ Z h0 b611 .null) (g_b611 : n0 ≤ b611) :
  Meets1 l ym18 B31_ 1 none ws (mkR 3 0 0 36) #[(.ref b611)] Z h0 (fun v h L => v = none ∧ Fr n0 L ∧ Keep h0 h [b611] ∧ f13_ Z h b611 (.float (1061158912 : UInt32)) ∧ f14_ Z h b611 (.int 0) ∧ f15_ Z h b611 (.int 0) ∧ f16_ Z h b611 .null ∧ f17_ Z h b611 (.int 0) ∧ f18_ Z h b611 .null ∧ f19_ Z h b611 .null ∧ f20_ Z h b611 (.int 0) ∧ f21_ Z h b611 (.int 0) ∧ f22_ Z h b611 .null) := by
 refine own_start n0 (plainFor_of_name pn7) (fun m => ef7_r m b611) ?_
 intro p e s m below meth c s₁ hns hrt hZ hx hby hml hown hnm X0 e0 N0
 have K0 := Keep.refl h0 [b611]
 refine walN X0 hx hby d7_0 rfl rfl ?_
 obtain ⟨_, _, ⟨T627, L627, k627, n627⟩, -, X627, ⟨Lc627, hQ627, l627, y627, z627⟩, st627⟩ := X0.specialBack hx (y := ym17) rfl hown (ov hZ hw 42 rfl) (ov hZ hw 43 rfl) (ov hZ hw 47 rfl) (by decide) (own_backOf (W := 0) (rx8_613 l Z a0 hw [] n0 h0 O0  b611 Pa0 Pa1 Pa2 Pa3 Pa4 Pa5 Pa6 Pa7 Pa8 Pa9 Pa10 g_b611) hZ (ow hw 47 rfl) (ow hw 46 rfl) (by decide) (by decide)) (g := (mkF m 1 #[cr b611] [(.ref b611)])) rfl (by rw [hml]; rfl) (Steps.refl _) (a := b611) (argsL := []) (rest := []) (lenOf pdx_11 rfl) rfl (own_w rfl) (hb hby d7_1) (fun _ _ => ⟨rfl, e0, (by decide : 0 + 0 ≤ _), (by decide : 0 + 0 ≤ _)⟩)
 dsimp only [Pt.U, Pt.locs, Pt.cells, Pt.slots] at X627 l627 y627 z627 st627 hQ627
 subst l627 y627 z627
 obtain ⟨rfl, N627q, K627c, Y627_0, Y627_1, Y627_2, Y627_3, Y627_4, Y627_5, Y627_6, Y627_7, Y627_8, Y627_9⟩ := hQ627
 have N627 := Fr.app N0 N627q
 refine Ends.go (fun _ k => st627.trans k) ?_
 obtain ⟨h627, e627⟩ : ∃ z, T627.heap = z := ⟨_, rfl⟩
 rw [e627] at K627c Y627_0 Y627_1 Y627_2 Y627_3 Y627_4 Y627_5 Y627_6 Y627_7 Y627_8 Y627_9
 have K627 := K0.trans K627c (allS (mi 0 rfl) all0)
 refine walN X627 hx hby d7_4 rfl rfl ?_
 refine wic X627 hx hby d7_5 ?_
 refine wpf X627 hx hZ hown hw 58 rfl e627 Y627_1 (Pa0.keep K627c) 59 rfl 37 rfl (ty := .int) (by decide) rfl rfl hby d7_6 ?_
 intro T628 h628 X628 e628 W628
 have Fw628 := Y627_1.same W628
 have K628 := K627.wr W628 (mi 0 rfl)
 have N628 := Fr.snoc X628 N627 g_b611
 refine walN X628 hx hby d7_9 rfl rfl ?_
 refine wic X628 hx hby d7_10 ?_
 have c629 := Y627_2.other W628 (sfl hw 61 rfl 59 rfl)
 obtain ⟨T630, h630, X630, e630, W630, st630⟩ := putFN X628 hx hZ hown (ow hw 60 rfl) Via.refl e628 c629 ((Pa0.keep K627c).wr W628) (Or.inr ⟨(ow hw 61 rfl), rfl, hnm⟩) (ow hw 37 rfl) (ty := .boolean) (v' := (.int 0)) (by decide) rfl (by decide) (g := (mkF m 11 #[cr b611] [(.int 0), (.ref b611)])) rfl rfl (hb hby d7_11)
 refine Ends.go st630 ?_
 have Fw630 := c629.same W630
 have K630 := K628.wr W630 (mi 0 rfl)
 have N630 := Fr.snoc X630 N628 g_b611
 refine Ends.retV X630 hx hns hrt (hb hby d7_14) (by decide) (by decide) ?_
 rw [e630]
 have c631 := (Y627_0.other W628 (sfl hw 57 rfl 59 rfl)).other W630 (sff hw 57 rfl 61 rfl)
 have c632 := Fw628.other W630 (slf hw 59 rfl 61 rfl)
 have c633 := (Y627_3.other W628 (sll hw 119 rfl 59 rfl)).other W630 (slf hw 119 rfl 61 rfl)
 have c634 := (Y627_4.other W628 (sll hw 126 rfl 59 rfl)).other W630 (slf hw 126 rfl 61 rfl)
 have c635 := (Y627_5.other W628 (sll hw 163 rfl 59 rfl)).other W630 (slf hw 163 rfl 61 rfl)
 have c636 := (Y627_6.other W628 (sll hw 165 rfl 59 rfl)).other W630 (slf hw 165 rfl 61 rfl)
 have c637 := (Y627_7.other W628 (sll hw 167 rfl 59 rfl)).other W630 (slf hw 167 rfl 61 rfl)
 have c638 := (Y627_8.other W628 (sll hw 169 rfl 59 rfl)).other W630 (slf hw 169 rfl 61 rfl)
 have c639 := (Y627_9.other W628 (sll hw 213 rfl 59 rfl)).other W630 (slf hw 213 rfl 61 rfl)
 exact ⟨rfl, N630, K630, c631, c632, Fw630, c633, c634, c635, c636, c637, c638, c639⟩

theorem d10_0 : decode B45_ 0 = .ok (.aload_n 0, 1) := by decide +kernel
theorem d10_1 : decode B45_ 1 = .ok (.invokespecial 1, 3) := by decide +kernel
theorem d10_4 : decode B45_ 4 = .ok (.aload_n 0, 1) := by decide +kernel
theorem d10_5 : decode B45_ 5 = .ok (.aload_n 1, 1) := by decide +kernel
theorem d10_6 : decode B45_ 6 = .ok (.putfield 7, 3) := by decide +kernel
theorem d10_9 : decode B45_ 9 = .ok (.aload_n 0, 1) := by decide +kernel
theorem d10_10 : decode B45_ 10 = .ok (.aload_n 2, 1) := by decide +kernel
theorem d10_11 : decode B45_ 11 = .ok (.putfield 13, 3) := by decide +kernel
theorem d10_14 : decode B45_ 14 = .ok (.return_, 1) := by decide +kernel
theorem pn10 : plainName "com/example/ratatoskr/ratatoskr/JsonObject$Builder" = true := by first | (simp [plainName, overriddenIn]; done) | decide +kernel
theorem ef10_rrn (m : MethodId) (x0 : Addr) (x1 : Addr) : entryFrame m #[(.ref x0), (.ref x1), .null] 3 = mkF m 0 #[.val (.ref x0), .val (.ref x1), .val .null] [] := by first | (simp [entryFrame, mkF, argsToLocals, Value.category]; done) | rfl
theorem rx10_641 (l : Launch) (Z : State) (a0 : Array Value) (hw : HW a0 Z) (ws : List Jvm.Cond) (n0 : Nat) (h0 : Heap) (O0 : Old Z n0 h0)  (b610 : Addr) (b611 : Addr) (Pa0 : Exa Z h0 b610 qs23) (Pa1 : f23_ Z h0 b610 .null) (Pa2 : Fld Z h0 b610 qs23 "shape" qs0 .null) (g_b610 : n0 ≤ b610) :
  Meets1 l ym19 B45_ 3 none ws (mkR 1 0 0 12) #[(.ref b610), (.ref b611), .null] Z h0 (fun v h L => v = none ∧ Fr n0 L ∧ Keep h0 h [b610] ∧ f23_ Z h b610 (.ref b611) ∧ Fld Z h b610 qs23 "shape" qs0 .null) := by
 refine own_start n0 (plainFor_of_name pn10) (fun m => ef10_rrn m b610 b611) ?_
 intro p e s m below meth c s₁ hns hrt hZ hx hby hml hown hnm X0 e0 N0
 have K0 := Keep.refl h0 [b610]
 refine walN X0 hx hby d10_0 rfl rfl ?_
 obtain ⟨T642, X642, e642, st642⟩ := initO X0 hx hZ hown (ow hw 65 rfl) (ow hw 23 rfl) (ow hw 24 rfl) e0 (g := (mkF m 1 #[cr b610, cr b611, .val .null] [(.ref b610)])) rfl (by rw [hml]; rfl) rfl (hb hby d10_1) (by decide) (W := 0) (own_w rfl) (by decide)
 refine Ends.go st642 ?_
 refine walN X642 hx hby d10_4 rfl rfl ?_
 refine walN X642 hx hby d10_5 rfl rfl ?_
 obtain ⟨T643, h643, X643, e643, W643, st643⟩ := putF X642 hx hZ hown (host := "") (Or.inl (ow hw 66 rfl)) Via.refl e642 Pa1 Pa0 (Or.inr ⟨(ow hw 67 rfl), rfl, hnm⟩) (ow hw 34 rfl) (ty := (.object qs25)) (by decide) rfl rfl (g := (mkF m 6 #[cr b610, cr b611, .val .null] [(.ref b611), (.ref b610)])) rfl rfl (hb hby d10_6)
 refine Ends.go st643 ?_
 have Fw643 := Pa1.same W643
 have K643 := K0.wr W643 (mi 0 rfl)
 have N643 := Fr.snoc X643 N0 g_b610
 refine walN X643 hx hby d10_9 rfl rfl ?_
 refine walN X643 hx hby d10_10 rfl rfl ?_
 have c644 := Pa2.other W643 (slf hw 69 rfl 67 rfl)
 refine wpf X643 hx hZ hown hw 68 rfl e643 c644 (Pa0.wr W643) 69 rfl 34 rfl (ty := (.object cNA)) (by decide) rfl rfl hby d10_11 ?_
 intro T645 h645 X645 e645 W645
 have Fw645 := c644.same W645
 have K645 := K643.wr W645 (mi 0 rfl)
 have N645 := Fr.snoc X645 N643 g_b610
 refine Ends.retV X645 hx hns hrt (hb hby d10_14) (by decide) (by decide) ?_
 rw [e645]
 have c646 := Fw643.other W645 (sfl hw 67 rfl 69 rfl)
 exact ⟨rfl, N645, K645, c646, Fw645⟩

theorem d6_0 : decode B44_ 0 = .ok (.new 84, 3) := by decide +kernel
theorem d6_3 : decode B44_ 3 = .ok (.dup, 1) := by decide +kernel
theorem d6_4 : decode B44_ 4 = .ok (.new 93, 3) := by decide +kernel
theorem d6_7 : decode B44_ 7 = .ok (.dup, 1) := by decide +kernel
theorem d6_8 : decode B44_ 8 = .ok (.invokespecial 95, 3) := by decide +kernel
theorem d6_11 : decode B44_ 11 = .ok (.aconst_null, 1) := by decide +kernel
theorem d6_12 : decode B44_ 12 = .ok (.invokespecial 96, 3) := by decide +kernel
theorem d6_15 : decode B44_ 15 = .ok (.areturn, 1) := by decide +kernel
theorem pn6 : plainName "com/example/ratatoskr/ratatoskr/JsonObject" = true := by first | (simp [plainName, overriddenIn]; done) | decide +kernel
theorem pdx_12 : parseMethodDescriptor "(Ljava/util/Map;Lcom/example/ratatoskr/ratatoskr/Names;)V" = some ⟨[(.object "java/util/Map"), (.object "com/example/ratatoskr/ratatoskr/Names")], none⟩ := by decide +kernel
theorem ef6_ (m : MethodId)  : entryFrame m #[] 0 = mkF m 0 #[] [] := by first | (simp [entryFrame, mkF, argsToLocals, Value.category]; done) | rfl
theorem rx6_609 (l : Launch) (Z : State) (a0 : Array Value) (hw : HW a0 Z) (ws : List Jvm.Cond) (n0 : Nat) (h0 : Heap) (O0 : Old Z n0 h0)    :
  Meets1 l ym20 B44_ 0 (some (.object qs23)) ws (mkR 4 2 14 51) #[] Z h0 (fun v h L => ∃ (b610 : Addr) (b611 : Addr), v = some (.ref b610) ∧ Fr n0 L ∧ Keep h0 h [] ∧ h0.size ≤ b610 ∧ h0.size ≤ b611 ∧ b610 ≠ b611 ∧ Exa Z h b610 qs23 ∧ Exa Z h b611 cLHM ∧ f13_ Z h b611 (.float (1061158912 : UInt32)) ∧ f14_ Z h b611 (.int 0) ∧ f15_ Z h b611 (.int 0) ∧ f16_ Z h b611 .null ∧ f17_ Z h b611 (.int 0) ∧ f18_ Z h b611 .null ∧ f19_ Z h b611 .null ∧ f20_ Z h b611 (.int 0) ∧ f21_ Z h b611 (.int 0) ∧ f22_ Z h b611 .null ∧ f23_ Z h b610 (.ref b611) ∧ Fld Z h b610 qs23 "shape" qs0 .null) := by
 refine own_start n0 (plainFor_of_name pn6) (fun m => ef6_ m) ?_
 intro p e s m below meth c s₁ hns hrt hZ hx hby hml hown hnm X0 e0 N0
 have K0 := Keep.refl h0 []
 obtain ⟨T610, h610, X610, e610, E610, A610, D610, -, st610⟩ := newO X0 hx hZ hown (ow hw 33 rfl) (ow hw 34 rfl) (ow hw 35 rfl) e0 (g := (mkF m 0 #[] [])) rfl (hb hby d6_0) (by decide) (by decide)
 obtain ⟨b610, g610⟩ : ∃ z, z = h0.size := ⟨_, rfl⟩
 rw [← g610] at A610 D610 st610
 refine Ends.go st610 ?_
 have g_b610 : n0 ≤ b610 := Nat.le_trans (own_old_le O0) (Nat.le_of_eq g610.symm)
 have sz_b610 : h0.size ≤ b610 := Nat.le_trans K0.1 (Nat.le_of_eq g610.symm)
 have K610 := K0.ext E610
 have O610 := O0.ext E610
 have F_members_b610 : f23_ Z h610 b610 .null := D610 (Or.inr (ow hw 67 rfl)) (ty := (.object qs25)) (by decide)
 have F_shape_b610 : Fld Z h610 b610 qs23 "shape" qs0 .null := D610 (Or.inl (ow hw 69 rfl)) (ty := (.object cNA)) (by decide)
 refine wdu X610 hx hby d6_3 rfl ?_
 obtain ⟨T611, h611, X611, e611, E611, A611, D611, -, st611⟩ := newO X610 hx hZ hown (ow hw 36 rfl) (ow hw 37 rfl) (ow hw 38 rfl) e610 (g := (mkF m 4 #[] [(.ref b610), (.ref b610)])) rfl (hb hby d6_4) (by decide) (by decide)
 obtain ⟨b611, g611⟩ : ∃ z, z = h610.size := ⟨_, rfl⟩
 rw [← g611] at A611 D611 st611
 refine Ends.go st611 ?_
 have g_b611 : n0 ≤ b611 := Nat.le_trans (own_old_le O610) (Nat.le_of_eq g611.symm)
 have sz_b611 : h0.size ≤ b611 := Nat.le_trans K610.1 (Nat.le_of_eq g611.symm)
 have K611 := K610.ext E611
 have O611 := O610.ext E611
 have F_loadFactor_b611 : f13_ Z h611 b611 (.float (0 : UInt32)) := D611 (Or.inr (ow hw 57 rfl)) (ty := .float) (by decide)
 have F_putMode_b611 : f14_ Z h611 b611 (.int 0) := D611 (Or.inl (ow hw 59 rfl)) (ty := .int) (by decide)
 have F_accessOrder_b611 : f15_ Z h611 b611 (.int 0) := D611 (Or.inr (ow hw 61 rfl)) (ty := .boolean) (by decide)
 have F_table_b611 : f16_ Z h611 b611 .null := D611 (Or.inl (ow hw 119 rfl)) (ty := (.array (.object cHN))) (by decide)
 have F_threshold_b611 : f17_ Z h611 b611 (.int 0) := D611 (Or.inl (ow hw 126 rfl)) (ty := .int) (by decide)
 have F_tail_b611 : f18_ Z h611 b611 .null := D611 (Or.inl (ow hw 163 rfl)) (ty := (.object cLE)) (by decide)
 have F_head_b611 : f19_ Z h611 b611 .null := D611 (Or.inl (ow hw 165 rfl)) (ty := (.object cLE)) (by decide)
 have F_modCount_b611 : f20_ Z h611 b611 (.int 0) := D611 (Or.inl (ow hw 167 rfl)) (ty := .int) (by decide)
 have F_size_b611 : f21_ Z h611 b611 (.int 0) := D611 (Or.inl (ow hw 169 rfl)) (ty := .int) (by decide)
 have F_entrySet_b611 : f22_ Z h611 b611 .null := D611 (Or.inl (ow hw 213 rfl)) (ty := (.object qs22)) (by decide)
 refine wdu X611 hx hby d6_7 rfl ?_
 obtain ⟨_, _, ⟨T640, L640, k640, n640⟩, -, X640, ⟨Lc640, hQ640, l640, y640, z640⟩, st640⟩ := X611.specialBack hx (y := ym18) rfl hown (ov hZ hw 39 rfl) (ov hZ hw 40 rfl) (ov hZ hw 41 rfl) (by decide) (own_backOf (W := 3) (rx7_612 l Z a0 hw [] n0 h611 O611  b611 A611 F_loadFactor_b611 F_putMode_b611 F_accessOrder_b611 F_table_b611 F_threshold_b611 F_tail_b611 F_head_b611 F_modCount_b611 F_size_b611 F_entrySet_b611 g_b611) hZ (ow hw 41 rfl) (ow hw 38 rfl) (by decide) (by decide)) (g := (mkF m 8 #[] [(.ref b611), (.ref b611), (.ref b610), (.ref b610)])) rfl (by rw [hml]; rfl) (Steps.refl _) (a := b611) (argsL := []) (rest := [(.ref b611), (.ref b610), (.ref b610)]) (lenOf pdx_11 rfl) rfl (own_w rfl) (hb hby d6_8) (fun _ _ => ⟨rfl, e611, (by decide : 2 + 0 ≤ _), (by decide : 14 + 0 ≤ _)⟩)
 dsimp only [Pt.U, Pt.locs, Pt.cells, Pt.slots] at X640 l640 y640 z640 st640 hQ640
 subst l640 y640 z640
 obtain ⟨rfl, N640q, K640c, Y640_0, Y640_1, Y640_2, Y640_3, Y640_4, Y640_5, Y640_6, Y640_7, Y640_8, Y640_9⟩ := hQ640
 have N640 := Fr.app N0 N640q
 refine Ends.go (fun _ k => st640.trans k) ?_
 obtain ⟨h640, e640⟩ : ∃ z, T640.heap = z := ⟨_, rfl⟩
 rw [e640] at K640c Y640_0 Y640_1 Y640_2 Y640_3 Y640_4 Y640_5 Y640_6 Y640_7 Y640_8 Y640_9
 have K640 := K611.trans K640c (allS (Or.inr sz_b611) all0)
 have O640 := O611.keep K640c (allS g_b611 all0)
 refine wnu X640 hx hby d6_11 ?_
 have ne_b610_b611 : b610 ≠ b611 := Nat.ne_of_lt (Nat.lt_of_lt_of_le A610.lt (Nat.le_of_eq g611.symm))
 have c647 := (F_members_b610.ext E611).keep K640c (ninS ne_b610_b611 nin0)
 have c648 := (F_shape_b610.ext E611).keep K640c (ninS ne_b610_b611 nin0)
 obtain ⟨_, _, ⟨T649, L649, k649, n649⟩, -, X649, ⟨Lc649, hQ649, l649, y649, z649⟩, st649⟩ := own_specialRef X640 hx hZ (y := ym19) rfl hown (ow hw 62 rfl) (ov hZ hw 63 rfl) (ov hZ hw 64 rfl) (by decide) (own_backOf (W := 1) (rx10_641 l Z a0 hw [] n0 h640 O640  b610 b611 ((A610.ext E611).keep K640c) c647 c648 g_b610) hZ (ow hw 64 rfl) (ow hw 35 rfl) (by decide) (by decide)) (g := (mkF m 12 #[] [.null, (.ref b611), (.ref b610), (.ref b610)])) rfl (by rw [hml]; rfl) (Steps.refl _) (a := b610) (argsL := [(.ref b611), .null]) (rest := [(.ref b610)]) (lenOf pdx_12 rfl) rfl (own_w rfl) (hb hby d6_12) (fun _ _ => ⟨rfl, e640, (by decide : 2 + 0 ≤ _), (by decide : 14 + 0 ≤ _)⟩)
 dsimp only [Pt.U, Pt.locs, Pt.cells, Pt.slots] at X649 l649 y649 z649 st649 hQ649
 subst l649 y649 z649
 obtain ⟨rfl, N649q, K649c, Y649_0, Y649_1⟩ := hQ649
 have N649 := Fr.app N640 N649q
 refine Ends.go (fun _ k => st649.trans k) ?_
 obtain ⟨h649, e649⟩ : ∃ z, T649.heap = z := ⟨_, rfl⟩
 rw [e649] at K649c Y649_0 Y649_1
 have K649 := K640.trans K649c (allS (Or.inr sz_b610) all0)
 refine Ends.ret X649 hx hns (t := (.object qs23)) hrt rfl (Or.inr (Or.inr (Or.inr (Or.inr ⟨rfl, rfl, rfl⟩)))) (hb hby d6_15) (by decide) (by decide) ?_
 rw [e649]
 exact ⟨b610, b611, rfl, N649, K649, sz_b610, sz_b611, ne_b610_b611, (((A610.ext E611).keep K640c).keep K649c), ((A611.keep K640c).keep K649c), (Y640_0.keep K649c (ninS (Ne.symm ne_b610_b611) nin0)), (Y640_1.keep K649c (ninS (Ne.symm ne_b610_b611) nin0)), (Y640_2.keep K649c (ninS (Ne.symm ne_b610_b611) nin0)), (Y640_3.keep K649c (ninS (Ne.symm ne_b610_b611) nin0)), (Y640_4.keep K649c (ninS (Ne.symm ne_b610_b611) nin0)), (Y640_5.keep K649c (ninS (Ne.symm ne_b610_b611) nin0)), (Y640_6.keep K649c (ninS (Ne.symm ne_b610_b611) nin0)), (Y640_7.keep K649c (ninS (Ne.symm ne_b610_b611) nin0)), (Y640_8.keep K649c (ninS (Ne.symm ne_b610_b611) nin0)), (Y640_9.keep K649c (ninS (Ne.symm ne_b610_b611) nin0)), Y649_0, Y649_1⟩

theorem d12_0 : decode B9_ 0 = .ok (.aload_n 0, 1) := by decide +kernel
theorem d12_1 : decode B9_ 1 = .ok (.ifnonnull 12, 3) := by decide +kernel
theorem d12_13 : decode B9_ 13 = .ok (.aload_n 0, 1) := by decide +kernel
theorem d12_14 : decode B9_ 14 = .ok (.areturn, 1) := by decide +kernel
theorem pn12 : plainName "java/util/Objects" = true := by first | (simp [plainName, overriddenIn]; done) | decide +kernel
theorem pdx_13 : parseMethodDescriptor "()Lcom/example/ratatoskr/ratatoskr/JsonObject$Builder;" = some ⟨[], some (.object "com/example/ratatoskr/ratatoskr/JsonObject$Builder")⟩ := by decide +kernel
theorem ef12_rr (m : MethodId) (x0 : Addr) (x1 : Addr) : entryFrame m #[(.ref x0), (.ref x1)] 2 = mkF m 0 #[.val (.ref x0), .val (.ref x1)] [] := by first | (simp [entryFrame, mkF, argsToLocals, Value.category]; done) | rfl
theorem rx12_655 (l : Launch) (Z : State) (a0 : Array Value) (hw : HW a0 Z) (ws : List Jvm.Cond) (n0 : Nat) (h0 : Heap) (O0 : Old Z n0 h0)  (b606 : Addr) (a654 : Addr)  :
  Meets1 l ym21 B9_ 2 (some (.object qs26)) ws (mkR 0 0 0 0) #[(.ref b606), (.ref a654)] Z h0 (fun v h L => v = some (.ref b606) ∧ Fr n0 L ∧ Keep h0 h []) := by
 refine own_start n0 (plainFor_of_name pn12) (fun m => ef12_rr m b606 a654) ?_
 intro p e s m below meth c s₁ hns hrt hZ hx hby hml hown hnm X0 e0 N0
 have K0 := Keep.refl h0 []
 refine walN X0 hx hby d12_0 rfl rfl ?_
 refine wny (pc := 1) (pc' := 13) X0 hx hby d12_1 ?_
 refine walN X0 hx hby d12_13 rfl rfl ?_
 refine Ends.ret X0 hx hns (t := (.object qs26)) hrt rfl (Or.inr (Or.inr (Or.inr (Or.inr ⟨rfl, rfl, rfl⟩)))) (hb hby d12_14) (by decide) (by decide) ?_
 rw [e0]
 exact ⟨rfl, N0, K0⟩

theorem pdx_14 : parseMethodDescriptor "(Ljava/lang/Object;Ljava/lang/String;)Ljava/lang/Object;" = some ⟨[(.object "java/lang/Object"), (.object "java/lang/String")], some (.object "java/lang/Object")⟩ := by decide +kernel
theorem rx12_658 (l : Launch) (Z : State) (a0 : Array Value) (hw : HW a0 Z) (ws : List Jvm.Cond) (n0 : Nat) (h0 : Heap) (O0 : Old Z n0 h0) (G1 : Int32) (w_EMPTY : Addr) (GF : GlobF Z G1 w_EMPTY) (a657 : Addr)  :
  Meets1 l ym21 B9_ 2 (some (.object qs26)) ws (mkR 0 0 0 0) #[(.ref w_EMPTY), (.ref a657)] Z h0 (fun v h L => v = some (.ref w_EMPTY) ∧ Fr n0 L ∧ Keep h0 h []) := by
 refine own_start n0 (plainFor_of_name pn12) (fun m => ef12_rr m w_EMPTY a657) ?_
 intro p e s m below meth c s₁ hns hrt hZ hx hby hml hown hnm X0 e0 N0
 obtain ⟨SCS, P5, S_EMPTY, E_EMPTY⟩ := id GF
 have K0 := Keep.refl h0 []
 show Ends _ _ _ _ s₁ (mkF m 0 #[cr w_EMPTY, cr a657] []) _ _ _
 refine walN X0 hx hby d12_0 rfl rfl ?_
 refine wny (pc := 1) (pc' := 13) X0 hx hby d12_1 ?_
 refine walN X0 hx hby d12_13 rfl rfl ?_
 refine Ends.ret X0 hx hns (t := (.object qs26)) hrt rfl (Or.inr (Or.inr (Or.inr (Or.inr ⟨rfl, rfl, rfl⟩)))) (hb hby d12_14) (by decide) (by decide) ?_
 rw [e0]
 exact ⟨rfl, N0, K0⟩

theorem d19_0 : decode B22_ 0 = .ok (.aload_n 0, 1) := by decide +kernel
theorem d19_1 : decode B22_ 1 = .ok (.getfield 105, 3) := by decide +kernel
theorem d19_4 : decode B22_ 4 = .ok (.astore_n 1, 1) := by decide +kernel
theorem d19_5 : decode B22_ 5 = .ok (.aload_n 1, 1) := by decide +kernel
theorem d19_6 : decode B22_ 6 = .ok (.ifnonnull 7, 3) := by decide +kernel
theorem d19_9 : decode B22_ 9 = .ok (.iconst 0, 1) := by decide +kernel
theorem d19_10 : decode B22_ 10 = .ok (.goto 5, 3) := by decide +kernel
theorem d19_15 : decode B22_ 15 = .ok (.istore_n 2, 1) := by decide +kernel
theorem d19_16 : decode B22_ 16 = .ok (.aload_n 0, 1) := by decide +kernel
theorem d19_17 : decode B22_ 17 = .ok (.getfield 88, 3) := by decide +kernel
theorem d19_20 : decode B22_ 20 = .ok (.istore_n 3, 1) := by decide +kernel
theorem d19_21 : decode B22_ 21 = .ok (.iconst 0, 1) := by decide +kernel
theorem d19_22 : decode B22_ 22 = .ok (.istore 5, 2) := by decide +kernel
theorem d19_24 : decode B22_ 24 = .ok (.iload_n 2, 1) := by decide +kernel
theorem d19_25 : decode B22_ 25 = .ok (.ifCond .le 42, 3) := by decide +kernel
theorem d19_67 : decode B22_ 67 = .ok (.iload_n 3, 1) := by decide +kernel
theorem d19_68 : decode B22_ 68 = .ok (.ifCond .le 9, 3) := by decide +kernel
theorem d19_77 : decode B22_ 77 = .ok (.bipush 16, 2) := by decide +kernel
theorem d19_79 : decode B22_ 79 = .ok (.istore 4, 2) := by decide +kernel
theorem d19_81 : decode B22_ 81 = .ok (.bipush 12, 2) := by decide +kernel
theorem d19_83 : decode B22_ 83 = .ok (.istore 5, 2) := by decide +kernel
theorem d19_85 : decode B22_ 85 = .ok (.iload 5, 2) := by decide +kernel
theorem d19_87 : decode B22_ 87 = .ok (.ifCond .ne 38, 3) := by decide +kernel
theorem d19_125 : decode B22_ 125 = .ok (.aload_n 0, 1) := by decide +kernel
theorem d19_126 : decode B22_ 126 = .ok (.iload 5, 2) := by decide +kernel
theorem d19_128 : decode B22_ 128 = .ok (.putfield 88, 3) := by decide +kernel
theorem d19_131 : decode B22_ 131 = .ok (.iload 4, 2) := by decide +kernel
theorem d19_133 : decode B22_ 133 = .ok (.anewarray 163, 3) := by decide +kernel
theorem d19_136 : decode B22_ 136 = .ok (.astore 6, 2) := by decide +kernel
theorem d19_138 : decode B22_ 138 = .ok (.aload_n 0, 1) := by decide +kernel
theorem d19_139 : decode B22_ 139 = .ok (.aload 6, 2) := by decide +kernel
theorem d19_141 : decode B22_ 141 = .ok (.putfield 105, 3) := by decide +kernel
theorem d19_144 : decode B22_ 144 = .ok (.aload_n 1, 1) := by decide +kernel
theorem d19_145 : decode B22_ 145 = .ok (.ifnull 208, 3) := by decide +kernel
theorem d19_353 : decode B22_ 353 = .ok (.aload 6, 2) := by decide +kernel
theorem d19_355 : decode B22_ 355 = .ok (.areturn, 1) := by decide +kernel
theorem pn19 : plainName "java/util/HashMap" = true := by first | (simp [plainName, overriddenIn]; done) | decide +kernel
theorem pdx_15 : parseMethodDescriptor "(Ljava/lang/Object;)I" = some ⟨[(.object "java/lang/Object")], some .int⟩ := by decide +kernel
theorem ef19_r (m : MethodId) (x0 : Addr) : entryFrame m #[(.ref x0)] 14 = mkF m 0 #[.val (.ref x0), .unset, .unset, .unset, .unset, .unset, .unset, .unset, .unset, .unset, .unset, .unset, .unset, .unset] [] := by first | (simp [entryFrame, mkF, argsToLocals, Value.category]; done) | rfl
theorem rx19_666 (l : Launch) (Z : State) (a0 : Array Value) (hw : HW a0 Z) (ws : List Jvm.Cond) (n0 : Nat) (h0 : Heap) (O0 : Old Z n0 h0)  (b652 : Addr) (Pa0 : f16_ Z h0 b652 .null) (Pa1 : f17_ Z h0 b652 (.int 0)) (Pa2 : Exa Z h0 b652 cLHM) (Pa3 : f13_ Z h0 b652 (.float (1061158912 : UInt32))) (Pa4 : f14_ Z h0 b652 (.int 0)) (Pa5 : f15_ Z h0 b652 (.int 0)) (Pa6 : f18_ Z h0 b652 .null) (Pa7 : f19_ Z h0 b652 .null) (Pa8 : f20_ Z h0 b652 (.int 0)) (Pa9 : f21_ Z h0 b652 (.int 0)) (Pa10 : f22_ Z h0 b652 .null) (g_b652 : n0 ≤ b652) :
  Meets1 l ym22 B22_ 14 (some (.array (.object cHN))) ws (mkR 0 1 16 0) #[(.ref b652)] Z h0 (fun v h L => ∃ (b670 : Addr) (k670 : ClassId), v = some (.ref b670) ∧ Fr n0 L ∧ Keep h0 h [b652] ∧ h0.size ≤ b670 ∧ f16_ Z h b652 (.ref b670) ∧ f17_ Z h b652 (.int 12) ∧ Arv Z h b670 k670 (.object cHN) (16 : Int32) nN16 .null ∧ Ovr Z k670 cHN ∧ f13_ Z h b652 (.float (1061158912 : UInt32)) ∧ f14_ Z h b652 (.int 0) ∧ f15_ Z h b652 (.int 0) ∧ f18_ Z h b652 .null ∧ f19_ Z h b652 .null ∧ f20_ Z h b652 (.int 0) ∧ f21_ Z h b652 (.int 0) ∧ f22_ Z h b652 .null) := by
 refine own_start n0 (plainFor_of_name pn19) (fun m => ef19_r m b652) ?_
 intro p e s m below meth c s₁ hns hrt hZ hx hby hml hown hnm X0 e0 N0
 have K0 := Keep.refl h0 [b652]
 refine walN X0 hx hby d19_0 rfl rfl ?_
 refine wgf X0 hx hZ hown hw 118 rfl e0 Pa0 hby d19_1 ?_
 intro T667 X667 e667
 refine wasN X667 hx hby d19_4 (l' := #[cr b652, .val .null, cu, cu, cu, cu, cu, cu, cu, cu, cu, cu, cu, cu]) rfl rfl ?_
 refine walN X667 hx hby d19_5 rfl rfl ?_
 refine wnn X667 hx hby d19_6 ?_
 refine wic X667 hx hby d19_9 ?_
 refine wgo (pc := 10) (pc' := 15) X667 hx hby d19_10 ?_
 refine wstN X667 hx hby d19_15 (l' := #[cr b652, .val .null, ci 0, cu, cu, cu, cu, cu, cu, cu, cu, cu, cu, cu]) rfl ?_
 refine walN X667 hx hby d19_16 rfl rfl ?_
 refine wgf X667 hx hZ hown hw 125 rfl e667 Pa1 hby d19_17 ?_
 intro T668 X668 e668
 refine wstN X668 hx hby d19_20 (l' := #[cr b652, .val .null, ci 0, ci 0, cu, cu, cu, cu, cu, cu, cu, cu, cu, cu]) rfl ?_
 refine wic X668 hx hby d19_21 ?_
 refine wst X668 hx hby d19_22 (l' := #[cr b652, .val .null, ci 0, ci 0, cu, ci 0, cu, cu, cu, cu, cu, cu, cu, cu]) rfl ?_
 refine wilN X668 hx hby d19_24 rfl ?_
 refine wiy (pc := 25) (pc' := 67) X668 hx hby d19_25 ((if0 _ _).trans (flt (by decide : ¬ ((0 : Int32) < (0 : Int32)))).2.2.2) ?_
 refine wilN X668 hx hby d19_67 rfl ?_
 refine wiy (pc := 68) (pc' := 77) X668 hx hby d19_68 ((if0 _ _).trans (flt (by decide : ¬ ((0 : Int32) < (0 : Int32)))).2.2.2) ?_
 refine wbp X668 hx hby d19_77 ?_
 refine wst X668 hx hby d19_79 (l' := #[cr b652, .val .null, ci 0, ci 0, ci 16, ci 0, cu, cu, cu, cu, cu, cu, cu, cu]) rfl ?_
 refine wbp X668 hx hby d19_81 ?_
 refine wst X668 hx hby d19_83 (l' := #[cr b652, .val .null, ci 0, ci 0, ci 16, ci 12, cu, cu, cu, cu, cu, cu, cu, cu]) rfl ?_
 refine wil X668 hx hby d19_85 rfl ?_
 refine wiy (pc := 87) (pc' := 125) X668 hx hby d19_87 ((if0 _ _).trans (feq (by decide : ¬ ((12 : Int32) = (0 : Int32)))).2) ?_
 refine walN X668 hx hby d19_125 rfl rfl ?_
 refine wil X668 hx hby d19_126 rfl ?_
 refine wpf X668 hx hZ hown hw 125 rfl e668 Pa1 Pa2 126 rfl 37 rfl (ty := .int) (by decide) rfl rfl hby d19_128 ?_
 intro T669 h669 X669 e669 W669
 have Fw669 := Pa1.same W669
 have K669 := K0.wr W669 (mi 0 rfl)
 have N669 := Fr.snoc X669 N0 g_b652
 refine wil X669 hx hby d19_131 rfl ?_
 obtain ⟨T670, h670, k670, X670, e670, E670, A670, O670v, st670⟩ := newR X669 hx hZ hown (ow hw 127 rfl) (ow hw 128 rfl) e669 (g := (mkF m 133 #[cr b652, .val .null, ci 0, ci 0, ci 16, ci 12, cu, cu, cu, cu, cu, cu, cu, cu] [(.int 16)])) rfl (hb hby d19_133) rfl (by decide) (cap := 16) (by decide) (by decide) (by decide) (by decide)
 obtain ⟨b670, g670⟩ : ∃ z, z = h669.size := ⟨_, rfl⟩
 rw [← g670] at A670 st670
 refine Ends.go st670 ?_
 have sz_b670 : h0.size ≤ b670 := Nat.le_trans K669.1 (Nat.le_of_eq g670.symm)
 have K670 := K669.ext E670
 have V_b670 : Arv Z h670 b670 k670 (.object cHN) (16 : Int32) nN16 .null := (Arv.new A670 (by decide)).pad (pad_rep [] .null 16)
 refine was X670 hx hby d19_136 (l' := #[cr b652, .val .null, ci 0, ci 0, ci 16, ci 12, cr b670, cu, cu, cu, cu, cu, cu, cu]) rfl rfl ?_
 show Ends _ _ _ _ T670 (mkF m 138 #[cr b652, .val .null, ci 0, ci 0, ci 16, ci 12, cr b670, cu, cu, cu, cu, cu, cu, cu] []) _ _ _
 refine walN X670 hx hby d19_138 rfl rfl ?_
 refine wal X670 hx hby d19_139 rfl rfl ?_
 have c671 := (Pa0.other W669 (sll hw 119 rfl 126 rfl)).ext E670
 refine wpf X670 hx hZ hown hw 118 rfl e670 c671 ((Pa2.wr W669).ext E670) 119 rfl 37 rfl (ty := (.array (.object cHN))) (by decide) rfl rfl hby d19_141 ?_
 intro T672 h672 X672 e672 W672
 have Fw672 := c671.same W672
 have K672 := K670.wr W672 (mi 0 rfl)
 have N672 := Fr.snoc X672 N669 g_b652
 refine walN X672 hx hby d19_144 rfl rfl ?_
 refine wuy (pc := 145) (pc' := 353) X672 hx hby d19_145 ?_
 refine wal X672 hx hby d19_353 rfl rfl ?_
 refine Ends.ret X672 hx hns (t := (.array (.object cHN))) hrt rfl (Or.inr (Or.inr (Or.inr (Or.inr ⟨rfl, rfl, rfl⟩)))) (hb hby d19_355) (by decide) (by decide) ?_
 rw [e672]
 have c673 := ((Pa3.other W669 (sfl hw 57 rfl 126 rfl)).ext E670).other W672 (sfl hw 57 rfl 119 rfl)
 have c674 := ((Pa4.other W669 (sll hw 59 rfl 126 rfl)).ext E670).other W672 (sll hw 59 rfl 119 rfl)
 have c675 := ((Pa5.other W669 (sfl hw 61 rfl 126 rfl)).ext E670).other W672 (sfl hw 61 rfl 119 rfl)
 have c676 := ((Pa6.other W669 (sll hw 163 rfl 126 rfl)).ext E670).other W672 (sll hw 163 rfl 119 rfl)
 have c677 := ((Pa7.other W669 (sll hw 165 rfl 126 rfl)).ext E670).other W672 (sll hw 165 rfl 119 rfl)
 have c678 := ((Pa8.other W669 (sll hw 167 rfl 126 rfl)).ext E670).other W672 (sll hw 167 rfl 119 rfl)
 have c679 := ((Pa9.other W669 (sll hw 169 rfl 126 rfl)).ext E670).other W672 (sll hw 169 rfl 119 rfl)
 have c680 := ((Pa10.other W669 (sll hw 213 rfl 126 rfl)).ext E670).other W672 (sll hw 213 rfl 119 rfl)
 have c681 := (Fw669.ext E670).other W672 (sll hw 126 rfl 119 rfl)
 have c682 := V_b670.other W672 (Ne.symm (Nat.ne_of_lt (Nat.lt_of_lt_of_le Pa0.lt sz_b670)))
 exact ⟨b670, k670, rfl, N672, K672, sz_b670, Fw672, c681, c682, O670v, c673, c674, c675, c676, c677, c678, c679, c680⟩

theorem d22_0 : decode B25_ 0 = .ok (.aload_n 0, 1) := by decide +kernel
theorem d22_1 : decode B25_ 1 = .ok (.invokespecial 1, 3) := by decide +kernel
theorem d22_4 : decode B25_ 4 = .ok (.aload_n 0, 1) := by decide +kernel
theorem d22_5 : decode B25_ 5 = .ok (.iload_n 1, 1) := by decide +kernel
theorem d22_6 : decode B25_ 6 = .ok (.putfield 7, 3) := by decide +kernel
theorem d22_9 : decode B25_ 9 = .ok (.aload_n 0, 1) := by decide +kernel
theorem d22_10 : decode B25_ 10 = .ok (.aload_n 2, 1) := by decide +kernel
theorem d22_11 : decode B25_ 11 = .ok (.putfield 13, 3) := by decide +kernel
theorem d22_14 : decode B25_ 14 = .ok (.aload_n 0, 1) := by decide +kernel
theorem d22_15 : decode B25_ 15 = .ok (.aload_n 3, 1) := by decide +kernel
theorem d22_16 : decode B25_ 16 = .ok (.putfield 17, 3) := by decide +kernel
theorem d22_19 : decode B25_ 19 = .ok (.aload_n 0, 1) := by decide +kernel
theorem d22_20 : decode B25_ 20 = .ok (.aload 4, 2) := by decide +kernel
theorem d22_22 : decode B25_ 22 = .ok (.putfield 20, 3) := by decide +kernel
theorem d22_25 : decode B25_ 25 = .ok (.return_, 1) := by decide +kernel
theorem pn22 : plainName "java/util/HashMap$Node" = true := by first | (simp [plainName, overriddenIn]; done) | decide +kernel
theorem pdx_16 : parseMethodDescriptor "()[Ljava/util/HashMap$Node;" = some ⟨[], some (.array (.object "java/util/HashMap$Node"))⟩ := by decide +kernel
theorem ef22_rirrn (m : MethodId) (x0 : Addr) (x1 : Int32) (x2 : Addr) (x3 : Addr) : entryFrame m #[(.ref x0), (.int x1), (.ref x2), (.ref x3), .null] 5 = mkF m 0 #[.val (.ref x0), .val (.int x1), .val (.ref x2), .val (.ref x3), .val .null] [] := by first | (simp [entryFrame, mkF, argsToLocals, Value.category]; done) | rfl
theorem rx22_691 (l : Launch) (Z : State) (a0 : Array Value) (hw : HW a0 Z) (ws : List Jvm.Cond) (n0 : Nat) (h0 : Heap) (O0 : Old Z n0 h0) (G1 : Int32) (w_EMPTY : Addr) (GF : GlobF Z G1 w_EMPTY) (b689 : Addr) (r663 : Int32) (b606 : Addr) (Pa0 : Exa Z h0 b689 cLE) (Pa1 : Fld Z h0 b689 cHN "hash" "I" (.int 0)) (Pa2 : f24_ Z h0 b689 .null) (Pa3 : f25_ Z h0 b689 .null) (Pa4 : f26_ Z h0 b689 .null) (Pa5 : f27_ Z h0 b689 .null) (g_b689 : n0 ≤ b689) :
  Meets1 l ym23 B25_ 5 none ws (mkR 1 0 0 12) #[(.ref b689), (.int r663), (.ref b606), (.ref w_EMPTY), .null] Z h0 (fun v h L => v = none ∧ Fr n0 L ∧ Keep h0 h [b689] ∧ Fld Z h b689 cHN "hash" "I" (.int r663) ∧ f24_ Z h b689 (.ref b606) ∧ f25_ Z h b689 (.ref w_EMPTY) ∧ f26_ Z h b689 .null ∧ f27_ Z h b689 .null) := by
 refine own_start n0 (plainFor_of_name pn22) (fun m => ef22_rirrn m b689 r663 b606 w_EMPTY) ?_
 intro p e s m below meth c s₁ hns hrt hZ hx hby hml hown hnm X0 e0 N0
 obtain ⟨SCS, P5, S_EMPTY, E_EMPTY⟩ := id GF
 have K0 := Keep.refl h0 [b689]
 show Ends _ _ _ _ s₁ (mkF m 0 #[cr b689, ci r663, cr b606, cr w_EMPTY, .val .null] []) _ _ _
 refine walN X0 hx hby d22_0 rfl rfl ?_
 obtain ⟨T692, X692, e692, st692⟩ := initO X0 hx hZ hown (ow hw 148 rfl) (ow hw 23 rfl) (ow hw 24 rfl) e0 (g := (mkF m 1 #[cr b689, ci r663, cr b606, cr w_EMPTY, .val .null] [(.ref b689)])) rfl (by rw [hml]; rfl) rfl (hb hby d22_1) (by decide) (W := 0) (own_w rfl) (by decide)
 refine Ends.go st692 ?_
 refine walN X692 hx hby d22_4 rfl rfl ?_
 refine wilN X692 hx hby d22_5 rfl ?_
 obtain ⟨T693, h693, X693, e693, W693, st693⟩ := putF X692 hx hZ hown (host := "") (Or.inl (ow hw 149 rfl)) Via.refl e692 Pa1 Pa0 (Or.inr ⟨(ow hw 150 rfl), rfl, hnm⟩) (ow hw 136 rfl) (ty := .int) (by decide) rfl rfl (g := (mkF m 6 #[cr b689, ci r663, cr b606, cr w_EMPTY, .val .null] [(.int r663), (.ref b689)])) rfl rfl (hb hby d22_6)
 refine Ends.go st693 ?_
 have Fw693 := Pa1.same W693
 have K693 := K0.wr W693 (mi 0 rfl)
 have N693 := Fr.snoc X693 N0 g_b689
 refine walN X693 hx hby d22_9 rfl rfl ?_
 refine walN X693 hx hby d22_10 rfl rfl ?_
 have c694 := Pa2.other W693 (sff hw 152 rfl 150 rfl)
 obtain ⟨T695, h695, X695, e695, W695, st695⟩ := putF X693 hx hZ hown (host := "") (Or.inl (ow hw 151 rfl)) Via.refl e693 c694 (Pa0.wr W693) (Or.inr ⟨(ow hw 152 rfl), rfl, hnm⟩) (ow hw 136 rfl) (ty := (.object qs26)) (by decide) rfl rfl (g := (mkF m 11 #[cr b689, ci r663, cr b606, cr w_EMPTY, .val .null] [(.ref b606), (.ref b689)])) rfl rfl (hb hby d22_11)
 refine Ends.go st695 ?_
 have Fw695 := c694.same W695
 have K695 := K693.wr W695 (mi 0 rfl)
 have N695 := Fr.snoc X695 N693 g_b689
 refine walN X695 hx hby d22_14 rfl rfl ?_
 refine walN X695 hx hby d22_15 rfl rfl ?_
 have c696 := (Pa3.other W693 (slf hw 154 rfl 150 rfl)).other W695 (slf hw 154 rfl 152 rfl)
 refine wpf X695 hx hZ hown hw 153 rfl e695 c696 ((Pa0.wr W693).wr W695) 154 rfl 136 rfl (ty := (.object qs26)) (by decide) rfl rfl hby d22_16 ?_
 intro T697 h697 X697 e697 W697
 have Fw697 := c696.same W697
 have K697 := K695.wr W697 (mi 0 rfl)
 have N697 := Fr.snoc X697 N695 g_b689
 refine walN X697 hx hby d22_19 rfl rfl ?_
 refine wal X697 hx hby d22_20 rfl rfl ?_
 have c698 := ((Pa4.other W693 (slf hw 156 rfl 150 rfl)).other W695 (slf hw 156 rfl 152 rfl)).other W697 (sll hw 156 rfl 154 rfl)
 refine wpf X697 hx hZ hown hw 155 rfl e697 c698 (((Pa0.wr W693).wr W695).wr W697) 156 rfl 136 rfl (ty := (.object cHN)) (by decide) rfl rfl hby d22_22 ?_
 intro T699 h699 X699 e699 W699
 have Fw699 := c698.same W699
 have K699 := K697.wr W699 (mi 0 rfl)
 have N699 := Fr.snoc X699 N697 g_b689
 refine Ends.retV X699 hx hns hrt (hb hby d22_25) (by decide) (by decide) ?_
 rw [e699]
 have c700 := (((Pa5.other W693 (slf hw 303 rfl 150 rfl)).other W695 (slf hw 303 rfl 152 rfl)).other W697 (sll hw 303 rfl 154 rfl)).other W699 (sll hw 303 rfl 156 rfl)
 have c701 := ((Fw693.other W695 (sff hw 150 rfl 152 rfl)).other W697 (sfl hw 150 rfl 154 rfl)).other W699 (sfl hw 150 rfl 156 rfl)
 have c702 := (Fw695.other W697 (sfl hw 152 rfl 154 rfl)).other W699 (sfl hw 152 rfl 156 rfl)
 have c703 := Fw697.other W699 (sll hw 154 rfl 156 rfl)
 exact ⟨rfl, N699, K699, c701, c702, c703, Fw699, c700⟩

theorem d21_0 : decode B29_ 0 = .ok (.aload_n 0, 1) := by decide +kernel
theorem d21_1 : decode B29_ 1 = .ok (.iload_n 1, 1) := by decide +kernel
theorem d21_2 : decode B29_ 2 = .ok (.aload_n 2, 1) := by decide +kernel
theorem d21_3 : decode B29_ 3 = .ok (.aload_n 3, 1) := by decide +kernel
theorem d21_4 : decode B29_ 4 = .ok (.aload 4, 2) := by decide +kernel
theorem d21_6 : decode B29_ 6 = .ok (.invokespecial 1, 3) := by decide +kernel
theorem d21_9 : decode B29_ 9 = .ok (.return_, 1) := by decide +kernel
theorem pn21 : plainName "java/util/LinkedHashMap$Entry" = true := by first | (simp [plainName, overriddenIn]; done) | decide +kernel
theorem pdx_17 : parseMethodDescriptor "(ILjava/lang/Object;Ljava/lang/Object;Ljava/util/HashMap$Node;)V" = some ⟨[.int, (.object "java/lang/Object"), (.object "java/lang/Object"), (.object "java/util/HashMap$Node")], none⟩ := by decide +kernel
theorem ef21_rirrn (m : MethodId) (x0 : Addr) (x1 : Int32) (x2 : Addr) (x3 : Addr) : entryFrame m #[(.ref x0), (.int x1), (.ref x2), (.ref x3), .null] 5 = mkF m 0 #[.val (.ref x0), .val (.int x1), .val (.ref x2), .val (.ref x3), .val .null] [] := by first | (simp [entryFrame, mkF, argsToLocals, Value.category]; done) | rfl
theorem rx21_690 (l : Launch) (Z : State) (a0 : Array Value) (hw : HW a0 Z) (ws : List Jvm.Cond) (n0 : Nat) (h0 : Heap) (O0 : Old Z n0 h0) (G1 : Int32) (w_EMPTY : Addr) (GF : GlobF Z G1 w_EMPTY) (b689 : Addr) (r663 : Int32) (b606 : Addr) (Pa0 : Exa Z h0 b689 cLE) (Pa1 : Fld Z h0 b689 cHN "hash" "I" (.int 0)) (Pa2 : f24_ Z h0 b689 .null) (Pa3 : f25_ Z h0 b689 .null) (Pa4 : f26_ Z h0 b689 .null) (Pa5 : f27_ Z h0 b689 .null) (g_b689 : n0 ≤ b689) :
  Meets1 l ym24 B29_ 5 none ws (mkR 2 0 0 28) #[(.ref b689), (.int r663), (.ref b606), (.ref w_EMPTY), .null] Z h0 (fun v h L => v = none ∧ Fr n0 L ∧ Keep h0 h [b689] ∧ Fld Z h b689 cHN "hash" "I" (.int r663) ∧ f24_ Z h b689 (.ref b606) ∧ f25_ Z h b689 (.ref w_EMPTY) ∧ f26_ Z h b689 .null ∧ f27_ Z h b689 .null) := by
 refine own_start n0 (plainFor_of_name pn21) (fun m => ef21_rirrn m b689 r663 b606 w_EMPTY) ?_
 intro p e s m below meth c s₁ hns hrt hZ hx hby hml hown hnm X0 e0 N0
 obtain ⟨SCS, P5, S_EMPTY, E_EMPTY⟩ := id GF
 have K0 := Keep.refl h0 [b689]
 show Ends _ _ _ _ s₁ (mkF m 0 #[cr b689, ci r663, cr b606, cr w_EMPTY, .val .null] []) _ _ _
 refine walN X0 hx hby d21_0 rfl rfl ?_
 refine wilN X0 hx hby d21_1 rfl ?_
 refine walN X0 hx hby d21_2 rfl rfl ?_
 refine walN X0 hx hby d21_3 rfl rfl ?_
 refine wal X0 hx hby d21_4 rfl rfl ?_
 obtain ⟨_, _, ⟨T704, L704, k704, n704⟩, -, X704, ⟨Lc704, hQ704, l704, y704, z704⟩, st704⟩ := X0.specialBack hx (y := ym23) rfl hown (ov hZ hw 142 rfl) (ov hZ hw 143 rfl) (ov hZ hw 147 rfl) (by decide) (own_backOf (W := 0) (rx22_691 l Z a0 hw [] n0 h0 O0 G1 w_EMPTY GF b689 r663 b606 Pa0 Pa1 Pa2 Pa3 Pa4 Pa5 g_b689) hZ (ow hw 147 rfl) (ow hw 146 rfl) (by decide) (by decide)) (g := (mkF m 6 #[cr b689, ci r663, cr b606, cr w_EMPTY, .val .null] [.null, (.ref w_EMPTY), (.ref b606), (.int r663), (.ref b689)])) rfl (by rw [hml]; rfl) (Steps.refl _) (a := b689) (argsL := [(.int r663), (.ref b606), (.ref w_EMPTY), .null]) (rest := []) (lenOf pdx_17 rfl) rfl (own_w rfl) (hb hby d21_6) (fun _ _ => ⟨rfl, e0, (by decide : 0 + 0 ≤ _), (by decide : 0 + 0 ≤ _)⟩)
 dsimp only [Pt.U, Pt.locs, Pt.cells, Pt.slots] at X704 l704 y704 z704 st704 hQ704
 subst l704 y704 z704
 obtain ⟨rfl, N704q, K704c, Y704_0, Y704_1, Y704_2, Y704_3, Y704_4⟩ := hQ704
 have N704 := Fr.app N0 N704q
 refine Ends.go (fun _ k => st704.trans k) ?_
 obtain ⟨h704, e704⟩ : ∃ z, T704.heap = z := ⟨_, rfl⟩
 rw [e704] at K704c Y704_0 Y704_1 Y704_2 Y704_3 Y704_4
 have K704 := K0.trans K704c (allS (mi 0 rfl) all0)
 refine Ends.retV X704 hx hns hrt (hb hby d21_9) (by decide) (by decide) ?_
 rw [e704]
 exact ⟨rfl, N704, K704, Y704_0, Y704_1, Y704_2, Y704_3, Y704_4⟩

theorem d23_0 : decode B32_ 0 = .ok (.aload_n 0, 1) := by decide +kernel
theorem d23_1 : decode B32_ 1 = .ok (.getfield 1, 3) := by decide +kernel
theorem d23_4 : decode B32_ 4 = .ok (.iconst 1, 1) := by decide +kernel
theorem d23_5 : decode B32_ 5 = .ok (.if_icmp .ne 38, 3) := by decide +kernel
theorem d23_43 : decode B32_ 43 = .ok (.aload_n 0, 1) := by decide +kernel
theorem d23_44 : decode B32_ 44 = .ok (.getfield 11, 3) := by decide +kernel
theorem d23_47 : decode B32_ 47 = .ok (.astore_n 2, 1) := by decide +kernel
theorem d23_48 : decode B32_ 48 = .ok (.aload_n 0, 1) := by decide +kernel
theorem d23_49 : decode B32_ 49 = .ok (.aload_n 1, 1) := by decide +kernel
theorem d23_50 : decode B32_ 50 = .ok (.putfield 11, 3) := by decide +kernel
theorem d23_53 : decode B32_ 53 = .ok (.aload_n 2, 1) := by decide +kernel
theorem d23_54 : decode B32_ 54 = .ok (.ifnonnull 11, 3) := by decide +kernel
theorem d23_57 : decode B32_ 57 = .ok (.aload_n 0, 1) := by decide +kernel
theorem d23_58 : decode B32_ 58 = .ok (.aload_n 1, 1) := by decide +kernel
theorem d23_59 : decode B32_ 59 = .ok (.putfield 7, 3) := by decide +kernel
theorem d23_62 : decode B32_ 62 = .ok (.goto 13, 3) := by decide +kernel
theorem d23_75 : decode B32_ 75 = .ok (.return_, 1) := by decide +kernel
theorem pn23 : plainName "java/util/LinkedHashMap" = true := by first | (simp [plainName, overriddenIn]; done) | decide +kernel
theorem ef23_rr (m : MethodId) (x0 : Addr) (x1 : Addr) : entryFrame m #[(.ref x0), (.ref x1)] 3 = mkF m 0 #[.val (.ref x0), .val (.ref x1), .unset] [] := by first | (simp [entryFrame, mkF, argsToLocals, Value.category]; done) | rfl
theorem rx23_706 (l : Launch) (Z : State) (a0 : Array Value) (hw : HW a0 Z) (ws : List Jvm.Cond) (n0 : Nat) (h0 : Heap) (O0 : Old Z n0 h0)  (b652 : Addr) (b689 : Addr) (b684 : Addr) (Pa0 : f14_ Z h0 b652 (.int 0)) (Pa1 : f18_ Z h0 b652 .null) (Pa2 : Exa Z h0 b652 cLHM) (Pa3 : f19_ Z h0 b652 .null) (Pa4 : f16_ Z h0 b652 (.ref b684)) (Pa5 : f17_ Z h0 b652 (.int 12)) (Pa6 : f13_ Z h0 b652 (.float (1061158912 : UInt32))) (Pa7 : f15_ Z h0 b652 (.int 0)) (Pa8 : f20_ Z h0 b652 (.int 0)) (Pa9 : f21_ Z h0 b652 (.int 0)) (Pa10 : f22_ Z h0 b652 .null) (g_b652 : n0 ≤ b652) :
  Meets1 l ym25 B32_ 3 none ws (mkR 0 0 0 0) #[(.ref b652), (.ref b689)] Z h0 (fun v h L => v = none ∧ Fr n0 L ∧ Keep h0 h [b652] ∧ f14_ Z h b652 (.int 0) ∧ f18_ Z h b652 (.ref b689) ∧ f19_ Z h b652 (.ref b689) ∧ f16_ Z h b652 (.ref b684) ∧ f17_ Z h b652 (.int 12) ∧ f13_ Z h b652 (.float (1061158912 : UInt32)) ∧ f15_ Z h b652 (.int 0) ∧ f20_ Z h b652 (.int 0) ∧ f21_ Z h b652 (.int 0) ∧ f22_ Z h b652 .null) := by
 refine own_start n0 (plainFor_of_name pn23) (fun m => ef23_rr m b652 b689) ?_
 intro p e s m below meth c s₁ hns hrt hZ hx hby hml hown hnm X0 e0 N0
 have K0 := Keep.refl h0 [b652]
 refine walN X0 hx hby d23_0 rfl rfl ?_
 refine wgf X0 hx hZ hown hw 58 rfl e0 Pa0 hby d23_1 ?_
 intro T707 X707 e707
 refine wic X707 hx hby d23_4 ?_
 refine wcy (pc := 5) (pc' := 43) X707 hx hby d23_5 (feq (by decide : ¬ ((0 : Int32) = (1 : Int32)))).2 ?_
 refine walN X707 hx hby d23_43 rfl rfl ?_
 refine wgf X707 hx hZ hown hw 162 rfl e707 Pa1 hby d23_44 ?_
 intro T708 X708 e708
 refine wasN X708 hx hby d23_47 (l' := #[cr b652, cr b689, .val .null]) rfl rfl ?_
 refine walN X708 hx hby d23_48 rfl rfl ?_
 refine walN X708 hx hby d23_49 rfl rfl ?_
 refine wpf X708 hx hZ hown hw 162 rfl e708 Pa1 Pa2 163 rfl 37 rfl (ty := (.object cLE)) (by decide) rfl rfl hby d23_50 ?_
 intro T709 h709 X709 e709 W709
 have Fw709 := Pa1.same W709
 have K709 := K0.wr W709 (mi 0 rfl)
 have N709 := Fr.snoc X709 N0 g_b652
 refine walN X709 hx hby d23_53 rfl rfl ?_
 refine wnn X709 hx hby d23_54 ?_
 refine walN X709 hx hby d23_57 rfl rfl ?_
 refine walN X709 hx hby d23_58 rfl rfl ?_
 have c710 := Pa3.other W709 (sll hw 165 rfl 163 rfl)
 refine wpf X709 hx hZ hown hw 164 rfl e709 c710 (Pa2.wr W709) 165 rfl 37 rfl (ty := (.object cLE)) (by decide) rfl rfl hby d23_59 ?_
 intro T711 h711 X711 e711 W711
 have Fw711 := c710.same W711
 have K711 := K709.wr W711 (mi 0 rfl)
 have N711 := Fr.snoc X711 N709 g_b652
 refine wgo (pc := 62) (pc' := 75) X711 hx hby d23_62 ?_
 refine Ends.retV X711 hx hns hrt (hb hby d23_75) (by decide) (by decide) ?_
 rw [e711]
 have c712 := (Pa4.other W709 (sll hw 119 rfl 163 rfl)).other W711 (sll hw 119 rfl 165 rfl)
 have c713 := (Pa5.other W709 (sll hw 126 rfl 163 rfl)).other W711 (sll hw 126 rfl 165 rfl)
 have c714 := (Pa6.other W709 (sfl hw 57 rfl 163 rfl)).other W711 (sfl hw 57 rfl 165 rfl)
 have c715 := (Pa7.other W709 (sfl hw 61 rfl 163 rfl)).other W711 (sfl hw 61 rfl 165 rfl)
 have c716 := (Pa8.other W709 (sll hw 167 rfl 163 rfl)).other W711 (sll hw 167 rfl 165 rfl)
 have c717 := (Pa9.other W709 (sll hw 169 rfl 163 rfl)).other W711 (sll hw 169 rfl 165 rfl)
 have c718 := (Pa10.other W709 (sll hw 213 rfl 163 rfl)).other W711 (sll hw 213 rfl 165 rfl)
 have c719 := (Pa0.other W709 (sll hw 59 rfl 163 rfl)).other W711 (sll hw 59 rfl 165 rfl)
 have c720 := Fw709.other W711 (sll hw 163 rfl 165 rfl)
 exact ⟨rfl, N711, K711, c719, c720, Fw711, c712, c713, c714, c715, c716, c717, c718⟩

theorem d20_0 : decode B36_ 0 = .ok (.new 15, 3) := by decide +kernel
theorem d20_3 : decode B36_ 3 = .ok (.dup, 1) := by decide +kernel
theorem d20_4 : decode B36_ 4 = .ok (.iload_n 1, 1) := by decide +kernel
theorem d20_5 : decode B36_ 5 = .ok (.aload_n 2, 1) := by decide +kernel
theorem d20_6 : decode B36_ 6 = .ok (.aload_n 3, 1) := by decide +kernel
theorem d20_7 : decode B36_ 7 = .ok (.aload 4, 2) := by decide +kernel
theorem d20_9 : decode B36_ 9 = .ok (.invokespecial 28, 3) := by decide +kernel
theorem d20_12 : decode B36_ 12 = .ok (.astore 5, 2) := by decide +kernel
theorem d20_14 : decode B36_ 14 = .ok (.aload_n 0, 1) := by decide +kernel
theorem d20_15 : decode B36_ 15 = .ok (.aload 5, 2) := by decide +kernel
theorem d20_17 : decode B36_ 17 = .ok (.invokevirtual 32, 3) := by decide +kernel
theorem d20_20 : decode B36_ 20 = .ok (.aload 5, 2) := by decide +kernel
theorem d20_22 : decode B36_ 22 = .ok (.areturn, 1) := by decide +kernel
theorem pn20 : plainName "java/util/LinkedHashMap" = true := by first | (simp [plainName, overriddenIn]; done) | decide +kernel
theorem pdx_18 : parseMethodDescriptor "(Ljava/util/LinkedHashMap$Entry;)V" = some ⟨[(.object "java/util/LinkedHashMap$Entry")], none⟩ := by decide +kernel
theorem ef20_rirrn (m : MethodId) (x0 : Addr) (x1 : Int32) (x2 : Addr) (x3 : Addr) : entryFrame m #[(.ref x0), (.int x1), (.ref x2), (.ref x3), .null] 6 = mkF m 0 #[.val (.ref x0), .val (.int x1), .val (.ref x2), .val (.ref x3), .val .null, .unset] [] := by first | (simp [entryFrame, mkF, argsToLocals, Value.category]; done) | rfl
theorem rx20_688 (l : Launch) (Z : State) (a0 : Array Value) (hw : HW a0 Z) (ws : List Jvm.Cond) (n0 : Nat) (h0 : Heap) (O0 : Old Z n0 h0) (G1 : Int32) (w_EMPTY : Addr) (GF : GlobF Z G1 w_EMPTY) (b652 : Addr) (r663 : Int32) (b606 : Addr) (b684 : Addr) (Pa0 : f14_ Z h0 b652 (.int 0)) (Pa1 : f18_ Z h0 b652 .null) (Pa2 : Exa Z h0 b652 cLHM) (Pa3 : f19_ Z h0 b652 .null) (Pa4 : f16_ Z h0 b652 (.ref b684)) (Pa5 : f17_ Z h0 b652 (.int 12)) (Pa6 : f13_ Z h0 b652 (.float (1061158912 : UInt32))) (Pa7 : f15_ Z h0 b652 (.int 0)) (Pa8 : f20_ Z h0 b652 (.int 0)) (Pa9 : f21_ Z h0 b652 (.int 0)) (Pa10 : f22_ Z h0 b652 .null) (g_b652 : n0 ≤ b652) :
  Meets1 l ym26 B36_ 6 (some (.object cHN)) ws (mkR 3 1 6 45) #[(.ref b652), (.int r663), (.ref b606), (.ref w_EMPTY), .null] Z h0 (fun v h L => ∃ (b689 : Addr), v = some (.ref b689) ∧ Fr n0 L ∧ Keep h0 h [b652] ∧ h0.size ≤ b689 ∧ Exa Z h b689 cLE ∧ Fld Z h b689 cHN "hash" "I" (.int r663) ∧ f24_ Z h b689 (.ref b606) ∧ f25_ Z h b689 (.ref w_EMPTY) ∧ f26_ Z h b689 .null ∧ f27_ Z h b689 .null ∧ f14_ Z h b652 (.int 0) ∧ f18_ Z h b652 (.ref b689) ∧ f19_ Z h b652 (.ref b689) ∧ f16_ Z h b652 (.ref b684) ∧ f17_ Z h b652 (.int 12) ∧ f13_ Z h b652 (.float (1061158912 : UInt32)) ∧ f15_ Z h b652 (.int 0) ∧ f20_ Z h b652 (.int 0) ∧ f21_ Z h b652 (.int 0) ∧ f22_ Z h b652 .null) := by
 refine own_start n0 (plainFor_of_name pn20) (fun m => ef20_rirrn m b652 r663 b606 w_EMPTY) ?_
 intro p e s m below meth c s₁ hns hrt hZ hx hby hml hown hnm X0 e0 N0
 obtain ⟨SCS, P5, S_EMPTY, E_EMPTY⟩ := id GF
 have K0 := Keep.refl h0 [b652]
 show Ends _ _ _ _ s₁ (mkF m 0 #[cr b652, ci r663, cr b606, cr w_EMPTY, .val .null, cu] []) _ _ _
 obtain ⟨T689, h689, X689, e689, E689, A689, D689, -, st689⟩ := newO X0 hx hZ hown (ow hw 135 rfl) (ow hw 136 rfl) (ow hw 137 rfl) e0 (g := (mkF m 0 #[cr b652, ci r663, cr b606, cr w_EMPTY, .val .null, cu] [])) rfl (hb hby d20_0) (by decide) (by decide)
 obtain ⟨b689, g689⟩ : ∃ z, z = h0.size := ⟨_, rfl⟩
 rw [← g689] at A689 D689 st689
 refine Ends.go st689 ?_
 have g_b689 : n0 ≤ b689 := Nat.le_trans (own_old_le O0) (Nat.le_of_eq g689.symm)
 have sz_b689 : h0.size ≤ b689 := Nat.le_trans K0.1 (Nat.le_of_eq g689.symm)
 have K689 := K0.ext E689
 have O689 := O0.ext E689
 have F_hash_b689 : Fld Z h689 b689 cHN "hash" "I" (.int 0) := D689 (Or.inr (ow hw 150 rfl)) (ty := .int) (by decide)
 have F_key_b689 : f24_ Z h689 b689 .null := D689 (Or.inr (ow hw 152 rfl)) (ty := (.object qs26)) (by decide)
 have F_value_b689 : f25_ Z h689 b689 .null := D689 (Or.inl (ow hw 154 rfl)) (ty := (.object qs26)) (by decide)
 have F_next_b689 : f26_ Z h689 b689 .null := D689 (Or.inl (ow hw 156 rfl)) (ty := (.object cHN)) (by decide)
 have F_after_b689 : f27_ Z h689 b689 .null := D689 (Or.inl (ow hw 303 rfl)) (ty := (.object cLE)) (by decide)
 refine wdu X689 hx hby d20_3 rfl ?_
 refine wilN X689 hx hby d20_4 rfl ?_
 refine walN X689 hx hby d20_5 rfl rfl ?_
 refine walN X689 hx hby d20_6 rfl rfl ?_
 refine wal X689 hx hby d20_7 rfl rfl ?_
 obtain ⟨_, _, ⟨T705, L705, k705, n705⟩, -, X705, ⟨Lc705, hQ705, l705, y705, z705⟩, st705⟩ := X689.specialBack hx (y := ym24) rfl hown (ov hZ hw 138 rfl) (ov hZ hw 139 rfl) (ov hZ hw 141 rfl) (by decide) (own_backOf (W := 1) (rx21_690 l Z a0 hw [] n0 h689 O689 G1 w_EMPTY GF b689 r663 b606 A689 F_hash_b689 F_key_b689 F_value_b689 F_next_b689 F_after_b689 g_b689) hZ (ow hw 141 rfl) (ow hw 137 rfl) (by decide) (by decide)) (g := (mkF m 9 #[cr b652, ci r663, cr b606, cr w_EMPTY, .val .null, cu] [.null, (.ref w_EMPTY), (.ref b606), (.int r663), (.ref b689), (.ref b689)])) rfl (by rw [hml]; rfl) (Steps.refl _) (a := b689) (argsL := [(.int r663), (.ref b606), (.ref w_EMPTY), .null]) (rest := [(.ref b689)]) (lenOf pdx_17 rfl) rfl (own_w rfl) (hb hby d20_9) (fun _ _ => ⟨rfl, e689, (by decide : 1 + 0 ≤ _), (by decide : 6 + 0 ≤ _)⟩)
 dsimp only [Pt.U, Pt.locs, Pt.cells, Pt.slots] at X705 l705 y705 z705 st705 hQ705
 subst l705 y705 z705
 obtain ⟨rfl, N705q, K705c, Y705_0, Y705_1, Y705_2, Y705_3, Y705_4⟩ := hQ705
 have N705 := Fr.app N0 N705q
 refine Ends.go (fun _ k => st705.trans k) ?_
 obtain ⟨h705, e705⟩ : ∃ z, T705.heap = z := ⟨_, rfl⟩
 rw [e705] at K705c Y705_0 Y705_1 Y705_2 Y705_3 Y705_4
 have K705 := K689.trans K705c (allS (Or.inr sz_b689) all0)
 have O705 := O689.keep K705c (allS g_b689 all0)
 refine was X705 hx hby d20_12 (l' := #[cr b652, ci r663, cr b606, cr w_EMPTY, .val .null, cr b689]) rfl rfl ?_
 refine walN X705 hx hby d20_14 rfl rfl ?_
 refine wal X705 hx hby d20_15 rfl rfl ?_
 have c721 := (Pa0.ext E689).keep K705c (ninS (Nat.ne_of_lt (Nat.lt_of_lt_of_le Pa0.lt sz_b689)) nin0)
 have c722 := (Pa1.ext E689).keep K705c (ninS (Nat.ne_of_lt (Nat.lt_of_lt_of_le Pa0.lt sz_b689)) nin0)
 have c723 := (Pa3.ext E689).keep K705c (ninS (Nat.ne_of_lt (Nat.lt_of_lt_of_le Pa0.lt sz_b689)) nin0)
 have c724 := (Pa4.ext E689).keep K705c (ninS (Nat.ne_of_lt (Nat.lt_of_lt_of_le Pa0.lt sz_b689)) nin0)
 have c725 := (Pa5.ext E689).keep K705c (ninS (Nat.ne_of_lt (Nat.lt_of_lt_of_le Pa0.lt sz_b689)) nin0)
 have c726 := (Pa6.ext E689).keep K705c (ninS (Nat.ne_of_lt (Nat.lt_of_lt_of_le Pa0.lt sz_b689)) nin0)
 have c727 := (Pa7.ext E689).keep K705c (ninS (Nat.ne_of_lt (Nat.lt_of_lt_of_le Pa0.lt sz_b689)) nin0)
 have c728 := (Pa8.ext E689).keep K705c (ninS (Nat.ne_of_lt (Nat.lt_of_lt_of_le Pa0.lt sz_b689)) nin0)
 have c729 := (Pa9.ext E689).keep K705c (ninS (Nat.ne_of_lt (Nat.lt_of_lt_of_le Pa0.lt sz_b689)) nin0)
 have c730 := (Pa10.ext E689).keep K705c (ninS (Nat.ne_of_lt (Nat.lt_of_lt_of_le Pa0.lt sz_b689)) nin0)
 obtain ⟨cq731, q731, q731'⟩ := ((Pa2.ext E689).keep K705c).cell
 obtain ⟨_, _, ⟨T731, L731, k731, n731⟩, -, X731, ⟨Lc731, hQ731, l731, y731, z731⟩, st731⟩ := X705.privateBack hx (y := ym25) hown (ov hZ hw 157 rfl) (ov hZ hw 158 rfl) (ov hZ hw 160 rfl) (Cond.privateMethod_at (mvP hZ (ow hw 159 rfl) (args := #[]))) (ov hZ hw 161 rfl) (by decide) (own_backOf (W := 0) (rx23_706 l Z a0 hw [] n0 h705 O705  b652 b689 b684 c721 c722 ((Pa2.ext E689).keep K705c) c723 c724 c725 c726 c727 c728 c729 c730 g_b652) hZ (ow hw 161 rfl) (ow hw 38 rfl) (by decide) (by decide)) (g := (mkF m 17 #[cr b652, ci r663, cr b606, cr w_EMPTY, .val .null, cr b689] [(.ref b689), (.ref b652)])) rfl (by rw [hml]; rfl) (Steps.refl _) (a := b652) (by rw [e705]; exact q731) q731' (argsL := [(.ref b689)]) (rest := []) (lenOf pdx_18 rfl) rfl (own_w rfl) (hb hby d20_17) (fun _ _ => ⟨rfl, e705, (by decide : 1 + 0 ≤ _), (by decide : 6 + 0 ≤ _)⟩)
 dsimp only [Pt.U, Pt.locs, Pt.cells, Pt.slots] at X731 l731 y731 z731 st731 hQ731
 subst l731 y731 z731
 obtain ⟨rfl, N731q, K731c, Y731_0, Y731_1, Y731_2, Y731_3, Y731_4, Y731_5, Y731_6, Y731_7, Y731_8, Y731_9⟩ := hQ731
 have N731 := Fr.app N705 N731q
 refine Ends.go (fun _ k => st731.trans k) ?_
 obtain ⟨h731, e731⟩ : ∃ z, T731.heap = z := ⟨_, rfl⟩
 rw [e731] at K731c Y731_0 Y731_1 Y731_2 Y731_3 Y731_4 Y731_5 Y731_6 Y731_7 Y731_8 Y731_9
 have K731 := K705.trans K731c (allS (mi 0 rfl) all0)
 refine wal X731 hx hby d20_20 rfl rfl ?_
 refine Ends.ret X731 hx hns (t := (.object cHN)) hrt rfl (Or.inr (Or.inr (Or.inr (Or.inr ⟨rfl, rfl, rfl⟩)))) (hb hby d20_22) (by decide) (by decide) ?_
 rw [e731]
 have c732 := Y705_0.keep K731c (ninS (Ne.symm (Nat.ne_of_lt (Nat.lt_of_lt_of_le Pa0.lt sz_b689))) nin0)
 have c733 := Y705_1.keep K731c (ninS (Ne.symm (Nat.ne_of_lt (Nat.lt_of_lt_of_le Pa0.lt sz_b689))) nin0)
 have c734 := Y705_2.keep K731c (ninS (Ne.symm (Nat.ne_of_lt (Nat.lt_of_lt_of_le Pa0.lt sz_b689))) nin0)
 have c735 := Y705_3.keep K731c (ninS (Ne.symm (Nat.ne_of_lt (Nat.lt_of_lt_of_le Pa0.lt sz_b689))) nin0)
 have c736 := Y705_4.keep K731c (ninS (Ne.symm (Nat.ne_of_lt (Nat.lt_of_lt_of_le Pa0.lt sz_b689))) nin0)
 exact ⟨b689, rfl, N731, K731, sz_b689, ((A689.keep K705c).keep K731c), c732, c733, c734, c735, c736, Y731_0, Y731_1, Y731_2, Y731_3, Y731_4, Y731_5, Y731_6, Y731_7, Y731_8, Y731_9⟩

theorem d25_0 : decode B33_ 0 = .ok (.iconst 0, 1) := by decide +kernel
theorem d25_1 : decode B33_ 1 = .ok (.ireturn, 1) := by decide +kernel
theorem pn25 : plainName "java/util/LinkedHashMap" = true := by first | (simp [plainName, overriddenIn]; done) | decide +kernel
theorem pdx_19 : parseMethodDescriptor "(ILjava/lang/Object;Ljava/lang/Object;Ljava/util/HashMap$Node;)Ljava/util/HashMap$Node;" = some ⟨[.int, (.object "java/lang/Object"), (.object "java/lang/Object"), (.object "java/util/HashMap$Node")], some (.object "java/util/HashMap$Node")⟩ := by decide +kernel
theorem ef25_rr (m : MethodId) (x0 : Addr) (x1 : Addr) : entryFrame m #[(.ref x0), (.ref x1)] 2 = mkF m 0 #[.val (.ref x0), .val (.ref x1)] [] := by first | (simp [entryFrame, mkF, argsToLocals, Value.category]; done) | rfl
theorem rx25_751 (l : Launch) (Z : State) (a0 : Array Value) (hw : HW a0 Z) (ws : List Jvm.Cond) (n0 : Nat) (h0 : Heap) (O0 : Old Z n0 h0)  (b652 : Addr) (b738 : Addr)  :
  Meets1 l ym27 B33_ 2 (some .boolean) ws (mkR 0 0 0 0) #[(.ref b652), (.ref b738)] Z h0 (fun v h L => v = some (.int 0) ∧ Fr n0 L ∧ Keep h0 h []) := by
 refine own_start n0 (plainFor_of_name pn25) (fun m => ef25_rr m b652 b738) ?_
 intro p e s m below meth c s₁ hns hrt hZ hx hby hml hown hnm X0 e0 N0
 have K0 := Keep.refl h0 []
 refine wic X0 hx hby d25_0 ?_
 refine Ends.retZ X0 hx hns (t := .boolean) hrt (by simp) (hb hby d25_1) (by decide) (by decide) ?_
 rw [e0]
 exact ⟨rfl, N0, K0⟩

theorem d24_0 : decode B37_ 0 = .ok (.iload_n 1, 1) := by decide +kernel
theorem d24_1 : decode B37_ 1 = .ok (.ifCond .eq 38, 3) := by decide +kernel
theorem d24_4 : decode B37_ 4 = .ok (.aload_n 0, 1) := by decide +kernel
theorem d24_5 : decode B37_ 5 = .ok (.getfield 7, 3) := by decide +kernel
theorem d24_8 : decode B37_ 8 = .ok (.dup, 1) := by decide +kernel
theorem d24_9 : decode B37_ 9 = .ok (.astore_n 2, 1) := by decide +kernel
theorem d24_10 : decode B37_ 10 = .ok (.ifnull 29, 3) := by decide +kernel
theorem d24_13 : decode B37_ 13 = .ok (.aload_n 0, 1) := by decide +kernel
theorem d24_14 : decode B37_ 14 = .ok (.aload_n 2, 1) := by decide +kernel
theorem d24_15 : decode B37_ 15 = .ok (.invokevirtual 53, 3) := by decide +kernel
theorem d24_18 : decode B37_ 18 = .ok (.ifCond .eq 21, 3) := by decide +kernel
theorem d24_39 : decode B37_ 39 = .ok (.return_, 1) := by decide +kernel
theorem pn24 : plainName "java/util/LinkedHashMap" = true := by first | (simp [plainName, overriddenIn]; done) | decide +kernel
theorem pdx_20 : parseMethodDescriptor "(Ljava/util/Map$Entry;)Z" = some ⟨[(.object "java/util/Map$Entry")], some .boolean⟩ := by decide +kernel
theorem ef24_ri (m : MethodId) (x0 : Addr) (x1 : Int32) : entryFrame m #[(.ref x0), (.int x1)] 4 = mkF m 0 #[.val (.ref x0), .val (.int x1), .unset, .unset] [] := by first | (simp [entryFrame, mkF, argsToLocals, Value.category]; done) | rfl
theorem rx24_749 (l : Launch) (Z : State) (a0 : Array Value) (hw : HW a0 Z) (ws : List Jvm.Cond) (n0 : Nat) (h0 : Heap) (O0 : Old Z n0 h0)  (b652 : Addr) (b738 : Addr) (Pa0 : f19_ Z h0 b652 (.ref b738)) (Pa1 : Exa Z h0 b652 cLHM) :
  Meets1 l ym28 B37_ 4 none ws (mkR 1 0 0 13) #[(.ref b652), (.int 1)] Z h0 (fun v h L => v = none ∧ Fr n0 L ∧ Keep h0 h []) := by
 refine own_start n0 (plainFor_of_name pn24) (fun m => ef24_ri m b652 (1 : Int32)) ?_
 intro p e s m below meth c s₁ hns hrt hZ hx hby hml hown hnm X0 e0 N0
 have K0 := Keep.refl h0 []
 refine wilN X0 hx hby d24_0 rfl ?_
 refine win X0 hx hby d24_1 ((if0 _ _).trans (feq (by decide : ¬ ((1 : Int32) = (0 : Int32)))).1) ?_
 refine walN X0 hx hby d24_4 rfl rfl ?_
 refine wgf X0 hx hZ hown hw 164 rfl e0 Pa0 hby d24_5 ?_
 intro T750 X750 e750
 refine wdu X750 hx hby d24_8 rfl ?_
 refine wasN X750 hx hby d24_9 (l' := #[cr b652, ci 1, cr b738, cu]) rfl rfl ?_
 refine wun X750 hx hby d24_10 ?_
 refine walN X750 hx hby d24_13 rfl rfl ?_
 refine walN X750 hx hby d24_14 rfl rfl ?_
 refine wvb X750 hx hZ hown hw hml rfl hby d24_15 176 rfl 177 rfl 179 rfl 178 rfl (by decide) e750 Pa1 (rx25_751 l Z a0 hw [] n0 h0 O0  b652 b738 ) 180 rfl 38 rfl (by decide) (by decide) [(.ref b738)] [] pdx_20 rfl rfl rfl (by decide) (by decide) rfl ?_
 intro _ T752 _ X752 hQ752
 obtain ⟨rfl, N752q, K752c⟩ := hQ752
 have N752 := Fr.app N0 N752q
 obtain ⟨h752, e752⟩ : ∃ z, T752.heap = z := ⟨_, rfl⟩
 rw [e752] at K752c
 have K752 := K0.trans K752c all0
 refine wiy (pc := 18) (pc' := 39) X752 hx hby d24_18 ((if0 _ _).trans (teq (by decide : (0 : Int32) = (0 : Int32))).1) ?_
 refine Ends.retV X752 hx hns hrt (hb hby d24_39) (by decide) (by decide) ?_
 rw [e752]
 exact ⟨rfl, N752, K752⟩

theorem d18_0 : decode B21_ 0 = .ok (.aload_n 0, 1) := by decide +kernel
theorem d18_1 : decode B21_ 1 = .ok (.getfield 105, 3) := by decide +kernel
theorem d18_4 : decode B21_ 4 = .ok (.dup, 1) := by decide +kernel
theorem d18_5 : decode B21_ 5 = .ok (.astore 6, 2) := by decide +kernel
theorem d18_7 : decode B21_ 7 = .ok (.ifnull 12, 3) := by decide +kernel
theorem d18_19 : decode B21_ 19 = .ok (.aload_n 0, 1) := by decide +kernel
theorem d18_20 : decode B21_ 20 = .ok (.invokevirtual 117, 3) := by decide +kernel
theorem d18_23 : decode B21_ 23 = .ok (.dup, 1) := by decide +kernel
theorem d18_24 : decode B21_ 24 = .ok (.astore 6, 2) := by decide +kernel
theorem d18_26 : decode B21_ 26 = .ok (.arraylength, 1) := by decide +kernel
theorem d18_27 : decode B21_ 27 = .ok (.istore 8, 2) := by decide +kernel
theorem d18_29 : decode B21_ 29 = .ok (.aload 6, 2) := by decide +kernel
theorem d18_31 : decode B21_ 31 = .ok (.iload 8, 2) := by decide +kernel
theorem d18_33 : decode B21_ 33 = .ok (.iconst 1, 1) := by decide +kernel
theorem d18_34 : decode B21_ 34 = .ok (.isub, 1) := by decide +kernel
theorem d18_35 : decode B21_ 35 = .ok (.iload_n 1, 1) := by decide +kernel
theorem d18_36 : decode B21_ 36 = .ok (.iand, 1) := by decide +kernel
theorem d18_37 : decode B21_ 37 = .ok (.dup, 1) := by decide +kernel
theorem d18_38 : decode B21_ 38 = .ok (.istore 9, 2) := by decide +kernel
theorem d18_40 : decode B21_ 40 = .ok (.aaload, 1) := by decide +kernel
theorem d18_41 : decode B21_ 41 = .ok (.dup, 1) := by decide +kernel
theorem d18_42 : decode B21_ 42 = .ok (.astore 7, 2) := by decide +kernel
theorem d18_44 : decode B21_ 44 = .ok (.ifnonnull 19, 3) := by decide +kernel
theorem d18_47 : decode B21_ 47 = .ok (.aload 6, 2) := by decide +kernel
theorem d18_49 : decode B21_ 49 = .ok (.iload 9, 2) := by decide +kernel
theorem d18_51 : decode B21_ 51 = .ok (.aload_n 0, 1) := by decide +kernel
theorem d18_52 : decode B21_ 52 = .ok (.iload_n 1, 1) := by decide +kernel
theorem d18_53 : decode B21_ 53 = .ok (.aload_n 2, 1) := by decide +kernel
theorem d18_54 : decode B21_ 54 = .ok (.aload_n 3, 1) := by decide +kernel
theorem d18_55 : decode B21_ 55 = .ok (.aconst_null, 1) := by decide +kernel
theorem d18_56 : decode B21_ 56 = .ok (.invokevirtual 186, 3) := by decide +kernel
theorem d18_59 : decode B21_ 59 = .ok (.aastore, 1) := by decide +kernel
theorem d18_60 : decode B21_ 60 = .ok (.goto 199, 3) := by decide +kernel
theorem d18_259 : decode B21_ 259 = .ok (.aload_n 0, 1) := by decide +kernel
theorem d18_260 : decode B21_ 260 = .ok (.dup, 1) := by decide +kernel
theorem d18_261 : decode B21_ 261 = .ok (.getfield 202, 3) := by decide +kernel
theorem d18_264 : decode B21_ 264 = .ok (.iconst 1, 1) := by decide +kernel
theorem d18_265 : decode B21_ 265 = .ok (.iadd, 1) := by decide +kernel
theorem d18_266 : decode B21_ 266 = .ok (.putfield 202, 3) := by decide +kernel
theorem d18_269 : decode B21_ 269 = .ok (.aload_n 0, 1) := by decide +kernel
theorem d18_270 : decode B21_ 270 = .ok (.dup, 1) := by decide +kernel
theorem d18_271 : decode B21_ 271 = .ok (.getfield 156, 3) := by decide +kernel
theorem d18_274 : decode B21_ 274 = .ok (.iconst 1, 1) := by decide +kernel
theorem d18_275 : decode B21_ 275 = .ok (.iadd, 1) := by decide +kernel
theorem d18_276 : decode B21_ 276 = .ok (.dup_x1, 1) := by decide +kernel
theorem d18_277 : decode B21_ 277 = .ok (.putfield 156, 3) := by decide +kernel
theorem d18_280 : decode B21_ 280 = .ok (.aload_n 0, 1) := by decide +kernel
theorem d18_281 : decode B21_ 281 = .ok (.getfield 88, 3) := by decide +kernel
theorem d18_284 : decode B21_ 284 = .ok (.if_icmp .le 8, 3) := by decide +kernel
theorem d18_292 : decode B21_ 292 = .ok (.aload_n 0, 1) := by decide +kernel
theorem d18_293 : decode B21_ 293 = .ok (.iload 5, 2) := by decide +kernel
theorem d18_295 : decode B21_ 295 = .ok (.invokevirtual 205, 3) := by decide +kernel
theorem d18_298 : decode B21_ 298 = .ok (.aconst_null, 1) := by decide +kernel
theorem d18_299 : decode B21_ 299 = .ok (.areturn, 1) := by decide +kernel
theorem pn18 : plainName "java/util/HashMap" = true := by first | (simp [plainName, overriddenIn]; done) | decide +kernel
theorem pdx_21 : parseMethodDescriptor "(Z)V" = some ⟨[.boolean], none⟩ := by decide +kernel
theorem ef18_rirrii (m : MethodId) (x0 : Addr) (x1 : Int32) (x2 : Addr) (x3 : Addr) (x4 : Int32) (x5 : Int32) : entryFrame m #[(.ref x0), (.int x1), (.ref x2), (.ref x3), (.int x4), (.int x5)] 13 = mkF m 0 #[.val (.ref x0), .val (.int x1), .val (.ref x2), .val (.ref x3), .val (.int x4), .val (.int x5), .unset, .unset, .unset, .unset, .unset, .unset, .unset] [] := by first | (simp [entryFrame, mkF, argsToLocals, Value.category]; done) | rfl
theorem rx18_664 (l : Launch) (Z : State) (a0 : Array Value) (hw : HW a0 Z) (ws : List Jvm.Cond) (n0 : Nat) (h0 : Heap) (O0 : Old Z n0 h0) (G1 : Int32) (w_EMPTY : Addr) (GF : GlobF Z G1 w_EMPTY) (b652 : Addr) (r663 : Int32) (b606 : Addr) (Pa0 : f16_ Z h0 b652 .null) (Pa1 : f17_ Z h0 b652 (.int 0)) (Pa2 : Exa Z h0 b652 cLHM) (Pa3 : f13_ Z h0 b652 (.float (1061158912 : UInt32))) (Pa4 : f14_ Z h0 b652 (.int 0)) (Pa5 : f15_ Z h0 b652 (.int 0)) (Pa6 : f18_ Z h0 b652 .null) (Pa7 : f19_ Z h0 b652 .null) (Pa8 : f20_ Z h0 b652 (.int 0)) (Pa9 : f21_ Z h0 b652 (.int 0)) (Pa10 : f22_ Z h0 b652 .null) (g_b652 : n0 ≤ b652) :
  Meets1 l ym29 B21_ 13 (some (.object qs26)) ws (mkR 4 2 22 64) #[(.ref b652), (.int r663), (.ref b606), (.ref w_EMPTY), (.int 0), (.int 1)] Z h0 (fun v h L => ∃ (b684 : Addr) (b738 : Addr), v = some .null ∧ Fr n0 L ∧ Keep h0 h [b652] ∧ h0.size ≤ b684 ∧ h0.size ≤ b738 ∧ b684 ≠ b738 ∧ Exa Z h b738 cLE ∧ Fld Z h b738 cHN "hash" "I" (.int r663) ∧ f24_ Z h b738 (.ref b606) ∧ f25_ Z h b738 (.ref w_EMPTY) ∧ f26_ Z h b738 .null ∧ f27_ Z h b738 .null ∧ f14_ Z h b652 (.int 0) ∧ f18_ Z h b652 (.ref b738) ∧ f19_ Z h b652 (.ref b738) ∧ f16_ Z h b652 (.ref b684) ∧ f17_ Z h b652 (.int 12) ∧ f13_ Z h b652 (.float (1061158912 : UInt32)) ∧ f15_ Z h b652 (.int 0) ∧ f20_ Z h b652 (.int 1) ∧ f21_ Z h b652 (.int 1) ∧ f22_ Z h b652 .null) := by
 refine own_start n0 (plainFor_of_name pn18) (fun m => ef18_rirrii m b652 r663 b606 w_EMPTY (0 : Int32) (1 : Int32)) ?_
 intro p e s m below meth c s₁ hns hrt hZ hx hby hml hown hnm X0 e0 N0
 obtain ⟨SCS, P5, S_EMPTY, E_EMPTY⟩ := id GF
 have K0 := Keep.refl h0 [b652]
 show Ends _ _ _ _ s₁ (mkF m 0 #[cr b652, ci r663, cr b606, cr w_EMPTY, ci 0, ci 1, cu, cu, cu, cu, cu, cu, cu] []) _ _ _
 refine walN X0 hx hby d18_0 rfl rfl ?_
 refine wgf X0 hx hZ hown hw 118 rfl e0 Pa0 hby d18_1 ?_
 intro T665 X665 e665
 refine wdu X665 hx hby d18_4 rfl ?_
 refine was X665 hx hby d18_5 (l' := #[cr b652, ci r663, cr b606, cr w_EMPTY, ci 0, ci 1, .val .null, cu, cu, cu, cu, cu, cu]) rfl rfl ?_
 refine wuy (pc := 7) (pc' := 19) X665 hx hby d18_7 ?_
 refine walN X665 hx hby d18_19 rfl rfl ?_
 refine wvb X665 hx hZ hown hw hml rfl hby d18_20 120 rfl 121 rfl 123 rfl 122 rfl (by decide) e665 Pa2 (rx19_666 l Z a0 hw [] n0 h0 O0  b652 Pa0 Pa1 Pa2 Pa3 Pa4 Pa5 Pa6 Pa7 Pa8 Pa9 Pa10 g_b652) 124 rfl 46 rfl (by decide) (by decide) [] [] pdx_16 rfl rfl rfl (by decide) (by decide) rfl ?_
 intro _ T683 _ X683 hQ683
 obtain ⟨b684, k685, rfl, N683q, K683c, hb683_b684, Y683_0, Y683_1, Y683_2, Y683_3, Y683_4, Y683_5, Y683_6, Y683_7, Y683_8, Y683_9, Y683_10, Y683_11⟩ := hQ683
 have N683 := Fr.app N0 N683q
 have g_b684 : n0 ≤ b684 := Nat.le_trans (own_old_le O0) hb683_b684
 have sz_b684 : h0.size ≤ b684 := Nat.le_trans K0.1 hb683_b684
 obtain ⟨h683, e683⟩ : ∃ z, T683.heap = z := ⟨_, rfl⟩
 rw [e683] at K683c Y683_0 Y683_1 Y683_2 Y683_4 Y683_5 Y683_6 Y683_7 Y683_8 Y683_9 Y683_10 Y683_11
 have K683 := K0.trans K683c (allS (mi 0 rfl) all0)
 have O683 := O0.keep K683c (allS g_b652 all0)
 refine wdu X683 hx hby d18_23 rfl ?_
 refine was X683 hx hby d18_24 (l' := #[cr b652, ci r663, cr b606, cr w_EMPTY, ci 0, ci 1, cr b684, cu, cu, cu, cu, cu, cu]) rfl rfl ?_
 obtain ⟨cl686, Ar686, q686, S686, M686, H686, G686⟩ := id Y683_2
 refine Ends.go (X683.arraylength hx (by rw [e683]; exact Ar686.1) (State.isArrayOf_alike hZ.alike Ar686.2.1) (g := (mkF m 26 #[cr b652, ci r663, cr b606, cr w_EMPTY, ci 0, ci 1, cr b684, cu, cu, cu, cu, cu, cu] [(.ref b684)])) rfl rfl (hb hby d18_26)) ?_
 rw [len_of S686 M686]
 refine wst X683 hx hby d18_27 (l' := #[cr b652, ci r663, cr b606, cr w_EMPTY, ci 0, ci 1, cr b684, cu, ci 16, cu, cu, cu, cu]) rfl ?_
 refine wal X683 hx hby d18_29 rfl rfl ?_
 refine wil X683 hx hby d18_31 rfl ?_
 refine wic X683 hx hby d18_33 ?_
 refine wis X683 hx hby d18_34 ?_
 refine wilN X683 hx hby d18_35 rfl ?_
 refine wan X683 hx hby d18_36 ?_
 refine wdu X683 hx hby d18_37 rfl ?_
 refine wst X683 hx hby d18_38 (l' := #[cr b652, ci r663, cr b606, cr w_EMPTY, ci 0, ci 1, cr b684, cu, ci 16, ci ((15 : Int32) &&& r663), cu, cu, cu]) rfl ?_
 obtain ⟨cl687, Ar687, q687, S687, M687, H687, G687⟩ := id Y683_2
 have hin687 := inb_of (j := ((15 : Int32) &&& r663)) S687 (own_in15 r663)
 refine Ends.go (X683.aaload hx (j := ((15 : Int32) &&& r663)) (v := .null) (by rw [e683]; exact Ar687.1) (State.isArrayOf_alike hZ.alike Ar687.2.1) rfl Ar687.2.2 hin687 (H687.at hin687 (own_n16 _)) (g := (mkF m 40 #[cr b652, ci r663, cr b606, cr w_EMPTY, ci 0, ci 1, cr b684, cu, ci 16, ci ((15 : Int32) &&& r663), cu, cu, cu] [(.int ((15 : Int32) &&& r663)), (.ref b684)])) rfl rfl (hb hby d18_40)) ?_
 refine wdu X683 hx hby d18_41 rfl ?_
 refine was X683 hx hby d18_42 (l' := #[cr b652, ci r663, cr b606, cr w_EMPTY, ci 0, ci 1, cr b684, .val .null, ci 16, ci ((15 : Int32) &&& r663), cu, cu, cu]) rfl rfl ?_
 refine wnn X683 hx hby d18_44 ?_
 refine wal X683 hx hby d18_47 rfl rfl ?_
 refine wil X683 hx hby d18_49 rfl ?_
 refine walN X683 hx hby d18_51 rfl rfl ?_
 refine wilN X683 hx hby d18_52 rfl ?_
 refine walN X683 hx hby d18_53 rfl rfl ?_
 refine walN X683 hx hby d18_54 rfl rfl ?_
 show Ends _ _ _ _ T683 (mkF m 55 #[cr b652, ci r663, cr b606, cr w_EMPTY, ci 0, ci 1, cr b684, .val .null, ci 16, ci ((15 : Int32) &&& r663), cu, cu, cu] [(.ref w_EMPTY), (.ref b606), (.int r663), (.ref b652), (.int ((15 : Int32) &&& r663)), (.ref b684)]) _ _ _
 refine wnu X683 hx hby d18_55 ?_
 obtain ⟨cq737, kq737, q737a, q737b, q737c⟩ := isOf hZ e683 (Pa2.keep K683c)
 obtain ⟨_, _, ⟨T737, L737, k737, n737⟩, -, X737, ⟨Lc737, hQ737, l737, y737, z737⟩, st737⟩ := X683.virtualBack hx (y := ym30) (z := ym26) hown (ov hZ hw 129 rfl) (ov hZ hw 130 rfl) (own_nf (args := #[]) (ov hZ hw 86 rfl) rfl) (ov hZ hw 132 rfl) (ov hZ hw 133 rfl) (by decide) (own_backOf (W := 2) (rx20_688 l Z a0 hw [] n0 h683 O683 G1 w_EMPTY GF b652 r663 b606 b684 Y683_5 Y683_7 (Pa2.keep K683c) Y683_8 Y683_0 Y683_1 Y683_4 Y683_6 Y683_9 Y683_10 Y683_11 g_b652) hZ (ow hw 134 rfl) (ow hw 38 rfl) (by decide) (by decide)) q737a q737c (g := (mkF m 56 #[cr b652, ci r663, cr b606, cr w_EMPTY, ci 0, ci 1, cr b684, .val .null, ci 16, ci ((15 : Int32) &&& r663), cu, cu, cu] [.null, (.ref w_EMPTY), (.ref b606), (.int r663), (.ref b652), (.int ((15 : Int32) &&& r663)), (.ref b684)])) rfl (by rw [hml]; rfl) (Steps.refl _) (argsL := [(.int r663), (.ref b606), (.ref w_EMPTY), .null]) (rest := [(.int ((15 : Int32) &&& r663)), (.ref b684)]) (lenOf pdx_19 rfl) rfl (own_w rfl) (hb hby d18_56) (fun _ _ => ⟨rfl, e683, (by decide : 1 + 1 ≤ _), (by decide : 16 + 6 ≤ _)⟩)
 dsimp only [Pt.U, Pt.locs, Pt.cells, Pt.slots] at X737 l737 y737 z737 st737 hQ737
 subst l737 y737 z737
 obtain ⟨b738, rfl, N737q, K737c, hb737_b738, Y737_0, Y737_1, Y737_2, Y737_3, Y737_4, Y737_5, Y737_6, Y737_7, Y737_8, Y737_9, Y737_10, Y737_11, Y737_12, Y737_13, Y737_14, Y737_15⟩ := hQ737
 have N737 := Fr.app N683 N737q
 refine Ends.go (fun _ k => st737.trans k) ?_
 have sz_b738 : h0.size ≤ b738 := Nat.le_trans K683.1 hb737_b738
 obtain ⟨h737, e737⟩ : ∃ z, T737.heap = z := ⟨_, rfl⟩
 rw [e737] at K737c Y737_0 Y737_1 Y737_2 Y737_3 Y737_4 Y737_5 Y737_6 Y737_7 Y737_8 Y737_9 Y737_10 Y737_11 Y737_12 Y737_13 Y737_14 Y737_15
 have K737 := K683.trans K737c (allS (mi 0 rfl) all0)
 have O737 := O683.keep K737c (allS g_b652 all0)
 have c740 := Y683_2.keep K737c (ninS (Ne.symm (Nat.ne_of_lt (Nat.lt_of_lt_of_le Pa0.lt sz_b684))) nin0)
 obtain ⟨cl739, Ar739, q739, S739, M739, H739, G739⟩ := id c740
 have hin739 := inb_of (j := ((15 : Int32) &&& r663)) S739 (own_in15 r663)
 obtain ⟨T739, h739, X739, e739, W739, st739⟩ := stR X737 hx hZ e737 Ar739 (j := ((15 : Int32) &&& r663)) hin739 rfl (Sto.ofV Ar739 q739 Y683_3 (Ins.of_exa Y737_0 (ow hw 145 rfl))) (g := (mkF m 59 #[cr b652, ci r663, cr b606, cr w_EMPTY, ci 0, ci 1, cr b684, .val .null, ci 16, ci ((15 : Int32) &&& r663), cu, cu, cu] [(.ref b738), (.int ((15 : Int32) &&& r663)), (.ref b684)])) rfl rfl (hb hby d18_59)
 refine Ends.go st739 ?_
 have K739 := K737.wr W739 (Or.inr sz_b684)
 have O739 := O737.wr W739 g_b684
 have N739 := Fr.snoc X739 N737 g_b684
 refine wgo (pc := 60) (pc' := 259) X739 hx hby d18_60 ?_
 refine walN X739 hx hby d18_259 rfl rfl ?_
 refine wdu X739 hx hby d18_260 rfl ?_
 have c741 := Y737_13.other W739 (Or.inl (Nat.ne_of_lt (Nat.lt_of_lt_of_le Pa0.lt sz_b684)))
 refine wgf X739 hx hZ hown hw 166 rfl e739 c741 hby d18_261 ?_
 intro T742 X742 e742
 refine wic X742 hx hby d18_264 ?_
 refine wia X742 hx hby d18_265 ?_
 refine wpf X742 hx hZ hown hw 166 rfl e742 c741 (((Pa2.keep K683c).keep K737c).wr W739) 167 rfl 37 rfl (ty := .int) (by decide) rfl rfl hby d18_266 ?_
 intro T743 h743 X743 e743 W743
 have Fw743 := c741.same W743
 have K743 := K739.wr W743 (mi 0 rfl)
 have O743 := O739.wr W743 g_b652
 have N743 := Fr.snoc X743 N739 g_b652
 refine walN X743 hx hby d18_269 rfl rfl ?_
 refine wdu X743 hx hby d18_270 rfl ?_
 have c744 := (Y737_14.other W739 (Or.inl (Nat.ne_of_lt (Nat.lt_of_lt_of_le Pa0.lt sz_b684)))).other W743 (sll hw 169 rfl 167 rfl)
 refine wgf X743 hx hZ hown hw 168 rfl e743 c744 hby d18_271 ?_
 intro T745 X745 e745
 refine wic X745 hx hby d18_274 ?_
 refine wia X745 hx hby d18_275 ?_
 refine wdx X745 hx hby d18_276 rfl rfl ?_
 refine wpf X745 hx hZ hown hw 168 rfl e745 c744 ((((Pa2.keep K683c).keep K737c).wr W739).wr W743) 169 rfl 37 rfl (ty := .int) (by decide) rfl rfl hby d18_277 ?_
 intro T746 h746 X746 e746 W746
 have Fw746 := c744.same W746
 have K746 := K743.wr W746 (mi 0 rfl)
 have O746 := O743.wr W746 g_b652
 have N746 := Fr.snoc X746 N743 g_b652
 refine walN X746 hx hby d18_280 rfl rfl ?_
 have c747 := ((Y737_10.other W739 (Or.inl (Nat.ne_of_lt (Nat.lt_of_lt_of_le Pa0.lt sz_b684)))).other W743 (sll hw 126 rfl 167 rfl)).other W746 (sll hw 126 rfl 169 rfl)
 refine wgf X746 hx hZ hown hw 125 rfl e746 c747 hby d18_281 ?_
 intro T748 X748 e748
 refine wcy (pc := 284) (pc' := 292) X748 hx hby d18_284 (flt (by decide : ¬ ((12 : Int32) < (1 : Int32)))).2.2.2 ?_
 refine walN X748 hx hby d18_292 rfl rfl ?_
 refine wil X748 hx hby d18_293 rfl ?_
 have c753 := ((Y737_8.other W739 (Or.inl (Nat.ne_of_lt (Nat.lt_of_lt_of_le Pa0.lt sz_b684)))).other W743 (sll hw 165 rfl 167 rfl)).other W746 (sll hw 165 rfl 169 rfl)
 obtain ⟨cq754, kq754, q754a, q754b, q754c⟩ := isOf hZ e748 (((((Pa2.keep K683c).keep K737c).wr W739).wr W743).wr W746)
 obtain ⟨_, _, ⟨T754, L754, k754, n754⟩, -, X754, ⟨Lc754, hQ754, l754, y754, z754⟩, st754⟩ := X748.virtualBack hx (y := ym31) (z := ym28) hown (ov hZ hw 170 rfl) (ov hZ hw 171 rfl) (own_nf (args := #[]) (ov hZ hw 86 rfl) rfl) (ov hZ hw 173 rfl) (ov hZ hw 174 rfl) (by decide) (own_backOf (W := 0) (rx24_749 l Z a0 hw [] n0 h746 O746  b652 b738 c753 (((((Pa2.keep K683c).keep K737c).wr W739).wr W743).wr W746)) hZ (ow hw 175 rfl) (ow hw 38 rfl) (by decide) (by decide)) q754a q754c (g := (mkF m 295 #[cr b652, ci r663, cr b606, cr w_EMPTY, ci 0, ci 1, cr b684, .val .null, ci 16, ci ((15 : Int32) &&& r663), cu, cu, cu] [(.int 1), (.ref b652)])) rfl (by rw [hml]; rfl) (Steps.refl _) (argsL := [(.int 1)]) (rest := []) (lenOf pdx_21 rfl) rfl (own_w rfl) (hb hby d18_295) (fun _ _ => ⟨rfl, e748, (by decide : 2 + 0 ≤ _), (by decide : 22 + 0 ≤ _)⟩)
 dsimp only [Pt.U, Pt.locs, Pt.cells, Pt.slots] at X754 l754 y754 z754 st754 hQ754
 subst l754 y754 z754
 obtain ⟨rfl, N754q, K754c⟩ := hQ754
 have N754 := Fr.app N746 N754q
 refine Ends.go (fun _ k => st754.trans k) ?_
 obtain ⟨h754, e754⟩ : ∃ z, T754.heap = z := ⟨_, rfl⟩
 rw [e754] at K754c
 have K754 := K746.trans K754c all0
 refine wnu X754 hx hby d18_298 ?_
 refine Ends.ret X754 hx hns (t := (.object qs26)) hrt rfl (Or.inr (Or.inr (Or.inr (Or.inr ⟨rfl, rfl, rfl⟩)))) (hb hby d18_299) (by decide) (by decide) ?_
 rw [e754]
 have ne_b684_b738 : b684 ≠ b738 := Nat.ne_of_lt (Nat.lt_of_lt_of_le Y683_2.lt hb737_b738)
 have c755 := (((Y737_1.other W739 (Or.inl (Ne.symm ne_b684_b738))).other W743 (Or.inl (Ne.symm (Nat.ne_of_lt (Nat.lt_of_lt_of_le Pa0.lt sz_b738))))).other W746 (Or.inl (Ne.symm (Nat.ne_of_lt (Nat.lt_of_lt_of_le Pa0.lt sz_b738))))).keep K754c nin0
 have c756 := (((Y737_2.other W739 (Or.inl (Ne.symm ne_b684_b738))).other W743 (Or.inl (Ne.symm (Nat.ne_of_lt (Nat.lt_of_lt_of_le Pa0.lt sz_b738))))).other W746 (Or.inl (Ne.symm (Nat.ne_of_lt (Nat.lt_of_lt_of_le Pa0.lt sz_b738))))).keep K754c nin0
 have c757 := (((Y737_3.other W739 (Or.inl (Ne.symm ne_b684_b738))).other W743 (Or.inl (Ne.symm (Nat.ne_of_lt (Nat.lt_of_lt_of_le Pa0.lt sz_b738))))).other W746 (Or.inl (Ne.symm (Nat.ne_of_lt (Nat.lt_of_lt_of_le Pa0.lt sz_b738))))).keep K754c nin0
 have c758 := (((Y737_4.other W739 (Or.inl (Ne.symm ne_b684_b738))).other W743 (Or.inl (Ne.symm (Nat.ne_of_lt (Nat.lt_of_lt_of_le Pa0.lt sz_b738))))).other W746 (Or.inl (Ne.symm (Nat.ne_of_lt (Nat.lt_of_lt_of_le Pa0.lt sz_b738))))).keep K754c nin0
 have c759 := (((Y737_5.other W739 (Or.inl (Ne.symm ne_b684_b738))).other W743 (Or.inl (Ne.symm (Nat.ne_of_lt (Nat.lt_of_lt_of_le Pa0.lt sz_b738))))).other W746 (Or.inl (Ne.symm (Nat.ne_of_lt (Nat.lt_of_lt_of_le Pa0.lt sz_b738))))).keep K754c nin0
 have c760 := (((Y737_6.other W739 (Or.inl (Nat.ne_of_lt (Nat.lt_of_lt_of_le Pa0.lt sz_b684)))).other W743 (sll hw 59 rfl 167 rfl)).other W746 (sll hw 59 rfl 169 rfl)).keep K754c nin0
 have c761 := (((Y737_7.other W739 (Or.inl (Nat.ne_of_lt (Nat.lt_of_lt_of_le Pa0.lt sz_b684)))).other W743 (sll hw 163 rfl 167 rfl)).other W746 (sll hw 163 rfl 169 rfl)).keep K754c nin0
 have c762 := (((Y737_9.other W739 (Or.inl (Nat.ne_of_lt (Nat.lt_of_lt_of_le Pa0.lt sz_b684)))).other W743 (sll hw 119 rfl 167 rfl)).other W746 (sll hw 119 rfl 169 rfl)).keep K754c nin0
 have c763 := (((Y737_11.other W739 (Or.inl (Nat.ne_of_lt (Nat.lt_of_lt_of_le Pa0.lt sz_b684)))).other W743 (sfl hw 57 rfl 167 rfl)).other W746 (sfl hw 57 rfl 169 rfl)).keep K754c nin0
 have c764 := (((Y737_12.other W739 (Or.inl (Nat.ne_of_lt (Nat.lt_of_lt_of_le Pa0.lt sz_b684)))).other W743 (sfl hw 61 rfl 167 rfl)).other W746 (sfl hw 61 rfl 169 rfl)).keep K754c nin0
 have c765 := (Fw743.other W746 (sll hw 167 rfl 169 rfl)).keep K754c nin0
 have c766 := (((Y737_15.other W739 (Or.inl (Nat.ne_of_lt (Nat.lt_of_lt_of_le Pa0.lt sz_b684)))).other W743 (sll hw 213 rfl 167 rfl)).other W746 (sll hw 213 rfl 169 rfl)).keep K754c nin0
 exact ⟨b684, b738, rfl, N754, K754, sz_b684, sz_b738, ne_b684_b738, ((((Y737_0.wr W739).wr W743).wr W746).keep K754c), c755, c756, c757, c758, c759, c760, c761, (c753.keep K754c nin0), c762, (c747.keep K754c nin0), c763, c764, c765, (Fw746.keep K754c nin0), c766⟩

theorem d13_0 : decode B20_ 0 = .ok (.aload_n 0, 1) := by decide +kernel
theorem d13_1 : decode B20_ 1 = .ok (.aload_n 1, 1) := by decide +kernel
theorem d13_2 : decode B20_ 2 = .ok (.invokestatic 149, 3) := by decide +kernel
theorem d13_5 : decode B20_ 5 = .ok (.aload_n 1, 1) := by decide +kernel
theorem d13_6 : decode B20_ 6 = .ok (.aload_n 2, 1) := by decide +kernel
theorem d13_7 : decode B20_ 7 = .ok (.iconst 0, 1) := by decide +kernel
theorem d13_8 : decode B20_ 8 = .ok (.iconst 1, 1) := by decide +kernel
theorem d13_9 : decode B20_ 9 = .ok (.invokevirtual 152, 3) := by decide +kernel
theorem d13_12 : decode B20_ 12 = .ok (.areturn, 1) := by decide +kernel
theorem pn13 : plainName "java/util/HashMap" = true := by first | (simp [plainName, overriddenIn]; done) | decide +kernel
theorem pdx_22 : parseMethodDescriptor "(ILjava/lang/Object;Ljava/lang/Object;ZZ)Ljava/lang/Object;" = some ⟨[.int, (.object "java/lang/Object"), (.object "java/lang/Object"), .boolean, .boolean], some (.object "java/lang/Object")⟩ := by decide +kernel
theorem ef13_rrr (m : MethodId) (x0 : Addr) (x1 : Addr) (x2 : Addr) : entryFrame m #[(.ref x0), (.ref x1), (.ref x2)] 3 = mkF m 0 #[.val (.ref x0), .val (.ref x1), .val (.ref x2)] [] := by first | (simp [entryFrame, mkF, argsToLocals, Value.category]; done) | rfl
theorem rx13_662 (l : Launch) (Z : State) (a0 : Array Value) (hw : HW a0 Z) (ws : List Jvm.Cond) (n0 : Nat) (h0 : Heap) (O0 : Old Z n0 h0) (G1 : Int32) (w_EMPTY : Addr) (GF : GlobF Z G1 w_EMPTY) (b652 : Addr) (b606 : Addr) (b607 : Addr) (k608 : ClassId) (c_ : Int32) (Pa0 : f2_ Z h0 b606 (.ref b607)) (Pa1 : Exa Z h0 b606 cST) (Pa2 : Fld Z h0 b606 cST "hash" "I" (.int 0)) (Pa3 : f1_ Z h0 b606 (.int 0)) (Pa4 : f0_ Z h0 b606 (.int 0)) (Pa5 : Arv Z h0 b607 k608 .byte (1 : Int32) [(.int (c_.toInt8.toInt32))] (.int 0)) (Pa6 : f16_ Z h0 b652 .null) (Pa7 : f17_ Z h0 b652 (.int 0)) (Pa8 : Exa Z h0 b652 cLHM) (Pa9 : f13_ Z h0 b652 (.float (1061158912 : UInt32))) (Pa10 : f14_ Z h0 b652 (.int 0)) (Pa11 : f15_ Z h0 b652 (.int 0)) (Pa12 : f18_ Z h0 b652 .null) (Pa13 : f19_ Z h0 b652 .null) (Pa14 : f20_ Z h0 b652 (.int 0)) (Pa15 : f21_ Z h0 b652 (.int 0)) (Pa16 : f22_ Z h0 b652 .null) (ne_b606_b607 : b606 ≠ b607) (ne_b652_b606 : b652 ≠ b606) (g_b606 : n0 ≤ b606) (g_b652 : n0 ≤ b652) :
  Meets1 l ym32 B20_ 3 (some (.object qs26)) ws (mkR 5 2 22 88) #[(.ref b652), (.ref b606), (.ref w_EMPTY)] Z h0 (fun v h L => ∃ (b768 : Addr) (b769 : Addr) (r663 : Int32), v = some .null ∧ Fr n0 L ∧ Keep h0 h [b606, b652] ∧ h0.size ≤ b768 ∧ h0.size ≤ b769 ∧ b768 ≠ b769 ∧ Exa Z h b769 cLE ∧ Fld Z h b769 cHN "hash" "I" (.int r663) ∧ f24_ Z h b769 (.ref b606) ∧ f25_ Z h b769 (.ref w_EMPTY) ∧ f26_ Z h b769 .null ∧ f27_ Z h b769 .null ∧ f14_ Z h b652 (.int 0) ∧ f18_ Z h b652 (.ref b769) ∧ f19_ Z h b652 (.ref b769) ∧ f16_ Z h b652 (.ref b768) ∧ f17_ Z h b652 (.int 12) ∧ f13_ Z h b652 (.float (1061158912 : UInt32)) ∧ f15_ Z h b652 (.int 0) ∧ f20_ Z h b652 (.int 1) ∧ f21_ Z h b652 (.int 1) ∧ f22_ Z h b652 .null) := by
 refine own_start n0 (plainFor_of_name pn13) (fun m => ef13_rrr m b652 b606 w_EMPTY) ?_
 intro p e s m below meth c s₁ hns hrt hZ hx hby hml hown hnm X0 e0 N0
 obtain ⟨SCS, P5, S_EMPTY, E_EMPTY⟩ := id GF
 have K0 := Keep.refl h0 [b606, b652]
 show Ends _ _ _ _ s₁ (mkF m 0 #[cr b652, cr b606, cr w_EMPTY] []) _ _ _
 refine walN X0 hx hby d13_0 rfl rfl ?_
 refine walN X0 hx hby d13_1 rfl rfl ?_
 refine wsb (W := 1) X0 hx hZ hown hw hml rfl hby d13_2 92 rfl 93 rfl 46 rfl 94 rfl (by decide) e0 (rmHM l Z a0 hw [] n0 h0 O0 G1 w_EMPTY GF b606 b607 k608 c_ g_b606 ne_b606_b607 Pa1 Pa2 Pa3 Pa0 Pa4 Pa5) (by decide) (by decide) [(.ref b606)] [(.ref b652)] pdx_15 rfl rfl rfl (by decide) (by decide) rfl ?_
 intro _ T663 _ X663 hQ663
 obtain ⟨r663, rfl, N663q, K663c⟩ := hQ663
 have N663 := Fr.app N0 N663q
 obtain ⟨h663, e663⟩ : ∃ z, T663.heap = z := ⟨_, rfl⟩
 rw [e663] at K663c
 have K663 := K0.trans K663c (allS (mi 0 rfl) all0)
 have O663 := O0.keep K663c (allS g_b606 all0)
 refine walN X663 hx hby d13_5 rfl rfl ?_
 refine walN X663 hx hby d13_6 rfl rfl ?_
 refine wic X663 hx hby d13_7 ?_
 refine wic X663 hx hby d13_8 ?_
 refine wvb X663 hx hZ hown hw hml rfl hby d13_9 113 rfl 114 rfl 116 rfl 115 rfl (by decide) e663 (Pa8.keep K663c) (rx18_664 l Z a0 hw [] n0 h663 O663 G1 w_EMPTY GF b652 r663 b606 (Pa6.keep K663c (ninS ne_b652_b606 nin0)) (Pa7.keep K663c (ninS ne_b652_b606 nin0)) (Pa8.keep K663c) (Pa9.keep K663c (ninS ne_b652_b606 nin0)) (Pa10.keep K663c (ninS ne_b652_b606 nin0)) (Pa11.keep K663c (ninS ne_b652_b606 nin0)) (Pa12.keep K663c (ninS ne_b652_b606 nin0)) (Pa13.keep K663c (ninS ne_b652_b606 nin0)) (Pa14.keep K663c (ninS ne_b652_b606 nin0)) (Pa15.keep K663c (ninS ne_b652_b606 nin0)) (Pa16.keep K663c (ninS ne_b652_b606 nin0)) g_b652) 117 rfl 46 rfl (by decide) (by decide) [(.int r663), (.ref b606), (.ref w_EMPTY), (.int 0), (.int 1)] [] pdx_22 rfl rfl rfl (by decide) (by decide) rfl ?_
 intro _ T767 _ X767 hQ767
 obtain ⟨b768, b769, rfl, N767q, K767c, hb767_b768, hb767_b769, hne767_b768_b769, Y767_0, Y767_1, Y767_2, Y767_3, Y767_4, Y767_5, Y767_6, Y767_7, Y767_8, Y767_9, Y767_10, Y767_11, Y767_12, Y767_13, Y767_14, Y767_15⟩ := hQ767
 have N767 := Fr.app N663 N767q
 have sz_b768 : h0.size ≤ b768 := Nat.le_trans K663.1 hb767_b768
 have sz_b769 : h0.size ≤ b769 := Nat.le_trans K663.1 hb767_b769
 obtain ⟨h767, e767⟩ : ∃ z, T767.heap = z := ⟨_, rfl⟩
 rw [e767] at K767c Y767_0 Y767_1 Y767_2 Y767_3 Y767_4 Y767_5 Y767_6 Y767_7 Y767_8 Y767_9 Y767_10 Y767_11 Y767_12 Y767_13 Y767_14 Y767_15
 have K767 := K663.trans K767c (allS (mi 1 rfl) all0)
 refine Ends.ret X767 hx hns (t := (.object qs26)) hrt rfl (Or.inr (Or.inr (Or.inr (Or.inr ⟨rfl, rfl, rfl⟩)))) (hb hby d13_12) (by decide) (by decide) ?_
 rw [e767]
 exact ⟨b768, b769, r663, rfl, N767, K767, sz_b768, sz_b769, hne767_b768_b769, Y767_0, Y767_1, Y767_2, Y767_3, Y767_4, Y767_5, Y767_6, Y767_7, Y767_8, Y767_9, Y767_10, Y767_11, Y767_12, Y767_13, Y767_14, Y767_15⟩

theorem d11_0 : decode B46_ 0 = .ok (.aload_n 1, 1) := by decide +kernel
theorem d11_1 : decode B46_ 1 = .ok (.ldc 17, 2) := by decide +kernel
theorem d11_3 : decode B46_ 3 = .ok (.invokestatic 19, 3) := by decide +kernel
theorem d11_6 : decode B46_ 6 = .ok (.pop, 1) := by decide +kernel
theorem d11_7 : decode B46_ 7 = .ok (.aload_n 2, 1) := by decide +kernel
theorem d11_8 : decode B46_ 8 = .ok (.ldc 25, 2) := by decide +kernel
theorem d11_10 : decode B46_ 10 = .ok (.invokestatic 19, 3) := by decide +kernel
theorem d11_13 : decode B46_ 13 = .ok (.pop, 1) := by decide +kernel
theorem d11_14 : decode B46_ 14 = .ok (.aload_n 0, 1) := by decide +kernel
theorem d11_15 : decode B46_ 15 = .ok (.getfield 7, 3) := by decide +kernel
theorem d11_18 : decode B46_ 18 = .ok (.aload_n 1, 1) := by decide +kernel
theorem d11_19 : decode B46_ 19 = .ok (.aload_n 2, 1) := by decide +kernel
theorem d11_20 : decode B46_ 20 = .ok (.invokeinterface 27 3, 5) := by decide +kernel
theorem d11_25 : decode B46_ 25 = .ok (.ifnonnull 8, 3) := by decide +kernel
theorem d11_28 : decode B46_ 28 = .ok (.aload_n 0, 1) := by decide +kernel
theorem d11_29 : decode B46_ 29 = .ok (.aconst_null, 1) := by decide +kernel
theorem d11_30 : decode B46_ 30 = .ok (.putfield 13, 3) := by decide +kernel
theorem d11_33 : decode B46_ 33 = .ok (.aload_n 0, 1) := by decide +kernel
theorem d11_34 : decode B46_ 34 = .ok (.areturn, 1) := by decide +kernel
theorem pn11 : plainName "com/example/ratatoskr/ratatoskr/JsonObject$Builder" = true := by first | (simp [plainName, overriddenIn]; done) | decide +kernel
theorem pdx_23 : parseMethodDescriptor "(Ljava/lang/Object;Ljava/lang/Object;)Ljava/lang/Object;" = some ⟨[(.object "java/lang/Object"), (.object "java/lang/Object")], some (.object "java/lang/Object")⟩ := by decide +kernel
theorem ef11_rrr (m : MethodId) (x0 : Addr) (x1 : Addr) (x2 : Addr) : entryFrame m #[(.ref x0), (.ref x1), (.ref x2)] 3 = mkF m 0 #[.val (.ref x0), .val (.ref x1), .val (.ref x2)] [] := by first | (simp [entryFrame, mkF, argsToLocals, Value.category]; done) | rfl
theorem rx11_653 (l : Launch) (Z : State) (a0 : Array Value) (hw : HW a0 Z) (ws : List Jvm.Cond) (n0 : Nat) (h0 : Heap) (O0 : Old Z n0 h0) (G1 : Int32) (w_EMPTY : Addr) (GF : GlobF Z G1 w_EMPTY) (b651 : Addr) (b606 : Addr) (b652 : Addr) (b607 : Addr) (k608 : ClassId) (c_ : Int32) (Pa0 : f23_ Z h0 b651 (.ref b652)) (Pa1 : f2_ Z h0 b606 (.ref b607)) (Pa2 : Exa Z h0 b606 cST) (Pa3 : Fld Z h0 b606 cST "hash" "I" (.int 0)) (Pa4 : f1_ Z h0 b606 (.int 0)) (Pa5 : f0_ Z h0 b606 (.int 0)) (Pa6 : Arv Z h0 b607 k608 .byte (1 : Int32) [(.int (c_.toInt8.toInt32))] (.int 0)) (Pa7 : f16_ Z h0 b652 .null) (Pa8 : f17_ Z h0 b652 (.int 0)) (Pa9 : Exa Z h0 b652 cLHM) (Pa10 : f13_ Z h0 b652 (.float (1061158912 : UInt32))) (Pa11 : f14_ Z h0 b652 (.int 0)) (Pa12 : f15_ Z h0 b652 (.int 0)) (Pa13 : f18_ Z h0 b652 .null) (Pa14 : f19_ Z h0 b652 .null) (Pa15 : f20_ Z h0 b652 (.int 0)) (Pa16 : f21_ Z h0 b652 (.int 0)) (Pa17 : f22_ Z h0 b652 .null) (Pa18 : Exa Z h0 b651 qs23) (Pa19 : Fld Z h0 b651 qs23 "shape" qs0 .null) (ne_b606_b607 : b606 ≠ b607) (ne_b652_b606 : b652 ≠ b606) (ne_b651_b652 : b651 ≠ b652) (ne_b651_b606 : b651 ≠ b606) (g_b606 : n0 ≤ b606) (g_b652 : n0 ≤ b652) (g_b651 : n0 ≤ b651) :
  Meets1W l ym33 B46_ 3 (some (.object qs23)) ws (mkR 6 6 66 102) #[(.ref b651), (.ref b606), (.ref w_EMPTY)] Z h0 false (fun v h L => ∃ (b786 : Addr) (b787 : Addr) (r788 : Int32), v = some (.ref b651) ∧ Fr n0 L ∧ Keep h0 h [b652, b606, b651] ∧ h0.size ≤ b786 ∧ h0.size ≤ b787 ∧ b786 ≠ b787 ∧ f23_ Z h b651 (.ref b652) ∧ Exa Z h b787 cLE ∧ Fld Z h b787 cHN "hash" "I" (.int r788) ∧ f24_ Z h b787 (.ref b606) ∧ f25_ Z h b787 (.ref w_EMPTY) ∧ f26_ Z h b787 .null ∧ f27_ Z h b787 .null ∧ f14_ Z h b652 (.int 0) ∧ f18_ Z h b652 (.ref b787) ∧ f19_ Z h b652 (.ref b787) ∧ f16_ Z h b652 (.ref b786) ∧ f17_ Z h b652 (.int 12) ∧ f13_ Z h b652 (.float (1061158912 : UInt32)) ∧ f15_ Z h b652 (.int 0) ∧ f20_ Z h b652 (.int 1) ∧ f21_ Z h b652 (.int 1) ∧ f22_ Z h b652 .null ∧ Fld Z h b651 qs23 "shape" qs0 .null) := by
 refine MetFree.of_bodySF (plainFor_of_name pn11) hisR ?_
 intro p e s m args below meth c s₁ Bd hml0 hP hK
 obtain ⟨rfl, hZ, hh, hI⟩ := hP
 have hx := Bd.exec
 have hby := Bd.bytes
 have hml : c.maxLocals = 3 := hml0
 have hown : s.vm.findClass "com/example/ratatoskr/ratatoskr/JsonObject$Builder" = some m.cls := findClass_of_methodNamed Bd.named
 have X0 : Stand p l e (mkR 6 6 66 102) s m #[(.ref b651), (.ref b606), (.ref w_EMPTY)] below meth c s₁ [] 0 0 := Stand.of_body Bd
 have e0 : s₁.heap = h0 := by rw [← hh, Bd.state]; rfl
 have N0 := Fr.nil n0
 have hS0 := own_since0 s
 have hk0 : s.heap.size ≤ h0.size := Nat.le_of_eq (congrArg Array.size hh)
 show EndsW _ _ _ _ s₁ (entryFrame m #[(.ref b651), (.ref b606), (.ref w_EMPTY)] 3) (mkR 6 6 66 102).cells (mkR 6 6 66 102).slots (fun v h L => ∃ (b786 : Addr) (b787 : Addr) (r788 : Int32), v = some (.ref b651) ∧ Fr n0 L ∧ Keep h0 h [b652, b606, b651] ∧ h0.size ≤ b786 ∧ h0.size ≤ b787 ∧ b786 ≠ b787 ∧ f23_ Z h b651 (.ref b652) ∧ Exa Z h b787 cLE ∧ Fld Z h b787 cHN "hash" "I" (.int r788) ∧ f24_ Z h b787 (.ref b606) ∧ f25_ Z h b787 (.ref w_EMPTY) ∧ f26_ Z h b787 .null ∧ f27_ Z h b787 .null ∧ f14_ Z h b652 (.int 0) ∧ f18_ Z h b652 (.ref b787) ∧ f19_ Z h b652 (.ref b787) ∧ f16_ Z h b652 (.ref b786) ∧ f17_ Z h b652 (.int 12) ∧ f13_ Z h b652 (.float (1061158912 : UInt32)) ∧ f15_ Z h b652 (.int 0) ∧ f20_ Z h b652 (.int 1) ∧ f21_ Z h b652 (.int 1) ∧ f22_ Z h b652 .null ∧ Fld Z h b651 qs23 "shape" qs0 .null)
 refine EndsW.go (fun _ k => castTop (ef11_rrr m b651 b606 w_EMPTY) k) ?_
 obtain ⟨SCS, P5, S_EMPTY, E_EMPTY⟩ := id GF
 have K0 := Keep.refl h0 [b652, b606, b651]
 show EndsW _ _ _ _ s₁ (mkF m 0 #[cr b651, cr b606, cr w_EMPTY] []) _ _ _
 refine walNW X0 hx hby d11_0 rfl rfl ?_
 obtain ⟨a654, T654, h654, k654, X654, e654, E654, hS654, hk654, hZ, hown, st654⟩ := ldcS (s := s) (vm0 := s.vm) X0 hx hZ hown (ow hw 75 rfl) (own_atoms hw) e0 hS0 hk0 (g := (mkF m 1 #[cr b651, cr b606, cr w_EMPTY] [(.ref b606)])) rfl (hb hby d11_1) (n := 16) (by decide) (by decide) (by decide) (by decide)
 refine EndsW.go st654 ?_
 have K654 := K0.ext E654
 have O654 := O0.ext E654
 refine wsbW X654 hx hZ hown hw hml rfl hby d11_3 78 rfl 79 rfl 80 rfl 81 rfl (by decide) e654 (rx12_655 l Z a0 hw [] n0 h654 O654  b606 a654 ) (by decide) (by decide) [(.ref b606), (.ref a654)] [] pdx_14 rfl rfl rfl (by decide) (by decide) rfl ?_
 intro _ T656 _ X656 hQ656
 obtain ⟨rfl, N656q, K656c⟩ := hQ656
 have N656 := Fr.app N0 N656q
 obtain ⟨h656, e656⟩ : ∃ z, T656.heap = z := ⟨_, rfl⟩
 rw [e656] at K656c
 have K656 := K654.trans K656c all0
 have O656 := O654.keep K656c all0
 refine wpoW X656 hx hby d11_6 rfl ?_
 refine walNW X656 hx hby d11_7 rfl rfl ?_
 obtain ⟨a657, T657, h657, k657, X657, e657, E657, hS657, hk657, hZ, hown, st657⟩ := ldcS (s := s) (vm0 := T654.vm) X656 hx hZ hown (ow hw 82 rfl) (own_atoms hw) e656 hS654 (Nat.le_trans hk654 K656c.1) (g := (mkF m 8 #[cr b651, cr b606, cr w_EMPTY] [(.ref w_EMPTY)])) rfl (hb hby d11_8) (n := 20) (by decide) (by decide) (by decide) (by decide)
 refine EndsW.go st657 ?_
 have K657 := K656.ext E657
 have O657 := O656.ext E657
 refine wsbW X657 hx hZ hown hw hml rfl hby d11_10 78 rfl 79 rfl 80 rfl 81 rfl (by decide) e657 (rx12_658 l Z a0 hw [] n0 h657 O657 G1 w_EMPTY GF a657 ) (by decide) (by decide) [(.ref w_EMPTY), (.ref a657)] [] pdx_14 rfl rfl rfl (by decide) (by decide) rfl ?_
 intro _ T659 _ X659 hQ659
 obtain ⟨rfl, N659q, K659c⟩ := hQ659
 have N659 := Fr.app N656 N659q
 obtain ⟨h659, e659⟩ : ∃ z, T659.heap = z := ⟨_, rfl⟩
 rw [e659] at K659c
 have K659 := K657.trans K659c all0
 have O659 := O657.keep K659c all0
 refine wpoW X659 hx hby d11_13 rfl ?_
 refine walNW X659 hx hby d11_14 rfl rfl ?_
 have c660 := (((Pa0.ext E654).keep K656c nin0).ext E657).keep K659c nin0
 obtain ⟨T661, X661, e661, st661⟩ := getF X659 hx hZ hown (host := "") (Or.inl (ow hw 66 rfl)) Via.refl e659 c660 (g := (mkF m 15 #[cr b651, cr b606, cr w_EMPTY] [(.ref b651)])) rfl rfl (hb hby d11_15)
 refine EndsW.go st661 ?_
 refine walNW X661 hx hby d11_18 rfl rfl ?_
 refine walNW X661 hx hby d11_19 rfl rfl ?_
 have c770 := (((Pa1.ext E654).keep K656c nin0).ext E657).keep K659c nin0
 have c771 := (((Pa3.ext E654).keep K656c nin0).ext E657).keep K659c nin0
 have c772 := (((Pa4.ext E654).keep K656c nin0).ext E657).keep K659c nin0
 have c773 := (((Pa5.ext E654).keep K656c nin0).ext E657).keep K659c nin0
 have c774 := (((Pa6.ext E654).keep K656c nin0).ext E657).keep K659c nin0
 have c775 := (((Pa7.ext E654).keep K656c nin0).ext E657).keep K659c nin0
 have c776 := (((Pa8.ext E654).keep K656c nin0).ext E657).keep K659c nin0
 have c777 := (((Pa10.ext E654).keep K656c nin0).ext E657).keep K659c nin0
 have c778 := (((Pa11.ext E654).keep K656c nin0).ext E657).keep K659c nin0
 have c779 := (((Pa12.ext E654).keep K656c nin0).ext E657).keep K659c nin0
 have c780 := (((Pa13.ext E654).keep K656c nin0).ext E657).keep K659c nin0
 have c781 := (((Pa14.ext E654).keep K656c nin0).ext E657).keep K659c nin0
 have c782 := (((Pa15.ext E654).keep K656c nin0).ext E657).keep K659c nin0
 have c783 := (((Pa16.ext E654).keep K656c nin0).ext E657).keep K659c nin0
 have c784 := (((Pa17.ext E654).keep K656c nin0).ext E657).keep K659c nin0
 obtain ⟨cq785, kq785, q785a, q785b, q785c⟩ := isOf hZ e661 ((((Pa9.ext E654).keep K656c).ext E657).keep K659c)
 obtain ⟨_, _, ⟨T785, L785, k785, n785⟩, -, X785, ⟨Lc785, hQ785, l785, y785, z785⟩, st785⟩ := X661.interfaceBack hx (xi := ym34) (y := ym32) hown (ov hZ hw 83 rfl) (ov hZ hw 84 rfl) (ov hZ hw 85 rfl) (ov hZ hw 86 rfl) (ov hZ hw 87 rfl) (ov hZ hw 88 rfl) (ov hZ hw 89 rfl) (ov hZ hw 90 rfl) (by decide) (own_backOf (W := 0) (rx13_662 l Z a0 hw [] n0 h659 O659 G1 w_EMPTY GF b652 b606 b607 k608 c_ c770 ((((Pa2.ext E654).keep K656c).ext E657).keep K659c) c771 c772 c773 c774 c775 c776 ((((Pa9.ext E654).keep K656c).ext E657).keep K659c) c777 c778 c779 c780 c781 c782 c783 c784 ne_b606_b607 ne_b652_b606 g_b606 g_b652) hZ (ow hw 91 rfl) (ow hw 46 rfl) (by decide) (by decide)) q785a q785b q785c (g := (mkF m 20 #[cr b651, cr b606, cr w_EMPTY] [(.ref w_EMPTY), (.ref b606), (.ref b652)])) rfl (by rw [hml]; rfl) (Steps.refl _) (argsL := [(.ref b606), (.ref w_EMPTY)]) (rest := []) (lenOf pdx_23 rfl) rfl (own_w rfl) (hb hby d11_20) (fun _ _ => ⟨rfl, e661, (by decide : 4 + 2 ≤ _), (by decide : 44 + 22 ≤ _)⟩)
 dsimp only [Pt.U, Pt.locs, Pt.cells, Pt.slots] at X785 l785 y785 z785 st785 hQ785
 subst l785 y785 z785
 obtain ⟨b786, b787, r788, rfl, N785q, K785c, hb785_b786, hb785_b787, hne785_b786_b787, Y785_0, Y785_1, Y785_2, Y785_3, Y785_4, Y785_5, Y785_6, Y785_7, Y785_8, Y785_9, Y785_10, Y785_11, Y785_12, Y785_13, Y785_14, Y785_15⟩ := hQ785
 have N785 := Fr.app N659 N785q
 refine EndsW.go (fun _ k => st785.trans k) ?_
 have sz_b786 : h0.size ≤ b786 := Nat.le_trans K659.1 hb785_b786
 have sz_b787 : h0.size ≤ b787 := Nat.le_trans K659.1 hb785_b787
 obtain ⟨h785, e785⟩ : ∃ z, T785.heap = z := ⟨_, rfl⟩
 rw [e785] at K785c Y785_0 Y785_1 Y785_2 Y785_3 Y785_4 Y785_5 Y785_6 Y785_7 Y785_8 Y785_9 Y785_10 Y785_11 Y785_12 Y785_13 Y785_14 Y785_15
 have K785 := K659.trans K785c (allS (mi 1 rfl) (allS (mi 0 rfl) all0))
 refine wnnW X785 hx hby d11_25 ?_
 refine walNW X785 hx hby d11_28 rfl rfl ?_
 refine wnuW X785 hx hby d11_29 ?_
 have c789 := ((((Pa18.ext E654).keep K656c).ext E657).keep K659c).keep K785c
 have c790 := ((((Pa19.ext E654).keep K656c nin0).ext E657).keep K659c nin0).keep K785c (ninS ne_b651_b606 (ninS ne_b651_b652 nin0))
 obtain ⟨T791, h791, X791, e791, W791, st791⟩ := putF X785 hx hZ hown (host := "") (Or.inl (ow hw 68 rfl)) Via.refl e785 c790 c789 (Or.inl (ow hw 69 rfl)) (ow hw 34 rfl) (ty := (.object cNA)) (by decide) rfl rfl (g := (mkF m 30 #[cr b651, cr b606, cr w_EMPTY] [.null, (.ref b651)])) rfl rfl (hb hby d11_30)
 refine EndsW.go st791 ?_
 have Fw791 := c790.same W791
 have K791 := K785.wr W791 (mi 2 rfl)
 have N791 := Fr.snoc X791 N785 g_b651
 refine walNW X791 hx hby d11_33 rfl rfl ?_
 refine EndsW.ret (s := s) (vm := T657.vm) X791 hx hS657 (Nat.le_trans (Nat.le_trans (Nat.le_trans (Nat.le_trans hk657 K659c.1) K785c.1) (own_wrsz W791)) (Nat.le_of_eq (congrArg Array.size e791.symm))) Bd.notSynchronized (t := (.object qs23)) Bd.returns rfl (Or.inr (Or.inr (Or.inr (Or.inr ⟨rfl, rfl, rfl⟩)))) (hb hby d11_34) (by decide) (by decide) ?_
 rw [e791]
 have c792 := (c660.keep K785c (ninS ne_b651_b606 (ninS ne_b651_b652 nin0))).other W791 (sfl hw 67 rfl 69 rfl)
 have c793 := Y785_1.other W791 (Or.inl (Ne.symm (Nat.ne_of_lt (Nat.lt_of_lt_of_le Pa0.lt sz_b787))))
 have c794 := Y785_2.other W791 (Or.inl (Ne.symm (Nat.ne_of_lt (Nat.lt_of_lt_of_le Pa0.lt sz_b787))))
 have c795 := Y785_3.other W791 (Or.inl (Ne.symm (Nat.ne_of_lt (Nat.lt_of_lt_of_le Pa0.lt sz_b787))))
 have c796 := Y785_4.other W791 (Or.inl (Ne.symm (Nat.ne_of_lt (Nat.lt_of_lt_of_le Pa0.lt sz_b787))))
 have c797 := Y785_5.other W791 (Or.inl (Ne.symm (Nat.ne_of_lt (Nat.lt_of_lt_of_le Pa0.lt sz_b787))))
 exact ⟨b786, b787, r788, rfl, N791, K791, sz_b786, sz_b787, hne785_b786_b787, c792, (Y785_0.wr W791), c793, c794, c795, c796, c797, (Y785_6.other W791 (Or.inl (Ne.symm ne_b651_b652))), (Y785_7.other W791 (Or.inl (Ne.symm ne_b651_b652))), (Y785_8.other W791 (Or.inl (Ne.symm ne_b651_b652))), (Y785_9.other W791 (Or.inl (Ne.symm ne_b651_b652))), (Y785_10.other W791 (Or.inl (Ne.symm ne_b651_b652))), (Y785_11.other W791 (Or.inl (Ne.symm ne_b651_b652))), (Y785_12.other W791 (Or.inl (Ne.symm ne_b651_b652))), (Y785_13.other W791 (Or.inl (Ne.symm ne_b651_b652))), (Y785_14.other W791 (Or.inl (Ne.symm ne_b651_b652))), (Y785_15.other W791 (Or.inl (Ne.symm ne_b651_b652))), Fw791⟩

theorem d27_0 : decode B19_ 0 = .ok (.aload_n 0, 1) := by decide +kernel
theorem d27_1 : decode B19_ 1 = .ok (.getfield 156, 3) := by decide +kernel
theorem d27_4 : decode B19_ 4 = .ok (.ireturn, 1) := by decide +kernel
theorem pn27 : plainName "java/util/HashMap" = true := by first | (simp [plainName, overriddenIn]; done) | decide +kernel
theorem pdx_24 : parseMethodDescriptor "(Ljava/lang/String;Lcom/example/ratatoskr/ratatoskr/JsonValue;)Lcom/example/ratatoskr/ratatoskr/JsonObject$Builder;" = some ⟨[(.object "java/lang/String"), (.object "com/example/ratatoskr/ratatoskr/JsonValue")], some (.object "com/example/ratatoskr/ratatoskr/JsonObject$Builder")⟩ := by decide +kernel
theorem ef27_r (m : MethodId) (x0 : Addr) : entryFrame m #[(.ref x0)] 1 = mkF m 0 #[.val (.ref x0)] [] := by first | (simp [entryFrame, mkF, argsToLocals, Value.category]; done) | rfl
theorem rx27_804 (l : Launch) (Z : State) (a0 : Array Value) (hw : HW a0 Z) (ws : List Jvm.Cond) (n0 : Nat) (h0 : Heap) (O0 : Old Z n0 h0)  (b652 : Addr) (Pa0 : f21_ Z h0 b652 (.int 1)) :
  Meets1 l ym35 B19_ 1 (some .int) ws (mkR 0 0 0 0) #[(.ref b652)] Z h0 (fun v h L => v = some (.int 1) ∧ Fr n0 L ∧ Keep h0 h []) := by
 refine own_start n0 (plainFor_of_name pn27) (fun m => ef27_r m b652) ?_
 intro p e s m below meth c s₁ hns hrt hZ hx hby hml hown hnm X0 e0 N0
 have K0 := Keep.refl h0 []
 refine walN X0 hx hby d27_0 rfl rfl ?_
 refine wgf X0 hx hZ hown hw 168 rfl e0 Pa0 hby d27_1 ?_
 intro T805 X805 e805
 refine Ends.ret X805 hx hns (t := .int) hrt rfl (Or.inl ⟨rfl, by simp, _, rfl⟩) (hb hby d27_4) (by decide) (by decide) ?_
 rw [e805]
 exact ⟨rfl, N0, K0⟩

theorem d32_0 : decode B2_ 0 = .ok (.aload_n 0, 1) := by decide +kernel
theorem d32_1 : decode B2_ 1 = .ok (.invokespecial 1, 3) := by decide +kernel
theorem d32_4 : decode B2_ 4 = .ok (.return_, 1) := by decide +kernel
theorem pn32 : plainName "java/util/AbstractCollection" = true := by first | (simp [plainName, overriddenIn]; done) | decide +kernel
theorem ef32_r (m : MethodId) (x0 : Addr) : entryFrame m #[(.ref x0)] 1 = mkF m 0 #[.val (.ref x0)] [] := by first | (simp [entryFrame, mkF, argsToLocals, Value.category]; done) | rfl
theorem rx32_818 (l : Launch) (Z : State) (a0 : Array Value) (hw : HW a0 Z) (ws : List Jvm.Cond) (n0 : Nat) (h0 : Heap) (O0 : Old Z n0 h0)  (b814 : Addr)  :
  Meets1 l ym36 B2_ 1 none ws (mkR 1 0 0 12) #[(.ref b814)] Z h0 (fun v h L => v = none ∧ Fr n0 L ∧ Keep h0 h []) := by
 refine own_start n0 (plainFor_of_name pn32) (fun m => ef32_r m b814) ?_
 intro p e s m below meth c s₁ hns hrt hZ hx hby hml hown hnm X0 e0 N0
 have K0 := Keep.refl h0 []
 refine walN X0 hx hby d32_0 rfl rfl ?_
 obtain ⟨T819, X819, e819, st819⟩ := initO X0 hx hZ hown (ow hw 235 rfl) (ow hw 23 rfl) (ow hw 24 rfl) e0 (g := (mkF m 1 #[cr b814] [(.ref b814)])) rfl (by rw [hml]; rfl) rfl (hb hby d32_1) (by decide) (W := 0) (own_w rfl) (by decide)
 refine Ends.go st819 ?_
 refine Ends.retV X819 hx hns hrt (hb hby d32_4) (by decide) (by decide) ?_
 rw [e819]
 exact ⟨rfl, N0, K0⟩

theorem d31_0 : decode B30_ 0 = .ok (.aload_n 0, 1) := by decide +kernel
theorem d31_1 : decode B30_ 1 = .ok (.invokespecial 1, 3) := by decide +kernel
theorem d31_4 : decode B30_ 4 = .ok (.return_, 1) := by decide +kernel
theorem pn31 : plainName "java/util/AbstractSet" = true := by first | (simp [plainName, overriddenIn]; done) | decide +kernel
theorem ef31_r (m : MethodId) (x0 : Addr) : entryFrame m #[(.ref x0)] 1 = mkF m 0 #[.val (.ref x0)] [] := by first | (simp [entryFrame, mkF, argsToLocals, Value.category]; done) | rfl
theorem rx31_817 (l : Launch) (Z : State) (a0 : Array Value) (hw : HW a0 Z) (ws : List Jvm.Cond) (n0 : Nat) (h0 : Heap) (O0 : Old Z n0 h0)  (b814 : Addr)  :
  Meets1 l ym37 B30_ 1 none ws (mkR 2 0 0 24) #[(.ref b814)] Z h0 (fun v h L => v = none ∧ Fr n0 L ∧ Keep h0 h []) := by
 refine own_start n0 (plainFor_of_name pn31) (fun m => ef31_r m b814) ?_
 intro p e s m below meth c s₁ hns hrt hZ hx hby hml hown hnm X0 e0 N0
 have K0 := Keep.refl h0 []
 refine walN X0 hx hby d31_0 rfl rfl ?_
 obtain ⟨_, _, ⟨T820, L820, k820, n820⟩, -, X820, ⟨Lc820, hQ820, l820, y820, z820⟩, st820⟩ := X0.specialBack hx (y := ym36) rfl hown (ov hZ hw 229 rfl) (ov hZ hw 230 rfl) (ov hZ hw 234 rfl) (by decide) (own_backOf (W := 0) (rx32_818 l Z a0 hw [] n0 h0 O0  b814 ) hZ (ow hw 234 rfl) (ow hw 233 rfl) (by decide) (by decide)) (g := (mkF m 1 #[cr b814] [(.ref b814)])) rfl (by rw [hml]; rfl) (Steps.refl _) (a := b814) (argsL := []) (rest := []) (lenOf pdx_11 rfl) rfl (own_w rfl) (hb hby d31_1) (fun _ _ => ⟨rfl, e0, (by decide : 0 + 0 ≤ _), (by decide : 0 + 0 ≤ _)⟩)
 dsimp only [Pt.U, Pt.locs, Pt.cells, Pt.slots] at X820 l820 y820 z820 st820 hQ820
 subst l820 y820 z820
 obtain ⟨rfl, N820q, K820c⟩ := hQ820
 have N820 := Fr.app N0 N820q
 refine Ends.go (fun _ k => st820.trans k) ?_
 obtain ⟨h820, e820⟩ : ∃ z, T820.heap = z := ⟨_, rfl⟩
 rw [e820] at K820c
 have K820 := K0.trans K820c all0
 refine Ends.retV X820 hx hns hrt (hb hby d31_4) (by decide) (by decide) ?_
 rw [e820]
 exact ⟨rfl, N820, K820⟩

theorem d30_0 : decode B0_ 0 = .ok (.aload_n 0, 1) := by decide +kernel
theorem d30_1 : decode B0_ 1 = .ok (.aload_n 1, 1) := by decide +kernel
theorem d30_2 : decode B0_ 2 = .ok (.putfield 1, 3) := by decide +kernel
theorem d30_5 : decode B0_ 5 = .ok (.aload_n 0, 1) := by decide +kernel
theorem d30_6 : decode B0_ 6 = .ok (.invokespecial 7, 3) := by decide +kernel
theorem d30_9 : decode B0_ 9 = .ok (.aload_n 0, 1) := by decide +kernel
theorem d30_10 : decode B0_ 10 = .ok (.iload_n 2, 1) := by decide +kernel
theorem d30_11 : decode B0_ 11 = .ok (.putfield 13, 3) := by decide +kernel
theorem d30_14 : decode B0_ 14 = .ok (.return_, 1) := by decide +kernel
theorem pn30 : plainName "java/util/LinkedHashMap$LinkedEntrySet" = true := by first | (simp [plainName, overriddenIn]; done) | decide +kernel
theorem ef30_rri (m : MethodId) (x0 : Addr) (x1 : Addr) (x2 : Int32) : entryFrame m #[(.ref x0), (.ref x1), (.int x2)] 3 = mkF m 0 #[.val (.ref x0), .val (.ref x1), .val (.int x2)] [] := by first | (simp [entryFrame, mkF, argsToLocals, Value.category]; done) | rfl
theorem rx30_815 (l : Launch) (Z : State) (a0 : Array Value) (hw : HW a0 Z) (ws : List Jvm.Cond) (n0 : Nat) (h0 : Heap) (O0 : Old Z n0 h0)  (b814 : Addr) (b652 : Addr) (Pa0 : Exa Z h0 b814 qs35) (Pa1 : Fld Z h0 b814 qs35 "this$0" qs36 .null) (Pa2 : Fld Z h0 b814 qs35 "reversed" "Z" (.int 0)) (g_b814 : n0 ≤ b814) :
  Meets1 l ym38 B0_ 3 none ws (mkR 3 0 0 36) #[(.ref b814), (.ref b652), (.int 0)] Z h0 (fun v h L => v = none ∧ Fr n0 L ∧ Keep h0 h [b814] ∧ Fld Z h b814 qs35 "this$0" qs36 (.ref b652) ∧ Fld Z h b814 qs35 "reversed" "Z" (.int 0)) := by
 refine own_start n0 (plainFor_of_name pn30) (fun m => ef30_rri m b814 b652 (0 : Int32)) ?_
 intro p e s m below meth c s₁ hns hrt hZ hx hby hml hown hnm X0 e0 N0
 have K0 := Keep.refl h0 [b814]
 refine walN X0 hx hby d30_0 rfl rfl ?_
 refine walN X0 hx hby d30_1 rfl rfl ?_
 obtain ⟨T816, h816, X816, e816, W816, st816⟩ := putF X0 hx hZ hown (host := "") (Or.inl (ow hw 221 rfl)) Via.refl e0 Pa1 Pa0 (Or.inr ⟨(ow hw 222 rfl), rfl, hnm⟩) (ow hw 215 rfl) (ty := (.object cLHM)) (by decide) rfl rfl (g := (mkF m 2 #[cr b814, cr b652, ci 0] [(.ref b652), (.ref b814)])) rfl rfl (hb hby d30_2)
 refine Ends.go st816 ?_
 have Fw816 := Pa1.same W816
 have K816 := K0.wr W816 (mi 0 rfl)
 have O816 := O0.wr W816 g_b814
 have N816 := Fr.snoc X816 N0 g_b814
 refine walN X816 hx hby d30_5 rfl rfl ?_
 obtain ⟨_, _, ⟨T821, L821, k821, n821⟩, -, X821, ⟨Lc821, hQ821, l821, y821, z821⟩, st821⟩ := X816.specialBack hx (y := ym37) rfl hown (ov hZ hw 223 rfl) (ov hZ hw 224 rfl) (ov hZ hw 228 rfl) (by decide) (own_backOf (W := 0) (rx31_817 l Z a0 hw [] n0 h816 O816  b814 ) hZ (ow hw 228 rfl) (ow hw 227 rfl) (by decide) (by decide)) (g := (mkF m 6 #[cr b814, cr b652, ci 0] [(.ref b814)])) rfl (by rw [hml]; rfl) (Steps.refl _) (a := b814) (argsL := []) (rest := []) (lenOf pdx_11 rfl) rfl (own_w rfl) (hb hby d30_6) (fun _ _ => ⟨rfl, e816, (by decide : 0 + 0 ≤ _), (by decide : 0 + 0 ≤ _)⟩)
 dsimp only [Pt.U, Pt.locs, Pt.cells, Pt.slots] at X821 l821 y821 z821 st821 hQ821
 subst l821 y821 z821
 obtain ⟨rfl, N821q, K821c⟩ := hQ821
 have N821 := Fr.app N816 N821q
 refine Ends.go (fun _ k => st821.trans k) ?_
 obtain ⟨h821, e821⟩ : ∃ z, T821.heap = z := ⟨_, rfl⟩
 rw [e821] at K821c
 have K821 := K816.trans K821c all0
 refine walN X821 hx hby d30_9 rfl rfl ?_
 refine wilN X821 hx hby d30_10 rfl ?_
 have c822 := (Pa2.other W816 (sff hw 237 rfl 222 rfl)).keep K821c nin0
 obtain ⟨T823, h823, X823, e823, W823, st823⟩ := putFN X821 hx hZ hown (ow hw 236 rfl) Via.refl e821 c822 ((Pa0.wr W816).keep K821c) (Or.inr ⟨(ow hw 237 rfl), rfl, hnm⟩) (ow hw 215 rfl) (ty := .boolean) (v' := (.int 0)) (by decide) rfl (by decide) (g := (mkF m 11 #[cr b814, cr b652, ci 0] [(.int 0), (.ref b814)])) rfl rfl (hb hby d30_11)
 refine Ends.go st823 ?_
 have Fw823 := c822.same W823
 have K823 := K821.wr W823 (mi 0 rfl)
 have N823 := Fr.snoc X823 N821 g_b814
 refine Ends.retV X823 hx hns hrt (hb hby d30_14) (by decide) (by decide) ?_
 rw [e823]
 have c824 := (Fw816.keep K821c nin0).other W823 (sff hw 222 rfl 237 rfl)
 exact ⟨rfl, N823, K823, c824, Fw823⟩

theorem d29_0 : decode B35_ 0 = .ok (.aload_n 0, 1) := by decide +kernel
theorem d29_1 : decode B35_ 1 = .ok (.getfield 151, 3) := by decide +kernel
theorem d29_4 : decode B35_ 4 = .ok (.astore_n 1, 1) := by decide +kernel
theorem d29_5 : decode B35_ 5 = .ok (.aload_n 1, 1) := by decide +kernel
theorem d29_6 : decode B35_ 6 = .ok (.ifnonnull 20, 3) := by decide +kernel
theorem d29_9 : decode B35_ 9 = .ok (.new 154, 3) := by decide +kernel
theorem d29_12 : decode B35_ 12 = .ok (.dup, 1) := by decide +kernel
theorem d29_13 : decode B35_ 13 = .ok (.aload_n 0, 1) := by decide +kernel
theorem d29_14 : decode B35_ 14 = .ok (.iconst 0, 1) := by decide +kernel
theorem d29_15 : decode B35_ 15 = .ok (.invokespecial 156, 3) := by decide +kernel
theorem d29_18 : decode B35_ 18 = .ok (.astore_n 2, 1) := by decide +kernel
theorem d29_19 : decode B35_ 19 = .ok (.aload_n 0, 1) := by decide +kernel
theorem d29_20 : decode B35_ 20 = .ok (.aload_n 2, 1) := by decide +kernel
theorem d29_21 : decode B35_ 21 = .ok (.putfield 151, 3) := by decide +kernel
theorem d29_24 : decode B35_ 24 = .ok (.aload_n 2, 1) := by decide +kernel
theorem d29_25 : decode B35_ 25 = .ok (.areturn, 1) := by decide +kernel
theorem pn29 : plainName "java/util/LinkedHashMap" = true := by first | (simp [plainName, overriddenIn]; done) | decide +kernel
theorem pdx_25 : parseMethodDescriptor "(Ljava/util/LinkedHashMap;Z)V" = some ⟨[(.object "java/util/LinkedHashMap"), .boolean], none⟩ := by decide +kernel
theorem ef29_r (m : MethodId) (x0 : Addr) : entryFrame m #[(.ref x0)] 3 = mkF m 0 #[.val (.ref x0), .unset, .unset] [] := by first | (simp [entryFrame, mkF, argsToLocals, Value.category]; done) | rfl
theorem rx29_812 (l : Launch) (Z : State) (a0 : Array Value) (hw : HW a0 Z) (ws : List Jvm.Cond) (n0 : Nat) (h0 : Heap) (O0 : Old Z n0 h0)  (b652 : Addr) (b800 : Addr) (b799 : Addr) (Pa0 : f22_ Z h0 b652 .null) (Pa1 : Exa Z h0 b652 cLHM) (Pa2 : f21_ Z h0 b652 (.int 1)) (Pa3 : f14_ Z h0 b652 (.int 0)) (Pa4 : f18_ Z h0 b652 (.ref b800)) (Pa5 : f19_ Z h0 b652 (.ref b800)) (Pa6 : f16_ Z h0 b652 (.ref b799)) (Pa7 : f17_ Z h0 b652 (.int 12)) (Pa8 : f13_ Z h0 b652 (.float (1061158912 : UInt32))) (Pa9 : f15_ Z h0 b652 (.int 0)) (Pa10 : f20_ Z h0 b652 (.int 1)) (g_b652 : n0 ≤ b652) :
  Meets1 l ym39 B35_ 3 (some (.object "java/util/SequencedSet")) ws (mkR 4 1 2 51) #[(.ref b652)] Z h0 (fun v h L => ∃ (b814 : Addr), v = some (.ref b814) ∧ Fr n0 L ∧ Keep h0 h [b652] ∧ h0.size ≤ b814 ∧ f22_ Z h b652 (.ref b814) ∧ Exa Z h b814 qs35 ∧ Fld Z h b814 qs35 "this$0" qs36 (.ref b652) ∧ Fld Z h b814 qs35 "reversed" "Z" (.int 0) ∧ f21_ Z h b652 (.int 1) ∧ f14_ Z h b652 (.int 0) ∧ f18_ Z h b652 (.ref b800) ∧ f19_ Z h b652 (.ref b800) ∧ f16_ Z h b652 (.ref b799) ∧ f17_ Z h b652 (.int 12) ∧ f13_ Z h b652 (.float (1061158912 : UInt32)) ∧ f15_ Z h b652 (.int 0) ∧ f20_ Z h b652 (.int 1)) := by
 refine own_start n0 (plainFor_of_name pn29) (fun m => ef29_r m b652) ?_
 intro p e s m below meth c s₁ hns hrt hZ hx hby hml hown hnm X0 e0 N0
 have K0 := Keep.refl h0 [b652]
 refine walN X0 hx hby d29_0 rfl rfl ?_
 obtain ⟨T813, X813, e813, st813⟩ := getF X0 hx hZ hown (host := "") (Or.inl (ow hw 211 rfl)) (Via.of (ow hw 212 rfl)) e0 Pa0 (g := (mkF m 1 #[cr b652, cu, cu] [(.ref b652)])) rfl rfl (hb hby d29_1)
 refine Ends.go st813 ?_
 refine wasN X813 hx hby d29_4 (l' := #[cr b652, .val .null, cu]) rfl rfl ?_
 refine walN X813 hx hby d29_5 rfl rfl ?_
 refine wnn X813 hx hby d29_6 ?_
 obtain ⟨T814, h814, X814, e814, E814, A814, D814, -, st814⟩ := newO X813 hx hZ hown (ow hw 214 rfl) (ow hw 215 rfl) (ow hw 216 rfl) e813 (g := (mkF m 9 #[cr b652, .val .null, cu] [])) rfl (hb hby d29_9) (by decide) (by decide)
 obtain ⟨b814, g814⟩ : ∃ z, z = h0.size := ⟨_, rfl⟩
 rw [← g814] at A814 D814 st814
 refine Ends.go st814 ?_
 have g_b814 : n0 ≤ b814 := Nat.le_trans (own_old_le O0) (Nat.le_of_eq g814.symm)
 have sz_b814 : h0.size ≤ b814 := Nat.le_trans K0.1 (Nat.le_of_eq g814.symm)
 have K814 := K0.ext E814
 have O814 := O0.ext E814
 have F_this_0_b814 : Fld Z h814 b814 qs35 "this$0" qs36 .null := D814 (Or.inr (ow hw 222 rfl)) (ty := (.object cLHM)) (by decide)
 have F_reversed_b814 : Fld Z h814 b814 qs35 "reversed" "Z" (.int 0) := D814 (Or.inr (ow hw 237 rfl)) (ty := .boolean) (by decide)
 refine wdu X814 hx hby d29_12 rfl ?_
 refine walN X814 hx hby d29_13 rfl rfl ?_
 refine wic X814 hx hby d29_14 ?_
 obtain ⟨_, _, ⟨T825, L825, k825, n825⟩, -, X825, ⟨Lc825, hQ825, l825, y825, z825⟩, st825⟩ := X814.specialBack hx (y := ym38) rfl hown (ov hZ hw 217 rfl) (ov hZ hw 218 rfl) (ov hZ hw 220 rfl) (by decide) (own_backOf (W := 1) (rx30_815 l Z a0 hw [] n0 h814 O814  b814 b652 A814 F_this_0_b814 F_reversed_b814 g_b814) hZ (ow hw 220 rfl) (ow hw 216 rfl) (by decide) (by decide)) (g := (mkF m 15 #[cr b652, .val .null, cu] [(.int 0), (.ref b652), (.ref b814), (.ref b814)])) rfl (by rw [hml]; rfl) (Steps.refl _) (a := b814) (argsL := [(.ref b652), (.int 0)]) (rest := [(.ref b814)]) (lenOf pdx_25 rfl) rfl (own_w rfl) (hb hby d29_15) (fun _ _ => ⟨rfl, e814, (by decide : 1 + 0 ≤ _), (by decide : 2 + 0 ≤ _)⟩)
 dsimp only [Pt.U, Pt.locs, Pt.cells, Pt.slots] at X825 l825 y825 z825 st825 hQ825
 subst l825 y825 z825
 obtain ⟨rfl, N825q, K825c, Y825_0, Y825_1⟩ := hQ825
 have N825 := Fr.app N0 N825q
 refine Ends.go (fun _ k => st825.trans k) ?_
 obtain ⟨h825, e825⟩ : ∃ z, T825.heap = z := ⟨_, rfl⟩
 rw [e825] at K825c Y825_0 Y825_1
 have K825 := K814.trans K825c (allS (Or.inr sz_b814) all0)
 refine wasN X825 hx hby d29_18 (l' := #[cr b652, .val .null, cr b814]) rfl rfl ?_
 refine walN X825 hx hby d29_19 rfl rfl ?_
 refine walN X825 hx hby d29_20 rfl rfl ?_
 have c826 := (Pa0.ext E814).keep K825c (ninS (Nat.ne_of_lt (Nat.lt_of_lt_of_le Pa0.lt sz_b814)) nin0)
 obtain ⟨T827, h827, X827, e827, W827, st827⟩ := putF X825 hx hZ hown (host := "") (Or.inl (ow hw 211 rfl)) (Via.of (ow hw 212 rfl)) e825 c826 ((Pa1.ext E814).keep K825c) (Or.inl (ow hw 213 rfl)) (ow hw 37 rfl) (ty := (.object qs22)) (by decide) rfl rfl (g := (mkF m 21 #[cr b652, .val .null, cr b814] [(.ref b814), (.ref b652)])) rfl rfl (hb hby d29_21)
 refine Ends.go st827 ?_
 have Fw827 := c826.same W827
 have K827 := K825.wr W827 (mi 0 rfl)
 have N827 := Fr.snoc X827 N825 g_b652
 refine walN X827 hx hby d29_24 rfl rfl ?_
 refine Ends.ret X827 hx hns (t := (.object "java/util/SequencedSet")) hrt rfl (Or.inr (Or.inr (Or.inr (Or.inr ⟨rfl, rfl, rfl⟩)))) (hb hby d29_25) (by decide) (by decide) ?_
 rw [e827]
 have c828 := ((Pa2.ext E814).keep K825c (ninS (Nat.ne_of_lt (Nat.lt_of_lt_of_le Pa0.lt sz_b814)) nin0)).other W827 (sll hw 169 rfl 213 rfl)
 have c829 := ((Pa3.ext E814).keep K825c (ninS (Nat.ne_of_lt (Nat.lt_of_lt_of_le Pa0.lt sz_b814)) nin0)).other W827 (sll hw 59 rfl 213 rfl)
 have c830 := ((Pa4.ext E814).keep K825c (ninS (Nat.ne_of_lt (Nat.lt_of_lt_of_le Pa0.lt sz_b814)) nin0)).other W827 (sll hw 163 rfl 213 rfl)
 have c831 := ((Pa5.ext E814).keep K825c (ninS (Nat.ne_of_lt (Nat.lt_of_lt_of_le Pa0.lt sz_b814)) nin0)).other W827 (sll hw 165 rfl 213 rfl)
 have c832 := ((Pa6.ext E814).keep K825c (ninS (Nat.ne_of_lt (Nat.lt_of_lt_of_le Pa0.lt sz_b814)) nin0)).other W827 (sll hw 119 rfl 213 rfl)
 have c833 := ((Pa7.ext E814).keep K825c (ninS (Nat.ne_of_lt (Nat.lt_of_lt_of_le Pa0.lt sz_b814)) nin0)).other W827 (sll hw 126 rfl 213 rfl)
 have c834 := ((Pa8.ext E814).keep K825c (ninS (Nat.ne_of_lt (Nat.lt_of_lt_of_le Pa0.lt sz_b814)) nin0)).other W827 (sfl hw 57 rfl 213 rfl)
 have c835 := ((Pa9.ext E814).keep K825c (ninS (Nat.ne_of_lt (Nat.lt_of_lt_of_le Pa0.lt sz_b814)) nin0)).other W827 (sfl hw 61 rfl 213 rfl)
 have c836 := ((Pa10.ext E814).keep K825c (ninS (Nat.ne_of_lt (Nat.lt_of_lt_of_le Pa0.lt sz_b814)) nin0)).other W827 (sll hw 167 rfl 213 rfl)
 have c837 := Y825_0.other W827 (Or.inl (Ne.symm (Nat.ne_of_lt (Nat.lt_of_lt_of_le Pa0.lt sz_b814))))
 have c838 := Y825_1.other W827 (Or.inl (Ne.symm (Nat.ne_of_lt (Nat.lt_of_lt_of_le Pa0.lt sz_b814))))
 exact ⟨b814, rfl, N827, K827, sz_b814, Fw827, ((A814.keep K825c).wr W827), c837, c838, c828, c829, c830, c831, c832, c833, c834, c835, c836⟩

theorem d28_0 : decode B34_ 0 = .ok (.aload_n 0, 1) := by decide +kernel
theorem d28_1 : decode B34_ 1 = .ok (.invokevirtual 148, 3) := by decide +kernel
theorem d28_4 : decode B34_ 4 = .ok (.areturn, 1) := by decide +kernel
theorem pn28 : plainName "java/util/LinkedHashMap" = true := by first | (simp [plainName, overriddenIn]; done) | decide +kernel
theorem pdx_26 : parseMethodDescriptor "()Ljava/util/SequencedSet;" = some ⟨[], some (.object "java/util/SequencedSet")⟩ := by decide +kernel
theorem ef28_r (m : MethodId) (x0 : Addr) : entryFrame m #[(.ref x0)] 1 = mkF m 0 #[.val (.ref x0)] [] := by first | (simp [entryFrame, mkF, argsToLocals, Value.category]; done) | rfl
theorem rx28_811 (l : Launch) (Z : State) (a0 : Array Value) (hw : HW a0 Z) (ws : List Jvm.Cond) (n0 : Nat) (h0 : Heap) (O0 : Old Z n0 h0)  (b652 : Addr) (b800 : Addr) (b799 : Addr) (Pa0 : f22_ Z h0 b652 .null) (Pa1 : Exa Z h0 b652 cLHM) (Pa2 : f21_ Z h0 b652 (.int 1)) (Pa3 : f14_ Z h0 b652 (.int 0)) (Pa4 : f18_ Z h0 b652 (.ref b800)) (Pa5 : f19_ Z h0 b652 (.ref b800)) (Pa6 : f16_ Z h0 b652 (.ref b799)) (Pa7 : f17_ Z h0 b652 (.int 12)) (Pa8 : f13_ Z h0 b652 (.float (1061158912 : UInt32))) (Pa9 : f15_ Z h0 b652 (.int 0)) (Pa10 : f20_ Z h0 b652 (.int 1)) (g_b652 : n0 ≤ b652) :
  Meets1 l ym40 B34_ 1 (some (.object qs22)) ws (mkR 5 1 2 65) #[(.ref b652)] Z h0 (fun v h L => ∃ (b840 : Addr), v = some (.ref b840) ∧ Fr n0 L ∧ Keep h0 h [b652] ∧ h0.size ≤ b840 ∧ f22_ Z h b652 (.ref b840) ∧ Exa Z h b840 qs35 ∧ Fld Z h b840 qs35 "this$0" qs36 (.ref b652) ∧ Fld Z h b840 qs35 "reversed" "Z" (.int 0) ∧ f21_ Z h b652 (.int 1) ∧ f14_ Z h b652 (.int 0) ∧ f18_ Z h b652 (.ref b800) ∧ f19_ Z h b652 (.ref b800) ∧ f16_ Z h b652 (.ref b799) ∧ f17_ Z h b652 (.int 12) ∧ f13_ Z h b652 (.float (1061158912 : UInt32)) ∧ f15_ Z h b652 (.int 0) ∧ f20_ Z h b652 (.int 1)) := by
 refine own_start n0 (plainFor_of_name pn28) (fun m => ef28_r m b652) ?_
 intro p e s m below meth c s₁ hns hrt hZ hx hby hml hown hnm X0 e0 N0
 have K0 := Keep.refl h0 [b652]
 refine walN X0 hx hby d28_0 rfl rfl ?_
 refine wvb X0 hx hZ hown hw hml rfl hby d28_1 206 rfl 207 rfl 209 rfl 208 rfl (by decide) e0 Pa1 (rx29_812 l Z a0 hw [] n0 h0 O0  b652 b800 b799 Pa0 Pa1 Pa2 Pa3 Pa4 Pa5 Pa6 Pa7 Pa8 Pa9 Pa10 g_b652) 210 rfl 38 rfl (by decide) (by decide) [] [] pdx_26 rfl rfl rfl (by decide) (by decide) rfl ?_
 intro _ T839 _ X839 hQ839
 obtain ⟨b840, rfl, N839q, K839c, hb839_b840, Y839_0, Y839_1, Y839_2, Y839_3, Y839_4, Y839_5, Y839_6, Y839_7, Y839_8, Y839_9, Y839_10, Y839_11, Y839_12⟩ := hQ839
 have N839 := Fr.app N0 N839q
 have sz_b840 : h0.size ≤ b840 := Nat.le_trans K0.1 hb839_b840
 obtain ⟨h839, e839⟩ : ∃ z, T839.heap = z := ⟨_, rfl⟩
 rw [e839] at K839c Y839_0 Y839_1 Y839_2 Y839_3 Y839_4 Y839_5 Y839_6 Y839_7 Y839_8 Y839_9 Y839_10 Y839_11 Y839_12
 have K839 := K0.trans K839c (allS (mi 0 rfl) all0)
 refine Ends.ret X839 hx hns (t := (.object qs22)) hrt rfl (Or.inr (Or.inr (Or.inr (Or.inr ⟨rfl, rfl, rfl⟩)))) (hb hby d28_4) (by decide) (by decide) ?_
 rw [e839]
 exact ⟨b840, rfl, N839, K839, sz_b840, Y839_0, Y839_1, Y839_2, Y839_3, Y839_4, Y839_5, Y839_6, Y839_7, Y839_8, Y839_9, Y839_10, Y839_11, Y839_12⟩

theorem d35_0 : decode B6_ 0 = .ok (.aload_n 0, 1) := by decide +kernel
theorem d35_1 : decode B6_ 1 = .ok (.aload_n 1, 1) := by decide +kernel
theorem d35_2 : decode B6_ 2 = .ok (.putfield 1, 3) := by decide +kernel
theorem d35_5 : decode B6_ 5 = .ok (.aload_n 0, 1) := by decide +kernel
theorem d35_6 : decode B6_ 6 = .ok (.invokespecial 7, 3) := by decide +kernel
theorem d35_9 : decode B6_ 9 = .ok (.aload_n 0, 1) := by decide +kernel
theorem d35_10 : decode B6_ 10 = .ok (.iload_n 2, 1) := by decide +kernel
theorem d35_11 : decode B6_ 11 = .ok (.putfield 13, 3) := by decide +kernel
theorem d35_14 : decode B6_ 14 = .ok (.aload_n 0, 1) := by decide +kernel
theorem d35_15 : decode B6_ 15 = .ok (.iload_n 2, 1) := by decide +kernel
theorem d35_16 : decode B6_ 16 = .ok (.ifCond .eq 10, 3) := by decide +kernel
theorem d35_26 : decode B6_ 26 = .ok (.aload_n 1, 1) := by decide +kernel
theorem d35_27 : decode B6_ 27 = .ok (.getfield 23, 3) := by decide +kernel
theorem d35_30 : decode B6_ 30 = .ok (.putfield 26, 3) := by decide +kernel
theorem d35_33 : decode B6_ 33 = .ok (.aload_n 0, 1) := by decide +kernel
theorem d35_34 : decode B6_ 34 = .ok (.aload_n 1, 1) := by decide +kernel
theorem d35_35 : decode B6_ 35 = .ok (.getfield 29, 3) := by decide +kernel
theorem d35_38 : decode B6_ 38 = .ok (.putfield 33, 3) := by decide +kernel
theorem d35_41 : decode B6_ 41 = .ok (.aload_n 0, 1) := by decide +kernel
theorem d35_42 : decode B6_ 42 = .ok (.aconst_null, 1) := by decide +kernel
theorem d35_43 : decode B6_ 43 = .ok (.putfield 36, 3) := by decide +kernel
theorem d35_46 : decode B6_ 46 = .ok (.return_, 1) := by decide +kernel
theorem pn35 : plainName "java/util/LinkedHashMap$LinkedHashIterator" = true := by first | (simp [plainName, overriddenIn]; done) | decide +kernel
theorem pdx_27 : parseMethodDescriptor "()Ljava/util/Set;" = some ⟨[], some (.object "java/util/Set")⟩ := by decide +kernel
theorem ef35_rri (m : MethodId) (x0 : Addr) (x1 : Addr) (x2 : Int32) : entryFrame m #[(.ref x0), (.ref x1), (.int x2)] 3 = mkF m 0 #[.val (.ref x0), .val (.ref x1), .val (.int x2)] [] := by first | (simp [entryFrame, mkF, argsToLocals, Value.category]; done) | rfl
theorem rx35_848 (l : Launch) (Z : State) (a0 : Array Value) (hw : HW a0 Z) (ws : List Jvm.Cond) (n0 : Nat) (h0 : Heap) (O0 : Old Z n0 h0)  (b844 : Addr) (b652 : Addr) (b800 : Addr) (Pa0 : Exa Z h0 b844 cLJ) (Pa1 : f28_ Z h0 b844 .null) (Pa2 : f29_ Z h0 b844 (.int 0)) (Pa3 : f19_ Z h0 b652 (.ref b800)) (Pa4 : f30_ Z h0 b844 .null) (Pa5 : f20_ Z h0 b652 (.int 1)) (Pa6 : f31_ Z h0 b844 (.int 0)) (Pa7 : f32_ Z h0 b844 .null) (ne_b652_b844 : b652 ≠ b844) (g_b844 : n0 ≤ b844) :
  Meets1 l ym41 B6_ 3 none ws (mkR 1 0 0 12) #[(.ref b844), (.ref b652), (.int 0)] Z h0 (fun v h L => v = none ∧ Fr n0 L ∧ Keep h0 h [b844] ∧ f28_ Z h b844 (.ref b652) ∧ f29_ Z h b844 (.int 0) ∧ f30_ Z h b844 (.ref b800) ∧ f31_ Z h b844 (.int 1) ∧ f32_ Z h b844 .null) := by
 refine MetFree.of_bodySF (plainFor_of_name pn35) hisR ?_
 intro p e s m args below meth c s₁ Bd hml0 hP hK
 obtain ⟨rfl, hZ, hh⟩ := hP
 have hx := Bd.exec
 have hby := Bd.bytes
 have hml : c.maxLocals = 3 := hml0
 have hown : s.vm.findClass "java/util/LinkedHashMap$LinkedHashIterator" = some m.cls := findClass_of_methodNamed Bd.named
 have hnm := (name_of_methodNamed Bd.named Bd.method).1
 have X0 : Stand p l e (mkR 1 0 0 12) s m #[(.ref b844), (.ref b652), (.int 0)] below meth c s₁ [] 0 0 := Stand.of_body Bd
 have e0 : s₁.heap = h0 := by rw [← hh, Bd.state]; rfl
 have N0 := Fr.nil n0
 show Ends _ _ _ _ s₁ (entryFrame m #[(.ref b844), (.ref b652), (.int 0)] 3) (mkR 1 0 0 12).cells (mkR 1 0 0 12).slots (fun v h L => v = none ∧ Fr n0 L ∧ Keep h0 h [b844] ∧ f28_ Z h b844 (.ref b652) ∧ f29_ Z h b844 (.int 0) ∧ f30_ Z h b844 (.ref b800) ∧ f31_ Z h b844 (.int 1) ∧ f32_ Z h b844 .null)
 refine Ends.go (fun _ k => castTop (ef35_rri m b844 b652 (0 : Int32)) k) ?_
 have K0 := Keep.refl h0 [b844]
 show Ends _ _ _ _ s₁ (mkF m 0 #[cr b844, cr b652, ci 0] []) _ _ _
 refine walN X0 hx hby d35_0 rfl rfl ?_
 refine walN X0 hx hby d35_1 rfl rfl ?_
 obtain ⟨T849, h849, X849, e849, W849, st849⟩ := putF X0 hx hZ hown (host := "") (Or.inl (ow hw 260 rfl)) Via.refl e0 Pa1 Pa0 (Or.inr ⟨(ow hw 261 rfl), rfl, hnm⟩) (ow hw 248 rfl) (ty := (.object cLHM)) (by decide) rfl rfl (g := (mkF m 2 #[cr b844, cr b652, ci 0] [(.ref b652), (.ref b844)])) rfl rfl (hb hby d35_2)
 refine Ends.go st849 ?_
 have Fw849 := Pa1.same W849
 have K849 := K0.wr W849 (mi 0 rfl)
 have N849 := Fr.snoc X849 N0 g_b844
 refine walN X849 hx hby d35_5 rfl rfl ?_
 obtain ⟨T850, X850, e850, st850⟩ := initO X849 hx hZ hown (ow hw 262 rfl) (ow hw 23 rfl) (ow hw 24 rfl) e849 (g := (mkF m 6 #[cr b844, cr b652, ci 0] [(.ref b844)])) rfl (by rw [hml]; rfl) rfl (hb hby d35_6) (by decide) (W := 0) (own_w rfl) (by decide)
 refine Ends.go st850 ?_
 refine walN X850 hx hby d35_9 rfl rfl ?_
 refine wilN X850 hx hby d35_10 rfl ?_
 have c851 := Pa2.other W849 (slf hw 264 rfl 261 rfl)
 obtain ⟨T852, h852, X852, e852, W852, st852⟩ := putFN X850 hx hZ hown (ow hw 263 rfl) Via.refl e850 c851 (Pa0.wr W849) (Or.inl (ow hw 264 rfl)) (ow hw 248 rfl) (ty := .boolean) (v' := (.int 0)) (by decide) rfl (by decide) (g := (mkF m 11 #[cr b844, cr b652, ci 0] [(.int 0), (.ref b844)])) rfl rfl (hb hby d35_11)
 refine Ends.go st852 ?_
 have Fw852 := c851.same W852
 have K852 := K849.wr W852 (mi 0 rfl)
 have N852 := Fr.snoc X852 N849 g_b844
 refine walN X852 hx hby d35_14 rfl rfl ?_
 refine wilN X852 hx hby d35_15 rfl ?_
 refine wiy (pc := 16) (pc' := 26) X852 hx hby d35_16 ((if0 _ _).trans (teq (by decide : (0 : Int32) = (0 : Int32))).1) ?_
 refine walN X852 hx hby d35_26 rfl rfl ?_
 have c853 := (Pa3.other W849 (Or.inl ne_b652_b844)).other W852 (Or.inl ne_b652_b844)
 refine wgf X852 hx hZ hown hw 265 rfl e852 c853 hby d35_27 ?_
 intro T854 X854 e854
 have c855 := (Pa4.other W849 (slf hw 267 rfl 261 rfl)).other W852 (sll hw 267 rfl 264 rfl)
 refine wpf X854 hx hZ hown hw 266 rfl e854 c855 ((Pa0.wr W849).wr W852) 267 rfl 248 rfl (ty := (.object cLE)) (by decide) rfl rfl hby d35_30 ?_
 intro T856 h856 X856 e856 W856
 have Fw856 := c855.same W856
 have K856 := K852.wr W856 (mi 0 rfl)
 have N856 := Fr.snoc X856 N852 g_b844
 refine walN X856 hx hby d35_33 rfl rfl ?_
 refine walN X856 hx hby d35_34 rfl rfl ?_
 have c857 := ((Pa5.other W849 (Or.inl ne_b652_b844)).other W852 (Or.inl ne_b652_b844)).other W856 (Or.inl ne_b652_b844)
 obtain ⟨T858, X858, e858, st858⟩ := getF X856 hx hZ hown (host := "") (Or.inl (ow hw 268 rfl)) (Via.of (ow hw 269 rfl)) e856 c857 (g := (mkF m 35 #[cr b844, cr b652, ci 0] [(.ref b652), (.ref b844)])) rfl rfl (hb hby d35_35)
 refine Ends.go st858 ?_
 have c859 := ((Pa6.other W849 (slf hw 271 rfl 261 rfl)).other W852 (sll hw 271 rfl 264 rfl)).other W856 (sll hw 271 rfl 267 rfl)
 refine wpf X858 hx hZ hown hw 270 rfl e858 c859 (((Pa0.wr W849).wr W852).wr W856) 271 rfl 248 rfl (ty := .int) (by decide) rfl rfl hby d35_38 ?_
 intro T860 h860 X860 e860 W860
 have Fw860 := c859.same W860
 have K860 := K856.wr W860 (mi 0 rfl)
 have N860 := Fr.snoc X860 N856 g_b844
 refine walN X860 hx hby d35_41 rfl rfl ?_
 refine wnu X860 hx hby d35_42 ?_
 have c861 := (((Pa7.other W849 (slf hw 273 rfl 261 rfl)).other W852 (sll hw 273 rfl 264 rfl)).other W856 (sll hw 273 rfl 267 rfl)).other W860 (sll hw 273 rfl 271 rfl)
 refine wpf X860 hx hZ hown hw 272 rfl e860 c861 ((((Pa0.wr W849).wr W852).wr W856).wr W860) 273 rfl 248 rfl (ty := (.object cLE)) (by decide) rfl rfl hby d35_43 ?_
 intro T862 h862 X862 e862 W862
 have Fw862 := c861.same W862
 have K862 := K860.wr W862 (mi 0 rfl)
 have N862 := Fr.snoc X862 N860 g_b844
 refine Ends.retV X862 hx Bd.notSynchronized Bd.returns (hb hby d35_46) (by decide) (by decide) ?_
 rw [e862]
 have c863 := (((Fw849.other W852 (sfl hw 261 rfl 264 rfl)).other W856 (sfl hw 261 rfl 267 rfl)).other W860 (sfl hw 261 rfl 271 rfl)).other W862 (sfl hw 261 rfl 273 rfl)
 have c864 := ((Fw852.other W856 (sll hw 264 rfl 267 rfl)).other W860 (sll hw 264 rfl 271 rfl)).other W862 (sll hw 264 rfl 273 rfl)
 have c865 := (Fw856.other W860 (sll hw 267 rfl 271 rfl)).other W862 (sll hw 267 rfl 273 rfl)
 have c866 := Fw860.other W862 (sll hw 271 rfl 273 rfl)
 exact ⟨rfl, N862, K862, c863, c864, c865, c866, Fw862⟩

theorem d34_0 : decode B3_ 0 = .ok (.aload_n 0, 1) := by decide +kernel
theorem d34_1 : decode B3_ 1 = .ok (.aload_n 1, 1) := by decide +kernel
theorem d34_2 : decode B3_ 2 = .ok (.iload_n 2, 1) := by decide +kernel
theorem d34_3 : decode B3_ 3 = .ok (.invokespecial 1, 3) := by decide +kernel
theorem d34_6 : decode B3_ 6 = .ok (.return_, 1) := by decide +kernel
theorem pn34 : plainName "java/util/LinkedHashMap$LinkedEntryIterator" = true := by first | (simp [plainName, overriddenIn]; done) | decide +kernel
theorem ef34_rri (m : MethodId) (x0 : Addr) (x1 : Addr) (x2 : Int32) : entryFrame m #[(.ref x0), (.ref x1), (.int x2)] 3 = mkF m 0 #[.val (.ref x0), .val (.ref x1), .val (.int x2)] [] := by first | (simp [entryFrame, mkF, argsToLocals, Value.category]; done) | rfl
theorem rx34_847 (l : Launch) (Z : State) (a0 : Array Value) (hw : HW a0 Z) (ws : List Jvm.Cond) (n0 : Nat) (h0 : Heap) (O0 : Old Z n0 h0)  (b844 : Addr) (b652 : Addr) (b800 : Addr) (Pa0 : Exa Z h0 b844 cLJ) (Pa1 : f28_ Z h0 b844 .null) (Pa2 : f29_ Z h0 b844 (.int 0)) (Pa3 : f19_ Z h0 b652 (.ref b800)) (Pa4 : f30_ Z h0 b844 .null) (Pa5 : f20_ Z h0 b652 (.int 1)) (Pa6 : f31_ Z h0 b844 (.int 0)) (Pa7 : f32_ Z h0 b844 .null) (ne_b652_b844 : b652 ≠ b844) (g_b844 : n0 ≤ b844) :
  Meets1 l ym42 B3_ 3 none ws (mkR 2 0 0 26) #[(.ref b844), (.ref b652), (.int 0)] Z h0 (fun v h L => v = none ∧ Fr n0 L ∧ Keep h0 h [b844] ∧ f28_ Z h b844 (.ref b652) ∧ f29_ Z h b844 (.int 0) ∧ f30_ Z h b844 (.ref b800) ∧ f31_ Z h b844 (.int 1) ∧ f32_ Z h b844 .null) := by
 refine own_start n0 (plainFor_of_name pn34) (fun m => ef34_rri m b844 b652 (0 : Int32)) ?_
 intro p e s m below meth c s₁ hns hrt hZ hx hby hml hown hnm X0 e0 N0
 have K0 := Keep.refl h0 [b844]
 refine walN X0 hx hby d34_0 rfl rfl ?_
 refine walN X0 hx hby d34_1 rfl rfl ?_
 refine wilN X0 hx hby d34_2 rfl ?_
 obtain ⟨_, _, ⟨T867, L867, k867, n867⟩, -, X867, ⟨Lc867, hQ867, l867, y867, z867⟩, st867⟩ := X0.specialBack hx (y := ym41) rfl hown (ov hZ hw 254 rfl) (ov hZ hw 255 rfl) (ov hZ hw 259 rfl) (by decide) (own_backOf (W := 0) (rx35_848 l Z a0 hw [] n0 h0 O0  b844 b652 b800 Pa0 Pa1 Pa2 Pa3 Pa4 Pa5 Pa6 Pa7 ne_b652_b844 g_b844) hZ (ow hw 259 rfl) (ow hw 258 rfl) (by decide) (by decide)) (g := (mkF m 3 #[cr b844, cr b652, ci 0] [(.int 0), (.ref b652), (.ref b844)])) rfl (by rw [hml]; rfl) (Steps.refl _) (a := b844) (argsL := [(.ref b652), (.int 0)]) (rest := []) (lenOf pdx_25 rfl) rfl (own_w rfl) (hb hby d34_3) (fun _ _ => ⟨rfl, e0, (by decide : 0 + 0 ≤ _), (by decide : 0 + 0 ≤ _)⟩)
 dsimp only [Pt.U, Pt.locs, Pt.cells, Pt.slots] at X867 l867 y867 z867 st867 hQ867
 subst l867 y867 z867
 obtain ⟨rfl, N867q, K867c, Y867_0, Y867_1, Y867_2, Y867_3, Y867_4⟩ := hQ867
 have N867 := Fr.app N0 N867q
 refine Ends.go (fun _ k => st867.trans k) ?_
 obtain ⟨h867, e867⟩ : ∃ z, T867.heap = z := ⟨_, rfl⟩
 rw [e867] at K867c Y867_0 Y867_1 Y867_2 Y867_3 Y867_4
 have K867 := K0.trans K867c (allS (mi 0 rfl) all0)
 refine Ends.retV X867 hx hns hrt (hb hby d34_6) (by decide) (by decide) ?_
 rw [e867]
 exact ⟨rfl, N867, K867, Y867_0, Y867_1, Y867_2, Y867_3, Y867_4⟩

theorem d33_0 : decode B1_ 0 = .ok (.new 26, 3) := by decide +kernel
theorem d33_3 : decode B1_ 3 = .ok (.dup, 1) := by decide +kernel
theorem d33_4 : decode B1_ 4 = .ok (.aload_n 0, 1) := by decide +kernel
theorem d33_5 : decode B1_ 5 = .ok (.getfield 1, 3) := by decide +kernel
theorem d33_8 : decode B1_ 8 = .ok (.aload_n 0, 1) := by decide +kernel
theorem d33_9 : decode B1_ 9 = .ok (.getfield 13, 3) := by decide +kernel
theorem d33_12 : decode B1_ 12 = .ok (.invokespecial 28, 3) := by decide +kernel
theorem d33_15 : decode B1_ 15 = .ok (.areturn, 1) := by decide +kernel
theorem pn33 : plainName "java/util/LinkedHashMap$LinkedEntrySet" = true := by first | (simp [plainName, overriddenIn]; done) | decide +kernel
theorem ef33_r (m : MethodId) (x0 : Addr) : entryFrame m #[(.ref x0)] 1 = mkF m 0 #[.val (.ref x0)] [] := by first | (simp [entryFrame, mkF, argsToLocals, Value.category]; done) | rfl
theorem rx33_843 (l : Launch) (Z : State) (a0 : Array Value) (hw : HW a0 Z) (ws : List Jvm.Cond) (n0 : Nat) (h0 : Heap) (O0 : Old Z n0 h0)  (b842 : Addr) (b652 : Addr) (b800 : Addr) (Pa0 : Fld Z h0 b842 qs35 "this$0" qs36 (.ref b652)) (Pa1 : Fld Z h0 b842 qs35 "reversed" "Z" (.int 0)) (Pa2 : Exa Z h0 b652 cLHM) (Pa3 : f19_ Z h0 b652 (.ref b800)) (Pa4 : f20_ Z h0 b652 (.int 1)) :
  Meets1 l ym43 B1_ 1 (some (.object "java/util/Iterator")) ws (mkR 3 1 5 41) #[(.ref b842)] Z h0 (fun v h L => ∃ (b844 : Addr), v = some (.ref b844) ∧ Fr n0 L ∧ Keep h0 h [] ∧ h0.size ≤ b844 ∧ Exa Z h b844 cLJ ∧ f28_ Z h b844 (.ref b652) ∧ f29_ Z h b844 (.int 0) ∧ f30_ Z h b844 (.ref b800) ∧ f31_ Z h b844 (.int 1) ∧ f32_ Z h b844 .null) := by
 refine own_start n0 (plainFor_of_name pn33) (fun m => ef33_r m b842) ?_
 intro p e s m below meth c s₁ hns hrt hZ hx hby hml hown hnm X0 e0 N0
 have K0 := Keep.refl h0 []
 obtain ⟨T844, h844, X844, e844, E844, A844, D844, -, st844⟩ := newO X0 hx hZ hown (ow hw 247 rfl) (ow hw 248 rfl) (ow hw 249 rfl) e0 (g := (mkF m 0 #[cr b842] [])) rfl (hb hby d33_0) (by decide) (by decide)
 obtain ⟨b844, g844⟩ : ∃ z, z = h0.size := ⟨_, rfl⟩
 rw [← g844] at A844 D844 st844
 refine Ends.go st844 ?_
 have g_b844 : n0 ≤ b844 := Nat.le_trans (own_old_le O0) (Nat.le_of_eq g844.symm)
 have sz_b844 : h0.size ≤ b844 := Nat.le_trans K0.1 (Nat.le_of_eq g844.symm)
 have K844 := K0.ext E844
 have O844 := O0.ext E844
 have F_this_0_b844 : f28_ Z h844 b844 .null := D844 (Or.inr (ow hw 261 rfl)) (ty := (.object cLHM)) (by decide)
 have F_reversed_b844 : f29_ Z h844 b844 (.int 0) := D844 (Or.inl (ow hw 264 rfl)) (ty := .boolean) (by decide)
 have F_next_b844 : f30_ Z h844 b844 .null := D844 (Or.inl (ow hw 267 rfl)) (ty := (.object cLE)) (by decide)
 have F_expectedModCount_b844 : f31_ Z h844 b844 (.int 0) := D844 (Or.inl (ow hw 271 rfl)) (ty := .int) (by decide)
 have F_current_b844 : f32_ Z h844 b844 .null := D844 (Or.inl (ow hw 273 rfl)) (ty := (.object cLE)) (by decide)
 refine wdu X844 hx hby d33_3 rfl ?_
 refine walN X844 hx hby d33_4 rfl rfl ?_
 refine wgf X844 hx hZ hown hw 221 rfl e844 (Pa0.ext E844) hby d33_5 ?_
 intro T845 X845 e845
 refine walN X845 hx hby d33_8 rfl rfl ?_
 refine wgf X845 hx hZ hown hw 236 rfl e845 (Pa1.ext E844) hby d33_9 ?_
 intro T846 X846 e846
 obtain ⟨_, _, ⟨T868, L868, k868, n868⟩, -, X868, ⟨Lc868, hQ868, l868, y868, z868⟩, st868⟩ := X846.specialBack hx (y := ym42) rfl hown (ov hZ hw 250 rfl) (ov hZ hw 251 rfl) (ov hZ hw 253 rfl) (by decide) (own_backOf (W := 1) (rx34_847 l Z a0 hw [] n0 h844 O844  b844 b652 b800 A844 F_this_0_b844 F_reversed_b844 (Pa3.ext E844) F_next_b844 (Pa4.ext E844) F_expectedModCount_b844 F_current_b844 (Nat.ne_of_lt (Nat.lt_of_lt_of_le Pa2.lt sz_b844)) g_b844) hZ (ow hw 253 rfl) (ow hw 249 rfl) (by decide) (by decide)) (g := (mkF m 12 #[cr b842] [(.int 0), (.ref b652), (.ref b844), (.ref b844)])) rfl (by rw [hml]; rfl) (Steps.refl _) (a := b844) (argsL := [(.ref b652), (.int 0)]) (rest := [(.ref b844)]) (lenOf pdx_25 rfl) rfl (own_w rfl) (hb hby d33_12) (fun _ _ => ⟨rfl, e846, (by decide : 1 + 0 ≤ _), (by decide : 5 + 0 ≤ _)⟩)
 dsimp only [Pt.U, Pt.locs, Pt.cells, Pt.slots] at X868 l868 y868 z868 st868 hQ868
 subst l868 y868 z868
 obtain ⟨rfl, N868q, K868c, Y868_0, Y868_1, Y868_2, Y868_3, Y868_4⟩ := hQ868
 have N868 := Fr.app N0 N868q
 refine Ends.go (fun _ k => st868.trans k) ?_
 obtain ⟨h868, e868⟩ : ∃ z, T868.heap = z := ⟨_, rfl⟩
 rw [e868] at K868c Y868_0 Y868_1 Y868_2 Y868_3 Y868_4
 have K868 := K844.trans K868c (allS (Or.inr sz_b844) all0)
 refine Ends.ret X868 hx hns (t := (.object "java/util/Iterator")) hrt rfl (Or.inr (Or.inr (Or.inr (Or.inr ⟨rfl, rfl, rfl⟩)))) (hb hby d33_15) (by decide) (by decide) ?_
 rw [e868]
 exact ⟨b844, rfl, N868, K868, sz_b844, (A844.keep K868c), Y868_0, Y868_1, Y868_2, Y868_3, Y868_4⟩

theorem d36_0 : decode B7_ 0 = .ok (.aload_n 0, 1) := by decide +kernel
theorem d36_1 : decode B7_ 1 = .ok (.getfield 26, 3) := by decide +kernel
theorem d36_4 : decode B7_ 4 = .ok (.ifnull 7, 3) := by decide +kernel
theorem d36_7 : decode B7_ 7 = .ok (.iconst 1, 1) := by decide +kernel
theorem d36_8 : decode B7_ 8 = .ok (.goto 4, 3) := by decide +kernel
theorem d36_12 : decode B7_ 12 = .ok (.ireturn, 1) := by decide +kernel
theorem pn36 : plainName "java/util/LinkedHashMap$LinkedHashIterator" = true := by first | (simp [plainName, overriddenIn]; done) | decide +kernel
theorem pdx_28 : parseMethodDescriptor "()Ljava/util/Iterator;" = some ⟨[], some (.object "java/util/Iterator")⟩ := by decide +kernel
theorem ef36_r (m : MethodId) (x0 : Addr) : entryFrame m #[(.ref x0)] 1 = mkF m 0 #[.val (.ref x0)] [] := by first | (simp [entryFrame, mkF, argsToLocals, Value.category]; done) | rfl
theorem rx36_871 (l : Launch) (Z : State) (a0 : Array Value) (hw : HW a0 Z) (ws : List Jvm.Cond) (n0 : Nat) (h0 : Heap) (O0 : Old Z n0 h0)  (b870 : Addr) (b800 : Addr) (Pa0 : f30_ Z h0 b870 (.ref b800)) :
  Meets1 l ym44 B7_ 1 (some .boolean) ws (mkR 0 0 0 0) #[(.ref b870)] Z h0 (fun v h L => v = some (.int 1) ∧ Fr n0 L ∧ Keep h0 h []) := by
 refine MetFree.of_bodySF (plainFor_of_name pn36) hisR ?_
 intro p e s m args below meth c s₁ Bd hml0 hP hK
 obtain ⟨rfl, hZ, hh⟩ := hP
 have hx := Bd.exec
 have hby := Bd.bytes
 have hown : s.vm.findClass "java/util/LinkedHashMap$LinkedHashIterator" = some m.cls := findClass_of_methodNamed Bd.named
 have X0 : Stand p l e (mkR 0 0 0 0) s m #[(.ref b870)] below meth c s₁ [] 0 0 := Stand.of_body Bd
 have e0 : s₁.heap = h0 := by rw [← hh, Bd.state]; rfl
 have N0 := Fr.nil n0
 show Ends _ _ _ _ s₁ (entryFrame m #[(.ref b870)] 1) (mkR 0 0 0 0).cells (mkR 0 0 0 0).slots (fun v h L => v = some (.int 1) ∧ Fr n0 L ∧ Keep h0 h [])
 refine Ends.go (fun _ k => castTop (ef36_r m b870) k) ?_
 have K0 := Keep.refl h0 []
 show Ends _ _ _ _ s₁ (mkF m 0 #[cr b870] []) _ _ _
 refine walN X0 hx hby d36_0 rfl rfl ?_
 refine wgf X0 hx hZ hown hw 266 rfl e0 Pa0 hby d36_1 ?_
 intro T872 X872 e872
 refine wun X872 hx hby d36_4 ?_
 refine wic X872 hx hby d36_7 ?_
 refine wgo (pc := 8) (pc' := 12) X872 hx hby d36_8 ?_
 refine Ends.retZ X872 hx Bd.notSynchronized (t := .boolean) Bd.returns (by simp) (hb hby d36_12) (by decide) (by decide) ?_
 rw [e872]
 exact ⟨rfl, N0, K0⟩

theorem d39_0 : decode B8_ 0 = .ok (.aload_n 0, 1) := by decide +kernel
theorem d39_1 : decode B8_ 1 = .ok (.getfield 26, 3) := by decide +kernel
theorem d39_4 : decode B8_ 4 = .ok (.astore_n 1, 1) := by decide +kernel
theorem d39_5 : decode B8_ 5 = .ok (.aload_n 0, 1) := by decide +kernel
theorem d39_6 : decode B8_ 6 = .ok (.getfield 1, 3) := by decide +kernel
theorem d39_9 : decode B8_ 9 = .ok (.getfield 29, 3) := by decide +kernel
theorem d39_12 : decode B8_ 12 = .ok (.aload_n 0, 1) := by decide +kernel
theorem d39_13 : decode B8_ 13 = .ok (.getfield 33, 3) := by decide +kernel
theorem d39_16 : decode B8_ 16 = .ok (.if_icmp .eq 11, 3) := by decide +kernel
theorem d39_27 : decode B8_ 27 = .ok (.aload_n 1, 1) := by decide +kernel
theorem d39_28 : decode B8_ 28 = .ok (.ifnonnull 11, 3) := by decide +kernel
theorem d39_39 : decode B8_ 39 = .ok (.aload_n 0, 1) := by decide +kernel
theorem d39_40 : decode B8_ 40 = .ok (.aload_n 1, 1) := by decide +kernel
theorem d39_41 : decode B8_ 41 = .ok (.putfield 36, 3) := by decide +kernel
theorem d39_44 : decode B8_ 44 = .ok (.aload_n 0, 1) := by decide +kernel
theorem d39_45 : decode B8_ 45 = .ok (.aload_n 0, 1) := by decide +kernel
theorem d39_46 : decode B8_ 46 = .ok (.getfield 13, 3) := by decide +kernel
theorem d39_49 : decode B8_ 49 = .ok (.ifCond .eq 10, 3) := by decide +kernel
theorem d39_59 : decode B8_ 59 = .ok (.aload_n 1, 1) := by decide +kernel
theorem d39_60 : decode B8_ 60 = .ok (.getfield 50, 3) := by decide +kernel
theorem d39_63 : decode B8_ 63 = .ok (.putfield 26, 3) := by decide +kernel
theorem d39_66 : decode B8_ 66 = .ok (.aload_n 1, 1) := by decide +kernel
theorem d39_67 : decode B8_ 67 = .ok (.areturn, 1) := by decide +kernel
theorem pn39 : plainName "java/util/LinkedHashMap$LinkedHashIterator" = true := by first | (simp [plainName, overriddenIn]; done) | decide +kernel
theorem ef39_r (m : MethodId) (x0 : Addr) : entryFrame m #[(.ref x0)] 2 = mkF m 0 #[.val (.ref x0), .unset] [] := by first | (simp [entryFrame, mkF, argsToLocals, Value.category]; done) | rfl
theorem rx39_876 (l : Launch) (Z : State) (a0 : Array Value) (hw : HW a0 Z) (ws : List Jvm.Cond) (n0 : Nat) (h0 : Heap) (O0 : Old Z n0 h0)  (b870 : Addr) (b800 : Addr) (b652 : Addr) (Pa0 : f30_ Z h0 b870 (.ref b800)) (Pa1 : f28_ Z h0 b870 (.ref b652)) (Pa2 : f20_ Z h0 b652 (.int 1)) (Pa3 : f31_ Z h0 b870 (.int 1)) (Pa4 : Exa Z h0 b870 cLJ) (Pa5 : f32_ Z h0 b870 .null) (Pa6 : f29_ Z h0 b870 (.int 0)) (Pa7 : f27_ Z h0 b800 .null) (ne_b800_b870 : b800 ≠ b870) (g_b870 : n0 ≤ b870) :
  Meets1 l ym45 B8_ 2 (some (.object cLE)) ws (mkR 0 0 0 0) #[(.ref b870)] Z h0 (fun v h L => v = some (.ref b800) ∧ Fr n0 L ∧ Keep h0 h [b870] ∧ f30_ Z h b870 .null ∧ f28_ Z h b870 (.ref b652) ∧ f31_ Z h b870 (.int 1) ∧ f32_ Z h b870 (.ref b800) ∧ f29_ Z h b870 (.int 0)) := by
 refine MetFree.of_bodySF (plainFor_of_name pn39) hisR ?_
 intro p e s m args below meth c s₁ Bd hml0 hP hK
 obtain ⟨rfl, hZ, hh⟩ := hP
 have hx := Bd.exec
 have hby := Bd.bytes
 have hown : s.vm.findClass "java/util/LinkedHashMap$LinkedHashIterator" = some m.cls := findClass_of_methodNamed Bd.named
 have X0 : Stand p l e (mkR 0 0 0 0) s m #[(.ref b870)] below meth c s₁ [] 0 0 := Stand.of_body Bd
 have e0 : s₁.heap = h0 := by rw [← hh, Bd.state]; rfl
 have N0 := Fr.nil n0
 show Ends _ _ _ _ s₁ (entryFrame m #[(.ref b870)] 2) (mkR 0 0 0 0).cells (mkR 0 0 0 0).slots (fun v h L => v = some (.ref b800) ∧ Fr n0 L ∧ Keep h0 h [b870] ∧ f30_ Z h b870 .null ∧ f28_ Z h b870 (.ref b652) ∧ f31_ Z h b870 (.int 1) ∧ f32_ Z h b870 (.ref b800) ∧ f29_ Z h b870 (.int 0))
 refine Ends.go (fun _ k => castTop (ef39_r m b870) k) ?_
 have K0 := Keep.refl h0 [b870]
 show Ends _ _ _ _ s₁ (mkF m 0 #[cr b870, cu] []) _ _ _
 refine walN X0 hx hby d39_0 rfl rfl ?_
 refine wgf X0 hx hZ hown hw 266 rfl e0 Pa0 hby d39_1 ?_
 intro T877 X877 e877
 refine wasN X877 hx hby d39_4 (l' := #[cr b870, cr b800]) rfl rfl ?_
 refine walN X877 hx hby d39_5 rfl rfl ?_
 refine wgf X877 hx hZ hown hw 260 rfl e877 Pa1 hby d39_6 ?_
 intro T878 X878 e878
 obtain ⟨T879, X879, e879, st879⟩ := getF X878 hx hZ hown (host := "") (Or.inl (ow hw 268 rfl)) (Via.of (ow hw 269 rfl)) e878 Pa2 (g := (mkF m 9 #[cr b870, cr b800] [(.ref b652)])) rfl rfl (hb hby d39_9)
 refine Ends.go st879 ?_
 refine walN X879 hx hby d39_12 rfl rfl ?_
 refine wgf X879 hx hZ hown hw 270 rfl e879 Pa3 hby d39_13 ?_
 intro T880 X880 e880
 refine wcy (pc := 16) (pc' := 27) X880 hx hby d39_16 (teq (by decide : (1 : Int32) = (1 : Int32))).1 ?_
 refine walN X880 hx hby d39_27 rfl rfl ?_
 refine wny (pc := 28) (pc' := 39) X880 hx hby d39_28 ?_
 refine walN X880 hx hby d39_39 rfl rfl ?_
 refine walN X880 hx hby d39_40 rfl rfl ?_
 refine wpf X880 hx hZ hown hw 272 rfl e880 Pa5 Pa4 273 rfl 248 rfl (ty := (.object cLE)) (by decide) rfl rfl hby d39_41 ?_
 intro T881 h881 X881 e881 W881
 have Fw881 := Pa5.same W881
 have K881 := K0.wr W881 (mi 0 rfl)
 have N881 := Fr.snoc X881 N0 g_b870
 refine walN X881 hx hby d39_44 rfl rfl ?_
 refine walN X881 hx hby d39_45 rfl rfl ?_
 have c882 := Pa6.other W881 (sll hw 264 rfl 273 rfl)
 refine wgf X881 hx hZ hown hw 263 rfl e881 c882 hby d39_46 ?_
 intro T883 X883 e883
 refine wiy (pc := 49) (pc' := 59) X883 hx hby d39_49 ((if0 _ _).trans (teq (by decide : (0 : Int32) = (0 : Int32))).1) ?_
 refine walN X883 hx hby d39_59 rfl rfl ?_
 refine wgf X883 hx hZ hown hw 302 rfl e883 (Pa7.other W881 (Or.inl ne_b800_b870)) hby d39_60 ?_
 intro T884 X884 e884
 have c885 := Pa0.other W881 (sll hw 267 rfl 273 rfl)
 refine wpf X884 hx hZ hown hw 266 rfl e884 c885 (Pa4.wr W881) 267 rfl 248 rfl (ty := (.object cLE)) (by decide) rfl rfl hby d39_63 ?_
 intro T886 h886 X886 e886 W886
 have Fw886 := c885.same W886
 have K886 := K881.wr W886 (mi 0 rfl)
 have N886 := Fr.snoc X886 N881 g_b870
 refine walN X886 hx hby d39_66 rfl rfl ?_
 refine Ends.ret X886 hx Bd.notSynchronized (t := (.object cLE)) Bd.returns rfl (Or.inr (Or.inr (Or.inr (Or.inr ⟨rfl, rfl, rfl⟩)))) (hb hby d39_67) (by decide) (by decide) ?_
 rw [e886]
 have c887 := (Pa1.other W881 (sfl hw 261 rfl 273 rfl)).other W886 (sfl hw 261 rfl 267 rfl)
 have c888 := (Pa3.other W881 (sll hw 271 rfl 273 rfl)).other W886 (sll hw 271 rfl 267 rfl)
 have c889 := Fw881.other W886 (sll hw 273 rfl 267 rfl)
 have c890 := c882.other W886 (sll hw 264 rfl 267 rfl)
 exact ⟨rfl, N886, K886, Fw886, c887, c888, c889, c890⟩

theorem d38_0 : decode B4_ 0 = .ok (.aload_n 0, 1) := by decide +kernel
theorem d38_1 : decode B4_ 1 = .ok (.invokevirtual 7, 3) := by decide +kernel
theorem d38_4 : decode B4_ 4 = .ok (.areturn, 1) := by decide +kernel
theorem pn38 : plainName "java/util/LinkedHashMap$LinkedEntryIterator" = true := by first | (simp [plainName, overriddenIn]; done) | decide +kernel
theorem pdx_29 : parseMethodDescriptor "()Ljava/util/LinkedHashMap$Entry;" = some ⟨[], some (.object "java/util/LinkedHashMap$Entry")⟩ := by decide +kernel
theorem ef38_r (m : MethodId) (x0 : Addr) : entryFrame m #[(.ref x0)] 1 = mkF m 0 #[.val (.ref x0)] [] := by first | (simp [entryFrame, mkF, argsToLocals, Value.category]; done) | rfl
theorem rx38_875 (l : Launch) (Z : State) (a0 : Array Value) (hw : HW a0 Z) (ws : List Jvm.Cond) (n0 : Nat) (h0 : Heap) (O0 : Old Z n0 h0)  (b870 : Addr) (b800 : Addr) (b652 : Addr) (Pa0 : f30_ Z h0 b870 (.ref b800)) (Pa1 : f28_ Z h0 b870 (.ref b652)) (Pa2 : f20_ Z h0 b652 (.int 1)) (Pa3 : f31_ Z h0 b870 (.int 1)) (Pa4 : Exa Z h0 b870 cLJ) (Pa5 : f32_ Z h0 b870 .null) (Pa6 : f29_ Z h0 b870 (.int 0)) (Pa7 : f27_ Z h0 b800 .null) (ne_b800_b870 : b800 ≠ b870) (g_b870 : n0 ≤ b870) :
  Meets1 l ym46 B4_ 1 (some (.object "java/util/Map$Entry")) ws (mkR 1 0 0 13) #[(.ref b870)] Z h0 (fun v h L => v = some (.ref b800) ∧ Fr n0 L ∧ Keep h0 h [b870] ∧ f30_ Z h b870 .null ∧ f28_ Z h b870 (.ref b652) ∧ f31_ Z h b870 (.int 1) ∧ f32_ Z h b870 (.ref b800) ∧ f29_ Z h b870 (.int 0)) := by
 refine own_start n0 (plainFor_of_name pn38) (fun m => ef38_r m b870) ?_
 intro p e s m below meth c s₁ hns hrt hZ hx hby hml hown hnm X0 e0 N0
 have K0 := Keep.refl h0 [b870]
 refine walN X0 hx hby d38_0 rfl rfl ?_
 obtain ⟨cq891, kq891, q891a, q891b, q891c⟩ := isOf hZ e0 Pa4
 obtain ⟨_, _, ⟨T891, L891, k891, n891⟩, -, X891, ⟨Lc891, hQ891, l891, y891, z891⟩, st891⟩ := X0.virtualBackUp hx (x := ym47) (y := ym45) hown (ov hZ hw 296 rfl) (ov hZ hw 297 rfl) (ov hZ hw 298 rfl) (by decide) (ov hZ hw 300 rfl) (ov hZ hw 299 rfl) (own_backOf (W := 0) (rx39_876 l Z a0 hw [] n0 h0 O0  b870 b800 b652 Pa0 Pa1 Pa2 Pa3 Pa4 Pa5 Pa6 Pa7 ne_b800_b870 g_b870) hZ (ow hw 301 rfl) (ow hw 258 rfl) (by decide) (by decide)) q891a q891c (g := (mkF m 1 #[cr b870] [(.ref b870)])) rfl (by rw [hml]; rfl) (Steps.refl _) (argsL := []) (rest := []) (lenOf pdx_29 rfl) rfl (own_w rfl) (hb hby d38_1) (fun _ _ => ⟨rfl, e0, (by decide : 0 + 0 ≤ _), (by decide : 0 + 0 ≤ _)⟩)
 dsimp only [Pt.U, Pt.locs, Pt.cells, Pt.slots] at X891 l891 y891 z891 st891 hQ891
 subst l891 y891 z891
 obtain ⟨rfl, N891q, K891c, Y891_0, Y891_1, Y891_2, Y891_3, Y891_4⟩ := hQ891
 have N891 := Fr.app N0 N891q
 refine Ends.go (fun _ k => st891.trans k) ?_
 obtain ⟨h891, e891⟩ : ∃ z, T891.heap = z := ⟨_, rfl⟩
 rw [e891] at K891c Y891_0 Y891_1 Y891_2 Y891_3 Y891_4
 have K891 := K0.trans K891c (allS (mi 0 rfl) all0)
 refine Ends.ret X891 hx hns (t := (.object "java/util/Map$Entry")) hrt rfl (Or.inr (Or.inr (Or.inr (Or.inr ⟨rfl, rfl, rfl⟩)))) (hb hby d38_4) (by decide) (by decide) ?_
 rw [e891]
 exact ⟨rfl, N891, K891, Y891_0, Y891_1, Y891_2, Y891_3, Y891_4⟩

theorem d37_0 : decode B5_ 0 = .ok (.aload_n 0, 1) := by decide +kernel
theorem d37_1 : decode B5_ 1 = .ok (.invokevirtual 13, 3) := by decide +kernel
theorem d37_4 : decode B5_ 4 = .ok (.areturn, 1) := by decide +kernel
theorem pn37 : plainName "java/util/LinkedHashMap$LinkedEntryIterator" = true := by first | (simp [plainName, overriddenIn]; done) | decide +kernel
theorem pdx_30 : parseMethodDescriptor "()Ljava/util/Map$Entry;" = some ⟨[], some (.object "java/util/Map$Entry")⟩ := by decide +kernel
theorem ef37_r (m : MethodId) (x0 : Addr) : entryFrame m #[(.ref x0)] 1 = mkF m 0 #[.val (.ref x0)] [] := by first | (simp [entryFrame, mkF, argsToLocals, Value.category]; done) | rfl
theorem rx37_874 (l : Launch) (Z : State) (a0 : Array Value) (hw : HW a0 Z) (ws : List Jvm.Cond) (n0 : Nat) (h0 : Heap) (O0 : Old Z n0 h0)  (b870 : Addr) (b800 : Addr) (b652 : Addr) (Pa0 : f30_ Z h0 b870 (.ref b800)) (Pa1 : f28_ Z h0 b870 (.ref b652)) (Pa2 : f20_ Z h0 b652 (.int 1)) (Pa3 : f31_ Z h0 b870 (.int 1)) (Pa4 : Exa Z h0 b870 cLJ) (Pa5 : f32_ Z h0 b870 .null) (Pa6 : f29_ Z h0 b870 (.int 0)) (Pa7 : f27_ Z h0 b800 .null) (ne_b800_b870 : b800 ≠ b870) (g_b870 : n0 ≤ b870) :
  Meets1 l ym48 B5_ 1 (some (.object qs26)) ws (mkR 2 0 0 25) #[(.ref b870)] Z h0 (fun v h L => v = some (.ref b800) ∧ Fr n0 L ∧ Keep h0 h [b870] ∧ f30_ Z h b870 .null ∧ f28_ Z h b870 (.ref b652) ∧ f31_ Z h b870 (.int 1) ∧ f32_ Z h b870 (.ref b800) ∧ f29_ Z h b870 (.int 0)) := by
 refine own_start n0 (plainFor_of_name pn37) (fun m => ef37_r m b870) ?_
 intro p e s m below meth c s₁ hns hrt hZ hx hby hml hown hnm X0 e0 N0
 have K0 := Keep.refl h0 [b870]
 refine walN X0 hx hby d37_0 rfl rfl ?_
 refine wvb X0 hx hZ hown hw hml rfl hby d37_1 291 rfl 292 rfl 294 rfl 293 rfl (by decide) e0 Pa4 (rx38_875 l Z a0 hw [] n0 h0 O0  b870 b800 b652 Pa0 Pa1 Pa2 Pa3 Pa4 Pa5 Pa6 Pa7 ne_b800_b870 g_b870) 295 rfl 249 rfl (by decide) (by decide) [] [] pdx_30 rfl rfl rfl (by decide) (by decide) rfl ?_
 intro _ T892 _ X892 hQ892
 obtain ⟨rfl, N892q, K892c, Y892_0, Y892_1, Y892_2, Y892_3, Y892_4⟩ := hQ892
 have N892 := Fr.app N0 N892q
 obtain ⟨h892, e892⟩ : ∃ z, T892.heap = z := ⟨_, rfl⟩
 rw [e892] at K892c Y892_0 Y892_1 Y892_2 Y892_3 Y892_4
 have K892 := K0.trans K892c (allS (mi 0 rfl) all0)
 refine Ends.ret X892 hx hns (t := (.object qs26)) hrt rfl (Or.inr (Or.inr (Or.inr (Or.inr ⟨rfl, rfl, rfl⟩)))) (hb hby d37_4) (by decide) (by decide) ?_
 rw [e892]
 exact ⟨rfl, N892, K892, Y892_0, Y892_1, Y892_2, Y892_3, Y892_4⟩

theorem d40_0 : decode B26_ 0 = .ok (.aload_n 0, 1) := by decide +kernel
theorem d40_1 : decode B26_ 1 = .ok (.getfield 13, 3) := by decide +kernel
theorem d40_4 : decode B26_ 4 = .ok (.areturn, 1) := by decide +kernel
theorem pn40 : plainName "java/util/HashMap$Node" = true := by first | (simp [plainName, overriddenIn]; done) | decide +kernel
theorem pdx_31 : parseMethodDescriptor "()Ljava/lang/Object;" = some ⟨[], some (.object "java/lang/Object")⟩ := by decide +kernel
theorem ef40_r (m : MethodId) (x0 : Addr) : entryFrame m #[(.ref x0)] 1 = mkF m 0 #[.val (.ref x0)] [] := by first | (simp [entryFrame, mkF, argsToLocals, Value.category]; done) | rfl
theorem rx40_897 (l : Launch) (Z : State) (a0 : Array Value) (hw : HW a0 Z) (ws : List Jvm.Cond) (n0 : Nat) (h0 : Heap) (O0 : Old Z n0 h0)  (b800 : Addr) (b606 : Addr) (Pa0 : f24_ Z h0 b800 (.ref b606)) :
  Meets1 l ym49 B26_ 1 (some (.object qs26)) ws (mkR 0 0 0 0) #[(.ref b800)] Z h0 (fun v h L => v = some (.ref b606) ∧ Fr n0 L ∧ Keep h0 h []) := by
 refine own_start n0 (plainFor_of_name pn40) (fun m => ef40_r m b800) ?_
 intro p e s m below meth c s₁ hns hrt hZ hx hby hml hown hnm X0 e0 N0
 have K0 := Keep.refl h0 []
 refine walN X0 hx hby d40_0 rfl rfl ?_
 refine wgf X0 hx hZ hown hw 151 rfl e0 Pa0 hby d40_1 ?_
 intro T898 X898 e898
 refine Ends.ret X898 hx hns (t := (.object qs26)) hrt rfl (Or.inr (Or.inr (Or.inr (Or.inr ⟨rfl, rfl, rfl⟩)))) (hb hby d40_4) (by decide) (by decide) ?_
 rw [e898]
 exact ⟨rfl, N0, K0⟩

theorem d41_0 : decode B27_ 0 = .ok (.aload_n 0, 1) := by decide +kernel
theorem d41_1 : decode B27_ 1 = .ok (.getfield 17, 3) := by decide +kernel
theorem d41_4 : decode B27_ 4 = .ok (.areturn, 1) := by decide +kernel
theorem pn41 : plainName "java/util/HashMap$Node" = true := by first | (simp [plainName, overriddenIn]; done) | decide +kernel
theorem ef41_r (m : MethodId) (x0 : Addr) : entryFrame m #[(.ref x0)] 1 = mkF m 0 #[.val (.ref x0)] [] := by first | (simp [entryFrame, mkF, argsToLocals, Value.category]; done) | rfl
theorem rx41_906 (l : Launch) (Z : State) (a0 : Array Value) (hw : HW a0 Z) (ws : List Jvm.Cond) (n0 : Nat) (h0 : Heap) (O0 : Old Z n0 h0) (G1 : Int32) (w_EMPTY : Addr) (GF : GlobF Z G1 w_EMPTY) (b800 : Addr) (Pa0 : f25_ Z h0 b800 (.ref w_EMPTY)) :
  Meets1 l ym50 B27_ 1 (some (.object qs26)) ws (mkR 0 0 0 0) #[(.ref b800)] Z h0 (fun v h L => v = some (.ref w_EMPTY) ∧ Fr n0 L ∧ Keep h0 h []) := by
 refine own_start n0 (plainFor_of_name pn41) (fun m => ef41_r m b800) ?_
 intro p e s m below meth c s₁ hns hrt hZ hx hby hml hown hnm X0 e0 N0
 obtain ⟨SCS, P5, S_EMPTY, E_EMPTY⟩ := id GF
 have K0 := Keep.refl h0 []
 show Ends _ _ _ _ s₁ (mkF m 0 #[cr b800] []) _ _ _
 refine walN X0 hx hby d41_0 rfl rfl ?_
 refine wgf X0 hx hZ hown hw 153 rfl e0 Pa0 hby d41_1 ?_
 intro T907 X907 e907
 refine Ends.ret X907 hx hns (t := (.object qs26)) hrt rfl (Or.inr (Or.inr (Or.inr (Or.inr ⟨rfl, rfl, rfl⟩)))) (hb hby d41_4) (by decide) (by decide) ?_
 rw [e907]
 exact ⟨rfl, N0, K0⟩

theorem d36_11 : decode B7_ 11 = .ok (.iconst 0, 1) := by decide +kernel
theorem rx36_914 (l : Launch) (Z : State) (a0 : Array Value) (hw : HW a0 Z) (ws : List Jvm.Cond) (n0 : Nat) (h0 : Heap) (O0 : Old Z n0 h0)  (b870 : Addr) (Pa0 : f30_ Z h0 b870 .null) :
  Meets1 l ym44 B7_ 1 (some .boolean) ws (mkR 0 0 0 0) #[(.ref b870)] Z h0 (fun v h L => v = some (.int 0) ∧ Fr n0 L ∧ Keep h0 h []) := by
 refine MetFree.of_bodySF (plainFor_of_name pn36) hisR ?_
 intro p e s m args below meth c s₁ Bd hml0 hP hK
 obtain ⟨rfl, hZ, hh⟩ := hP
 have hx := Bd.exec
 have hby := Bd.bytes
 have hown : s.vm.findClass "java/util/LinkedHashMap$LinkedHashIterator" = some m.cls := findClass_of_methodNamed Bd.named
 have X0 : Stand p l e (mkR 0 0 0 0) s m #[(.ref b870)] below meth c s₁ [] 0 0 := Stand.of_body Bd
 have e0 : s₁.heap = h0 := by rw [← hh, Bd.state]; rfl
 have N0 := Fr.nil n0
 show Ends _ _ _ _ s₁ (entryFrame m #[(.ref b870)] 1) (mkR 0 0 0 0).cells (mkR 0 0 0 0).slots (fun v h L => v = some (.int 0) ∧ Fr n0 L ∧ Keep h0 h [])
 refine Ends.go (fun _ k => castTop (ef36_r m b870) k) ?_
 have K0 := Keep.refl h0 []
 show Ends _ _ _ _ s₁ (mkF m 0 #[cr b870] []) _ _ _
 refine walN X0 hx hby d36_0 rfl rfl ?_
 refine wgf X0 hx hZ hown hw 266 rfl e0 Pa0 hby d36_1 ?_
 intro T915 X915 e915
 refine wuy (pc := 4) (pc' := 11) X915 hx hby d36_4 ?_
 refine wic X915 hx hby d36_11 ?_
 refine Ends.retZ X915 hx Bd.notSynchronized (t := .boolean) Bd.returns (by simp) (hb hby d36_12) (by decide) (by decide) ?_
 rw [e915]
 exact ⟨rfl, N0, K0⟩

theorem d44_0 : decode B10_ 0 = .ok (.aload_n 0, 1) := by decide +kernel
theorem d44_1 : decode B10_ 1 = .ok (.invokespecial 1, 3) := by decide +kernel
theorem d44_4 : decode B10_ 4 = .ok (.aload_n 0, 1) := by decide +kernel
theorem d44_5 : decode B10_ 5 = .ok (.iconst 0, 1) := by decide +kernel
theorem d44_6 : decode B10_ 6 = .ok (.putfield 7, 3) := by decide +kernel
theorem d44_9 : decode B10_ 9 = .ok (.return_, 1) := by decide +kernel
theorem pn44 : plainName "java/util/AbstractList" = true := by first | (simp [plainName, overriddenIn]; done) | decide +kernel
theorem ef44_r (m : MethodId) (x0 : Addr) : entryFrame m #[(.ref x0)] 1 = mkF m 0 #[.val (.ref x0)] [] := by first | (simp [entryFrame, mkF, argsToLocals, Value.category]; done) | rfl
theorem rx44_926 (l : Launch) (Z : State) (a0 : Array Value) (hw : HW a0 Z) (ws : List Jvm.Cond) (n0 : Nat) (h0 : Heap) (O0 : Old Z n0 h0)  (b924 : Addr) (Pa0 : Exa Z h0 b924 cNA) (Pa1 : f33_ Z h0 b924 (.int 0)) (Pa2 : f34_ Z h0 b924 .null) (Pa3 : f35_ Z h0 b924 .null) (Pa4 : Fld Z h0 b924 cNA "next" "[I" .null) (Pa5 : f36_ Z h0 b924 .null) (Pa6 : f37_ Z h0 b924 (.int 0)) (g_b924 : n0 ≤ b924) :
  Meets1 l ym51 B10_ 1 none ws (mkR 2 0 0 24) #[(.ref b924)] Z h0 (fun v h L => v = none ∧ Fr n0 L ∧ Keep h0 h [b924] ∧ f33_ Z h b924 (.int 0) ∧ f34_ Z h b924 .null ∧ f35_ Z h b924 .null ∧ Fld Z h b924 cNA "next" "[I" .null ∧ f36_ Z h b924 .null ∧ f37_ Z h b924 (.int 0)) := by
 refine own_start n0 (plainFor_of_name pn44) (fun m => ef44_r m b924) ?_
 intro p e s m below meth c s₁ hns hrt hZ hx hby hml hown hnm X0 e0 N0
 have K0 := Keep.refl h0 [b924]
 refine walN X0 hx hby d44_0 rfl rfl ?_
 obtain ⟨_, _, ⟨T927, L927, k927, n927⟩, -, X927, ⟨Lc927, hQ927, l927, y927, z927⟩, st927⟩ := X0.specialBack hx (y := ym36) rfl hown (ov hZ hw 337 rfl) (ov hZ hw 230 rfl) (ov hZ hw 234 rfl) (by decide) (own_backOf (W := 0) (rx32_818 l Z a0 hw [] n0 h0 O0  b924 ) hZ (ow hw 234 rfl) (ow hw 233 rfl) (by decide) (by decide)) (g := (mkF m 1 #[cr b924] [(.ref b924)])) rfl (by rw [hml]; rfl) (Steps.refl _) (a := b924) (argsL := []) (rest := []) (lenOf pdx_11 rfl) rfl (own_w rfl) (hb hby d44_1) (fun _ _ => ⟨rfl, e0, (by decide : 0 + 0 ≤ _), (by decide : 0 + 0 ≤ _)⟩)
 dsimp only [Pt.U, Pt.locs, Pt.cells, Pt.slots] at X927 l927 y927 z927 st927 hQ927
 subst l927 y927 z927
 obtain ⟨rfl, N927q, K927c⟩ := hQ927
 have N927 := Fr.app N0 N927q
 refine Ends.go (fun _ k => st927.trans k) ?_
 obtain ⟨h927, e927⟩ : ∃ z, T927.heap = z := ⟨_, rfl⟩
 rw [e927] at K927c
 have K927 := K0.trans K927c all0
 refine walN X927 hx hby d44_4 rfl rfl ?_
 refine wic X927 hx hby d44_5 ?_
 refine wpf X927 hx hZ hown hw 339 rfl e927 (Pa1.keep K927c nin0) (Pa0.keep K927c) 340 rfl 328 rfl (ty := .int) (by decide) rfl rfl hby d44_6 ?_
 intro T928 h928 X928 e928 W928
 have Fw928 := (Pa1.keep K927c nin0).same W928
 have K928 := K927.wr W928 (mi 0 rfl)
 have N928 := Fr.snoc X928 N927 g_b924
 refine Ends.retV X928 hx hns hrt (hb hby d44_9) (by decide) (by decide) ?_
 rw [e928]
 have c929 := (Pa2.keep K927c nin0).other W928 (sll hw 343 rfl 340 rfl)
 have c930 := (Pa3.keep K927c nin0).other W928 (sfl hw 345 rfl 340 rfl)
 have c931 := (Pa4.keep K927c nin0).other W928 (sfl hw 347 rfl 340 rfl)
 have c932 := (Pa5.keep K927c nin0).other W928 (sll hw 354 rfl 340 rfl)
 have c933 := (Pa6.keep K927c nin0).other W928 (sll hw 360 rfl 340 rfl)
 exact ⟨rfl, N928, K928, Fw928, c929, c930, c931, c932, c933⟩

theorem d43_0 : decode B50_ 0 = .ok (.aload_n 0, 1) := by decide +kernel
theorem d43_1 : decode B50_ 1 = .ok (.invokespecial 1, 3) := by decide +kernel
theorem d43_4 : decode B50_ 4 = .ok (.iload_n 1, 1) := by decide +kernel
theorem d43_5 : decode B50_ 5 = .ok (.bipush 8, 2) := by decide +kernel
theorem d43_7 : decode B50_ 7 = .ok (.if_icmp .le 7, 3) := by decide +kernel
theorem d43_14 : decode B50_ 14 = .ok (.iconst 0, 1) := by decide +kernel
theorem d43_15 : decode B50_ 15 = .ok (.istore_n 2, 1) := by decide +kernel
theorem d43_16 : decode B50_ 16 = .ok (.aload_n 0, 1) := by decide +kernel
theorem d43_17 : decode B50_ 17 = .ok (.iload_n 1, 1) := by decide +kernel
theorem d43_18 : decode B50_ 18 = .ok (.anewarray 9, 3) := by decide +kernel
theorem d43_21 : decode B50_ 21 = .ok (.putfield 11, 3) := by decide +kernel
theorem d43_24 : decode B50_ 24 = .ok (.aload_n 0, 1) := by decide +kernel
theorem d43_25 : decode B50_ 25 = .ok (.iload_n 2, 1) := by decide +kernel
theorem d43_26 : decode B50_ 26 = .ok (.ifCond .eq 12, 3) := by decide +kernel
theorem d43_38 : decode B50_ 38 = .ok (.aconst_null, 1) := by decide +kernel
theorem d43_39 : decode B50_ 39 = .ok (.putfield 19, 3) := by decide +kernel
theorem d43_42 : decode B50_ 42 = .ok (.aload_n 0, 1) := by decide +kernel
theorem d43_43 : decode B50_ 43 = .ok (.iload_n 2, 1) := by decide +kernel
theorem d43_44 : decode B50_ 44 = .ok (.ifCond .eq 9, 3) := by decide +kernel
theorem d43_53 : decode B50_ 53 = .ok (.aconst_null, 1) := by decide +kernel
theorem d43_54 : decode B50_ 54 = .ok (.putfield 23, 3) := by decide +kernel
theorem d43_57 : decode B50_ 57 = .ok (.return_, 1) := by decide +kernel
theorem pn43 : plainName "com/example/ratatoskr/ratatoskr/Names" = true := by first | (simp [plainName, overriddenIn]; done) | decide +kernel
theorem ef43_ri (m : MethodId) (x0 : Addr) (x1 : Int32) : entryFrame m #[(.ref x0), (.int x1)] 3 = mkF m 0 #[.val (.ref x0), .val (.int x1), .unset] [] := by first | (simp [entryFrame, mkF, argsToLocals, Value.category]; done) | rfl
theorem rx43_925 (l : Launch) (Z : State) (a0 : Array Value) (hw : HW a0 Z) (ws : List Jvm.Cond) (n0 : Nat) (h0 : Heap) (O0 : Old Z n0 h0)  (b924 : Addr) (Pa0 : Exa Z h0 b924 cNA) (Pa1 : f33_ Z h0 b924 (.int 0)) (Pa2 : f34_ Z h0 b924 .null) (Pa3 : f35_ Z h0 b924 .null) (Pa4 : Fld Z h0 b924 cNA "next" "[I" .null) (Pa5 : f36_ Z h0 b924 .null) (Pa6 : f37_ Z h0 b924 (.int 0)) (g_b924 : n0 ≤ b924) :
  Meets1 l ym52 B50_ 3 none ws (mkR 3 1 1 36) #[(.ref b924), (.int 1)] Z h0 (fun v h L => ∃ (b935 : Addr) (k935 : ClassId), v = none ∧ Fr n0 L ∧ Keep h0 h [b924] ∧ h0.size ≤ b935 ∧ f33_ Z h b924 (.int 0) ∧ f34_ Z h b924 (.ref b935) ∧ f35_ Z h b924 .null ∧ Fld Z h b924 cNA "next" "[I" .null ∧ f36_ Z h b924 .null ∧ f37_ Z h b924 (.int 0) ∧ Arv Z h b935 k935 (.object cST) (1 : Int32) [.null] .null ∧ Ovr Z k935 cST) := by
 refine own_start n0 (plainFor_of_name pn43) (fun m => ef43_ri m b924 (1 : Int32)) ?_
 intro p e s m below meth c s₁ hns hrt hZ hx hby hml hown hnm X0 e0 N0
 have K0 := Keep.refl h0 [b924]
 refine walN X0 hx hby d43_0 rfl rfl ?_
 obtain ⟨_, _, ⟨T934, L934, k934, n934⟩, -, X934, ⟨Lc934, hQ934, l934, y934, z934⟩, st934⟩ := X0.specialBack hx (y := ym51) rfl hown (ov hZ hw 332 rfl) (ov hZ hw 333 rfl) (ov hZ hw 336 rfl) (by decide) (own_backOf (W := 0) (rx44_926 l Z a0 hw [] n0 h0 O0  b924 Pa0 Pa1 Pa2 Pa3 Pa4 Pa5 Pa6 g_b924) hZ (ow hw 336 rfl) (ow hw 335 rfl) (by decide) (by decide)) (g := (mkF m 1 #[cr b924, ci 1, cu] [(.ref b924)])) rfl (by rw [hml]; rfl) (Steps.refl _) (a := b924) (argsL := []) (rest := []) (lenOf pdx_11 rfl) rfl (own_w rfl) (hb hby d43_1) (fun _ _ => ⟨rfl, e0, (by decide : 0 + 0 ≤ _), (by decide : 0 + 0 ≤ _)⟩)
 dsimp only [Pt.U, Pt.locs, Pt.cells, Pt.slots] at X934 l934 y934 z934 st934 hQ934
 subst l934 y934 z934
 obtain ⟨rfl, N934q, K934c, Y934_0, Y934_1, Y934_2, Y934_3, Y934_4, Y934_5⟩ := hQ934
 have N934 := Fr.app N0 N934q
 refine Ends.go (fun _ k => st934.trans k) ?_
 obtain ⟨h934, e934⟩ : ∃ z, T934.heap = z := ⟨_, rfl⟩
 rw [e934] at K934c Y934_0 Y934_1 Y934_2 Y934_3 Y934_4 Y934_5
 have K934 := K0.trans K934c (allS (mi 0 rfl) all0)
 refine wilN X934 hx hby d43_4 rfl ?_
 refine wbp X934 hx hby d43_5 ?_
 refine wcy (pc := 7) (pc' := 14) X934 hx hby d43_7 (flt (by decide : ¬ ((8 : Int32) < (1 : Int32)))).2.2.2 ?_
 refine wic X934 hx hby d43_14 ?_
 refine wstN X934 hx hby d43_15 (l' := #[cr b924, ci 1, ci 0]) rfl ?_
 refine walN X934 hx hby d43_16 rfl rfl ?_
 refine wilN X934 hx hby d43_17 rfl ?_
 obtain ⟨T935, h935, k935, X935, e935, E935, A935, O935v, st935⟩ := newR X934 hx hZ hown (ow hw 341 rfl) (ow hw 195 rfl) e934 (g := (mkF m 18 #[cr b924, ci 1, ci 0] [(.int 1), (.ref b924)])) rfl (hb hby d43_18) rfl (by decide) (cap := 1) (by decide) (by decide) (by decide) (by decide)
 obtain ⟨b935, g935⟩ : ∃ z, z = h934.size := ⟨_, rfl⟩
 rw [← g935] at A935 st935
 refine Ends.go st935 ?_
 have sz_b935 : h0.size ≤ b935 := Nat.le_trans K934.1 (Nat.le_of_eq g935.symm)
 have K935 := K934.ext E935
 have V_b935 : Arv Z h935 b935 k935 (.object cST) (1 : Int32) [.null] .null := (Arv.new A935 (by decide)).pad (pad_rep [] .null 1)
 refine wpf X935 hx hZ hown hw 342 rfl e935 (Y934_1.ext E935) ((Pa0.keep K934c).ext E935) 343 rfl 328 rfl (ty := (.array (.object cST))) (by decide) rfl rfl hby d43_21 ?_
 intro T936 h936 X936 e936 W936
 have Fw936 := (Y934_1.ext E935).same W936
 have K936 := K935.wr W936 (mi 0 rfl)
 have N936 := Fr.snoc X936 N934 g_b924
 refine walN X936 hx hby d43_24 rfl rfl ?_
 refine wilN X936 hx hby d43_25 rfl ?_
 refine wiy (pc := 26) (pc' := 38) X936 hx hby d43_26 ((if0 _ _).trans (teq (by decide : (0 : Int32) = (0 : Int32))).1) ?_
 refine wnu X936 hx hby d43_38 ?_
 have c937 := (Y934_2.ext E935).other W936 (sfl hw 345 rfl 343 rfl)
 obtain ⟨T938, h938, X938, e938, W938, st938⟩ := putF X936 hx hZ hown (host := "") (Or.inl (ow hw 344 rfl)) Via.refl e936 c937 (((Pa0.keep K934c).ext E935).wr W936) (Or.inr ⟨(ow hw 345 rfl), rfl, hnm⟩) (ow hw 328 rfl) (ty := (.array .int)) (by decide) rfl rfl (g := (mkF m 39 #[cr b924, ci 1, ci 0] [.null, (.ref b924)])) rfl rfl (hb hby d43_39)
 refine Ends.go st938 ?_
 have Fw938 := c937.same W938
 have K938 := K936.wr W938 (mi 0 rfl)
 have N938 := Fr.snoc X938 N936 g_b924
 refine walN X938 hx hby d43_42 rfl rfl ?_
 refine wilN X938 hx hby d43_43 rfl ?_
 refine wiy (pc := 44) (pc' := 53) X938 hx hby d43_44 ((if0 _ _).trans (teq (by decide : (0 : Int32) = (0 : Int32))).1) ?_
 refine wnu X938 hx hby d43_53 ?_
 have c939 := ((Y934_3.ext E935).other W936 (sfl hw 347 rfl 343 rfl)).other W938 (sff hw 347 rfl 345 rfl)
 obtain ⟨T940, h940, X940, e940, W940, st940⟩ := putF X938 hx hZ hown (host := "") (Or.inl (ow hw 346 rfl)) Via.refl e938 c939 ((((Pa0.keep K934c).ext E935).wr W936).wr W938) (Or.inr ⟨(ow hw 347 rfl), rfl, hnm⟩) (ow hw 328 rfl) (ty := (.array .int)) (by decide) rfl rfl (g := (mkF m 54 #[cr b924, ci 1, ci 0] [.null, (.ref b924)])) rfl rfl (hb hby d43_54)
 refine Ends.go st940 ?_
 have Fw940 := c939.same W940
 have K940 := K938.wr W940 (mi 0 rfl)
 have N940 := Fr.snoc X940 N938 g_b924
 refine Ends.retV X940 hx hns hrt (hb hby d43_57) (by decide) (by decide) ?_
 rw [e940]
 have c941 := (((Y934_0.ext E935).other W936 (sll hw 340 rfl 343 rfl)).other W938 (slf hw 340 rfl 345 rfl)).other W940 (slf hw 340 rfl 347 rfl)
 have c942 := (Fw936.other W938 (slf hw 343 rfl 345 rfl)).other W940 (slf hw 343 rfl 347 rfl)
 have c943 := Fw938.other W940 (sff hw 345 rfl 347 rfl)
 have c944 := (((Y934_4.ext E935).other W936 (sll hw 354 rfl 343 rfl)).other W938 (slf hw 354 rfl 345 rfl)).other W940 (slf hw 354 rfl 347 rfl)
 have c945 := (((Y934_5.ext E935).other W936 (sll hw 360 rfl 343 rfl)).other W938 (slf hw 360 rfl 345 rfl)).other W940 (slf hw 360 rfl 347 rfl)
 have c946 := ((V_b935.other W936 (Ne.symm (Nat.ne_of_lt (Nat.lt_of_lt_of_le Pa0.lt sz_b935)))).other W938 (Ne.symm (Nat.ne_of_lt (Nat.lt_of_lt_of_le Pa0.lt sz_b935)))).other W940 (Ne.symm (Nat.ne_of_lt (Nat.lt_of_lt_of_le Pa0.lt sz_b935)))
 exact ⟨b935, k935, rfl, N940, K940, sz_b935, c941, c942, c943, Fw940, c944, c945, c946, O935v⟩

theorem d46_0 : decode B48_ 0 = .ok (.iconst 0, 1) := by decide +kernel
theorem d46_1 : decode B48_ 1 = .ok (.istore_n 2, 1) := by decide +kernel
theorem d46_2 : decode B48_ 2 = .ok (.iload_n 2, 1) := by decide +kernel
theorem d46_3 : decode B48_ 3 = .ok (.aload_n 0, 1) := by decide +kernel
theorem d46_4 : decode B48_ 4 = .ok (.getfield 37, 3) := by decide +kernel
theorem d46_7 : decode B48_ 7 = .ok (.if_icmp .ge 24, 3) := by decide +kernel
theorem d46_31 : decode B48_ 31 = .ok (.iconst (-1), 1) := by decide +kernel
theorem d46_32 : decode B48_ 32 = .ok (.ireturn, 1) := by decide +kernel
theorem pn46 : plainName "com/example/ratatoskr/ratatoskr/Names" = true := by first | (simp [plainName, overriddenIn]; done) | decide +kernel
theorem pdx_32 : parseMethodDescriptor "(I)V" = some ⟨[.int], none⟩ := by decide +kernel
theorem ef46_rr (m : MethodId) (x0 : Addr) (x1 : Addr) : entryFrame m #[(.ref x0), (.ref x1)] 3 = mkF m 0 #[.val (.ref x0), .val (.ref x1), .unset] [] := by first | (simp [entryFrame, mkF, argsToLocals, Value.category]; done) | rfl
theorem rx46_955 (l : Launch) (Z : State) (a0 : Array Value) (hw : HW a0 Z) (ws : List Jvm.Cond) (n0 : Nat) (h0 : Heap) (O0 : Old Z n0 h0)  (b924 : Addr) (b606 : Addr) (Pa0 : f37_ Z h0 b924 (.int 0)) :
  Meets1 l ym53 B48_ 3 (some .int) ws (mkR 0 0 0 0) #[(.ref b924), (.ref b606)] Z h0 (fun v h L => v = some (.int (-1)) ∧ Fr n0 L ∧ Keep h0 h []) := by
 refine own_start n0 (plainFor_of_name pn46) (fun m => ef46_rr m b924 b606) ?_
 intro p e s m below meth c s₁ hns hrt hZ hx hby hml hown hnm X0 e0 N0
 have K0 := Keep.refl h0 []
 refine wic X0 hx hby d46_0 ?_
 refine wstN X0 hx hby d46_1 (l' := #[cr b924, cr b606, ci 0]) rfl ?_
 refine wilN X0 hx hby d46_2 rfl ?_
 refine walN X0 hx hby d46_3 rfl rfl ?_
 refine wgf X0 hx hZ hown hw 359 rfl e0 Pa0 hby d46_4 ?_
 intro T956 X956 e956
 refine wcy (pc := 7) (pc' := 31) X956 hx hby d46_7 (flt (by decide : ¬ ((0 : Int32) < (0 : Int32)))).2.1 ?_
 refine wic X956 hx hby d46_31 ?_
 refine Ends.ret X956 hx hns (t := .int) hrt rfl (Or.inl ⟨rfl, by simp, _, rfl⟩) (hb hby d46_32) (by decide) (by decide) ?_
 rw [e956]
 exact ⟨rfl, N0, K0⟩

theorem d45_0 : decode B53_ 0 = .ok (.aload_n 1, 1) := by decide +kernel
theorem d45_1 : decode B53_ 1 = .ok (.ifnonnull 8, 3) := by decide +kernel
theorem d45_9 : decode B53_ 9 = .ok (.aload_n 0, 1) := by decide +kernel
theorem d45_10 : decode B53_ 10 = .ok (.getfield 70, 3) := by decide +kernel
theorem d45_13 : decode B53_ 13 = .ok (.ifnull 33, 3) := by decide +kernel
theorem d45_46 : decode B53_ 46 = .ok (.aload_n 0, 1) := by decide +kernel
theorem d45_47 : decode B53_ 47 = .ok (.getfield 19, 3) := by decide +kernel
theorem d45_50 : decode B53_ 50 = .ok (.ifnull 12, 3) := by decide +kernel
theorem d45_62 : decode B53_ 62 = .ok (.aload_n 0, 1) := by decide +kernel
theorem d45_63 : decode B53_ 63 = .ok (.aload_n 1, 1) := by decide +kernel
theorem d45_64 : decode B53_ 64 = .ok (.invokevirtual 89, 3) := by decide +kernel
theorem d45_67 : decode B53_ 67 = .ok (.istore_n 2, 1) := by decide +kernel
theorem d45_68 : decode B53_ 68 = .ok (.iload_n 2, 1) := by decide +kernel
theorem d45_69 : decode B53_ 69 = .ok (.ireturn, 1) := by decide +kernel
theorem pn45 : plainName "com/example/ratatoskr/ratatoskr/Names" = true := by first | (simp [plainName, overriddenIn]; done) | decide +kernel
theorem pdx_33 : parseMethodDescriptor "(Ljava/lang/String;)I" = some ⟨[(.object "java/lang/String")], some .int⟩ := by decide +kernel
theorem ef45_rr (m : MethodId) (x0 : Addr) (x1 : Addr) : entryFrame m #[(.ref x0), (.ref x1)] 4 = mkF m 0 #[.val (.ref x0), .val (.ref x1), .unset, .unset] [] := by first | (simp [entryFrame, mkF, argsToLocals, Value.category]; done) | rfl
theorem rx45_952 (l : Launch) (Z : State) (a0 : Array Value) (hw : HW a0 Z) (ws : List Jvm.Cond) (n0 : Nat) (h0 : Heap) (O0 : Old Z n0 h0)  (b924 : Addr) (b606 : Addr) (Pa0 : f36_ Z h0 b924 .null) (Pa1 : f35_ Z h0 b924 .null) (Pa2 : f37_ Z h0 b924 (.int 0)) (Pa3 : Exa Z h0 b924 cNA) :
  Meets1 l ym54 B53_ 4 (some .int) ws (mkR 1 0 0 14) #[(.ref b924), (.ref b606)] Z h0 (fun v h L => v = some (.int (-1)) ∧ Fr n0 L ∧ Keep h0 h []) := by
 refine own_start n0 (plainFor_of_name pn45) (fun m => ef45_rr m b924 b606) ?_
 intro p e s m below meth c s₁ hns hrt hZ hx hby hml hown hnm X0 e0 N0
 have K0 := Keep.refl h0 []
 refine walN X0 hx hby d45_0 rfl rfl ?_
 refine wny (pc := 1) (pc' := 9) X0 hx hby d45_1 ?_
 refine walN X0 hx hby d45_9 rfl rfl ?_
 refine wgf X0 hx hZ hown hw 353 rfl e0 Pa0 hby d45_10 ?_
 intro T953 X953 e953
 refine wuy (pc := 13) (pc' := 46) X953 hx hby d45_13 ?_
 refine walN X953 hx hby d45_46 rfl rfl ?_
 refine wgf X953 hx hZ hown hw 344 rfl e953 Pa1 hby d45_47 ?_
 intro T954 X954 e954
 refine wuy (pc := 50) (pc' := 62) X954 hx hby d45_50 ?_
 refine walN X954 hx hby d45_62 rfl rfl ?_
 refine walN X954 hx hby d45_63 rfl rfl ?_
 obtain ⟨cq957, q957, q957'⟩ := Pa3.cell
 obtain ⟨_, _, ⟨T957, L957, k957, n957⟩, -, X957, ⟨Lc957, hQ957, l957, y957, z957⟩, st957⟩ := X954.privateBack hx (y := ym53) hown (ov hZ hw 355 rfl) (ov hZ hw 356 rfl) (own_selp (y := ym53) (ov hZ hw 328 rfl) (Cond.privateMethod_at (mvP hZ (ow hw 357 rfl) (args := #[]))) (ov hZ hw 356 rfl) (by decide)) (Cond.privateMethod_at (mvP hZ (ow hw 357 rfl) (args := #[]))) (ov hZ hw 358 rfl) (by decide) (own_backOf (W := 0) (rx46_955 l Z a0 hw [] n0 h0 O0  b924 b606 Pa2) hZ (ow hw 358 rfl) (ow hw 325 rfl) (by decide) (by decide)) (g := (mkF m 64 #[cr b924, cr b606, cu, cu] [(.ref b606), (.ref b924)])) rfl (by rw [hml]; rfl) (Steps.refl _) (a := b924) (by rw [e954]; exact q957) q957' (argsL := [(.ref b606)]) (rest := []) (lenOf pdx_33 rfl) rfl (own_w rfl) (hb hby d45_64) (fun _ _ => ⟨rfl, e954, (by decide : 0 + 0 ≤ _), (by decide : 0 + 0 ≤ _)⟩)
 dsimp only [Pt.U, Pt.locs, Pt.cells, Pt.slots] at X957 l957 y957 z957 st957 hQ957
 subst l957 y957 z957
 obtain ⟨rfl, N957q, K957c⟩ := hQ957
 have N957 := Fr.app N0 N957q
 refine Ends.go (fun _ k => st957.trans k) ?_
 obtain ⟨h957, e957⟩ : ∃ z, T957.heap = z := ⟨_, rfl⟩
 rw [e957] at K957c
 have K957 := K0.trans K957c all0
 refine wstN X957 hx hby d45_67 (l' := #[cr b924, cr b606, ci (-1), cu]) rfl ?_
 refine wilN X957 hx hby d45_68 rfl ?_
 refine Ends.ret X957 hx hns (t := .int) hrt rfl (Or.inl ⟨rfl, by simp, _, rfl⟩) (hb hby d45_69) (by decide) (by decide) ?_
 rw [e957]
 exact ⟨rfl, N957, K957⟩

theorem d47_0 : decode B49_ 0 = .ok (.aload_n 0, 1) := by decide +kernel
theorem d47_1 : decode B49_ 1 = .ok (.dup, 1) := by decide +kernel
theorem d47_2 : decode B49_ 2 = .ok (.getfield 37, 3) := by decide +kernel
theorem d47_5 : decode B49_ 5 = .ok (.dup_x1, 1) := by decide +kernel
theorem d47_6 : decode B49_ 6 = .ok (.iconst 1, 1) := by decide +kernel
theorem d47_7 : decode B49_ 7 = .ok (.iadd, 1) := by decide +kernel
theorem d47_8 : decode B49_ 8 = .ok (.putfield 37, 3) := by decide +kernel
theorem d47_11 : decode B49_ 11 = .ok (.istore_n 2, 1) := by decide +kernel
theorem d47_12 : decode B49_ 12 = .ok (.aload_n 0, 1) := by decide +kernel
theorem d47_13 : decode B49_ 13 = .ok (.getfield 11, 3) := by decide +kernel
theorem d47_16 : decode B49_ 16 = .ok (.iload_n 2, 1) := by decide +kernel
theorem d47_17 : decode B49_ 17 = .ok (.aload_n 1, 1) := by decide +kernel
theorem d47_18 : decode B49_ 18 = .ok (.aastore, 1) := by decide +kernel
theorem d47_19 : decode B49_ 19 = .ok (.aload_n 0, 1) := by decide +kernel
theorem d47_20 : decode B49_ 20 = .ok (.getfield 70, 3) := by decide +kernel
theorem d47_23 : decode B49_ 23 = .ok (.ifnull 21, 3) := by decide +kernel
theorem d47_44 : decode B49_ 44 = .ok (.aload_n 0, 1) := by decide +kernel
theorem d47_45 : decode B49_ 45 = .ok (.getfield 19, 3) := by decide +kernel
theorem d47_48 : decode B49_ 48 = .ok (.ifnull 62, 3) := by decide +kernel
theorem d47_110 : decode B49_ 110 = .ok (.return_, 1) := by decide +kernel
theorem pn47 : plainName "com/example/ratatoskr/ratatoskr/Names" = true := by first | (simp [plainName, overriddenIn]; done) | decide +kernel
theorem ef47_rr (m : MethodId) (x0 : Addr) (x1 : Addr) : entryFrame m #[(.ref x0), (.ref x1)] 4 = mkF m 0 #[.val (.ref x0), .val (.ref x1), .unset, .unset] [] := by first | (simp [entryFrame, mkF, argsToLocals, Value.category]; done) | rfl
theorem rx47_960 (l : Launch) (Z : State) (a0 : Array Value) (hw : HW a0 Z) (ws : List Jvm.Cond) (n0 : Nat) (h0 : Heap) (O0 : Old Z n0 h0)  (b924 : Addr) (b606 : Addr) (b948 : Addr) (k949 : ClassId) (Pa0 : f37_ Z h0 b924 (.int 0)) (Pa1 : Exa Z h0 b924 cNA) (Pa2 : f34_ Z h0 b924 (.ref b948)) (Pa3 : Arv Z h0 b948 k949 (.object cST) (1 : Int32) [.null] .null) (Pa4 : Ovr Z k949 cST) (Pa5 : Exa Z h0 b606 cST) (Pa6 : f36_ Z h0 b924 .null) (Pa7 : f35_ Z h0 b924 .null) (Pa8 : f33_ Z h0 b924 (.int 0)) (Pa9 : Fld Z h0 b924 cNA "next" "[I" .null) (ne_b948_b924 : b948 ≠ b924) (g_b924 : n0 ≤ b924) (g_b948 : n0 ≤ b948) :
  Meets1 l ym55 B49_ 4 none ws (mkR 0 0 0 0) #[(.ref b924), (.ref b606)] Z h0 (fun v h L => v = none ∧ Fr n0 L ∧ Keep h0 h [b924, b948] ∧ f37_ Z h b924 (.int 1) ∧ f34_ Z h b924 (.ref b948) ∧ Arv Z h b948 k949 (.object cST) (1 : Int32) [(.ref b606)] .null ∧ f36_ Z h b924 .null ∧ f35_ Z h b924 .null ∧ f33_ Z h b924 (.int 0) ∧ Fld Z h b924 cNA "next" "[I" .null) := by
 refine own_start n0 (plainFor_of_name pn47) (fun m => ef47_rr m b924 b606) ?_
 intro p e s m below meth c s₁ hns hrt hZ hx hby hml hown hnm X0 e0 N0
 have K0 := Keep.refl h0 [b924, b948]
 refine walN X0 hx hby d47_0 rfl rfl ?_
 refine wdu X0 hx hby d47_1 rfl ?_
 refine wgf X0 hx hZ hown hw 359 rfl e0 Pa0 hby d47_2 ?_
 intro T961 X961 e961
 refine wdx X961 hx hby d47_5 rfl rfl ?_
 refine wic X961 hx hby d47_6 ?_
 refine wia X961 hx hby d47_7 ?_
 refine wpf X961 hx hZ hown hw 359 rfl e961 Pa0 Pa1 360 rfl 328 rfl (ty := .int) (by decide) rfl rfl hby d47_8 ?_
 intro T962 h962 X962 e962 W962
 have Fw962 := Pa0.same W962
 have K962 := K0.wr W962 (mi 0 rfl)
 have N962 := Fr.snoc X962 N0 g_b924
 refine wstN X962 hx hby d47_11 (l' := #[cr b924, cr b606, ci 0, cu]) rfl ?_
 refine walN X962 hx hby d47_12 rfl rfl ?_
 have c963 := Pa2.other W962 (sll hw 343 rfl 360 rfl)
 refine wgf X962 hx hZ hown hw 342 rfl e962 c963 hby d47_13 ?_
 intro T964 X964 e964
 refine wilN X964 hx hby d47_16 rfl ?_
 refine walN X964 hx hby d47_17 rfl rfl ?_
 obtain ⟨cl965, Ar965, q965, S965, M965, H965, G965⟩ := id (Pa3.other W962 ne_b948_b924)
 have hin965 := inb_of (j := (0 : Int32)) S965 ⟨by decide, by decide⟩
 obtain ⟨T965, h965, X965, e965, W965, st965⟩ := stR X964 hx hZ e964 Ar965 (j := (0 : Int32)) hin965 rfl (Sto.ofV Ar965 q965 Pa4 (Ins.self (Pa5.wr W962))) (g := (mkF m 18 #[cr b924, cr b606, ci 0, cu] [(.ref b606), (.int 0), (.ref b948)])) rfl rfl (hb hby d47_18)
 refine Ends.go st965 ?_
 have V965 : Arv Z h965 b948 k949 (.object cST) (1 : Int32) [(.ref b606)] .null := Arv.set Ar965 q965 S965 M965 H965 G965 rfl W965 0 rfl (Nat.le_of_ble_eq_true rfl)
 have K965 := K962.wr W965 (mi 1 rfl)
 have N965 := Fr.snoc X965 N962 g_b948
 refine walN X965 hx hby d47_19 rfl rfl ?_
 have c966 := (Pa6.other W962 (sll hw 354 rfl 360 rfl)).other W965 (Or.inl (Ne.symm ne_b948_b924))
 refine wgf X965 hx hZ hown hw 353 rfl e965 c966 hby d47_20 ?_
 intro T967 X967 e967
 refine wuy (pc := 23) (pc' := 44) X967 hx hby d47_23 ?_
 refine walN X967 hx hby d47_44 rfl rfl ?_
 have c968 := (Pa7.other W962 (sfl hw 345 rfl 360 rfl)).other W965 (Or.inl (Ne.symm ne_b948_b924))
 refine wgf X967 hx hZ hown hw 344 rfl e967 c968 hby d47_45 ?_
 intro T969 X969 e969
 refine wuy (pc := 48) (pc' := 110) X969 hx hby d47_48 ?_
 refine Ends.retV X969 hx hns hrt (hb hby d47_110) (by decide) (by decide) ?_
 rw [e969]
 have c970 := (Pa8.other W962 (sll hw 340 rfl 360 rfl)).other W965 (Or.inl (Ne.symm ne_b948_b924))
 have c971 := (Pa9.other W962 (sfl hw 347 rfl 360 rfl)).other W965 (Or.inl (Ne.symm ne_b948_b924))
 exact ⟨rfl, N965, K965, (Fw962.other W965 (Or.inl (Ne.symm ne_b948_b924))), (c963.other W965 (Or.inl (Ne.symm ne_b948_b924))), V965, c966, c968, c970, c971⟩

theorem d42_0 : decode B51_ 0 = .ok (.new 7, 3) := by decide +kernel
theorem d42_3 : decode B51_ 3 = .ok (.dup, 1) := by decide +kernel
theorem d42_4 : decode B51_ 4 = .ok (.iload_n 2, 1) := by decide +kernel
theorem d42_5 : decode B51_ 5 = .ok (.iload_n 1, 1) := by decide +kernel
theorem d42_6 : decode B51_ 6 = .ok (.isub, 1) := by decide +kernel
theorem d42_7 : decode B51_ 7 = .ok (.invokespecial 26, 3) := by decide +kernel
theorem d42_10 : decode B51_ 10 = .ok (.astore_n 3, 1) := by decide +kernel
theorem d42_11 : decode B51_ 11 = .ok (.iload_n 1, 1) := by decide +kernel
theorem d42_12 : decode B51_ 12 = .ok (.istore 4, 2) := by decide +kernel
theorem d42_14 : decode B51_ 14 = .ok (.iload 4, 2) := by decide +kernel
theorem d42_16 : decode B51_ 16 = .ok (.iload_n 2, 1) := by decide +kernel
theorem d42_17 : decode B51_ 17 = .ok (.if_icmp .ge 28, 3) := by decide +kernel
theorem d42_20 : decode B51_ 20 = .ok (.aload_n 3, 1) := by decide +kernel
theorem d42_21 : decode B51_ 21 = .ok (.aload_n 0, 1) := by decide +kernel
theorem d42_22 : decode B51_ 22 = .ok (.iload 4, 2) := by decide +kernel
theorem d42_24 : decode B51_ 24 = .ok (.aaload, 1) := by decide +kernel
theorem d42_25 : decode B51_ 25 = .ok (.invokevirtual 29, 3) := by decide +kernel
theorem d42_28 : decode B51_ 28 = .ok (.ifCond .ge 11, 3) := by decide +kernel
theorem d42_31 : decode B51_ 31 = .ok (.aload_n 3, 1) := by decide +kernel
theorem d42_32 : decode B51_ 32 = .ok (.aload_n 0, 1) := by decide +kernel
theorem d42_33 : decode B51_ 33 = .ok (.iload 4, 2) := by decide +kernel
theorem d42_35 : decode B51_ 35 = .ok (.aaload, 1) := by decide +kernel
theorem d42_36 : decode B51_ 36 = .ok (.invokevirtual 33, 3) := by decide +kernel
theorem d42_39 : decode B51_ 39 = .ok (.iinc 4 1, 3) := by decide +kernel
theorem d42_42 : decode B51_ 42 = .ok (.goto (-28), 3) := by decide +kernel
theorem d42_45 : decode B51_ 45 = .ok (.aload_n 3, 1) := by decide +kernel
theorem d42_46 : decode B51_ 46 = .ok (.getfield 37, 3) := by decide +kernel
theorem d42_49 : decode B51_ 49 = .ok (.aload_n 3, 1) := by decide +kernel
theorem d42_50 : decode B51_ 50 = .ok (.getfield 11, 3) := by decide +kernel
theorem d42_53 : decode B51_ 53 = .ok (.arraylength, 1) := by decide +kernel
theorem d42_54 : decode B51_ 54 = .ok (.if_icmp .ge 21, 3) := by decide +kernel
theorem d42_75 : decode B51_ 75 = .ok (.aload_n 3, 1) := by decide +kernel
theorem d42_76 : decode B51_ 76 = .ok (.areturn, 1) := by decide +kernel
theorem pn42 : plainName "com/example/ratatoskr/ratatoskr/Names" = true := by first | (simp [plainName, overriddenIn]; done) | decide +kernel
theorem pdx_34 : parseMethodDescriptor "(Ljava/lang/String;)V" = some ⟨[(.object "java/lang/String")], none⟩ := by decide +kernel
theorem ef42_rii (m : MethodId) (x0 : Addr) (x1 : Int32) (x2 : Int32) : entryFrame m #[(.ref x0), (.int x1), (.int x2)] 5 = mkF m 0 #[.val (.ref x0), .val (.int x1), .val (.int x2), .unset, .unset] [] := by first | (simp [entryFrame, mkF, argsToLocals, Value.category]; done) | rfl
theorem rx42_923 (l : Launch) (Z : State) (a0 : Array Value) (hw : HW a0 Z) (ws : List Jvm.Cond) (n0 : Nat) (h0 : Heap) (O0 : Old Z n0 h0)  (b807 : Addr) (k807 : ClassId) (b606 : Addr) (Pa0 : Arv Z h0 b807 k807 (.object cST) (1 : Int32) [(.ref b606)] .null) (Pa1 : Exa Z h0 b606 cST) :
  Meets1 l ym56 B51_ 5 (some (.object cNA)) ws (mkR 4 2 8 51) #[(.ref b807), (.int 0), (.int 1)] Z h0 (fun v h L => ∃ (b924 : Addr) (b948 : Addr) (k949 : ClassId), v = some (.ref b924) ∧ Fr n0 L ∧ Keep h0 h [] ∧ h0.size ≤ b924 ∧ h0.size ≤ b948 ∧ b924 ≠ b948 ∧ Exa Z h b924 cNA ∧ Ovr Z k949 cST ∧ f37_ Z h b924 (.int 1) ∧ f34_ Z h b924 (.ref b948) ∧ Arv Z h b948 k949 (.object cST) (1 : Int32) [(.ref b606)] .null ∧ f36_ Z h b924 .null ∧ f35_ Z h b924 .null ∧ f33_ Z h b924 (.int 0) ∧ Fld Z h b924 cNA "next" "[I" .null) := by
 refine own_start n0 (plainFor_of_name pn42) (fun m => ef42_rii m b807 (0 : Int32) (1 : Int32)) ?_
 intro p e s m below meth c s₁ hns hrt hZ hx hby hml hown hnm X0 e0 N0
 have K0 := Keep.refl h0 []
 obtain ⟨T924, h924, X924, e924, E924, A924, D924, -, st924⟩ := newO X0 hx hZ hown (ow hw 327 rfl) (ow hw 328 rfl) (ow hw 325 rfl) e0 (g := (mkF m 0 #[cr b807, ci 0, ci 1, cu, cu] [])) rfl (hb hby d42_0) (by decide) (by decide)
 obtain ⟨b924, g924⟩ : ∃ z, z = h0.size := ⟨_, rfl⟩
 rw [← g924] at A924 D924 st924
 refine Ends.go st924 ?_
 have g_b924 : n0 ≤ b924 := Nat.le_trans (own_old_le O0) (Nat.le_of_eq g924.symm)
 have sz_b924 : h0.size ≤ b924 := Nat.le_trans K0.1 (Nat.le_of_eq g924.symm)
 have K924 := K0.ext E924
 have O924 := O0.ext E924
 have F_modCount_b924 : f33_ Z h924 b924 (.int 0) := D924 (Or.inl (ow hw 340 rfl)) (ty := .int) (by decide)
 have F_names_b924 : f34_ Z h924 b924 .null := D924 (Or.inl (ow hw 343 rfl)) (ty := (.array (.object cST))) (by decide)
 have F_heads_b924 : f35_ Z h924 b924 .null := D924 (Or.inr (ow hw 345 rfl)) (ty := (.array .int)) (by decide)
 have F_next_b924 : Fld Z h924 b924 cNA "next" "[I" .null := D924 (Or.inr (ow hw 347 rfl)) (ty := (.array .int)) (by decide)
 have F_sorted_b924 : f36_ Z h924 b924 .null := D924 (Or.inl (ow hw 354 rfl)) (ty := (.object qs25)) (by decide)
 have F_size_b924 : f37_ Z h924 b924 (.int 0) := D924 (Or.inl (ow hw 360 rfl)) (ty := .int) (by decide)
 refine wdu X924 hx hby d42_3 rfl ?_
 refine wilN X924 hx hby d42_4 rfl ?_
 refine wilN X924 hx hby d42_5 rfl ?_
 refine wis X924 hx hby d42_6 ?_
 obtain ⟨_, _, ⟨T947, L947, k947, n947⟩, -, X947, ⟨Lc947, hQ947, l947, y947, z947⟩, st947⟩ := X924.specialBack hx (y := ym52) rfl hown (ov hZ hw 329 rfl) (ov hZ hw 330 rfl) (ov hZ hw 331 rfl) (by decide) (own_backOf (W := 1) (rx43_925 l Z a0 hw [] n0 h924 O924  b924 A924 F_modCount_b924 F_names_b924 F_heads_b924 F_next_b924 F_sorted_b924 F_size_b924 g_b924) hZ (ow hw 331 rfl) (ow hw 325 rfl) (by decide) (by decide)) (g := (mkF m 7 #[cr b807, ci 0, ci 1, cu, cu] [(.int 1), (.ref b924), (.ref b924)])) rfl (by rw [hml]; rfl) (Steps.refl _) (a := b924) (argsL := [(.int 1)]) (rest := [(.ref b924)]) (lenOf pdx_32 rfl) rfl (own_w rfl) (hb hby d42_7) (fun _ _ => ⟨rfl, e924, (by decide : 1 + 1 ≤ _), (by decide : 7 + 1 ≤ _)⟩)
 dsimp only [Pt.U, Pt.locs, Pt.cells, Pt.slots] at X947 l947 y947 z947 st947 hQ947
 subst l947 y947 z947
 obtain ⟨b948, k949, rfl, N947q, K947c, hb947_b948, Y947_0, Y947_1, Y947_2, Y947_3, Y947_4, Y947_5, Y947_6, Y947_7⟩ := hQ947
 have N947 := Fr.app N0 N947q
 refine Ends.go (fun _ k => st947.trans k) ?_
 have g_b948 : n0 ≤ b948 := Nat.le_trans (own_old_le O924) hb947_b948
 have sz_b948 : h0.size ≤ b948 := Nat.le_trans K924.1 hb947_b948
 obtain ⟨h947, e947⟩ : ∃ z, T947.heap = z := ⟨_, rfl⟩
 rw [e947] at K947c Y947_0 Y947_1 Y947_2 Y947_3 Y947_4 Y947_5 Y947_6
 have K947 := K924.trans K947c (allS (Or.inr sz_b924) all0)
 have O947 := O924.keep K947c (allS g_b924 all0)
 refine wasN X947 hx hby d42_10 (l' := #[cr b807, ci 0, ci 1, cr b924, cu]) rfl rfl ?_
 refine wilN X947 hx hby d42_11 rfl ?_
 refine wst X947 hx hby d42_12 (l' := #[cr b807, ci 0, ci 1, cr b924, ci 0]) rfl ?_
 refine wil X947 hx hby d42_14 rfl ?_
 refine wilN X947 hx hby d42_16 rfl ?_
 refine wcn X947 hx hby d42_17 (tlt (by decide : (0 : Int32) < (1 : Int32))).2.1 ?_
 refine walN X947 hx hby d42_20 rfl rfl ?_
 refine walN X947 hx hby d42_21 rfl rfl ?_
 refine wil X947 hx hby d42_22 rfl ?_
 have c951 := (Pa0.ext E924).keep K947c (ninS (Nat.ne_of_lt (Nat.lt_of_lt_of_le Pa0.lt sz_b924)) nin0)
 obtain ⟨cl950, Ar950, q950, S950, M950, H950, G950⟩ := id c951
 have hin950 := inb_of (j := (0 : Int32)) S950 ⟨by decide, by decide⟩
 refine Ends.go (X947.aaload hx (j := (0 : Int32)) (v := (.ref b606)) (by rw [e947]; exact Ar950.1) (State.isArrayOf_alike hZ.alike Ar950.2.1) rfl Ar950.2.2 hin950 (H950.at hin950 rfl) (g := (mkF m 24 #[cr b807, ci 0, ci 1, cr b924, ci 0] [(.int 0), (.ref b807), (.ref b924)])) rfl rfl (hb hby d42_24)) ?_
 refine wvb X947 hx hZ hown hw hml rfl hby d42_25 348 rfl 349 rfl 351 rfl 350 rfl (by decide) e947 (A924.keep K947c) (rx45_952 l Z a0 hw [] n0 h947 O947  b924 b606 Y947_4 Y947_2 Y947_5 (A924.keep K947c)) 352 rfl 325 rfl (by decide) (by decide) [(.ref b606)] [] pdx_33 rfl rfl rfl (by decide) (by decide) rfl ?_
 intro _ T958 _ X958 hQ958
 obtain ⟨rfl, N958q, K958c⟩ := hQ958
 have N958 := Fr.app N947 N958q
 obtain ⟨h958, e958⟩ : ∃ z, T958.heap = z := ⟨_, rfl⟩
 rw [e958] at K958c
 have K958 := K947.trans K958c all0
 have O958 := O947.keep K958c all0
 refine win X958 hx hby d42_28 ((if0 _ _).trans (tlt (by decide : (-1 : Int32) < (0 : Int32))).2.1) ?_
 refine walN X958 hx hby d42_31 rfl rfl ?_
 refine walN X958 hx hby d42_32 rfl rfl ?_
 refine wil X958 hx hby d42_33 rfl ?_
 obtain ⟨cl959, Ar959, q959, S959, M959, H959, G959⟩ := id (c951.keep K958c nin0)
 have hin959 := inb_of (j := (0 : Int32)) S959 ⟨by decide, by decide⟩
 refine Ends.go (X958.aaload hx (j := (0 : Int32)) (v := (.ref b606)) (by rw [e958]; exact Ar959.1) (State.isArrayOf_alike hZ.alike Ar959.2.1) rfl Ar959.2.2 hin959 (H959.at hin959 rfl) (g := (mkF m 35 #[cr b807, ci 0, ci 1, cr b924, ci 0] [(.int 0), (.ref b807), (.ref b924)])) rfl rfl (hb hby d42_35)) ?_
 have ne_b924_b948 : b924 ≠ b948 := Nat.ne_of_lt (Nat.lt_of_lt_of_le A924.lt hb947_b948)
 obtain ⟨cq972, q972, q972'⟩ := ((A924.keep K947c).keep K958c).cell
 obtain ⟨_, _, ⟨T972, L972, k972, n972⟩, -, X972, ⟨Lc972, hQ972, l972, y972, z972⟩, st972⟩ := X958.privateBack hx (y := ym55) hown (ov hZ hw 361 rfl) (ov hZ hw 362 rfl) (own_selp (y := ym55) (ov hZ hw 328 rfl) (Cond.privateMethod_at (mvP hZ (ow hw 363 rfl) (args := #[]))) (ov hZ hw 362 rfl) (by decide)) (Cond.privateMethod_at (mvP hZ (ow hw 363 rfl) (args := #[]))) (ov hZ hw 364 rfl) (by decide) (own_backOf (W := 0) (rx47_960 l Z a0 hw [] n0 h958 O958  b924 b606 b948 k949 (Y947_5.keep K958c nin0) ((A924.keep K947c).keep K958c) (Y947_1.keep K958c nin0) (Y947_6.keep K958c nin0) Y947_7 (((Pa1.ext E924).keep K947c).keep K958c) (Y947_4.keep K958c nin0) (Y947_2.keep K958c nin0) (Y947_0.keep K958c nin0) (Y947_3.keep K958c nin0) (Ne.symm ne_b924_b948) g_b924 g_b948) hZ (ow hw 364 rfl) (ow hw 325 rfl) (by decide) (by decide)) (g := (mkF m 36 #[cr b807, ci 0, ci 1, cr b924, ci 0] [(.ref b606), (.ref b924)])) rfl (by rw [hml]; rfl) (Steps.refl _) (a := b924) (by rw [e958]; exact q972) q972' (argsL := [(.ref b606)]) (rest := []) (lenOf pdx_34 rfl) rfl (own_w rfl) (hb hby d42_36) (fun _ _ => ⟨rfl, e958, (by decide : 2 + 0 ≤ _), (by decide : 8 + 0 ≤ _)⟩)
 dsimp only [Pt.U, Pt.locs, Pt.cells, Pt.slots] at X972 l972 y972 z972 st972 hQ972
 subst l972 y972 z972
 obtain ⟨rfl, N972q, K972c, Y972_0, Y972_1, Y972_2, Y972_3, Y972_4, Y972_5, Y972_6⟩ := hQ972
 have N972 := Fr.app N958 N972q
 refine Ends.go (fun _ k => st972.trans k) ?_
 obtain ⟨h972, e972⟩ : ∃ z, T972.heap = z := ⟨_, rfl⟩
 rw [e972] at K972c Y972_0 Y972_1 Y972_2 Y972_3 Y972_4 Y972_5 Y972_6
 have K972 := K958.trans K972c (allS (Or.inr sz_b924) (allS (Or.inr sz_b948) all0))
 refine wii X972 hx hby d42_39 (l' := #[cr b807, ci 0, ci 1, cr b924, ci 1]) rfl rfl ?_
 refine wgo (pc := 42) (pc' := 14) X972 hx hby d42_42 ?_
 refine wil X972 hx hby d42_14 rfl ?_
 refine wilN X972 hx hby d42_16 rfl ?_
 refine wcy (pc := 17) (pc' := 45) X972 hx hby d42_17 (flt (by decide : ¬ ((1 : Int32) < (1 : Int32)))).2.1 ?_
 refine walN X972 hx hby d42_45 rfl rfl ?_
 show Ends _ _ _ _ T972 (mkF m 46 #[cr b807, ci 0, ci 1, cr b924, ci 1] [(.ref b924)]) _ _ _
 refine wgf X972 hx hZ hown hw 359 rfl e972 Y972_0 hby d42_46 ?_
 intro T973 X973 e973
 refine walN X973 hx hby d42_49 rfl rfl ?_
 refine wgf X973 hx hZ hown hw 342 rfl e973 Y972_1 hby d42_50 ?_
 intro T974 X974 e974
 obtain ⟨cl975, Ar975, q975, S975, M975, H975, G975⟩ := id Y972_2
 refine Ends.go (X974.arraylength hx (by rw [e974]; exact Ar975.1) (State.isArrayOf_alike hZ.alike Ar975.2.1) (g := (mkF m 53 #[cr b807, ci 0, ci 1, cr b924, ci 1] [(.ref b948), (.int 1)])) rfl rfl (hb hby d42_53)) ?_
 rw [len_of S975 M975]
 refine wcy (pc := 54) (pc' := 75) X974 hx hby d42_54 (flt (by decide : ¬ ((1 : Int32) < (1 : Int32)))).2.1 ?_
 refine walN X974 hx hby d42_75 rfl rfl ?_
 refine Ends.ret X974 hx hns (t := (.object cNA)) hrt rfl (Or.inr (Or.inr (Or.inr (Or.inr ⟨rfl, rfl, rfl⟩)))) (hb hby d42_76) (by decide) (by decide) ?_
 rw [e974]
 exact ⟨b924, b948, k949, rfl, N972, K972, sz_b924, sz_b948, ne_b924_b948, (((A924.keep K947c).keep K958c).keep K972c), Y947_7, Y972_0, Y972_1, Y972_2, Y972_3, Y972_4, Y972_5, Y972_6⟩

theorem d48_0 : decode B43_ 0 = .ok (.aload_n 0, 1) := by decide +kernel
theorem d48_1 : decode B43_ 1 = .ok (.invokespecial 1, 3) := by decide +kernel
theorem d48_4 : decode B43_ 4 = .ok (.aload_n 0, 1) := by decide +kernel
theorem d48_5 : decode B43_ 5 = .ok (.aload_n 1, 1) := by decide +kernel
theorem d48_6 : decode B43_ 6 = .ok (.putfield 7, 3) := by decide +kernel
theorem d48_9 : decode B43_ 9 = .ok (.aload_n 0, 1) := by decide +kernel
theorem d48_10 : decode B43_ 10 = .ok (.aload_n 2, 1) := by decide +kernel
theorem d48_11 : decode B43_ 11 = .ok (.putfield 13, 3) := by decide +kernel
theorem d48_14 : decode B43_ 14 = .ok (.return_, 1) := by decide +kernel
theorem pn48 : plainName "com/example/ratatoskr/ratatoskr/JsonObject" = true := by first | (simp [plainName, overriddenIn]; done) | decide +kernel
theorem pdx_35 : parseMethodDescriptor "([Ljava/lang/String;II)Lcom/example/ratatoskr/ratatoskr/Names;" = some ⟨[(.array (.object "java/lang/String")), .int, .int], some (.object "com/example/ratatoskr/ratatoskr/Names")⟩ := by decide +kernel
theorem ef48_rrr (m : MethodId) (x0 : Addr) (x1 : Addr) (x2 : Addr) : entryFrame m #[(.ref x0), (.ref x1), (.ref x2)] 3 = mkF m 0 #[.val (.ref x0), .val (.ref x1), .val (.ref x2)] [] := by first | (simp [entryFrame, mkF, argsToLocals, Value.category]; done) | rfl
theorem rx48_981 (l : Launch) (Z : State) (a0 : Array Value) (hw : HW a0 Z) (ws : List Jvm.Cond) (n0 : Nat) (h0 : Heap) (O0 : Old Z n0 h0)  (b980 : Addr) (b977 : Addr) (b809 : Addr) (Pa0 : Exa Z h0 b980 cJO) (Pa1 : f4_ Z h0 b980 .null) (Pa2 : f3_ Z h0 b980 .null) (g_b980 : n0 ≤ b980) :
  Meets1 l ym57 B43_ 3 none ws (mkR 1 0 0 12) #[(.ref b980), (.ref b977), (.ref b809)] Z h0 (fun v h L => v = none ∧ Fr n0 L ∧ Keep h0 h [b980] ∧ f4_ Z h b980 (.ref b977) ∧ f3_ Z h b980 (.ref b809)) := by
 refine own_start n0 (plainFor_of_name pn48) (fun m => ef48_rrr m b980 b977 b809) ?_
 intro p e s m below meth c s₁ hns hrt hZ hx hby hml hown hnm X0 e0 N0
 have K0 := Keep.refl h0 [b980]
 refine walN X0 hx hby d48_0 rfl rfl ?_
 obtain ⟨T982, X982, e982, st982⟩ := initO X0 hx hZ hown (ow hw 370 rfl) (ow hw 23 rfl) (ow hw 24 rfl) e0 (g := (mkF m 1 #[cr b980, cr b977, cr b809] [(.ref b980)])) rfl (by rw [hml]; rfl) rfl (hb hby d48_1) (by decide) (W := 0) (own_w rfl) (by decide)
 refine Ends.go st982 ?_
 refine walN X982 hx hby d48_4 rfl rfl ?_
 refine walN X982 hx hby d48_5 rfl rfl ?_
 obtain ⟨T983, h983, X983, e983, W983, st983⟩ := putF X982 hx hZ hown (host := "") (Or.inl (ow hw 371 rfl)) Via.refl e982 Pa1 Pa0 (Or.inr ⟨(ow hw 372 rfl), rfl, hnm⟩) (ow hw 366 rfl) (ty := (.object cNA)) (by decide) rfl rfl (g := (mkF m 6 #[cr b980, cr b977, cr b809] [(.ref b977), (.ref b980)])) rfl rfl (hb hby d48_6)
 refine Ends.go st983 ?_
 have Fw983 := Pa1.same W983
 have K983 := K0.wr W983 (mi 0 rfl)
 have N983 := Fr.snoc X983 N0 g_b980
 refine walN X983 hx hby d48_9 rfl rfl ?_
 refine walN X983 hx hby d48_10 rfl rfl ?_
 have c984 := Pa2.other W983 (sff hw 374 rfl 372 rfl)
 obtain ⟨T985, h985, X985, e985, W985, st985⟩ := putF X983 hx hZ hown (host := "") (Or.inl (ow hw 373 rfl)) Via.refl e983 c984 (Pa0.wr W983) (Or.inr ⟨(ow hw 374 rfl), rfl, hnm⟩) (ow hw 366 rfl) (ty := (.array (.object cJV))) (by decide) rfl rfl (g := (mkF m 11 #[cr b980, cr b977, cr b809] [(.ref b809), (.ref b980)])) rfl rfl (hb hby d48_11)
 refine Ends.go st985 ?_
 have Fw985 := c984.same W985
 have K985 := K983.wr W985 (mi 0 rfl)
 have N985 := Fr.snoc X985 N983 g_b980
 refine Ends.retV X985 hx hns hrt (hb hby d48_14) (by decide) (by decide) ?_
 rw [e985]
 have c986 := Fw983.other W985 (sff hw 372 rfl 374 rfl)
 exact ⟨rfl, N985, K985, c986, Fw985⟩

theorem d26_0 : decode B47_ 0 = .ok (.aload_n 0, 1) := by decide +kernel
theorem d26_1 : decode B47_ 1 = .ok (.getfield 7, 3) := by decide +kernel
theorem d26_4 : decode B47_ 4 = .ok (.invokeinterface 37 1, 5) := by decide +kernel
theorem d26_9 : decode B47_ 9 = .ok (.anewarray 41, 3) := by decide +kernel
theorem d26_12 : decode B47_ 12 = .ok (.astore_n 1, 1) := by decide +kernel
theorem d26_13 : decode B47_ 13 = .ok (.aload_n 1, 1) := by decide +kernel
theorem d26_14 : decode B47_ 14 = .ok (.arraylength, 1) := by decide +kernel
theorem d26_15 : decode B47_ 15 = .ok (.anewarray 43, 3) := by decide +kernel
theorem d26_18 : decode B47_ 18 = .ok (.astore_n 2, 1) := by decide +kernel
theorem d26_19 : decode B47_ 19 = .ok (.iconst 0, 1) := by decide +kernel
theorem d26_20 : decode B47_ 20 = .ok (.istore_n 3, 1) := by decide +kernel
theorem d26_21 : decode B47_ 21 = .ok (.aload_n 0, 1) := by decide +kernel
theorem d26_22 : decode B47_ 22 = .ok (.getfield 7, 3) := by decide +kernel
theorem d26_25 : decode B47_ 25 = .ok (.invokeinterface 45 1, 5) := by decide +kernel
theorem d26_30 : decode B47_ 30 = .ok (.invokeinterface 49 1, 5) := by decide +kernel
theorem d26_35 : decode B47_ 35 = .ok (.astore 4, 2) := by decide +kernel
theorem d26_37 : decode B47_ 37 = .ok (.aload 4, 2) := by decide +kernel
theorem d26_39 : decode B47_ 39 = .ok (.invokeinterface 55 1, 5) := by decide +kernel
theorem d26_44 : decode B47_ 44 = .ok (.ifCond .eq 47, 3) := by decide +kernel
theorem d26_47 : decode B47_ 47 = .ok (.aload 4, 2) := by decide +kernel
theorem d26_49 : decode B47_ 49 = .ok (.invokeinterface 61 1, 5) := by decide +kernel
theorem d26_54 : decode B47_ 54 = .ok (.checkcast 65, 3) := by decide +kernel
theorem d26_57 : decode B47_ 57 = .ok (.astore 5, 2) := by decide +kernel
theorem d26_59 : decode B47_ 59 = .ok (.aload_n 1, 1) := by decide +kernel
theorem d26_60 : decode B47_ 60 = .ok (.iload_n 3, 1) := by decide +kernel
theorem d26_61 : decode B47_ 61 = .ok (.aload 5, 2) := by decide +kernel
theorem d26_63 : decode B47_ 63 = .ok (.invokeinterface 67 1, 5) := by decide +kernel
theorem d26_68 : decode B47_ 68 = .ok (.checkcast 41, 3) := by decide +kernel
theorem d26_71 : decode B47_ 71 = .ok (.aastore, 1) := by decide +kernel
theorem d26_72 : decode B47_ 72 = .ok (.aload_n 2, 1) := by decide +kernel
theorem d26_73 : decode B47_ 73 = .ok (.iload_n 3, 1) := by decide +kernel
theorem d26_74 : decode B47_ 74 = .ok (.aload 5, 2) := by decide +kernel
theorem d26_76 : decode B47_ 76 = .ok (.invokeinterface 70 1, 5) := by decide +kernel
theorem d26_81 : decode B47_ 81 = .ok (.checkcast 43, 3) := by decide +kernel
theorem d26_84 : decode B47_ 84 = .ok (.aastore, 1) := by decide +kernel
theorem d26_85 : decode B47_ 85 = .ok (.iinc 3 1, 3) := by decide +kernel
theorem d26_88 : decode B47_ 88 = .ok (.goto (-51), 3) := by decide +kernel
theorem d26_91 : decode B47_ 91 = .ok (.aload_n 0, 1) := by decide +kernel
theorem d26_92 : decode B47_ 92 = .ok (.getfield 13, 3) := by decide +kernel
theorem d26_95 : decode B47_ 95 = .ok (.ifnull 10, 3) := by decide +kernel
theorem d26_105 : decode B47_ 105 = .ok (.aload_n 1, 1) := by decide +kernel
theorem d26_106 : decode B47_ 106 = .ok (.iconst 0, 1) := by decide +kernel
theorem d26_107 : decode B47_ 107 = .ok (.aload_n 1, 1) := by decide +kernel
theorem d26_108 : decode B47_ 108 = .ok (.arraylength, 1) := by decide +kernel
theorem d26_109 : decode B47_ 109 = .ok (.invokestatic 73, 3) := by decide +kernel
theorem d26_112 : decode B47_ 112 = .ok (.astore 4, 2) := by decide +kernel
theorem d26_114 : decode B47_ 114 = .ok (.new 79, 3) := by decide +kernel
theorem d26_117 : decode B47_ 117 = .ok (.dup, 1) := by decide +kernel
theorem d26_118 : decode B47_ 118 = .ok (.aload 4, 2) := by decide +kernel
theorem d26_120 : decode B47_ 120 = .ok (.aload_n 2, 1) := by decide +kernel
theorem d26_121 : decode B47_ 121 = .ok (.invokespecial 81, 3) := by decide +kernel
theorem d26_124 : decode B47_ 124 = .ok (.areturn, 1) := by decide +kernel
theorem pn26 : plainName "com/example/ratatoskr/ratatoskr/JsonObject$Builder" = true := by first | (simp [plainName, overriddenIn]; done) | decide +kernel
theorem pdx_36 : parseMethodDescriptor "(Lcom/example/ratatoskr/ratatoskr/Names;[Lcom/example/ratatoskr/ratatoskr/JsonValue;)V" = some ⟨[(.object "com/example/ratatoskr/ratatoskr/Names"), (.array (.object "com/example/ratatoskr/ratatoskr/JsonValue"))], none⟩ := by decide +kernel
theorem ef26_r (m : MethodId) (x0 : Addr) : entryFrame m #[(.ref x0)] 6 = mkF m 0 #[.val (.ref x0), .unset, .unset, .unset, .unset, .unset] [] := by first | (simp [entryFrame, mkF, argsToLocals, Value.category]; done) | rfl
theorem rx26_802 (l : Launch) (Z : State) (a0 : Array Value) (hw : HW a0 Z) (ws : List Jvm.Cond) (n0 : Nat) (h0 : Heap) (O0 : Old Z n0 h0) (G1 : Int32) (w_EMPTY : Addr) (GF : GlobF Z G1 w_EMPTY) (b651 : Addr) (b652 : Addr) (b800 : Addr) (b799 : Addr) (b606 : Addr) (Pa0 : f23_ Z h0 b651 (.ref b652)) (Pa1 : f21_ Z h0 b652 (.int 1)) (Pa2 : Exa Z h0 b652 cLHM) (Pa3 : f22_ Z h0 b652 .null) (Pa4 : f14_ Z h0 b652 (.int 0)) (Pa5 : f18_ Z h0 b652 (.ref b800)) (Pa6 : f19_ Z h0 b652 (.ref b800)) (Pa7 : f16_ Z h0 b652 (.ref b799)) (Pa8 : f17_ Z h0 b652 (.int 12)) (Pa9 : f13_ Z h0 b652 (.float (1061158912 : UInt32))) (Pa10 : f15_ Z h0 b652 (.int 0)) (Pa11 : f20_ Z h0 b652 (.int 1)) (Pa12 : Exa Z h0 b800 cLE) (Pa13 : f27_ Z h0 b800 .null) (Pa14 : f24_ Z h0 b800 (.ref b606)) (Pa15 : Exa Z h0 b606 cST) (Pa16 : f25_ Z h0 b800 (.ref w_EMPTY)) (Pa17 : Fld Z h0 b651 qs23 "shape" qs0 .null) (ne_b800_b652 : b800 ≠ b652) (ne_b651_b652 : b651 ≠ b652) (g_b652 : n0 ≤ b652) :
  Meets1 l ym58 B47_ 6 (some (.object cJO)) ws (mkR 6 7 19 77) #[(.ref b651)] Z h0 (fun v h L => ∃ (b807 : Addr) (b809 : Addr) (b842 : Addr) (b870 : Addr) (b977 : Addr) (b978 : Addr) (b980 : Addr) (k807 : ClassId) (k809 : ClassId) (k979 : ClassId), v = some (.ref b980) ∧ Fr n0 L ∧ Keep h0 h [b652] ∧ h0.size ≤ b807 ∧ h0.size ≤ b809 ∧ h0.size ≤ b842 ∧ h0.size ≤ b870 ∧ h0.size ≤ b977 ∧ h0.size ≤ b978 ∧ h0.size ≤ b980 ∧ b807 ≠ b809 ∧ b807 ≠ b842 ∧ b807 ≠ b870 ∧ b807 ≠ b977 ∧ b807 ≠ b978 ∧ b807 ≠ b980 ∧ b809 ≠ b842 ∧ b809 ≠ b870 ∧ b809 ≠ b977 ∧ b809 ≠ b978 ∧ b809 ≠ b980 ∧ b842 ≠ b870 ∧ b842 ≠ b977 ∧ b842 ≠ b978 ∧ b842 ≠ b980 ∧ b870 ≠ b977 ∧ b870 ≠ b978 ∧ b870 ≠ b980 ∧ b977 ≠ b978 ∧ b977 ≠ b980 ∧ b978 ≠ b980 ∧ Arv Z h b807 k807 (.object cST) (1 : Int32) [(.ref b606)] .null ∧ Ovr Z k807 cST ∧ Arv Z h b809 k809 (.object cJV) (1 : Int32) [(.ref w_EMPTY)] .null ∧ Ovr Z k809 cJV ∧ Exa Z h b809 cAJ ∧ f22_ Z h b652 (.ref b842) ∧ Exa Z h b842 qs35 ∧ Fld Z h b842 qs35 "this$0" qs36 (.ref b652) ∧ Fld Z h b842 qs35 "reversed" "Z" (.int 0) ∧ f21_ Z h b652 (.int 1) ∧ f14_ Z h b652 (.int 0) ∧ f18_ Z h b652 (.ref b800) ∧ f19_ Z h b652 (.ref b800) ∧ f16_ Z h b652 (.ref b799) ∧ f17_ Z h b652 (.int 12) ∧ f13_ Z h b652 (.float (1061158912 : UInt32)) ∧ f15_ Z h b652 (.int 0) ∧ f20_ Z h b652 (.int 1) ∧ Exa Z h b870 cLJ ∧ f30_ Z h b870 .null ∧ f28_ Z h b870 (.ref b652) ∧ f31_ Z h b870 (.int 1) ∧ f32_ Z h b870 (.ref b800) ∧ f29_ Z h b870 (.int 0) ∧ Exa Z h b977 cNA ∧ Ovr Z k979 cST ∧ f37_ Z h b977 (.int 1) ∧ f34_ Z h b977 (.ref b978) ∧ Arv Z h b978 k979 (.object cST) (1 : Int32) [(.ref b606)] .null ∧ f36_ Z h b977 .null ∧ f35_ Z h b977 .null ∧ f33_ Z h b977 (.int 0) ∧ Fld Z h b977 cNA "next" "[I" .null ∧ Exa Z h b980 cJO ∧ f4_ Z h b980 (.ref b977) ∧ f3_ Z h b980 (.ref b809)) := by
 refine own_start n0 (plainFor_of_name pn26) (fun m => ef26_r m b651) ?_
 intro p e s m below meth c s₁ hns hrt hZ hx hby hml hown hnm X0 e0 N0
 obtain ⟨SCS, P5, S_EMPTY, E_EMPTY⟩ := id GF
 have K0 := Keep.refl h0 [b652]
 show Ends _ _ _ _ s₁ (mkF m 0 #[cr b651, cu, cu, cu, cu, cu] []) _ _ _
 refine walN X0 hx hby d26_0 rfl rfl ?_
 refine wgf X0 hx hZ hown hw 66 rfl e0 Pa0 hby d26_1 ?_
 intro T803 X803 e803
 obtain ⟨cq806, kq806, q806a, q806b, q806c⟩ := isOf hZ e803 Pa2
 obtain ⟨_, _, ⟨T806, L806, k806, n806⟩, -, X806, ⟨Lc806, hQ806, l806, y806, z806⟩, st806⟩ := X803.interfaceBack hx (xi := ym59) (y := ym35) hown (ov hZ hw 186 rfl) (ov hZ hw 187 rfl) (ov hZ hw 188 rfl) (ov hZ hw 189 rfl) (ov hZ hw 190 rfl) (ov hZ hw 191 rfl) (ov hZ hw 192 rfl) (ov hZ hw 90 rfl) (by decide) (own_backOf (W := 0) (rx27_804 l Z a0 hw [] n0 h0 O0  b652 Pa1) hZ (ow hw 193 rfl) (ow hw 46 rfl) (by decide) (by decide)) q806a q806b q806c (g := (mkF m 4 #[cr b651, cu, cu, cu, cu, cu] [(.ref b652)])) rfl (by rw [hml]; rfl) (Steps.refl _) (argsL := []) (rest := []) (lenOf pdx_2 rfl) rfl (own_w rfl) (hb hby d26_4) (fun _ _ => ⟨rfl, e803, (by decide : 0 + 0 ≤ _), (by decide : 0 + 0 ≤ _)⟩)
 dsimp only [Pt.U, Pt.locs, Pt.cells, Pt.slots] at X806 l806 y806 z806 st806 hQ806
 subst l806 y806 z806
 obtain ⟨rfl, N806q, K806c⟩ := hQ806
 have N806 := Fr.app N0 N806q
 refine Ends.go (fun _ k => st806.trans k) ?_
 obtain ⟨h806, e806⟩ : ∃ z, T806.heap = z := ⟨_, rfl⟩
 rw [e806] at K806c
 have K806 := K0.trans K806c all0
 have O806 := O0.keep K806c all0
 obtain ⟨T807, h807, k807, X807, e807, E807, A807, O807v, st807⟩ := newR X806 hx hZ hown (ow hw 194 rfl) (ow hw 195 rfl) e806 (g := (mkF m 9 #[cr b651, cu, cu, cu, cu, cu] [(.int 1)])) rfl (hb hby d26_9) rfl (by decide) (cap := 1) (by decide) (by decide) (by decide) (by decide)
 obtain ⟨b807, g807⟩ : ∃ z, z = h806.size := ⟨_, rfl⟩
 rw [← g807] at A807 st807
 refine Ends.go st807 ?_
 have g_b807 : n0 ≤ b807 := Nat.le_trans (own_old_le O806) (Nat.le_of_eq g807.symm)
 have sz_b807 : h0.size ≤ b807 := Nat.le_trans K806.1 (Nat.le_of_eq g807.symm)
 have K807 := K806.ext E807
 have O807 := O806.ext E807
 have V_b807 : Arv Z h807 b807 k807 (.object cST) (1 : Int32) [.null] .null := (Arv.new A807 (by decide)).pad (pad_rep [] .null 1)
 refine wasN X807 hx hby d26_12 (l' := #[cr b651, cr b807, cu, cu, cu, cu]) rfl rfl ?_
 refine walN X807 hx hby d26_13 rfl rfl ?_
 obtain ⟨cl808, Ar808, q808, S808, M808, H808, G808⟩ := id V_b807
 refine Ends.go (X807.arraylength hx (by rw [e807]; exact Ar808.1) (State.isArrayOf_alike hZ.alike Ar808.2.1) (g := (mkF m 14 #[cr b651, cr b807, cu, cu, cu, cu] [(.ref b807)])) rfl rfl (hb hby d26_14)) ?_
 rw [len_of S808 M808]
 obtain ⟨T809, h809, k809, X809, e809, E809, A809, Ex809, O809v, st809⟩ := newRE X807 hx hZ hown (ow hw 196 rfl) (ow hw 197 rfl) e807 (g := (mkF m 15 #[cr b651, cr b807, cu, cu, cu, cu] [(.int 1)])) rfl (hb hby d26_15) rfl (by decide) (cap := 1) (by decide) (by decide) (by decide) (by decide) (ad := cAJ) (by decide)
 obtain ⟨b809, g809⟩ : ∃ z, z = h807.size := ⟨_, rfl⟩
 rw [← g809] at A809 st809 Ex809
 refine Ends.go st809 ?_
 have g_b809 : n0 ≤ b809 := Nat.le_trans (own_old_le O807) (Nat.le_of_eq g809.symm)
 have sz_b809 : h0.size ≤ b809 := Nat.le_trans K807.1 (Nat.le_of_eq g809.symm)
 have K809 := K807.ext E809
 have O809 := O807.ext E809
 have V_b809 : Arv Z h809 b809 k809 (.object cJV) (1 : Int32) [.null] .null := (Arv.new A809 (by decide)).pad (pad_rep [] .null 1)
 refine wasN X809 hx hby d26_18 (l' := #[cr b651, cr b807, cr b809, cu, cu, cu]) rfl rfl ?_
 refine wic X809 hx hby d26_19 ?_
 refine wstN X809 hx hby d26_20 (l' := #[cr b651, cr b807, cr b809, ci 0, cu, cu]) rfl ?_
 refine walN X809 hx hby d26_21 rfl rfl ?_
 refine wgf X809 hx hZ hown hw 66 rfl e809 (((Pa0.keep K806c nin0).ext E807).ext E809) hby d26_22 ?_
 intro T810 X810 e810
 obtain ⟨cq841, kq841, q841a, q841b, q841c⟩ := isOf hZ e810 (((Pa2.keep K806c).ext E807).ext E809)
 obtain ⟨_, _, ⟨T841, L841, k841, n841⟩, -, X841, ⟨Lc841, hQ841, l841, y841, z841⟩, st841⟩ := X810.interfaceBack hx (xi := ym60) (y := ym40) hown (ov hZ hw 198 rfl) (ov hZ hw 199 rfl) (ov hZ hw 200 rfl) (ov hZ hw 201 rfl) (ov hZ hw 202 rfl) (ov hZ hw 203 rfl) (ov hZ hw 204 rfl) (ov hZ hw 90 rfl) (by decide) (own_backOf (W := 0) (rx28_811 l Z a0 hw [] n0 h809 O809  b652 b800 b799 (((Pa3.keep K806c nin0).ext E807).ext E809) (((Pa2.keep K806c).ext E807).ext E809) (((Pa1.keep K806c nin0).ext E807).ext E809) (((Pa4.keep K806c nin0).ext E807).ext E809) (((Pa5.keep K806c nin0).ext E807).ext E809) (((Pa6.keep K806c nin0).ext E807).ext E809) (((Pa7.keep K806c nin0).ext E807).ext E809) (((Pa8.keep K806c nin0).ext E807).ext E809) (((Pa9.keep K806c nin0).ext E807).ext E809) (((Pa10.keep K806c nin0).ext E807).ext E809) (((Pa11.keep K806c nin0).ext E807).ext E809) g_b652) hZ (ow hw 205 rfl) (ow hw 38 rfl) (by decide) (by decide)) q841a q841b q841c (g := (mkF m 25 #[cr b651, cr b807, cr b809, ci 0, cu, cu] [(.ref b652)])) rfl (by rw [hml]; rfl) (Steps.refl _) (argsL := []) (rest := []) (lenOf pdx_27 rfl) rfl (own_w rfl) (hb hby d26_25) (fun _ _ => ⟨rfl, e810, (by decide : 2 + 1 ≤ _), (by decide : 2 + 2 ≤ _)⟩)
 dsimp only [Pt.U, Pt.locs, Pt.cells, Pt.slots] at X841 l841 y841 z841 st841 hQ841
 subst l841 y841 z841
 obtain ⟨b842, rfl, N841q, K841c, hb841_b842, Y841_0, Y841_1, Y841_2, Y841_3, Y841_4, Y841_5, Y841_6, Y841_7, Y841_8, Y841_9, Y841_10, Y841_11, Y841_12⟩ := hQ841
 have N841 := Fr.app N806 N841q
 refine Ends.go (fun _ k => st841.trans k) ?_
 have sz_b842 : h0.size ≤ b842 := Nat.le_trans K809.1 hb841_b842
 obtain ⟨h841, e841⟩ : ∃ z, T841.heap = z := ⟨_, rfl⟩
 rw [e841] at K841c Y841_0 Y841_1 Y841_2 Y841_3 Y841_4 Y841_5 Y841_6 Y841_7 Y841_8 Y841_9 Y841_10 Y841_11 Y841_12
 have K841 := K809.trans K841c (allS (mi 0 rfl) all0)
 have O841 := O809.keep K841c (allS g_b652 all0)
 obtain ⟨cq869, kq869, q869a, q869b, q869c⟩ := isOf hZ e841 Y841_1
 obtain ⟨_, _, ⟨T869, L869, k869, n869⟩, -, X869, ⟨Lc869, hQ869, l869, y869, z869⟩, st869⟩ := X841.interfaceBack hx (xi := ym61) (y := ym43) hown (ov hZ hw 238 rfl) (ov hZ hw 239 rfl) (ov hZ hw 240 rfl) (ov hZ hw 241 rfl) (ov hZ hw 242 rfl) (ov hZ hw 243 rfl) (ov hZ hw 244 rfl) (ov hZ hw 245 rfl) (by decide) (own_backOf (W := 0) (rx33_843 l Z a0 hw [] n0 h841 O841  b842 b652 b800 Y841_2 Y841_3 ((((Pa2.keep K806c).ext E807).ext E809).keep K841c) Y841_7 Y841_12) hZ (ow hw 246 rfl) (ow hw 216 rfl) (by decide) (by decide)) q869a q869b q869c (g := (mkF m 30 #[cr b651, cr b807, cr b809, ci 0, cu, cu] [(.ref b842)])) rfl (by rw [hml]; rfl) (Steps.refl _) (argsL := []) (rest := []) (lenOf pdx_28 rfl) rfl (own_w rfl) (hb hby d26_30) (fun _ _ => ⟨rfl, e841, (by decide : 3 + 1 ≤ _), (by decide : 4 + 5 ≤ _)⟩)
 dsimp only [Pt.U, Pt.locs, Pt.cells, Pt.slots] at X869 l869 y869 z869 st869 hQ869
 subst l869 y869 z869
 obtain ⟨b870, rfl, N869q, K869c, hb869_b870, Y869_0, Y869_1, Y869_2, Y869_3, Y869_4, Y869_5⟩ := hQ869
 have N869 := Fr.app N841 N869q
 refine Ends.go (fun _ k => st869.trans k) ?_
 have g_b870 : n0 ≤ b870 := Nat.le_trans (own_old_le O841) hb869_b870
 have sz_b870 : h0.size ≤ b870 := Nat.le_trans K841.1 hb869_b870
 obtain ⟨h869, e869⟩ : ∃ z, T869.heap = z := ⟨_, rfl⟩
 rw [e869] at K869c Y869_0 Y869_1 Y869_2 Y869_3 Y869_4 Y869_5
 have K869 := K841.trans K869c all0
 have O869 := O841.keep K869c all0
 refine was X869 hx hby d26_35 (l' := #[cr b651, cr b807, cr b809, ci 0, cr b870, cu]) rfl rfl ?_
 refine wal X869 hx hby d26_37 rfl rfl ?_
 obtain ⟨cq873, kq873, q873a, q873b, q873c⟩ := isOf hZ e869 Y869_0
 obtain ⟨_, _, ⟨T873, L873, k873, n873⟩, -, X873, ⟨Lc873, hQ873, l873, y873, z873⟩, st873⟩ := X869.interfaceBack hx (xi := ym62) (y := ym44) hown (ov hZ hw 274 rfl) (ov hZ hw 275 rfl) (ov hZ hw 276 rfl) (ov hZ hw 277 rfl) (ov hZ hw 278 rfl) (ov hZ hw 279 rfl) (ov hZ hw 280 rfl) (ov hZ hw 281 rfl) (by decide) (own_backOf (W := 0) (rx36_871 l Z a0 hw [] n0 h869 O869  b870 b800 Y869_3) hZ (ow hw 282 rfl) (ow hw 258 rfl) (by decide) (by decide)) q873a q873b q873c (g := (mkF m 39 #[cr b651, cr b807, cr b809, ci 0, cr b870, cu] [(.ref b870)])) rfl (by rw [hml]; rfl) (Steps.refl _) (argsL := []) (rest := []) (lenOf pdx_0 rfl) rfl (own_w rfl) (hb hby d26_39) (fun _ _ => ⟨rfl, e869, (by decide : 4 + 0 ≤ _), (by decide : 9 + 0 ≤ _)⟩)
 dsimp only [Pt.U, Pt.locs, Pt.cells, Pt.slots] at X873 l873 y873 z873 st873 hQ873
 subst l873 y873 z873
 obtain ⟨rfl, N873q, K873c⟩ := hQ873
 have N873 := Fr.app N869 N873q
 refine Ends.go (fun _ k => st873.trans k) ?_
 obtain ⟨h873, e873⟩ : ∃ z, T873.heap = z := ⟨_, rfl⟩
 rw [e873] at K873c
 have K873 := K869.trans K873c all0
 have O873 := O869.keep K873c all0
 refine win X873 hx hby d26_44 ((if0 _ _).trans (feq (by decide : ¬ ((1 : Int32) = (0 : Int32)))).1) ?_
 refine wal X873 hx hby d26_47 rfl rfl ?_
 have c893 := (((((Pa13.keep K806c nin0).ext E807).ext E809).keep K841c (ninS ne_b800_b652 nin0)).keep K869c nin0).keep K873c nin0
 obtain ⟨cq894, kq894, q894a, q894b, q894c⟩ := isOf hZ e873 (Y869_0.keep K873c)
 obtain ⟨_, _, ⟨T894, L894, k894, n894⟩, -, X894, ⟨Lc894, hQ894, l894, y894, z894⟩, st894⟩ := X873.interfaceBack hx (xi := ym63) (y := ym48) hown (ov hZ hw 283 rfl) (ov hZ hw 284 rfl) (ov hZ hw 285 rfl) (ov hZ hw 286 rfl) (ov hZ hw 287 rfl) (ov hZ hw 288 rfl) (ov hZ hw 289 rfl) (ov hZ hw 281 rfl) (by decide) (own_backOf (W := 0) (rx37_874 l Z a0 hw [] n0 h873 O873  b870 b800 b652 (Y869_3.keep K873c nin0) (Y869_1.keep K873c nin0) ((Y841_12.keep K869c nin0).keep K873c nin0) (Y869_4.keep K873c nin0) (Y869_0.keep K873c) (Y869_5.keep K873c nin0) (Y869_2.keep K873c nin0) c893 (Nat.ne_of_lt (Nat.lt_of_lt_of_le Pa12.lt sz_b870)) g_b870) hZ (ow hw 290 rfl) (ow hw 249 rfl) (by decide) (by decide)) q894a q894b q894c (g := (mkF m 49 #[cr b651, cr b807, cr b809, ci 0, cr b870, cu] [(.ref b870)])) rfl (by rw [hml]; rfl) (Steps.refl _) (argsL := []) (rest := []) (lenOf pdx_31 rfl) rfl (own_w rfl) (hb hby d26_49) (fun _ _ => ⟨rfl, e873, (by decide : 4 + 0 ≤ _), (by decide : 9 + 0 ≤ _)⟩)
 dsimp only [Pt.U, Pt.locs, Pt.cells, Pt.slots] at X894 l894 y894 z894 st894 hQ894
 subst l894 y894 z894
 obtain ⟨rfl, N894q, K894c, Y894_0, Y894_1, Y894_2, Y894_3, Y894_4⟩ := hQ894
 have N894 := Fr.app N873 N894q
 refine Ends.go (fun _ k => st894.trans k) ?_
 obtain ⟨h894, e894⟩ : ∃ z, T894.heap = z := ⟨_, rfl⟩
 rw [e894] at K894c Y894_0 Y894_1 Y894_2 Y894_3 Y894_4
 have K894 := K873.trans K894c (allS (Or.inr sz_b870) all0)
 have O894 := O873.keep K894c (allS g_b870 all0)
 have c895 := ((((((Pa12.keep K806c).ext E807).ext E809).keep K841c).keep K869c).keep K873c).keep K894c
 obtain ⟨T896, X896, e896, st896⟩ := castY X894 hx hZ hown (ow hw 304 rfl) e894 (Ins.of_exa c895 (ow hw 305 rfl)) (g := (mkF m 54 #[cr b651, cr b807, cr b809, ci 0, cr b870, cu] [(.ref b800)])) rfl rfl (hb hby d26_54)
 refine Ends.go st896 ?_
 refine was X896 hx hby d26_57 (l' := #[cr b651, cr b807, cr b809, ci 0, cr b870, cr b800]) rfl rfl ?_
 refine walN X896 hx hby d26_59 rfl rfl ?_
 refine wilN X896 hx hby d26_60 rfl ?_
 refine wal X896 hx hby d26_61 rfl rfl ?_
 have c899 := ((((((Pa14.keep K806c nin0).ext E807).ext E809).keep K841c (ninS ne_b800_b652 nin0)).keep K869c nin0).keep K873c nin0).keep K894c (ninS (Nat.ne_of_lt (Nat.lt_of_lt_of_le Pa12.lt sz_b870)) nin0)
 obtain ⟨cq900, kq900, q900a, q900b, q900c⟩ := isOf hZ e896 c895
 obtain ⟨_, _, ⟨T900, L900, k900, n900⟩, -, X900, ⟨Lc900, hQ900, l900, y900, z900⟩, st900⟩ := X896.interfaceBack hx (xi := ym64) (y := ym49) hown (ov hZ hw 306 rfl) (ov hZ hw 307 rfl) (ov hZ hw 308 rfl) (ov hZ hw 309 rfl) (ov hZ hw 310 rfl) (ov hZ hw 311 rfl) (ov hZ hw 312 rfl) (ov hZ hw 305 rfl) (by decide) (own_backOf (W := 2) (rx40_897 l Z a0 hw [] n0 h894 O894  b800 b606 c899) hZ (ow hw 313 rfl) (ow hw 146 rfl) (by decide) (by decide)) q900a q900b q900c (g := (mkF m 63 #[cr b651, cr b807, cr b809, ci 0, cr b870, cr b800] [(.ref b800), (.int 0), (.ref b807)])) rfl (by rw [hml]; rfl) (Steps.refl _) (argsL := []) (rest := [(.int 0), (.ref b807)]) (lenOf pdx_31 rfl) rfl (own_w rfl) (hb hby d26_63) (fun _ _ => ⟨rfl, e896, (by decide : 4 + 0 ≤ _), (by decide : 9 + 0 ≤ _)⟩)
 dsimp only [Pt.U, Pt.locs, Pt.cells, Pt.slots] at X900 l900 y900 z900 st900 hQ900
 subst l900 y900 z900
 obtain ⟨rfl, N900q, K900c⟩ := hQ900
 have N900 := Fr.app N894 N900q
 refine Ends.go (fun _ k => st900.trans k) ?_
 obtain ⟨h900, e900⟩ : ∃ z, T900.heap = z := ⟨_, rfl⟩
 rw [e900] at K900c
 have K900 := K894.trans K900c all0
 have O900 := O894.keep K900c all0
 have c901 := (((((((Pa15.keep K806c).ext E807).ext E809).keep K841c).keep K869c).keep K873c).keep K894c).keep K900c
 obtain ⟨T902, X902, e902, st902⟩ := castY X900 hx hZ hown (ow hw 194 rfl) e900 (Ins.self c901) (g := (mkF m 68 #[cr b651, cr b807, cr b809, ci 0, cr b870, cr b800] [(.ref b606), (.int 0), (.ref b807)])) rfl rfl (hb hby d26_68)
 refine Ends.go st902 ?_
 have c904 := (V_b807.ext E809).keep K841c (ninS (Ne.symm (Nat.ne_of_lt (Nat.lt_of_lt_of_le Pa1.lt sz_b807))) nin0)
 have ne_b807_b870 : b807 ≠ b870 := Nat.ne_of_lt (Nat.lt_of_lt_of_le c904.lt hb869_b870)
 have c905 := (((((V_b807.ext E809).keep K841c (ninS (Ne.symm (Nat.ne_of_lt (Nat.lt_of_lt_of_le Pa1.lt sz_b807))) nin0)).keep K869c nin0).keep K873c nin0).keep K894c (ninS ne_b807_b870 nin0)).keep K900c nin0
 obtain ⟨cl903, Ar903, q903, S903, M903, H903, G903⟩ := id c905
 have hin903 := inb_of (j := (0 : Int32)) S903 ⟨by decide, by decide⟩
 obtain ⟨T903, h903, X903, e903, W903, st903⟩ := stR X902 hx hZ e902 Ar903 (j := (0 : Int32)) hin903 rfl (Sto.ofV Ar903 q903 O807v (Ins.self c901)) (g := (mkF m 71 #[cr b651, cr b807, cr b809, ci 0, cr b870, cr b800] [(.ref b606), (.int 0), (.ref b807)])) rfl rfl (hb hby d26_71)
 refine Ends.go st903 ?_
 have V903 : Arv Z h903 b807 k807 (.object cST) (1 : Int32) [(.ref b606)] .null := Arv.set Ar903 q903 S903 M903 H903 G903 rfl W903 0 rfl (Nat.le_of_ble_eq_true rfl)
 have K903 := K900.wr W903 (Or.inr sz_b807)
 have O903 := O900.wr W903 g_b807
 have N903 := Fr.snoc X903 N900 g_b807
 show Ends _ _ _ _ T903 (mkF m 72 #[cr b651, cr b807, cr b809, ci 0, cr b870, cr b800] []) _ _ _
 refine walN X903 hx hby d26_72 rfl rfl ?_
 refine wilN X903 hx hby d26_73 rfl ?_
 refine wal X903 hx hby d26_74 rfl rfl ?_
 have c908 := ((((((((Pa16.keep K806c nin0).ext E807).ext E809).keep K841c (ninS ne_b800_b652 nin0)).keep K869c nin0).keep K873c nin0).keep K894c (ninS (Nat.ne_of_lt (Nat.lt_of_lt_of_le Pa12.lt sz_b870)) nin0)).keep K900c nin0).other W903 (Or.inl (Nat.ne_of_lt (Nat.lt_of_lt_of_le Pa12.lt sz_b807)))
 obtain ⟨cq909, kq909, q909a, q909b, q909c⟩ := isOf hZ e903 ((c895.keep K900c).wr W903)
 obtain ⟨_, _, ⟨T909, L909, k909, n909⟩, -, X909, ⟨Lc909, hQ909, l909, y909, z909⟩, st909⟩ := X903.interfaceBack hx (xi := ym65) (y := ym50) hown (ov hZ hw 314 rfl) (ov hZ hw 315 rfl) (ov hZ hw 316 rfl) (ov hZ hw 317 rfl) (ov hZ hw 318 rfl) (ov hZ hw 319 rfl) (ov hZ hw 320 rfl) (ov hZ hw 305 rfl) (by decide) (own_backOf (W := 2) (rx41_906 l Z a0 hw [] n0 h903 O903 G1 w_EMPTY GF b800 c908) hZ (ow hw 321 rfl) (ow hw 146 rfl) (by decide) (by decide)) q909a q909b q909c (g := (mkF m 76 #[cr b651, cr b807, cr b809, ci 0, cr b870, cr b800] [(.ref b800), (.int 0), (.ref b809)])) rfl (by rw [hml]; rfl) (Steps.refl _) (argsL := []) (rest := [(.int 0), (.ref b809)]) (lenOf pdx_31 rfl) rfl (own_w rfl) (hb hby d26_76) (fun _ _ => ⟨rfl, e903, (by decide : 4 + 0 ≤ _), (by decide : 9 + 0 ≤ _)⟩)
 dsimp only [Pt.U, Pt.locs, Pt.cells, Pt.slots] at X909 l909 y909 z909 st909 hQ909
 subst l909 y909 z909
 obtain ⟨rfl, N909q, K909c⟩ := hQ909
 have N909 := Fr.app N903 N909q
 refine Ends.go (fun _ k => st909.trans k) ?_
 obtain ⟨h909, e909⟩ : ∃ z, T909.heap = z := ⟨_, rfl⟩
 rw [e909] at K909c
 have K909 := K903.trans K909c all0
 have O909 := O903.keep K909c all0
 obtain ⟨T910, X910, e910, st910⟩ := castY X909 hx hZ hown (ow hw 196 rfl) e909 (Ins.of_exa (E_EMPTY.ext O909.2) (ow hw 322 rfl)) (g := (mkF m 81 #[cr b651, cr b807, cr b809, ci 0, cr b870, cr b800] [(.ref w_EMPTY), (.int 0), (.ref b809)])) rfl rfl (hb hby d26_81)
 refine Ends.go st910 ?_
 have c912 := V_b809.keep K841c (ninS (Ne.symm (Nat.ne_of_lt (Nat.lt_of_lt_of_le Pa1.lt sz_b809))) nin0)
 have ne_b809_b870 : b809 ≠ b870 := Nat.ne_of_lt (Nat.lt_of_lt_of_le c912.lt hb869_b870)
 have ne_b807_b809 : b807 ≠ b809 := Nat.ne_of_lt (Nat.lt_of_lt_of_le V_b807.lt (Nat.le_of_eq g809.symm))
 have c913 := ((((((V_b809.keep K841c (ninS (Ne.symm (Nat.ne_of_lt (Nat.lt_of_lt_of_le Pa1.lt sz_b809))) nin0)).keep K869c nin0).keep K873c nin0).keep K894c (ninS ne_b809_b870 nin0)).keep K900c nin0).other W903 (Ne.symm ne_b807_b809)).keep K909c nin0
 obtain ⟨cl911, Ar911, q911, S911, M911, H911, G911⟩ := id c913
 have hin911 := inb_of (j := (0 : Int32)) S911 ⟨by decide, by decide⟩
 obtain ⟨T911, h911, X911, e911, W911, st911⟩ := stR X910 hx hZ e910 Ar911 (j := (0 : Int32)) hin911 rfl (Sto.ofV Ar911 q911 O809v (Ins.of_exa (E_EMPTY.ext O909.2) (ow hw 322 rfl))) (g := (mkF m 84 #[cr b651, cr b807, cr b809, ci 0, cr b870, cr b800] [(.ref w_EMPTY), (.int 0), (.ref b809)])) rfl rfl (hb hby d26_84)
 refine Ends.go st911 ?_
 have V911 : Arv Z h911 b809 k809 (.object cJV) (1 : Int32) [(.ref w_EMPTY)] .null := Arv.set Ar911 q911 S911 M911 H911 G911 rfl W911 0 rfl (Nat.le_of_ble_eq_true rfl)
 have K911 := K909.wr W911 (Or.inr sz_b809)
 have O911 := O909.wr W911 g_b809
 have N911 := Fr.snoc X911 N909 g_b809
 refine wii X911 hx hby d26_85 (l' := #[cr b651, cr b807, cr b809, ci 1, cr b870, cr b800]) rfl rfl ?_
 refine wgo (pc := 88) (pc' := 37) X911 hx hby d26_88 ?_
 refine wal X911 hx hby d26_37 rfl rfl ?_
 have c916 := (((Y894_0.keep K900c nin0).other W903 (Or.inl (Ne.symm ne_b807_b870))).keep K909c nin0).other W911 (Or.inl (Ne.symm ne_b809_b870))
 have c918 := (((((Y869_0.keep K873c).keep K894c).keep K900c).wr W903).keep K909c).wr W911
 obtain ⟨cq917, kq917, q917a, q917b, q917c⟩ := isOf hZ e911 c918
 obtain ⟨_, _, ⟨T917, L917, k917, n917⟩, -, X917, ⟨Lc917, hQ917, l917, y917, z917⟩, st917⟩ := X911.interfaceBack hx (xi := ym62) (y := ym44) hown (ov hZ hw 274 rfl) (ov hZ hw 275 rfl) (ov hZ hw 276 rfl) (ov hZ hw 277 rfl) (ov hZ hw 278 rfl) (ov hZ hw 279 rfl) (ov hZ hw 280 rfl) (ov hZ hw 281 rfl) (by decide) (own_backOf (W := 0) (rx36_914 l Z a0 hw [] n0 h911 O911  b870 c916) hZ (ow hw 282 rfl) (ow hw 258 rfl) (by decide) (by decide)) q917a q917b q917c (g := (mkF m 39 #[cr b651, cr b807, cr b809, ci 1, cr b870, cr b800] [(.ref b870)])) rfl (by rw [hml]; rfl) (Steps.refl _) (argsL := []) (rest := []) (lenOf pdx_0 rfl) rfl (own_w rfl) (hb hby d26_39) (fun _ _ => ⟨rfl, e911, (by decide : 4 + 0 ≤ _), (by decide : 9 + 0 ≤ _)⟩)
 dsimp only [Pt.U, Pt.locs, Pt.cells, Pt.slots] at X917 l917 y917 z917 st917 hQ917
 subst l917 y917 z917
 obtain ⟨rfl, N917q, K917c⟩ := hQ917
 have N917 := Fr.app N911 N917q
 refine Ends.go (fun _ k => st917.trans k) ?_
 obtain ⟨h917, e917⟩ : ∃ z, T917.heap = z := ⟨_, rfl⟩
 rw [e917] at K917c
 have K917 := K911.trans K917c all0
 have O917 := O911.keep K917c all0
 refine wiy (pc := 44) (pc' := 91) X917 hx hby d26_44 ((if0 _ _).trans (teq (by decide : (0 : Int32) = (0 : Int32))).1) ?_
 refine walN X917 hx hby d26_91 rfl rfl ?_
 have c919 := (((((((((((Pa17.keep K806c nin0).ext E807).ext E809).keep K841c (ninS ne_b651_b652 nin0)).keep K869c nin0).keep K873c nin0).keep K894c (ninS (Nat.ne_of_lt (Nat.lt_of_lt_of_le Pa0.lt sz_b870)) nin0)).keep K900c nin0).other W903 (Or.inl (Nat.ne_of_lt (Nat.lt_of_lt_of_le Pa0.lt sz_b807)))).keep K909c nin0).other W911 (Or.inl (Nat.ne_of_lt (Nat.lt_of_lt_of_le Pa0.lt sz_b809)))).keep K917c nin0
 refine wgf X917 hx hZ hown hw 68 rfl e917 c919 hby d26_92 ?_
 intro T920 X920 e920
 refine wuy (pc := 95) (pc' := 105) X920 hx hby d26_95 ?_
 refine walN X920 hx hby d26_105 rfl rfl ?_
 refine wic X920 hx hby d26_106 ?_
 refine walN X920 hx hby d26_107 rfl rfl ?_
 have c922 := ((V903.keep K909c nin0).other W911 ne_b807_b809).keep K917c nin0
 obtain ⟨cl921, Ar921, q921, S921, M921, H921, G921⟩ := id c922
 refine Ends.go (X920.arraylength hx (by rw [e920]; exact Ar921.1) (State.isArrayOf_alike hZ.alike Ar921.2.1) (g := (mkF m 108 #[cr b651, cr b807, cr b809, ci 1, cr b870, cr b800] [(.ref b807), (.int 0), (.ref b807)])) rfl rfl (hb hby d26_108)) ?_
 rw [len_of S921 M921]
 refine wsb X920 hx hZ hown hw hml rfl hby d26_109 323 rfl 324 rfl 325 rfl 326 rfl (by decide) e920 (rx42_923 l Z a0 hw [] n0 h917 O917  b807 k807 b606 c922 ((((c901.wr W903).keep K909c).wr W911).keep K917c)) (by decide) (by decide) [(.ref b807), (.int 0), (.int 1)] [] pdx_35 rfl rfl rfl (by decide) (by decide) rfl ?_
 intro _ T976 _ X976 hQ976
 obtain ⟨b977, b978, k979, rfl, N976q, K976c, hb976_b977, hb976_b978, hne976_b977_b978, Y976_0, Y976_1, Y976_2, Y976_3, Y976_4, Y976_5, Y976_6, Y976_7, Y976_8⟩ := hQ976
 have N976 := Fr.app N917 N976q
 have sz_b977 : h0.size ≤ b977 := Nat.le_trans K917.1 hb976_b977
 have sz_b978 : h0.size ≤ b978 := Nat.le_trans K917.1 hb976_b978
 obtain ⟨h976, e976⟩ : ∃ z, T976.heap = z := ⟨_, rfl⟩
 rw [e976] at K976c Y976_0 Y976_2 Y976_3 Y976_4 Y976_5 Y976_6 Y976_7 Y976_8
 have K976 := K917.trans K976c all0
 have O976 := O917.keep K976c all0
 refine was X976 hx hby d26_112 (l' := #[cr b651, cr b807, cr b809, ci 1, cr b977, cr b800]) rfl rfl ?_
 obtain ⟨T980, h980, X980, e980, E980, A980, D980, -, st980⟩ := newO X976 hx hZ hown (ow hw 365 rfl) (ow hw 366 rfl) (ow hw 31 rfl) e976 (g := (mkF m 114 #[cr b651, cr b807, cr b809, ci 1, cr b977, cr b800] [])) rfl (hb hby d26_114) (by decide) (by decide)
 obtain ⟨b980, g980⟩ : ∃ z, z = h976.size := ⟨_, rfl⟩
 rw [← g980] at A980 D980 st980
 refine Ends.go st980 ?_
 have g_b980 : n0 ≤ b980 := Nat.le_trans (own_old_le O976) (Nat.le_of_eq g980.symm)
 have sz_b980 : h0.size ≤ b980 := Nat.le_trans K976.1 (Nat.le_of_eq g980.symm)
 have K980 := K976.ext E980
 have O980 := O976.ext E980
 have F_names_b980 : f4_ Z h980 b980 .null := D980 (Or.inr (ow hw 372 rfl)) (ty := (.object cNA)) (by decide)
 have F_values_b980 : f3_ Z h980 b980 .null := D980 (Or.inr (ow hw 374 rfl)) (ty := (.array (.object cJV))) (by decide)
 refine wdu X980 hx hby d26_117 rfl ?_
 refine wal X980 hx hby d26_118 rfl rfl ?_
 refine walN X980 hx hby d26_120 rfl rfl ?_
 obtain ⟨_, _, ⟨T987, L987, k987, n987⟩, -, X987, ⟨Lc987, hQ987, l987, y987, z987⟩, st987⟩ := X980.specialBackNest hx (y := ym57) rfl hown (own_mvNM hZ (ow hw 367 rfl)) (ov hZ hw 368 rfl) (ov hZ hw 369 rfl) (by decide) (own_backOf (W := 1) (rx48_981 l Z a0 hw [] n0 h980 O980  b980 b977 b809 A980 F_names_b980 F_values_b980 g_b980) hZ (ow hw 369 rfl) (ow hw 31 rfl) (by decide) (by decide)) (g := (mkF m 121 #[cr b651, cr b807, cr b809, ci 1, cr b977, cr b800] [(.ref b809), (.ref b977), (.ref b980), (.ref b980)])) rfl (by rw [hml]; rfl) (Steps.refl _) (a := b980) (argsL := [(.ref b977), (.ref b809)]) (rest := [(.ref b980)]) (lenOf pdx_36 rfl) rfl (own_w rfl) (hb hby d26_121) (fun _ _ => ⟨rfl, e980, (by decide : 7 + 0 ≤ _), (by decide : 19 + 0 ≤ _)⟩)
 dsimp only [Pt.U, Pt.locs, Pt.cells, Pt.slots] at X987 l987 y987 z987 st987 hQ987
 subst l987 y987 z987
 obtain ⟨rfl, N987q, K987c, Y987_0, Y987_1⟩ := hQ987
 have N987 := Fr.app N976 N987q
 refine Ends.go (fun _ k => st987.trans k) ?_
 obtain ⟨h987, e987⟩ : ∃ z, T987.heap = z := ⟨_, rfl⟩
 rw [e987] at K987c Y987_0 Y987_1
 have K987 := K980.trans K987c (allS (Or.inr sz_b980) all0)
 refine Ends.ret X987 hx hns (t := (.object cJO)) hrt rfl (Or.inr (Or.inr (Or.inr (Or.inr ⟨rfl, rfl, rfl⟩)))) (hb hby d26_124) (by decide) (by decide) ?_
 rw [e987]
 have ne_b807_b842 : b807 ≠ b842 := Nat.ne_of_lt (Nat.lt_of_lt_of_le (V_b807.ext E809).lt hb841_b842)
 have ne_b807_b977 : b807 ≠ b977 := Nat.ne_of_lt (Nat.lt_of_lt_of_le c922.lt hb976_b977)
 have ne_b807_b978 : b807 ≠ b978 := Nat.ne_of_lt (Nat.lt_of_lt_of_le c922.lt hb976_b978)
 have ne_b807_b980 : b807 ≠ b980 := Nat.ne_of_lt (Nat.lt_of_lt_of_le (c922.keep K976c nin0).lt (Nat.le_of_eq g980.symm))
 have ne_b809_b842 : b809 ≠ b842 := Nat.ne_of_lt (Nat.lt_of_lt_of_le V_b809.lt hb841_b842)
 have ne_b809_b977 : b809 ≠ b977 := Nat.ne_of_lt (Nat.lt_of_lt_of_le (V911.keep K917c nin0).lt hb976_b977)
 have ne_b809_b978 : b809 ≠ b978 := Nat.ne_of_lt (Nat.lt_of_lt_of_le (V911.keep K917c nin0).lt hb976_b978)
 have ne_b809_b980 : b809 ≠ b980 := Nat.ne_of_lt (Nat.lt_of_lt_of_le ((V911.keep K917c nin0).keep K976c nin0).lt (Nat.le_of_eq g980.symm))
 have ne_b842_b870 : b842 ≠ b870 := Nat.ne_of_lt (Nat.lt_of_lt_of_le Y841_1.lt hb869_b870)
 have c988 := (((((((Y841_1.keep K869c).keep K873c).keep K894c).keep K900c).wr W903).keep K909c).wr W911).keep K917c
 have ne_b842_b977 : b842 ≠ b977 := Nat.ne_of_lt (Nat.lt_of_lt_of_le c988.lt hb976_b977)
 have c989 := (((((((Y841_1.keep K869c).keep K873c).keep K894c).keep K900c).wr W903).keep K909c).wr W911).keep K917c
 have ne_b842_b978 : b842 ≠ b978 := Nat.ne_of_lt (Nat.lt_of_lt_of_le c989.lt hb976_b978)
 have c990 := ((((((((Y841_1.keep K869c).keep K873c).keep K894c).keep K900c).wr W903).keep K909c).wr W911).keep K917c).keep K976c
 have ne_b842_b980 : b842 ≠ b980 := Nat.ne_of_lt (Nat.lt_of_lt_of_le c990.lt (Nat.le_of_eq g980.symm))
 have ne_b870_b977 : b870 ≠ b977 := Nat.ne_of_lt (Nat.lt_of_lt_of_le (c918.keep K917c).lt hb976_b977)
 have ne_b870_b978 : b870 ≠ b978 := Nat.ne_of_lt (Nat.lt_of_lt_of_le (c918.keep K917c).lt hb976_b978)
 have ne_b870_b980 : b870 ≠ b980 := Nat.ne_of_lt (Nat.lt_of_lt_of_le ((c918.keep K917c).keep K976c).lt (Nat.le_of_eq g980.symm))
 have ne_b977_b980 : b977 ≠ b980 := Nat.ne_of_lt (Nat.lt_of_lt_of_le Y976_0.lt (Nat.le_of_eq g980.symm))
 have ne_b978_b980 : b978 ≠ b980 := Nat.ne_of_lt (Nat.lt_of_lt_of_le Y976_4.lt (Nat.le_of_eq g980.symm))
 have c991 := ((c922.keep K976c nin0).ext E980).keep K987c (ninS ne_b807_b980 nin0)
 have c992 := (((V911.keep K917c nin0).keep K976c nin0).ext E980).keep K987c (ninS ne_b809_b980 nin0)
 have c993 := (((((((((((Ex809.keep K841c).keep K869c).keep K873c).keep K894c).keep K900c).wr W903).keep K909c).wr W911).keep K917c).keep K976c).ext E980).keep K987c
 have c994 := ((((((((((Y841_0.keep K869c nin0).keep K873c nin0).keep K894c (ninS (Nat.ne_of_lt (Nat.lt_of_lt_of_le Pa1.lt sz_b870)) nin0)).keep K900c nin0).other W903 (Or.inl (Nat.ne_of_lt (Nat.lt_of_lt_of_le Pa1.lt sz_b807)))).keep K909c nin0).other W911 (Or.inl (Nat.ne_of_lt (Nat.lt_of_lt_of_le Pa1.lt sz_b809)))).keep K917c nin0).keep K976c nin0).ext E980).keep K987c (ninS (Nat.ne_of_lt (Nat.lt_of_lt_of_le Pa1.lt sz_b980)) nin0)
 have c995 := ((((((((((Y841_1.keep K869c).keep K873c).keep K894c).keep K900c).wr W903).keep K909c).wr W911).keep K917c).keep K976c).ext E980).keep K987c
 have c996 := ((((((((((Y841_2.keep K869c nin0).keep K873c nin0).keep K894c (ninS ne_b842_b870 nin0)).keep K900c nin0).other W903 (Or.inl (Ne.symm ne_b807_b842))).keep K909c nin0).other W911 (Or.inl (Ne.symm ne_b809_b842))).keep K917c nin0).keep K976c nin0).ext E980).keep K987c (ninS ne_b842_b980 nin0)
 have c997 := ((((((((((Y841_3.keep K869c nin0).keep K873c nin0).keep K894c (ninS ne_b842_b870 nin0)).keep K900c nin0).other W903 (Or.inl (Ne.symm ne_b807_b842))).keep K909c nin0).other W911 (Or.inl (Ne.symm ne_b809_b842))).keep K917c nin0).keep K976c nin0).ext E980).keep K987c (ninS ne_b842_b980 nin0)
 have c998 := ((((((((((Y841_4.keep K869c nin0).keep K873c nin0).keep K894c (ninS (Nat.ne_of_lt (Nat.lt_of_lt_of_le Pa1.lt sz_b870)) nin0)).keep K900c nin0).other W903 (Or.inl (Nat.ne_of_lt (Nat.lt_of_lt_of_le Pa1.lt sz_b807)))).keep K909c nin0).other W911 (Or.inl (Nat.ne_of_lt (Nat.lt_of_lt_of_le Pa1.lt sz_b809)))).keep K917c nin0).keep K976c nin0).ext E980).keep K987c (ninS (Nat.ne_of_lt (Nat.lt_of_lt_of_le Pa1.lt sz_b980)) nin0)
 have c999 := ((((((((((Y841_5.keep K869c nin0).keep K873c nin0).keep K894c (ninS (Nat.ne_of_lt (Nat.lt_of_lt_of_le Pa1.lt sz_b870)) nin0)).keep K900c nin0).other W903 (Or.inl (Nat.ne_of_lt (Nat.lt_of_lt_of_le Pa1.lt sz_b807)))).keep K909c nin0).other W911 (Or.inl (Nat.ne_of_lt (Nat.lt_of_lt_of_le Pa1.lt sz_b809)))).keep K917c nin0).keep K976c nin0).ext E980).keep K987c (ninS (Nat.ne_of_lt (Nat.lt_of_lt_of_le Pa1.lt sz_b980)) nin0)
 have c1000 := ((((((((((Y841_6.keep K869c nin0).keep K873c nin0).keep K894c (ninS (Nat.ne_of_lt (Nat.lt_of_lt_of_le Pa1.lt sz_b870)) nin0)).keep K900c nin0).other W903 (Or.inl (Nat.ne_of_lt (Nat.lt_of_lt_of_le Pa1.lt sz_b807)))).keep K909c nin0).other W911 (Or.inl (Nat.ne_of_lt (Nat.lt_of_lt_of_le Pa1.lt sz_b809)))).keep K917c nin0).keep K976c nin0).ext E980).keep K987c (ninS (Nat.ne_of_lt (Nat.lt_of_lt_of_le Pa1.lt sz_b980)) nin0)
 have c1001 := ((((((((((Y841_7.keep K869c nin0).keep K873c nin0).keep K894c (ninS (Nat.ne_of_lt (Nat.lt_of_lt_of_le Pa1.lt sz_b870)) nin0)).keep K900c nin0).other W903 (Or.inl (Nat.ne_of_lt (Nat.lt_of_lt_of_le Pa1.lt sz_b807)))).keep K909c nin0).other W911 (Or.inl (Nat.ne_of_lt (Nat.lt_of_lt_of_le Pa1.lt sz_b809)))).keep K917c nin0).keep K976c nin0).ext E980).keep K987c (ninS (Nat.ne_of_lt (Nat.lt_of_lt_of_le Pa1.lt sz_b980)) nin0)
 have c1002 := ((((((((((Y841_8.keep K869c nin0).keep K873c nin0).keep K894c (ninS (Nat.ne_of_lt (Nat.lt_of_lt_of_le Pa1.lt sz_b870)) nin0)).keep K900c nin0).other W903 (Or.inl (Nat.ne_of_lt (Nat.lt_of_lt_of_le Pa1.lt sz_b807)))).keep K909c nin0).other W911 (Or.inl (Nat.ne_of_lt (Nat.lt_of_lt_of_le Pa1.lt sz_b809)))).keep K917c nin0).keep K976c nin0).ext E980).keep K987c (ninS (Nat.ne_of_lt (Nat.lt_of_lt_of_le Pa1.lt sz_b980)) nin0)
 have c1003 := ((((((((((Y841_9.keep K869c nin0).keep K873c nin0).keep K894c (ninS (Nat.ne_of_lt (Nat.lt_of_lt_of_le Pa1.lt sz_b870)) nin0)).keep K900c nin0).other W903 (Or.inl (Nat.ne_of_lt (Nat.lt_of_lt_of_le Pa1.lt sz_b807)))).keep K909c nin0).other W911 (Or.inl (Nat.ne_of_lt (Nat.lt_of_lt_of_le Pa1.lt sz_b809)))).keep K917c nin0).keep K976c nin0).ext E980).keep K987c (ninS (Nat.ne_of_lt (Nat.lt_of_lt_of_le Pa1.lt sz_b980)) nin0)
 have c1004 := ((((((((((Y841_10.keep K869c nin0).keep K873c nin0).keep K894c (ninS (Nat.ne_of_lt (Nat.lt_of_lt_of_le Pa1.lt sz_b870)) nin0)).keep K900c nin0).other W903 (Or.inl (Nat.ne_of_lt (Nat.lt_of_lt_of_le Pa1.lt sz_b807)))).keep K909c nin0).other W911 (Or.inl (Nat.ne_of_lt (Nat.lt_of_lt_of_le Pa1.lt sz_b809)))).keep K917c nin0).keep K976c nin0).ext E980).keep K987c (ninS (Nat.ne_of_lt (Nat.lt_of_lt_of_le Pa1.lt sz_b980)) nin0)
 have c1005 := ((((((((((Y841_11.keep K869c nin0).keep K873c nin0).keep K894c (ninS (Nat.ne_of_lt (Nat.lt_of_lt_of_le Pa1.lt sz_b870)) nin0)).keep K900c nin0).other W903 (Or.inl (Nat.ne_of_lt (Nat.lt_of_lt_of_le Pa1.lt sz_b807)))).keep K909c nin0).other W911 (Or.inl (Nat.ne_of_lt (Nat.lt_of_lt_of_le Pa1.lt sz_b809)))).keep K917c nin0).keep K976c nin0).ext E980).keep K987c (ninS (Nat.ne_of_lt (Nat.lt_of_lt_of_le Pa1.lt sz_b980)) nin0)
 have c1006 := ((((((((((Y841_12.keep K869c nin0).keep K873c nin0).keep K894c (ninS (Nat.ne_of_lt (Nat.lt_of_lt_of_le Pa1.lt sz_b870)) nin0)).keep K900c nin0).other W903 (Or.inl (Nat.ne_of_lt (Nat.lt_of_lt_of_le Pa1.lt sz_b807)))).keep K909c nin0).other W911 (Or.inl (Nat.ne_of_lt (Nat.lt_of_lt_of_le Pa1.lt sz_b809)))).keep K917c nin0).keep K976c nin0).ext E980).keep K987c (ninS (Nat.ne_of_lt (Nat.lt_of_lt_of_le Pa1.lt sz_b980)) nin0)
 have c1007 := (((c916.keep K917c nin0).keep K976c nin0).ext E980).keep K987c (ninS ne_b870_b980 nin0)
 have c1008 := (((((((Y894_1.keep K900c nin0).other W903 (Or.inl (Ne.symm ne_b807_b870))).keep K909c nin0).other W911 (Or.inl (Ne.symm ne_b809_b870))).keep K917c nin0).keep K976c nin0).ext E980).keep K987c (ninS ne_b870_b980 nin0)
 have c1009 := (((((((Y894_2.keep K900c nin0).other W903 (Or.inl (Ne.symm ne_b807_b870))).keep K909c nin0).other W911 (Or.inl (Ne.symm ne_b809_b870))).keep K917c nin0).keep K976c nin0).ext E980).keep K987c (ninS ne_b870_b980 nin0)
 have c1010 := (((((((Y894_3.keep K900c nin0).other W903 (Or.inl (Ne.symm ne_b807_b870))).keep K909c nin0).other W911 (Or.inl (Ne.symm ne_b809_b870))).keep K917c nin0).keep K976c nin0).ext E980).keep K987c (ninS ne_b870_b980 nin0)
 have c1011 := (((((((Y894_4.keep K900c nin0).other W903 (Or.inl (Ne.symm ne_b807_b870))).keep K909c nin0).other W911 (Or.inl (Ne.symm ne_b809_b870))).keep K917c nin0).keep K976c nin0).ext E980).keep K987c (ninS ne_b870_b980 nin0)
 exact ⟨b807, b809, b842, b870, b977, b978, b980, k807, k809, k979, rfl, N987, K987, sz_b807, sz_b809, sz_b842, sz_b870, sz_b977, sz_b978, sz_b980, ne_b807_b809, ne_b807_b842, ne_b807_b870, ne_b807_b977, ne_b807_b978, ne_b807_b980, ne_b809_b842, ne_b809_b870, ne_b809_b977, ne_b809_b978, ne_b809_b980, ne_b842_b870, ne_b842_b977, ne_b842_b978, ne_b842_b980, ne_b870_b977, ne_b870_b978, ne_b870_b980, hne976_b977_b978, ne_b977_b980, ne_b978_b980, c991, O807v, c992, O809v, c993, c994, c995, c996, c997, c998, c999, c1000, c1001, c1002, c1003, c1004, c1005, c1006, ((((c918.keep K917c).keep K976c).ext E980).keep K987c), c1007, c1008, c1009, c1010, c1011, ((Y976_0.ext E980).keep K987c), Y976_1, ((Y976_2.ext E980).keep K987c (ninS ne_b977_b980 nin0)), ((Y976_3.ext E980).keep K987c (ninS ne_b977_b980 nin0)), ((Y976_4.ext E980).keep K987c (ninS ne_b978_b980 nin0)), ((Y976_5.ext E980).keep K987c (ninS ne_b977_b980 nin0)), ((Y976_6.ext E980).keep K987c (ninS ne_b977_b980 nin0)), ((Y976_7.ext E980).keep K987c (ninS ne_b977_b980 nin0)), ((Y976_8.ext E980).keep K987c (ninS ne_b977_b980 nin0)), (A980.keep K987c), Y987_0, Y987_1⟩

theorem d50_0 : decode B64_ 0 = .ok (.aload_n 0, 1) := by decide +kernel
theorem d50_1 : decode B64_ 1 = .ok (.invokespecial 1, 3) := by decide +kernel
theorem d50_4 : decode B64_ 4 = .ok (.aload_n 0, 1) := by decide +kernel
theorem d50_5 : decode B64_ 5 = .ok (.aload_n 1, 1) := by decide +kernel
theorem d50_6 : decode B64_ 6 = .ok (.putfield 7, 3) := by decide +kernel
theorem d50_9 : decode B64_ 9 = .ok (.return_, 1) := by decide +kernel
theorem pn50 : plainName "com/example/ratatoskr/ratatoskr/JsonArray" = true := by first | (simp [plainName, overriddenIn]; done) | decide +kernel
theorem pdx_37 : parseMethodDescriptor "()Lcom/example/ratatoskr/ratatoskr/JsonObject;" = some ⟨[], some (.object "com/example/ratatoskr/ratatoskr/JsonObject")⟩ := by decide +kernel
theorem ef50_rr (m : MethodId) (x0 : Addr) (x1 : Addr) : entryFrame m #[(.ref x0), (.ref x1)] 2 = mkF m 0 #[.val (.ref x0), .val (.ref x1)] [] := by first | (simp [entryFrame, mkF, argsToLocals, Value.category]; done) | rfl
theorem rx50_1029 (l : Launch) (Z : State) (a0 : Array Value) (hw : HW a0 Z) (ws : List Jvm.Cond) (n0 : Nat) (h0 : Heap) (O0 : Old Z n0 h0)  (b1028 : Addr) (b1023 : Addr) (Pa0 : Exa Z h0 b1028 cJA) (Pa1 : f12_ Z h0 b1028 .null) (g_b1028 : n0 ≤ b1028) :
  Meets1 l ym66 B64_ 2 none ws (mkR 1 0 0 12) #[(.ref b1028), (.ref b1023)] Z h0 (fun v h L => v = none ∧ Fr n0 L ∧ Keep h0 h [b1028] ∧ f12_ Z h b1028 (.ref b1023)) := by
 refine own_start n0 (plainFor_of_name pn50) (fun m => ef50_rr m b1028 b1023) ?_
 intro p e s m below meth c s₁ hns hrt hZ hx hby hml hown hnm X0 e0 N0
 have K0 := Keep.refl h0 [b1028]
 refine walN X0 hx hby d50_0 rfl rfl ?_
 obtain ⟨T1030, X1030, e1030, st1030⟩ := initO X0 hx hZ hown (ow hw 385 rfl) (ow hw 23 rfl) (ow hw 24 rfl) e0 (g := (mkF m 1 #[cr b1028, cr b1023] [(.ref b1028)])) rfl (by rw [hml]; rfl) rfl (hb hby d50_1) (by decide) (W := 0) (own_w rfl) (by decide)
 refine Ends.go st1030 ?_
 refine walN X1030 hx hby d50_4 rfl rfl ?_
 refine walN X1030 hx hby d50_5 rfl rfl ?_
 obtain ⟨T1031, h1031, X1031, e1031, W1031, st1031⟩ := putF X1030 hx hZ hown (host := "") (Or.inl (ow hw 386 rfl)) Via.refl e1030 Pa1 Pa0 (Or.inr ⟨(ow hw 387 rfl), rfl, hnm⟩) (ow hw 381 rfl) (ty := (.array (.object cJV))) (by decide) rfl rfl (g := (mkF m 6 #[cr b1028, cr b1023] [(.ref b1023), (.ref b1028)])) rfl rfl (hb hby d50_6)
 refine Ends.go st1031 ?_
 have Fw1031 := Pa1.same W1031
 have K1031 := K0.wr W1031 (mi 0 rfl)
 have N1031 := Fr.snoc X1031 N0 g_b1028
 refine Ends.retV X1031 hx hns hrt (hb hby d50_9) (by decide) (by decide) ?_
 rw [e1031]
 exact ⟨rfl, N1031, K1031, Fw1031⟩

theorem d49_0 : decode B65_ 0 = .ok (.aload_n 0, 1) := by decide +kernel
theorem d49_1 : decode B65_ 1 = .ok (.arraylength, 1) := by decide +kernel
theorem d49_2 : decode B65_ 2 = .ok (.ifCond .ne 9, 3) := by decide +kernel
theorem d49_11 : decode B65_ 11 = .ok (.new 8, 3) := by decide +kernel
theorem d49_14 : decode B65_ 14 = .ok (.dup, 1) := by decide +kernel
theorem d49_15 : decode B65_ 15 = .ok (.aload_n 0, 1) := by decide +kernel
theorem d49_16 : decode B65_ 16 = .ok (.invokespecial 24, 3) := by decide +kernel
theorem d49_19 : decode B65_ 19 = .ok (.areturn, 1) := by decide +kernel
theorem pn49 : plainName "com/example/ratatoskr/ratatoskr/JsonArray" = true := by first | (simp [plainName, overriddenIn]; done) | decide +kernel
theorem pdx_38 : parseMethodDescriptor "([Lcom/example/ratatoskr/ratatoskr/JsonValue;)V" = some ⟨[(.array (.object "com/example/ratatoskr/ratatoskr/JsonValue"))], none⟩ := by decide +kernel
theorem ef49_r (m : MethodId) (x0 : Addr) : entryFrame m #[(.ref x0)] 1 = mkF m 0 #[.val (.ref x0)] [] := by first | (simp [entryFrame, mkF, argsToLocals, Value.category]; done) | rfl
theorem rx49_1026 (l : Launch) (Z : State) (a0 : Array Value) (hw : HW a0 Z) (ws : List Jvm.Cond) (n0 : Nat) (h0 : Heap) (O0 : Old Z n0 h0)  (b1023 : Addr) (k1023 : ClassId) (b1019 : Addr) (Pa0 : Arv Z h0 b1023 k1023 (.object cJV) (2 : Int32) [(.ref w_EMPTY), (.ref b1019)] .null) :
  Meets1 l ym67 B65_ 1 (some (.object cJA)) ws (mkR 2 1 1 26) #[(.ref b1023)] Z h0 (fun v h L => ∃ (b1028 : Addr), v = some (.ref b1028) ∧ Fr n0 L ∧ Keep h0 h [] ∧ h0.size ≤ b1028 ∧ Exa Z h b1028 cJA ∧ f12_ Z h b1028 (.ref b1023)) := by
 refine own_start n0 (plainFor_of_name pn49) (fun m => ef49_r m b1023) ?_
 intro p e s m below meth c s₁ hns hrt hZ hx hby hml hown hnm X0 e0 N0
 have K0 := Keep.refl h0 []
 refine walN X0 hx hby d49_0 rfl rfl ?_
 obtain ⟨cl1027, Ar1027, q1027, S1027, M1027, H1027, G1027⟩ := id Pa0
 refine Ends.go (X0.arraylength hx (by rw [e0]; exact Ar1027.1) (State.isArrayOf_alike hZ.alike Ar1027.2.1) (g := (mkF m 1 #[cr b1023] [(.ref b1023)])) rfl rfl (hb hby d49_1)) ?_
 rw [len_of S1027 M1027]
 refine wiy (pc := 2) (pc' := 11) X0 hx hby d49_2 ((if0 _ _).trans (feq (by decide : ¬ ((2 : Int32) = (0 : Int32)))).2) ?_
 obtain ⟨T1028, h1028, X1028, e1028, E1028, A1028, D1028, -, st1028⟩ := newO X0 hx hZ hown (ow hw 380 rfl) (ow hw 381 rfl) (ow hw 1 rfl) e0 (g := (mkF m 11 #[cr b1023] [])) rfl (hb hby d49_11) (by decide) (by decide)
 obtain ⟨b1028, g1028⟩ : ∃ z, z = h0.size := ⟨_, rfl⟩
 rw [← g1028] at A1028 D1028 st1028
 refine Ends.go st1028 ?_
 have g_b1028 : n0 ≤ b1028 := Nat.le_trans (own_old_le O0) (Nat.le_of_eq g1028.symm)
 have sz_b1028 : h0.size ≤ b1028 := Nat.le_trans K0.1 (Nat.le_of_eq g1028.symm)
 have K1028 := K0.ext E1028
 have O1028 := O0.ext E1028
 have F_elements_b1028 : f12_ Z h1028 b1028 .null := D1028 (Or.inr (ow hw 387 rfl)) (ty := (.array (.object cJV))) (by decide)
 refine wdu X1028 hx hby d49_14 rfl ?_
 refine walN X1028 hx hby d49_15 rfl rfl ?_
 obtain ⟨_, _, ⟨T1032, L1032, k1032, n1032⟩, -, X1032, ⟨Lc1032, hQ1032, l1032, y1032, z1032⟩, st1032⟩ := X1028.specialBack hx (y := ym66) rfl hown (ov hZ hw 382 rfl) (ov hZ hw 383 rfl) (ov hZ hw 384 rfl) (by decide) (own_backOf (W := 1) (rx50_1029 l Z a0 hw [] n0 h1028 O1028  b1028 b1023 A1028 F_elements_b1028 g_b1028) hZ (ow hw 384 rfl) (ow hw 1 rfl) (by decide) (by decide)) (g := (mkF m 16 #[cr b1023] [(.ref b1023), (.ref b1028), (.ref b1028)])) rfl (by rw [hml]; rfl) (Steps.refl _) (a := b1028) (argsL := [(.ref b1023)]) (rest := [(.ref b1028)]) (lenOf pdx_38 rfl) rfl (own_w rfl) (hb hby d49_16) (fun _ _ => ⟨rfl, e1028, (by decide : 1 + 0 ≤ _), (by decide : 1 + 0 ≤ _)⟩)
 dsimp only [Pt.U, Pt.locs, Pt.cells, Pt.slots] at X1032 l1032 y1032 z1032 st1032 hQ1032
 subst l1032 y1032 z1032
 obtain ⟨rfl, N1032q, K1032c, Y1032_0⟩ := hQ1032
 have N1032 := Fr.app N0 N1032q
 refine Ends.go (fun _ k => st1032.trans k) ?_
 obtain ⟨h1032, e1032⟩ : ∃ z, T1032.heap = z := ⟨_, rfl⟩
 rw [e1032] at K1032c Y1032_0
 have K1032 := K1028.trans K1032c (allS (Or.inr sz_b1028) all0)
 refine Ends.ret X1032 hx hns (t := (.object cJA)) hrt rfl (Or.inr (Or.inr (Or.inr (Or.inr ⟨rfl, rfl, rfl⟩)))) (hb hby d49_19) (by decide) (by decide) ?_
 rw [e1032]
 exact ⟨b1028, rfl, N1032, K1032, sz_b1028, (A1028.keep K1032c), Y1032_0⟩

theorem d52_0 : decode B56_ 0 = .ok (.aload_n 0, 1) := by decide +kernel
theorem d52_1 : decode B56_ 1 = .ok (.invokespecial 1, 3) := by decide +kernel
theorem d52_4 : decode B56_ 4 = .ok (.aload_n 0, 1) := by decide +kernel
theorem d52_5 : decode B56_ 5 = .ok (.bipush 16, 2) := by decide +kernel
theorem d52_7 : decode B56_ 7 = .ok (.anewarray 7, 3) := by decide +kernel
theorem d52_10 : decode B56_ 10 = .ok (.putfield 9, 3) := by decide +kernel
theorem d52_13 : decode B56_ 13 = .ok (.aload_n 0, 1) := by decide +kernel
theorem d52_14 : decode B56_ 14 = .ok (.bipush 16, 2) := by decide +kernel
theorem d52_16 : decode B56_ 16 = .ok (.anewarray 15, 3) := by decide +kernel
theorem d52_19 : decode B56_ 19 = .ok (.putfield 17, 3) := by decide +kernel
theorem d52_22 : decode B56_ 22 = .ok (.aload_n 0, 1) := by decide +kernel
theorem d52_23 : decode B56_ 23 = .ok (.bipush 16, 2) := by decide +kernel
theorem d52_25 : decode B56_ 25 = .ok (.newarray .int, 2) := by decide +kernel
theorem d52_27 : decode B56_ 27 = .ok (.putfield 21, 3) := by decide +kernel
theorem d52_30 : decode B56_ 30 = .ok (.return_, 1) := by decide +kernel
theorem pn52 : plainName "com/example/ratatoskr/ratatoskr/Walk" = true := by first | (simp [plainName, overriddenIn]; done) | decide +kernel
theorem pdx_39 : parseMethodDescriptor "([Lcom/example/ratatoskr/ratatoskr/JsonValue;)Lcom/example/ratatoskr/ratatoskr/JsonArray;" = some ⟨[(.array (.object "com/example/ratatoskr/ratatoskr/JsonValue"))], some (.object "com/example/ratatoskr/ratatoskr/JsonArray")⟩ := by decide +kernel
theorem pdx_40 : parseMethodDescriptor "(IZ)I" = some ⟨[.int, .boolean], some .int⟩ := by decide +kernel
theorem ef52_r (m : MethodId) (x0 : Addr) : entryFrame m #[(.ref x0)] 1 = mkF m 0 #[.val (.ref x0)] [] := by first | (simp [entryFrame, mkF, argsToLocals, Value.category]; done) | rfl
theorem rx52_1039 (l : Launch) (Z : State) (a0 : Array Value) (hw : HW a0 Z) (ws : List Jvm.Cond) (n0 : Nat) (h0 : Heap) (O0 : Old Z n0 h0)  (b1038 : Addr) (Pa0 : Exa Z h0 b1038 cWK) (Pa1 : f9_ Z h0 b1038 .null) (Pa2 : f10_ Z h0 b1038 .null) (Pa3 : f11_ Z h0 b1038 .null) (Pa4 : f5_ Z h0 b1038 (.int 0)) (Pa5 : f6_ Z h0 b1038 .null) (Pa6 : f7_ Z h0 b1038 .null) (Pa7 : f8_ Z h0 b1038 (.int 0)) (g_b1038 : n0 ≤ b1038) :
  Meets1 l ym68 B56_ 1 none ws (mkR 1 3 48 12) #[(.ref b1038)] Z h0 (fun v h L => ∃ (b1041 : Addr) (b1043 : Addr) (b1046 : Addr) (k1041 : ClassId) (k1043 : ClassId) (k1046 : ClassId), v = none ∧ Fr n0 L ∧ Keep h0 h [b1038] ∧ h0.size ≤ b1041 ∧ h0.size ≤ b1043 ∧ h0.size ≤ b1046 ∧ b1041 ≠ b1043 ∧ b1041 ≠ b1046 ∧ b1043 ≠ b1046 ∧ Arv Z h b1041 k1041 (.array (.object cJV)) (16 : Int32) nN16 .null ∧ OvrA Z k1041 (.object cJV) cAJ ∧ f9_ Z h b1038 (.ref b1041) ∧ Arv Z h b1043 k1043 (.object cNA) (16 : Int32) nN16 .null ∧ Ovr Z k1043 cNA ∧ f10_ Z h b1038 (.ref b1043) ∧ Arv Z h b1046 k1046 .int (16 : Int32) nZ16 (.int 0) ∧ f11_ Z h b1038 (.ref b1046) ∧ f5_ Z h b1038 (.int 0) ∧ f6_ Z h b1038 .null ∧ f7_ Z h b1038 .null ∧ f8_ Z h b1038 (.int 0)) := by
 refine own_start n0 (plainFor_of_name pn52) (fun m => ef52_r m b1038) ?_
 intro p e s m below meth c s₁ hns hrt hZ hx hby hml hown hnm X0 e0 N0
 have K0 := Keep.refl h0 [b1038]
 refine walN X0 hx hby d52_0 rfl rfl ?_
 obtain ⟨T1040, X1040, e1040, st1040⟩ := initO X0 hx hZ hown (ow hw 399 rfl) (ow hw 23 rfl) (ow hw 24 rfl) e0 (g := (mkF m 1 #[cr b1038] [(.ref b1038)])) rfl (by rw [hml]; rfl) rfl (hb hby d52_1) (by decide) (W := 0) (own_w rfl) (by decide)
 refine Ends.go st1040 ?_
 refine walN X1040 hx hby d52_4 rfl rfl ?_
 refine wbp X1040 hx hby d52_5 ?_
 obtain ⟨T1041, h1041, k1041, X1041, e1041, E1041, A1041, Ex1041, O1041v, st1041⟩ := newRA X1040 hx hZ hown (ty := (.object cJV)) (C := cAJ) (by decide) (ow hw 400 rfl) (ow hw 401 rfl) e1040 (g := (mkF m 7 #[cr b1038] [(.int 16), (.ref b1038)])) rfl (hb hby d52_7) rfl (by decide) (cap := 16) (by decide) (by decide) (by decide) (by decide) (ad := qs2) (by decide)
 obtain ⟨b1041, g1041⟩ : ∃ z, z = h0.size := ⟨_, rfl⟩
 rw [← g1041] at A1041 st1041 Ex1041
 refine Ends.go st1041 ?_
 have sz_b1041 : h0.size ≤ b1041 := Nat.le_trans K0.1 (Nat.le_of_eq g1041.symm)
 have K1041 := K0.ext E1041
 have V_b1041 : Arv Z h1041 b1041 k1041 (.array (.object cJV)) (16 : Int32) nN16 .null := (Arv.new A1041 (by decide)).pad (pad_rep [] .null 16)
 refine wpf X1041 hx hZ hown hw 402 rfl e1041 (Pa1.ext E1041) (Pa0.ext E1041) 403 rfl 394 rfl (ty := (.array (.array (.object cJV)))) (by decide) rfl rfl hby d52_10 ?_
 intro T1042 h1042 X1042 e1042 W1042
 have Fw1042 := (Pa1.ext E1041).same W1042
 have K1042 := K1041.wr W1042 (mi 0 rfl)
 have N1042 := Fr.snoc X1042 N0 g_b1038
 refine walN X1042 hx hby d52_13 rfl rfl ?_
 refine wbp X1042 hx hby d52_14 ?_
 obtain ⟨T1043, h1043, k1043, X1043, e1043, E1043, A1043, O1043v, st1043⟩ := newR X1042 hx hZ hown (ow hw 404 rfl) (ow hw 405 rfl) e1042 (g := (mkF m 16 #[cr b1038] [(.int 16), (.ref b1038)])) rfl (hb hby d52_16) rfl (by decide) (cap := 16) (by decide) (by decide) (by decide) (by decide)
 obtain ⟨b1043, g1043⟩ : ∃ z, z = h1042.size := ⟨_, rfl⟩
 rw [← g1043] at A1043 st1043
 refine Ends.go st1043 ?_
 have sz_b1043 : h0.size ≤ b1043 := Nat.le_trans K1042.1 (Nat.le_of_eq g1043.symm)
 have K1043 := K1042.ext E1043
 have V_b1043 : Arv Z h1043 b1043 k1043 (.object cNA) (16 : Int32) nN16 .null := (Arv.new A1043 (by decide)).pad (pad_rep [] .null 16)
 have c1044 := ((Pa2.ext E1041).other W1042 (sll hw 407 rfl 403 rfl)).ext E1043
 refine wpf X1043 hx hZ hown hw 406 rfl e1043 c1044 (((Pa0.ext E1041).wr W1042).ext E1043) 407 rfl 394 rfl (ty := (.array (.object cNA))) (by decide) rfl rfl hby d52_19 ?_
 intro T1045 h1045 X1045 e1045 W1045
 have Fw1045 := c1044.same W1045
 have K1045 := K1043.wr W1045 (mi 0 rfl)
 have N1045 := Fr.snoc X1045 N1042 g_b1038
 refine walN X1045 hx hby d52_22 rfl rfl ?_
 refine wbp X1045 hx hby d52_23 ?_
 obtain ⟨T1046, h1046, k1046, X1046, e1046, E1046, A1046, st1046⟩ := newP X1045 hx hZ (ow hw 408 rfl) e1045 (g := (mkF m 25 #[cr b1038] [(.int 16), (.ref b1038)])) rfl (hb hby d52_25) rfl (by decide) (cap := 16) (by decide) (by decide) (by decide) (by decide)
 obtain ⟨b1046, g1046⟩ : ∃ z, z = h1045.size := ⟨_, rfl⟩
 rw [← g1046] at A1046 st1046
 refine Ends.go st1046 ?_
 have sz_b1046 : h0.size ≤ b1046 := Nat.le_trans K1045.1 (Nat.le_of_eq g1046.symm)
 have K1046 := K1045.ext E1046
 have V_b1046 : Arv Z h1046 b1046 k1046 .int (16 : Int32) nZ16 (.int 0) := (Arv.new A1046 (by decide)).pad (pad_rep [] (.int 0) 16)
 have c1047 := ((((Pa0.ext E1041).wr W1042).ext E1043).wr W1045).ext E1046
 have c1048 := ((((Pa3.ext E1041).other W1042 (sll hw 410 rfl 403 rfl)).ext E1043).other W1045 (sll hw 410 rfl 407 rfl)).ext E1046
 refine wpf X1046 hx hZ hown hw 409 rfl e1046 c1048 c1047 410 rfl 394 rfl (ty := (.array .int)) (by decide) rfl rfl hby d52_27 ?_
 intro T1049 h1049 X1049 e1049 W1049
 have Fw1049 := c1048.same W1049
 have K1049 := K1046.wr W1049 (mi 0 rfl)
 have N1049 := Fr.snoc X1049 N1045 g_b1038
 refine Ends.retV X1049 hx hns hrt (hb hby d52_30) (by decide) (by decide) ?_
 rw [e1049]
 have c1050 := (((((Pa4.ext E1041).other W1042 (sll hw 430 rfl 403 rfl)).ext E1043).other W1045 (sll hw 430 rfl 407 rfl)).ext E1046).other W1049 (sll hw 430 rfl 410 rfl)
 have c1051 := (((((Pa5.ext E1041).other W1042 (sll hw 432 rfl 403 rfl)).ext E1043).other W1045 (sll hw 432 rfl 407 rfl)).ext E1046).other W1049 (sll hw 432 rfl 410 rfl)
 have c1052 := (((((Pa6.ext E1041).other W1042 (sll hw 434 rfl 403 rfl)).ext E1043).other W1045 (sll hw 434 rfl 407 rfl)).ext E1046).other W1049 (sll hw 434 rfl 410 rfl)
 have c1053 := (((((Pa7.ext E1041).other W1042 (sll hw 436 rfl 403 rfl)).ext E1043).other W1045 (sll hw 436 rfl 407 rfl)).ext E1046).other W1049 (sll hw 436 rfl 410 rfl)
 have c1054 := V_b1041.other W1042 (Ne.symm (Nat.ne_of_lt (Nat.lt_of_lt_of_le Pa0.lt sz_b1041)))
 have ne_b1041_b1043 : b1041 ≠ b1043 := Nat.ne_of_lt (Nat.lt_of_lt_of_le c1054.lt (Nat.le_of_eq g1043.symm))
 have c1055 := ((V_b1041.other W1042 (Ne.symm (Nat.ne_of_lt (Nat.lt_of_lt_of_le Pa0.lt sz_b1041)))).ext E1043).other W1045 (Ne.symm (Nat.ne_of_lt (Nat.lt_of_lt_of_le Pa0.lt sz_b1041)))
 have ne_b1041_b1046 : b1041 ≠ b1046 := Nat.ne_of_lt (Nat.lt_of_lt_of_le c1055.lt (Nat.le_of_eq g1046.symm))
 have c1056 := V_b1043.other W1045 (Ne.symm (Nat.ne_of_lt (Nat.lt_of_lt_of_le Pa0.lt sz_b1043)))
 have ne_b1043_b1046 : b1043 ≠ b1046 := Nat.ne_of_lt (Nat.lt_of_lt_of_le c1056.lt (Nat.le_of_eq g1046.symm))
 have c1057 := ((((V_b1041.other W1042 (Ne.symm (Nat.ne_of_lt (Nat.lt_of_lt_of_le Pa0.lt sz_b1041)))).ext E1043).other W1045 (Ne.symm (Nat.ne_of_lt (Nat.lt_of_lt_of_le Pa0.lt sz_b1041)))).ext E1046).other W1049 (Ne.symm (Nat.ne_of_lt (Nat.lt_of_lt_of_le Pa0.lt sz_b1041)))
 have c1058 := (((Fw1042.ext E1043).other W1045 (sll hw 403 rfl 407 rfl)).ext E1046).other W1049 (sll hw 403 rfl 410 rfl)
 have c1059 := ((V_b1043.other W1045 (Ne.symm (Nat.ne_of_lt (Nat.lt_of_lt_of_le Pa0.lt sz_b1043)))).ext E1046).other W1049 (Ne.symm (Nat.ne_of_lt (Nat.lt_of_lt_of_le Pa0.lt sz_b1043)))
 have c1060 := (Fw1045.ext E1046).other W1049 (sll hw 407 rfl 410 rfl)
 have c1061 := V_b1046.other W1049 (Ne.symm (Nat.ne_of_lt (Nat.lt_of_lt_of_le Pa0.lt sz_b1046)))
 exact ⟨b1041, b1043, b1046, k1041, k1043, k1046, rfl, N1049, K1049, sz_b1041, sz_b1043, sz_b1046, ne_b1041_b1043, ne_b1041_b1046, ne_b1043_b1046, c1057, O1041v, c1058, c1059, O1043v, c1060, c1061, Fw1049, c1050, c1051, c1052, c1053⟩

theorem d57_0 : decode B59_ 0 = .ok (.aload_n 0, 1) := by decide +kernel
theorem d57_1 : decode B59_ 1 = .ok (.getfield 40, 3) := by decide +kernel
theorem d57_4 : decode B59_ 4 = .ok (.ireturn, 1) := by decide +kernel
theorem pn57 : plainName "com/example/ratatoskr/ratatoskr/Walk" = true := by first | (simp [plainName, overriddenIn]; done) | decide +kernel
theorem ef57_r (m : MethodId) (x0 : Addr) : entryFrame m #[(.ref x0)] 1 = mkF m 0 #[.val (.ref x0)] [] := by first | (simp [entryFrame, mkF, argsToLocals, Value.category]; done) | rfl
theorem rx57_1069 (l : Launch) (Z : State) (a0 : Array Value) (hw : HW a0 Z) (ws : List Jvm.Cond) (n0 : Nat) (h0 : Heap) (O0 : Old Z n0 h0)  (b1038 : Addr) (d_ : Int32) (Pa0 : f5_ Z h0 b1038 (.int d_)) :
  Meets1 l ym69 B59_ 1 (some .int) ws (mkR 0 0 0 0) #[(.ref b1038)] Z h0 (fun v h L => v = some (.int d_) ∧ Fr n0 L ∧ Keep h0 h []) := by
 refine own_start n0 (plainFor_of_name pn57) (fun m => ef57_r m b1038) ?_
 intro p e s m below meth c s₁ hns hrt hZ hx hby hml hown hnm X0 e0 N0
 have K0 := Keep.refl h0 []
 refine walN X0 hx hby d57_0 rfl rfl ?_
 refine wgf X0 hx hZ hown hw 429 rfl e0 Pa0 hby d57_1 ?_
 intro T1070 X1070 e1070
 refine Ends.ret X1070 hx hns (t := .int) hrt rfl (Or.inl ⟨rfl, by simp, _, rfl⟩) (hb hby d57_4) (by decide) (by decide) ?_
 rw [e1070]
 exact ⟨rfl, N0, K0⟩

theorem d58_0 : decode B62_ 0 = .ok (.aload_n 0, 1) := by decide +kernel
theorem d58_1 : decode B62_ 1 = .ok (.getfield 49, 3) := by decide +kernel
theorem d58_4 : decode B62_ 4 = .ok (.ifnull 7, 3) := by decide +kernel
theorem d58_7 : decode B62_ 7 = .ok (.iconst 1, 1) := by decide +kernel
theorem d58_8 : decode B62_ 8 = .ok (.goto 4, 3) := by decide +kernel
theorem d58_12 : decode B62_ 12 = .ok (.ireturn, 1) := by decide +kernel
theorem pn58 : plainName "com/example/ratatoskr/ratatoskr/Walk" = true := by first | (simp [plainName, overriddenIn]; done) | decide +kernel
theorem ef58_r (m : MethodId) (x0 : Addr) : entryFrame m #[(.ref x0)] 1 = mkF m 0 #[.val (.ref x0)] [] := by first | (simp [entryFrame, mkF, argsToLocals, Value.category]; done) | rfl
theorem rx58_1072 (l : Launch) (Z : State) (a0 : Array Value) (hw : HW a0 Z) (ws : List Jvm.Cond) (n0 : Nat) (h0 : Heap) (O0 : Old Z n0 h0)  (b1038 : Addr) (b1017 : Addr) (Pa0 : f7_ Z h0 b1038 (.ref b1017)) :
  Meets1 l ym70 B62_ 1 (some .boolean) ws (mkR 0 0 0 0) #[(.ref b1038)] Z h0 (fun v h L => v = some (.int 1) ∧ Fr n0 L ∧ Keep h0 h []) := by
 refine own_start n0 (plainFor_of_name pn58) (fun m => ef58_r m b1038) ?_
 intro p e s m below meth c s₁ hns hrt hZ hx hby hml hown hnm X0 e0 N0
 have K0 := Keep.refl h0 []
 refine walN X0 hx hby d58_0 rfl rfl ?_
 refine wgf X0 hx hZ hown hw 433 rfl e0 Pa0 hby d58_1 ?_
 intro T1073 X1073 e1073
 refine wun X1073 hx hby d58_4 ?_
 refine wic X1073 hx hby d58_7 ?_
 refine wgo (pc := 8) (pc' := 12) X1073 hx hby d58_8 ?_
 refine Ends.retZ X1073 hx hns (t := .boolean) hrt (by simp) (hb hby d58_12) (by decide) (by decide) ?_
 rw [e1073]
 exact ⟨rfl, N0, K0⟩

theorem d62_0 : decode B54_ 0 = .ok (.aload_n 0, 1) := by decide +kernel
theorem d62_1 : decode B54_ 1 = .ok (.getfield 53, 3) := by decide +kernel
theorem d62_4 : decode B54_ 4 = .ok (.iconst 1, 1) := by decide +kernel
theorem d62_5 : decode B54_ 5 = .ok (.isub, 1) := by decide +kernel
theorem d62_6 : decode B54_ 6 = .ok (.ireturn, 1) := by decide +kernel
theorem pn62 : plainName "com/example/ratatoskr/ratatoskr/Walk" = true := by first | (simp [plainName, overriddenIn]; done) | decide +kernel
theorem ef62_r (m : MethodId) (x0 : Addr) : entryFrame m #[(.ref x0)] 1 = mkF m 0 #[.val (.ref x0)] [] := by first | (simp [entryFrame, mkF, argsToLocals, Value.category]; done) | rfl
theorem rx62_1075 (l : Launch) (Z : State) (a0 : Array Value) (hw : HW a0 Z) (ws : List Jvm.Cond) (n0 : Nat) (h0 : Heap) (O0 : Old Z n0 h0)  (b1038 : Addr) (Pa0 : f8_ Z h0 b1038 (.int 0)) :
  Meets1 l ym71 B54_ 1 (some .int) ws (mkR 0 0 0 0) #[(.ref b1038)] Z h0 (fun v h L => v = some (.int (-1)) ∧ Fr n0 L ∧ Keep h0 h []) := by
 refine own_start n0 (plainFor_of_name pn62) (fun m => ef62_r m b1038) ?_
 intro p e s m below meth c s₁ hns hrt hZ hx hby hml hown hnm X0 e0 N0
 have K0 := Keep.refl h0 []
 refine walN X0 hx hby d62_0 rfl rfl ?_
 refine wgf X0 hx hZ hown hw 435 rfl e0 Pa0 hby d62_1 ?_
 intro T1076 X1076 e1076
 refine wic X1076 hx hby d62_4 ?_
 refine wis X1076 hx hby d62_5 ?_
 refine Ends.ret X1076 hx hns (t := .int) hrt rfl (Or.inl ⟨rfl, by simp, _, rfl⟩) (hb hby d62_6) (by decide) (by decide) ?_
 rw [e1076]
 exact ⟨rfl, N0, K0⟩

theorem d63_0 : decode B60_ 0 = .ok (.aload_n 0, 1) := by decide +kernel
theorem d63_1 : decode B60_ 1 = .ok (.getfield 53, 3) := by decide +kernel
theorem d63_4 : decode B60_ 4 = .ok (.aload_n 0, 1) := by decide +kernel
theorem d63_5 : decode B60_ 5 = .ok (.getfield 47, 3) := by decide +kernel
theorem d63_8 : decode B60_ 8 = .ok (.arraylength, 1) := by decide +kernel
theorem d63_9 : decode B60_ 9 = .ok (.if_icmp .ge 7, 3) := by decide +kernel
theorem d63_12 : decode B60_ 12 = .ok (.iconst 1, 1) := by decide +kernel
theorem d63_13 : decode B60_ 13 = .ok (.goto 4, 3) := by decide +kernel
theorem d63_17 : decode B60_ 17 = .ok (.ireturn, 1) := by decide +kernel
theorem pn63 : plainName "com/example/ratatoskr/ratatoskr/Walk" = true := by first | (simp [plainName, overriddenIn]; done) | decide +kernel
theorem ef63_r (m : MethodId) (x0 : Addr) : entryFrame m #[(.ref x0)] 1 = mkF m 0 #[.val (.ref x0)] [] := by first | (simp [entryFrame, mkF, argsToLocals, Value.category]; done) | rfl
theorem rx63_1078 (l : Launch) (Z : State) (a0 : Array Value) (hw : HW a0 Z) (ws : List Jvm.Cond) (n0 : Nat) (h0 : Heap) (O0 : Old Z n0 h0)  (b1038 : Addr) (b1014 : Addr) (k1021 : ClassId) (Pa0 : f8_ Z h0 b1038 (.int 0)) (Pa1 : f6_ Z h0 b1038 (.ref b1014)) (Pa2 : Arv Z h0 b1014 k1021 (.object cJV) (1 : Int32) [(.ref w_EMPTY)] .null) :
  Meets1 l ym72 B60_ 1 (some .boolean) ws (mkR 0 0 0 0) #[(.ref b1038)] Z h0 (fun v h L => v = some (.int 1) ∧ Fr n0 L ∧ Keep h0 h []) := by
 refine own_start n0 (plainFor_of_name pn63) (fun m => ef63_r m b1038) ?_
 intro p e s m below meth c s₁ hns hrt hZ hx hby hml hown hnm X0 e0 N0
 have K0 := Keep.refl h0 []
 refine walN X0 hx hby d63_0 rfl rfl ?_
 refine wgf X0 hx hZ hown hw 435 rfl e0 Pa0 hby d63_1 ?_
 intro T1079 X1079 e1079
 refine walN X1079 hx hby d63_4 rfl rfl ?_
 refine wgf X1079 hx hZ hown hw 431 rfl e1079 Pa1 hby d63_5 ?_
 intro T1080 X1080 e1080
 obtain ⟨cl1081, Ar1081, q1081, S1081, M1081, H1081, G1081⟩ := id Pa2
 refine Ends.go (X1080.arraylength hx (by rw [e1080]; exact Ar1081.1) (State.isArrayOf_alike hZ.alike Ar1081.2.1) (g := (mkF m 8 #[cr b1038] [(.ref b1014), (.int 0)])) rfl rfl (hb hby d63_8)) ?_
 rw [len_of S1081 M1081]
 refine wcn X1080 hx hby d63_9 (tlt (by decide : (0 : Int32) < (1 : Int32))).2.1 ?_
 refine wic X1080 hx hby d63_12 ?_
 refine wgo (pc := 13) (pc' := 17) X1080 hx hby d63_13 ?_
 refine Ends.retZ X1080 hx hns (t := .boolean) hrt (by simp) (hb hby d63_17) (by decide) (by decide) ?_
 rw [e1080]
 exact ⟨rfl, N0, K0⟩

theorem rx59_1086 (l : Launch) (Z : State) (a0 : Array Value) (hw : HW a0 Z) (ws : List Jvm.Cond) (n0 : Nat) (h0 : Heap) (O0 : Old Z n0 h0) (G1 : Int32) (w_EMPTY : Addr) (GF : GlobF Z G1 w_EMPTY) (b1038 : Addr) (b1014 : Addr) (k1021 : ClassId) (b1017 : Addr) (d_ : Int32) (Pa0 : f6_ Z h0 b1038 (.ref b1014)) (Pa1 : f8_ Z h0 b1038 (.int 0)) (Pa2 : Exa Z h0 b1038 cWK) (Pa3 : Arv Z h0 b1014 k1021 (.object cJV) (1 : Int32) [(.ref w_EMPTY)] .null) (Pa4 : f7_ Z h0 b1038 (.ref b1017)) (Pa5 : f5_ Z h0 b1038 (.int d_)) (ne_b1014_b1038 : b1014 ≠ b1038) (g_b1038 : n0 ≤ b1038) :
  Meets1 l ym9 B61_ 1 (some (.object cJV)) ws (mkR 0 0 0 0) #[(.ref b1038)] Z h0 (fun v h L => v = some (.ref w_EMPTY) ∧ Fr n0 L ∧ Keep h0 h [b1038] ∧ f6_ Z h b1038 (.ref b1014) ∧ f8_ Z h b1038 (.int 1) ∧ f7_ Z h b1038 (.ref b1017) ∧ f5_ Z h b1038 (.int d_)) := by
 refine own_start n0 (plainFor_of_name pn59) (fun m => ef59_r m b1038) ?_
 intro p e s m below meth c s₁ hns hrt hZ hx hby hml hown hnm X0 e0 N0
 obtain ⟨SCS, P5, S_EMPTY, E_EMPTY⟩ := id GF
 have K0 := Keep.refl h0 [b1038]
 show Ends _ _ _ _ s₁ (mkF m 0 #[cr b1038] []) _ _ _
 refine walN X0 hx hby d59_0 rfl rfl ?_
 refine wgf X0 hx hZ hown hw 431 rfl e0 Pa0 hby d59_1 ?_
 intro T1087 X1087 e1087
 refine walN X1087 hx hby d59_4 rfl rfl ?_
 refine wdu X1087 hx hby d59_5 rfl ?_
 refine wgf X1087 hx hZ hown hw 435 rfl e1087 Pa1 hby d59_6 ?_
 intro T1088 X1088 e1088
 refine wdx X1088 hx hby d59_9 rfl rfl ?_
 refine wic X1088 hx hby d59_10 ?_
 refine wia X1088 hx hby d59_11 ?_
 refine wpf X1088 hx hZ hown hw 435 rfl e1088 Pa1 Pa2 436 rfl 394 rfl (ty := .int) (by decide) rfl rfl hby d59_12 ?_
 intro T1089 h1089 X1089 e1089 W1089
 have Fw1089 := Pa1.same W1089
 have K1089 := K0.wr W1089 (mi 0 rfl)
 have N1089 := Fr.snoc X1089 N0 g_b1038
 obtain ⟨cl1090, Ar1090, q1090, S1090, M1090, H1090, G1090⟩ := id (Pa3.other W1089 ne_b1014_b1038)
 have hin1090 := inb_of (j := (0 : Int32)) S1090 ⟨by decide, by decide⟩
 refine Ends.go (X1089.aaload hx (j := (0 : Int32)) (v := (.ref w_EMPTY)) (by rw [e1089]; exact Ar1090.1) (State.isArrayOf_alike hZ.alike Ar1090.2.1) rfl Ar1090.2.2 hin1090 (H1090.at hin1090 rfl) (g := (mkF m 15 #[cr b1038] [(.int 0), (.ref b1014)])) rfl rfl (hb hby d59_15)) ?_
 refine Ends.ret X1089 hx hns (t := (.object cJV)) hrt rfl (Or.inr (Or.inr (Or.inr (Or.inr ⟨rfl, rfl, rfl⟩)))) (hb hby d59_16) (by decide) (by decide) ?_
 rw [e1089]
 have c1091 := Pa4.other W1089 (sll hw 434 rfl 436 rfl)
 have c1092 := Pa5.other W1089 (sll hw 430 rfl 436 rfl)
 have c1093 := Pa0.other W1089 (sll hw 432 rfl 436 rfl)
 exact ⟨rfl, N1089, K1089, c1093, Fw1089, c1091, c1092⟩

theorem rx62_1098 (l : Launch) (Z : State) (a0 : Array Value) (hw : HW a0 Z) (ws : List Jvm.Cond) (n0 : Nat) (h0 : Heap) (O0 : Old Z n0 h0)  (b1038 : Addr) (Pa0 : f8_ Z h0 b1038 (.int 1)) :
  Meets1 l ym71 B54_ 1 (some .int) ws (mkR 0 0 0 0) #[(.ref b1038)] Z h0 (fun v h L => v = some (.int 0) ∧ Fr n0 L ∧ Keep h0 h []) := by
 refine own_start n0 (plainFor_of_name pn62) (fun m => ef62_r m b1038) ?_
 intro p e s m below meth c s₁ hns hrt hZ hx hby hml hown hnm X0 e0 N0
 have K0 := Keep.refl h0 []
 refine walN X0 hx hby d62_0 rfl rfl ?_
 refine wgf X0 hx hZ hown hw 435 rfl e0 Pa0 hby d62_1 ?_
 intro T1099 X1099 e1099
 refine wic X1099 hx hby d62_4 ?_
 refine wis X1099 hx hby d62_5 ?_
 refine Ends.ret X1099 hx hns (t := .int) hrt rfl (Or.inl ⟨rfl, by simp, _, rfl⟩) (hb hby d62_6) (by decide) (by decide) ?_
 rw [e1099]
 exact ⟨rfl, N0, K0⟩

theorem d65_0 : decode B52_ 0 = .ok (.aload_n 0, 1) := by decide +kernel
theorem d65_1 : decode B52_ 1 = .ok (.getfield 11, 3) := by decide +kernel
theorem d65_4 : decode B52_ 4 = .ok (.iload_n 1, 1) := by decide +kernel
theorem d65_5 : decode B52_ 5 = .ok (.aaload, 1) := by decide +kernel
theorem d65_6 : decode B52_ 6 = .ok (.areturn, 1) := by decide +kernel
theorem pn65 : plainName "com/example/ratatoskr/ratatoskr/Names" = true := by first | (simp [plainName, overriddenIn]; done) | decide +kernel
theorem ef65_ri (m : MethodId) (x0 : Addr) (x1 : Int32) : entryFrame m #[(.ref x0), (.int x1)] 2 = mkF m 0 #[.val (.ref x0), .val (.int x1)] [] := by first | (simp [entryFrame, mkF, argsToLocals, Value.category]; done) | rfl
theorem rx65_1104 (l : Launch) (Z : State) (a0 : Array Value) (hw : HW a0 Z) (ws : List Jvm.Cond) (n0 : Nat) (h0 : Heap) (O0 : Old Z n0 h0)  (b1017 : Addr) (b1018 : Addr) (k1022 : ClassId) (b606 : Addr) (Pa0 : f34_ Z h0 b1017 (.ref b1018)) (Pa1 : Arv Z h0 b1018 k1022 (.object cST) (1 : Int32) [(.ref b606)] .null) :
  Meets1 l ym73 B52_ 2 (some (.object cST)) ws (mkR 0 0 0 0) #[(.ref b1017), (.int 0)] Z h0 (fun v h L => v = some (.ref b606) ∧ Fr n0 L ∧ Keep h0 h []) := by
 refine own_start n0 (plainFor_of_name pn65) (fun m => ef65_ri m b1017 (0 : Int32)) ?_
 intro p e s m below meth c s₁ hns hrt hZ hx hby hml hown hnm X0 e0 N0
 have K0 := Keep.refl h0 []
 refine walN X0 hx hby d65_0 rfl rfl ?_
 refine wgf X0 hx hZ hown hw 342 rfl e0 Pa0 hby d65_1 ?_
 intro T1105 X1105 e1105
 refine wilN X1105 hx hby d65_4 rfl ?_
 obtain ⟨cl1106, Ar1106, q1106, S1106, M1106, H1106, G1106⟩ := id Pa1
 have hin1106 := inb_of (j := (0 : Int32)) S1106 ⟨by decide, by decide⟩
 refine Ends.go (X1105.aaload hx (j := (0 : Int32)) (v := (.ref b606)) (by rw [e1105]; exact Ar1106.1) (State.isArrayOf_alike hZ.alike Ar1106.2.1) rfl Ar1106.2.2 hin1106 (H1106.at hin1106 rfl) (g := (mkF m 5 #[cr b1017, ci 0] [(.int 0), (.ref b1018)])) rfl rfl (hb hby d65_5)) ?_
 refine Ends.ret X1105 hx hns (t := (.object cST)) hrt rfl (Or.inr (Or.inr (Or.inr (Or.inr ⟨rfl, rfl, rfl⟩)))) (hb hby d65_6) (by decide) (by decide) ?_
 rw [e1105]
 exact ⟨rfl, N0, K0⟩

theorem d64_0 : decode B55_ 0 = .ok (.aload_n 0, 1) := by decide +kernel
theorem d64_1 : decode B55_ 1 = .ok (.getfield 49, 3) := by decide +kernel
theorem d64_4 : decode B55_ 4 = .ok (.aload_n 0, 1) := by decide +kernel
theorem d64_5 : decode B55_ 5 = .ok (.getfield 53, 3) := by decide +kernel
theorem d64_8 : decode B55_ 8 = .ok (.iconst 1, 1) := by decide +kernel
theorem d64_9 : decode B55_ 9 = .ok (.isub, 1) := by decide +kernel
theorem d64_10 : decode B55_ 10 = .ok (.invokevirtual 56, 3) := by decide +kernel
theorem d64_13 : decode B55_ 13 = .ok (.areturn, 1) := by decide +kernel
theorem pn64 : plainName "com/example/ratatoskr/ratatoskr/Walk" = true := by first | (simp [plainName, overriddenIn]; done) | decide +kernel
theorem pdx_41 : parseMethodDescriptor "(I)Ljava/lang/String;" = some ⟨[.int], some (.object "java/lang/String")⟩ := by decide +kernel
theorem ef64_r (m : MethodId) (x0 : Addr) : entryFrame m #[(.ref x0)] 1 = mkF m 0 #[.val (.ref x0)] [] := by first | (simp [entryFrame, mkF, argsToLocals, Value.category]; done) | rfl
theorem rx64_1101 (l : Launch) (Z : State) (a0 : Array Value) (hw : HW a0 Z) (ws : List Jvm.Cond) (n0 : Nat) (h0 : Heap) (O0 : Old Z n0 h0)  (b1038 : Addr) (b1017 : Addr) (b1018 : Addr) (k1022 : ClassId) (b606 : Addr) (Pa0 : f7_ Z h0 b1038 (.ref b1017)) (Pa1 : f8_ Z h0 b1038 (.int 1)) (Pa2 : f34_ Z h0 b1017 (.ref b1018)) (Pa3 : Arv Z h0 b1018 k1022 (.object cST) (1 : Int32) [(.ref b606)] .null) (Pa4 : Exa Z h0 b1017 cNA) :
  Meets1 l ym74 B55_ 1 (some (.object cST)) ws (mkR 1 0 0 13) #[(.ref b1038)] Z h0 (fun v h L => v = some (.ref b606) ∧ Fr n0 L ∧ Keep h0 h []) := by
 refine own_start n0 (plainFor_of_name pn64) (fun m => ef64_r m b1038) ?_
 intro p e s m below meth c s₁ hns hrt hZ hx hby hml hown hnm X0 e0 N0
 have K0 := Keep.refl h0 []
 refine walN X0 hx hby d64_0 rfl rfl ?_
 refine wgf X0 hx hZ hown hw 433 rfl e0 Pa0 hby d64_1 ?_
 intro T1102 X1102 e1102
 refine walN X1102 hx hby d64_4 rfl rfl ?_
 refine wgf X1102 hx hZ hown hw 435 rfl e1102 Pa1 hby d64_5 ?_
 intro T1103 X1103 e1103
 refine wic X1103 hx hby d64_8 ?_
 refine wis X1103 hx hby d64_9 ?_
 refine wvb X1103 hx hZ hown hw hml rfl hby d64_10 485 rfl 486 rfl 488 rfl 487 rfl (by decide) e1103 Pa4 (rx65_1104 l Z a0 hw [] n0 h0 O0  b1017 b1018 k1022 b606 Pa2 Pa3) 489 rfl 325 rfl (by decide) (by decide) [(.int 0)] [] pdx_41 rfl rfl rfl (by decide) (by decide) rfl ?_
 intro _ T1107 _ X1107 hQ1107
 obtain ⟨rfl, N1107q, K1107c⟩ := hQ1107
 have N1107 := Fr.app N0 N1107q
 obtain ⟨h1107, e1107⟩ : ∃ z, T1107.heap = z := ⟨_, rfl⟩
 rw [e1107] at K1107c
 have K1107 := K0.trans K1107c all0
 refine Ends.ret X1107 hx hns (t := (.object cST)) hrt rfl (Or.inr (Or.inr (Or.inr (Or.inr ⟨rfl, rfl, rfl⟩)))) (hb hby d64_13) (by decide) (by decide) ?_
 rw [e1107]
 exact ⟨rfl, N1107, K1107⟩

theorem d66_0 : decode B14_ 0 = .ok (.aload_n 0, 1) := by decide +kernel
theorem d66_1 : decode B14_ 1 = .ok (.aload_n 1, 1) := by decide +kernel
theorem d66_2 : decode B14_ 2 = .ok (.if_acmp .ne 5, 3) := by decide +kernel
theorem d66_5 : decode B14_ 5 = .ok (.iconst 1, 1) := by decide +kernel
theorem d66_6 : decode B14_ 6 = .ok (.ireturn, 1) := by decide +kernel
theorem pn66 : plainName "java/lang/String" = true := by first | (simp [plainName, overriddenIn]; done) | decide +kernel
theorem pdx_42 : parseMethodDescriptor "()Ljava/lang/String;" = some ⟨[], some (.object "java/lang/String")⟩ := by decide +kernel
theorem ef66_rr (m : MethodId) (x0 : Addr) (x1 : Addr) : entryFrame m #[(.ref x0), (.ref x1)] 3 = mkF m 0 #[.val (.ref x0), .val (.ref x1), .unset] [] := by first | (simp [entryFrame, mkF, argsToLocals, Value.category]; done) | rfl
theorem rx66_1112 (l : Launch) (Z : State) (a0 : Array Value) (hw : HW a0 Z) (ws : List Jvm.Cond) (n0 : Nat) (h0 : Heap) (O0 : Old Z n0 h0)  (b606 : Addr)  :
  Meets1 l ym75 B14_ 3 (some .boolean) ws (mkR 0 0 0 0) #[(.ref b606), (.ref b606)] Z h0 (fun v h L => v = some (.int 1) ∧ Fr n0 L ∧ Keep h0 h []) := by
 refine own_start n0 (plainFor_of_name pn66) (fun m => ef66_rr m b606 b606) ?_
 intro p e s m below meth c s₁ hns hrt hZ hx hby hml hown hnm X0 e0 N0
 have K0 := Keep.refl h0 []
 refine walN X0 hx hby d66_0 rfl rfl ?_
 refine walN X0 hx hby d66_1 rfl rfl ?_
 refine .go (fun _ => Jvm.RoadKit.acmp (g := (mkF m 2 #[cr b606, cr b606, cu] [(.ref b606), (.ref b606)])) X0 hx rfl rfl rfl (pc0 := 2) (pc' := 5) (same := true) rfl (hb hby d66_2) rfl (decide_eq_true rfl) (by decide) (by decide)) ?_
 refine wic X0 hx hby d66_5 ?_
 refine Ends.retZ X0 hx hns (t := .boolean) hrt (by simp) (hb hby d66_6) (by decide) (by decide) ?_
 rw [e0]
 exact ⟨rfl, N0, K0⟩

theorem d63_16 : decode B60_ 16 = .ok (.iconst 0, 1) := by decide +kernel
theorem pdx_43 : parseMethodDescriptor "(Ljava/lang/Object;)Z" = some ⟨[(.object "java/lang/Object")], some .boolean⟩ := by decide +kernel
theorem rx63_1118 (l : Launch) (Z : State) (a0 : Array Value) (hw : HW a0 Z) (ws : List Jvm.Cond) (n0 : Nat) (h0 : Heap) (O0 : Old Z n0 h0)  (b1038 : Addr) (b1014 : Addr) (k1021 : ClassId) (Pa0 : f8_ Z h0 b1038 (.int 1)) (Pa1 : f6_ Z h0 b1038 (.ref b1014)) (Pa2 : Arv Z h0 b1014 k1021 (.object cJV) (1 : Int32) [(.ref w_EMPTY)] .null) :
  Meets1 l ym72 B60_ 1 (some .boolean) ws (mkR 0 0 0 0) #[(.ref b1038)] Z h0 (fun v h L => v = some (.int 0) ∧ Fr n0 L ∧ Keep h0 h []) := by
 refine own_start n0 (plainFor_of_name pn63) (fun m => ef63_r m b1038) ?_
 intro p e s m below meth c s₁ hns hrt hZ hx hby hml hown hnm X0 e0 N0
 have K0 := Keep.refl h0 []
 refine walN X0 hx hby d63_0 rfl rfl ?_
 refine wgf X0 hx hZ hown hw 435 rfl e0 Pa0 hby d63_1 ?_
 intro T1119 X1119 e1119
 refine walN X1119 hx hby d63_4 rfl rfl ?_
 refine wgf X1119 hx hZ hown hw 431 rfl e1119 Pa1 hby d63_5 ?_
 intro T1120 X1120 e1120
 obtain ⟨cl1121, Ar1121, q1121, S1121, M1121, H1121, G1121⟩ := id Pa2
 refine Ends.go (X1120.arraylength hx (by rw [e1120]; exact Ar1121.1) (State.isArrayOf_alike hZ.alike Ar1121.2.1) (g := (mkF m 8 #[cr b1038] [(.ref b1014), (.int 1)])) rfl rfl (hb hby d63_8)) ?_
 rw [len_of S1121 M1121]
 refine wcy (pc := 9) (pc' := 16) X1120 hx hby d63_9 (flt (by decide : ¬ ((1 : Int32) < (1 : Int32)))).2.1 ?_
 refine wic X1120 hx hby d63_16 ?_
 refine Ends.retZ X1120 hx hns (t := .boolean) hrt (by simp) (hb hby d63_17) (by decide) (by decide) ?_
 rw [e1120]
 exact ⟨rfl, N0, K0⟩

theorem d58_11 : decode B62_ 11 = .ok (.iconst 0, 1) := by decide +kernel
theorem rx58_1127 (l : Launch) (Z : State) (a0 : Array Value) (hw : HW a0 Z) (ws : List Jvm.Cond) (n0 : Nat) (h0 : Heap) (O0 : Old Z n0 h0)  (b1038 : Addr) (Pa0 : f7_ Z h0 b1038 .null) :
  Meets1 l ym70 B62_ 1 (some .boolean) ws (mkR 0 0 0 0) #[(.ref b1038)] Z h0 (fun v h L => v = some (.int 0) ∧ Fr n0 L ∧ Keep h0 h []) := by
 refine own_start n0 (plainFor_of_name pn58) (fun m => ef58_r m b1038) ?_
 intro p e s m below meth c s₁ hns hrt hZ hx hby hml hown hnm X0 e0 N0
 have K0 := Keep.refl h0 []
 refine walN X0 hx hby d58_0 rfl rfl ?_
 refine wgf X0 hx hZ hown hw 433 rfl e0 Pa0 hby d58_1 ?_
 intro T1128 X1128 e1128
 refine wuy (pc := 4) (pc' := 11) X1128 hx hby d58_4 ?_
 refine wic X1128 hx hby d58_11 ?_
 refine Ends.retZ X1128 hx hns (t := .boolean) hrt (by simp) (hb hby d58_12) (by decide) (by decide) ?_
 rw [e1128]
 exact ⟨rfl, N0, K0⟩

theorem rx63_1131 (l : Launch) (Z : State) (a0 : Array Value) (hw : HW a0 Z) (ws : List Jvm.Cond) (n0 : Nat) (h0 : Heap) (O0 : Old Z n0 h0)  (b1038 : Addr) (b1023 : Addr) (k1023 : ClassId) (b1019 : Addr) (Pa0 : f8_ Z h0 b1038 (.int 0)) (Pa1 : f6_ Z h0 b1038 (.ref b1023)) (Pa2 : Arv Z h0 b1023 k1023 (.object cJV) (2 : Int32) [(.ref w_EMPTY), (.ref b1019)] .null) :
  Meets1 l ym72 B60_ 1 (some .boolean) ws (mkR 0 0 0 0) #[(.ref b1038)] Z h0 (fun v h L => v = some (.int 1) ∧ Fr n0 L ∧ Keep h0 h []) := by
 refine own_start n0 (plainFor_of_name pn63) (fun m => ef63_r m b1038) ?_
 intro p e s m below meth c s₁ hns hrt hZ hx hby hml hown hnm X0 e0 N0
 have K0 := Keep.refl h0 []
 refine walN X0 hx hby d63_0 rfl rfl ?_
 refine wgf X0 hx hZ hown hw 435 rfl e0 Pa0 hby d63_1 ?_
 intro T1132 X1132 e1132
 refine walN X1132 hx hby d63_4 rfl rfl ?_
 refine wgf X1132 hx hZ hown hw 431 rfl e1132 Pa1 hby d63_5 ?_
 intro T1133 X1133 e1133
 obtain ⟨cl1134, Ar1134, q1134, S1134, M1134, H1134, G1134⟩ := id Pa2
 refine Ends.go (X1133.arraylength hx (by rw [e1133]; exact Ar1134.1) (State.isArrayOf_alike hZ.alike Ar1134.2.1) (g := (mkF m 8 #[cr b1038] [(.ref b1023), (.int 0)])) rfl rfl (hb hby d63_8)) ?_
 rw [len_of S1134 M1134]
 refine wcn X1133 hx hby d63_9 (tlt (by decide : (0 : Int32) < (2 : Int32))).2.1 ?_
 refine wic X1133 hx hby d63_12 ?_
 refine wgo (pc := 13) (pc' := 17) X1133 hx hby d63_13 ?_
 refine Ends.retZ X1133 hx hns (t := .boolean) hrt (by simp) (hb hby d63_17) (by decide) (by decide) ?_
 rw [e1133]
 exact ⟨rfl, N0, K0⟩

theorem rx59_1139 (l : Launch) (Z : State) (a0 : Array Value) (hw : HW a0 Z) (ws : List Jvm.Cond) (n0 : Nat) (h0 : Heap) (O0 : Old Z n0 h0) (G1 : Int32) (w_EMPTY : Addr) (GF : GlobF Z G1 w_EMPTY) (b1038 : Addr) (b1023 : Addr) (k1023 : ClassId) (b1019 : Addr) (d_ : Int32) (Pa0 : f6_ Z h0 b1038 (.ref b1023)) (Pa1 : f8_ Z h0 b1038 (.int 0)) (Pa2 : Exa Z h0 b1038 cWK) (Pa3 : Arv Z h0 b1023 k1023 (.object cJV) (2 : Int32) [(.ref w_EMPTY), (.ref b1019)] .null) (Pa4 : f7_ Z h0 b1038 .null) (Pa5 : f5_ Z h0 b1038 (.int d_)) (ne_b1023_b1038 : b1023 ≠ b1038) (g_b1038 : n0 ≤ b1038) :
  Meets1 l ym9 B61_ 1 (some (.object cJV)) ws (mkR 0 0 0 0) #[(.ref b1038)] Z h0 (fun v h L => v = some (.ref w_EMPTY) ∧ Fr n0 L ∧ Keep h0 h [b1038] ∧ f6_ Z h b1038 (.ref b1023) ∧ f8_ Z h b1038 (.int 1) ∧ f7_ Z h b1038 .null ∧ f5_ Z h b1038 (.int d_)) := by
 refine own_start n0 (plainFor_of_name pn59) (fun m => ef59_r m b1038) ?_
 intro p e s m below meth c s₁ hns hrt hZ hx hby hml hown hnm X0 e0 N0
 obtain ⟨SCS, P5, S_EMPTY, E_EMPTY⟩ := id GF
 have K0 := Keep.refl h0 [b1038]
 show Ends _ _ _ _ s₁ (mkF m 0 #[cr b1038] []) _ _ _
 refine walN X0 hx hby d59_0 rfl rfl ?_
 refine wgf X0 hx hZ hown hw 431 rfl e0 Pa0 hby d59_1 ?_
 intro T1140 X1140 e1140
 refine walN X1140 hx hby d59_4 rfl rfl ?_
 refine wdu X1140 hx hby d59_5 rfl ?_
 refine wgf X1140 hx hZ hown hw 435 rfl e1140 Pa1 hby d59_6 ?_
 intro T1141 X1141 e1141
 refine wdx X1141 hx hby d59_9 rfl rfl ?_
 refine wic X1141 hx hby d59_10 ?_
 refine wia X1141 hx hby d59_11 ?_
 refine wpf X1141 hx hZ hown hw 435 rfl e1141 Pa1 Pa2 436 rfl 394 rfl (ty := .int) (by decide) rfl rfl hby d59_12 ?_
 intro T1142 h1142 X1142 e1142 W1142
 have Fw1142 := Pa1.same W1142
 have K1142 := K0.wr W1142 (mi 0 rfl)
 have N1142 := Fr.snoc X1142 N0 g_b1038
 obtain ⟨cl1143, Ar1143, q1143, S1143, M1143, H1143, G1143⟩ := id (Pa3.other W1142 ne_b1023_b1038)
 have hin1143 := inb_of (j := (0 : Int32)) S1143 ⟨by decide, by decide⟩
 refine Ends.go (X1142.aaload hx (j := (0 : Int32)) (v := (.ref w_EMPTY)) (by rw [e1142]; exact Ar1143.1) (State.isArrayOf_alike hZ.alike Ar1143.2.1) rfl Ar1143.2.2 hin1143 (H1143.at hin1143 rfl) (g := (mkF m 15 #[cr b1038] [(.int 0), (.ref b1023)])) rfl rfl (hb hby d59_15)) ?_
 refine Ends.ret X1142 hx hns (t := (.object cJV)) hrt rfl (Or.inr (Or.inr (Or.inr (Or.inr ⟨rfl, rfl, rfl⟩)))) (hb hby d59_16) (by decide) (by decide) ?_
 rw [e1142]
 have c1144 := Pa4.other W1142 (sll hw 434 rfl 436 rfl)
 have c1145 := Pa5.other W1142 (sll hw 430 rfl 436 rfl)
 have c1146 := Pa0.other W1142 (sll hw 432 rfl 436 rfl)
 exact ⟨rfl, N1142, K1142, c1146, Fw1142, c1144, c1145⟩

theorem rx63_1155 (l : Launch) (Z : State) (a0 : Array Value) (hw : HW a0 Z) (ws : List Jvm.Cond) (n0 : Nat) (h0 : Heap) (O0 : Old Z n0 h0)  (b1038 : Addr) (b1023 : Addr) (k1023 : ClassId) (b1019 : Addr) (Pa0 : f8_ Z h0 b1038 (.int 1)) (Pa1 : f6_ Z h0 b1038 (.ref b1023)) (Pa2 : Arv Z h0 b1023 k1023 (.object cJV) (2 : Int32) [(.ref w_EMPTY), (.ref b1019)] .null) :
  Meets1 l ym72 B60_ 1 (some .boolean) ws (mkR 0 0 0 0) #[(.ref b1038)] Z h0 (fun v h L => v = some (.int 1) ∧ Fr n0 L ∧ Keep h0 h []) := by
 refine own_start n0 (plainFor_of_name pn63) (fun m => ef63_r m b1038) ?_
 intro p e s m below meth c s₁ hns hrt hZ hx hby hml hown hnm X0 e0 N0
 have K0 := Keep.refl h0 []
 refine walN X0 hx hby d63_0 rfl rfl ?_
 refine wgf X0 hx hZ hown hw 435 rfl e0 Pa0 hby d63_1 ?_
 intro T1156 X1156 e1156
 refine walN X1156 hx hby d63_4 rfl rfl ?_
 refine wgf X1156 hx hZ hown hw 431 rfl e1156 Pa1 hby d63_5 ?_
 intro T1157 X1157 e1157
 obtain ⟨cl1158, Ar1158, q1158, S1158, M1158, H1158, G1158⟩ := id Pa2
 refine Ends.go (X1157.arraylength hx (by rw [e1157]; exact Ar1158.1) (State.isArrayOf_alike hZ.alike Ar1158.2.1) (g := (mkF m 8 #[cr b1038] [(.ref b1023), (.int 1)])) rfl rfl (hb hby d63_8)) ?_
 rw [len_of S1158 M1158]
 refine wcn X1157 hx hby d63_9 (tlt (by decide : (1 : Int32) < (2 : Int32))).2.1 ?_
 refine wic X1157 hx hby d63_12 ?_
 refine wgo (pc := 13) (pc' := 17) X1157 hx hby d63_13 ?_
 refine Ends.retZ X1157 hx hns (t := .boolean) hrt (by simp) (hb hby d63_17) (by decide) (by decide) ?_
 rw [e1157]
 exact ⟨rfl, N0, K0⟩

theorem rx59_1163 (l : Launch) (Z : State) (a0 : Array Value) (hw : HW a0 Z) (ws : List Jvm.Cond) (n0 : Nat) (h0 : Heap) (O0 : Old Z n0 h0)  (b1038 : Addr) (b1023 : Addr) (k1023 : ClassId) (b1019 : Addr) (d_ : Int32) (Pa0 : f6_ Z h0 b1038 (.ref b1023)) (Pa1 : f8_ Z h0 b1038 (.int 1)) (Pa2 : Exa Z h0 b1038 cWK) (Pa3 : Arv Z h0 b1023 k1023 (.object cJV) (2 : Int32) [(.ref w_EMPTY), (.ref b1019)] .null) (Pa4 : f7_ Z h0 b1038 .null) (Pa5 : f5_ Z h0 b1038 (.int d_)) (ne_b1023_b1038 : b1023 ≠ b1038) (g_b1038 : n0 ≤ b1038) :
  Meets1 l ym9 B61_ 1 (some (.object cJV)) ws (mkR 0 0 0 0) #[(.ref b1038)] Z h0 (fun v h L => v = some (.ref b1019) ∧ Fr n0 L ∧ Keep h0 h [b1038] ∧ f6_ Z h b1038 (.ref b1023) ∧ f8_ Z h b1038 (.int 2) ∧ f7_ Z h b1038 .null ∧ f5_ Z h b1038 (.int d_)) := by
 refine own_start n0 (plainFor_of_name pn59) (fun m => ef59_r m b1038) ?_
 intro p e s m below meth c s₁ hns hrt hZ hx hby hml hown hnm X0 e0 N0
 have K0 := Keep.refl h0 [b1038]
 refine walN X0 hx hby d59_0 rfl rfl ?_
 refine wgf X0 hx hZ hown hw 431 rfl e0 Pa0 hby d59_1 ?_
 intro T1164 X1164 e1164
 refine walN X1164 hx hby d59_4 rfl rfl ?_
 refine wdu X1164 hx hby d59_5 rfl ?_
 refine wgf X1164 hx hZ hown hw 435 rfl e1164 Pa1 hby d59_6 ?_
 intro T1165 X1165 e1165
 refine wdx X1165 hx hby d59_9 rfl rfl ?_
 refine wic X1165 hx hby d59_10 ?_
 refine wia X1165 hx hby d59_11 ?_
 refine wpf X1165 hx hZ hown hw 435 rfl e1165 Pa1 Pa2 436 rfl 394 rfl (ty := .int) (by decide) rfl rfl hby d59_12 ?_
 intro T1166 h1166 X1166 e1166 W1166
 have Fw1166 := Pa1.same W1166
 have K1166 := K0.wr W1166 (mi 0 rfl)
 have N1166 := Fr.snoc X1166 N0 g_b1038
 obtain ⟨cl1167, Ar1167, q1167, S1167, M1167, H1167, G1167⟩ := id (Pa3.other W1166 ne_b1023_b1038)
 have hin1167 := inb_of (j := (1 : Int32)) S1167 ⟨by decide, by decide⟩
 refine Ends.go (X1166.aaload hx (j := (1 : Int32)) (v := (.ref b1019)) (by rw [e1166]; exact Ar1167.1) (State.isArrayOf_alike hZ.alike Ar1167.2.1) rfl Ar1167.2.2 hin1167 (H1167.at hin1167 rfl) (g := (mkF m 15 #[cr b1038] [(.int 1), (.ref b1023)])) rfl rfl (hb hby d59_15)) ?_
 refine Ends.ret X1166 hx hns (t := (.object cJV)) hrt rfl (Or.inr (Or.inr (Or.inr (Or.inr ⟨rfl, rfl, rfl⟩)))) (hb hby d59_16) (by decide) (by decide) ?_
 rw [e1166]
 have c1168 := Pa4.other W1166 (sll hw 434 rfl 436 rfl)
 have c1169 := Pa5.other W1166 (sll hw 430 rfl 436 rfl)
 have c1170 := Pa0.other W1166 (sll hw 432 rfl 436 rfl)
 exact ⟨rfl, N1166, K1166, c1170, Fw1166, c1168, c1169⟩

theorem rx62_1175 (l : Launch) (Z : State) (a0 : Array Value) (hw : HW a0 Z) (ws : List Jvm.Cond) (n0 : Nat) (h0 : Heap) (O0 : Old Z n0 h0)  (b1038 : Addr) (Pa0 : f8_ Z h0 b1038 (.int 2)) :
  Meets1 l ym71 B54_ 1 (some .int) ws (mkR 0 0 0 0) #[(.ref b1038)] Z h0 (fun v h L => v = some (.int 1) ∧ Fr n0 L ∧ Keep h0 h []) := by
 refine own_start n0 (plainFor_of_name pn62) (fun m => ef62_r m b1038) ?_
 intro p e s m below meth c s₁ hns hrt hZ hx hby hml hown hnm X0 e0 N0
 have K0 := Keep.refl h0 []
 refine walN X0 hx hby d62_0 rfl rfl ?_
 refine wgf X0 hx hZ hown hw 435 rfl e0 Pa0 hby d62_1 ?_
 intro T1176 X1176 e1176
 refine wic X1176 hx hby d62_4 ?_
 refine wis X1176 hx hby d62_5 ?_
 refine Ends.ret X1176 hx hns (t := .int) hrt rfl (Or.inl ⟨rfl, by simp, _, rfl⟩) (hb hby d62_6) (by decide) (by decide) ?_
 rw [e1176]
 exact ⟨rfl, N0, K0⟩

theorem rx63_1181 (l : Launch) (Z : State) (a0 : Array Value) (hw : HW a0 Z) (ws : List Jvm.Cond) (n0 : Nat) (h0 : Heap) (O0 : Old Z n0 h0)  (b1038 : Addr) (b1023 : Addr) (k1023 : ClassId) (b1019 : Addr) (Pa0 : f8_ Z h0 b1038 (.int 2)) (Pa1 : f6_ Z h0 b1038 (.ref b1023)) (Pa2 : Arv Z h0 b1023 k1023 (.object cJV) (2 : Int32) [(.ref w_EMPTY), (.ref b1019)] .null) :
  Meets1 l ym72 B60_ 1 (some .boolean) ws (mkR 0 0 0 0) #[(.ref b1038)] Z h0 (fun v h L => v = some (.int 0) ∧ Fr n0 L ∧ Keep h0 h []) := by
 refine own_start n0 (plainFor_of_name pn63) (fun m => ef63_r m b1038) ?_
 intro p e s m below meth c s₁ hns hrt hZ hx hby hml hown hnm X0 e0 N0
 have K0 := Keep.refl h0 []
 refine walN X0 hx hby d63_0 rfl rfl ?_
 refine wgf X0 hx hZ hown hw 435 rfl e0 Pa0 hby d63_1 ?_
 intro T1182 X1182 e1182
 refine walN X1182 hx hby d63_4 rfl rfl ?_
 refine wgf X1182 hx hZ hown hw 431 rfl e1182 Pa1 hby d63_5 ?_
 intro T1183 X1183 e1183
 obtain ⟨cl1184, Ar1184, q1184, S1184, M1184, H1184, G1184⟩ := id Pa2
 refine Ends.go (X1183.arraylength hx (by rw [e1183]; exact Ar1184.1) (State.isArrayOf_alike hZ.alike Ar1184.2.1) (g := (mkF m 8 #[cr b1038] [(.ref b1023), (.int 2)])) rfl rfl (hb hby d63_8)) ?_
 rw [len_of S1184 M1184]
 refine wcy (pc := 9) (pc' := 16) X1183 hx hby d63_9 (flt (by decide : ¬ ((2 : Int32) < (2 : Int32)))).2.1 ?_
 refine wic X1183 hx hby d63_16 ?_
 refine Ends.retZ X1183 hx hns (t := .boolean) hrt (by simp) (hb hby d63_17) (by decide) (by decide) ?_
 rw [e1183]
 exact ⟨rfl, N0, K0⟩

theorem d56_0 : decode B58_ 0 = .ok (.aload_n 0, 1) := by decide +kernel
theorem d56_1 : decode B58_ 1 = .ok (.dup, 1) := by decide +kernel
theorem d56_2 : decode B58_ 2 = .ok (.getfield 40, 3) := by decide +kernel
theorem d56_5 : decode B58_ 5 = .ok (.iconst 1, 1) := by decide +kernel
theorem d56_6 : decode B58_ 6 = .ok (.isub, 1) := by decide +kernel
theorem d56_7 : decode B58_ 7 = .ok (.putfield 40, 3) := by decide +kernel
theorem d56_10 : decode B58_ 10 = .ok (.aload_n 0, 1) := by decide +kernel
theorem d56_11 : decode B58_ 11 = .ok (.getfield 40, 3) := by decide +kernel
theorem d56_14 : decode B58_ 14 = .ok (.ifCond .le 75, 3) := by decide +kernel
theorem d56_89 : decode B58_ 89 = .ok (.aload_n 0, 1) := by decide +kernel
theorem d56_90 : decode B58_ 90 = .ok (.aconst_null, 1) := by decide +kernel
theorem d56_91 : decode B58_ 91 = .ok (.putfield 47, 3) := by decide +kernel
theorem d56_94 : decode B58_ 94 = .ok (.aload_n 0, 1) := by decide +kernel
theorem d56_95 : decode B58_ 95 = .ok (.aconst_null, 1) := by decide +kernel
theorem d56_96 : decode B58_ 96 = .ok (.putfield 49, 3) := by decide +kernel
theorem d56_99 : decode B58_ 99 = .ok (.return_, 1) := by decide +kernel
theorem pn56 : plainName "com/example/ratatoskr/ratatoskr/Walk" = true := by first | (simp [plainName, overriddenIn]; done) | decide +kernel
theorem ef56_r (m : MethodId) (x0 : Addr) : entryFrame m #[(.ref x0)] 1 = mkF m 0 #[.val (.ref x0)] [] := by first | (simp [entryFrame, mkF, argsToLocals, Value.category]; done) | rfl
theorem rx56_1189 (l : Launch) (Z : State) (a0 : Array Value) (hw : HW a0 Z) (ws : List Jvm.Cond) (n0 : Nat) (h0 : Heap) (O0 : Old Z n0 h0)  (b1038 : Addr) (u1_ : Value) (u2_ : Value) (z_ : Int32) (b1063 : Addr) (b1064 : Addr) (b1065 : Addr) (Pa0 : f5_ Z h0 b1038 (.int 1)) (Pa1 : Exa Z h0 b1038 cWK) (Pa2 : f6_ Z h0 b1038 u1_) (Pa3 : f7_ Z h0 b1038 u2_) (Pa4 : f8_ Z h0 b1038 (.int z_)) (Pa5 : f9_ Z h0 b1038 (.ref b1063)) (Pa6 : f10_ Z h0 b1038 (.ref b1064)) (Pa7 : f11_ Z h0 b1038 (.ref b1065)) (g_b1038 : n0 ≤ b1038) :
  Meets1 l ym76 B58_ 1 none ws (mkR 0 0 0 0) #[(.ref b1038)] Z h0 (fun v h L => v = none ∧ Fr n0 L ∧ Keep h0 h [b1038] ∧ f5_ Z h b1038 (.int 0) ∧ f6_ Z h b1038 .null ∧ f7_ Z h b1038 .null ∧ f8_ Z h b1038 (.int z_) ∧ f9_ Z h b1038 (.ref b1063) ∧ f10_ Z h b1038 (.ref b1064) ∧ f11_ Z h b1038 (.ref b1065)) := by
 refine own_start n0 (plainFor_of_name pn56) (fun m => ef56_r m b1038) ?_
 intro p e s m below meth c s₁ hns hrt hZ hx hby hml hown hnm X0 e0 N0
 have K0 := Keep.refl h0 [b1038]
 refine walN X0 hx hby d56_0 rfl rfl ?_
 refine wdu X0 hx hby d56_1 rfl ?_
 refine wgf X0 hx hZ hown hw 429 rfl e0 Pa0 hby d56_2 ?_
 intro T1190 X1190 e1190
 refine wic X1190 hx hby d56_5 ?_
 refine wis X1190 hx hby d56_6 ?_
 refine wpf X1190 hx hZ hown hw 429 rfl e1190 Pa0 Pa1 430 rfl 394 rfl (ty := .int) (by decide) rfl rfl hby d56_7 ?_
 intro T1191 h1191 X1191 e1191 W1191
 have Fw1191 := Pa0.same W1191
 have K1191 := K0.wr W1191 (mi 0 rfl)
 have N1191 := Fr.snoc X1191 N0 g_b1038
 refine walN X1191 hx hby d56_10 rfl rfl ?_
 refine wgf X1191 hx hZ hown hw 429 rfl e1191 Fw1191 hby d56_11 ?_
 intro T1192 X1192 e1192
 refine wiy (pc := 14) (pc' := 89) X1192 hx hby d56_14 ((if0 _ _).trans (flt (by decide : ¬ ((0 : Int32) < (0 : Int32)))).2.2.2) ?_
 refine walN X1192 hx hby d56_89 rfl rfl ?_
 refine wnu X1192 hx hby d56_90 ?_
 have c1193 := Pa2.other W1191 (sll hw 432 rfl 430 rfl)
 refine wpf X1192 hx hZ hown hw 431 rfl e1192 c1193 (Pa1.wr W1191) 432 rfl 394 rfl (ty := (.array (.object cJV))) (by decide) rfl rfl hby d56_91 ?_
 intro T1194 h1194 X1194 e1194 W1194
 have Fw1194 := c1193.same W1194
 have K1194 := K1191.wr W1194 (mi 0 rfl)
 have N1194 := Fr.snoc X1194 N1191 g_b1038
 refine walN X1194 hx hby d56_94 rfl rfl ?_
 refine wnu X1194 hx hby d56_95 ?_
 have c1195 := (Pa3.other W1191 (sll hw 434 rfl 430 rfl)).other W1194 (sll hw 434 rfl 432 rfl)
 refine wpf X1194 hx hZ hown hw 433 rfl e1194 c1195 ((Pa1.wr W1191).wr W1194) 434 rfl 394 rfl (ty := (.object cNA)) (by decide) rfl rfl hby d56_96 ?_
 intro T1196 h1196 X1196 e1196 W1196
 have Fw1196 := c1195.same W1196
 have K1196 := K1194.wr W1196 (mi 0 rfl)
 have N1196 := Fr.snoc X1196 N1194 g_b1038
 refine Ends.retV X1196 hx hns hrt (hb hby d56_99) (by decide) (by decide) ?_
 rw [e1196]
 have c1197 := ((Pa4.other W1191 (sll hw 436 rfl 430 rfl)).other W1194 (sll hw 436 rfl 432 rfl)).other W1196 (sll hw 436 rfl 434 rfl)
 have c1198 := ((Pa5.other W1191 (sll hw 403 rfl 430 rfl)).other W1194 (sll hw 403 rfl 432 rfl)).other W1196 (sll hw 403 rfl 434 rfl)
 have c1199 := ((Pa6.other W1191 (sll hw 407 rfl 430 rfl)).other W1194 (sll hw 407 rfl 432 rfl)).other W1196 (sll hw 407 rfl 434 rfl)
 have c1200 := ((Pa7.other W1191 (sll hw 410 rfl 430 rfl)).other W1194 (sll hw 410 rfl 432 rfl)).other W1196 (sll hw 410 rfl 434 rfl)
 have c1201 := (Fw1191.other W1194 (sll hw 430 rfl 432 rfl)).other W1196 (sll hw 430 rfl 434 rfl)
 have c1202 := Fw1194.other W1196 (sll hw 432 rfl 434 rfl)
 exact ⟨rfl, N1196, K1196, c1201, c1202, Fw1196, c1197, c1198, c1199, c1200⟩

theorem rx57_1204 (l : Launch) (Z : State) (a0 : Array Value) (hw : HW a0 Z) (ws : List Jvm.Cond) (n0 : Nat) (h0 : Heap) (O0 : Old Z n0 h0)  (b1038 : Addr) (Pa0 : f5_ Z h0 b1038 (.int 0)) :
  Meets1 l ym69 B59_ 1 (some .int) ws (mkR 0 0 0 0) #[(.ref b1038)] Z h0 (fun v h L => v = some (.int 0) ∧ Fr n0 L ∧ Keep h0 h []) := by
 refine own_start n0 (plainFor_of_name pn57) (fun m => ef57_r m b1038) ?_
 intro p e s m below meth c s₁ hns hrt hZ hx hby hml hown hnm X0 e0 N0
 have K0 := Keep.refl h0 []
 refine walN X0 hx hby d57_0 rfl rfl ?_
 refine wgf X0 hx hZ hown hw 429 rfl e0 Pa0 hby d57_1 ?_
 intro T1205 X1205 e1205
 refine Ends.ret X1205 hx hns (t := .int) hrt rfl (Or.inl ⟨rfl, by simp, _, rfl⟩) (hb hby d57_4) (by decide) (by decide) ?_
 rw [e1205]
 exact ⟨rfl, N0, K0⟩

theorem d56_17 : decode B58_ 17 = .ok (.aload_n 0, 1) := by decide +kernel
theorem d56_18 : decode B58_ 18 = .ok (.aload_n 0, 1) := by decide +kernel
theorem d56_19 : decode B58_ 19 = .ok (.getfield 9, 3) := by decide +kernel
theorem d56_22 : decode B58_ 22 = .ok (.aload_n 0, 1) := by decide +kernel
theorem d56_23 : decode B58_ 23 = .ok (.getfield 40, 3) := by decide +kernel
theorem d56_26 : decode B58_ 26 = .ok (.iconst 1, 1) := by decide +kernel
theorem d56_27 : decode B58_ 27 = .ok (.isub, 1) := by decide +kernel
theorem d56_28 : decode B58_ 28 = .ok (.aaload, 1) := by decide +kernel
theorem d56_29 : decode B58_ 29 = .ok (.putfield 47, 3) := by decide +kernel
theorem d56_32 : decode B58_ 32 = .ok (.aload_n 0, 1) := by decide +kernel
theorem d56_33 : decode B58_ 33 = .ok (.aload_n 0, 1) := by decide +kernel
theorem d56_34 : decode B58_ 34 = .ok (.getfield 17, 3) := by decide +kernel
theorem d56_37 : decode B58_ 37 = .ok (.aload_n 0, 1) := by decide +kernel
theorem d56_38 : decode B58_ 38 = .ok (.getfield 40, 3) := by decide +kernel
theorem d56_41 : decode B58_ 41 = .ok (.iconst 1, 1) := by decide +kernel
theorem d56_42 : decode B58_ 42 = .ok (.isub, 1) := by decide +kernel
theorem d56_43 : decode B58_ 43 = .ok (.aaload, 1) := by decide +kernel
theorem d56_44 : decode B58_ 44 = .ok (.putfield 49, 3) := by decide +kernel
theorem d56_47 : decode B58_ 47 = .ok (.aload_n 0, 1) := by decide +kernel
theorem d56_48 : decode B58_ 48 = .ok (.aload_n 0, 1) := by decide +kernel
theorem d56_49 : decode B58_ 49 = .ok (.getfield 21, 3) := by decide +kernel
theorem d56_52 : decode B58_ 52 = .ok (.aload_n 0, 1) := by decide +kernel
theorem d56_53 : decode B58_ 53 = .ok (.getfield 40, 3) := by decide +kernel
theorem d56_56 : decode B58_ 56 = .ok (.iconst 1, 1) := by decide +kernel
theorem d56_57 : decode B58_ 57 = .ok (.isub, 1) := by decide +kernel
theorem d56_58 : decode B58_ 58 = .ok (.iaload, 1) := by decide +kernel
theorem d56_59 : decode B58_ 59 = .ok (.putfield 53, 3) := by decide +kernel
theorem d56_62 : decode B58_ 62 = .ok (.aload_n 0, 1) := by decide +kernel
theorem d56_63 : decode B58_ 63 = .ok (.getfield 9, 3) := by decide +kernel
theorem d56_66 : decode B58_ 66 = .ok (.aload_n 0, 1) := by decide +kernel
theorem d56_67 : decode B58_ 67 = .ok (.getfield 40, 3) := by decide +kernel
theorem d56_70 : decode B58_ 70 = .ok (.iconst 1, 1) := by decide +kernel
theorem d56_71 : decode B58_ 71 = .ok (.isub, 1) := by decide +kernel
theorem d56_72 : decode B58_ 72 = .ok (.aconst_null, 1) := by decide +kernel
theorem d56_73 : decode B58_ 73 = .ok (.aastore, 1) := by decide +kernel
theorem d56_74 : decode B58_ 74 = .ok (.aload_n 0, 1) := by decide +kernel
theorem d56_75 : decode B58_ 75 = .ok (.getfield 17, 3) := by decide +kernel
theorem d56_78 : decode B58_ 78 = .ok (.aload_n 0, 1) := by decide +kernel
theorem d56_79 : decode B58_ 79 = .ok (.getfield 40, 3) := by decide +kernel
theorem d56_82 : decode B58_ 82 = .ok (.iconst 1, 1) := by decide +kernel
theorem d56_83 : decode B58_ 83 = .ok (.isub, 1) := by decide +kernel
theorem d56_84 : decode B58_ 84 = .ok (.aconst_null, 1) := by decide +kernel
theorem d56_85 : decode B58_ 85 = .ok (.aastore, 1) := by decide +kernel
theorem d56_86 : decode B58_ 86 = .ok (.goto 13, 3) := by decide +kernel
theorem rx56_1208 (l : Launch) (Z : State) (a0 : Array Value) (hw : HW a0 Z) (ws : List Jvm.Cond) (n0 : Nat) (h0 : Heap) (O0 : Old Z n0 h0)  (b1038 : Addr) (b1063 : Addr) (k1066 : ClassId) (b1014 : Addr) (u1_ : Value) (b1064 : Addr) (k1067 : ClassId) (b1017 : Addr) (u2_ : Value) (b1065 : Addr) (k1068 : ClassId) (l13_ : Int32) (z_ : Int32) (Pa0 : f5_ Z h0 b1038 (.int 2)) (Pa1 : Exa Z h0 b1038 cWK) (Pa2 : f9_ Z h0 b1038 (.ref b1063)) (Pa3 : Arv Z h0 b1063 k1066 (.array (.object cJV)) (16 : Int32) ((.ref b1014) :: nN15) .null) (Pa4 : f6_ Z h0 b1038 u1_) (Pa5 : f10_ Z h0 b1038 (.ref b1064)) (Pa6 : Arv Z h0 b1064 k1067 (.object cNA) (16 : Int32) ((.ref b1017) :: nN15) .null) (Pa7 : f7_ Z h0 b1038 u2_) (Pa8 : f11_ Z h0 b1038 (.ref b1065)) (Pa9 : Arv Z h0 b1065 k1068 .int (16 : Int32) ((.int l13_) :: nZ15) (.int 0)) (Pa10 : f8_ Z h0 b1038 (.int z_)) (Pa11 : OvrA Z k1066 (.object cJV) cAJ) (Pa12 : Ovr Z k1067 cNA) (ne_b1063_b1038 : b1063 ≠ b1038) (ne_b1064_b1038 : b1064 ≠ b1038) (ne_b1065_b1038 : b1065 ≠ b1038) (ne_b1064_b1063 : b1064 ≠ b1063) (g_b1038 : n0 ≤ b1038) (g_b1063 : n0 ≤ b1063) (g_b1064 : n0 ≤ b1064) :
  Meets1 l ym76 B58_ 1 none ws (mkR 0 0 0 0) #[(.ref b1038)] Z h0 (fun v h L => v = none ∧ Fr n0 L ∧ Keep h0 h [b1038, b1063, b1064] ∧ f5_ Z h b1038 (.int 1) ∧ f9_ Z h b1038 (.ref b1063) ∧ Arv Z h b1063 k1066 (.array (.object cJV)) (16 : Int32) nN16 .null ∧ f6_ Z h b1038 (.ref b1014) ∧ f10_ Z h b1038 (.ref b1064) ∧ Arv Z h b1064 k1067 (.object cNA) (16 : Int32) nN16 .null ∧ f7_ Z h b1038 (.ref b1017) ∧ f11_ Z h b1038 (.ref b1065) ∧ f8_ Z h b1038 (.int l13_)) := by
 refine own_start n0 (plainFor_of_name pn56) (fun m => ef56_r m b1038) ?_
 intro p e s m below meth c s₁ hns hrt hZ hx hby hml hown hnm X0 e0 N0
 have K0 := Keep.refl h0 [b1038, b1063, b1064]
 refine walN X0 hx hby d56_0 rfl rfl ?_
 refine wdu X0 hx hby d56_1 rfl ?_
 refine wgf X0 hx hZ hown hw 429 rfl e0 Pa0 hby d56_2 ?_
 intro T1209 X1209 e1209
 refine wic X1209 hx hby d56_5 ?_
 refine wis X1209 hx hby d56_6 ?_
 refine wpf X1209 hx hZ hown hw 429 rfl e1209 Pa0 Pa1 430 rfl 394 rfl (ty := .int) (by decide) rfl rfl hby d56_7 ?_
 intro T1210 h1210 X1210 e1210 W1210
 have Fw1210 := Pa0.same W1210
 have K1210 := K0.wr W1210 (mi 0 rfl)
 have N1210 := Fr.snoc X1210 N0 g_b1038
 refine walN X1210 hx hby d56_10 rfl rfl ?_
 refine wgf X1210 hx hZ hown hw 429 rfl e1210 Fw1210 hby d56_11 ?_
 intro T1211 X1211 e1211
 refine win X1211 hx hby d56_14 ((if0 _ _).trans (tlt (by decide : (0 : Int32) < (1 : Int32))).2.2.2) ?_
 refine walN X1211 hx hby d56_17 rfl rfl ?_
 refine walN X1211 hx hby d56_18 rfl rfl ?_
 have c1212 := Pa2.other W1210 (sll hw 403 rfl 430 rfl)
 refine wgf X1211 hx hZ hown hw 402 rfl e1211 c1212 hby d56_19 ?_
 intro T1213 X1213 e1213
 refine walN X1213 hx hby d56_22 rfl rfl ?_
 refine wgf X1213 hx hZ hown hw 429 rfl e1213 Fw1210 hby d56_23 ?_
 intro T1214 X1214 e1214
 refine wic X1214 hx hby d56_26 ?_
 refine wis X1214 hx hby d56_27 ?_
 obtain ⟨cl1215, Ar1215, q1215, S1215, M1215, H1215, G1215⟩ := id (Pa3.other W1210 ne_b1063_b1038)
 have hin1215 := inb_of (j := (0 : Int32)) S1215 ⟨by decide, by decide⟩
 refine Ends.go (X1214.aaload hx (j := (0 : Int32)) (v := (.ref b1014)) (by rw [e1214]; exact Ar1215.1) (State.isArrayOf_alike hZ.alike Ar1215.2.1) rfl Ar1215.2.2 hin1215 (H1215.at hin1215 rfl) (g := (mkF m 28 #[cr b1038] [(.int 0), (.ref b1063), (.ref b1038)])) rfl rfl (hb hby d56_28)) ?_
 have c1216 := Pa4.other W1210 (sll hw 432 rfl 430 rfl)
 refine wpf X1214 hx hZ hown hw 431 rfl e1214 c1216 (Pa1.wr W1210) 432 rfl 394 rfl (ty := (.array (.object cJV))) (by decide) rfl rfl hby d56_29 ?_
 intro T1217 h1217 X1217 e1217 W1217
 have Fw1217 := c1216.same W1217
 have K1217 := K1210.wr W1217 (mi 0 rfl)
 have N1217 := Fr.snoc X1217 N1210 g_b1038
 refine walN X1217 hx hby d56_32 rfl rfl ?_
 refine walN X1217 hx hby d56_33 rfl rfl ?_
 have c1218 := (Pa5.other W1210 (sll hw 407 rfl 430 rfl)).other W1217 (sll hw 407 rfl 432 rfl)
 refine wgf X1217 hx hZ hown hw 406 rfl e1217 c1218 hby d56_34 ?_
 intro T1219 X1219 e1219
 refine walN X1219 hx hby d56_37 rfl rfl ?_
 have c1220 := Fw1210.other W1217 (sll hw 430 rfl 432 rfl)
 refine wgf X1219 hx hZ hown hw 429 rfl e1219 c1220 hby d56_38 ?_
 intro T1221 X1221 e1221
 refine wic X1221 hx hby d56_41 ?_
 refine wis X1221 hx hby d56_42 ?_
 have c1223 := (Pa6.other W1210 ne_b1064_b1038).other W1217 ne_b1064_b1038
 obtain ⟨cl1222, Ar1222, q1222, S1222, M1222, H1222, G1222⟩ := id c1223
 have hin1222 := inb_of (j := (0 : Int32)) S1222 ⟨by decide, by decide⟩
 refine Ends.go (X1221.aaload hx (j := (0 : Int32)) (v := (.ref b1017)) (by rw [e1221]; exact Ar1222.1) (State.isArrayOf_alike hZ.alike Ar1222.2.1) rfl Ar1222.2.2 hin1222 (H1222.at hin1222 rfl) (g := (mkF m 43 #[cr b1038] [(.int 0), (.ref b1064), (.ref b1038)])) rfl rfl (hb hby d56_43)) ?_
 have c1224 := (Pa7.other W1210 (sll hw 434 rfl 430 rfl)).other W1217 (sll hw 434 rfl 432 rfl)
 refine wpf X1221 hx hZ hown hw 433 rfl e1221 c1224 ((Pa1.wr W1210).wr W1217) 434 rfl 394 rfl (ty := (.object cNA)) (by decide) rfl rfl hby d56_44 ?_
 intro T1225 h1225 X1225 e1225 W1225
 have Fw1225 := c1224.same W1225
 have K1225 := K1217.wr W1225 (mi 0 rfl)
 have N1225 := Fr.snoc X1225 N1217 g_b1038
 refine walN X1225 hx hby d56_47 rfl rfl ?_
 refine walN X1225 hx hby d56_48 rfl rfl ?_
 show Ends _ _ _ _ T1225 (mkF m 49 #[cr b1038] [(.ref b1038), (.ref b1038)]) _ _ _
 have c1226 := ((Pa8.other W1210 (sll hw 410 rfl 430 rfl)).other W1217 (sll hw 410 rfl 432 rfl)).other W1225 (sll hw 410 rfl 434 rfl)
 refine wgf X1225 hx hZ hown hw 409 rfl e1225 c1226 hby d56_49 ?_
 intro T1227 X1227 e1227
 refine walN X1227 hx hby d56_52 rfl rfl ?_
 have c1228 := c1220.other W1225 (sll hw 430 rfl 434 rfl)
 refine wgf X1227 hx hZ hown hw 429 rfl e1227 c1228 hby d56_53 ?_
 intro T1229 X1229 e1229
 refine wic X1229 hx hby d56_56 ?_
 refine wis X1229 hx hby d56_57 ?_
 have c1231 := ((Pa9.other W1210 ne_b1065_b1038).other W1217 ne_b1065_b1038).other W1225 ne_b1065_b1038
 obtain ⟨cl1230, Ar1230, q1230, S1230, M1230, H1230, G1230⟩ := id c1231
 have hin1230 := inb_of (j := (0 : Int32)) S1230 ⟨by decide, by decide⟩
 refine Ends.go (X1229.iaload hx (j := (0 : Int32)) (v := (.int l13_)) (by rw [e1229]; exact Ar1230.1) (State.isArrayOf_alike hZ.alike Ar1230.2.1) Ar1230.2.2 hin1230 (H1230.at hin1230 rfl) (g := (mkF m 58 #[cr b1038] [(.int 0), (.ref b1065), (.ref b1038)])) rfl rfl (hb hby d56_58)) ?_
 have c1232 := ((Pa10.other W1210 (sll hw 436 rfl 430 rfl)).other W1217 (sll hw 436 rfl 432 rfl)).other W1225 (sll hw 436 rfl 434 rfl)
 refine wpf X1229 hx hZ hown hw 435 rfl e1229 c1232 (((Pa1.wr W1210).wr W1217).wr W1225) 436 rfl 394 rfl (ty := .int) (by decide) rfl rfl hby d56_59 ?_
 intro T1233 h1233 X1233 e1233 W1233
 have Fw1233 := c1232.same W1233
 have K1233 := K1225.wr W1233 (mi 0 rfl)
 have N1233 := Fr.snoc X1233 N1225 g_b1038
 refine walN X1233 hx hby d56_62 rfl rfl ?_
 have c1234 := ((c1212.other W1217 (sll hw 403 rfl 432 rfl)).other W1225 (sll hw 403 rfl 434 rfl)).other W1233 (sll hw 403 rfl 436 rfl)
 refine wgf X1233 hx hZ hown hw 402 rfl e1233 c1234 hby d56_63 ?_
 intro T1235 X1235 e1235
 refine walN X1235 hx hby d56_66 rfl rfl ?_
 have c1236 := c1228.other W1233 (sll hw 430 rfl 436 rfl)
 refine wgf X1235 hx hZ hown hw 429 rfl e1235 c1236 hby d56_67 ?_
 intro T1237 X1237 e1237
 refine wic X1237 hx hby d56_70 ?_
 refine wis X1237 hx hby d56_71 ?_
 refine wnu X1237 hx hby d56_72 ?_
 have c1239 := (((Pa3.other W1210 ne_b1063_b1038).other W1217 ne_b1063_b1038).other W1225 ne_b1063_b1038).other W1233 ne_b1063_b1038
 obtain ⟨cl1238, Ar1238, q1238, S1238, M1238, H1238, G1238⟩ := id c1239
 have hin1238 := inb_of (j := (0 : Int32)) S1238 ⟨by decide, by decide⟩
 obtain ⟨T1238, h1238, X1238, e1238, W1238, st1238⟩ := stR X1237 hx hZ e1237 Ar1238 (j := (0 : Int32)) hin1238 rfl (Or.inl rfl) (g := (mkF m 73 #[cr b1038] [.null, (.int 0), (.ref b1063)])) rfl rfl (hb hby d56_73)
 refine Ends.go st1238 ?_
 have V1238 : Arv Z h1238 b1063 k1066 (.array (.object cJV)) (16 : Int32) nN16 .null := Arv.set Ar1238 q1238 S1238 M1238 H1238 G1238 rfl W1238 0 rfl (Nat.le_of_ble_eq_true rfl)
 have K1238 := K1233.wr W1238 (mi 1 rfl)
 have N1238 := Fr.snoc X1238 N1233 g_b1063
 refine walN X1238 hx hby d56_74 rfl rfl ?_
 have c1240 := ((c1218.other W1225 (sll hw 407 rfl 434 rfl)).other W1233 (sll hw 407 rfl 436 rfl)).other W1238 (Or.inl (Ne.symm ne_b1063_b1038))
 refine wgf X1238 hx hZ hown hw 406 rfl e1238 c1240 hby d56_75 ?_
 intro T1241 X1241 e1241
 refine walN X1241 hx hby d56_78 rfl rfl ?_
 refine wgf X1241 hx hZ hown hw 429 rfl e1241 (c1236.other W1238 (Or.inl (Ne.symm ne_b1063_b1038))) hby d56_79 ?_
 intro T1242 X1242 e1242
 refine wic X1242 hx hby d56_82 ?_
 refine wis X1242 hx hby d56_83 ?_
 refine wnu X1242 hx hby d56_84 ?_
 have c1244 := ((c1223.other W1225 ne_b1064_b1038).other W1233 ne_b1064_b1038).other W1238 ne_b1064_b1063
 obtain ⟨cl1243, Ar1243, q1243, S1243, M1243, H1243, G1243⟩ := id c1244
 have hin1243 := inb_of (j := (0 : Int32)) S1243 ⟨by decide, by decide⟩
 obtain ⟨T1243, h1243, X1243, e1243, W1243, st1243⟩ := stR X1242 hx hZ e1242 Ar1243 (j := (0 : Int32)) hin1243 rfl (Or.inl rfl) (g := (mkF m 85 #[cr b1038] [.null, (.int 0), (.ref b1064)])) rfl rfl (hb hby d56_85)
 refine Ends.go st1243 ?_
 have V1243 : Arv Z h1243 b1064 k1067 (.object cNA) (16 : Int32) nN16 .null := Arv.set Ar1243 q1243 S1243 M1243 H1243 G1243 rfl W1243 0 rfl (Nat.le_of_ble_eq_true rfl)
 have K1243 := K1238.wr W1243 (mi 2 rfl)
 have N1243 := Fr.snoc X1243 N1238 g_b1064
 refine wgo (pc := 86) (pc' := 99) X1243 hx hby d56_86 ?_
 refine Ends.retV X1243 hx hns hrt (hb hby d56_99) (by decide) (by decide) ?_
 rw [e1243]
 have c1245 := (c1236.other W1238 (Or.inl (Ne.symm ne_b1063_b1038))).other W1243 (Or.inl (Ne.symm ne_b1064_b1038))
 have c1246 := (c1234.other W1238 (Or.inl (Ne.symm ne_b1063_b1038))).other W1243 (Or.inl (Ne.symm ne_b1064_b1038))
 have c1247 := (((Fw1217.other W1225 (sll hw 432 rfl 434 rfl)).other W1233 (sll hw 432 rfl 436 rfl)).other W1238 (Or.inl (Ne.symm ne_b1063_b1038))).other W1243 (Or.inl (Ne.symm ne_b1064_b1038))
 have c1248 := ((Fw1225.other W1233 (sll hw 434 rfl 436 rfl)).other W1238 (Or.inl (Ne.symm ne_b1063_b1038))).other W1243 (Or.inl (Ne.symm ne_b1064_b1038))
 have c1249 := ((c1226.other W1233 (sll hw 410 rfl 436 rfl)).other W1238 (Or.inl (Ne.symm ne_b1063_b1038))).other W1243 (Or.inl (Ne.symm ne_b1064_b1038))
 have c1250 := (Fw1233.other W1238 (Or.inl (Ne.symm ne_b1063_b1038))).other W1243 (Or.inl (Ne.symm ne_b1064_b1038))
 exact ⟨rfl, N1243, K1243, c1245, c1246, (V1238.other W1243 (Ne.symm ne_b1064_b1063)), c1247, (c1240.other W1243 (Or.inl (Ne.symm ne_b1064_b1038))), V1243, c1248, c1249, c1250⟩

theorem rx56_1259 (l : Launch) (Z : State) (a0 : Array Value) (hw : HW a0 Z) (ws : List Jvm.Cond) (n0 : Nat) (h0 : Heap) (O0 : Old Z n0 h0)  (b1038 : Addr) (b1063 : Addr) (k1066 : ClassId) (b1023 : Addr) (u1_ : Value) (b1064 : Addr) (k1067 : ClassId) (u2_ : Value) (b1065 : Addr) (k1068 : ClassId) (l13_ : Int32) (z_ : Int32) (Pa0 : f5_ Z h0 b1038 (.int 2)) (Pa1 : Exa Z h0 b1038 cWK) (Pa2 : f9_ Z h0 b1038 (.ref b1063)) (Pa3 : Arv Z h0 b1063 k1066 (.array (.object cJV)) (16 : Int32) ((.ref b1023) :: nN15) .null) (Pa4 : f6_ Z h0 b1038 u1_) (Pa5 : f10_ Z h0 b1038 (.ref b1064)) (Pa6 : Arv Z h0 b1064 k1067 (.object cNA) (16 : Int32) nN16 .null) (Pa7 : f7_ Z h0 b1038 u2_) (Pa8 : f11_ Z h0 b1038 (.ref b1065)) (Pa9 : Arv Z h0 b1065 k1068 .int (16 : Int32) ((.int l13_) :: nZ15) (.int 0)) (Pa10 : f8_ Z h0 b1038 (.int z_)) (Pa11 : OvrA Z k1066 (.object cJV) cAJ) (Pa12 : Ovr Z k1067 cNA) (ne_b1063_b1038 : b1063 ≠ b1038) (ne_b1064_b1038 : b1064 ≠ b1038) (ne_b1065_b1038 : b1065 ≠ b1038) (ne_b1064_b1063 : b1064 ≠ b1063) (g_b1038 : n0 ≤ b1038) (g_b1063 : n0 ≤ b1063) (g_b1064 : n0 ≤ b1064) :
  Meets1 l ym76 B58_ 1 none ws (mkR 0 0 0 0) #[(.ref b1038)] Z h0 (fun v h L => v = none ∧ Fr n0 L ∧ Keep h0 h [b1038, b1063, b1064] ∧ f5_ Z h b1038 (.int 1) ∧ f9_ Z h b1038 (.ref b1063) ∧ Arv Z h b1063 k1066 (.array (.object cJV)) (16 : Int32) nN16 .null ∧ f6_ Z h b1038 (.ref b1023) ∧ f10_ Z h b1038 (.ref b1064) ∧ Arv Z h b1064 k1067 (.object cNA) (16 : Int32) nN16 .null ∧ f7_ Z h b1038 .null ∧ f11_ Z h b1038 (.ref b1065) ∧ f8_ Z h b1038 (.int l13_)) := by
 refine own_start n0 (plainFor_of_name pn56) (fun m => ef56_r m b1038) ?_
 intro p e s m below meth c s₁ hns hrt hZ hx hby hml hown hnm X0 e0 N0
 have K0 := Keep.refl h0 [b1038, b1063, b1064]
 refine walN X0 hx hby d56_0 rfl rfl ?_
 refine wdu X0 hx hby d56_1 rfl ?_
 refine wgf X0 hx hZ hown hw 429 rfl e0 Pa0 hby d56_2 ?_
 intro T1260 X1260 e1260
 refine wic X1260 hx hby d56_5 ?_
 refine wis X1260 hx hby d56_6 ?_
 refine wpf X1260 hx hZ hown hw 429 rfl e1260 Pa0 Pa1 430 rfl 394 rfl (ty := .int) (by decide) rfl rfl hby d56_7 ?_
 intro T1261 h1261 X1261 e1261 W1261
 have Fw1261 := Pa0.same W1261
 have K1261 := K0.wr W1261 (mi 0 rfl)
 have N1261 := Fr.snoc X1261 N0 g_b1038
 refine walN X1261 hx hby d56_10 rfl rfl ?_
 refine wgf X1261 hx hZ hown hw 429 rfl e1261 Fw1261 hby d56_11 ?_
 intro T1262 X1262 e1262
 refine win X1262 hx hby d56_14 ((if0 _ _).trans (tlt (by decide : (0 : Int32) < (1 : Int32))).2.2.2) ?_
 refine walN X1262 hx hby d56_17 rfl rfl ?_
 refine walN X1262 hx hby d56_18 rfl rfl ?_
 have c1263 := Pa2.other W1261 (sll hw 403 rfl 430 rfl)
 refine wgf X1262 hx hZ hown hw 402 rfl e1262 c1263 hby d56_19 ?_
 intro T1264 X1264 e1264
 refine walN X1264 hx hby d56_22 rfl rfl ?_
 refine wgf X1264 hx hZ hown hw 429 rfl e1264 Fw1261 hby d56_23 ?_
 intro T1265 X1265 e1265
 refine wic X1265 hx hby d56_26 ?_
 refine wis X1265 hx hby d56_27 ?_
 obtain ⟨cl1266, Ar1266, q1266, S1266, M1266, H1266, G1266⟩ := id (Pa3.other W1261 ne_b1063_b1038)
 have hin1266 := inb_of (j := (0 : Int32)) S1266 ⟨by decide, by decide⟩
 refine Ends.go (X1265.aaload hx (j := (0 : Int32)) (v := (.ref b1023)) (by rw [e1265]; exact Ar1266.1) (State.isArrayOf_alike hZ.alike Ar1266.2.1) rfl Ar1266.2.2 hin1266 (H1266.at hin1266 rfl) (g := (mkF m 28 #[cr b1038] [(.int 0), (.ref b1063), (.ref b1038)])) rfl rfl (hb hby d56_28)) ?_
 have c1267 := Pa4.other W1261 (sll hw 432 rfl 430 rfl)
 refine wpf X1265 hx hZ hown hw 431 rfl e1265 c1267 (Pa1.wr W1261) 432 rfl 394 rfl (ty := (.array (.object cJV))) (by decide) rfl rfl hby d56_29 ?_
 intro T1268 h1268 X1268 e1268 W1268
 have Fw1268 := c1267.same W1268
 have K1268 := K1261.wr W1268 (mi 0 rfl)
 have N1268 := Fr.snoc X1268 N1261 g_b1038
 refine walN X1268 hx hby d56_32 rfl rfl ?_
 refine walN X1268 hx hby d56_33 rfl rfl ?_
 have c1269 := (Pa5.other W1261 (sll hw 407 rfl 430 rfl)).other W1268 (sll hw 407 rfl 432 rfl)
 refine wgf X1268 hx hZ hown hw 406 rfl e1268 c1269 hby d56_34 ?_
 intro T1270 X1270 e1270
 refine walN X1270 hx hby d56_37 rfl rfl ?_
 have c1271 := Fw1261.other W1268 (sll hw 430 rfl 432 rfl)
 refine wgf X1270 hx hZ hown hw 429 rfl e1270 c1271 hby d56_38 ?_
 intro T1272 X1272 e1272
 refine wic X1272 hx hby d56_41 ?_
 refine wis X1272 hx hby d56_42 ?_
 have c1274 := (Pa6.other W1261 ne_b1064_b1038).other W1268 ne_b1064_b1038
 obtain ⟨cl1273, Ar1273, q1273, S1273, M1273, H1273, G1273⟩ := id c1274
 have hin1273 := inb_of (j := (0 : Int32)) S1273 ⟨by decide, by decide⟩
 refine Ends.go (X1272.aaload hx (j := (0 : Int32)) (v := .null) (by rw [e1272]; exact Ar1273.1) (State.isArrayOf_alike hZ.alike Ar1273.2.1) rfl Ar1273.2.2 hin1273 (H1273.at hin1273 rfl) (g := (mkF m 43 #[cr b1038] [(.int 0), (.ref b1064), (.ref b1038)])) rfl rfl (hb hby d56_43)) ?_
 have c1275 := (Pa7.other W1261 (sll hw 434 rfl 430 rfl)).other W1268 (sll hw 434 rfl 432 rfl)
 refine wpf X1272 hx hZ hown hw 433 rfl e1272 c1275 ((Pa1.wr W1261).wr W1268) 434 rfl 394 rfl (ty := (.object cNA)) (by decide) rfl rfl hby d56_44 ?_
 intro T1276 h1276 X1276 e1276 W1276
 have Fw1276 := c1275.same W1276
 have K1276 := K1268.wr W1276 (mi 0 rfl)
 have N1276 := Fr.snoc X1276 N1268 g_b1038
 refine walN X1276 hx hby d56_47 rfl rfl ?_
 refine walN X1276 hx hby d56_48 rfl rfl ?_
 show Ends _ _ _ _ T1276 (mkF m 49 #[cr b1038] [(.ref b1038), (.ref b1038)]) _ _ _
 have c1277 := ((Pa8.other W1261 (sll hw 410 rfl 430 rfl)).other W1268 (sll hw 410 rfl 432 rfl)).other W1276 (sll hw 410 rfl 434 rfl)
 refine wgf X1276 hx hZ hown hw 409 rfl e1276 c1277 hby d56_49 ?_
 intro T1278 X1278 e1278
 refine walN X1278 hx hby d56_52 rfl rfl ?_
 have c1279 := c1271.other W1276 (sll hw 430 rfl 434 rfl)
 refine wgf X1278 hx hZ hown hw 429 rfl e1278 c1279 hby d56_53 ?_
 intro T1280 X1280 e1280
 refine wic X1280 hx hby d56_56 ?_
 refine wis X1280 hx hby d56_57 ?_
 have c1282 := ((Pa9.other W1261 ne_b1065_b1038).other W1268 ne_b1065_b1038).other W1276 ne_b1065_b1038
 obtain ⟨cl1281, Ar1281, q1281, S1281, M1281, H1281, G1281⟩ := id c1282
 have hin1281 := inb_of (j := (0 : Int32)) S1281 ⟨by decide, by decide⟩
 refine Ends.go (X1280.iaload hx (j := (0 : Int32)) (v := (.int l13_)) (by rw [e1280]; exact Ar1281.1) (State.isArrayOf_alike hZ.alike Ar1281.2.1) Ar1281.2.2 hin1281 (H1281.at hin1281 rfl) (g := (mkF m 58 #[cr b1038] [(.int 0), (.ref b1065), (.ref b1038)])) rfl rfl (hb hby d56_58)) ?_
 have c1283 := ((Pa10.other W1261 (sll hw 436 rfl 430 rfl)).other W1268 (sll hw 436 rfl 432 rfl)).other W1276 (sll hw 436 rfl 434 rfl)
 refine wpf X1280 hx hZ hown hw 435 rfl e1280 c1283 (((Pa1.wr W1261).wr W1268).wr W1276) 436 rfl 394 rfl (ty := .int) (by decide) rfl rfl hby d56_59 ?_
 intro T1284 h1284 X1284 e1284 W1284
 have Fw1284 := c1283.same W1284
 have K1284 := K1276.wr W1284 (mi 0 rfl)
 have N1284 := Fr.snoc X1284 N1276 g_b1038
 refine walN X1284 hx hby d56_62 rfl rfl ?_
 have c1285 := ((c1263.other W1268 (sll hw 403 rfl 432 rfl)).other W1276 (sll hw 403 rfl 434 rfl)).other W1284 (sll hw 403 rfl 436 rfl)
 refine wgf X1284 hx hZ hown hw 402 rfl e1284 c1285 hby d56_63 ?_
 intro T1286 X1286 e1286
 refine walN X1286 hx hby d56_66 rfl rfl ?_
 have c1287 := c1279.other W1284 (sll hw 430 rfl 436 rfl)
 refine wgf X1286 hx hZ hown hw 429 rfl e1286 c1287 hby d56_67 ?_
 intro T1288 X1288 e1288
 refine wic X1288 hx hby d56_70 ?_
 refine wis X1288 hx hby d56_71 ?_
 refine wnu X1288 hx hby d56_72 ?_
 have c1290 := (((Pa3.other W1261 ne_b1063_b1038).other W1268 ne_b1063_b1038).other W1276 ne_b1063_b1038).other W1284 ne_b1063_b1038
 obtain ⟨cl1289, Ar1289, q1289, S1289, M1289, H1289, G1289⟩ := id c1290
 have hin1289 := inb_of (j := (0 : Int32)) S1289 ⟨by decide, by decide⟩
 obtain ⟨T1289, h1289, X1289, e1289, W1289, st1289⟩ := stR X1288 hx hZ e1288 Ar1289 (j := (0 : Int32)) hin1289 rfl (Or.inl rfl) (g := (mkF m 73 #[cr b1038] [.null, (.int 0), (.ref b1063)])) rfl rfl (hb hby d56_73)
 refine Ends.go st1289 ?_
 have V1289 : Arv Z h1289 b1063 k1066 (.array (.object cJV)) (16 : Int32) nN16 .null := Arv.set Ar1289 q1289 S1289 M1289 H1289 G1289 rfl W1289 0 rfl (Nat.le_of_ble_eq_true rfl)
 have K1289 := K1284.wr W1289 (mi 1 rfl)
 have N1289 := Fr.snoc X1289 N1284 g_b1063
 refine walN X1289 hx hby d56_74 rfl rfl ?_
 have c1291 := ((c1269.other W1276 (sll hw 407 rfl 434 rfl)).other W1284 (sll hw 407 rfl 436 rfl)).other W1289 (Or.inl (Ne.symm ne_b1063_b1038))
 refine wgf X1289 hx hZ hown hw 406 rfl e1289 c1291 hby d56_75 ?_
 intro T1292 X1292 e1292
 refine walN X1292 hx hby d56_78 rfl rfl ?_
 refine wgf X1292 hx hZ hown hw 429 rfl e1292 (c1287.other W1289 (Or.inl (Ne.symm ne_b1063_b1038))) hby d56_79 ?_
 intro T1293 X1293 e1293
 refine wic X1293 hx hby d56_82 ?_
 refine wis X1293 hx hby d56_83 ?_
 refine wnu X1293 hx hby d56_84 ?_
 have c1295 := ((c1274.other W1276 ne_b1064_b1038).other W1284 ne_b1064_b1038).other W1289 ne_b1064_b1063
 obtain ⟨cl1294, Ar1294, q1294, S1294, M1294, H1294, G1294⟩ := id c1295
 have hin1294 := inb_of (j := (0 : Int32)) S1294 ⟨by decide, by decide⟩
 obtain ⟨T1294, h1294, X1294, e1294, W1294, st1294⟩ := stR X1293 hx hZ e1293 Ar1294 (j := (0 : Int32)) hin1294 rfl (Or.inl rfl) (g := (mkF m 85 #[cr b1038] [.null, (.int 0), (.ref b1064)])) rfl rfl (hb hby d56_85)
 refine Ends.go st1294 ?_
 have V1294 : Arv Z h1294 b1064 k1067 (.object cNA) (16 : Int32) nN16 .null := Arv.set Ar1294 q1294 S1294 M1294 H1294 G1294 rfl W1294 0 rfl (Nat.le_of_ble_eq_true rfl)
 have K1294 := K1289.wr W1294 (mi 2 rfl)
 have N1294 := Fr.snoc X1294 N1289 g_b1064
 refine wgo (pc := 86) (pc' := 99) X1294 hx hby d56_86 ?_
 refine Ends.retV X1294 hx hns hrt (hb hby d56_99) (by decide) (by decide) ?_
 rw [e1294]
 have c1296 := (c1287.other W1289 (Or.inl (Ne.symm ne_b1063_b1038))).other W1294 (Or.inl (Ne.symm ne_b1064_b1038))
 have c1297 := (c1285.other W1289 (Or.inl (Ne.symm ne_b1063_b1038))).other W1294 (Or.inl (Ne.symm ne_b1064_b1038))
 have c1298 := (((Fw1268.other W1276 (sll hw 432 rfl 434 rfl)).other W1284 (sll hw 432 rfl 436 rfl)).other W1289 (Or.inl (Ne.symm ne_b1063_b1038))).other W1294 (Or.inl (Ne.symm ne_b1064_b1038))
 have c1299 := ((Fw1276.other W1284 (sll hw 434 rfl 436 rfl)).other W1289 (Or.inl (Ne.symm ne_b1063_b1038))).other W1294 (Or.inl (Ne.symm ne_b1064_b1038))
 have c1300 := ((c1277.other W1284 (sll hw 410 rfl 436 rfl)).other W1289 (Or.inl (Ne.symm ne_b1063_b1038))).other W1294 (Or.inl (Ne.symm ne_b1064_b1038))
 have c1301 := (Fw1284.other W1289 (Or.inl (Ne.symm ne_b1063_b1038))).other W1294 (Or.inl (Ne.symm ne_b1064_b1038))
 exact ⟨rfl, N1294, K1294, c1296, c1297, (V1289.other W1294 (Ne.symm ne_b1064_b1063)), c1298, (c1291.other W1294 (Or.inl (Ne.symm ne_b1064_b1038))), V1294, c1299, c1300, c1301⟩

theorem rx56_1310 (l : Launch) (Z : State) (a0 : Array Value) (hw : HW a0 Z) (ws : List Jvm.Cond) (n0 : Nat) (h0 : Heap) (O0 : Old Z n0 h0)  (b1038 : Addr) (b1063 : Addr) (k1066 : ClassId) (x0_ : Value) (b1014 : Addr) (u1_ : Value) (b1064 : Addr) (k1067 : ClassId) (y0_ : Value) (b1017 : Addr) (u2_ : Value) (b1065 : Addr) (k1068 : ClassId) (z0_ : Int32) (l14_ : Int32) (z_ : Int32) (Pa0 : f5_ Z h0 b1038 (.int 3)) (Pa1 : Exa Z h0 b1038 cWK) (Pa2 : f9_ Z h0 b1038 (.ref b1063)) (Pa3 : Arv Z h0 b1063 k1066 (.array (.object cJV)) (16 : Int32) (x0_ :: (.ref b1014) :: nN14) .null) (Pa4 : f6_ Z h0 b1038 u1_) (Pa5 : f10_ Z h0 b1038 (.ref b1064)) (Pa6 : Arv Z h0 b1064 k1067 (.object cNA) (16 : Int32) (y0_ :: (.ref b1017) :: nN14) .null) (Pa7 : f7_ Z h0 b1038 u2_) (Pa8 : f11_ Z h0 b1038 (.ref b1065)) (Pa9 : Arv Z h0 b1065 k1068 .int (16 : Int32) ((.int z0_) :: (.int l14_) :: nZ14) (.int 0)) (Pa10 : f8_ Z h0 b1038 (.int z_)) (Pa11 : OvrA Z k1066 (.object cJV) cAJ) (Pa12 : Ovr Z k1067 cNA) (ne_b1063_b1038 : b1063 ≠ b1038) (ne_b1064_b1038 : b1064 ≠ b1038) (ne_b1065_b1038 : b1065 ≠ b1038) (ne_b1064_b1063 : b1064 ≠ b1063) (g_b1038 : n0 ≤ b1038) (g_b1063 : n0 ≤ b1063) (g_b1064 : n0 ≤ b1064) :
  Meets1 l ym76 B58_ 1 none ws (mkR 0 0 0 0) #[(.ref b1038)] Z h0 (fun v h L => v = none ∧ Fr n0 L ∧ Keep h0 h [b1038, b1063, b1064] ∧ f5_ Z h b1038 (.int 2) ∧ f9_ Z h b1038 (.ref b1063) ∧ Arv Z h b1063 k1066 (.array (.object cJV)) (16 : Int32) (x0_ :: nN15) .null ∧ f6_ Z h b1038 (.ref b1014) ∧ f10_ Z h b1038 (.ref b1064) ∧ Arv Z h b1064 k1067 (.object cNA) (16 : Int32) (y0_ :: nN15) .null ∧ f7_ Z h b1038 (.ref b1017) ∧ f11_ Z h b1038 (.ref b1065) ∧ f8_ Z h b1038 (.int l14_)) := by
 refine own_start n0 (plainFor_of_name pn56) (fun m => ef56_r m b1038) ?_
 intro p e s m below meth c s₁ hns hrt hZ hx hby hml hown hnm X0 e0 N0
 have K0 := Keep.refl h0 [b1038, b1063, b1064]
 refine walN X0 hx hby d56_0 rfl rfl ?_
 refine wdu X0 hx hby d56_1 rfl ?_
 refine wgf X0 hx hZ hown hw 429 rfl e0 Pa0 hby d56_2 ?_
 intro T1311 X1311 e1311
 refine wic X1311 hx hby d56_5 ?_
 refine wis X1311 hx hby d56_6 ?_
 refine wpf X1311 hx hZ hown hw 429 rfl e1311 Pa0 Pa1 430 rfl 394 rfl (ty := .int) (by decide) rfl rfl hby d56_7 ?_
 intro T1312 h1312 X1312 e1312 W1312
 have Fw1312 := Pa0.same W1312
 have K1312 := K0.wr W1312 (mi 0 rfl)
 have N1312 := Fr.snoc X1312 N0 g_b1038
 refine walN X1312 hx hby d56_10 rfl rfl ?_
 refine wgf X1312 hx hZ hown hw 429 rfl e1312 Fw1312 hby d56_11 ?_
 intro T1313 X1313 e1313
 refine win X1313 hx hby d56_14 ((if0 _ _).trans (tlt (by decide : (0 : Int32) < (2 : Int32))).2.2.2) ?_
 refine walN X1313 hx hby d56_17 rfl rfl ?_
 refine walN X1313 hx hby d56_18 rfl rfl ?_
 have c1314 := Pa2.other W1312 (sll hw 403 rfl 430 rfl)
 refine wgf X1313 hx hZ hown hw 402 rfl e1313 c1314 hby d56_19 ?_
 intro T1315 X1315 e1315
 refine walN X1315 hx hby d56_22 rfl rfl ?_
 refine wgf X1315 hx hZ hown hw 429 rfl e1315 Fw1312 hby d56_23 ?_
 intro T1316 X1316 e1316
 refine wic X1316 hx hby d56_26 ?_
 refine wis X1316 hx hby d56_27 ?_
 obtain ⟨cl1317, Ar1317, q1317, S1317, M1317, H1317, G1317⟩ := id (Pa3.other W1312 ne_b1063_b1038)
 have hin1317 := inb_of (j := (1 : Int32)) S1317 ⟨by decide, by decide⟩
 refine Ends.go (X1316.aaload hx (j := (1 : Int32)) (v := (.ref b1014)) (by rw [e1316]; exact Ar1317.1) (State.isArrayOf_alike hZ.alike Ar1317.2.1) rfl Ar1317.2.2 hin1317 (H1317.at hin1317 rfl) (g := (mkF m 28 #[cr b1038] [(.int 1), (.ref b1063), (.ref b1038)])) rfl rfl (hb hby d56_28)) ?_
 have c1318 := Pa4.other W1312 (sll hw 432 rfl 430 rfl)
 refine wpf X1316 hx hZ hown hw 431 rfl e1316 c1318 (Pa1.wr W1312) 432 rfl 394 rfl (ty := (.array (.object cJV))) (by decide) rfl rfl hby d56_29 ?_
 intro T1319 h1319 X1319 e1319 W1319
 have Fw1319 := c1318.same W1319
 have K1319 := K1312.wr W1319 (mi 0 rfl)
 have N1319 := Fr.snoc X1319 N1312 g_b1038
 refine walN X1319 hx hby d56_32 rfl rfl ?_
 refine walN X1319 hx hby d56_33 rfl rfl ?_
 have c1320 := (Pa5.other W1312 (sll hw 407 rfl 430 rfl)).other W1319 (sll hw 407 rfl 432 rfl)
 refine wgf X1319 hx hZ hown hw 406 rfl e1319 c1320 hby d56_34 ?_
 intro T1321 X1321 e1321
 refine walN X1321 hx hby d56_37 rfl rfl ?_
 have c1322 := Fw1312.other W1319 (sll hw 430 rfl 432 rfl)
 refine wgf X1321 hx hZ hown hw 429 rfl e1321 c1322 hby d56_38 ?_
 intro T1323 X1323 e1323
 refine wic X1323 hx hby d56_41 ?_
 refine wis X1323 hx hby d56_42 ?_
 have c1325 := (Pa6.other W1312 ne_b1064_b1038).other W1319 ne_b1064_b1038
 obtain ⟨cl1324, Ar1324, q1324, S1324, M1324, H1324, G1324⟩ := id c1325
 have hin1324 := inb_of (j := (1 : Int32)) S1324 ⟨by decide, by decide⟩
 refine Ends.go (X1323.aaload hx (j := (1 : Int32)) (v := (.ref b1017)) (by rw [e1323]; exact Ar1324.1) (State.isArrayOf_alike hZ.alike Ar1324.2.1) rfl Ar1324.2.2 hin1324 (H1324.at hin1324 rfl) (g := (mkF m 43 #[cr b1038] [(.int 1), (.ref b1064), (.ref b1038)])) rfl rfl (hb hby d56_43)) ?_
 have c1326 := (Pa7.other W1312 (sll hw 434 rfl 430 rfl)).other W1319 (sll hw 434 rfl 432 rfl)
 refine wpf X1323 hx hZ hown hw 433 rfl e1323 c1326 ((Pa1.wr W1312).wr W1319) 434 rfl 394 rfl (ty := (.object cNA)) (by decide) rfl rfl hby d56_44 ?_
 intro T1327 h1327 X1327 e1327 W1327
 have Fw1327 := c1326.same W1327
 have K1327 := K1319.wr W1327 (mi 0 rfl)
 have N1327 := Fr.snoc X1327 N1319 g_b1038
 refine walN X1327 hx hby d56_47 rfl rfl ?_
 refine walN X1327 hx hby d56_48 rfl rfl ?_
 show Ends _ _ _ _ T1327 (mkF m 49 #[cr b1038] [(.ref b1038), (.ref b1038)]) _ _ _
 have c1328 := ((Pa8.other W1312 (sll hw 410 rfl 430 rfl)).other W1319 (sll hw 410 rfl 432 rfl)).other W1327 (sll hw 410 rfl 434 rfl)
 refine wgf X1327 hx hZ hown hw 409 rfl e1327 c1328 hby d56_49 ?_
 intro T1329 X1329 e1329
 refine walN X1329 hx hby d56_52 rfl rfl ?_
 have c1330 := c1322.other W1327 (sll hw 430 rfl 434 rfl)
 refine wgf X1329 hx hZ hown hw 429 rfl e1329 c1330 hby d56_53 ?_
 intro T1331 X1331 e1331
 refine wic X1331 hx hby d56_56 ?_
 refine wis X1331 hx hby d56_57 ?_
 have c1333 := ((Pa9.other W1312 ne_b1065_b1038).other W1319 ne_b1065_b1038).other W1327 ne_b1065_b1038
 obtain ⟨cl1332, Ar1332, q1332, S1332, M1332, H1332, G1332⟩ := id c1333
 have hin1332 := inb_of (j := (1 : Int32)) S1332 ⟨by decide, by decide⟩
 refine Ends.go (X1331.iaload hx (j := (1 : Int32)) (v := (.int l14_)) (by rw [e1331]; exact Ar1332.1) (State.isArrayOf_alike hZ.alike Ar1332.2.1) Ar1332.2.2 hin1332 (H1332.at hin1332 rfl) (g := (mkF m 58 #[cr b1038] [(.int 1), (.ref b1065), (.ref b1038)])) rfl rfl (hb hby d56_58)) ?_
 have c1334 := ((Pa10.other W1312 (sll hw 436 rfl 430 rfl)).other W1319 (sll hw 436 rfl 432 rfl)).other W1327 (sll hw 436 rfl 434 rfl)
 refine wpf X1331 hx hZ hown hw 435 rfl e1331 c1334 (((Pa1.wr W1312).wr W1319).wr W1327) 436 rfl 394 rfl (ty := .int) (by decide) rfl rfl hby d56_59 ?_
 intro T1335 h1335 X1335 e1335 W1335
 have Fw1335 := c1334.same W1335
 have K1335 := K1327.wr W1335 (mi 0 rfl)
 have N1335 := Fr.snoc X1335 N1327 g_b1038
 refine walN X1335 hx hby d56_62 rfl rfl ?_
 have c1336 := ((c1314.other W1319 (sll hw 403 rfl 432 rfl)).other W1327 (sll hw 403 rfl 434 rfl)).other W1335 (sll hw 403 rfl 436 rfl)
 refine wgf X1335 hx hZ hown hw 402 rfl e1335 c1336 hby d56_63 ?_
 intro T1337 X1337 e1337
 refine walN X1337 hx hby d56_66 rfl rfl ?_
 have c1338 := c1330.other W1335 (sll hw 430 rfl 436 rfl)
 refine wgf X1337 hx hZ hown hw 429 rfl e1337 c1338 hby d56_67 ?_
 intro T1339 X1339 e1339
 refine wic X1339 hx hby d56_70 ?_
 refine wis X1339 hx hby d56_71 ?_
 refine wnu X1339 hx hby d56_72 ?_
 have c1341 := (((Pa3.other W1312 ne_b1063_b1038).other W1319 ne_b1063_b1038).other W1327 ne_b1063_b1038).other W1335 ne_b1063_b1038
 obtain ⟨cl1340, Ar1340, q1340, S1340, M1340, H1340, G1340⟩ := id c1341
 have hin1340 := inb_of (j := (1 : Int32)) S1340 ⟨by decide, by decide⟩
 obtain ⟨T1340, h1340, X1340, e1340, W1340, st1340⟩ := stR X1339 hx hZ e1339 Ar1340 (j := (1 : Int32)) hin1340 rfl (Or.inl rfl) (g := (mkF m 73 #[cr b1038] [.null, (.int 1), (.ref b1063)])) rfl rfl (hb hby d56_73)
 refine Ends.go st1340 ?_
 have V1340 : Arv Z h1340 b1063 k1066 (.array (.object cJV)) (16 : Int32) (x0_ :: nN15) .null := Arv.set Ar1340 q1340 S1340 M1340 H1340 G1340 rfl W1340 1 rfl (Nat.le_of_ble_eq_true rfl)
 have K1340 := K1335.wr W1340 (mi 1 rfl)
 have N1340 := Fr.snoc X1340 N1335 g_b1063
 refine walN X1340 hx hby d56_74 rfl rfl ?_
 have c1342 := ((c1320.other W1327 (sll hw 407 rfl 434 rfl)).other W1335 (sll hw 407 rfl 436 rfl)).other W1340 (Or.inl (Ne.symm ne_b1063_b1038))
 refine wgf X1340 hx hZ hown hw 406 rfl e1340 c1342 hby d56_75 ?_
 intro T1343 X1343 e1343
 refine walN X1343 hx hby d56_78 rfl rfl ?_
 refine wgf X1343 hx hZ hown hw 429 rfl e1343 (c1338.other W1340 (Or.inl (Ne.symm ne_b1063_b1038))) hby d56_79 ?_
 intro T1344 X1344 e1344
 refine wic X1344 hx hby d56_82 ?_
 refine wis X1344 hx hby d56_83 ?_
 refine wnu X1344 hx hby d56_84 ?_
 have c1346 := ((c1325.other W1327 ne_b1064_b1038).other W1335 ne_b1064_b1038).other W1340 ne_b1064_b1063
 obtain ⟨cl1345, Ar1345, q1345, S1345, M1345, H1345, G1345⟩ := id c1346
 have hin1345 := inb_of (j := (1 : Int32)) S1345 ⟨by decide, by decide⟩
 obtain ⟨T1345, h1345, X1345, e1345, W1345, st1345⟩ := stR X1344 hx hZ e1344 Ar1345 (j := (1 : Int32)) hin1345 rfl (Or.inl rfl) (g := (mkF m 85 #[cr b1038] [.null, (.int 1), (.ref b1064)])) rfl rfl (hb hby d56_85)
 refine Ends.go st1345 ?_
 have V1345 : Arv Z h1345 b1064 k1067 (.object cNA) (16 : Int32) (y0_ :: nN15) .null := Arv.set Ar1345 q1345 S1345 M1345 H1345 G1345 rfl W1345 1 rfl (Nat.le_of_ble_eq_true rfl)
 have K1345 := K1340.wr W1345 (mi 2 rfl)
 have N1345 := Fr.snoc X1345 N1340 g_b1064
 refine wgo (pc := 86) (pc' := 99) X1345 hx hby d56_86 ?_
 refine Ends.retV X1345 hx hns hrt (hb hby d56_99) (by decide) (by decide) ?_
 rw [e1345]
 have c1347 := (c1338.other W1340 (Or.inl (Ne.symm ne_b1063_b1038))).other W1345 (Or.inl (Ne.symm ne_b1064_b1038))
 have c1348 := (c1336.other W1340 (Or.inl (Ne.symm ne_b1063_b1038))).other W1345 (Or.inl (Ne.symm ne_b1064_b1038))
 have c1349 := (((Fw1319.other W1327 (sll hw 432 rfl 434 rfl)).other W1335 (sll hw 432 rfl 436 rfl)).other W1340 (Or.inl (Ne.symm ne_b1063_b1038))).other W1345 (Or.inl (Ne.symm ne_b1064_b1038))
 have c1350 := ((Fw1327.other W1335 (sll hw 434 rfl 436 rfl)).other W1340 (Or.inl (Ne.symm ne_b1063_b1038))).other W1345 (Or.inl (Ne.symm ne_b1064_b1038))
 have c1351 := ((c1328.other W1335 (sll hw 410 rfl 436 rfl)).other W1340 (Or.inl (Ne.symm ne_b1063_b1038))).other W1345 (Or.inl (Ne.symm ne_b1064_b1038))
 have c1352 := (Fw1335.other W1340 (Or.inl (Ne.symm ne_b1063_b1038))).other W1345 (Or.inl (Ne.symm ne_b1064_b1038))
 exact ⟨rfl, N1345, K1345, c1347, c1348, (V1340.other W1345 (Ne.symm ne_b1064_b1063)), c1349, (c1342.other W1345 (Or.inl (Ne.symm ne_b1064_b1038))), V1345, c1350, c1351, c1352⟩

theorem rx56_1361 (l : Launch) (Z : State) (a0 : Array Value) (hw : HW a0 Z) (ws : List Jvm.Cond) (n0 : Nat) (h0 : Heap) (O0 : Old Z n0 h0)  (b1038 : Addr) (b1063 : Addr) (k1066 : ClassId) (x0_ : Value) (b1023 : Addr) (u1_ : Value) (b1064 : Addr) (k1067 : ClassId) (y0_ : Value) (u2_ : Value) (b1065 : Addr) (k1068 : ClassId) (z0_ : Int32) (l14_ : Int32) (z_ : Int32) (Pa0 : f5_ Z h0 b1038 (.int 3)) (Pa1 : Exa Z h0 b1038 cWK) (Pa2 : f9_ Z h0 b1038 (.ref b1063)) (Pa3 : Arv Z h0 b1063 k1066 (.array (.object cJV)) (16 : Int32) (x0_ :: (.ref b1023) :: nN14) .null) (Pa4 : f6_ Z h0 b1038 u1_) (Pa5 : f10_ Z h0 b1038 (.ref b1064)) (Pa6 : Arv Z h0 b1064 k1067 (.object cNA) (16 : Int32) (y0_ :: nN15) .null) (Pa7 : f7_ Z h0 b1038 u2_) (Pa8 : f11_ Z h0 b1038 (.ref b1065)) (Pa9 : Arv Z h0 b1065 k1068 .int (16 : Int32) ((.int z0_) :: (.int l14_) :: nZ14) (.int 0)) (Pa10 : f8_ Z h0 b1038 (.int z_)) (Pa11 : OvrA Z k1066 (.object cJV) cAJ) (Pa12 : Ovr Z k1067 cNA) (ne_b1063_b1038 : b1063 ≠ b1038) (ne_b1064_b1038 : b1064 ≠ b1038) (ne_b1065_b1038 : b1065 ≠ b1038) (ne_b1064_b1063 : b1064 ≠ b1063) (g_b1038 : n0 ≤ b1038) (g_b1063 : n0 ≤ b1063) (g_b1064 : n0 ≤ b1064) :
  Meets1 l ym76 B58_ 1 none ws (mkR 0 0 0 0) #[(.ref b1038)] Z h0 (fun v h L => v = none ∧ Fr n0 L ∧ Keep h0 h [b1038, b1063, b1064] ∧ f5_ Z h b1038 (.int 2) ∧ f9_ Z h b1038 (.ref b1063) ∧ Arv Z h b1063 k1066 (.array (.object cJV)) (16 : Int32) (x0_ :: nN15) .null ∧ f6_ Z h b1038 (.ref b1023) ∧ f10_ Z h b1038 (.ref b1064) ∧ Arv Z h b1064 k1067 (.object cNA) (16 : Int32) (y0_ :: nN15) .null ∧ f7_ Z h b1038 .null ∧ f11_ Z h b1038 (.ref b1065) ∧ f8_ Z h b1038 (.int l14_)) := by
 refine own_start n0 (plainFor_of_name pn56) (fun m => ef56_r m b1038) ?_
 intro p e s m below meth c s₁ hns hrt hZ hx hby hml hown hnm X0 e0 N0
 have K0 := Keep.refl h0 [b1038, b1063, b1064]
 refine walN X0 hx hby d56_0 rfl rfl ?_
 refine wdu X0 hx hby d56_1 rfl ?_
 refine wgf X0 hx hZ hown hw 429 rfl e0 Pa0 hby d56_2 ?_
 intro T1362 X1362 e1362
 refine wic X1362 hx hby d56_5 ?_
 refine wis X1362 hx hby d56_6 ?_
 refine wpf X1362 hx hZ hown hw 429 rfl e1362 Pa0 Pa1 430 rfl 394 rfl (ty := .int) (by decide) rfl rfl hby d56_7 ?_
 intro T1363 h1363 X1363 e1363 W1363
 have Fw1363 := Pa0.same W1363
 have K1363 := K0.wr W1363 (mi 0 rfl)
 have N1363 := Fr.snoc X1363 N0 g_b1038
 refine walN X1363 hx hby d56_10 rfl rfl ?_
 refine wgf X1363 hx hZ hown hw 429 rfl e1363 Fw1363 hby d56_11 ?_
 intro T1364 X1364 e1364
 refine win X1364 hx hby d56_14 ((if0 _ _).trans (tlt (by decide : (0 : Int32) < (2 : Int32))).2.2.2) ?_
 refine walN X1364 hx hby d56_17 rfl rfl ?_
 refine walN X1364 hx hby d56_18 rfl rfl ?_
 have c1365 := Pa2.other W1363 (sll hw 403 rfl 430 rfl)
 refine wgf X1364 hx hZ hown hw 402 rfl e1364 c1365 hby d56_19 ?_
 intro T1366 X1366 e1366
 refine walN X1366 hx hby d56_22 rfl rfl ?_
 refine wgf X1366 hx hZ hown hw 429 rfl e1366 Fw1363 hby d56_23 ?_
 intro T1367 X1367 e1367
 refine wic X1367 hx hby d56_26 ?_
 refine wis X1367 hx hby d56_27 ?_
 obtain ⟨cl1368, Ar1368, q1368, S1368, M1368, H1368, G1368⟩ := id (Pa3.other W1363 ne_b1063_b1038)
 have hin1368 := inb_of (j := (1 : Int32)) S1368 ⟨by decide, by decide⟩
 refine Ends.go (X1367.aaload hx (j := (1 : Int32)) (v := (.ref b1023)) (by rw [e1367]; exact Ar1368.1) (State.isArrayOf_alike hZ.alike Ar1368.2.1) rfl Ar1368.2.2 hin1368 (H1368.at hin1368 rfl) (g := (mkF m 28 #[cr b1038] [(.int 1), (.ref b1063), (.ref b1038)])) rfl rfl (hb hby d56_28)) ?_
 have c1369 := Pa4.other W1363 (sll hw 432 rfl 430 rfl)
 refine wpf X1367 hx hZ hown hw 431 rfl e1367 c1369 (Pa1.wr W1363) 432 rfl 394 rfl (ty := (.array (.object cJV))) (by decide) rfl rfl hby d56_29 ?_
 intro T1370 h1370 X1370 e1370 W1370
 have Fw1370 := c1369.same W1370
 have K1370 := K1363.wr W1370 (mi 0 rfl)
 have N1370 := Fr.snoc X1370 N1363 g_b1038
 refine walN X1370 hx hby d56_32 rfl rfl ?_
 refine walN X1370 hx hby d56_33 rfl rfl ?_
 have c1371 := (Pa5.other W1363 (sll hw 407 rfl 430 rfl)).other W1370 (sll hw 407 rfl 432 rfl)
 refine wgf X1370 hx hZ hown hw 406 rfl e1370 c1371 hby d56_34 ?_
 intro T1372 X1372 e1372
 refine walN X1372 hx hby d56_37 rfl rfl ?_
 have c1373 := Fw1363.other W1370 (sll hw 430 rfl 432 rfl)
 refine wgf X1372 hx hZ hown hw 429 rfl e1372 c1373 hby d56_38 ?_
 intro T1374 X1374 e1374
 refine wic X1374 hx hby d56_41 ?_
 refine wis X1374 hx hby d56_42 ?_
 have c1376 := (Pa6.other W1363 ne_b1064_b1038).other W1370 ne_b1064_b1038
 obtain ⟨cl1375, Ar1375, q1375, S1375, M1375, H1375, G1375⟩ := id c1376
 have hin1375 := inb_of (j := (1 : Int32)) S1375 ⟨by decide, by decide⟩
 refine Ends.go (X1374.aaload hx (j := (1 : Int32)) (v := .null) (by rw [e1374]; exact Ar1375.1) (State.isArrayOf_alike hZ.alike Ar1375.2.1) rfl Ar1375.2.2 hin1375 (H1375.at hin1375 rfl) (g := (mkF m 43 #[cr b1038] [(.int 1), (.ref b1064), (.ref b1038)])) rfl rfl (hb hby d56_43)) ?_
 have c1377 := (Pa7.other W1363 (sll hw 434 rfl 430 rfl)).other W1370 (sll hw 434 rfl 432 rfl)
 refine wpf X1374 hx hZ hown hw 433 rfl e1374 c1377 ((Pa1.wr W1363).wr W1370) 434 rfl 394 rfl (ty := (.object cNA)) (by decide) rfl rfl hby d56_44 ?_
 intro T1378 h1378 X1378 e1378 W1378
 have Fw1378 := c1377.same W1378
 have K1378 := K1370.wr W1378 (mi 0 rfl)
 have N1378 := Fr.snoc X1378 N1370 g_b1038
 refine walN X1378 hx hby d56_47 rfl rfl ?_
 refine walN X1378 hx hby d56_48 rfl rfl ?_
 show Ends _ _ _ _ T1378 (mkF m 49 #[cr b1038] [(.ref b1038), (.ref b1038)]) _ _ _
 have c1379 := ((Pa8.other W1363 (sll hw 410 rfl 430 rfl)).other W1370 (sll hw 410 rfl 432 rfl)).other W1378 (sll hw 410 rfl 434 rfl)
 refine wgf X1378 hx hZ hown hw 409 rfl e1378 c1379 hby d56_49 ?_
 intro T1380 X1380 e1380
 refine walN X1380 hx hby d56_52 rfl rfl ?_
 have c1381 := c1373.other W1378 (sll hw 430 rfl 434 rfl)
 refine wgf X1380 hx hZ hown hw 429 rfl e1380 c1381 hby d56_53 ?_
 intro T1382 X1382 e1382
 refine wic X1382 hx hby d56_56 ?_
 refine wis X1382 hx hby d56_57 ?_
 have c1384 := ((Pa9.other W1363 ne_b1065_b1038).other W1370 ne_b1065_b1038).other W1378 ne_b1065_b1038
 obtain ⟨cl1383, Ar1383, q1383, S1383, M1383, H1383, G1383⟩ := id c1384
 have hin1383 := inb_of (j := (1 : Int32)) S1383 ⟨by decide, by decide⟩
 refine Ends.go (X1382.iaload hx (j := (1 : Int32)) (v := (.int l14_)) (by rw [e1382]; exact Ar1383.1) (State.isArrayOf_alike hZ.alike Ar1383.2.1) Ar1383.2.2 hin1383 (H1383.at hin1383 rfl) (g := (mkF m 58 #[cr b1038] [(.int 1), (.ref b1065), (.ref b1038)])) rfl rfl (hb hby d56_58)) ?_
 have c1385 := ((Pa10.other W1363 (sll hw 436 rfl 430 rfl)).other W1370 (sll hw 436 rfl 432 rfl)).other W1378 (sll hw 436 rfl 434 rfl)
 refine wpf X1382 hx hZ hown hw 435 rfl e1382 c1385 (((Pa1.wr W1363).wr W1370).wr W1378) 436 rfl 394 rfl (ty := .int) (by decide) rfl rfl hby d56_59 ?_
 intro T1386 h1386 X1386 e1386 W1386
 have Fw1386 := c1385.same W1386
 have K1386 := K1378.wr W1386 (mi 0 rfl)
 have N1386 := Fr.snoc X1386 N1378 g_b1038
 refine walN X1386 hx hby d56_62 rfl rfl ?_
 have c1387 := ((c1365.other W1370 (sll hw 403 rfl 432 rfl)).other W1378 (sll hw 403 rfl 434 rfl)).other W1386 (sll hw 403 rfl 436 rfl)
 refine wgf X1386 hx hZ hown hw 402 rfl e1386 c1387 hby d56_63 ?_
 intro T1388 X1388 e1388
 refine walN X1388 hx hby d56_66 rfl rfl ?_
 have c1389 := c1381.other W1386 (sll hw 430 rfl 436 rfl)
 refine wgf X1388 hx hZ hown hw 429 rfl e1388 c1389 hby d56_67 ?_
 intro T1390 X1390 e1390
 refine wic X1390 hx hby d56_70 ?_
 refine wis X1390 hx hby d56_71 ?_
 refine wnu X1390 hx hby d56_72 ?_
 have c1392 := (((Pa3.other W1363 ne_b1063_b1038).other W1370 ne_b1063_b1038).other W1378 ne_b1063_b1038).other W1386 ne_b1063_b1038
 obtain ⟨cl1391, Ar1391, q1391, S1391, M1391, H1391, G1391⟩ := id c1392
 have hin1391 := inb_of (j := (1 : Int32)) S1391 ⟨by decide, by decide⟩
 obtain ⟨T1391, h1391, X1391, e1391, W1391, st1391⟩ := stR X1390 hx hZ e1390 Ar1391 (j := (1 : Int32)) hin1391 rfl (Or.inl rfl) (g := (mkF m 73 #[cr b1038] [.null, (.int 1), (.ref b1063)])) rfl rfl (hb hby d56_73)
 refine Ends.go st1391 ?_
 have V1391 : Arv Z h1391 b1063 k1066 (.array (.object cJV)) (16 : Int32) (x0_ :: nN15) .null := Arv.set Ar1391 q1391 S1391 M1391 H1391 G1391 rfl W1391 1 rfl (Nat.le_of_ble_eq_true rfl)
 have K1391 := K1386.wr W1391 (mi 1 rfl)
 have N1391 := Fr.snoc X1391 N1386 g_b1063
 refine walN X1391 hx hby d56_74 rfl rfl ?_
 have c1393 := ((c1371.other W1378 (sll hw 407 rfl 434 rfl)).other W1386 (sll hw 407 rfl 436 rfl)).other W1391 (Or.inl (Ne.symm ne_b1063_b1038))
 refine wgf X1391 hx hZ hown hw 406 rfl e1391 c1393 hby d56_75 ?_
 intro T1394 X1394 e1394
 refine walN X1394 hx hby d56_78 rfl rfl ?_
 refine wgf X1394 hx hZ hown hw 429 rfl e1394 (c1389.other W1391 (Or.inl (Ne.symm ne_b1063_b1038))) hby d56_79 ?_
 intro T1395 X1395 e1395
 refine wic X1395 hx hby d56_82 ?_
 refine wis X1395 hx hby d56_83 ?_
 refine wnu X1395 hx hby d56_84 ?_
 have c1397 := ((c1376.other W1378 ne_b1064_b1038).other W1386 ne_b1064_b1038).other W1391 ne_b1064_b1063
 obtain ⟨cl1396, Ar1396, q1396, S1396, M1396, H1396, G1396⟩ := id c1397
 have hin1396 := inb_of (j := (1 : Int32)) S1396 ⟨by decide, by decide⟩
 obtain ⟨T1396, h1396, X1396, e1396, W1396, st1396⟩ := stR X1395 hx hZ e1395 Ar1396 (j := (1 : Int32)) hin1396 rfl (Or.inl rfl) (g := (mkF m 85 #[cr b1038] [.null, (.int 1), (.ref b1064)])) rfl rfl (hb hby d56_85)
 refine Ends.go st1396 ?_
 have V1396 : Arv Z h1396 b1064 k1067 (.object cNA) (16 : Int32) (y0_ :: nN15) .null := Arv.set Ar1396 q1396 S1396 M1396 H1396 G1396 rfl W1396 1 rfl (Nat.le_of_ble_eq_true rfl)
 have K1396 := K1391.wr W1396 (mi 2 rfl)
 have N1396 := Fr.snoc X1396 N1391 g_b1064
 refine wgo (pc := 86) (pc' := 99) X1396 hx hby d56_86 ?_
 refine Ends.retV X1396 hx hns hrt (hb hby d56_99) (by decide) (by decide) ?_
 rw [e1396]
 have c1398 := (c1389.other W1391 (Or.inl (Ne.symm ne_b1063_b1038))).other W1396 (Or.inl (Ne.symm ne_b1064_b1038))
 have c1399 := (c1387.other W1391 (Or.inl (Ne.symm ne_b1063_b1038))).other W1396 (Or.inl (Ne.symm ne_b1064_b1038))
 have c1400 := (((Fw1370.other W1378 (sll hw 432 rfl 434 rfl)).other W1386 (sll hw 432 rfl 436 rfl)).other W1391 (Or.inl (Ne.symm ne_b1063_b1038))).other W1396 (Or.inl (Ne.symm ne_b1064_b1038))
 have c1401 := ((Fw1378.other W1386 (sll hw 434 rfl 436 rfl)).other W1391 (Or.inl (Ne.symm ne_b1063_b1038))).other W1396 (Or.inl (Ne.symm ne_b1064_b1038))
 have c1402 := ((c1379.other W1386 (sll hw 410 rfl 436 rfl)).other W1391 (Or.inl (Ne.symm ne_b1063_b1038))).other W1396 (Or.inl (Ne.symm ne_b1064_b1038))
 have c1403 := (Fw1386.other W1391 (Or.inl (Ne.symm ne_b1063_b1038))).other W1396 (Or.inl (Ne.symm ne_b1064_b1038))
 exact ⟨rfl, N1396, K1396, c1398, c1399, (V1391.other W1396 (Ne.symm ne_b1064_b1063)), c1400, (c1393.other W1396 (Or.inl (Ne.symm ne_b1064_b1038))), V1396, c1401, c1402, c1403⟩
theorem pn0 : plainName "com/example/ratatoskr/ratatoskr/WalkLeavePinLaw" = true := by first | (simp [plainName, overriddenIn]; done) | decide +kernel
theorem pdx_44 : parseMethodDescriptor "(Lcom/example/ratatoskr/ratatoskr/Walk;Lcom/example/ratatoskr/ratatoskr/JsonValue;I)V" = some ⟨[(.object "com/example/ratatoskr/ratatoskr/Walk"), (.object "com/example/ratatoskr/ratatoskr/JsonValue"), .int], none⟩ := by decide +kernel
theorem ef0_iiiii (m : MethodId) (x0 : Int32) (x1 : Int32) (x2 : Int32) (x3 : Int32) (x4 : Int32) : entryFrame m #[(.int x0), (.int x1), (.int x2), (.int x3), (.int x4)] maxLocals = mkF m 0 #[.val (.int x0), .val (.int x1), .val (.int x2), .val (.int x3), .val (.int x4), .unset, .unset, .unset, .unset, .unset, .unset, .unset, .unset, .unset, .unset, .unset, .unset, .unset, .unset, .unset, .unset] [] := by first | (simp [entryFrame, mkF, argsToLocals, Value.category, maxLocals]; done) | rfl
theorem rm0 (l : Launch) (Z : State) (a0 : Array Value) (hw : HW a0 Z) (ws : List Jvm.Cond) (n0 : Nat) (h0 : Heap) (O0 : Old Z n0 h0) (p0 : Int32) (p1 : Int32) (p2 : Int32) (p3 : Int32) (p4 : Int32) (G1 : Int32) (w_EMPTY : Addr) (GF : GlobF Z G1 w_EMPTY) :
  Meets1W l x code maxLocals ret ws room_1 #[(.int p0), (.int p1), (.int p2), (.int p3), (.int p4)] Z h0 false (fun v h L => v = some (.int 1) ∧ Fr n0 L) := by
 refine MetFree.of_bodySF (plainFor_of_name pn0) hisR ?_
 intro p e s m args below meth c s₁ Bd hml0 hP hK
 obtain ⟨rfl, hZ, hh, hI⟩ := hP
 have hx := Bd.exec
 have hby := Bd.bytes
 have hml : c.maxLocals = 21 := hml0
 have hown : s.vm.findClass "com/example/ratatoskr/ratatoskr/WalkLeavePinLaw" = some m.cls := findClass_of_methodNamed Bd.named
 have X0 : Stand p l e room_1 s m #[(.int p0), (.int p1), (.int p2), (.int p3), (.int p4)] below meth c s₁ [] 0 0 := Stand.of_body Bd
 have e0 : s₁.heap = h0 := by rw [← hh, Bd.state]; rfl
 have N0 := Fr.nil n0
 have hS0 := own_since0 s
 have hk0 : s.heap.size ≤ h0.size := Nat.le_of_eq (congrArg Array.size hh)
 show EndsW _ _ _ _ s₁ (entryFrame m #[(.int p0), (.int p1), (.int p2), (.int p3), (.int p4)] maxLocals) room_1.cells room_1.slots (fun v h L => v = some (.int 1) ∧ Fr n0 L)
 refine EndsW.go (fun _ k => castTop (ef0_iiiii m p0 p1 p2 p3 p4) k) ?_
 have K0 := Keep.refl h0 []
 obtain ⟨SCS, P5, S_EMPTY, E_EMPTY⟩ := id GF
 obtain ⟨T584, X584, e584, st584⟩ := getS2 X0 hx hZ hown (host := "") (Or.inl (ow hw 0 rfl)) Via.refl e0 (S_EMPTY.ext O0.2) (g := (mkF m 0 #[ci p0, ci p1, ci p2, ci p3, ci p4, cu, cu, cu, cu, cu, cu, cu, cu, cu, cu, cu, cu, cu, cu, cu, cu] [])) rfl (hb hby at_0)
 refine EndsW.go st584 ?_
 refine wasW X584 hx hby at_3 (l' := #[ci p0, ci p1, ci p2, ci p3, ci p4, cr w_EMPTY, cu, cu, cu, cu, cu, cu, cu, cu, cu, cu, cu, cu, cu, cu, cu]) rfl rfl ?_
 refine wilW X584 hx hby at_5 rfl ?_
 refine wspW X584 hx hby at_7 ?_
 refine wanW X584 hx hby at_10 ?_
 refine .go (fun _ => XS.i2c X584.here hx rfl (hb hby at_11) rfl) ?_
 show EndsW _ _ _ _ T584 (mkF m 12 #[ci p0, ci p1, ci p2, ci p3, ci p4, cr w_EMPTY, cu, cu, cu, cu, cu, cu, cu, cu, cu, cu, cu, cu, cu, cu, cu] [(.int ((p4 &&& (255 : Int32)).toUInt32.toUInt16.toUInt32.toInt32))]) _ _ _
 generalize hcg : ((p4 &&& (255 : Int32)).toUInt32.toUInt16.toUInt32.toInt32) = c_
 have hc_ := own_rngc hcg
 show EndsW _ _ _ _ T584 (mkF m 12 #[ci p0, ci p1, ci p2, ci p3, ci p4, cr w_EMPTY, cu, cu, cu, cu, cu, cu, cu, cu, cu, cu, cu, cu, cu, cu, cu] [(.int c_)]) _ _ _
 refine wsbW X584 hx hZ hown hw hml rfl hby at_12 3 rfl 4 rfl 5 rfl 6 rfl (by decide) e584 (rx1_585 l Z a0 hw [] n0 h0 O0 G1 w_EMPTY GF c_ hc_) (by decide) (by decide) [(.int c_)] [] pdx_10 rfl rfl rfl (by decide) (by decide) rfl ?_
 intro _ T605 _ X605 hQ605
 obtain ⟨b606, b607, k608, rfl, N605q, K605c, hb605_b606, hb605_b607, hne605_b606_b607, Y605_0, Y605_1, Y605_2, Y605_3, Y605_4, Y605_5⟩ := hQ605
 have N605 := Fr.app N0 N605q
 have g_b606 : n0 ≤ b606 := Nat.le_trans (own_old_le O0) hb605_b606
 have sz_b606 : h0.size ≤ b606 := Nat.le_trans K0.1 hb605_b606
 obtain ⟨h605, e605⟩ : ∃ z, T605.heap = z := ⟨_, rfl⟩
 rw [e605] at K605c Y605_0 Y605_1 Y605_2 Y605_3 Y605_4 Y605_5
 have K605 := K0.trans K605c all0
 have O605 := O0.keep K605c all0
 refine wasW X605 hx hby at_15 (l' := #[ci p0, ci p1, ci p2, ci p3, ci p4, cr w_EMPTY, cr b606, cu, cu, cu, cu, cu, cu, cu, cu, cu, cu, cu, cu, cu, cu]) rfl rfl ?_
 refine wsbW X605 hx hZ hown hw hml rfl hby at_17 29 rfl 30 rfl 31 rfl 32 rfl (by decide) e605 (rx6_609 l Z a0 hw [] n0 h605 O605   ) (by decide) (by decide) [] [] pdx_13 rfl rfl rfl (by decide) (by decide) rfl ?_
 intro _ T650 _ X650 hQ650
 obtain ⟨b651, b652, rfl, N650q, K650c, hb650_b651, hb650_b652, hne650_b651_b652, Y650_0, Y650_1, Y650_2, Y650_3, Y650_4, Y650_5, Y650_6, Y650_7, Y650_8, Y650_9, Y650_10, Y650_11, Y650_12, Y650_13⟩ := hQ650
 have N650 := Fr.app N605 N650q
 have g_b651 : n0 ≤ b651 := Nat.le_trans (own_old_le O605) hb650_b651
 have sz_b651 : h0.size ≤ b651 := Nat.le_trans K605.1 hb650_b651
 have g_b652 : n0 ≤ b652 := Nat.le_trans (own_old_le O605) hb650_b652
 have sz_b652 : h0.size ≤ b652 := Nat.le_trans K605.1 hb650_b652
 obtain ⟨h650, e650⟩ : ∃ z, T650.heap = z := ⟨_, rfl⟩
 rw [e650] at K650c Y650_0 Y650_1 Y650_2 Y650_3 Y650_4 Y650_5 Y650_6 Y650_7 Y650_8 Y650_9 Y650_10 Y650_11 Y650_12 Y650_13
 have K650 := K605.trans K650c all0
 have O650 := O605.keep K650c all0
 refine walW X650 hx hby at_20 rfl rfl ?_
 refine walW X650 hx hby at_22 rfl rfl ?_
 have ne_b606_b652 : b606 ≠ b652 := Nat.ne_of_lt (Nat.lt_of_lt_of_le Y605_0.lt hb650_b652)
 have ne_b606_b651 : b606 ≠ b651 := Nat.ne_of_lt (Nat.lt_of_lt_of_le Y605_0.lt hb650_b651)
 obtain ⟨cq798, kq798, q798a, q798b, q798c⟩ := isOf hZ e650 Y650_0
 obtain ⟨_, _, ⟨T798, L798, k798, n798⟩, -, X798, hSq798, hgq798, ⟨Lc798, hQ798, l798, y798, z798⟩, st798⟩ := X650.virtualBackS hx (y := ym33) (z := ym33) hown (ov hZ hw 70 rfl) (ov hZ hw 71 rfl) (notFace_of_selects (args := #[]) (ov hZ hw 73 rfl)) (ov hZ hw 73 rfl) (ov hZ hw 72 rfl) (by decide) (own_backOfS (W := 0) (rx11_653 l Z a0 hw [] n0 h650 O650 G1 w_EMPTY GF b651 b606 b652 b607 k608 c_ Y650_12 (Y605_2.keep K650c nin0) (Y605_0.keep K650c) (Y605_4.keep K650c nin0) (Y605_5.keep K650c nin0) (Y605_3.keep K650c nin0) (Y605_1.keep K650c nin0) Y650_5 Y650_6 Y650_1 Y650_2 Y650_3 Y650_4 Y650_7 Y650_8 Y650_9 Y650_10 Y650_11 Y650_0 Y650_13 hne605_b606_b607 (Ne.symm ne_b606_b652) hne650_b651_b652 (Ne.symm ne_b606_b651) g_b606 g_b652 g_b651) hZ (ow hw 74 rfl) (ow hw 35 rfl) (by decide) (by decide) (fun q_ => by cases q_)) q798a q798c (g := (mkF m 24 #[ci p0, ci p1, ci p2, ci p3, ci p4, cr w_EMPTY, cr b606, cu, cu, cu, cu, cu, cu, cu, cu, cu, cu, cu, cu, cu, cu] [(.ref w_EMPTY), (.ref b606), (.ref b651)])) rfl (by rw [hml]; rfl) (Steps.refl _) (argsL := [(.ref b606), (.ref w_EMPTY)]) (rest := []) (lenOf pdx_24 rfl) rfl (own_w rfl) (hb hby at_24) (fun _ _ => ⟨rfl, e650, (by decide : 4 + 6 ≤ _), (by decide : 19 + 66 ≤ _)⟩)
 dsimp only [Pt.U, Pt.locs, Pt.cells, Pt.slots] at X798 l798 y798 z798 st798 hQ798 hSq798 hgq798
 subst l798 y798 z798
 have hS798 := foldS hS0 (Nat.le_trans (Nat.le_trans (Nat.le_trans hk0 K605c.1) K650c.1) (Nat.le_of_eq (congrArg Array.size e650.symm))) hSq798 hgq798
 have hZ : Z.Warmed39 (s.setVm T798.vm).vm := State.Warmed39.trans (t := s.setVm s.vm) hZ hSq798.1
 have hown : (s.setVm T798.vm).vm.findClass "com/example/ratatoskr/ratatoskr/WalkLeavePinLaw" = some m.cls := by rw [show (s.setVm T798.vm).vm = T798.vm from rfl, hSq798.1.alike.findClass]; exact hown
 obtain ⟨b799, b800, r801, rfl, N798q, K798c, hb798_b799, hb798_b800, hne798_b799_b800, Y798_0, Y798_1, Y798_2, Y798_3, Y798_4, Y798_5, Y798_6, Y798_7, Y798_8, Y798_9, Y798_10, Y798_11, Y798_12, Y798_13, Y798_14, Y798_15, Y798_16, Y798_17⟩ := hQ798
 have N798 := Fr.app N650 N798q
 refine EndsW.go (fun _ k => st798.trans k) ?_
 obtain ⟨h798, e798⟩ : ∃ z, T798.heap = z := ⟨_, rfl⟩
 rw [e798] at K798c Y798_0 Y798_1 Y798_2 Y798_3 Y798_4 Y798_5 Y798_6 Y798_7 Y798_8 Y798_9 Y798_10 Y798_11 Y798_12 Y798_13 Y798_14 Y798_15 Y798_16 Y798_17
 have K798 := K650.trans K798c (allS (Or.inr sz_b652) (allS (Or.inr sz_b606) (allS (Or.inr sz_b651) all0)))
 have O798 := O650.keep K798c (allS g_b652 (allS g_b606 (allS g_b651 all0)))
 have ne_b652_b800 : b652 ≠ b800 := Nat.ne_of_lt (Nat.lt_of_lt_of_le Y650_1.lt hb798_b800)
 refine wvbW X798 hx hZ hown hw hml rfl hby at_27 181 rfl 182 rfl 184 rfl 183 rfl (by decide) e798 (Y650_0.keep K798c) (rx26_802 l Z a0 hw [] n0 h798 O798 G1 w_EMPTY GF b651 b652 b800 b799 b606 Y798_0 Y798_15 (Y650_1.keep K798c) Y798_16 Y798_7 Y798_8 Y798_9 Y798_10 Y798_11 Y798_12 Y798_13 Y798_14 Y798_1 Y798_6 Y798_3 ((Y605_0.keep K650c).keep K798c) Y798_4 Y798_17 (Ne.symm ne_b652_b800) hne650_b651_b652 g_b652) 185 rfl 35 rfl (by decide) (by decide) [] [] pdx_37 rfl rfl rfl (by decide) (by decide) rfl ?_
 intro _ T1012 _ X1012 hQ1012
 obtain ⟨b1013, b1014, b1015, b1016, b1017, b1018, b1019, k1020, k1021, k1022, rfl, N1012q, K1012c, hb1012_b1013, hb1012_b1014, hb1012_b1015, hb1012_b1016, hb1012_b1017, hb1012_b1018, hb1012_b1019, hne1012_b1013_b1014, hne1012_b1013_b1015, hne1012_b1013_b1016, hne1012_b1013_b1017, hne1012_b1013_b1018, hne1012_b1013_b1019, hne1012_b1014_b1015, hne1012_b1014_b1016, hne1012_b1014_b1017, hne1012_b1014_b1018, hne1012_b1014_b1019, hne1012_b1015_b1016, hne1012_b1015_b1017, hne1012_b1015_b1018, hne1012_b1015_b1019, hne1012_b1016_b1017, hne1012_b1016_b1018, hne1012_b1016_b1019, hne1012_b1017_b1018, hne1012_b1017_b1019, hne1012_b1018_b1019, Y1012_0, Y1012_1, Y1012_2, Y1012_3, Y1012_4, Y1012_5, Y1012_6, Y1012_7, Y1012_8, Y1012_9, Y1012_10, Y1012_11, Y1012_12, Y1012_13, Y1012_14, Y1012_15, Y1012_16, Y1012_17, Y1012_18, Y1012_19, Y1012_20, Y1012_21, Y1012_22, Y1012_23, Y1012_24, Y1012_25, Y1012_26, Y1012_27, Y1012_28, Y1012_29, Y1012_30, Y1012_31, Y1012_32, Y1012_33, Y1012_34, Y1012_35⟩ := hQ1012
 have N1012 := Fr.app N798 N1012q
 obtain ⟨h1012, e1012⟩ : ∃ z, T1012.heap = z := ⟨_, rfl⟩
 rw [e1012] at K1012c Y1012_0 Y1012_2 Y1012_4 Y1012_5 Y1012_6 Y1012_7 Y1012_8 Y1012_9 Y1012_10 Y1012_11 Y1012_12 Y1012_13 Y1012_14 Y1012_15 Y1012_16 Y1012_17 Y1012_18 Y1012_19 Y1012_20 Y1012_21 Y1012_22 Y1012_23 Y1012_24 Y1012_26 Y1012_27 Y1012_28 Y1012_29 Y1012_30 Y1012_31 Y1012_32 Y1012_33 Y1012_34 Y1012_35
 have K1012 := K798.trans K1012c (allS (Or.inr sz_b652) all0)
 have O1012 := O798.keep K1012c (allS g_b652 all0)
 refine wasW X1012 hx hby at_30 (l' := #[ci p0, ci p1, ci p2, ci p3, ci p4, cr w_EMPTY, cr b606, cr b1019, cu, cu, cu, cu, cu, cu, cu, cu, cu, cu, cu, cu, cu]) rfl rfl ?_
 refine wicW X1012 hx hby at_32 ?_
 obtain ⟨T1023, h1023, k1023, X1023, e1023, E1023, A1023, Ex1023, O1023v, st1023⟩ := newRE X1012 hx hZ hown (ow hw 375 rfl) (ow hw 197 rfl) e1012 (g := (mkF m 33 #[ci p0, ci p1, ci p2, ci p3, ci p4, cr w_EMPTY, cr b606, cr b1019, cu, cu, cu, cu, cu, cu, cu, cu, cu, cu, cu, cu, cu] [(.int 2)])) rfl (hb hby at_33) rfl (by decide) (cap := 2) (by decide) (by decide) (by decide) (by decide) (ad := cAJ) (by decide)
 obtain ⟨b1023, g1023⟩ : ∃ z, z = h1012.size := ⟨_, rfl⟩
 rw [← g1023] at A1023 st1023 Ex1023
 refine EndsW.go st1023 ?_
 have g_b1023 : n0 ≤ b1023 := Nat.le_trans (own_old_le O1012) (Nat.le_of_eq g1023.symm)
 have sz_b1023 : h0.size ≤ b1023 := Nat.le_trans K1012.1 (Nat.le_of_eq g1023.symm)
 have K1023 := K1012.ext E1023
 have O1023 := O1012.ext E1023
 have V_b1023 : Arv Z h1023 b1023 k1023 (.object cJV) (2 : Int32) [.null, .null] .null := (Arv.new A1023 (by decide)).pad (pad_rep [] .null 2)
 refine wduW X1023 hx hby at_36 rfl ?_
 refine wicW X1023 hx hby at_37 ?_
 refine walW X1023 hx hby at_38 rfl rfl ?_
 obtain ⟨cl1024, Ar1024, q1024, S1024, M1024, H1024, G1024⟩ := id V_b1023
 have hin1024 := inb_of (j := (0 : Int32)) S1024 ⟨by decide, by decide⟩
 obtain ⟨T1024, h1024, X1024, e1024, W1024, st1024⟩ := stR X1023 hx hZ e1023 Ar1024 (j := (0 : Int32)) hin1024 rfl (Sto.ofV Ar1024 q1024 O1023v (Ins.of_exa (E_EMPTY.ext O1023.2) (ow hw 322 rfl))) (g := (mkF m 40 #[ci p0, ci p1, ci p2, ci p3, ci p4, cr w_EMPTY, cr b606, cr b1019, cu, cu, cu, cu, cu, cu, cu, cu, cu, cu, cu, cu, cu] [(.ref w_EMPTY), (.int 0), (.ref b1023), (.ref b1023)])) rfl rfl (hb hby at_40)
 refine EndsW.go st1024 ?_
 have V1024 : Arv Z h1024 b1023 k1023 (.object cJV) (2 : Int32) [(.ref w_EMPTY), .null] .null := Arv.set Ar1024 q1024 S1024 M1024 H1024 G1024 rfl W1024 0 rfl (Nat.le_of_ble_eq_true rfl)
 have K1024 := K1023.wr W1024 (Or.inr sz_b1023)
 have O1024 := O1023.wr W1024 g_b1023
 have N1024 := Fr.snoc X1024 N1012 g_b1023
 refine wduW X1024 hx hby at_41 rfl ?_
 refine wicW X1024 hx hby at_42 ?_
 refine walW X1024 hx hby at_43 rfl rfl ?_
 obtain ⟨cl1025, Ar1025, q1025, S1025, M1025, H1025, G1025⟩ := id V1024
 have hin1025 := inb_of (j := (1 : Int32)) S1025 ⟨by decide, by decide⟩
 obtain ⟨T1025, h1025, X1025, e1025, W1025, st1025⟩ := stR X1024 hx hZ e1024 Ar1025 (j := (1 : Int32)) hin1025 rfl (Sto.ofV Ar1025 q1025 O1023v (Ins.of_exa ((Y1012_33.ext E1023).wr W1024) (ow hw 376 rfl))) (g := (mkF m 45 #[ci p0, ci p1, ci p2, ci p3, ci p4, cr w_EMPTY, cr b606, cr b1019, cu, cu, cu, cu, cu, cu, cu, cu, cu, cu, cu, cu, cu] [(.ref b1019), (.int 1), (.ref b1023), (.ref b1023)])) rfl rfl (hb hby at_45)
 refine EndsW.go st1025 ?_
 have V1025 : Arv Z h1025 b1023 k1023 (.object cJV) (2 : Int32) [(.ref w_EMPTY), (.ref b1019)] .null := Arv.set Ar1025 q1025 S1025 M1025 H1025 G1025 rfl W1025 1 rfl (Nat.le_of_ble_eq_true rfl)
 have K1025 := K1024.wr W1025 (Or.inr sz_b1023)
 have O1025 := O1024.wr W1025 g_b1023
 have N1025 := Fr.snoc X1025 N1024 g_b1023
 refine wsbW X1025 hx hZ hown hw hml rfl hby at_46 377 rfl 378 rfl 1 rfl 379 rfl (by decide) e1025 (rx49_1026 l Z a0 hw [] n0 h1025 O1025  b1023 k1023 b1019 V1025) (by decide) (by decide) [(.ref b1023)] [] pdx_39 rfl rfl rfl (by decide) (by decide) rfl ?_
 intro _ T1033 _ X1033 hQ1033
 obtain ⟨b1034, rfl, N1033q, K1033c, hb1033_b1034, Y1033_0, Y1033_1⟩ := hQ1033
 have N1033 := Fr.app N1025 N1033q
 obtain ⟨h1033, e1033⟩ : ∃ z, T1033.heap = z := ⟨_, rfl⟩
 rw [e1033] at K1033c Y1033_0 Y1033_1
 have K1033 := K1025.trans K1033c all0
 have O1033 := O1025.keep K1033c all0
 refine wasW X1033 hx hby at_49 (l' := #[ci p0, ci p1, ci p2, ci p3, ci p4, cr w_EMPTY, cr b606, cr b1019, cr b1034, cu, cu, cu, cu, cu, cu, cu, cu, cu, cu, cu, cu]) rfl rfl ?_
 refine wilNW X1033 hx hby at_51 rfl ?_
 show EndsW _ _ _ _ T1033 (mkF m 52 #[ci p0, ci p1, ci p2, ci p3, ci p4, cr w_EMPTY, cr b606, cr b1019, cr b1034, cu, cu, cu, cu, cu, cu, cu, cu, cu, cu, cu, cu] [(.int p0)]) _ _ _
 refine wicW X1033 hx hby at_52 ?_
 refine wanW X1033 hx hby at_53 ?_
 refine wicW X1033 hx hby at_54 ?_
 refine wirW X1033 hx hby at_55 (by decide) ?_
 refine wicW X1033 hx hby at_56 ?_
 refine wiaW X1033 hx hby at_57 ?_
 show EndsW _ _ _ _ T1033 (mkF m 58 #[ci p0, ci p1, ci p2, ci p3, ci p4, cr w_EMPTY, cr b606, cr b1019, cr b1034, cu, cu, cu, cu, cu, cu, cu, cu, cu, cu, cu, cu] [(.int (((p0 &&& (3 : Int32)) % (3 : Int32)) + (1 : Int32)))]) _ _ _
 generalize hng : (((p0 &&& (3 : Int32)) % (3 : Int32)) + (1 : Int32)) = n_
 have hn := own_n3 p0 n_ hng
 show EndsW _ _ _ _ T1033 (mkF m 58 #[ci p0, ci p1, ci p2, ci p3, ci p4, cr w_EMPTY, cr b606, cr b1019, cr b1034, cu, cu, cu, cu, cu, cu, cu, cu, cu, cu, cu, cu] [(.int n_)]) _ _ _
 refine wstW X1033 hx hby at_58 (l' := #[ci p0, ci p1, ci p2, ci p3, ci p4, cr w_EMPTY, cr b606, cr b1019, cr b1034, ci n_, cu, cu, cu, cu, cu, cu, cu, cu, cu, cu, cu]) rfl ?_
 have J99 : ∀ (T9 : State) (h9 : Heap) (lcs : List Loc) (l10_ : Int32) (l11_ : Int32) (l12_ : Int32) (X9 : Stand p l e room_1 (s.setVm T798.vm) m #[(.int p0), (.int p1), (.int p2), (.int p3), (.int p4)] below meth c T9 lcs 19 107) (eT9 : T9.heap = h9) (O9 : Old Z n0 h9) (N9 : Fr n0 lcs) (K9 : Keep h0 h9 []) (hk_9 : T798.heap.size ≤ h9.size) (Q9_0 : Exa Z h9 b606 cST) (Q9_1 : Exa Z h9 b1019 cJO) (Q9_2 : f4_ Z h9 b1019 (.ref b1017)) (Q9_3 : f3_ Z h9 b1019 (.ref b1014)) (Q9_4 : Exa Z h9 b1017 cNA) (Q9_5 : f34_ Z h9 b1017 (.ref b1018)) (Q9_6 : Arv Z h9 b1018 k1022 (.object cST) (1 : Int32) [(.ref b606)] .null) (Q9_7 : Exa Z h9 b1014 cAJ) (Q9_8 : Arv Z h9 b1014 k1021 (.object cJV) (1 : Int32) [(.ref w_EMPTY)] .null) (Q9_9 : Exa Z h9 b1034 cJA) (Q9_10 : f12_ Z h9 b1034 (.ref b1023)) (Q9_11 : Exa Z h9 b1023 cAJ) (Q9_12 : Arv Z h9 b1023 k1023 (.object cJV) (2 : Int32) [(.ref w_EMPTY), (.ref b1019)] .null) (ho1 : (l10_ = 0 ∨ l10_ = 1)) (ho2 : (l11_ = 0 ∨ l11_ = 1)) (ho3 : (l12_ = 0 ∨ l12_ = 1)), EndsW p e below s T9 (mkF m 99 #[ci p0, ci p1, ci p2, ci p3, ci p4, cr w_EMPTY, cr b606, cr b1019, cr b1034, ci n_, ci l10_, ci l11_, cu, cu, cu, cu, cu, cu, cu, cu, cu] [(.int l12_)]) room_1.cells room_1.slots (fun v h L => v = some (.int 1) ∧ Fr n0 L) := by
  intro T9 h9 lcs l10_ l11_ l12_ X9 eT9 O9 N9 K9 hk_9 Q9_0 Q9_1 Q9_2 Q9_3 Q9_4 Q9_5 Q9_6 Q9_7 Q9_8 Q9_9 Q9_10 Q9_11 Q9_12 ho1 ho2 ho3
  show EndsW _ _ _ _ T9 (mkF m 99 #[ci p0, ci p1, ci p2, ci p3, ci p4, cr w_EMPTY, cr b606, cr b1019, cr b1034, ci n_, ci l10_, ci l11_, cu, cu, cu, cu, cu, cu, cu, cu, cu] [(.int l12_)]) _ _ _
  refine wstW X9 hx hby at_99 (l' := #[ci p0, ci p1, ci p2, ci p3, ci p4, cr w_EMPTY, cr b606, cr b1019, cr b1034, ci n_, ci l10_, ci l11_, ci l12_, cu, cu, cu, cu, cu, cu, cu, cu]) rfl ?_
  refine wilNW X9 hx hby at_101 rfl ?_
  refine wilW X9 hx hby at_102 rfl ?_
  refine wsbW X9 hx hZ hown hw hml rfl hby at_104 388 rfl 389 rfl 390 rfl 391 rfl (by decide) eT9 (rmPl l Z a0 hw [] n0 h9 O9 p1 l10_) (by decide) (by decide) [(.int p1), (.int l10_)] [] pdx_40 rfl rfl rfl (by decide) (by decide) rfl ?_
  intro _ T1035 _ X1035 hQ1035
  obtain ⟨r1035, rfl, N1035q, e1035q, hr1035⟩ := hQ1035
  have N1035 := Fr.app N9 N1035q
  refine wstW X1035 hx hby at_107 (l' := #[ci p0, ci p1, ci p2, ci p3, ci p4, cr w_EMPTY, cr b606, cr b1019, cr b1034, ci n_, ci l10_, ci l11_, ci l12_, ci r1035, cu, cu, cu, cu, cu, cu, cu]) rfl ?_
  refine wilNW X1035 hx hby at_109 rfl ?_
  refine wilW X1035 hx hby at_110 rfl ?_
  refine wsbW X1035 hx hZ hown hw hml rfl hby at_112 388 rfl 389 rfl 390 rfl 391 rfl (by decide) e1035q (rmPl l Z a0 hw [] n0 h9 O9 p2 l11_) (by decide) (by decide) [(.int p2), (.int l11_)] [] pdx_40 rfl rfl rfl (by decide) (by decide) rfl ?_
  intro _ T1036 _ X1036 hQ1036
  obtain ⟨r1036, rfl, N1036q, e1036q, hr1036⟩ := hQ1036
  have N1036 := Fr.app N1035 N1036q
  refine wstW X1036 hx hby at_115 (l' := #[ci p0, ci p1, ci p2, ci p3, ci p4, cr w_EMPTY, cr b606, cr b1019, cr b1034, ci n_, ci l10_, ci l11_, ci l12_, ci r1035, ci r1036, cu, cu, cu, cu, cu, cu]) rfl ?_
  refine wilNW X1036 hx hby at_117 rfl ?_
  refine wilW X1036 hx hby at_118 rfl ?_
  refine wsbW X1036 hx hZ hown hw hml rfl hby at_120 388 rfl 389 rfl 390 rfl 391 rfl (by decide) e1036q (rmPl l Z a0 hw [] n0 h9 O9 p3 l12_) (by decide) (by decide) [(.int p3), (.int l12_)] [] pdx_40 rfl rfl rfl (by decide) (by decide) rfl ?_
  intro _ T1037 _ X1037 hQ1037
  obtain ⟨r1037, rfl, N1037q, e1037q, hr1037⟩ := hQ1037
  have N1037 := Fr.app N1036 N1037q
  refine wstW X1037 hx hby at_123 (l' := #[ci p0, ci p1, ci p2, ci p3, ci p4, cr w_EMPTY, cr b606, cr b1019, cr b1034, ci n_, ci l10_, ci l11_, ci l12_, ci r1035, ci r1036, ci r1037, cu, cu, cu, cu, cu]) rfl ?_
  obtain ⟨T1038, h1038, X1038, e1038, E1038, A1038, D1038, -, st1038⟩ := newO X1037 hx hZ hown (ow hw 393 rfl) (ow hw 394 rfl) (ow hw 395 rfl) e1037q (g := (mkF m 125 #[ci p0, ci p1, ci p2, ci p3, ci p4, cr w_EMPTY, cr b606, cr b1019, cr b1034, ci n_, ci l10_, ci l11_, ci l12_, ci r1035, ci r1036, ci r1037, cu, cu, cu, cu, cu] [])) rfl (hb hby at_125) (by decide) (by decide)
  obtain ⟨b1038, g1038⟩ : ∃ z, z = h9.size := ⟨_, rfl⟩
  rw [← g1038] at A1038 D1038 st1038
  refine EndsW.go st1038 ?_
  have g_b1038 : n0 ≤ b1038 := Nat.le_trans (own_old_le O9) (Nat.le_of_eq g1038.symm)
  have sz_b1038 : h0.size ≤ b1038 := Nat.le_trans K9.1 (Nat.le_of_eq g1038.symm)
  have K1038 := K9.ext E1038
  have O1038 := O9.ext E1038
  have F_outerValues_b1038 : f9_ Z h1038 b1038 .null := D1038 (Or.inl (ow hw 403 rfl)) (ty := (.array (.array (.object cJV)))) (by decide)
  have F_outerNames_b1038 : f10_ Z h1038 b1038 .null := D1038 (Or.inl (ow hw 407 rfl)) (ty := (.array (.object cNA))) (by decide)
  have F_outerPlaces_b1038 : f11_ Z h1038 b1038 .null := D1038 (Or.inl (ow hw 410 rfl)) (ty := (.array .int)) (by decide)
  have F_depth_b1038 : f5_ Z h1038 b1038 (.int 0) := D1038 (Or.inl (ow hw 430 rfl)) (ty := .int) (by decide)
  have F_values_b1038 : f6_ Z h1038 b1038 .null := D1038 (Or.inl (ow hw 432 rfl)) (ty := (.array (.object cJV))) (by decide)
  have F_names_b1038 : f7_ Z h1038 b1038 .null := D1038 (Or.inl (ow hw 434 rfl)) (ty := (.object cNA)) (by decide)
  have F_place_b1038 : f8_ Z h1038 b1038 (.int 0) := D1038 (Or.inl (ow hw 436 rfl)) (ty := .int) (by decide)
  refine wduW X1038 hx hby at_128 rfl ?_
  obtain ⟨_, _, ⟨T1062, L1062, k1062, n1062⟩, -, X1062, ⟨Lc1062, hQ1062, l1062, y1062, z1062⟩, st1062⟩ := X1038.specialBack hx (y := ym68) rfl hown (ov hZ hw 396 rfl) (ov hZ hw 397 rfl) (ov hZ hw 398 rfl) (by decide) (own_backOf (W := 1) (rx52_1039 l Z a0 hw [] n0 h1038 O1038  b1038 A1038 F_outerValues_b1038 F_outerNames_b1038 F_outerPlaces_b1038 F_depth_b1038 F_values_b1038 F_names_b1038 F_place_b1038 g_b1038) hZ (ow hw 398 rfl) (ow hw 395 rfl) (by decide) (by decide)) (g := (mkF m 129 #[ci p0, ci p1, ci p2, ci p3, ci p4, cr w_EMPTY, cr b606, cr b1019, cr b1034, ci n_, ci l10_, ci l11_, ci l12_, ci r1035, ci r1036, ci r1037, cu, cu, cu, cu, cu] [(.ref b1038), (.ref b1038)])) rfl (by rw [hml]; rfl) (Steps.refl _) (a := b1038) (argsL := []) (rest := [(.ref b1038)]) (lenOf pdx_11 rfl) rfl (own_w rfl) (hb hby at_129) (fun _ _ => ⟨rfl, e1038, (by decide : 20 + 3 ≤ _), (by decide : 114 + 48 ≤ _)⟩)
  dsimp only [Pt.U, Pt.locs, Pt.cells, Pt.slots] at X1062 l1062 y1062 z1062 st1062 hQ1062
  subst l1062 y1062 z1062
  obtain ⟨b1063, b1064, b1065, k1066, k1067, k1068, rfl, N1062q, K1062c, hb1062_b1063, hb1062_b1064, hb1062_b1065, hne1062_b1063_b1064, hne1062_b1063_b1065, hne1062_b1064_b1065, Y1062_0, Y1062_1, Y1062_2, Y1062_3, Y1062_4, Y1062_5, Y1062_6, Y1062_7, Y1062_8, Y1062_9, Y1062_10, Y1062_11⟩ := hQ1062
  have N1062 := Fr.app N1037 N1062q
  refine EndsW.go (fun _ k => st1062.trans k) ?_
  have g_b1063 : n0 ≤ b1063 := Nat.le_trans (own_old_le O1038) hb1062_b1063
  have sz_b1063 : h0.size ≤ b1063 := Nat.le_trans K1038.1 hb1062_b1063
  have g_b1064 : n0 ≤ b1064 := Nat.le_trans (own_old_le O1038) hb1062_b1064
  have sz_b1064 : h0.size ≤ b1064 := Nat.le_trans K1038.1 hb1062_b1064
  have g_b1065 : n0 ≤ b1065 := Nat.le_trans (own_old_le O1038) hb1062_b1065
  have sz_b1065 : h0.size ≤ b1065 := Nat.le_trans K1038.1 hb1062_b1065
  obtain ⟨h1062, e1062⟩ : ∃ z, T1062.heap = z := ⟨_, rfl⟩
  rw [e1062] at K1062c Y1062_0 Y1062_2 Y1062_3 Y1062_5 Y1062_6 Y1062_7 Y1062_8 Y1062_9 Y1062_10 Y1062_11
  have K1062 := K1038.trans K1062c (allS (Or.inr sz_b1038) all0)
  have O1062 := O1038.keep K1062c (allS g_b1038 all0)
  refine wasW X1062 hx hby at_132 (l' := #[ci p0, ci p1, ci p2, ci p3, ci p4, cr w_EMPTY, cr b606, cr b1019, cr b1034, ci n_, ci l10_, ci l11_, ci l12_, ci r1035, ci r1036, ci r1037, cr b1038, cu, cu, cu, cu]) rfl rfl ?_
  have ne_b1038_b1063 : b1038 ≠ b1063 := Nat.ne_of_lt (Nat.lt_of_lt_of_le A1038.lt hb1062_b1063)
  have ne_b1038_b1064 : b1038 ≠ b1064 := Nat.ne_of_lt (Nat.lt_of_lt_of_le A1038.lt hb1062_b1064)
  have ne_b1038_b1065 : b1038 ≠ b1065 := Nat.ne_of_lt (Nat.lt_of_lt_of_le A1038.lt hb1062_b1065)
  have ne_b1019_b1038 : b1019 ≠ b1038 := Nat.ne_of_lt (Nat.lt_of_lt_of_le Q9_1.lt (Nat.le_of_eq g1038.symm))
  have ne_b1017_b1038 : b1017 ≠ b1038 := Nat.ne_of_lt (Nat.lt_of_lt_of_le Q9_4.lt (Nat.le_of_eq g1038.symm))
  have ne_b1018_b1038 : b1018 ≠ b1038 := Nat.ne_of_lt (Nat.lt_of_lt_of_le Q9_6.lt (Nat.le_of_eq g1038.symm))
  have ne_b1014_b1038 : b1014 ≠ b1038 := Nat.ne_of_lt (Nat.lt_of_lt_of_le Q9_7.lt (Nat.le_of_eq g1038.symm))
  have ne_b1034_b1038 : b1034 ≠ b1038 := Nat.ne_of_lt (Nat.lt_of_lt_of_le Q9_9.lt (Nat.le_of_eq g1038.symm))
  have ne_b1023_b1038 : b1023 ≠ b1038 := Nat.ne_of_lt (Nat.lt_of_lt_of_le Q9_11.lt (Nat.le_of_eq g1038.symm))
  have ne_b1019_b1063 : b1019 ≠ b1063 := Nat.ne_of_lt (Nat.lt_of_lt_of_le (Q9_1.ext E1038).lt hb1062_b1063)
  have ne_b1017_b1063 : b1017 ≠ b1063 := Nat.ne_of_lt (Nat.lt_of_lt_of_le (Q9_4.ext E1038).lt hb1062_b1063)
  have ne_b1018_b1063 : b1018 ≠ b1063 := Nat.ne_of_lt (Nat.lt_of_lt_of_le (Q9_6.ext E1038).lt hb1062_b1063)
  have ne_b1014_b1063 : b1014 ≠ b1063 := Nat.ne_of_lt (Nat.lt_of_lt_of_le (Q9_7.ext E1038).lt hb1062_b1063)
  have ne_b1034_b1063 : b1034 ≠ b1063 := Nat.ne_of_lt (Nat.lt_of_lt_of_le (Q9_9.ext E1038).lt hb1062_b1063)
  have ne_b1023_b1063 : b1023 ≠ b1063 := Nat.ne_of_lt (Nat.lt_of_lt_of_le (Q9_11.ext E1038).lt hb1062_b1063)
  have ne_b1019_b1064 : b1019 ≠ b1064 := Nat.ne_of_lt (Nat.lt_of_lt_of_le (Q9_1.ext E1038).lt hb1062_b1064)
  have ne_b1017_b1064 : b1017 ≠ b1064 := Nat.ne_of_lt (Nat.lt_of_lt_of_le (Q9_4.ext E1038).lt hb1062_b1064)
  have ne_b1018_b1064 : b1018 ≠ b1064 := Nat.ne_of_lt (Nat.lt_of_lt_of_le (Q9_6.ext E1038).lt hb1062_b1064)
  have ne_b1014_b1064 : b1014 ≠ b1064 := Nat.ne_of_lt (Nat.lt_of_lt_of_le (Q9_7.ext E1038).lt hb1062_b1064)
  have ne_b1034_b1064 : b1034 ≠ b1064 := Nat.ne_of_lt (Nat.lt_of_lt_of_le (Q9_9.ext E1038).lt hb1062_b1064)
  have ne_b1023_b1064 : b1023 ≠ b1064 := Nat.ne_of_lt (Nat.lt_of_lt_of_le (Q9_11.ext E1038).lt hb1062_b1064)
  have ne_b1019_b1065 : b1019 ≠ b1065 := Nat.ne_of_lt (Nat.lt_of_lt_of_le (Q9_1.ext E1038).lt hb1062_b1065)
  have ne_b1017_b1065 : b1017 ≠ b1065 := Nat.ne_of_lt (Nat.lt_of_lt_of_le (Q9_4.ext E1038).lt hb1062_b1065)
  have ne_b1018_b1065 : b1018 ≠ b1065 := Nat.ne_of_lt (Nat.lt_of_lt_of_le (Q9_6.ext E1038).lt hb1062_b1065)
  have ne_b1014_b1065 : b1014 ≠ b1065 := Nat.ne_of_lt (Nat.lt_of_lt_of_le (Q9_7.ext E1038).lt hb1062_b1065)
  have ne_b1034_b1065 : b1034 ≠ b1065 := Nat.ne_of_lt (Nat.lt_of_lt_of_le (Q9_9.ext E1038).lt hb1062_b1065)
  have ne_b1023_b1065 : b1023 ≠ b1065 := Nat.ne_of_lt (Nat.lt_of_lt_of_le (Q9_11.ext E1038).lt hb1062_b1065)
  have NEW : own_NE b1038 b1063 b1064 b1065 b1019 b1017 b1014 b1034 b1023 := ⟨ne_b1038_b1063, ne_b1038_b1064, ne_b1038_b1065, (Ne.symm ne_b1019_b1038), (Ne.symm ne_b1017_b1038), (Ne.symm ne_b1014_b1038), (Ne.symm ne_b1034_b1038), (Ne.symm ne_b1023_b1038), hne1062_b1063_b1064, hne1062_b1063_b1065, (Ne.symm ne_b1019_b1063), (Ne.symm ne_b1017_b1063), (Ne.symm ne_b1014_b1063), (Ne.symm ne_b1034_b1063), (Ne.symm ne_b1023_b1063), hne1062_b1064_b1065, (Ne.symm ne_b1019_b1064), (Ne.symm ne_b1017_b1064), (Ne.symm ne_b1014_b1064), (Ne.symm ne_b1034_b1064), (Ne.symm ne_b1023_b1064), (Ne.symm ne_b1019_b1065), (Ne.symm ne_b1017_b1065), (Ne.symm ne_b1014_b1065), (Ne.symm ne_b1034_b1065), (Ne.symm ne_b1023_b1065)⟩
  have J266_o : ∀ (T8 : State) (h8 : Heap) (lcs : List Loc) (l9_ : Int32) (d_ : Int32) (p_ : Int32) (l10_ : Int32) (l11_ : Int32) (l12_ : Int32) (l13_ : Int32) (l14_ : Int32) (l15_ : Int32) (X8 : Stand p l e room_1 (s.setVm T798.vm) m #[(.int p0), (.int p1), (.int p2), (.int p3), (.int p4)] below meth c T8 lcs 23 162) (eT8 : T8.heap = h8) (O8 : Old Z n0 h8) (N8 : Fr n0 lcs) (K8 : Keep h0 h8 []) (hk_8 : T798.heap.size ≤ h8.size) (Q8_0 : Exa Z h8 b606 cST) (Q8_1 : Exa Z h8 b1019 cJO) (Q8_2 : f4_ Z h8 b1019 (.ref b1017)) (Q8_3 : f3_ Z h8 b1019 (.ref b1014)) (Q8_4 : Exa Z h8 b1017 cNA) (Q8_5 : f34_ Z h8 b1017 (.ref b1018)) (Q8_6 : Arv Z h8 b1018 k1022 (.object cST) (1 : Int32) [(.ref b606)] .null) (Q8_7 : Exa Z h8 b1014 cAJ) (Q8_8 : Arv Z h8 b1014 k1021 (.object cJV) (1 : Int32) [(.ref w_EMPTY)] .null) (Q8_9 : Exa Z h8 b1034 cJA) (Q8_10 : f12_ Z h8 b1034 (.ref b1023)) (Q8_11 : Exa Z h8 b1023 cAJ) (Q8_12 : Arv Z h8 b1023 k1023 (.object cJV) (2 : Int32) [(.ref w_EMPTY), (.ref b1019)] .null) (Q8_13 : Exa Z h8 b1038 cWK) (Q8_14 : f6_ Z h8 b1038 (.ref b1014)) (Q8_15 : f7_ Z h8 b1038 (.ref b1017)) (Q8_16 : f8_ Z h8 b1038 (.int p_)) (Q8_17 : f5_ Z h8 b1038 (.int d_)) (hp_ : (p_ = 0 ∨ p_ = 1)) (hdn : d_ = (l9_ - (1 : Int32))), EndsW p e below s T8 (mkF m 266 #[ci p0, ci p1, ci p2, ci p3, ci p4, cr w_EMPTY, cr b606, cr b1019, cr b1034, ci l9_, ci l10_, ci l11_, ci l12_, ci l13_, ci l14_, ci l15_, cr b1038, ci 1, ci p_, cu, cu] []) room_1.cells room_1.slots (fun v h L => v = some (.int 1) ∧ Fr n0 L) := by
   intro T8 h8 lcs l9_ d_ p_ l10_ l11_ l12_ l13_ l14_ l15_ X8 eT8 O8 N8 K8 hk_8 Q8_0 Q8_1 Q8_2 Q8_3 Q8_4 Q8_5 Q8_6 Q8_7 Q8_8 Q8_9 Q8_10 Q8_11 Q8_12 Q8_13 Q8_14 Q8_15 Q8_16 Q8_17 hp_ hdn
   rcases hp_ with rfl | rfl
   ·show EndsW _ _ _ _ T8 (mkF m 266 #[ci p0, ci p1, ci p2, ci p3, ci p4, cr w_EMPTY, cr b606, cr b1019, cr b1034, ci l9_, ci l10_, ci l11_, ci l12_, ci l13_, ci l14_, ci l15_, cr b1038, ci 1, ci 0, cu, cu] []) _ _ _
    refine wilW X8 hx hby at_266 rfl ?_
    refine winW X8 hx hby at_268 ((if0 _ _).trans (feq (by decide : ¬ ((1 : Int32) = (0 : Int32)))).1) ?_
    show EndsW _ _ _ _ T8 (mkF m 271 #[ci p0, ci p1, ci p2, ci p3, ci p4, cr w_EMPTY, cr b606, cr b1019, cr b1034, ci l9_, ci l10_, ci l11_, ci l12_, ci l13_, ci l14_, ci l15_, cr b1038, ci 1, ci 0, cu, cu] []) _ _ _
    refine wicW X8 hx hby at_271 ?_
    refine wgoW (pc := 272) (pc' := 276) X8 hx hby at_272 ?_
    refine wstW X8 hx hby at_276 (l' := #[ci p0, ci p1, ci p2, ci p3, ci p4, cr w_EMPTY, cr b606, cr b1019, cr b1034, ci l9_, ci l10_, ci l11_, ci l12_, ci l13_, ci l14_, ci l15_, cr b1038, ci 1, ci 0, ci 1, cu]) rfl ?_
    refine walW X8 hx hby at_278 rfl rfl ?_
    refine wvbW X8 hx hZ hown hw hml rfl hby at_280 442 rfl 443 rfl 445 rfl 444 rfl (by decide) eT8 Q8_13 (rx57_1069 l Z a0 hw [] n0 h8 O8  b1038 d_ Q8_17) 446 rfl 395 rfl (by decide) (by decide) [] [] pdx_2 rfl rfl rfl (by decide) (by decide) rfl ?_
    intro _ T1071 _ X1071 hQ1071
    obtain ⟨rfl, N1071q, K1071c⟩ := hQ1071
    have N1071 := Fr.app N8 N1071q
    obtain ⟨h1071, e1071⟩ : ∃ z, T1071.heap = z := ⟨_, rfl⟩
    rw [e1071] at K1071c
    have O1071 := O8.keep K1071c all0
    refine wilW X1071 hx hby at_283 rfl ?_
    refine wicW X1071 hx hby at_285 ?_
    refine wisW X1071 hx hby at_286 ?_
    refine wcnW X1071 hx hby at_287 (teq (hdn : d_ = (l9_ - (1 : Int32)))).2 ?_
    refine walW X1071 hx hby at_290 rfl rfl ?_
    refine wvbW X1071 hx hZ hown hw hml rfl hby at_292 447 rfl 448 rfl 450 rfl 449 rfl (by decide) e1071 (Q8_13.keep K1071c) (rx58_1072 l Z a0 hw [] n0 h1071 O1071  b1038 b1017 (Q8_15.keep K1071c nin0)) 451 rfl 395 rfl (by decide) (by decide) [] [] pdx_0 rfl rfl rfl (by decide) (by decide) rfl ?_
    intro _ T1074 _ X1074 hQ1074
    obtain ⟨rfl, N1074q, K1074c⟩ := hQ1074
    have N1074 := Fr.app N1071 N1074q
    obtain ⟨h1074, e1074⟩ : ∃ z, T1074.heap = z := ⟨_, rfl⟩
    rw [e1074] at K1074c
    have O1074 := O1071.keep K1074c all0
    refine wilW X1074 hx hby at_295 rfl ?_
    refine wcnW X1074 hx hby at_297 (teq (by decide : (1 : Int32) = (1 : Int32))).2 ?_
    refine walW X1074 hx hby at_300 rfl rfl ?_
    refine wvbW X1074 hx hZ hown hw hml rfl hby at_302 469 rfl 470 rfl 472 rfl 471 rfl (by decide) e1074 ((Q8_13.keep K1071c).keep K1074c) (rx62_1075 l Z a0 hw [] n0 h1074 O1074  b1038 ((Q8_16.keep K1071c nin0).keep K1074c nin0)) 473 rfl 395 rfl (by decide) (by decide) [] [] pdx_2 rfl rfl rfl (by decide) (by decide) rfl ?_
    intro _ T1077 _ X1077 hQ1077
    obtain ⟨rfl, N1077q, K1077c⟩ := hQ1077
    have N1077 := Fr.app N1074 N1077q
    obtain ⟨h1077, e1077⟩ : ∃ z, T1077.heap = z := ⟨_, rfl⟩
    rw [e1077] at K1077c
    have O1077 := O1074.keep K1077c all0
    refine wilW X1077 hx hby at_305 rfl ?_
    refine wicW X1077 hx hby at_307 ?_
    refine wisW X1077 hx hby at_308 ?_
    refine wcnW X1077 hx hby at_309 (teq (by decide : (-1 : Int32) = (-1 : Int32))).2 ?_
    refine walW X1077 hx hby at_312 rfl rfl ?_
    have c1082 := ((Q8_16.keep K1071c nin0).keep K1074c nin0).keep K1077c nin0
    have c1083 := ((Q8_14.keep K1071c nin0).keep K1074c nin0).keep K1077c nin0
    have c1084 := ((Q8_8.keep K1071c nin0).keep K1074c nin0).keep K1077c nin0
    refine wvbW X1077 hx hZ hown hw hml rfl hby at_314 474 rfl 475 rfl 477 rfl 476 rfl (by decide) e1077 (((Q8_13.keep K1071c).keep K1074c).keep K1077c) (rx63_1078 l Z a0 hw [] n0 h1077 O1077  b1038 b1014 k1021 c1082 c1083 c1084) 478 rfl 395 rfl (by decide) (by decide) [] [] pdx_0 rfl rfl rfl (by decide) (by decide) rfl ?_
    intro _ T1085 _ X1085 hQ1085
    obtain ⟨rfl, N1085q, K1085c⟩ := hQ1085
    have N1085 := Fr.app N1077 N1085q
    obtain ⟨h1085, e1085⟩ : ∃ z, T1085.heap = z := ⟨_, rfl⟩
    rw [e1085] at K1085c
    have O1085 := O1077.keep K1085c all0
    refine wilW X1085 hx hby at_317 rfl ?_
    refine wilW X1085 hx hby at_319 rfl ?_
    refine wcnW X1085 hx hby at_321 (tlt (by decide : (0 : Int32) < (1 : Int32))).2.1 ?_
    refine wicW X1085 hx hby at_324 ?_
    refine wgoW (pc := 325) (pc' := 329) X1085 hx hby at_325 ?_
    refine wcyW (pc := 329) (pc' := 334) X1085 hx hby at_329 (teq (by decide : (1 : Int32) = (1 : Int32))).1 ?_
    refine wilW X1085 hx hby at_334 rfl ?_
    refine wilW X1085 hx hby at_336 rfl ?_
    refine wcyW (pc := 338) (pc' := 343) X1085 hx hby at_338 (tlt (by decide : (0 : Int32) < (1 : Int32))).1 ?_
    show EndsW _ _ _ _ T1085 (mkF m 343 #[ci p0, ci p1, ci p2, ci p3, ci p4, cr w_EMPTY, cr b606, cr b1019, cr b1034, ci l9_, ci l10_, ci l11_, ci l12_, ci l13_, ci l14_, ci l15_, cr b1038, ci 1, ci 0, ci 1, cu] []) _ _ _
    refine wilW X1085 hx hby at_343 rfl ?_
    refine wiyW (pc := 345) (pc' := 353) X1085 hx hby at_345 ((if0 _ _).trans (feq (by decide : ¬ ((1 : Int32) = (0 : Int32)))).2) ?_
    refine walW X1085 hx hby at_353 rfl rfl ?_
    refine wgoW (pc := 355) (pc' := 360) X1085 hx hby at_355 ?_
    refine wasW X1085 hx hby at_360 (l' := #[ci p0, ci p1, ci p2, ci p3, ci p4, cr w_EMPTY, cr b606, cr b1019, cr b1034, ci l9_, ci l10_, ci l11_, ci l12_, ci l13_, ci l14_, ci l15_, cr b1038, ci 1, ci 0, ci 1, cr w_EMPTY]) rfl rfl ?_
    refine walW X1085 hx hby at_362 rfl rfl ?_
    have c1094 := (((Q8_13.keep K1071c).keep K1074c).keep K1077c).keep K1085c
    have c1095 := (((Q8_15.keep K1071c nin0).keep K1074c nin0).keep K1077c nin0).keep K1085c nin0
    have c1096 := (((Q8_17.keep K1071c nin0).keep K1074c nin0).keep K1077c nin0).keep K1085c nin0
    refine wvbW X1085 hx hZ hown hw hml rfl hby at_364 452 rfl 453 rfl 455 rfl 454 rfl (by decide) e1085 c1094 (rx59_1086 l Z a0 hw [] n0 h1085 O1085 G1 w_EMPTY GF b1038 b1014 k1021 b1017 d_ (c1083.keep K1085c nin0) (c1082.keep K1085c nin0) c1094 (c1084.keep K1085c nin0) c1095 c1096 ne_b1014_b1038 g_b1038) 456 rfl 395 rfl (by decide) (by decide) [] [] pdx_6 rfl rfl rfl (by decide) (by decide) rfl ?_
    intro _ T1097 _ X1097 hQ1097
    obtain ⟨rfl, N1097q, K1097c, Y1097_0, Y1097_1, Y1097_2, Y1097_3⟩ := hQ1097
    have N1097 := Fr.app N1085 N1097q
    obtain ⟨h1097, e1097⟩ : ∃ z, T1097.heap = z := ⟨_, rfl⟩
    rw [e1097] at K1097c Y1097_0 Y1097_1 Y1097_2 Y1097_3
    have O1097 := O1085.keep K1097c (allS g_b1038 all0)
    refine walW X1097 hx hby at_367 rfl rfl ?_
    refine .go (fun _ => Jvm.RoadKit.acmp (g := (mkF m 369 #[ci p0, ci p1, ci p2, ci p3, ci p4, cr w_EMPTY, cr b606, cr b1019, cr b1034, ci l9_, ci l10_, ci l11_, ci l12_, ci l13_, ci l14_, ci l15_, cr b1038, ci 1, ci 0, ci 1, cr w_EMPTY] [(.ref w_EMPTY), (.ref w_EMPTY)])) X1097 hx rfl rfl rfl (pc0 := 369) (pc' := 372) (same := true) rfl (hb hby at_369) rfl (decide_eq_true rfl) (by decide) (by decide)) ?_
    refine walW X1097 hx hby at_372 rfl rfl ?_
    refine wvbW X1097 hx hZ hown hw hml rfl hby at_374 469 rfl 470 rfl 472 rfl 471 rfl (by decide) e1097 (c1094.keep K1097c) (rx62_1098 l Z a0 hw [] n0 h1097 O1097  b1038 Y1097_1) 473 rfl 395 rfl (by decide) (by decide) [] [] pdx_2 rfl rfl rfl (by decide) (by decide) rfl ?_
    intro _ T1100 _ X1100 hQ1100
    obtain ⟨rfl, N1100q, K1100c⟩ := hQ1100
    have N1100 := Fr.app N1097 N1100q
    obtain ⟨h1100, e1100⟩ : ∃ z, T1100.heap = z := ⟨_, rfl⟩
    rw [e1100] at K1100c
    have O1100 := O1097.keep K1100c all0
    refine wilW X1100 hx hby at_377 rfl ?_
    refine wcyW (pc := 379) (pc' := 384) X1100 hx hby at_379 (teq (by decide : (0 : Int32) = (0 : Int32))).1 ?_
    refine wilW X1100 hx hby at_384 rfl ?_
    refine winW X1100 hx hby at_386 ((if0 _ _).trans (feq (by decide : ¬ ((1 : Int32) = (0 : Int32)))).1) ?_
    refine walW X1100 hx hby at_389 rfl rfl ?_
    have c1108 := (((((Q8_5.keep K1071c nin0).keep K1074c nin0).keep K1077c nin0).keep K1085c nin0).keep K1097c (ninS ne_b1017_b1038 nin0)).keep K1100c nin0
    have c1109 := (((((Q8_6.keep K1071c nin0).keep K1074c nin0).keep K1077c nin0).keep K1085c nin0).keep K1097c (ninS ne_b1018_b1038 nin0)).keep K1100c nin0
    have c1110 := (((((Q8_4.keep K1071c).keep K1074c).keep K1077c).keep K1085c).keep K1097c).keep K1100c
    refine wvbW X1100 hx hZ hown hw hml rfl hby at_391 480 rfl 481 rfl 483 rfl 482 rfl (by decide) e1100 ((c1094.keep K1097c).keep K1100c) (rx64_1101 l Z a0 hw [] n0 h1100 O1100  b1038 b1017 b1018 k1022 b606 (Y1097_2.keep K1100c nin0) (Y1097_1.keep K1100c nin0) c1108 c1109 c1110) 484 rfl 395 rfl (by decide) (by decide) [] [] pdx_42 rfl rfl rfl (by decide) (by decide) rfl ?_
    intro _ T1111 _ X1111 hQ1111
    obtain ⟨rfl, N1111q, K1111c⟩ := hQ1111
    have N1111 := Fr.app N1100 N1111q
    obtain ⟨h1111, e1111⟩ : ∃ z, T1111.heap = z := ⟨_, rfl⟩
    rw [e1111] at K1111c
    have O1111 := O1100.keep K1111c all0
    refine walW X1111 hx hby at_394 rfl rfl ?_
    have c1114 := ((((((Q8_0.keep K1071c).keep K1074c).keep K1077c).keep K1085c).keep K1097c).keep K1100c).keep K1111c
    refine wvbW X1111 hx hZ hown hw hml rfl hby at_396 490 rfl 491 rfl 493 rfl 492 rfl (by decide) e1111 c1114 (rx66_1112 l Z a0 hw [] n0 h1111 O1111  b606 ) 494 rfl 5 rfl (by decide) (by decide) [(.ref b606)] [] pdx_43 rfl rfl rfl (by decide) (by decide) rfl ?_
    intro _ T1113 _ X1113 hQ1113
    obtain ⟨rfl, N1113q, K1113c⟩ := hQ1113
    have N1113 := Fr.app N1111 N1113q
    obtain ⟨h1113, e1113⟩ : ∃ z, T1113.heap = z := ⟨_, rfl⟩
    rw [e1113] at K1113c
    refine winW X1113 hx hby at_399 ((if0 _ _).trans (feq (by decide : ¬ ((1 : Int32) = (0 : Int32)))).1) ?_
    refine wicW X1113 hx hby at_402 ?_
    refine wgoW (pc := 403) (pc' := 407) X1113 hx hby at_403 ?_
    refine EndsW.retZ (s := s) (vm := T798.vm) X1113 hx hS798 (Nat.le_trans (Nat.le_trans (Nat.le_trans (Nat.le_trans (Nat.le_trans (Nat.le_trans (Nat.le_trans (Nat.le_trans (Nat.le_trans hk_8 K1071c.1) K1074c.1) K1077c.1) K1085c.1) K1097c.1) K1100c.1) K1111c.1) K1113c.1) (Nat.le_of_eq (congrArg Array.size e1113.symm))) Bd.notSynchronized (t := .boolean) Bd.returns (by simp) (hb hby at_407) (by decide) (by decide) ?_
    exact ⟨rfl, N1113⟩
   ·show EndsW _ _ _ _ T8 (mkF m 266 #[ci p0, ci p1, ci p2, ci p3, ci p4, cr w_EMPTY, cr b606, cr b1019, cr b1034, ci l9_, ci l10_, ci l11_, ci l12_, ci l13_, ci l14_, ci l15_, cr b1038, ci 1, ci 1, cu, cu] []) _ _ _
    refine wilW X8 hx hby at_266 rfl ?_
    refine winW X8 hx hby at_268 ((if0 _ _).trans (feq (by decide : ¬ ((1 : Int32) = (0 : Int32)))).1) ?_
    refine wicW X8 hx hby at_271 ?_
    refine wgoW (pc := 272) (pc' := 276) X8 hx hby at_272 ?_
    refine wstW X8 hx hby at_276 (l' := #[ci p0, ci p1, ci p2, ci p3, ci p4, cr w_EMPTY, cr b606, cr b1019, cr b1034, ci l9_, ci l10_, ci l11_, ci l12_, ci l13_, ci l14_, ci l15_, cr b1038, ci 1, ci 1, ci 1, cu]) rfl ?_
    refine walW X8 hx hby at_278 rfl rfl ?_
    refine wvbW X8 hx hZ hown hw hml rfl hby at_280 442 rfl 443 rfl 445 rfl 444 rfl (by decide) eT8 Q8_13 (rx57_1069 l Z a0 hw [] n0 h8 O8  b1038 d_ Q8_17) 446 rfl 395 rfl (by decide) (by decide) [] [] pdx_2 rfl rfl rfl (by decide) (by decide) rfl ?_
    intro _ T1115 _ X1115 hQ1115
    obtain ⟨rfl, N1115q, K1115c⟩ := hQ1115
    have N1115 := Fr.app N8 N1115q
    obtain ⟨h1115, e1115⟩ : ∃ z, T1115.heap = z := ⟨_, rfl⟩
    rw [e1115] at K1115c
    have O1115 := O8.keep K1115c all0
    show EndsW _ _ _ _ T1115 (mkF m 283 #[ci p0, ci p1, ci p2, ci p3, ci p4, cr w_EMPTY, cr b606, cr b1019, cr b1034, ci l9_, ci l10_, ci l11_, ci l12_, ci l13_, ci l14_, ci l15_, cr b1038, ci 1, ci 1, ci 1, cu] [(.int d_)]) _ _ _
    refine wilW X1115 hx hby at_283 rfl ?_
    refine wicW X1115 hx hby at_285 ?_
    refine wisW X1115 hx hby at_286 ?_
    refine wcnW X1115 hx hby at_287 (teq (hdn : d_ = (l9_ - (1 : Int32)))).2 ?_
    refine walW X1115 hx hby at_290 rfl rfl ?_
    refine wvbW X1115 hx hZ hown hw hml rfl hby at_292 447 rfl 448 rfl 450 rfl 449 rfl (by decide) e1115 (Q8_13.keep K1115c) (rx58_1072 l Z a0 hw [] n0 h1115 O1115  b1038 b1017 (Q8_15.keep K1115c nin0)) 451 rfl 395 rfl (by decide) (by decide) [] [] pdx_0 rfl rfl rfl (by decide) (by decide) rfl ?_
    intro _ T1116 _ X1116 hQ1116
    obtain ⟨rfl, N1116q, K1116c⟩ := hQ1116
    have N1116 := Fr.app N1115 N1116q
    obtain ⟨h1116, e1116⟩ : ∃ z, T1116.heap = z := ⟨_, rfl⟩
    rw [e1116] at K1116c
    have O1116 := O1115.keep K1116c all0
    refine wilW X1116 hx hby at_295 rfl ?_
    refine wcnW X1116 hx hby at_297 (teq (by decide : (1 : Int32) = (1 : Int32))).2 ?_
    refine walW X1116 hx hby at_300 rfl rfl ?_
    refine wvbW X1116 hx hZ hown hw hml rfl hby at_302 469 rfl 470 rfl 472 rfl 471 rfl (by decide) e1116 ((Q8_13.keep K1115c).keep K1116c) (rx62_1098 l Z a0 hw [] n0 h1116 O1116  b1038 ((Q8_16.keep K1115c nin0).keep K1116c nin0)) 473 rfl 395 rfl (by decide) (by decide) [] [] pdx_2 rfl rfl rfl (by decide) (by decide) rfl ?_
    intro _ T1117 _ X1117 hQ1117
    obtain ⟨rfl, N1117q, K1117c⟩ := hQ1117
    have N1117 := Fr.app N1116 N1117q
    obtain ⟨h1117, e1117⟩ : ∃ z, T1117.heap = z := ⟨_, rfl⟩
    rw [e1117] at K1117c
    have O1117 := O1116.keep K1117c all0
    refine wilW X1117 hx hby at_305 rfl ?_
    refine wicW X1117 hx hby at_307 ?_
    refine wisW X1117 hx hby at_308 ?_
    refine wcnW X1117 hx hby at_309 (teq (by decide : (0 : Int32) = (0 : Int32))).2 ?_
    refine walW X1117 hx hby at_312 rfl rfl ?_
    have c1122 := ((Q8_16.keep K1115c nin0).keep K1116c nin0).keep K1117c nin0
    have c1123 := ((Q8_14.keep K1115c nin0).keep K1116c nin0).keep K1117c nin0
    have c1124 := ((Q8_8.keep K1115c nin0).keep K1116c nin0).keep K1117c nin0
    refine wvbW X1117 hx hZ hown hw hml rfl hby at_314 474 rfl 475 rfl 477 rfl 476 rfl (by decide) e1117 (((Q8_13.keep K1115c).keep K1116c).keep K1117c) (rx63_1118 l Z a0 hw [] n0 h1117 O1117  b1038 b1014 k1021 c1122 c1123 c1124) 478 rfl 395 rfl (by decide) (by decide) [] [] pdx_0 rfl rfl rfl (by decide) (by decide) rfl ?_
    intro _ T1125 _ X1125 hQ1125
    obtain ⟨rfl, N1125q, K1125c⟩ := hQ1125
    have N1125 := Fr.app N1117 N1125q
    obtain ⟨h1125, e1125⟩ : ∃ z, T1125.heap = z := ⟨_, rfl⟩
    rw [e1125] at K1125c
    refine wilW X1125 hx hby at_317 rfl ?_
    refine wilW X1125 hx hby at_319 rfl ?_
    refine wcyW (pc := 321) (pc' := 328) X1125 hx hby at_321 (flt (by decide : ¬ ((1 : Int32) < (1 : Int32)))).2.1 ?_
    refine wicW X1125 hx hby at_328 ?_
    refine wcyW (pc := 329) (pc' := 334) X1125 hx hby at_329 (teq (by decide : (0 : Int32) = (0 : Int32))).1 ?_
    refine wilW X1125 hx hby at_334 rfl ?_
    refine wilW X1125 hx hby at_336 rfl ?_
    refine wcnW X1125 hx hby at_338 (flt (by decide : ¬ ((1 : Int32) < (1 : Int32)))).1 ?_
    refine wicW X1125 hx hby at_341 ?_
    refine EndsW.retZ (s := s) (vm := T798.vm) X1125 hx hS798 (Nat.le_trans (Nat.le_trans (Nat.le_trans (Nat.le_trans (Nat.le_trans hk_8 K1115c.1) K1116c.1) K1117c.1) K1125c.1) (Nat.le_of_eq (congrArg Array.size e1125.symm))) Bd.notSynchronized (t := .boolean) Bd.returns (by simp) (hb hby at_342) (by decide) (by decide) ?_
    exact ⟨rfl, N1125⟩
  have J266_a : ∀ (T8 : State) (h8 : Heap) (lcs : List Loc) (l9_ : Int32) (d_ : Int32) (p_ : Int32) (l10_ : Int32) (l11_ : Int32) (l12_ : Int32) (l13_ : Int32) (l14_ : Int32) (l15_ : Int32) (X8 : Stand p l e room_1 (s.setVm T798.vm) m #[(.int p0), (.int p1), (.int p2), (.int p3), (.int p4)] below meth c T8 lcs 23 162) (eT8 : T8.heap = h8) (O8 : Old Z n0 h8) (N8 : Fr n0 lcs) (K8 : Keep h0 h8 []) (hk_8 : T798.heap.size ≤ h8.size) (Q8_0 : Exa Z h8 b606 cST) (Q8_1 : Exa Z h8 b1019 cJO) (Q8_2 : f4_ Z h8 b1019 (.ref b1017)) (Q8_3 : f3_ Z h8 b1019 (.ref b1014)) (Q8_4 : Exa Z h8 b1017 cNA) (Q8_5 : f34_ Z h8 b1017 (.ref b1018)) (Q8_6 : Arv Z h8 b1018 k1022 (.object cST) (1 : Int32) [(.ref b606)] .null) (Q8_7 : Exa Z h8 b1014 cAJ) (Q8_8 : Arv Z h8 b1014 k1021 (.object cJV) (1 : Int32) [(.ref w_EMPTY)] .null) (Q8_9 : Exa Z h8 b1034 cJA) (Q8_10 : f12_ Z h8 b1034 (.ref b1023)) (Q8_11 : Exa Z h8 b1023 cAJ) (Q8_12 : Arv Z h8 b1023 k1023 (.object cJV) (2 : Int32) [(.ref w_EMPTY), (.ref b1019)] .null) (Q8_13 : Exa Z h8 b1038 cWK) (Q8_14 : f6_ Z h8 b1038 (.ref b1023)) (Q8_15 : f7_ Z h8 b1038 .null) (Q8_16 : f8_ Z h8 b1038 (.int p_)) (Q8_17 : f5_ Z h8 b1038 (.int d_)) (hp_ : (p_ = 0 ∨ p_ = 1 ∨ p_ = 2)) (hdn : d_ = (l9_ - (1 : Int32))), EndsW p e below s T8 (mkF m 266 #[ci p0, ci p1, ci p2, ci p3, ci p4, cr w_EMPTY, cr b606, cr b1019, cr b1034, ci l9_, ci l10_, ci l11_, ci l12_, ci l13_, ci l14_, ci l15_, cr b1038, ci 0, ci p_, cu, cu] []) room_1.cells room_1.slots (fun v h L => v = some (.int 1) ∧ Fr n0 L) := by
   intro T8 h8 lcs l9_ d_ p_ l10_ l11_ l12_ l13_ l14_ l15_ X8 eT8 O8 N8 K8 hk_8 Q8_0 Q8_1 Q8_2 Q8_3 Q8_4 Q8_5 Q8_6 Q8_7 Q8_8 Q8_9 Q8_10 Q8_11 Q8_12 Q8_13 Q8_14 Q8_15 Q8_16 Q8_17 hp_ hdn
   rcases hp_ with rfl | rfl | rfl
   ·show EndsW _ _ _ _ T8 (mkF m 266 #[ci p0, ci p1, ci p2, ci p3, ci p4, cr w_EMPTY, cr b606, cr b1019, cr b1034, ci l9_, ci l10_, ci l11_, ci l12_, ci l13_, ci l14_, ci l15_, cr b1038, ci 0, ci 0, cu, cu] []) _ _ _
    refine wilW X8 hx hby at_266 rfl ?_
    refine wiyW (pc := 268) (pc' := 275) X8 hx hby at_268 ((if0 _ _).trans (teq (by decide : (0 : Int32) = (0 : Int32))).1) ?_
    refine wicW X8 hx hby at_275 ?_
    refine wstW X8 hx hby at_276 (l' := #[ci p0, ci p1, ci p2, ci p3, ci p4, cr w_EMPTY, cr b606, cr b1019, cr b1034, ci l9_, ci l10_, ci l11_, ci l12_, ci l13_, ci l14_, ci l15_, cr b1038, ci 0, ci 0, ci 2, cu]) rfl ?_
    show EndsW _ _ _ _ T8 (mkF m 278 #[ci p0, ci p1, ci p2, ci p3, ci p4, cr w_EMPTY, cr b606, cr b1019, cr b1034, ci l9_, ci l10_, ci l11_, ci l12_, ci l13_, ci l14_, ci l15_, cr b1038, ci 0, ci 0, ci 2, cu] []) _ _ _
    refine walW X8 hx hby at_278 rfl rfl ?_
    refine wvbW X8 hx hZ hown hw hml rfl hby at_280 442 rfl 443 rfl 445 rfl 444 rfl (by decide) eT8 Q8_13 (rx57_1069 l Z a0 hw [] n0 h8 O8  b1038 d_ Q8_17) 446 rfl 395 rfl (by decide) (by decide) [] [] pdx_2 rfl rfl rfl (by decide) (by decide) rfl ?_
    intro _ T1126 _ X1126 hQ1126
    obtain ⟨rfl, N1126q, K1126c⟩ := hQ1126
    have N1126 := Fr.app N8 N1126q
    obtain ⟨h1126, e1126⟩ : ∃ z, T1126.heap = z := ⟨_, rfl⟩
    rw [e1126] at K1126c
    have O1126 := O8.keep K1126c all0
    refine wilW X1126 hx hby at_283 rfl ?_
    refine wicW X1126 hx hby at_285 ?_
    refine wisW X1126 hx hby at_286 ?_
    refine wcnW X1126 hx hby at_287 (teq (hdn : d_ = (l9_ - (1 : Int32)))).2 ?_
    refine walW X1126 hx hby at_290 rfl rfl ?_
    refine wvbW X1126 hx hZ hown hw hml rfl hby at_292 447 rfl 448 rfl 450 rfl 449 rfl (by decide) e1126 (Q8_13.keep K1126c) (rx58_1127 l Z a0 hw [] n0 h1126 O1126  b1038 (Q8_15.keep K1126c nin0)) 451 rfl 395 rfl (by decide) (by decide) [] [] pdx_0 rfl rfl rfl (by decide) (by decide) rfl ?_
    intro _ T1129 _ X1129 hQ1129
    obtain ⟨rfl, N1129q, K1129c⟩ := hQ1129
    have N1129 := Fr.app N1126 N1129q
    obtain ⟨h1129, e1129⟩ : ∃ z, T1129.heap = z := ⟨_, rfl⟩
    rw [e1129] at K1129c
    have O1129 := O1126.keep K1129c all0
    refine wilW X1129 hx hby at_295 rfl ?_
    refine wcnW X1129 hx hby at_297 (teq (by decide : (0 : Int32) = (0 : Int32))).2 ?_
    refine walW X1129 hx hby at_300 rfl rfl ?_
    refine wvbW X1129 hx hZ hown hw hml rfl hby at_302 469 rfl 470 rfl 472 rfl 471 rfl (by decide) e1129 ((Q8_13.keep K1126c).keep K1129c) (rx62_1075 l Z a0 hw [] n0 h1129 O1129  b1038 ((Q8_16.keep K1126c nin0).keep K1129c nin0)) 473 rfl 395 rfl (by decide) (by decide) [] [] pdx_2 rfl rfl rfl (by decide) (by decide) rfl ?_
    intro _ T1130 _ X1130 hQ1130
    obtain ⟨rfl, N1130q, K1130c⟩ := hQ1130
    have N1130 := Fr.app N1129 N1130q
    obtain ⟨h1130, e1130⟩ : ∃ z, T1130.heap = z := ⟨_, rfl⟩
    rw [e1130] at K1130c
    have O1130 := O1129.keep K1130c all0
    refine wilW X1130 hx hby at_305 rfl ?_
    refine wicW X1130 hx hby at_307 ?_
    refine wisW X1130 hx hby at_308 ?_
    refine wcnW X1130 hx hby at_309 (teq (by decide : (-1 : Int32) = (-1 : Int32))).2 ?_
    refine walW X1130 hx hby at_312 rfl rfl ?_
    have c1135 := ((Q8_16.keep K1126c nin0).keep K1129c nin0).keep K1130c nin0
    have c1136 := ((Q8_14.keep K1126c nin0).keep K1129c nin0).keep K1130c nin0
    have c1137 := ((Q8_12.keep K1126c nin0).keep K1129c nin0).keep K1130c nin0
    refine wvbW X1130 hx hZ hown hw hml rfl hby at_314 474 rfl 475 rfl 477 rfl 476 rfl (by decide) e1130 (((Q8_13.keep K1126c).keep K1129c).keep K1130c) (rx63_1131 l Z a0 hw [] n0 h1130 O1130  b1038 b1023 k1023 b1019 c1135 c1136 c1137) 478 rfl 395 rfl (by decide) (by decide) [] [] pdx_0 rfl rfl rfl (by decide) (by decide) rfl ?_
    intro _ T1138 _ X1138 hQ1138
    obtain ⟨rfl, N1138q, K1138c⟩ := hQ1138
    have N1138 := Fr.app N1130 N1138q
    obtain ⟨h1138, e1138⟩ : ∃ z, T1138.heap = z := ⟨_, rfl⟩
    rw [e1138] at K1138c
    have O1138 := O1130.keep K1138c all0
    refine wilW X1138 hx hby at_317 rfl ?_
    refine wilW X1138 hx hby at_319 rfl ?_
    refine wcnW X1138 hx hby at_321 (tlt (by decide : (0 : Int32) < (2 : Int32))).2.1 ?_
    refine wicW X1138 hx hby at_324 ?_
    refine wgoW (pc := 325) (pc' := 329) X1138 hx hby at_325 ?_
    refine wcyW (pc := 329) (pc' := 334) X1138 hx hby at_329 (teq (by decide : (1 : Int32) = (1 : Int32))).1 ?_
    refine wilW X1138 hx hby at_334 rfl ?_
    refine wilW X1138 hx hby at_336 rfl ?_
    refine wcyW (pc := 338) (pc' := 343) X1138 hx hby at_338 (tlt (by decide : (0 : Int32) < (2 : Int32))).1 ?_
    refine wilW X1138 hx hby at_343 rfl ?_
    refine winW X1138 hx hby at_345 ((if0 _ _).trans (teq (by decide : (0 : Int32) = (0 : Int32))).2) ?_
    refine wilW X1138 hx hby at_348 rfl ?_
    show EndsW _ _ _ _ T1138 (mkF m 350 #[ci p0, ci p1, ci p2, ci p3, ci p4, cr w_EMPTY, cr b606, cr b1019, cr b1034, ci l9_, ci l10_, ci l11_, ci l12_, ci l13_, ci l14_, ci l15_, cr b1038, ci 0, ci 0, ci 2, cu] [(.int 0)]) _ _ _
    refine winW X1138 hx hby at_350 ((if0 _ _).trans (teq (by decide : (0 : Int32) = (0 : Int32))).2) ?_
    refine walW X1138 hx hby at_353 rfl rfl ?_
    refine wgoW (pc := 355) (pc' := 360) X1138 hx hby at_355 ?_
    refine wasW X1138 hx hby at_360 (l' := #[ci p0, ci p1, ci p2, ci p3, ci p4, cr w_EMPTY, cr b606, cr b1019, cr b1034, ci l9_, ci l10_, ci l11_, ci l12_, ci l13_, ci l14_, ci l15_, cr b1038, ci 0, ci 0, ci 2, cr w_EMPTY]) rfl rfl ?_
    refine walW X1138 hx hby at_362 rfl rfl ?_
    have c1147 := (((Q8_13.keep K1126c).keep K1129c).keep K1130c).keep K1138c
    have c1148 := (((Q8_15.keep K1126c nin0).keep K1129c nin0).keep K1130c nin0).keep K1138c nin0
    have c1149 := (((Q8_17.keep K1126c nin0).keep K1129c nin0).keep K1130c nin0).keep K1138c nin0
    refine wvbW X1138 hx hZ hown hw hml rfl hby at_364 452 rfl 453 rfl 455 rfl 454 rfl (by decide) e1138 c1147 (rx59_1139 l Z a0 hw [] n0 h1138 O1138 G1 w_EMPTY GF b1038 b1023 k1023 b1019 d_ (c1136.keep K1138c nin0) (c1135.keep K1138c nin0) c1147 (c1137.keep K1138c nin0) c1148 c1149 ne_b1023_b1038 g_b1038) 456 rfl 395 rfl (by decide) (by decide) [] [] pdx_6 rfl rfl rfl (by decide) (by decide) rfl ?_
    intro _ T1150 _ X1150 hQ1150
    obtain ⟨rfl, N1150q, K1150c, Y1150_0, Y1150_1, Y1150_2, Y1150_3⟩ := hQ1150
    have N1150 := Fr.app N1138 N1150q
    obtain ⟨h1150, e1150⟩ : ∃ z, T1150.heap = z := ⟨_, rfl⟩
    rw [e1150] at K1150c Y1150_0 Y1150_1 Y1150_2 Y1150_3
    have O1150 := O1138.keep K1150c (allS g_b1038 all0)
    refine walW X1150 hx hby at_367 rfl rfl ?_
    refine .go (fun _ => Jvm.RoadKit.acmp (g := (mkF m 369 #[ci p0, ci p1, ci p2, ci p3, ci p4, cr w_EMPTY, cr b606, cr b1019, cr b1034, ci l9_, ci l10_, ci l11_, ci l12_, ci l13_, ci l14_, ci l15_, cr b1038, ci 0, ci 0, ci 2, cr w_EMPTY] [(.ref w_EMPTY), (.ref w_EMPTY)])) X1150 hx rfl rfl rfl (pc0 := 369) (pc' := 372) (same := true) rfl (hb hby at_369) rfl (decide_eq_true rfl) (by decide) (by decide)) ?_
    refine walW X1150 hx hby at_372 rfl rfl ?_
    refine wvbW X1150 hx hZ hown hw hml rfl hby at_374 469 rfl 470 rfl 472 rfl 471 rfl (by decide) e1150 (c1147.keep K1150c) (rx62_1098 l Z a0 hw [] n0 h1150 O1150  b1038 Y1150_1) 473 rfl 395 rfl (by decide) (by decide) [] [] pdx_2 rfl rfl rfl (by decide) (by decide) rfl ?_
    intro _ T1151 _ X1151 hQ1151
    obtain ⟨rfl, N1151q, K1151c⟩ := hQ1151
    have N1151 := Fr.app N1150 N1151q
    obtain ⟨h1151, e1151⟩ : ∃ z, T1151.heap = z := ⟨_, rfl⟩
    rw [e1151] at K1151c
    refine wilW X1151 hx hby at_377 rfl ?_
    refine wcyW (pc := 379) (pc' := 384) X1151 hx hby at_379 (teq (by decide : (0 : Int32) = (0 : Int32))).1 ?_
    refine wilW X1151 hx hby at_384 rfl ?_
    refine wiyW (pc := 386) (pc' := 402) X1151 hx hby at_386 ((if0 _ _).trans (teq (by decide : (0 : Int32) = (0 : Int32))).1) ?_
    refine wicW X1151 hx hby at_402 ?_
    refine wgoW (pc := 403) (pc' := 407) X1151 hx hby at_403 ?_
    refine EndsW.retZ (s := s) (vm := T798.vm) X1151 hx hS798 (Nat.le_trans (Nat.le_trans (Nat.le_trans (Nat.le_trans (Nat.le_trans (Nat.le_trans (Nat.le_trans hk_8 K1126c.1) K1129c.1) K1130c.1) K1138c.1) K1150c.1) K1151c.1) (Nat.le_of_eq (congrArg Array.size e1151.symm))) Bd.notSynchronized (t := .boolean) Bd.returns (by simp) (hb hby at_407) (by decide) (by decide) ?_
    exact ⟨rfl, N1151⟩
   ·show EndsW _ _ _ _ T8 (mkF m 266 #[ci p0, ci p1, ci p2, ci p3, ci p4, cr w_EMPTY, cr b606, cr b1019, cr b1034, ci l9_, ci l10_, ci l11_, ci l12_, ci l13_, ci l14_, ci l15_, cr b1038, ci 0, ci 1, cu, cu] []) _ _ _
    refine wilW X8 hx hby at_266 rfl ?_
    refine wiyW (pc := 268) (pc' := 275) X8 hx hby at_268 ((if0 _ _).trans (teq (by decide : (0 : Int32) = (0 : Int32))).1) ?_
    refine wicW X8 hx hby at_275 ?_
    refine wstW X8 hx hby at_276 (l' := #[ci p0, ci p1, ci p2, ci p3, ci p4, cr w_EMPTY, cr b606, cr b1019, cr b1034, ci l9_, ci l10_, ci l11_, ci l12_, ci l13_, ci l14_, ci l15_, cr b1038, ci 0, ci 1, ci 2, cu]) rfl ?_
    refine walW X8 hx hby at_278 rfl rfl ?_
    refine wvbW X8 hx hZ hown hw hml rfl hby at_280 442 rfl 443 rfl 445 rfl 444 rfl (by decide) eT8 Q8_13 (rx57_1069 l Z a0 hw [] n0 h8 O8  b1038 d_ Q8_17) 446 rfl 395 rfl (by decide) (by decide) [] [] pdx_2 rfl rfl rfl (by decide) (by decide) rfl ?_
    intro _ T1152 _ X1152 hQ1152
    obtain ⟨rfl, N1152q, K1152c⟩ := hQ1152
    have N1152 := Fr.app N8 N1152q
    obtain ⟨h1152, e1152⟩ : ∃ z, T1152.heap = z := ⟨_, rfl⟩
    rw [e1152] at K1152c
    have O1152 := O8.keep K1152c all0
    refine wilW X1152 hx hby at_283 rfl ?_
    refine wicW X1152 hx hby at_285 ?_
    refine wisW X1152 hx hby at_286 ?_
    refine wcnW X1152 hx hby at_287 (teq (hdn : d_ = (l9_ - (1 : Int32)))).2 ?_
    refine walW X1152 hx hby at_290 rfl rfl ?_
    refine wvbW X1152 hx hZ hown hw hml rfl hby at_292 447 rfl 448 rfl 450 rfl 449 rfl (by decide) e1152 (Q8_13.keep K1152c) (rx58_1127 l Z a0 hw [] n0 h1152 O1152  b1038 (Q8_15.keep K1152c nin0)) 451 rfl 395 rfl (by decide) (by decide) [] [] pdx_0 rfl rfl rfl (by decide) (by decide) rfl ?_
    intro _ T1153 _ X1153 hQ1153
    obtain ⟨rfl, N1153q, K1153c⟩ := hQ1153
    have N1153 := Fr.app N1152 N1153q
    obtain ⟨h1153, e1153⟩ : ∃ z, T1153.heap = z := ⟨_, rfl⟩
    rw [e1153] at K1153c
    have O1153 := O1152.keep K1153c all0
    refine wilW X1153 hx hby at_295 rfl ?_
    show EndsW _ _ _ _ T1153 (mkF m 297 #[ci p0, ci p1, ci p2, ci p3, ci p4, cr w_EMPTY, cr b606, cr b1019, cr b1034, ci l9_, ci l10_, ci l11_, ci l12_, ci l13_, ci l14_, ci l15_, cr b1038, ci 0, ci 1, ci 2, cu] [(.int 0), (.int 0)]) _ _ _
    refine wcnW X1153 hx hby at_297 (teq (by decide : (0 : Int32) = (0 : Int32))).2 ?_
    refine walW X1153 hx hby at_300 rfl rfl ?_
    refine wvbW X1153 hx hZ hown hw hml rfl hby at_302 469 rfl 470 rfl 472 rfl 471 rfl (by decide) e1153 ((Q8_13.keep K1152c).keep K1153c) (rx62_1098 l Z a0 hw [] n0 h1153 O1153  b1038 ((Q8_16.keep K1152c nin0).keep K1153c nin0)) 473 rfl 395 rfl (by decide) (by decide) [] [] pdx_2 rfl rfl rfl (by decide) (by decide) rfl ?_
    intro _ T1154 _ X1154 hQ1154
    obtain ⟨rfl, N1154q, K1154c⟩ := hQ1154
    have N1154 := Fr.app N1153 N1154q
    obtain ⟨h1154, e1154⟩ : ∃ z, T1154.heap = z := ⟨_, rfl⟩
    rw [e1154] at K1154c
    have O1154 := O1153.keep K1154c all0
    refine wilW X1154 hx hby at_305 rfl ?_
    refine wicW X1154 hx hby at_307 ?_
    refine wisW X1154 hx hby at_308 ?_
    refine wcnW X1154 hx hby at_309 (teq (by decide : (0 : Int32) = (0 : Int32))).2 ?_
    refine walW X1154 hx hby at_312 rfl rfl ?_
    have c1159 := ((Q8_16.keep K1152c nin0).keep K1153c nin0).keep K1154c nin0
    have c1160 := ((Q8_14.keep K1152c nin0).keep K1153c nin0).keep K1154c nin0
    have c1161 := ((Q8_12.keep K1152c nin0).keep K1153c nin0).keep K1154c nin0
    refine wvbW X1154 hx hZ hown hw hml rfl hby at_314 474 rfl 475 rfl 477 rfl 476 rfl (by decide) e1154 (((Q8_13.keep K1152c).keep K1153c).keep K1154c) (rx63_1155 l Z a0 hw [] n0 h1154 O1154  b1038 b1023 k1023 b1019 c1159 c1160 c1161) 478 rfl 395 rfl (by decide) (by decide) [] [] pdx_0 rfl rfl rfl (by decide) (by decide) rfl ?_
    intro _ T1162 _ X1162 hQ1162
    obtain ⟨rfl, N1162q, K1162c⟩ := hQ1162
    have N1162 := Fr.app N1154 N1162q
    obtain ⟨h1162, e1162⟩ : ∃ z, T1162.heap = z := ⟨_, rfl⟩
    rw [e1162] at K1162c
    have O1162 := O1154.keep K1162c all0
    refine wilW X1162 hx hby at_317 rfl ?_
    refine wilW X1162 hx hby at_319 rfl ?_
    refine wcnW X1162 hx hby at_321 (tlt (by decide : (1 : Int32) < (2 : Int32))).2.1 ?_
    refine wicW X1162 hx hby at_324 ?_
    refine wgoW (pc := 325) (pc' := 329) X1162 hx hby at_325 ?_
    refine wcyW (pc := 329) (pc' := 334) X1162 hx hby at_329 (teq (by decide : (1 : Int32) = (1 : Int32))).1 ?_
    refine wilW X1162 hx hby at_334 rfl ?_
    refine wilW X1162 hx hby at_336 rfl ?_
    refine wcyW (pc := 338) (pc' := 343) X1162 hx hby at_338 (tlt (by decide : (1 : Int32) < (2 : Int32))).1 ?_
    refine wilW X1162 hx hby at_343 rfl ?_
    refine winW X1162 hx hby at_345 ((if0 _ _).trans (teq (by decide : (0 : Int32) = (0 : Int32))).2) ?_
    refine wilW X1162 hx hby at_348 rfl ?_
    refine wiyW (pc := 350) (pc' := 358) X1162 hx hby at_350 ((if0 _ _).trans (feq (by decide : ¬ ((1 : Int32) = (0 : Int32)))).2) ?_
    refine walW X1162 hx hby at_358 rfl rfl ?_
    refine wasW X1162 hx hby at_360 (l' := #[ci p0, ci p1, ci p2, ci p3, ci p4, cr w_EMPTY, cr b606, cr b1019, cr b1034, ci l9_, ci l10_, ci l11_, ci l12_, ci l13_, ci l14_, ci l15_, cr b1038, ci 0, ci 1, ci 2, cr b1019]) rfl rfl ?_
    refine walW X1162 hx hby at_362 rfl rfl ?_
    have c1171 := (((Q8_13.keep K1152c).keep K1153c).keep K1154c).keep K1162c
    have c1172 := (((Q8_15.keep K1152c nin0).keep K1153c nin0).keep K1154c nin0).keep K1162c nin0
    have c1173 := (((Q8_17.keep K1152c nin0).keep K1153c nin0).keep K1154c nin0).keep K1162c nin0
    refine wvbW X1162 hx hZ hown hw hml rfl hby at_364 452 rfl 453 rfl 455 rfl 454 rfl (by decide) e1162 c1171 (rx59_1163 l Z a0 hw [] n0 h1162 O1162  b1038 b1023 k1023 b1019 d_ (c1160.keep K1162c nin0) (c1159.keep K1162c nin0) c1171 (c1161.keep K1162c nin0) c1172 c1173 ne_b1023_b1038 g_b1038) 456 rfl 395 rfl (by decide) (by decide) [] [] pdx_6 rfl rfl rfl (by decide) (by decide) rfl ?_
    intro _ T1174 _ X1174 hQ1174
    obtain ⟨rfl, N1174q, K1174c, Y1174_0, Y1174_1, Y1174_2, Y1174_3⟩ := hQ1174
    have N1174 := Fr.app N1162 N1174q
    obtain ⟨h1174, e1174⟩ : ∃ z, T1174.heap = z := ⟨_, rfl⟩
    rw [e1174] at K1174c Y1174_0 Y1174_1 Y1174_2 Y1174_3
    have O1174 := O1162.keep K1174c (allS g_b1038 all0)
    refine walW X1174 hx hby at_367 rfl rfl ?_
    refine .go (fun _ => Jvm.RoadKit.acmp (g := (mkF m 369 #[ci p0, ci p1, ci p2, ci p3, ci p4, cr w_EMPTY, cr b606, cr b1019, cr b1034, ci l9_, ci l10_, ci l11_, ci l12_, ci l13_, ci l14_, ci l15_, cr b1038, ci 0, ci 1, ci 2, cr b1019] [(.ref b1019), (.ref b1019)])) X1174 hx rfl rfl rfl (pc0 := 369) (pc' := 372) (same := true) rfl (hb hby at_369) rfl (decide_eq_true rfl) (by decide) (by decide)) ?_
    refine walW X1174 hx hby at_372 rfl rfl ?_
    refine wvbW X1174 hx hZ hown hw hml rfl hby at_374 469 rfl 470 rfl 472 rfl 471 rfl (by decide) e1174 (c1171.keep K1174c) (rx62_1175 l Z a0 hw [] n0 h1174 O1174  b1038 Y1174_1) 473 rfl 395 rfl (by decide) (by decide) [] [] pdx_2 rfl rfl rfl (by decide) (by decide) rfl ?_
    intro _ T1177 _ X1177 hQ1177
    obtain ⟨rfl, N1177q, K1177c⟩ := hQ1177
    have N1177 := Fr.app N1174 N1177q
    obtain ⟨h1177, e1177⟩ : ∃ z, T1177.heap = z := ⟨_, rfl⟩
    rw [e1177] at K1177c
    show EndsW _ _ _ _ T1177 (mkF m 377 #[ci p0, ci p1, ci p2, ci p3, ci p4, cr w_EMPTY, cr b606, cr b1019, cr b1034, ci l9_, ci l10_, ci l11_, ci l12_, ci l13_, ci l14_, ci l15_, cr b1038, ci 0, ci 1, ci 2, cr b1019] [(.int 1)]) _ _ _
    refine wilW X1177 hx hby at_377 rfl ?_
    refine wcyW (pc := 379) (pc' := 384) X1177 hx hby at_379 (teq (by decide : (1 : Int32) = (1 : Int32))).1 ?_
    refine wilW X1177 hx hby at_384 rfl ?_
    refine wiyW (pc := 386) (pc' := 402) X1177 hx hby at_386 ((if0 _ _).trans (teq (by decide : (0 : Int32) = (0 : Int32))).1) ?_
    refine wicW X1177 hx hby at_402 ?_
    refine wgoW (pc := 403) (pc' := 407) X1177 hx hby at_403 ?_
    refine EndsW.retZ (s := s) (vm := T798.vm) X1177 hx hS798 (Nat.le_trans (Nat.le_trans (Nat.le_trans (Nat.le_trans (Nat.le_trans (Nat.le_trans (Nat.le_trans hk_8 K1152c.1) K1153c.1) K1154c.1) K1162c.1) K1174c.1) K1177c.1) (Nat.le_of_eq (congrArg Array.size e1177.symm))) Bd.notSynchronized (t := .boolean) Bd.returns (by simp) (hb hby at_407) (by decide) (by decide) ?_
    exact ⟨rfl, N1177⟩
   ·show EndsW _ _ _ _ T8 (mkF m 266 #[ci p0, ci p1, ci p2, ci p3, ci p4, cr w_EMPTY, cr b606, cr b1019, cr b1034, ci l9_, ci l10_, ci l11_, ci l12_, ci l13_, ci l14_, ci l15_, cr b1038, ci 0, ci 2, cu, cu] []) _ _ _
    refine wilW X8 hx hby at_266 rfl ?_
    refine wiyW (pc := 268) (pc' := 275) X8 hx hby at_268 ((if0 _ _).trans (teq (by decide : (0 : Int32) = (0 : Int32))).1) ?_
    refine wicW X8 hx hby at_275 ?_
    refine wstW X8 hx hby at_276 (l' := #[ci p0, ci p1, ci p2, ci p3, ci p4, cr w_EMPTY, cr b606, cr b1019, cr b1034, ci l9_, ci l10_, ci l11_, ci l12_, ci l13_, ci l14_, ci l15_, cr b1038, ci 0, ci 2, ci 2, cu]) rfl ?_
    refine walW X8 hx hby at_278 rfl rfl ?_
    refine wvbW X8 hx hZ hown hw hml rfl hby at_280 442 rfl 443 rfl 445 rfl 444 rfl (by decide) eT8 Q8_13 (rx57_1069 l Z a0 hw [] n0 h8 O8  b1038 d_ Q8_17) 446 rfl 395 rfl (by decide) (by decide) [] [] pdx_2 rfl rfl rfl (by decide) (by decide) rfl ?_
    intro _ T1178 _ X1178 hQ1178
    obtain ⟨rfl, N1178q, K1178c⟩ := hQ1178
    have N1178 := Fr.app N8 N1178q
    obtain ⟨h1178, e1178⟩ : ∃ z, T1178.heap = z := ⟨_, rfl⟩
    rw [e1178] at K1178c
    have O1178 := O8.keep K1178c all0
    refine wilW X1178 hx hby at_283 rfl ?_
    refine wicW X1178 hx hby at_285 ?_
    refine wisW X1178 hx hby at_286 ?_
    refine wcnW X1178 hx hby at_287 (teq (hdn : d_ = (l9_ - (1 : Int32)))).2 ?_
    refine walW X1178 hx hby at_290 rfl rfl ?_
    refine wvbW X1178 hx hZ hown hw hml rfl hby at_292 447 rfl 448 rfl 450 rfl 449 rfl (by decide) e1178 (Q8_13.keep K1178c) (rx58_1127 l Z a0 hw [] n0 h1178 O1178  b1038 (Q8_15.keep K1178c nin0)) 451 rfl 395 rfl (by decide) (by decide) [] [] pdx_0 rfl rfl rfl (by decide) (by decide) rfl ?_
    intro _ T1179 _ X1179 hQ1179
    obtain ⟨rfl, N1179q, K1179c⟩ := hQ1179
    have N1179 := Fr.app N1178 N1179q
    obtain ⟨h1179, e1179⟩ : ∃ z, T1179.heap = z := ⟨_, rfl⟩
    rw [e1179] at K1179c
    have O1179 := O1178.keep K1179c all0
    refine wilW X1179 hx hby at_295 rfl ?_
    refine wcnW X1179 hx hby at_297 (teq (by decide : (0 : Int32) = (0 : Int32))).2 ?_
    refine walW X1179 hx hby at_300 rfl rfl ?_
    refine wvbW X1179 hx hZ hown hw hml rfl hby at_302 469 rfl 470 rfl 472 rfl 471 rfl (by decide) e1179 ((Q8_13.keep K1178c).keep K1179c) (rx62_1175 l Z a0 hw [] n0 h1179 O1179  b1038 ((Q8_16.keep K1178c nin0).keep K1179c nin0)) 473 rfl 395 rfl (by decide) (by decide) [] [] pdx_2 rfl rfl rfl (by decide) (by decide) rfl ?_
    intro _ T1180 _ X1180 hQ1180
    obtain ⟨rfl, N1180q, K1180c⟩ := hQ1180
    have N1180 := Fr.app N1179 N1180q
    obtain ⟨h1180, e1180⟩ : ∃ z, T1180.heap = z := ⟨_, rfl⟩
    rw [e1180] at K1180c
    have O1180 := O1179.keep K1180c all0
    refine wilW X1180 hx hby at_305 rfl ?_
    refine wicW X1180 hx hby at_307 ?_
    refine wisW X1180 hx hby at_308 ?_
    refine wcnW X1180 hx hby at_309 (teq (by decide : (1 : Int32) = (1 : Int32))).2 ?_
    refine walW X1180 hx hby at_312 rfl rfl ?_
    have c1185 := ((Q8_16.keep K1178c nin0).keep K1179c nin0).keep K1180c nin0
    have c1186 := ((Q8_14.keep K1178c nin0).keep K1179c nin0).keep K1180c nin0
    have c1187 := ((Q8_12.keep K1178c nin0).keep K1179c nin0).keep K1180c nin0
    refine wvbW X1180 hx hZ hown hw hml rfl hby at_314 474 rfl 475 rfl 477 rfl 476 rfl (by decide) e1180 (((Q8_13.keep K1178c).keep K1179c).keep K1180c) (rx63_1181 l Z a0 hw [] n0 h1180 O1180  b1038 b1023 k1023 b1019 c1185 c1186 c1187) 478 rfl 395 rfl (by decide) (by decide) [] [] pdx_0 rfl rfl rfl (by decide) (by decide) rfl ?_
    intro _ T1188 _ X1188 hQ1188
    obtain ⟨rfl, N1188q, K1188c⟩ := hQ1188
    have N1188 := Fr.app N1180 N1188q
    obtain ⟨h1188, e1188⟩ : ∃ z, T1188.heap = z := ⟨_, rfl⟩
    rw [e1188] at K1188c
    refine wilW X1188 hx hby at_317 rfl ?_
    show EndsW _ _ _ _ T1188 (mkF m 319 #[ci p0, ci p1, ci p2, ci p3, ci p4, cr w_EMPTY, cr b606, cr b1019, cr b1034, ci l9_, ci l10_, ci l11_, ci l12_, ci l13_, ci l14_, ci l15_, cr b1038, ci 0, ci 2, ci 2, cu] [(.int 2), (.int 0)]) _ _ _
    refine wilW X1188 hx hby at_319 rfl ?_
    refine wcyW (pc := 321) (pc' := 328) X1188 hx hby at_321 (flt (by decide : ¬ ((2 : Int32) < (2 : Int32)))).2.1 ?_
    refine wicW X1188 hx hby at_328 ?_
    refine wcyW (pc := 329) (pc' := 334) X1188 hx hby at_329 (teq (by decide : (0 : Int32) = (0 : Int32))).1 ?_
    refine wilW X1188 hx hby at_334 rfl ?_
    refine wilW X1188 hx hby at_336 rfl ?_
    refine wcnW X1188 hx hby at_338 (flt (by decide : ¬ ((2 : Int32) < (2 : Int32)))).1 ?_
    refine wicW X1188 hx hby at_341 ?_
    refine EndsW.retZ (s := s) (vm := T798.vm) X1188 hx hS798 (Nat.le_trans (Nat.le_trans (Nat.le_trans (Nat.le_trans (Nat.le_trans hk_8 K1178c.1) K1179c.1) K1180c.1) K1188c.1) (Nat.le_of_eq (congrArg Array.size e1188.symm))) Bd.notSynchronized (t := .boolean) Bd.returns (by simp) (hb hby at_342) (by decide) (by decide) ?_
    exact ⟨rfl, N1188⟩
  have J203_1 : ∀ (T8 : State) (h8 : Heap) (lcs : List Loc) (u1_ : Value) (u2_ : Value) (z_ : Int32) (l10_ : Int32) (l11_ : Int32) (l12_ : Int32) (l13_ : Int32) (l14_ : Int32) (l15_ : Int32) (X8 : Stand p l e room_1 (s.setVm T798.vm) m #[(.int p0), (.int p1), (.int p2), (.int p3), (.int p4)] below meth c T8 lcs 23 162) (eT8 : T8.heap = h8) (O8 : Old Z n0 h8) (N8 : Fr n0 lcs) (K8 : Keep h0 h8 []) (hk_8 : T798.heap.size ≤ h8.size) (Q8_0 : Exa Z h8 b606 cST) (Q8_1 : Exa Z h8 b1019 cJO) (Q8_2 : f4_ Z h8 b1019 (.ref b1017)) (Q8_3 : f3_ Z h8 b1019 (.ref b1014)) (Q8_4 : Exa Z h8 b1017 cNA) (Q8_5 : f34_ Z h8 b1017 (.ref b1018)) (Q8_6 : Arv Z h8 b1018 k1022 (.object cST) (1 : Int32) [(.ref b606)] .null) (Q8_7 : Exa Z h8 b1014 cAJ) (Q8_8 : Arv Z h8 b1014 k1021 (.object cJV) (1 : Int32) [(.ref w_EMPTY)] .null) (Q8_9 : Exa Z h8 b1034 cJA) (Q8_10 : f12_ Z h8 b1034 (.ref b1023)) (Q8_11 : Exa Z h8 b1023 cAJ) (Q8_12 : Arv Z h8 b1023 k1023 (.object cJV) (2 : Int32) [(.ref w_EMPTY), (.ref b1019)] .null) (Q8_13 : Exa Z h8 b1038 cWK) (Q8_14 : f6_ Z h8 b1038 u1_) (Q8_15 : f7_ Z h8 b1038 u2_) (Q8_16 : f8_ Z h8 b1038 (.int z_)) (Q8_17 : f5_ Z h8 b1038 (.int 1)) (Q8_18 : f9_ Z h8 b1038 (.ref b1063)) (Q8_19 : f10_ Z h8 b1038 (.ref b1064)) (Q8_20 : f11_ Z h8 b1038 (.ref b1065)) (Q8_21 : Arv Z h8 b1063 k1066 (.array (.object cJV)) (16 : Int32) nN16 .null) (Q8_22 : Arv Z h8 b1064 k1067 (.object cNA) (16 : Int32) nN16 .null) (Q8_23 : Arv Z h8 b1065 k1068 .int (16 : Int32) nZ16 (.int 0)), EndsW p e below s T8 (mkF m 203 #[ci p0, ci p1, ci p2, ci p3, ci p4, cr w_EMPTY, cr b606, cr b1019, cr b1034, ci 1, ci l10_, ci l11_, ci l12_, ci l13_, ci l14_, ci l15_, cr b1038, cu, cu, cu, cu] []) room_1.cells room_1.slots (fun v h L => v = some (.int 1) ∧ Fr n0 L) := by
   intro T8 h8 lcs u1_ u2_ z_ l10_ l11_ l12_ l13_ l14_ l15_ X8 eT8 O8 N8 K8 hk_8 Q8_0 Q8_1 Q8_2 Q8_3 Q8_4 Q8_5 Q8_6 Q8_7 Q8_8 Q8_9 Q8_10 Q8_11 Q8_12 Q8_13 Q8_14 Q8_15 Q8_16 Q8_17 Q8_18 Q8_19 Q8_20 Q8_21 Q8_22 Q8_23
   show EndsW _ _ _ _ T8 (mkF m 203 #[ci p0, ci p1, ci p2, ci p3, ci p4, cr w_EMPTY, cr b606, cr b1019, cr b1034, ci 1, ci l10_, ci l11_, ci l12_, ci l13_, ci l14_, ci l15_, cr b1038, cu, cu, cu, cu] []) _ _ _
   refine walW X8 hx hby at_203 rfl rfl ?_
   refine wvbW X8 hx hZ hown hw hml rfl hby at_205 437 rfl 438 rfl 440 rfl 439 rfl (by decide) eT8 Q8_13 (rx56_1189 l Z a0 hw [] n0 h8 O8  b1038 u1_ u2_ z_ b1063 b1064 b1065 Q8_17 Q8_13 Q8_14 Q8_15 Q8_16 Q8_18 Q8_19 Q8_20 g_b1038) 441 rfl 395 rfl (by decide) (by decide) [] [] pdx_11 rfl rfl rfl (by decide) (by decide) rfl ?_
   intro _ T1203 _ X1203 hQ1203
   obtain ⟨rfl, N1203q, K1203c, Y1203_0, Y1203_1, Y1203_2, Y1203_3, Y1203_4, Y1203_5, Y1203_6⟩ := hQ1203
   have N1203 := Fr.app N8 N1203q
   obtain ⟨h1203, e1203⟩ : ∃ z, T1203.heap = z := ⟨_, rfl⟩
   rw [e1203] at K1203c Y1203_0 Y1203_1 Y1203_2 Y1203_3 Y1203_4 Y1203_5 Y1203_6
   have O1203 := O8.keep K1203c (allS g_b1038 all0)
   refine wilW X1203 hx hby at_208 rfl ?_
   refine wicW X1203 hx hby at_210 ?_
   refine wcnW X1203 hx hby at_211 (teq (by decide : (1 : Int32) = (1 : Int32))).2 ?_
   refine walW X1203 hx hby at_214 rfl rfl ?_
   refine wvbW X1203 hx hZ hown hw hml rfl hby at_216 442 rfl 443 rfl 445 rfl 444 rfl (by decide) e1203 (Q8_13.keep K1203c) (rx57_1204 l Z a0 hw [] n0 h1203 O1203  b1038 Y1203_0) 446 rfl 395 rfl (by decide) (by decide) [] [] pdx_2 rfl rfl rfl (by decide) (by decide) rfl ?_
   intro _ T1206 _ X1206 hQ1206
   obtain ⟨rfl, N1206q, K1206c⟩ := hQ1206
   have N1206 := Fr.app N1203 N1206q
   obtain ⟨h1206, e1206⟩ : ∃ z, T1206.heap = z := ⟨_, rfl⟩
   rw [e1206] at K1206c
   have O1206 := O1203.keep K1206c all0
   refine winW X1206 hx hby at_219 ((if0 _ _).trans (teq (by decide : (0 : Int32) = (0 : Int32))).2) ?_
   refine walW X1206 hx hby at_222 rfl rfl ?_
   refine wvbW X1206 hx hZ hown hw hml rfl hby at_224 447 rfl 448 rfl 450 rfl 449 rfl (by decide) e1206 ((Q8_13.keep K1203c).keep K1206c) (rx58_1127 l Z a0 hw [] n0 h1206 O1206  b1038 (Y1203_2.keep K1206c nin0)) 451 rfl 395 rfl (by decide) (by decide) [] [] pdx_0 rfl rfl rfl (by decide) (by decide) rfl ?_
   intro _ T1207 _ X1207 hQ1207
   obtain ⟨rfl, N1207q, K1207c⟩ := hQ1207
   have N1207 := Fr.app N1206 N1207q
   obtain ⟨h1207, e1207⟩ : ∃ z, T1207.heap = z := ⟨_, rfl⟩
   rw [e1207] at K1207c
   refine winW X1207 hx hby at_227 ((if0 _ _).trans (teq (by decide : (0 : Int32) = (0 : Int32))).2) ?_
   refine wicW X1207 hx hby at_230 ?_
   refine wgoW (pc := 231) (pc' := 235) X1207 hx hby at_231 ?_
   refine EndsW.retZ (s := s) (vm := T798.vm) X1207 hx hS798 (Nat.le_trans (Nat.le_trans (Nat.le_trans (Nat.le_trans hk_8 K1203c.1) K1206c.1) K1207c.1) (Nat.le_of_eq (congrArg Array.size e1207.symm))) Bd.notSynchronized (t := .boolean) Bd.returns (by simp) (hb hby at_235) (by decide) (by decide) ?_
   exact ⟨rfl, N1207⟩
  have J203_2o : ∀ (T8 : State) (h8 : Heap) (lcs : List Loc) (u1_ : Value) (u2_ : Value) (z_ : Int32) (l11_ : Int32) (l12_ : Int32) (l13_ : Int32) (l14_ : Int32) (l15_ : Int32) (X8 : Stand p l e room_1 (s.setVm T798.vm) m #[(.int p0), (.int p1), (.int p2), (.int p3), (.int p4)] below meth c T8 lcs 23 162) (eT8 : T8.heap = h8) (O8 : Old Z n0 h8) (N8 : Fr n0 lcs) (K8 : Keep h0 h8 []) (hk_8 : T798.heap.size ≤ h8.size) (Q8_0 : Exa Z h8 b606 cST) (Q8_1 : Exa Z h8 b1019 cJO) (Q8_2 : f4_ Z h8 b1019 (.ref b1017)) (Q8_3 : f3_ Z h8 b1019 (.ref b1014)) (Q8_4 : Exa Z h8 b1017 cNA) (Q8_5 : f34_ Z h8 b1017 (.ref b1018)) (Q8_6 : Arv Z h8 b1018 k1022 (.object cST) (1 : Int32) [(.ref b606)] .null) (Q8_7 : Exa Z h8 b1014 cAJ) (Q8_8 : Arv Z h8 b1014 k1021 (.object cJV) (1 : Int32) [(.ref w_EMPTY)] .null) (Q8_9 : Exa Z h8 b1034 cJA) (Q8_10 : f12_ Z h8 b1034 (.ref b1023)) (Q8_11 : Exa Z h8 b1023 cAJ) (Q8_12 : Arv Z h8 b1023 k1023 (.object cJV) (2 : Int32) [(.ref w_EMPTY), (.ref b1019)] .null) (Q8_13 : Exa Z h8 b1038 cWK) (Q8_14 : f6_ Z h8 b1038 u1_) (Q8_15 : f7_ Z h8 b1038 u2_) (Q8_16 : f8_ Z h8 b1038 (.int z_)) (Q8_17 : f5_ Z h8 b1038 (.int 2)) (Q8_18 : f9_ Z h8 b1038 (.ref b1063)) (Q8_19 : f10_ Z h8 b1038 (.ref b1064)) (Q8_20 : f11_ Z h8 b1038 (.ref b1065)) (Q8_21 : Arv Z h8 b1063 k1066 (.array (.object cJV)) (16 : Int32) ((.ref b1014) :: nN15) .null) (Q8_22 : Arv Z h8 b1064 k1067 (.object cNA) (16 : Int32) ((.ref b1017) :: nN15) .null) (Q8_23 : Arv Z h8 b1065 k1068 .int (16 : Int32) ((.int l13_) :: nZ15) (.int 0)) (hp_ : (l13_ = 0 ∨ l13_ = 1)), EndsW p e below s T8 (mkF m 203 #[ci p0, ci p1, ci p2, ci p3, ci p4, cr w_EMPTY, cr b606, cr b1019, cr b1034, ci 2, ci 1, ci l11_, ci l12_, ci l13_, ci l14_, ci l15_, cr b1038, cu, cu, cu, cu] []) room_1.cells room_1.slots (fun v h L => v = some (.int 1) ∧ Fr n0 L) := by
   intro T8 h8 lcs u1_ u2_ z_ l11_ l12_ l13_ l14_ l15_ X8 eT8 O8 N8 K8 hk_8 Q8_0 Q8_1 Q8_2 Q8_3 Q8_4 Q8_5 Q8_6 Q8_7 Q8_8 Q8_9 Q8_10 Q8_11 Q8_12 Q8_13 Q8_14 Q8_15 Q8_16 Q8_17 Q8_18 Q8_19 Q8_20 Q8_21 Q8_22 Q8_23 hp_
   show EndsW _ _ _ _ T8 (mkF m 203 #[ci p0, ci p1, ci p2, ci p3, ci p4, cr w_EMPTY, cr b606, cr b1019, cr b1034, ci 2, ci 1, ci l11_, ci l12_, ci l13_, ci l14_, ci l15_, cr b1038, cu, cu, cu, cu] []) _ _ _
   refine walW X8 hx hby at_203 rfl rfl ?_
   refine wvbW X8 hx hZ hown hw hml rfl hby at_205 437 rfl 438 rfl 440 rfl 439 rfl (by decide) eT8 Q8_13 (rx56_1208 l Z a0 hw [] n0 h8 O8  b1038 b1063 k1066 b1014 u1_ b1064 k1067 b1017 u2_ b1065 k1068 l13_ z_ Q8_17 Q8_13 Q8_18 Q8_21 Q8_14 Q8_19 Q8_22 Q8_15 Q8_20 Q8_23 Q8_16 Y1062_1 Y1062_4 (Ne.symm ne_b1038_b1063) (Ne.symm ne_b1038_b1064) (Ne.symm ne_b1038_b1065) (Ne.symm hne1062_b1063_b1064) g_b1038 g_b1063 g_b1064) 441 rfl 395 rfl (by decide) (by decide) [] [] pdx_11 rfl rfl rfl (by decide) (by decide) rfl ?_
   intro _ T1251 _ X1251 hQ1251
   obtain ⟨rfl, N1251q, K1251c, Y1251_0, Y1251_1, Y1251_2, Y1251_3, Y1251_4, Y1251_5, Y1251_6, Y1251_7, Y1251_8⟩ := hQ1251
   have N1251 := Fr.app N8 N1251q
   obtain ⟨h1251, e1251⟩ : ∃ z, T1251.heap = z := ⟨_, rfl⟩
   rw [e1251] at K1251c Y1251_0 Y1251_1 Y1251_2 Y1251_3 Y1251_4 Y1251_5 Y1251_6 Y1251_7 Y1251_8
   have K1251 := K8.trans K1251c (allS (Or.inr sz_b1038) (allS (Or.inr sz_b1063) (allS (Or.inr sz_b1064) all0)))
   have O1251 := O8.keep K1251c (allS g_b1038 (allS g_b1063 (allS g_b1064 all0)))
   refine wilW X1251 hx hby at_208 rfl ?_
   refine wicW X1251 hx hby at_210 ?_
   refine wcyW (pc := 211) (pc' := 236) X1251 hx hby at_211 (feq (by decide : ¬ ((2 : Int32) = (1 : Int32)))).2 ?_
   refine wilW X1251 hx hby at_236 rfl ?_
   refine wicW X1251 hx hby at_238 ?_
   show EndsW _ _ _ _ T1251 (mkF m 239 #[ci p0, ci p1, ci p2, ci p3, ci p4, cr w_EMPTY, cr b606, cr b1019, cr b1034, ci 2, ci 1, ci l11_, ci l12_, ci l13_, ci l14_, ci l15_, cr b1038, cu, cu, cu, cu] [(.int 2), (.int 2)]) _ _ _
   refine wcnW X1251 hx hby at_239 (teq (by decide : (2 : Int32) = (2 : Int32))).2 ?_
   refine wilW X1251 hx hby at_242 rfl ?_
   refine wgoW (pc := 244) (pc' := 249) X1251 hx hby at_244 ?_
   refine wstW X1251 hx hby at_249 (l' := #[ci p0, ci p1, ci p2, ci p3, ci p4, cr w_EMPTY, cr b606, cr b1019, cr b1034, ci 2, ci 1, ci l11_, ci l12_, ci l13_, ci l14_, ci l15_, cr b1038, ci 1, cu, cu, cu]) rfl ?_
   refine wilW X1251 hx hby at_251 rfl ?_
   refine wicW X1251 hx hby at_253 ?_
   refine wcnW X1251 hx hby at_254 (teq (by decide : (2 : Int32) = (2 : Int32))).2 ?_
   refine wilW X1251 hx hby at_257 rfl ?_
   refine wgoW (pc := 259) (pc' := 264) X1251 hx hby at_259 ?_
   refine wstW X1251 hx hby at_264 (l' := #[ci p0, ci p1, ci p2, ci p3, ci p4, cr w_EMPTY, cr b606, cr b1019, cr b1034, ci 2, ci 1, ci l11_, ci l12_, ci l13_, ci l14_, ci l15_, cr b1038, ci 1, ci l13_, cu, cu]) rfl ?_
   have c1252 := Q8_2.keep K1251c (ninS ne_b1019_b1038 (ninS ne_b1019_b1063 (ninS ne_b1019_b1064 nin0)))
   have c1253 := Q8_3.keep K1251c (ninS ne_b1019_b1038 (ninS ne_b1019_b1063 (ninS ne_b1019_b1064 nin0)))
   have c1254 := Q8_5.keep K1251c (ninS ne_b1017_b1038 (ninS ne_b1017_b1063 (ninS ne_b1017_b1064 nin0)))
   have c1255 := Q8_6.keep K1251c (ninS ne_b1018_b1038 (ninS ne_b1018_b1063 (ninS ne_b1018_b1064 nin0)))
   have c1256 := Q8_8.keep K1251c (ninS ne_b1014_b1038 (ninS ne_b1014_b1063 (ninS ne_b1014_b1064 nin0)))
   have c1257 := Q8_10.keep K1251c (ninS ne_b1034_b1038 (ninS ne_b1034_b1063 (ninS ne_b1034_b1064 nin0)))
   have c1258 := Q8_12.keep K1251c (ninS ne_b1023_b1038 (ninS ne_b1023_b1063 (ninS ne_b1023_b1064 nin0)))
   exact J266_o _ _ _ (2 : Int32) (1 : Int32) l13_ (1 : Int32) l11_ l12_ l13_ l14_ l15_ X1251 e1251 O1251 N1251 K1251 (Nat.le_trans hk_8 K1251c.1) (Q8_0.keep K1251c) (Q8_1.keep K1251c) c1252 c1253 (Q8_4.keep K1251c) c1254 c1255 (Q8_7.keep K1251c) c1256 (Q8_9.keep K1251c) c1257 (Q8_11.keep K1251c) c1258 (Q8_13.keep K1251c) Y1251_3 Y1251_6 Y1251_8 Y1251_0 hp_ rfl
  have J203_2a : ∀ (T8 : State) (h8 : Heap) (lcs : List Loc) (u1_ : Value) (u2_ : Value) (z_ : Int32) (l11_ : Int32) (l12_ : Int32) (l13_ : Int32) (l14_ : Int32) (l15_ : Int32) (X8 : Stand p l e room_1 (s.setVm T798.vm) m #[(.int p0), (.int p1), (.int p2), (.int p3), (.int p4)] below meth c T8 lcs 23 162) (eT8 : T8.heap = h8) (O8 : Old Z n0 h8) (N8 : Fr n0 lcs) (K8 : Keep h0 h8 []) (hk_8 : T798.heap.size ≤ h8.size) (Q8_0 : Exa Z h8 b606 cST) (Q8_1 : Exa Z h8 b1019 cJO) (Q8_2 : f4_ Z h8 b1019 (.ref b1017)) (Q8_3 : f3_ Z h8 b1019 (.ref b1014)) (Q8_4 : Exa Z h8 b1017 cNA) (Q8_5 : f34_ Z h8 b1017 (.ref b1018)) (Q8_6 : Arv Z h8 b1018 k1022 (.object cST) (1 : Int32) [(.ref b606)] .null) (Q8_7 : Exa Z h8 b1014 cAJ) (Q8_8 : Arv Z h8 b1014 k1021 (.object cJV) (1 : Int32) [(.ref w_EMPTY)] .null) (Q8_9 : Exa Z h8 b1034 cJA) (Q8_10 : f12_ Z h8 b1034 (.ref b1023)) (Q8_11 : Exa Z h8 b1023 cAJ) (Q8_12 : Arv Z h8 b1023 k1023 (.object cJV) (2 : Int32) [(.ref w_EMPTY), (.ref b1019)] .null) (Q8_13 : Exa Z h8 b1038 cWK) (Q8_14 : f6_ Z h8 b1038 u1_) (Q8_15 : f7_ Z h8 b1038 u2_) (Q8_16 : f8_ Z h8 b1038 (.int z_)) (Q8_17 : f5_ Z h8 b1038 (.int 2)) (Q8_18 : f9_ Z h8 b1038 (.ref b1063)) (Q8_19 : f10_ Z h8 b1038 (.ref b1064)) (Q8_20 : f11_ Z h8 b1038 (.ref b1065)) (Q8_21 : Arv Z h8 b1063 k1066 (.array (.object cJV)) (16 : Int32) ((.ref b1023) :: nN15) .null) (Q8_22 : Arv Z h8 b1064 k1067 (.object cNA) (16 : Int32) nN16 .null) (Q8_23 : Arv Z h8 b1065 k1068 .int (16 : Int32) ((.int l13_) :: nZ15) (.int 0)) (hp_ : (l13_ = 0 ∨ l13_ = 1 ∨ l13_ = 2)), EndsW p e below s T8 (mkF m 203 #[ci p0, ci p1, ci p2, ci p3, ci p4, cr w_EMPTY, cr b606, cr b1019, cr b1034, ci 2, ci 0, ci l11_, ci l12_, ci l13_, ci l14_, ci l15_, cr b1038, cu, cu, cu, cu] []) room_1.cells room_1.slots (fun v h L => v = some (.int 1) ∧ Fr n0 L) := by
   intro T8 h8 lcs u1_ u2_ z_ l11_ l12_ l13_ l14_ l15_ X8 eT8 O8 N8 K8 hk_8 Q8_0 Q8_1 Q8_2 Q8_3 Q8_4 Q8_5 Q8_6 Q8_7 Q8_8 Q8_9 Q8_10 Q8_11 Q8_12 Q8_13 Q8_14 Q8_15 Q8_16 Q8_17 Q8_18 Q8_19 Q8_20 Q8_21 Q8_22 Q8_23 hp_
   show EndsW _ _ _ _ T8 (mkF m 203 #[ci p0, ci p1, ci p2, ci p3, ci p4, cr w_EMPTY, cr b606, cr b1019, cr b1034, ci 2, ci 0, ci l11_, ci l12_, ci l13_, ci l14_, ci l15_, cr b1038, cu, cu, cu, cu] []) _ _ _
   refine walW X8 hx hby at_203 rfl rfl ?_
   refine wvbW X8 hx hZ hown hw hml rfl hby at_205 437 rfl 438 rfl 440 rfl 439 rfl (by decide) eT8 Q8_13 (rx56_1259 l Z a0 hw [] n0 h8 O8  b1038 b1063 k1066 b1023 u1_ b1064 k1067 u2_ b1065 k1068 l13_ z_ Q8_17 Q8_13 Q8_18 Q8_21 Q8_14 Q8_19 Q8_22 Q8_15 Q8_20 Q8_23 Q8_16 Y1062_1 Y1062_4 (Ne.symm ne_b1038_b1063) (Ne.symm ne_b1038_b1064) (Ne.symm ne_b1038_b1065) (Ne.symm hne1062_b1063_b1064) g_b1038 g_b1063 g_b1064) 441 rfl 395 rfl (by decide) (by decide) [] [] pdx_11 rfl rfl rfl (by decide) (by decide) rfl ?_
   intro _ T1302 _ X1302 hQ1302
   obtain ⟨rfl, N1302q, K1302c, Y1302_0, Y1302_1, Y1302_2, Y1302_3, Y1302_4, Y1302_5, Y1302_6, Y1302_7, Y1302_8⟩ := hQ1302
   have N1302 := Fr.app N8 N1302q
   obtain ⟨h1302, e1302⟩ : ∃ z, T1302.heap = z := ⟨_, rfl⟩
   rw [e1302] at K1302c Y1302_0 Y1302_1 Y1302_2 Y1302_3 Y1302_4 Y1302_5 Y1302_6 Y1302_7 Y1302_8
   have K1302 := K8.trans K1302c (allS (Or.inr sz_b1038) (allS (Or.inr sz_b1063) (allS (Or.inr sz_b1064) all0)))
   have O1302 := O8.keep K1302c (allS g_b1038 (allS g_b1063 (allS g_b1064 all0)))
   refine wilW X1302 hx hby at_208 rfl ?_
   refine wicW X1302 hx hby at_210 ?_
   refine wcyW (pc := 211) (pc' := 236) X1302 hx hby at_211 (feq (by decide : ¬ ((2 : Int32) = (1 : Int32)))).2 ?_
   refine wilW X1302 hx hby at_236 rfl ?_
   refine wicW X1302 hx hby at_238 ?_
   refine wcnW X1302 hx hby at_239 (teq (by decide : (2 : Int32) = (2 : Int32))).2 ?_
   refine wilW X1302 hx hby at_242 rfl ?_
   refine wgoW (pc := 244) (pc' := 249) X1302 hx hby at_244 ?_
   refine wstW X1302 hx hby at_249 (l' := #[ci p0, ci p1, ci p2, ci p3, ci p4, cr w_EMPTY, cr b606, cr b1019, cr b1034, ci 2, ci 0, ci l11_, ci l12_, ci l13_, ci l14_, ci l15_, cr b1038, ci 0, cu, cu, cu]) rfl ?_
   refine wilW X1302 hx hby at_251 rfl ?_
   refine wicW X1302 hx hby at_253 ?_
   refine wcnW X1302 hx hby at_254 (teq (by decide : (2 : Int32) = (2 : Int32))).2 ?_
   refine wilW X1302 hx hby at_257 rfl ?_
   refine wgoW (pc := 259) (pc' := 264) X1302 hx hby at_259 ?_
   refine wstW X1302 hx hby at_264 (l' := #[ci p0, ci p1, ci p2, ci p3, ci p4, cr w_EMPTY, cr b606, cr b1019, cr b1034, ci 2, ci 0, ci l11_, ci l12_, ci l13_, ci l14_, ci l15_, cr b1038, ci 0, ci l13_, cu, cu]) rfl ?_
   have c1303 := Q8_2.keep K1302c (ninS ne_b1019_b1038 (ninS ne_b1019_b1063 (ninS ne_b1019_b1064 nin0)))
   have c1304 := Q8_3.keep K1302c (ninS ne_b1019_b1038 (ninS ne_b1019_b1063 (ninS ne_b1019_b1064 nin0)))
   have c1305 := Q8_5.keep K1302c (ninS ne_b1017_b1038 (ninS ne_b1017_b1063 (ninS ne_b1017_b1064 nin0)))
   have c1306 := Q8_6.keep K1302c (ninS ne_b1018_b1038 (ninS ne_b1018_b1063 (ninS ne_b1018_b1064 nin0)))
   have c1307 := Q8_8.keep K1302c (ninS ne_b1014_b1038 (ninS ne_b1014_b1063 (ninS ne_b1014_b1064 nin0)))
   have c1308 := Q8_10.keep K1302c (ninS ne_b1034_b1038 (ninS ne_b1034_b1063 (ninS ne_b1034_b1064 nin0)))
   have c1309 := Q8_12.keep K1302c (ninS ne_b1023_b1038 (ninS ne_b1023_b1063 (ninS ne_b1023_b1064 nin0)))
   exact J266_a _ _ _ (2 : Int32) (1 : Int32) l13_ (0 : Int32) l11_ l12_ l13_ l14_ l15_ X1302 e1302 O1302 N1302 K1302 (Nat.le_trans hk_8 K1302c.1) (Q8_0.keep K1302c) (Q8_1.keep K1302c) c1303 c1304 (Q8_4.keep K1302c) c1305 c1306 (Q8_7.keep K1302c) c1307 (Q8_9.keep K1302c) c1308 (Q8_11.keep K1302c) c1309 (Q8_13.keep K1302c) Y1302_3 Y1302_6 Y1302_8 Y1302_0 hp_ rfl
  have J203_3o : ∀ (T8 : State) (h8 : Heap) (lcs : List Loc) (u1_ : Value) (u2_ : Value) (z_ : Int32) (x0_ : Value) (y0_ : Value) (z0_ : Int32) (l10_ : Int32) (l12_ : Int32) (l13_ : Int32) (l14_ : Int32) (l15_ : Int32) (X8 : Stand p l e room_1 (s.setVm T798.vm) m #[(.int p0), (.int p1), (.int p2), (.int p3), (.int p4)] below meth c T8 lcs 23 162) (eT8 : T8.heap = h8) (O8 : Old Z n0 h8) (N8 : Fr n0 lcs) (K8 : Keep h0 h8 []) (hk_8 : T798.heap.size ≤ h8.size) (Q8_0 : Exa Z h8 b606 cST) (Q8_1 : Exa Z h8 b1019 cJO) (Q8_2 : f4_ Z h8 b1019 (.ref b1017)) (Q8_3 : f3_ Z h8 b1019 (.ref b1014)) (Q8_4 : Exa Z h8 b1017 cNA) (Q8_5 : f34_ Z h8 b1017 (.ref b1018)) (Q8_6 : Arv Z h8 b1018 k1022 (.object cST) (1 : Int32) [(.ref b606)] .null) (Q8_7 : Exa Z h8 b1014 cAJ) (Q8_8 : Arv Z h8 b1014 k1021 (.object cJV) (1 : Int32) [(.ref w_EMPTY)] .null) (Q8_9 : Exa Z h8 b1034 cJA) (Q8_10 : f12_ Z h8 b1034 (.ref b1023)) (Q8_11 : Exa Z h8 b1023 cAJ) (Q8_12 : Arv Z h8 b1023 k1023 (.object cJV) (2 : Int32) [(.ref w_EMPTY), (.ref b1019)] .null) (Q8_13 : Exa Z h8 b1038 cWK) (Q8_14 : f6_ Z h8 b1038 u1_) (Q8_15 : f7_ Z h8 b1038 u2_) (Q8_16 : f8_ Z h8 b1038 (.int z_)) (Q8_17 : f5_ Z h8 b1038 (.int 3)) (Q8_18 : f9_ Z h8 b1038 (.ref b1063)) (Q8_19 : f10_ Z h8 b1038 (.ref b1064)) (Q8_20 : f11_ Z h8 b1038 (.ref b1065)) (Q8_21 : Arv Z h8 b1063 k1066 (.array (.object cJV)) (16 : Int32) (x0_ :: (.ref b1014) :: nN14) .null) (Q8_22 : Arv Z h8 b1064 k1067 (.object cNA) (16 : Int32) (y0_ :: (.ref b1017) :: nN14) .null) (Q8_23 : Arv Z h8 b1065 k1068 .int (16 : Int32) ((.int z0_) :: (.int l14_) :: nZ14) (.int 0)) (hp_ : (l14_ = 0 ∨ l14_ = 1)), EndsW p e below s T8 (mkF m 203 #[ci p0, ci p1, ci p2, ci p3, ci p4, cr w_EMPTY, cr b606, cr b1019, cr b1034, ci 3, ci l10_, ci 1, ci l12_, ci l13_, ci l14_, ci l15_, cr b1038, cu, cu, cu, cu] []) room_1.cells room_1.slots (fun v h L => v = some (.int 1) ∧ Fr n0 L) := by
   intro T8 h8 lcs u1_ u2_ z_ x0_ y0_ z0_ l10_ l12_ l13_ l14_ l15_ X8 eT8 O8 N8 K8 hk_8 Q8_0 Q8_1 Q8_2 Q8_3 Q8_4 Q8_5 Q8_6 Q8_7 Q8_8 Q8_9 Q8_10 Q8_11 Q8_12 Q8_13 Q8_14 Q8_15 Q8_16 Q8_17 Q8_18 Q8_19 Q8_20 Q8_21 Q8_22 Q8_23 hp_
   show EndsW _ _ _ _ T8 (mkF m 203 #[ci p0, ci p1, ci p2, ci p3, ci p4, cr w_EMPTY, cr b606, cr b1019, cr b1034, ci 3, ci l10_, ci 1, ci l12_, ci l13_, ci l14_, ci l15_, cr b1038, cu, cu, cu, cu] []) _ _ _
   refine walW X8 hx hby at_203 rfl rfl ?_
   show EndsW _ _ _ _ T8 (mkF m 205 #[ci p0, ci p1, ci p2, ci p3, ci p4, cr w_EMPTY, cr b606, cr b1019, cr b1034, ci 3, ci l10_, ci 1, ci l12_, ci l13_, ci l14_, ci l15_, cr b1038, cu, cu, cu, cu] [(.ref b1038)]) _ _ _
   refine wvbW X8 hx hZ hown hw hml rfl hby at_205 437 rfl 438 rfl 440 rfl 439 rfl (by decide) eT8 Q8_13 (rx56_1310 l Z a0 hw [] n0 h8 O8  b1038 b1063 k1066 x0_ b1014 u1_ b1064 k1067 y0_ b1017 u2_ b1065 k1068 z0_ l14_ z_ Q8_17 Q8_13 Q8_18 Q8_21 Q8_14 Q8_19 Q8_22 Q8_15 Q8_20 Q8_23 Q8_16 Y1062_1 Y1062_4 (Ne.symm ne_b1038_b1063) (Ne.symm ne_b1038_b1064) (Ne.symm ne_b1038_b1065) (Ne.symm hne1062_b1063_b1064) g_b1038 g_b1063 g_b1064) 441 rfl 395 rfl (by decide) (by decide) [] [] pdx_11 rfl rfl rfl (by decide) (by decide) rfl ?_
   intro _ T1353 _ X1353 hQ1353
   obtain ⟨rfl, N1353q, K1353c, Y1353_0, Y1353_1, Y1353_2, Y1353_3, Y1353_4, Y1353_5, Y1353_6, Y1353_7, Y1353_8⟩ := hQ1353
   have N1353 := Fr.app N8 N1353q
   obtain ⟨h1353, e1353⟩ : ∃ z, T1353.heap = z := ⟨_, rfl⟩
   rw [e1353] at K1353c Y1353_0 Y1353_1 Y1353_2 Y1353_3 Y1353_4 Y1353_5 Y1353_6 Y1353_7 Y1353_8
   have K1353 := K8.trans K1353c (allS (Or.inr sz_b1038) (allS (Or.inr sz_b1063) (allS (Or.inr sz_b1064) all0)))
   have O1353 := O8.keep K1353c (allS g_b1038 (allS g_b1063 (allS g_b1064 all0)))
   refine wilW X1353 hx hby at_208 rfl ?_
   refine wicW X1353 hx hby at_210 ?_
   refine wcyW (pc := 211) (pc' := 236) X1353 hx hby at_211 (feq (by decide : ¬ ((3 : Int32) = (1 : Int32)))).2 ?_
   refine wilW X1353 hx hby at_236 rfl ?_
   refine wicW X1353 hx hby at_238 ?_
   refine wcyW (pc := 239) (pc' := 247) X1353 hx hby at_239 (feq (by decide : ¬ ((3 : Int32) = (2 : Int32)))).2 ?_
   refine wilW X1353 hx hby at_247 rfl ?_
   refine wstW X1353 hx hby at_249 (l' := #[ci p0, ci p1, ci p2, ci p3, ci p4, cr w_EMPTY, cr b606, cr b1019, cr b1034, ci 3, ci l10_, ci 1, ci l12_, ci l13_, ci l14_, ci l15_, cr b1038, ci 1, cu, cu, cu]) rfl ?_
   refine wilW X1353 hx hby at_251 rfl ?_
   refine wicW X1353 hx hby at_253 ?_
   refine wcyW (pc := 254) (pc' := 262) X1353 hx hby at_254 (feq (by decide : ¬ ((3 : Int32) = (2 : Int32)))).2 ?_
   refine wilW X1353 hx hby at_262 rfl ?_
   refine wstW X1353 hx hby at_264 (l' := #[ci p0, ci p1, ci p2, ci p3, ci p4, cr w_EMPTY, cr b606, cr b1019, cr b1034, ci 3, ci l10_, ci 1, ci l12_, ci l13_, ci l14_, ci l15_, cr b1038, ci 1, ci l14_, cu, cu]) rfl ?_
   have c1354 := Q8_2.keep K1353c (ninS ne_b1019_b1038 (ninS ne_b1019_b1063 (ninS ne_b1019_b1064 nin0)))
   have c1355 := Q8_3.keep K1353c (ninS ne_b1019_b1038 (ninS ne_b1019_b1063 (ninS ne_b1019_b1064 nin0)))
   have c1356 := Q8_5.keep K1353c (ninS ne_b1017_b1038 (ninS ne_b1017_b1063 (ninS ne_b1017_b1064 nin0)))
   have c1357 := Q8_6.keep K1353c (ninS ne_b1018_b1038 (ninS ne_b1018_b1063 (ninS ne_b1018_b1064 nin0)))
   have c1358 := Q8_8.keep K1353c (ninS ne_b1014_b1038 (ninS ne_b1014_b1063 (ninS ne_b1014_b1064 nin0)))
   have c1359 := Q8_10.keep K1353c (ninS ne_b1034_b1038 (ninS ne_b1034_b1063 (ninS ne_b1034_b1064 nin0)))
   have c1360 := Q8_12.keep K1353c (ninS ne_b1023_b1038 (ninS ne_b1023_b1063 (ninS ne_b1023_b1064 nin0)))
   exact J266_o _ _ _ (3 : Int32) (2 : Int32) l14_ l10_ (1 : Int32) l12_ l13_ l14_ l15_ X1353 e1353 O1353 N1353 K1353 (Nat.le_trans hk_8 K1353c.1) (Q8_0.keep K1353c) (Q8_1.keep K1353c) c1354 c1355 (Q8_4.keep K1353c) c1356 c1357 (Q8_7.keep K1353c) c1358 (Q8_9.keep K1353c) c1359 (Q8_11.keep K1353c) c1360 (Q8_13.keep K1353c) Y1353_3 Y1353_6 Y1353_8 Y1353_0 hp_ rfl
  have J203_3a : ∀ (T8 : State) (h8 : Heap) (lcs : List Loc) (u1_ : Value) (u2_ : Value) (z_ : Int32) (x0_ : Value) (y0_ : Value) (z0_ : Int32) (l10_ : Int32) (l12_ : Int32) (l13_ : Int32) (l14_ : Int32) (l15_ : Int32) (X8 : Stand p l e room_1 (s.setVm T798.vm) m #[(.int p0), (.int p1), (.int p2), (.int p3), (.int p4)] below meth c T8 lcs 23 162) (eT8 : T8.heap = h8) (O8 : Old Z n0 h8) (N8 : Fr n0 lcs) (K8 : Keep h0 h8 []) (hk_8 : T798.heap.size ≤ h8.size) (Q8_0 : Exa Z h8 b606 cST) (Q8_1 : Exa Z h8 b1019 cJO) (Q8_2 : f4_ Z h8 b1019 (.ref b1017)) (Q8_3 : f3_ Z h8 b1019 (.ref b1014)) (Q8_4 : Exa Z h8 b1017 cNA) (Q8_5 : f34_ Z h8 b1017 (.ref b1018)) (Q8_6 : Arv Z h8 b1018 k1022 (.object cST) (1 : Int32) [(.ref b606)] .null) (Q8_7 : Exa Z h8 b1014 cAJ) (Q8_8 : Arv Z h8 b1014 k1021 (.object cJV) (1 : Int32) [(.ref w_EMPTY)] .null) (Q8_9 : Exa Z h8 b1034 cJA) (Q8_10 : f12_ Z h8 b1034 (.ref b1023)) (Q8_11 : Exa Z h8 b1023 cAJ) (Q8_12 : Arv Z h8 b1023 k1023 (.object cJV) (2 : Int32) [(.ref w_EMPTY), (.ref b1019)] .null) (Q8_13 : Exa Z h8 b1038 cWK) (Q8_14 : f6_ Z h8 b1038 u1_) (Q8_15 : f7_ Z h8 b1038 u2_) (Q8_16 : f8_ Z h8 b1038 (.int z_)) (Q8_17 : f5_ Z h8 b1038 (.int 3)) (Q8_18 : f9_ Z h8 b1038 (.ref b1063)) (Q8_19 : f10_ Z h8 b1038 (.ref b1064)) (Q8_20 : f11_ Z h8 b1038 (.ref b1065)) (Q8_21 : Arv Z h8 b1063 k1066 (.array (.object cJV)) (16 : Int32) (x0_ :: (.ref b1023) :: nN14) .null) (Q8_22 : Arv Z h8 b1064 k1067 (.object cNA) (16 : Int32) (y0_ :: nN15) .null) (Q8_23 : Arv Z h8 b1065 k1068 .int (16 : Int32) ((.int z0_) :: (.int l14_) :: nZ14) (.int 0)) (hp_ : (l14_ = 0 ∨ l14_ = 1 ∨ l14_ = 2)), EndsW p e below s T8 (mkF m 203 #[ci p0, ci p1, ci p2, ci p3, ci p4, cr w_EMPTY, cr b606, cr b1019, cr b1034, ci 3, ci l10_, ci 0, ci l12_, ci l13_, ci l14_, ci l15_, cr b1038, cu, cu, cu, cu] []) room_1.cells room_1.slots (fun v h L => v = some (.int 1) ∧ Fr n0 L) := by
   intro T8 h8 lcs u1_ u2_ z_ x0_ y0_ z0_ l10_ l12_ l13_ l14_ l15_ X8 eT8 O8 N8 K8 hk_8 Q8_0 Q8_1 Q8_2 Q8_3 Q8_4 Q8_5 Q8_6 Q8_7 Q8_8 Q8_9 Q8_10 Q8_11 Q8_12 Q8_13 Q8_14 Q8_15 Q8_16 Q8_17 Q8_18 Q8_19 Q8_20 Q8_21 Q8_22 Q8_23 hp_
   show EndsW _ _ _ _ T8 (mkF m 203 #[ci p0, ci p1, ci p2, ci p3, ci p4, cr w_EMPTY, cr b606, cr b1019, cr b1034, ci 3, ci l10_, ci 0, ci l12_, ci l13_, ci l14_, ci l15_, cr b1038, cu, cu, cu, cu] []) _ _ _
   refine walW X8 hx hby at_203 rfl rfl ?_
   refine wvbW X8 hx hZ hown hw hml rfl hby at_205 437 rfl 438 rfl 440 rfl 439 rfl (by decide) eT8 Q8_13 (rx56_1361 l Z a0 hw [] n0 h8 O8  b1038 b1063 k1066 x0_ b1023 u1_ b1064 k1067 y0_ u2_ b1065 k1068 z0_ l14_ z_ Q8_17 Q8_13 Q8_18 Q8_21 Q8_14 Q8_19 Q8_22 Q8_15 Q8_20 Q8_23 Q8_16 Y1062_1 Y1062_4 (Ne.symm ne_b1038_b1063) (Ne.symm ne_b1038_b1064) (Ne.symm ne_b1038_b1065) (Ne.symm hne1062_b1063_b1064) g_b1038 g_b1063 g_b1064) 441 rfl 395 rfl (by decide) (by decide) [] [] pdx_11 rfl rfl rfl (by decide) (by decide) rfl ?_
   intro _ T1404 _ X1404 hQ1404
   obtain ⟨rfl, N1404q, K1404c, Y1404_0, Y1404_1, Y1404_2, Y1404_3, Y1404_4, Y1404_5, Y1404_6, Y1404_7, Y1404_8⟩ := hQ1404
   have N1404 := Fr.app N8 N1404q
   obtain ⟨h1404, e1404⟩ : ∃ z, T1404.heap = z := ⟨_, rfl⟩
   rw [e1404] at K1404c Y1404_0 Y1404_1 Y1404_2 Y1404_3 Y1404_4 Y1404_5 Y1404_6 Y1404_7 Y1404_8
   have K1404 := K8.trans K1404c (allS (Or.inr sz_b1038) (allS (Or.inr sz_b1063) (allS (Or.inr sz_b1064) all0)))
   have O1404 := O8.keep K1404c (allS g_b1038 (allS g_b1063 (allS g_b1064 all0)))
   refine wilW X1404 hx hby at_208 rfl ?_
   refine wicW X1404 hx hby at_210 ?_
   refine wcyW (pc := 211) (pc' := 236) X1404 hx hby at_211 (feq (by decide : ¬ ((3 : Int32) = (1 : Int32)))).2 ?_
   refine wilW X1404 hx hby at_236 rfl ?_
   refine wicW X1404 hx hby at_238 ?_
   refine wcyW (pc := 239) (pc' := 247) X1404 hx hby at_239 (feq (by decide : ¬ ((3 : Int32) = (2 : Int32)))).2 ?_
   refine wilW X1404 hx hby at_247 rfl ?_
   refine wstW X1404 hx hby at_249 (l' := #[ci p0, ci p1, ci p2, ci p3, ci p4, cr w_EMPTY, cr b606, cr b1019, cr b1034, ci 3, ci l10_, ci 0, ci l12_, ci l13_, ci l14_, ci l15_, cr b1038, ci 0, cu, cu, cu]) rfl ?_
   refine wilW X1404 hx hby at_251 rfl ?_
   refine wicW X1404 hx hby at_253 ?_
   refine wcyW (pc := 254) (pc' := 262) X1404 hx hby at_254 (feq (by decide : ¬ ((3 : Int32) = (2 : Int32)))).2 ?_
   refine wilW X1404 hx hby at_262 rfl ?_
   refine wstW X1404 hx hby at_264 (l' := #[ci p0, ci p1, ci p2, ci p3, ci p4, cr w_EMPTY, cr b606, cr b1019, cr b1034, ci 3, ci l10_, ci 0, ci l12_, ci l13_, ci l14_, ci l15_, cr b1038, ci 0, ci l14_, cu, cu]) rfl ?_
   show EndsW _ _ _ _ T1404 (mkF m 266 #[ci p0, ci p1, ci p2, ci p3, ci p4, cr w_EMPTY, cr b606, cr b1019, cr b1034, ci 3, ci l10_, ci 0, ci l12_, ci l13_, ci l14_, ci l15_, cr b1038, ci 0, ci l14_, cu, cu] []) _ _ _
   have c1405 := Q8_2.keep K1404c (ninS ne_b1019_b1038 (ninS ne_b1019_b1063 (ninS ne_b1019_b1064 nin0)))
   have c1406 := Q8_3.keep K1404c (ninS ne_b1019_b1038 (ninS ne_b1019_b1063 (ninS ne_b1019_b1064 nin0)))
   have c1407 := Q8_5.keep K1404c (ninS ne_b1017_b1038 (ninS ne_b1017_b1063 (ninS ne_b1017_b1064 nin0)))
   have c1408 := Q8_6.keep K1404c (ninS ne_b1018_b1038 (ninS ne_b1018_b1063 (ninS ne_b1018_b1064 nin0)))
   have c1409 := Q8_8.keep K1404c (ninS ne_b1014_b1038 (ninS ne_b1014_b1063 (ninS ne_b1014_b1064 nin0)))
   have c1410 := Q8_10.keep K1404c (ninS ne_b1034_b1038 (ninS ne_b1034_b1063 (ninS ne_b1034_b1064 nin0)))
   have c1411 := Q8_12.keep K1404c (ninS ne_b1023_b1038 (ninS ne_b1023_b1063 (ninS ne_b1023_b1064 nin0)))
   exact J266_a _ _ _ (3 : Int32) (2 : Int32) l14_ l10_ (0 : Int32) l12_ l13_ l14_ l15_ X1404 e1404 O1404 N1404 K1404 (Nat.le_trans hk_8 K1404c.1) (Q8_0.keep K1404c) (Q8_1.keep K1404c) c1405 c1406 (Q8_4.keep K1404c) c1407 c1408 (Q8_7.keep K1404c) c1409 (Q8_9.keep K1404c) c1410 (Q8_11.keep K1404c) c1411 (Q8_13.keep K1404c) Y1404_3 Y1404_6 Y1404_8 Y1404_0 hp_ rfl
  have J178_o : ∀ (T8 : State) (h8 : Heap) (lcs : List Loc) (x0_ : Value) (y0_ : Value) (z0_ : Int32) (l10_ : Int32) (l12_ : Int32) (l13_ : Int32) (l14_ : Int32) (l15_ : Int32) (X8 : Stand p l e room_1 (s.setVm T798.vm) m #[(.int p0), (.int p1), (.int p2), (.int p3), (.int p4)] below meth c T8 lcs 23 162) (eT8 : T8.heap = h8) (O8 : Old Z n0 h8) (N8 : Fr n0 lcs) (K8 : Keep h0 h8 []) (hk_8 : T798.heap.size ≤ h8.size) (Q8_0 : Exa Z h8 b606 cST) (Q8_1 : Exa Z h8 b1019 cJO) (Q8_2 : f4_ Z h8 b1019 (.ref b1017)) (Q8_3 : f3_ Z h8 b1019 (.ref b1014)) (Q8_4 : Exa Z h8 b1017 cNA) (Q8_5 : f34_ Z h8 b1017 (.ref b1018)) (Q8_6 : Arv Z h8 b1018 k1022 (.object cST) (1 : Int32) [(.ref b606)] .null) (Q8_7 : Exa Z h8 b1014 cAJ) (Q8_8 : Arv Z h8 b1014 k1021 (.object cJV) (1 : Int32) [(.ref w_EMPTY)] .null) (Q8_9 : Exa Z h8 b1034 cJA) (Q8_10 : f12_ Z h8 b1034 (.ref b1023)) (Q8_11 : Exa Z h8 b1023 cAJ) (Q8_12 : Arv Z h8 b1023 k1023 (.object cJV) (2 : Int32) [(.ref w_EMPTY), (.ref b1019)] .null) (Q8_13 : Exa Z h8 b1038 cWK) (Q8_14 : f6_ Z h8 b1038 (.ref b1014)) (Q8_15 : f7_ Z h8 b1038 (.ref b1017)) (Q8_16 : f8_ Z h8 b1038 (.int l14_)) (Q8_17 : f5_ Z h8 b1038 (.int 2)) (Q8_18 : f9_ Z h8 b1038 (.ref b1063)) (Q8_19 : f10_ Z h8 b1038 (.ref b1064)) (Q8_20 : f11_ Z h8 b1038 (.ref b1065)) (Q8_21 : Arv Z h8 b1063 k1066 (.array (.object cJV)) (16 : Int32) (x0_ :: nN15) .null) (Q8_22 : Arv Z h8 b1064 k1067 (.object cNA) (16 : Int32) (y0_ :: nN15) .null) (Q8_23 : Arv Z h8 b1065 k1068 .int (16 : Int32) ((.int z0_) :: nZ15) (.int 0)) (hp_ : (l14_ = 0 ∨ l14_ = 1)) (ho3_ : (l12_ = 0 ∨ l12_ = 1)) (hpl3_ : ((l12_ = 0 ∧ (l15_ = 0 ∨ l15_ = 1 ∨ l15_ = 2)) ∨ (¬ l12_ = 0 ∧ (l15_ = 0 ∨ l15_ = 1)))), EndsW p e below s T8 (mkF m 178 #[ci p0, ci p1, ci p2, ci p3, ci p4, cr w_EMPTY, cr b606, cr b1019, cr b1034, ci 3, ci l10_, ci 1, ci l12_, ci l13_, ci l14_, ci l15_, cr b1038, cu, cu, cu, cu] []) room_1.cells room_1.slots (fun v h L => v = some (.int 1) ∧ Fr n0 L) := by
   intro T8 h8 lcs x0_ y0_ z0_ l10_ l12_ l13_ l14_ l15_ X8 eT8 O8 N8 K8 hk_8 Q8_0 Q8_1 Q8_2 Q8_3 Q8_4 Q8_5 Q8_6 Q8_7 Q8_8 Q8_9 Q8_10 Q8_11 Q8_12 Q8_13 Q8_14 Q8_15 Q8_16 Q8_17 Q8_18 Q8_19 Q8_20 Q8_21 Q8_22 Q8_23 hp_ ho3_ hpl3_
   show EndsW _ _ _ _ T8 (mkF m 178 #[ci p0, ci p1, ci p2, ci p3, ci p4, cr w_EMPTY, cr b606, cr b1019, cr b1034, ci 3, ci l10_, ci 1, ci l12_, ci l13_, ci l14_, ci l15_, cr b1038, cu, cu, cu, cu] []) _ _ _
   refine wilW X8 hx hby at_178 rfl ?_
   refine wicW X8 hx hby at_180 ?_
   refine wcnW X8 hx hby at_181 (flt (by decide : ¬ ((3 : Int32) < (3 : Int32)))).1 ?_
   rcases ho3_ with rfl | rfl
   ·have hp12_ : (l15_ = 0 ∨ l15_ = 1 ∨ l15_ = 2) := hpl3_.elim (fun z => z.2) (fun z => absurd rfl z.1)
    show EndsW _ _ _ _ T8 (mkF m 184 #[ci p0, ci p1, ci p2, ci p3, ci p4, cr w_EMPTY, cr b606, cr b1019, cr b1034, ci 3, ci l10_, ci 1, ci 0, ci l13_, ci l14_, ci l15_, cr b1038, cu, cu, cu, cu] []) _ _ _
    refine walW X8 hx hby at_184 rfl rfl ?_
    refine wilW X8 hx hby at_186 rfl ?_
    refine wiyW (pc := 188) (pc' := 196) X8 hx hby at_188 ((if0 _ _).trans (teq (by decide : (0 : Int32) = (0 : Int32))).1) ?_
    refine walW X8 hx hby at_196 rfl rfl ?_
    refine wilW X8 hx hby at_198 rfl ?_
    refine wsbW X8 hx hZ hown hw hml rfl hby at_200 411 rfl 412 rfl 390 rfl 413 rfl (by decide) eT8 (rmStep_2oa l Z a0 hw [] n0 h8 O8 G1 w_EMPTY GF b1038 b1063 b1064 b1065 b1019 b1017 b1014 b1034 b1023 k1021 k1023 k1066 k1067 k1068 x0_ y0_ z0_ l14_ l15_ g_b1038 g_b1063 g_b1064 g_b1065 NEW ⟨Q8_13, Q8_1, Q8_4, Q8_7, Q8_9, Q8_11, Q8_2, Q8_3, Q8_10, Q8_14, Q8_15, Q8_16, Q8_17, Q8_18, Q8_19, Q8_20, Q8_8, Q8_12, Q8_21, Q8_22, Q8_23, Y1062_1, Y1062_4⟩ hp12_) (by decide) (by decide) [(.ref b1038), (.ref b1034), (.int l15_)] [] pdx_44 rfl rfl rfl (by decide) (by decide) rfl ?_
    intro _ T1412 _ X1412 hQ1412
    obtain ⟨rfl, N1412q, K1412c, F1412_values, F1412_names, F1412_place, F1412_depth, F1412_outerValues, F1412_outerNames, F1412_outerPlaces, V1412_ov_, V1412_on_, V1412_op_⟩ := hQ1412
    have N1412 := Fr.app N8 N1412q
    obtain ⟨h1412, e1412⟩ : ∃ z, T1412.heap = z := ⟨_, rfl⟩
    rw [e1412] at K1412c F1412_values F1412_names F1412_place F1412_depth F1412_outerValues F1412_outerNames F1412_outerPlaces V1412_ov_ V1412_on_ V1412_op_
    have K1412 := K8.trans K1412c (allS (Or.inr sz_b1038) (allS (Or.inr sz_b1063) (allS (Or.inr sz_b1064) (allS (Or.inr sz_b1065) all0))))
    have O1412 := O8.keep K1412c (allS g_b1038 (allS g_b1063 (allS g_b1064 (allS g_b1065 all0))))
    have c1413 := Q8_2.keep K1412c (ninS ne_b1019_b1038 (ninS ne_b1019_b1063 (ninS ne_b1019_b1064 (ninS ne_b1019_b1065 nin0))))
    have c1414 := Q8_3.keep K1412c (ninS ne_b1019_b1038 (ninS ne_b1019_b1063 (ninS ne_b1019_b1064 (ninS ne_b1019_b1065 nin0))))
    have c1415 := Q8_5.keep K1412c (ninS ne_b1017_b1038 (ninS ne_b1017_b1063 (ninS ne_b1017_b1064 (ninS ne_b1017_b1065 nin0))))
    have c1416 := Q8_6.keep K1412c (ninS ne_b1018_b1038 (ninS ne_b1018_b1063 (ninS ne_b1018_b1064 (ninS ne_b1018_b1065 nin0))))
    have c1417 := Q8_8.keep K1412c (ninS ne_b1014_b1038 (ninS ne_b1014_b1063 (ninS ne_b1014_b1064 (ninS ne_b1014_b1065 nin0))))
    have c1418 := Q8_10.keep K1412c (ninS ne_b1034_b1038 (ninS ne_b1034_b1063 (ninS ne_b1034_b1064 (ninS ne_b1034_b1065 nin0))))
    have c1419 := Q8_12.keep K1412c (ninS ne_b1023_b1038 (ninS ne_b1023_b1063 (ninS ne_b1023_b1064 (ninS ne_b1023_b1065 nin0))))
    exact J203_3o _ _ _ (.ref b1023) .null l15_ x0_ y0_ z0_ l10_ (0 : Int32) l13_ l14_ l15_ X1412 e1412 O1412 N1412 K1412 (Nat.le_trans hk_8 K1412c.1) (Q8_0.keep K1412c) (Q8_1.keep K1412c) c1413 c1414 (Q8_4.keep K1412c) c1415 c1416 (Q8_7.keep K1412c) c1417 (Q8_9.keep K1412c) c1418 (Q8_11.keep K1412c) c1419 (Q8_13.keep K1412c) F1412_values F1412_names F1412_place F1412_depth F1412_outerValues F1412_outerNames F1412_outerPlaces V1412_ov_ V1412_on_ V1412_op_ hp_
   ·have hp12_ : (l15_ = 0 ∨ l15_ = 1) := hpl3_.elim (fun z => absurd z.1 (by decide)) (fun z => z.2)
    show EndsW _ _ _ _ T8 (mkF m 184 #[ci p0, ci p1, ci p2, ci p3, ci p4, cr w_EMPTY, cr b606, cr b1019, cr b1034, ci 3, ci l10_, ci 1, ci 1, ci l13_, ci l14_, ci l15_, cr b1038, cu, cu, cu, cu] []) _ _ _
    refine walW X8 hx hby at_184 rfl rfl ?_
    refine wilW X8 hx hby at_186 rfl ?_
    refine winW X8 hx hby at_188 ((if0 _ _).trans (feq (by decide : ¬ ((1 : Int32) = (0 : Int32)))).1) ?_
    refine walW X8 hx hby at_191 rfl rfl ?_
    refine wgoW (pc := 193) (pc' := 198) X8 hx hby at_193 ?_
    refine wilW X8 hx hby at_198 rfl ?_
    refine wsbW X8 hx hZ hown hw hml rfl hby at_200 411 rfl 412 rfl 390 rfl 413 rfl (by decide) eT8 (rmStep_2oo l Z a0 hw [] n0 h8 O8 G1 w_EMPTY GF b1038 b1063 b1064 b1065 b1019 b1017 b1014 b1034 b1023 k1021 k1023 k1066 k1067 k1068 x0_ y0_ z0_ l14_ l15_ g_b1038 g_b1063 g_b1064 g_b1065 NEW ⟨Q8_13, Q8_1, Q8_4, Q8_7, Q8_9, Q8_11, Q8_2, Q8_3, Q8_10, Q8_14, Q8_15, Q8_16, Q8_17, Q8_18, Q8_19, Q8_20, Q8_8, Q8_12, Q8_21, Q8_22, Q8_23, Y1062_1, Y1062_4⟩ hp12_) (by decide) (by decide) [(.ref b1038), (.ref b1019), (.int l15_)] [] pdx_44 rfl rfl rfl (by decide) (by decide) rfl ?_
    intro _ T1420 _ X1420 hQ1420
    obtain ⟨rfl, N1420q, K1420c, F1420_values, F1420_names, F1420_place, F1420_depth, F1420_outerValues, F1420_outerNames, F1420_outerPlaces, V1420_ov_, V1420_on_, V1420_op_⟩ := hQ1420
    have N1420 := Fr.app N8 N1420q
    obtain ⟨h1420, e1420⟩ : ∃ z, T1420.heap = z := ⟨_, rfl⟩
    rw [e1420] at K1420c F1420_values F1420_names F1420_place F1420_depth F1420_outerValues F1420_outerNames F1420_outerPlaces V1420_ov_ V1420_on_ V1420_op_
    have K1420 := K8.trans K1420c (allS (Or.inr sz_b1038) (allS (Or.inr sz_b1063) (allS (Or.inr sz_b1064) (allS (Or.inr sz_b1065) all0))))
    have O1420 := O8.keep K1420c (allS g_b1038 (allS g_b1063 (allS g_b1064 (allS g_b1065 all0))))
    have c1421 := Q8_2.keep K1420c (ninS ne_b1019_b1038 (ninS ne_b1019_b1063 (ninS ne_b1019_b1064 (ninS ne_b1019_b1065 nin0))))
    have c1422 := Q8_3.keep K1420c (ninS ne_b1019_b1038 (ninS ne_b1019_b1063 (ninS ne_b1019_b1064 (ninS ne_b1019_b1065 nin0))))
    have c1423 := Q8_5.keep K1420c (ninS ne_b1017_b1038 (ninS ne_b1017_b1063 (ninS ne_b1017_b1064 (ninS ne_b1017_b1065 nin0))))
    have c1424 := Q8_6.keep K1420c (ninS ne_b1018_b1038 (ninS ne_b1018_b1063 (ninS ne_b1018_b1064 (ninS ne_b1018_b1065 nin0))))
    have c1425 := Q8_8.keep K1420c (ninS ne_b1014_b1038 (ninS ne_b1014_b1063 (ninS ne_b1014_b1064 (ninS ne_b1014_b1065 nin0))))
    have c1426 := Q8_10.keep K1420c (ninS ne_b1034_b1038 (ninS ne_b1034_b1063 (ninS ne_b1034_b1064 (ninS ne_b1034_b1065 nin0))))
    have c1427 := Q8_12.keep K1420c (ninS ne_b1023_b1038 (ninS ne_b1023_b1063 (ninS ne_b1023_b1064 (ninS ne_b1023_b1065 nin0))))
    exact J203_3o _ _ _ (.ref b1014) (.ref b1017) l15_ x0_ y0_ z0_ l10_ (1 : Int32) l13_ l14_ l15_ X1420 e1420 O1420 N1420 K1420 (Nat.le_trans hk_8 K1420c.1) (Q8_0.keep K1420c) (Q8_1.keep K1420c) c1421 c1422 (Q8_4.keep K1420c) c1423 c1424 (Q8_7.keep K1420c) c1425 (Q8_9.keep K1420c) c1426 (Q8_11.keep K1420c) c1427 (Q8_13.keep K1420c) F1420_values F1420_names F1420_place F1420_depth F1420_outerValues F1420_outerNames F1420_outerPlaces V1420_ov_ V1420_on_ V1420_op_ hp_
  have J178_a : ∀ (T8 : State) (h8 : Heap) (lcs : List Loc) (x0_ : Value) (y0_ : Value) (z0_ : Int32) (l10_ : Int32) (l12_ : Int32) (l13_ : Int32) (l14_ : Int32) (l15_ : Int32) (X8 : Stand p l e room_1 (s.setVm T798.vm) m #[(.int p0), (.int p1), (.int p2), (.int p3), (.int p4)] below meth c T8 lcs 23 162) (eT8 : T8.heap = h8) (O8 : Old Z n0 h8) (N8 : Fr n0 lcs) (K8 : Keep h0 h8 []) (hk_8 : T798.heap.size ≤ h8.size) (Q8_0 : Exa Z h8 b606 cST) (Q8_1 : Exa Z h8 b1019 cJO) (Q8_2 : f4_ Z h8 b1019 (.ref b1017)) (Q8_3 : f3_ Z h8 b1019 (.ref b1014)) (Q8_4 : Exa Z h8 b1017 cNA) (Q8_5 : f34_ Z h8 b1017 (.ref b1018)) (Q8_6 : Arv Z h8 b1018 k1022 (.object cST) (1 : Int32) [(.ref b606)] .null) (Q8_7 : Exa Z h8 b1014 cAJ) (Q8_8 : Arv Z h8 b1014 k1021 (.object cJV) (1 : Int32) [(.ref w_EMPTY)] .null) (Q8_9 : Exa Z h8 b1034 cJA) (Q8_10 : f12_ Z h8 b1034 (.ref b1023)) (Q8_11 : Exa Z h8 b1023 cAJ) (Q8_12 : Arv Z h8 b1023 k1023 (.object cJV) (2 : Int32) [(.ref w_EMPTY), (.ref b1019)] .null) (Q8_13 : Exa Z h8 b1038 cWK) (Q8_14 : f6_ Z h8 b1038 (.ref b1023)) (Q8_15 : f7_ Z h8 b1038 .null) (Q8_16 : f8_ Z h8 b1038 (.int l14_)) (Q8_17 : f5_ Z h8 b1038 (.int 2)) (Q8_18 : f9_ Z h8 b1038 (.ref b1063)) (Q8_19 : f10_ Z h8 b1038 (.ref b1064)) (Q8_20 : f11_ Z h8 b1038 (.ref b1065)) (Q8_21 : Arv Z h8 b1063 k1066 (.array (.object cJV)) (16 : Int32) (x0_ :: nN15) .null) (Q8_22 : Arv Z h8 b1064 k1067 (.object cNA) (16 : Int32) (y0_ :: nN15) .null) (Q8_23 : Arv Z h8 b1065 k1068 .int (16 : Int32) ((.int z0_) :: nZ15) (.int 0)) (hp_ : (l14_ = 0 ∨ l14_ = 1 ∨ l14_ = 2)) (ho3_ : (l12_ = 0 ∨ l12_ = 1)) (hpl3_ : ((l12_ = 0 ∧ (l15_ = 0 ∨ l15_ = 1 ∨ l15_ = 2)) ∨ (¬ l12_ = 0 ∧ (l15_ = 0 ∨ l15_ = 1)))), EndsW p e below s T8 (mkF m 178 #[ci p0, ci p1, ci p2, ci p3, ci p4, cr w_EMPTY, cr b606, cr b1019, cr b1034, ci 3, ci l10_, ci 0, ci l12_, ci l13_, ci l14_, ci l15_, cr b1038, cu, cu, cu, cu] []) room_1.cells room_1.slots (fun v h L => v = some (.int 1) ∧ Fr n0 L) := by
   intro T8 h8 lcs x0_ y0_ z0_ l10_ l12_ l13_ l14_ l15_ X8 eT8 O8 N8 K8 hk_8 Q8_0 Q8_1 Q8_2 Q8_3 Q8_4 Q8_5 Q8_6 Q8_7 Q8_8 Q8_9 Q8_10 Q8_11 Q8_12 Q8_13 Q8_14 Q8_15 Q8_16 Q8_17 Q8_18 Q8_19 Q8_20 Q8_21 Q8_22 Q8_23 hp_ ho3_ hpl3_
   show EndsW _ _ _ _ T8 (mkF m 178 #[ci p0, ci p1, ci p2, ci p3, ci p4, cr w_EMPTY, cr b606, cr b1019, cr b1034, ci 3, ci l10_, ci 0, ci l12_, ci l13_, ci l14_, ci l15_, cr b1038, cu, cu, cu, cu] []) _ _ _
   refine wilW X8 hx hby at_178 rfl ?_
   refine wicW X8 hx hby at_180 ?_
   refine wcnW X8 hx hby at_181 (flt (by decide : ¬ ((3 : Int32) < (3 : Int32)))).1 ?_
   rcases ho3_ with rfl | rfl
   ·have hp12_ : (l15_ = 0 ∨ l15_ = 1 ∨ l15_ = 2) := hpl3_.elim (fun z => z.2) (fun z => absurd rfl z.1)
    show EndsW _ _ _ _ T8 (mkF m 184 #[ci p0, ci p1, ci p2, ci p3, ci p4, cr w_EMPTY, cr b606, cr b1019, cr b1034, ci 3, ci l10_, ci 0, ci 0, ci l13_, ci l14_, ci l15_, cr b1038, cu, cu, cu, cu] []) _ _ _
    refine walW X8 hx hby at_184 rfl rfl ?_
    refine wilW X8 hx hby at_186 rfl ?_
    refine wiyW (pc := 188) (pc' := 196) X8 hx hby at_188 ((if0 _ _).trans (teq (by decide : (0 : Int32) = (0 : Int32))).1) ?_
    refine walW X8 hx hby at_196 rfl rfl ?_
    refine wilW X8 hx hby at_198 rfl ?_
    refine wsbW X8 hx hZ hown hw hml rfl hby at_200 411 rfl 412 rfl 390 rfl 413 rfl (by decide) eT8 (rmStep_2aa l Z a0 hw [] n0 h8 O8 G1 w_EMPTY GF b1038 b1063 b1064 b1065 b1019 b1017 b1014 b1034 b1023 k1021 k1023 k1066 k1067 k1068 x0_ y0_ z0_ l14_ l15_ g_b1038 g_b1063 g_b1064 g_b1065 NEW ⟨Q8_13, Q8_1, Q8_4, Q8_7, Q8_9, Q8_11, Q8_2, Q8_3, Q8_10, Q8_14, Q8_15, Q8_16, Q8_17, Q8_18, Q8_19, Q8_20, Q8_8, Q8_12, Q8_21, Q8_22, Q8_23, Y1062_1, Y1062_4⟩ hp12_) (by decide) (by decide) [(.ref b1038), (.ref b1034), (.int l15_)] [] pdx_44 rfl rfl rfl (by decide) (by decide) rfl ?_
    intro _ T1428 _ X1428 hQ1428
    obtain ⟨rfl, N1428q, K1428c, F1428_values, F1428_names, F1428_place, F1428_depth, F1428_outerValues, F1428_outerNames, F1428_outerPlaces, V1428_ov_, V1428_on_, V1428_op_⟩ := hQ1428
    have N1428 := Fr.app N8 N1428q
    obtain ⟨h1428, e1428⟩ : ∃ z, T1428.heap = z := ⟨_, rfl⟩
    rw [e1428] at K1428c F1428_values F1428_names F1428_place F1428_depth F1428_outerValues F1428_outerNames F1428_outerPlaces V1428_ov_ V1428_on_ V1428_op_
    have K1428 := K8.trans K1428c (allS (Or.inr sz_b1038) (allS (Or.inr sz_b1063) (allS (Or.inr sz_b1064) (allS (Or.inr sz_b1065) all0))))
    have O1428 := O8.keep K1428c (allS g_b1038 (allS g_b1063 (allS g_b1064 (allS g_b1065 all0))))
    show EndsW _ _ _ _ T1428 (mkF m 203 #[ci p0, ci p1, ci p2, ci p3, ci p4, cr w_EMPTY, cr b606, cr b1019, cr b1034, ci 3, ci l10_, ci 0, ci 0, ci l13_, ci l14_, ci l15_, cr b1038, cu, cu, cu, cu] []) _ _ _
    have c1429 := Q8_2.keep K1428c (ninS ne_b1019_b1038 (ninS ne_b1019_b1063 (ninS ne_b1019_b1064 (ninS ne_b1019_b1065 nin0))))
    have c1430 := Q8_3.keep K1428c (ninS ne_b1019_b1038 (ninS ne_b1019_b1063 (ninS ne_b1019_b1064 (ninS ne_b1019_b1065 nin0))))
    have c1431 := Q8_5.keep K1428c (ninS ne_b1017_b1038 (ninS ne_b1017_b1063 (ninS ne_b1017_b1064 (ninS ne_b1017_b1065 nin0))))
    have c1432 := Q8_6.keep K1428c (ninS ne_b1018_b1038 (ninS ne_b1018_b1063 (ninS ne_b1018_b1064 (ninS ne_b1018_b1065 nin0))))
    have c1433 := Q8_8.keep K1428c (ninS ne_b1014_b1038 (ninS ne_b1014_b1063 (ninS ne_b1014_b1064 (ninS ne_b1014_b1065 nin0))))
    have c1434 := Q8_10.keep K1428c (ninS ne_b1034_b1038 (ninS ne_b1034_b1063 (ninS ne_b1034_b1064 (ninS ne_b1034_b1065 nin0))))
    have c1435 := Q8_12.keep K1428c (ninS ne_b1023_b1038 (ninS ne_b1023_b1063 (ninS ne_b1023_b1064 (ninS ne_b1023_b1065 nin0))))
    exact J203_3a _ _ _ (.ref b1023) .null l15_ x0_ y0_ z0_ l10_ (0 : Int32) l13_ l14_ l15_ X1428 e1428 O1428 N1428 K1428 (Nat.le_trans hk_8 K1428c.1) (Q8_0.keep K1428c) (Q8_1.keep K1428c) c1429 c1430 (Q8_4.keep K1428c) c1431 c1432 (Q8_7.keep K1428c) c1433 (Q8_9.keep K1428c) c1434 (Q8_11.keep K1428c) c1435 (Q8_13.keep K1428c) F1428_values F1428_names F1428_place F1428_depth F1428_outerValues F1428_outerNames F1428_outerPlaces V1428_ov_ V1428_on_ V1428_op_ hp_
   ·have hp12_ : (l15_ = 0 ∨ l15_ = 1) := hpl3_.elim (fun z => absurd z.1 (by decide)) (fun z => z.2)
    show EndsW _ _ _ _ T8 (mkF m 184 #[ci p0, ci p1, ci p2, ci p3, ci p4, cr w_EMPTY, cr b606, cr b1019, cr b1034, ci 3, ci l10_, ci 0, ci 1, ci l13_, ci l14_, ci l15_, cr b1038, cu, cu, cu, cu] []) _ _ _
    refine walW X8 hx hby at_184 rfl rfl ?_
    refine wilW X8 hx hby at_186 rfl ?_
    refine winW X8 hx hby at_188 ((if0 _ _).trans (feq (by decide : ¬ ((1 : Int32) = (0 : Int32)))).1) ?_
    refine walW X8 hx hby at_191 rfl rfl ?_
    refine wgoW (pc := 193) (pc' := 198) X8 hx hby at_193 ?_
    refine wilW X8 hx hby at_198 rfl ?_
    refine wsbW X8 hx hZ hown hw hml rfl hby at_200 411 rfl 412 rfl 390 rfl 413 rfl (by decide) eT8 (rmStep_2ao l Z a0 hw [] n0 h8 O8 G1 w_EMPTY GF b1038 b1063 b1064 b1065 b1019 b1017 b1014 b1034 b1023 k1021 k1023 k1066 k1067 k1068 x0_ y0_ z0_ l14_ l15_ g_b1038 g_b1063 g_b1064 g_b1065 NEW ⟨Q8_13, Q8_1, Q8_4, Q8_7, Q8_9, Q8_11, Q8_2, Q8_3, Q8_10, Q8_14, Q8_15, Q8_16, Q8_17, Q8_18, Q8_19, Q8_20, Q8_8, Q8_12, Q8_21, Q8_22, Q8_23, Y1062_1, Y1062_4⟩ hp12_) (by decide) (by decide) [(.ref b1038), (.ref b1019), (.int l15_)] [] pdx_44 rfl rfl rfl (by decide) (by decide) rfl ?_
    intro _ T1436 _ X1436 hQ1436
    obtain ⟨rfl, N1436q, K1436c, F1436_values, F1436_names, F1436_place, F1436_depth, F1436_outerValues, F1436_outerNames, F1436_outerPlaces, V1436_ov_, V1436_on_, V1436_op_⟩ := hQ1436
    have N1436 := Fr.app N8 N1436q
    obtain ⟨h1436, e1436⟩ : ∃ z, T1436.heap = z := ⟨_, rfl⟩
    rw [e1436] at K1436c F1436_values F1436_names F1436_place F1436_depth F1436_outerValues F1436_outerNames F1436_outerPlaces V1436_ov_ V1436_on_ V1436_op_
    have K1436 := K8.trans K1436c (allS (Or.inr sz_b1038) (allS (Or.inr sz_b1063) (allS (Or.inr sz_b1064) (allS (Or.inr sz_b1065) all0))))
    have O1436 := O8.keep K1436c (allS g_b1038 (allS g_b1063 (allS g_b1064 (allS g_b1065 all0))))
    have c1437 := Q8_2.keep K1436c (ninS ne_b1019_b1038 (ninS ne_b1019_b1063 (ninS ne_b1019_b1064 (ninS ne_b1019_b1065 nin0))))
    have c1438 := Q8_3.keep K1436c (ninS ne_b1019_b1038 (ninS ne_b1019_b1063 (ninS ne_b1019_b1064 (ninS ne_b1019_b1065 nin0))))
    have c1439 := Q8_5.keep K1436c (ninS ne_b1017_b1038 (ninS ne_b1017_b1063 (ninS ne_b1017_b1064 (ninS ne_b1017_b1065 nin0))))
    have c1440 := Q8_6.keep K1436c (ninS ne_b1018_b1038 (ninS ne_b1018_b1063 (ninS ne_b1018_b1064 (ninS ne_b1018_b1065 nin0))))
    have c1441 := Q8_8.keep K1436c (ninS ne_b1014_b1038 (ninS ne_b1014_b1063 (ninS ne_b1014_b1064 (ninS ne_b1014_b1065 nin0))))
    have c1442 := Q8_10.keep K1436c (ninS ne_b1034_b1038 (ninS ne_b1034_b1063 (ninS ne_b1034_b1064 (ninS ne_b1034_b1065 nin0))))
    have c1443 := Q8_12.keep K1436c (ninS ne_b1023_b1038 (ninS ne_b1023_b1063 (ninS ne_b1023_b1064 (ninS ne_b1023_b1065 nin0))))
    exact J203_3a _ _ _ (.ref b1014) (.ref b1017) l15_ x0_ y0_ z0_ l10_ (1 : Int32) l13_ l14_ l15_ X1436 e1436 O1436 N1436 K1436 (Nat.le_trans hk_8 K1436c.1) (Q8_0.keep K1436c) (Q8_1.keep K1436c) c1437 c1438 (Q8_4.keep K1436c) c1439 c1440 (Q8_7.keep K1436c) c1441 (Q8_9.keep K1436c) c1442 (Q8_11.keep K1436c) c1443 (Q8_13.keep K1436c) F1436_values F1436_names F1436_place F1436_depth F1436_outerValues F1436_outerNames F1436_outerPlaces V1436_ov_ V1436_on_ V1436_op_ hp_
  rcases ho1 with rfl | rfl
  ·have hp10_ : (r1035 = 0 ∨ r1035 = 1 ∨ r1035 = 2) := hr1035.elim (fun z => z.2) (fun z => absurd rfl z.1)
   show EndsW _ _ _ _ T1062 (mkF m 134 #[ci p0, ci p1, ci p2, ci p3, ci p4, cr w_EMPTY, cr b606, cr b1019, cr b1034, ci n_, ci 0, ci l11_, ci l12_, ci r1035, ci r1036, ci r1037, cr b1038, cu, cu, cu, cu] []) _ _ _
   refine walW X1062 hx hby at_134 rfl rfl ?_
   refine wilW X1062 hx hby at_136 rfl ?_
   refine wiyW (pc := 138) (pc' := 146) X1062 hx hby at_138 ((if0 _ _).trans (teq (by decide : (0 : Int32) = (0 : Int32))).1) ?_
   refine walW X1062 hx hby at_146 rfl rfl ?_
   refine wilW X1062 hx hby at_148 rfl ?_
   refine wsbW X1062 hx hZ hown hw hml rfl hby at_150 411 rfl 412 rfl 390 rfl 413 rfl (by decide) e1062 (rmStep_0na l Z a0 hw [] n0 h1062 O1062 G1 w_EMPTY GF b1038 b1063 b1064 b1065 b1019 b1017 b1014 b1034 b1023 k1021 k1023 k1066 k1067 k1068  r1035 g_b1038 g_b1063 g_b1064 g_b1065 NEW ⟨(A1038.keep K1062c), ((Q9_1.ext E1038).keep K1062c), ((Q9_4.ext E1038).keep K1062c), ((Q9_7.ext E1038).keep K1062c), ((Q9_9.ext E1038).keep K1062c), ((Q9_11.ext E1038).keep K1062c), ((Q9_2.ext E1038).keep K1062c (ninS ne_b1019_b1038 nin0)), ((Q9_3.ext E1038).keep K1062c (ninS ne_b1019_b1038 nin0)), ((Q9_10.ext E1038).keep K1062c (ninS ne_b1034_b1038 nin0)), Y1062_9, Y1062_10, Y1062_11, Y1062_8, Y1062_2, Y1062_5, Y1062_7, ((Q9_8.ext E1038).keep K1062c (ninS ne_b1014_b1038 nin0)), ((Q9_12.ext E1038).keep K1062c (ninS ne_b1023_b1038 nin0)), Y1062_0, Y1062_3, Y1062_6, Y1062_1, Y1062_4⟩ hp10_) (by decide) (by decide) [(.ref b1038), (.ref b1034), (.int r1035)] [] pdx_44 rfl rfl rfl (by decide) (by decide) rfl ?_
   intro _ T1444 _ X1444 hQ1444
   obtain ⟨rfl, N1444q, K1444c, F1444_values, F1444_names, F1444_place, F1444_depth, F1444_outerValues, F1444_outerNames, F1444_outerPlaces, V1444_ov_, V1444_on_, V1444_op_⟩ := hQ1444
   have N1444 := Fr.app N1062 N1444q
   obtain ⟨h1444, e1444⟩ : ∃ z, T1444.heap = z := ⟨_, rfl⟩
   rw [e1444] at K1444c F1444_values F1444_names F1444_place F1444_depth F1444_outerValues F1444_outerNames F1444_outerPlaces V1444_ov_ V1444_on_ V1444_op_
   have K1444 := K1062.trans K1444c (allS (Or.inr sz_b1038) (allS (Or.inr sz_b1063) (allS (Or.inr sz_b1064) (allS (Or.inr sz_b1065) all0))))
   have O1444 := O1062.keep K1444c (allS g_b1038 (allS g_b1063 (allS g_b1064 (allS g_b1065 all0))))
   rcases hn with rfl | rfl | rfl
   ·show EndsW _ _ _ _ T1444 (mkF m 153 #[ci p0, ci p1, ci p2, ci p3, ci p4, cr w_EMPTY, cr b606, cr b1019, cr b1034, ci 1, ci 0, ci l11_, ci l12_, ci r1035, ci r1036, ci r1037, cr b1038, cu, cu, cu, cu] []) _ _ _
    refine wilW X1444 hx hby at_153 rfl ?_
    refine wicW X1444 hx hby at_155 ?_
    refine wcyW (pc := 156) (pc' := 178) X1444 hx hby at_156 (tlt (by decide : (1 : Int32) < (2 : Int32))).1 ?_
    refine wilW X1444 hx hby at_178 rfl ?_
    refine wicW X1444 hx hby at_180 ?_
    refine wcyW (pc := 181) (pc' := 203) X1444 hx hby at_181 (tlt (by decide : (1 : Int32) < (3 : Int32))).1 ?_
    have c1445 := ((Q9_2.ext E1038).keep K1062c (ninS ne_b1019_b1038 nin0)).keep K1444c (ninS ne_b1019_b1038 (ninS ne_b1019_b1063 (ninS ne_b1019_b1064 (ninS ne_b1019_b1065 nin0))))
    have c1446 := ((Q9_3.ext E1038).keep K1062c (ninS ne_b1019_b1038 nin0)).keep K1444c (ninS ne_b1019_b1038 (ninS ne_b1019_b1063 (ninS ne_b1019_b1064 (ninS ne_b1019_b1065 nin0))))
    have c1447 := ((Q9_5.ext E1038).keep K1062c (ninS ne_b1017_b1038 nin0)).keep K1444c (ninS ne_b1017_b1038 (ninS ne_b1017_b1063 (ninS ne_b1017_b1064 (ninS ne_b1017_b1065 nin0))))
    have c1448 := ((Q9_6.ext E1038).keep K1062c (ninS ne_b1018_b1038 nin0)).keep K1444c (ninS ne_b1018_b1038 (ninS ne_b1018_b1063 (ninS ne_b1018_b1064 (ninS ne_b1018_b1065 nin0))))
    have c1449 := ((Q9_8.ext E1038).keep K1062c (ninS ne_b1014_b1038 nin0)).keep K1444c (ninS ne_b1014_b1038 (ninS ne_b1014_b1063 (ninS ne_b1014_b1064 (ninS ne_b1014_b1065 nin0))))
    have c1450 := ((Q9_10.ext E1038).keep K1062c (ninS ne_b1034_b1038 nin0)).keep K1444c (ninS ne_b1034_b1038 (ninS ne_b1034_b1063 (ninS ne_b1034_b1064 (ninS ne_b1034_b1065 nin0))))
    have c1451 := ((Q9_12.ext E1038).keep K1062c (ninS ne_b1023_b1038 nin0)).keep K1444c (ninS ne_b1023_b1038 (ninS ne_b1023_b1063 (ninS ne_b1023_b1064 (ninS ne_b1023_b1065 nin0))))
    exact J203_1 _ _ _ (.ref b1023) .null r1035 (0 : Int32) l11_ l12_ r1035 r1036 r1037 X1444 e1444 O1444 N1444 K1444 (Nat.le_trans (Nat.le_trans (Nat.le_trans hk_9 E1038.1) K1062c.1) K1444c.1) (((Q9_0.ext E1038).keep K1062c).keep K1444c) (((Q9_1.ext E1038).keep K1062c).keep K1444c) c1445 c1446 (((Q9_4.ext E1038).keep K1062c).keep K1444c) c1447 c1448 (((Q9_7.ext E1038).keep K1062c).keep K1444c) c1449 (((Q9_9.ext E1038).keep K1062c).keep K1444c) c1450 (((Q9_11.ext E1038).keep K1062c).keep K1444c) c1451 ((A1038.keep K1062c).keep K1444c) F1444_values F1444_names F1444_place F1444_depth F1444_outerValues F1444_outerNames F1444_outerPlaces V1444_ov_ V1444_on_ V1444_op_ 
   ·show EndsW _ _ _ _ T1444 (mkF m 153 #[ci p0, ci p1, ci p2, ci p3, ci p4, cr w_EMPTY, cr b606, cr b1019, cr b1034, ci 2, ci 0, ci l11_, ci l12_, ci r1035, ci r1036, ci r1037, cr b1038, cu, cu, cu, cu] []) _ _ _
    refine wilW X1444 hx hby at_153 rfl ?_
    refine wicW X1444 hx hby at_155 ?_
    refine wcnW X1444 hx hby at_156 (flt (by decide : ¬ ((2 : Int32) < (2 : Int32)))).1 ?_
    rcases ho2 with rfl | rfl
    ·have hp11_ : (r1036 = 0 ∨ r1036 = 1 ∨ r1036 = 2) := hr1036.elim (fun z => z.2) (fun z => absurd rfl z.1)
     show EndsW _ _ _ _ T1444 (mkF m 159 #[ci p0, ci p1, ci p2, ci p3, ci p4, cr w_EMPTY, cr b606, cr b1019, cr b1034, ci 2, ci 0, ci 0, ci l12_, ci r1035, ci r1036, ci r1037, cr b1038, cu, cu, cu, cu] []) _ _ _
     refine walW X1444 hx hby at_159 rfl rfl ?_
     refine wilW X1444 hx hby at_161 rfl ?_
     refine wiyW (pc := 163) (pc' := 171) X1444 hx hby at_163 ((if0 _ _).trans (teq (by decide : (0 : Int32) = (0 : Int32))).1) ?_
     show EndsW _ _ _ _ T1444 (mkF m 171 #[ci p0, ci p1, ci p2, ci p3, ci p4, cr w_EMPTY, cr b606, cr b1019, cr b1034, ci 2, ci 0, ci 0, ci l12_, ci r1035, ci r1036, ci r1037, cr b1038, cu, cu, cu, cu] [(.ref b1038)]) _ _ _
     refine walW X1444 hx hby at_171 rfl rfl ?_
     refine wilW X1444 hx hby at_173 rfl ?_
     have c1453 := ((Q9_2.ext E1038).keep K1062c (ninS ne_b1019_b1038 nin0)).keep K1444c (ninS ne_b1019_b1038 (ninS ne_b1019_b1063 (ninS ne_b1019_b1064 (ninS ne_b1019_b1065 nin0))))
     have c1454 := ((Q9_3.ext E1038).keep K1062c (ninS ne_b1019_b1038 nin0)).keep K1444c (ninS ne_b1019_b1038 (ninS ne_b1019_b1063 (ninS ne_b1019_b1064 (ninS ne_b1019_b1065 nin0))))
     have c1455 := ((Q9_10.ext E1038).keep K1062c (ninS ne_b1034_b1038 nin0)).keep K1444c (ninS ne_b1034_b1038 (ninS ne_b1034_b1063 (ninS ne_b1034_b1064 (ninS ne_b1034_b1065 nin0))))
     have c1456 := ((Q9_8.ext E1038).keep K1062c (ninS ne_b1014_b1038 nin0)).keep K1444c (ninS ne_b1014_b1038 (ninS ne_b1014_b1063 (ninS ne_b1014_b1064 (ninS ne_b1014_b1065 nin0))))
     have c1457 := ((Q9_12.ext E1038).keep K1062c (ninS ne_b1023_b1038 nin0)).keep K1444c (ninS ne_b1023_b1038 (ninS ne_b1023_b1063 (ninS ne_b1023_b1064 (ninS ne_b1023_b1065 nin0))))
     refine wsbW X1444 hx hZ hown hw hml rfl hby at_175 411 rfl 412 rfl 390 rfl 413 rfl (by decide) e1444 (rmStep_1aa l Z a0 hw [] n0 h1444 O1444 G1 w_EMPTY GF b1038 b1063 b1064 b1065 b1019 b1017 b1014 b1034 b1023 k1021 k1023 k1066 k1067 k1068 r1035 r1036 g_b1038 g_b1063 g_b1064 g_b1065 NEW ⟨((A1038.keep K1062c).keep K1444c), (((Q9_1.ext E1038).keep K1062c).keep K1444c), (((Q9_4.ext E1038).keep K1062c).keep K1444c), (((Q9_7.ext E1038).keep K1062c).keep K1444c), (((Q9_9.ext E1038).keep K1062c).keep K1444c), (((Q9_11.ext E1038).keep K1062c).keep K1444c), c1453, c1454, c1455, F1444_values, F1444_names, F1444_place, F1444_depth, F1444_outerValues, F1444_outerNames, F1444_outerPlaces, c1456, c1457, V1444_ov_, V1444_on_, V1444_op_, Y1062_1, Y1062_4⟩ hp11_) (by decide) (by decide) [(.ref b1038), (.ref b1034), (.int r1036)] [] pdx_44 rfl rfl rfl (by decide) (by decide) rfl ?_
     intro _ T1452 _ X1452 hQ1452
     obtain ⟨rfl, N1452q, K1452c, F1452_values, F1452_names, F1452_place, F1452_depth, F1452_outerValues, F1452_outerNames, F1452_outerPlaces, V1452_ov_, V1452_on_, V1452_op_⟩ := hQ1452
     have N1452 := Fr.app N1444 N1452q
     obtain ⟨h1452, e1452⟩ : ∃ z, T1452.heap = z := ⟨_, rfl⟩
     rw [e1452] at K1452c F1452_values F1452_names F1452_place F1452_depth F1452_outerValues F1452_outerNames F1452_outerPlaces V1452_ov_ V1452_on_ V1452_op_
     have K1452 := K1444.trans K1452c (allS (Or.inr sz_b1038) (allS (Or.inr sz_b1063) (allS (Or.inr sz_b1064) (allS (Or.inr sz_b1065) all0))))
     have O1452 := O1444.keep K1452c (allS g_b1038 (allS g_b1063 (allS g_b1064 (allS g_b1065 all0))))
     refine wilW X1452 hx hby at_178 rfl ?_
     refine wicW X1452 hx hby at_180 ?_
     refine wcyW (pc := 181) (pc' := 203) X1452 hx hby at_181 (tlt (by decide : (2 : Int32) < (3 : Int32))).1 ?_
     have c1458 := c1453.keep K1452c (ninS ne_b1019_b1038 (ninS ne_b1019_b1063 (ninS ne_b1019_b1064 (ninS ne_b1019_b1065 nin0))))
     have c1459 := c1454.keep K1452c (ninS ne_b1019_b1038 (ninS ne_b1019_b1063 (ninS ne_b1019_b1064 (ninS ne_b1019_b1065 nin0))))
     have c1460 := (((Q9_5.ext E1038).keep K1062c (ninS ne_b1017_b1038 nin0)).keep K1444c (ninS ne_b1017_b1038 (ninS ne_b1017_b1063 (ninS ne_b1017_b1064 (ninS ne_b1017_b1065 nin0))))).keep K1452c (ninS ne_b1017_b1038 (ninS ne_b1017_b1063 (ninS ne_b1017_b1064 (ninS ne_b1017_b1065 nin0))))
     have c1461 := (((Q9_6.ext E1038).keep K1062c (ninS ne_b1018_b1038 nin0)).keep K1444c (ninS ne_b1018_b1038 (ninS ne_b1018_b1063 (ninS ne_b1018_b1064 (ninS ne_b1018_b1065 nin0))))).keep K1452c (ninS ne_b1018_b1038 (ninS ne_b1018_b1063 (ninS ne_b1018_b1064 (ninS ne_b1018_b1065 nin0))))
     have c1462 := c1456.keep K1452c (ninS ne_b1014_b1038 (ninS ne_b1014_b1063 (ninS ne_b1014_b1064 (ninS ne_b1014_b1065 nin0))))
     have c1463 := c1455.keep K1452c (ninS ne_b1034_b1038 (ninS ne_b1034_b1063 (ninS ne_b1034_b1064 (ninS ne_b1034_b1065 nin0))))
     have c1464 := c1457.keep K1452c (ninS ne_b1023_b1038 (ninS ne_b1023_b1063 (ninS ne_b1023_b1064 (ninS ne_b1023_b1065 nin0))))
     exact J203_2a _ _ _ (.ref b1023) .null r1036 (0 : Int32) l12_ r1035 r1036 r1037 X1452 e1452 O1452 N1452 K1452 (Nat.le_trans (Nat.le_trans (Nat.le_trans (Nat.le_trans hk_9 E1038.1) K1062c.1) K1444c.1) K1452c.1) ((((Q9_0.ext E1038).keep K1062c).keep K1444c).keep K1452c) ((((Q9_1.ext E1038).keep K1062c).keep K1444c).keep K1452c) c1458 c1459 ((((Q9_4.ext E1038).keep K1062c).keep K1444c).keep K1452c) c1460 c1461 ((((Q9_7.ext E1038).keep K1062c).keep K1444c).keep K1452c) c1462 ((((Q9_9.ext E1038).keep K1062c).keep K1444c).keep K1452c) c1463 ((((Q9_11.ext E1038).keep K1062c).keep K1444c).keep K1452c) c1464 (((A1038.keep K1062c).keep K1444c).keep K1452c) F1452_values F1452_names F1452_place F1452_depth F1452_outerValues F1452_outerNames F1452_outerPlaces V1452_ov_ V1452_on_ V1452_op_ hp10_
    ·have hp11_ : (r1036 = 0 ∨ r1036 = 1) := hr1036.elim (fun z => absurd z.1 (by decide)) (fun z => z.2)
     show EndsW _ _ _ _ T1444 (mkF m 159 #[ci p0, ci p1, ci p2, ci p3, ci p4, cr w_EMPTY, cr b606, cr b1019, cr b1034, ci 2, ci 0, ci 1, ci l12_, ci r1035, ci r1036, ci r1037, cr b1038, cu, cu, cu, cu] []) _ _ _
     refine walW X1444 hx hby at_159 rfl rfl ?_
     refine wilW X1444 hx hby at_161 rfl ?_
     refine winW X1444 hx hby at_163 ((if0 _ _).trans (feq (by decide : ¬ ((1 : Int32) = (0 : Int32)))).1) ?_
     refine walW X1444 hx hby at_166 rfl rfl ?_
     refine wgoW (pc := 168) (pc' := 173) X1444 hx hby at_168 ?_
     refine wilW X1444 hx hby at_173 rfl ?_
     have c1466 := ((Q9_2.ext E1038).keep K1062c (ninS ne_b1019_b1038 nin0)).keep K1444c (ninS ne_b1019_b1038 (ninS ne_b1019_b1063 (ninS ne_b1019_b1064 (ninS ne_b1019_b1065 nin0))))
     have c1467 := ((Q9_3.ext E1038).keep K1062c (ninS ne_b1019_b1038 nin0)).keep K1444c (ninS ne_b1019_b1038 (ninS ne_b1019_b1063 (ninS ne_b1019_b1064 (ninS ne_b1019_b1065 nin0))))
     have c1468 := ((Q9_10.ext E1038).keep K1062c (ninS ne_b1034_b1038 nin0)).keep K1444c (ninS ne_b1034_b1038 (ninS ne_b1034_b1063 (ninS ne_b1034_b1064 (ninS ne_b1034_b1065 nin0))))
     have c1469 := ((Q9_8.ext E1038).keep K1062c (ninS ne_b1014_b1038 nin0)).keep K1444c (ninS ne_b1014_b1038 (ninS ne_b1014_b1063 (ninS ne_b1014_b1064 (ninS ne_b1014_b1065 nin0))))
     have c1470 := ((Q9_12.ext E1038).keep K1062c (ninS ne_b1023_b1038 nin0)).keep K1444c (ninS ne_b1023_b1038 (ninS ne_b1023_b1063 (ninS ne_b1023_b1064 (ninS ne_b1023_b1065 nin0))))
     refine wsbW X1444 hx hZ hown hw hml rfl hby at_175 411 rfl 412 rfl 390 rfl 413 rfl (by decide) e1444 (rmStep_1ao l Z a0 hw [] n0 h1444 O1444 G1 w_EMPTY GF b1038 b1063 b1064 b1065 b1019 b1017 b1014 b1034 b1023 k1021 k1023 k1066 k1067 k1068 r1035 r1036 g_b1038 g_b1063 g_b1064 g_b1065 NEW ⟨((A1038.keep K1062c).keep K1444c), (((Q9_1.ext E1038).keep K1062c).keep K1444c), (((Q9_4.ext E1038).keep K1062c).keep K1444c), (((Q9_7.ext E1038).keep K1062c).keep K1444c), (((Q9_9.ext E1038).keep K1062c).keep K1444c), (((Q9_11.ext E1038).keep K1062c).keep K1444c), c1466, c1467, c1468, F1444_values, F1444_names, F1444_place, F1444_depth, F1444_outerValues, F1444_outerNames, F1444_outerPlaces, c1469, c1470, V1444_ov_, V1444_on_, V1444_op_, Y1062_1, Y1062_4⟩ hp11_) (by decide) (by decide) [(.ref b1038), (.ref b1019), (.int r1036)] [] pdx_44 rfl rfl rfl (by decide) (by decide) rfl ?_
     intro _ T1465 _ X1465 hQ1465
     obtain ⟨rfl, N1465q, K1465c, F1465_values, F1465_names, F1465_place, F1465_depth, F1465_outerValues, F1465_outerNames, F1465_outerPlaces, V1465_ov_, V1465_on_, V1465_op_⟩ := hQ1465
     have N1465 := Fr.app N1444 N1465q
     obtain ⟨h1465, e1465⟩ : ∃ z, T1465.heap = z := ⟨_, rfl⟩
     rw [e1465] at K1465c F1465_values F1465_names F1465_place F1465_depth F1465_outerValues F1465_outerNames F1465_outerPlaces V1465_ov_ V1465_on_ V1465_op_
     have K1465 := K1444.trans K1465c (allS (Or.inr sz_b1038) (allS (Or.inr sz_b1063) (allS (Or.inr sz_b1064) (allS (Or.inr sz_b1065) all0))))
     have O1465 := O1444.keep K1465c (allS g_b1038 (allS g_b1063 (allS g_b1064 (allS g_b1065 all0))))
     refine wilW X1465 hx hby at_178 rfl ?_
     refine wicW X1465 hx hby at_180 ?_
     refine wcyW (pc := 181) (pc' := 203) X1465 hx hby at_181 (tlt (by decide : (2 : Int32) < (3 : Int32))).1 ?_
     have c1471 := c1466.keep K1465c (ninS ne_b1019_b1038 (ninS ne_b1019_b1063 (ninS ne_b1019_b1064 (ninS ne_b1019_b1065 nin0))))
     have c1472 := c1467.keep K1465c (ninS ne_b1019_b1038 (ninS ne_b1019_b1063 (ninS ne_b1019_b1064 (ninS ne_b1019_b1065 nin0))))
     have c1473 := (((Q9_5.ext E1038).keep K1062c (ninS ne_b1017_b1038 nin0)).keep K1444c (ninS ne_b1017_b1038 (ninS ne_b1017_b1063 (ninS ne_b1017_b1064 (ninS ne_b1017_b1065 nin0))))).keep K1465c (ninS ne_b1017_b1038 (ninS ne_b1017_b1063 (ninS ne_b1017_b1064 (ninS ne_b1017_b1065 nin0))))
     have c1474 := (((Q9_6.ext E1038).keep K1062c (ninS ne_b1018_b1038 nin0)).keep K1444c (ninS ne_b1018_b1038 (ninS ne_b1018_b1063 (ninS ne_b1018_b1064 (ninS ne_b1018_b1065 nin0))))).keep K1465c (ninS ne_b1018_b1038 (ninS ne_b1018_b1063 (ninS ne_b1018_b1064 (ninS ne_b1018_b1065 nin0))))
     have c1475 := c1469.keep K1465c (ninS ne_b1014_b1038 (ninS ne_b1014_b1063 (ninS ne_b1014_b1064 (ninS ne_b1014_b1065 nin0))))
     have c1476 := c1468.keep K1465c (ninS ne_b1034_b1038 (ninS ne_b1034_b1063 (ninS ne_b1034_b1064 (ninS ne_b1034_b1065 nin0))))
     have c1477 := c1470.keep K1465c (ninS ne_b1023_b1038 (ninS ne_b1023_b1063 (ninS ne_b1023_b1064 (ninS ne_b1023_b1065 nin0))))
     exact J203_2a _ _ _ (.ref b1014) (.ref b1017) r1036 (1 : Int32) l12_ r1035 r1036 r1037 X1465 e1465 O1465 N1465 K1465 (Nat.le_trans (Nat.le_trans (Nat.le_trans (Nat.le_trans hk_9 E1038.1) K1062c.1) K1444c.1) K1465c.1) ((((Q9_0.ext E1038).keep K1062c).keep K1444c).keep K1465c) ((((Q9_1.ext E1038).keep K1062c).keep K1444c).keep K1465c) c1471 c1472 ((((Q9_4.ext E1038).keep K1062c).keep K1444c).keep K1465c) c1473 c1474 ((((Q9_7.ext E1038).keep K1062c).keep K1444c).keep K1465c) c1475 ((((Q9_9.ext E1038).keep K1062c).keep K1444c).keep K1465c) c1476 ((((Q9_11.ext E1038).keep K1062c).keep K1444c).keep K1465c) c1477 (((A1038.keep K1062c).keep K1444c).keep K1465c) F1465_values F1465_names F1465_place F1465_depth F1465_outerValues F1465_outerNames F1465_outerPlaces V1465_ov_ V1465_on_ V1465_op_ hp10_
   ·show EndsW _ _ _ _ T1444 (mkF m 153 #[ci p0, ci p1, ci p2, ci p3, ci p4, cr w_EMPTY, cr b606, cr b1019, cr b1034, ci 3, ci 0, ci l11_, ci l12_, ci r1035, ci r1036, ci r1037, cr b1038, cu, cu, cu, cu] []) _ _ _
    refine wilW X1444 hx hby at_153 rfl ?_
    refine wicW X1444 hx hby at_155 ?_
    refine wcnW X1444 hx hby at_156 (flt (by decide : ¬ ((3 : Int32) < (2 : Int32)))).1 ?_
    rcases ho2 with rfl | rfl
    ·have hp11_ : (r1036 = 0 ∨ r1036 = 1 ∨ r1036 = 2) := hr1036.elim (fun z => z.2) (fun z => absurd rfl z.1)
     show EndsW _ _ _ _ T1444 (mkF m 159 #[ci p0, ci p1, ci p2, ci p3, ci p4, cr w_EMPTY, cr b606, cr b1019, cr b1034, ci 3, ci 0, ci 0, ci l12_, ci r1035, ci r1036, ci r1037, cr b1038, cu, cu, cu, cu] []) _ _ _
     refine walW X1444 hx hby at_159 rfl rfl ?_
     refine wilW X1444 hx hby at_161 rfl ?_
     refine wiyW (pc := 163) (pc' := 171) X1444 hx hby at_163 ((if0 _ _).trans (teq (by decide : (0 : Int32) = (0 : Int32))).1) ?_
     refine walW X1444 hx hby at_171 rfl rfl ?_
     refine wilW X1444 hx hby at_173 rfl ?_
     have c1479 := ((Q9_2.ext E1038).keep K1062c (ninS ne_b1019_b1038 nin0)).keep K1444c (ninS ne_b1019_b1038 (ninS ne_b1019_b1063 (ninS ne_b1019_b1064 (ninS ne_b1019_b1065 nin0))))
     have c1480 := ((Q9_3.ext E1038).keep K1062c (ninS ne_b1019_b1038 nin0)).keep K1444c (ninS ne_b1019_b1038 (ninS ne_b1019_b1063 (ninS ne_b1019_b1064 (ninS ne_b1019_b1065 nin0))))
     have c1481 := ((Q9_10.ext E1038).keep K1062c (ninS ne_b1034_b1038 nin0)).keep K1444c (ninS ne_b1034_b1038 (ninS ne_b1034_b1063 (ninS ne_b1034_b1064 (ninS ne_b1034_b1065 nin0))))
     have c1482 := ((Q9_8.ext E1038).keep K1062c (ninS ne_b1014_b1038 nin0)).keep K1444c (ninS ne_b1014_b1038 (ninS ne_b1014_b1063 (ninS ne_b1014_b1064 (ninS ne_b1014_b1065 nin0))))
     have c1483 := ((Q9_12.ext E1038).keep K1062c (ninS ne_b1023_b1038 nin0)).keep K1444c (ninS ne_b1023_b1038 (ninS ne_b1023_b1063 (ninS ne_b1023_b1064 (ninS ne_b1023_b1065 nin0))))
     refine wsbW X1444 hx hZ hown hw hml rfl hby at_175 411 rfl 412 rfl 390 rfl 413 rfl (by decide) e1444 (rmStep_1aa l Z a0 hw [] n0 h1444 O1444 G1 w_EMPTY GF b1038 b1063 b1064 b1065 b1019 b1017 b1014 b1034 b1023 k1021 k1023 k1066 k1067 k1068 r1035 r1036 g_b1038 g_b1063 g_b1064 g_b1065 NEW ⟨((A1038.keep K1062c).keep K1444c), (((Q9_1.ext E1038).keep K1062c).keep K1444c), (((Q9_4.ext E1038).keep K1062c).keep K1444c), (((Q9_7.ext E1038).keep K1062c).keep K1444c), (((Q9_9.ext E1038).keep K1062c).keep K1444c), (((Q9_11.ext E1038).keep K1062c).keep K1444c), c1479, c1480, c1481, F1444_values, F1444_names, F1444_place, F1444_depth, F1444_outerValues, F1444_outerNames, F1444_outerPlaces, c1482, c1483, V1444_ov_, V1444_on_, V1444_op_, Y1062_1, Y1062_4⟩ hp11_) (by decide) (by decide) [(.ref b1038), (.ref b1034), (.int r1036)] [] pdx_44 rfl rfl rfl (by decide) (by decide) rfl ?_
     intro _ T1478 _ X1478 hQ1478
     obtain ⟨rfl, N1478q, K1478c, F1478_values, F1478_names, F1478_place, F1478_depth, F1478_outerValues, F1478_outerNames, F1478_outerPlaces, V1478_ov_, V1478_on_, V1478_op_⟩ := hQ1478
     have N1478 := Fr.app N1444 N1478q
     obtain ⟨h1478, e1478⟩ : ∃ z, T1478.heap = z := ⟨_, rfl⟩
     rw [e1478] at K1478c F1478_values F1478_names F1478_place F1478_depth F1478_outerValues F1478_outerNames F1478_outerPlaces V1478_ov_ V1478_on_ V1478_op_
     have K1478 := K1444.trans K1478c (allS (Or.inr sz_b1038) (allS (Or.inr sz_b1063) (allS (Or.inr sz_b1064) (allS (Or.inr sz_b1065) all0))))
     have O1478 := O1444.keep K1478c (allS g_b1038 (allS g_b1063 (allS g_b1064 (allS g_b1065 all0))))
     have c1484 := c1479.keep K1478c (ninS ne_b1019_b1038 (ninS ne_b1019_b1063 (ninS ne_b1019_b1064 (ninS ne_b1019_b1065 nin0))))
     have c1485 := c1480.keep K1478c (ninS ne_b1019_b1038 (ninS ne_b1019_b1063 (ninS ne_b1019_b1064 (ninS ne_b1019_b1065 nin0))))
     have c1486 := (((Q9_5.ext E1038).keep K1062c (ninS ne_b1017_b1038 nin0)).keep K1444c (ninS ne_b1017_b1038 (ninS ne_b1017_b1063 (ninS ne_b1017_b1064 (ninS ne_b1017_b1065 nin0))))).keep K1478c (ninS ne_b1017_b1038 (ninS ne_b1017_b1063 (ninS ne_b1017_b1064 (ninS ne_b1017_b1065 nin0))))
     have c1487 := (((Q9_6.ext E1038).keep K1062c (ninS ne_b1018_b1038 nin0)).keep K1444c (ninS ne_b1018_b1038 (ninS ne_b1018_b1063 (ninS ne_b1018_b1064 (ninS ne_b1018_b1065 nin0))))).keep K1478c (ninS ne_b1018_b1038 (ninS ne_b1018_b1063 (ninS ne_b1018_b1064 (ninS ne_b1018_b1065 nin0))))
     have c1488 := c1482.keep K1478c (ninS ne_b1014_b1038 (ninS ne_b1014_b1063 (ninS ne_b1014_b1064 (ninS ne_b1014_b1065 nin0))))
     have c1489 := c1481.keep K1478c (ninS ne_b1034_b1038 (ninS ne_b1034_b1063 (ninS ne_b1034_b1064 (ninS ne_b1034_b1065 nin0))))
     have c1490 := c1483.keep K1478c (ninS ne_b1023_b1038 (ninS ne_b1023_b1063 (ninS ne_b1023_b1064 (ninS ne_b1023_b1065 nin0))))
     exact J178_a _ _ _ (.ref b1023) .null r1035 (0 : Int32) l12_ r1035 r1036 r1037 X1478 e1478 O1478 N1478 K1478 (Nat.le_trans (Nat.le_trans (Nat.le_trans (Nat.le_trans hk_9 E1038.1) K1062c.1) K1444c.1) K1478c.1) ((((Q9_0.ext E1038).keep K1062c).keep K1444c).keep K1478c) ((((Q9_1.ext E1038).keep K1062c).keep K1444c).keep K1478c) c1484 c1485 ((((Q9_4.ext E1038).keep K1062c).keep K1444c).keep K1478c) c1486 c1487 ((((Q9_7.ext E1038).keep K1062c).keep K1444c).keep K1478c) c1488 ((((Q9_9.ext E1038).keep K1062c).keep K1444c).keep K1478c) c1489 ((((Q9_11.ext E1038).keep K1062c).keep K1444c).keep K1478c) c1490 (((A1038.keep K1062c).keep K1444c).keep K1478c) F1478_values F1478_names F1478_place F1478_depth F1478_outerValues F1478_outerNames F1478_outerPlaces V1478_ov_ V1478_on_ V1478_op_ hp11_ ho3 hr1037
    ·have hp11_ : (r1036 = 0 ∨ r1036 = 1) := hr1036.elim (fun z => absurd z.1 (by decide)) (fun z => z.2)
     show EndsW _ _ _ _ T1444 (mkF m 159 #[ci p0, ci p1, ci p2, ci p3, ci p4, cr w_EMPTY, cr b606, cr b1019, cr b1034, ci 3, ci 0, ci 1, ci l12_, ci r1035, ci r1036, ci r1037, cr b1038, cu, cu, cu, cu] []) _ _ _
     refine walW X1444 hx hby at_159 rfl rfl ?_
     show EndsW _ _ _ _ T1444 (mkF m 161 #[ci p0, ci p1, ci p2, ci p3, ci p4, cr w_EMPTY, cr b606, cr b1019, cr b1034, ci 3, ci 0, ci 1, ci l12_, ci r1035, ci r1036, ci r1037, cr b1038, cu, cu, cu, cu] [(.ref b1038)]) _ _ _
     refine wilW X1444 hx hby at_161 rfl ?_
     refine winW X1444 hx hby at_163 ((if0 _ _).trans (feq (by decide : ¬ ((1 : Int32) = (0 : Int32)))).1) ?_
     refine walW X1444 hx hby at_166 rfl rfl ?_
     refine wgoW (pc := 168) (pc' := 173) X1444 hx hby at_168 ?_
     refine wilW X1444 hx hby at_173 rfl ?_
     have c1492 := ((Q9_2.ext E1038).keep K1062c (ninS ne_b1019_b1038 nin0)).keep K1444c (ninS ne_b1019_b1038 (ninS ne_b1019_b1063 (ninS ne_b1019_b1064 (ninS ne_b1019_b1065 nin0))))
     have c1493 := ((Q9_3.ext E1038).keep K1062c (ninS ne_b1019_b1038 nin0)).keep K1444c (ninS ne_b1019_b1038 (ninS ne_b1019_b1063 (ninS ne_b1019_b1064 (ninS ne_b1019_b1065 nin0))))
     have c1494 := ((Q9_10.ext E1038).keep K1062c (ninS ne_b1034_b1038 nin0)).keep K1444c (ninS ne_b1034_b1038 (ninS ne_b1034_b1063 (ninS ne_b1034_b1064 (ninS ne_b1034_b1065 nin0))))
     have c1495 := ((Q9_8.ext E1038).keep K1062c (ninS ne_b1014_b1038 nin0)).keep K1444c (ninS ne_b1014_b1038 (ninS ne_b1014_b1063 (ninS ne_b1014_b1064 (ninS ne_b1014_b1065 nin0))))
     have c1496 := ((Q9_12.ext E1038).keep K1062c (ninS ne_b1023_b1038 nin0)).keep K1444c (ninS ne_b1023_b1038 (ninS ne_b1023_b1063 (ninS ne_b1023_b1064 (ninS ne_b1023_b1065 nin0))))
     refine wsbW X1444 hx hZ hown hw hml rfl hby at_175 411 rfl 412 rfl 390 rfl 413 rfl (by decide) e1444 (rmStep_1ao l Z a0 hw [] n0 h1444 O1444 G1 w_EMPTY GF b1038 b1063 b1064 b1065 b1019 b1017 b1014 b1034 b1023 k1021 k1023 k1066 k1067 k1068 r1035 r1036 g_b1038 g_b1063 g_b1064 g_b1065 NEW ⟨((A1038.keep K1062c).keep K1444c), (((Q9_1.ext E1038).keep K1062c).keep K1444c), (((Q9_4.ext E1038).keep K1062c).keep K1444c), (((Q9_7.ext E1038).keep K1062c).keep K1444c), (((Q9_9.ext E1038).keep K1062c).keep K1444c), (((Q9_11.ext E1038).keep K1062c).keep K1444c), c1492, c1493, c1494, F1444_values, F1444_names, F1444_place, F1444_depth, F1444_outerValues, F1444_outerNames, F1444_outerPlaces, c1495, c1496, V1444_ov_, V1444_on_, V1444_op_, Y1062_1, Y1062_4⟩ hp11_) (by decide) (by decide) [(.ref b1038), (.ref b1019), (.int r1036)] [] pdx_44 rfl rfl rfl (by decide) (by decide) rfl ?_
     intro _ T1491 _ X1491 hQ1491
     obtain ⟨rfl, N1491q, K1491c, F1491_values, F1491_names, F1491_place, F1491_depth, F1491_outerValues, F1491_outerNames, F1491_outerPlaces, V1491_ov_, V1491_on_, V1491_op_⟩ := hQ1491
     have N1491 := Fr.app N1444 N1491q
     obtain ⟨h1491, e1491⟩ : ∃ z, T1491.heap = z := ⟨_, rfl⟩
     rw [e1491] at K1491c F1491_values F1491_names F1491_place F1491_depth F1491_outerValues F1491_outerNames F1491_outerPlaces V1491_ov_ V1491_on_ V1491_op_
     have K1491 := K1444.trans K1491c (allS (Or.inr sz_b1038) (allS (Or.inr sz_b1063) (allS (Or.inr sz_b1064) (allS (Or.inr sz_b1065) all0))))
     have O1491 := O1444.keep K1491c (allS g_b1038 (allS g_b1063 (allS g_b1064 (allS g_b1065 all0))))
     have c1497 := c1492.keep K1491c (ninS ne_b1019_b1038 (ninS ne_b1019_b1063 (ninS ne_b1019_b1064 (ninS ne_b1019_b1065 nin0))))
     have c1498 := c1493.keep K1491c (ninS ne_b1019_b1038 (ninS ne_b1019_b1063 (ninS ne_b1019_b1064 (ninS ne_b1019_b1065 nin0))))
     have c1499 := (((Q9_5.ext E1038).keep K1062c (ninS ne_b1017_b1038 nin0)).keep K1444c (ninS ne_b1017_b1038 (ninS ne_b1017_b1063 (ninS ne_b1017_b1064 (ninS ne_b1017_b1065 nin0))))).keep K1491c (ninS ne_b1017_b1038 (ninS ne_b1017_b1063 (ninS ne_b1017_b1064 (ninS ne_b1017_b1065 nin0))))
     have c1500 := (((Q9_6.ext E1038).keep K1062c (ninS ne_b1018_b1038 nin0)).keep K1444c (ninS ne_b1018_b1038 (ninS ne_b1018_b1063 (ninS ne_b1018_b1064 (ninS ne_b1018_b1065 nin0))))).keep K1491c (ninS ne_b1018_b1038 (ninS ne_b1018_b1063 (ninS ne_b1018_b1064 (ninS ne_b1018_b1065 nin0))))
     have c1501 := c1495.keep K1491c (ninS ne_b1014_b1038 (ninS ne_b1014_b1063 (ninS ne_b1014_b1064 (ninS ne_b1014_b1065 nin0))))
     have c1502 := c1494.keep K1491c (ninS ne_b1034_b1038 (ninS ne_b1034_b1063 (ninS ne_b1034_b1064 (ninS ne_b1034_b1065 nin0))))
     have c1503 := c1496.keep K1491c (ninS ne_b1023_b1038 (ninS ne_b1023_b1063 (ninS ne_b1023_b1064 (ninS ne_b1023_b1065 nin0))))
     exact J178_o _ _ _ (.ref b1023) .null r1035 (0 : Int32) l12_ r1035 r1036 r1037 X1491 e1491 O1491 N1491 K1491 (Nat.le_trans (Nat.le_trans (Nat.le_trans (Nat.le_trans hk_9 E1038.1) K1062c.1) K1444c.1) K1491c.1) ((((Q9_0.ext E1038).keep K1062c).keep K1444c).keep K1491c) ((((Q9_1.ext E1038).keep K1062c).keep K1444c).keep K1491c) c1497 c1498 ((((Q9_4.ext E1038).keep K1062c).keep K1444c).keep K1491c) c1499 c1500 ((((Q9_7.ext E1038).keep K1062c).keep K1444c).keep K1491c) c1501 ((((Q9_9.ext E1038).keep K1062c).keep K1444c).keep K1491c) c1502 ((((Q9_11.ext E1038).keep K1062c).keep K1444c).keep K1491c) c1503 (((A1038.keep K1062c).keep K1444c).keep K1491c) F1491_values F1491_names F1491_place F1491_depth F1491_outerValues F1491_outerNames F1491_outerPlaces V1491_ov_ V1491_on_ V1491_op_ hp11_ ho3 hr1037
  ·have hp10_ : (r1035 = 0 ∨ r1035 = 1) := hr1035.elim (fun z => absurd z.1 (by decide)) (fun z => z.2)
   show EndsW _ _ _ _ T1062 (mkF m 134 #[ci p0, ci p1, ci p2, ci p3, ci p4, cr w_EMPTY, cr b606, cr b1019, cr b1034, ci n_, ci 1, ci l11_, ci l12_, ci r1035, ci r1036, ci r1037, cr b1038, cu, cu, cu, cu] []) _ _ _
   refine walW X1062 hx hby at_134 rfl rfl ?_
   refine wilW X1062 hx hby at_136 rfl ?_
   refine winW X1062 hx hby at_138 ((if0 _ _).trans (feq (by decide : ¬ ((1 : Int32) = (0 : Int32)))).1) ?_
   refine walW X1062 hx hby at_141 rfl rfl ?_
   refine wgoW (pc := 143) (pc' := 148) X1062 hx hby at_143 ?_
   refine wilW X1062 hx hby at_148 rfl ?_
   refine wsbW X1062 hx hZ hown hw hml rfl hby at_150 411 rfl 412 rfl 390 rfl 413 rfl (by decide) e1062 (rmStep_0no l Z a0 hw [] n0 h1062 O1062 G1 w_EMPTY GF b1038 b1063 b1064 b1065 b1019 b1017 b1014 b1034 b1023 k1021 k1023 k1066 k1067 k1068  r1035 g_b1038 g_b1063 g_b1064 g_b1065 NEW ⟨(A1038.keep K1062c), ((Q9_1.ext E1038).keep K1062c), ((Q9_4.ext E1038).keep K1062c), ((Q9_7.ext E1038).keep K1062c), ((Q9_9.ext E1038).keep K1062c), ((Q9_11.ext E1038).keep K1062c), ((Q9_2.ext E1038).keep K1062c (ninS ne_b1019_b1038 nin0)), ((Q9_3.ext E1038).keep K1062c (ninS ne_b1019_b1038 nin0)), ((Q9_10.ext E1038).keep K1062c (ninS ne_b1034_b1038 nin0)), Y1062_9, Y1062_10, Y1062_11, Y1062_8, Y1062_2, Y1062_5, Y1062_7, ((Q9_8.ext E1038).keep K1062c (ninS ne_b1014_b1038 nin0)), ((Q9_12.ext E1038).keep K1062c (ninS ne_b1023_b1038 nin0)), Y1062_0, Y1062_3, Y1062_6, Y1062_1, Y1062_4⟩ hp10_) (by decide) (by decide) [(.ref b1038), (.ref b1019), (.int r1035)] [] pdx_44 rfl rfl rfl (by decide) (by decide) rfl ?_
   intro _ T1504 _ X1504 hQ1504
   obtain ⟨rfl, N1504q, K1504c, F1504_values, F1504_names, F1504_place, F1504_depth, F1504_outerValues, F1504_outerNames, F1504_outerPlaces, V1504_ov_, V1504_on_, V1504_op_⟩ := hQ1504
   have N1504 := Fr.app N1062 N1504q
   obtain ⟨h1504, e1504⟩ : ∃ z, T1504.heap = z := ⟨_, rfl⟩
   rw [e1504] at K1504c F1504_values F1504_names F1504_place F1504_depth F1504_outerValues F1504_outerNames F1504_outerPlaces V1504_ov_ V1504_on_ V1504_op_
   have K1504 := K1062.trans K1504c (allS (Or.inr sz_b1038) (allS (Or.inr sz_b1063) (allS (Or.inr sz_b1064) (allS (Or.inr sz_b1065) all0))))
   have O1504 := O1062.keep K1504c (allS g_b1038 (allS g_b1063 (allS g_b1064 (allS g_b1065 all0))))
   rcases hn with rfl | rfl | rfl
   ·show EndsW _ _ _ _ T1504 (mkF m 153 #[ci p0, ci p1, ci p2, ci p3, ci p4, cr w_EMPTY, cr b606, cr b1019, cr b1034, ci 1, ci 1, ci l11_, ci l12_, ci r1035, ci r1036, ci r1037, cr b1038, cu, cu, cu, cu] []) _ _ _
    refine wilW X1504 hx hby at_153 rfl ?_
    refine wicW X1504 hx hby at_155 ?_
    refine wcyW (pc := 156) (pc' := 178) X1504 hx hby at_156 (tlt (by decide : (1 : Int32) < (2 : Int32))).1 ?_
    refine wilW X1504 hx hby at_178 rfl ?_
    refine wicW X1504 hx hby at_180 ?_
    refine wcyW (pc := 181) (pc' := 203) X1504 hx hby at_181 (tlt (by decide : (1 : Int32) < (3 : Int32))).1 ?_
    have c1505 := ((Q9_2.ext E1038).keep K1062c (ninS ne_b1019_b1038 nin0)).keep K1504c (ninS ne_b1019_b1038 (ninS ne_b1019_b1063 (ninS ne_b1019_b1064 (ninS ne_b1019_b1065 nin0))))
    have c1506 := ((Q9_3.ext E1038).keep K1062c (ninS ne_b1019_b1038 nin0)).keep K1504c (ninS ne_b1019_b1038 (ninS ne_b1019_b1063 (ninS ne_b1019_b1064 (ninS ne_b1019_b1065 nin0))))
    have c1507 := ((Q9_5.ext E1038).keep K1062c (ninS ne_b1017_b1038 nin0)).keep K1504c (ninS ne_b1017_b1038 (ninS ne_b1017_b1063 (ninS ne_b1017_b1064 (ninS ne_b1017_b1065 nin0))))
    have c1508 := ((Q9_6.ext E1038).keep K1062c (ninS ne_b1018_b1038 nin0)).keep K1504c (ninS ne_b1018_b1038 (ninS ne_b1018_b1063 (ninS ne_b1018_b1064 (ninS ne_b1018_b1065 nin0))))
    have c1509 := ((Q9_8.ext E1038).keep K1062c (ninS ne_b1014_b1038 nin0)).keep K1504c (ninS ne_b1014_b1038 (ninS ne_b1014_b1063 (ninS ne_b1014_b1064 (ninS ne_b1014_b1065 nin0))))
    have c1510 := ((Q9_10.ext E1038).keep K1062c (ninS ne_b1034_b1038 nin0)).keep K1504c (ninS ne_b1034_b1038 (ninS ne_b1034_b1063 (ninS ne_b1034_b1064 (ninS ne_b1034_b1065 nin0))))
    have c1511 := ((Q9_12.ext E1038).keep K1062c (ninS ne_b1023_b1038 nin0)).keep K1504c (ninS ne_b1023_b1038 (ninS ne_b1023_b1063 (ninS ne_b1023_b1064 (ninS ne_b1023_b1065 nin0))))
    exact J203_1 _ _ _ (.ref b1014) (.ref b1017) r1035 (1 : Int32) l11_ l12_ r1035 r1036 r1037 X1504 e1504 O1504 N1504 K1504 (Nat.le_trans (Nat.le_trans (Nat.le_trans hk_9 E1038.1) K1062c.1) K1504c.1) (((Q9_0.ext E1038).keep K1062c).keep K1504c) (((Q9_1.ext E1038).keep K1062c).keep K1504c) c1505 c1506 (((Q9_4.ext E1038).keep K1062c).keep K1504c) c1507 c1508 (((Q9_7.ext E1038).keep K1062c).keep K1504c) c1509 (((Q9_9.ext E1038).keep K1062c).keep K1504c) c1510 (((Q9_11.ext E1038).keep K1062c).keep K1504c) c1511 ((A1038.keep K1062c).keep K1504c) F1504_values F1504_names F1504_place F1504_depth F1504_outerValues F1504_outerNames F1504_outerPlaces V1504_ov_ V1504_on_ V1504_op_ 
   ·show EndsW _ _ _ _ T1504 (mkF m 153 #[ci p0, ci p1, ci p2, ci p3, ci p4, cr w_EMPTY, cr b606, cr b1019, cr b1034, ci 2, ci 1, ci l11_, ci l12_, ci r1035, ci r1036, ci r1037, cr b1038, cu, cu, cu, cu] []) _ _ _
    refine wilW X1504 hx hby at_153 rfl ?_
    refine wicW X1504 hx hby at_155 ?_
    refine wcnW X1504 hx hby at_156 (flt (by decide : ¬ ((2 : Int32) < (2 : Int32)))).1 ?_
    rcases ho2 with rfl | rfl
    ·have hp11_ : (r1036 = 0 ∨ r1036 = 1 ∨ r1036 = 2) := hr1036.elim (fun z => z.2) (fun z => absurd rfl z.1)
     show EndsW _ _ _ _ T1504 (mkF m 159 #[ci p0, ci p1, ci p2, ci p3, ci p4, cr w_EMPTY, cr b606, cr b1019, cr b1034, ci 2, ci 1, ci 0, ci l12_, ci r1035, ci r1036, ci r1037, cr b1038, cu, cu, cu, cu] []) _ _ _
     refine walW X1504 hx hby at_159 rfl rfl ?_
     refine wilW X1504 hx hby at_161 rfl ?_
     refine wiyW (pc := 163) (pc' := 171) X1504 hx hby at_163 ((if0 _ _).trans (teq (by decide : (0 : Int32) = (0 : Int32))).1) ?_
     refine walW X1504 hx hby at_171 rfl rfl ?_
     show EndsW _ _ _ _ T1504 (mkF m 173 #[ci p0, ci p1, ci p2, ci p3, ci p4, cr w_EMPTY, cr b606, cr b1019, cr b1034, ci 2, ci 1, ci 0, ci l12_, ci r1035, ci r1036, ci r1037, cr b1038, cu, cu, cu, cu] [(.ref b1034), (.ref b1038)]) _ _ _
     refine wilW X1504 hx hby at_173 rfl ?_
     have c1513 := ((Q9_2.ext E1038).keep K1062c (ninS ne_b1019_b1038 nin0)).keep K1504c (ninS ne_b1019_b1038 (ninS ne_b1019_b1063 (ninS ne_b1019_b1064 (ninS ne_b1019_b1065 nin0))))
     have c1514 := ((Q9_3.ext E1038).keep K1062c (ninS ne_b1019_b1038 nin0)).keep K1504c (ninS ne_b1019_b1038 (ninS ne_b1019_b1063 (ninS ne_b1019_b1064 (ninS ne_b1019_b1065 nin0))))
     have c1515 := ((Q9_10.ext E1038).keep K1062c (ninS ne_b1034_b1038 nin0)).keep K1504c (ninS ne_b1034_b1038 (ninS ne_b1034_b1063 (ninS ne_b1034_b1064 (ninS ne_b1034_b1065 nin0))))
     have c1516 := ((Q9_8.ext E1038).keep K1062c (ninS ne_b1014_b1038 nin0)).keep K1504c (ninS ne_b1014_b1038 (ninS ne_b1014_b1063 (ninS ne_b1014_b1064 (ninS ne_b1014_b1065 nin0))))
     have c1517 := ((Q9_12.ext E1038).keep K1062c (ninS ne_b1023_b1038 nin0)).keep K1504c (ninS ne_b1023_b1038 (ninS ne_b1023_b1063 (ninS ne_b1023_b1064 (ninS ne_b1023_b1065 nin0))))
     refine wsbW X1504 hx hZ hown hw hml rfl hby at_175 411 rfl 412 rfl 390 rfl 413 rfl (by decide) e1504 (rmStep_1oa l Z a0 hw [] n0 h1504 O1504 G1 w_EMPTY GF b1038 b1063 b1064 b1065 b1019 b1017 b1014 b1034 b1023 k1021 k1023 k1066 k1067 k1068 r1035 r1036 g_b1038 g_b1063 g_b1064 g_b1065 NEW ⟨((A1038.keep K1062c).keep K1504c), (((Q9_1.ext E1038).keep K1062c).keep K1504c), (((Q9_4.ext E1038).keep K1062c).keep K1504c), (((Q9_7.ext E1038).keep K1062c).keep K1504c), (((Q9_9.ext E1038).keep K1062c).keep K1504c), (((Q9_11.ext E1038).keep K1062c).keep K1504c), c1513, c1514, c1515, F1504_values, F1504_names, F1504_place, F1504_depth, F1504_outerValues, F1504_outerNames, F1504_outerPlaces, c1516, c1517, V1504_ov_, V1504_on_, V1504_op_, Y1062_1, Y1062_4⟩ hp11_) (by decide) (by decide) [(.ref b1038), (.ref b1034), (.int r1036)] [] pdx_44 rfl rfl rfl (by decide) (by decide) rfl ?_
     intro _ T1512 _ X1512 hQ1512
     obtain ⟨rfl, N1512q, K1512c, F1512_values, F1512_names, F1512_place, F1512_depth, F1512_outerValues, F1512_outerNames, F1512_outerPlaces, V1512_ov_, V1512_on_, V1512_op_⟩ := hQ1512
     have N1512 := Fr.app N1504 N1512q
     obtain ⟨h1512, e1512⟩ : ∃ z, T1512.heap = z := ⟨_, rfl⟩
     rw [e1512] at K1512c F1512_values F1512_names F1512_place F1512_depth F1512_outerValues F1512_outerNames F1512_outerPlaces V1512_ov_ V1512_on_ V1512_op_
     have K1512 := K1504.trans K1512c (allS (Or.inr sz_b1038) (allS (Or.inr sz_b1063) (allS (Or.inr sz_b1064) (allS (Or.inr sz_b1065) all0))))
     have O1512 := O1504.keep K1512c (allS g_b1038 (allS g_b1063 (allS g_b1064 (allS g_b1065 all0))))
     refine wilW X1512 hx hby at_178 rfl ?_
     refine wicW X1512 hx hby at_180 ?_
     refine wcyW (pc := 181) (pc' := 203) X1512 hx hby at_181 (tlt (by decide : (2 : Int32) < (3 : Int32))).1 ?_
     have c1518 := c1513.keep K1512c (ninS ne_b1019_b1038 (ninS ne_b1019_b1063 (ninS ne_b1019_b1064 (ninS ne_b1019_b1065 nin0))))
     have c1519 := c1514.keep K1512c (ninS ne_b1019_b1038 (ninS ne_b1019_b1063 (ninS ne_b1019_b1064 (ninS ne_b1019_b1065 nin0))))
     have c1520 := (((Q9_5.ext E1038).keep K1062c (ninS ne_b1017_b1038 nin0)).keep K1504c (ninS ne_b1017_b1038 (ninS ne_b1017_b1063 (ninS ne_b1017_b1064 (ninS ne_b1017_b1065 nin0))))).keep K1512c (ninS ne_b1017_b1038 (ninS ne_b1017_b1063 (ninS ne_b1017_b1064 (ninS ne_b1017_b1065 nin0))))
     have c1521 := (((Q9_6.ext E1038).keep K1062c (ninS ne_b1018_b1038 nin0)).keep K1504c (ninS ne_b1018_b1038 (ninS ne_b1018_b1063 (ninS ne_b1018_b1064 (ninS ne_b1018_b1065 nin0))))).keep K1512c (ninS ne_b1018_b1038 (ninS ne_b1018_b1063 (ninS ne_b1018_b1064 (ninS ne_b1018_b1065 nin0))))
     have c1522 := c1516.keep K1512c (ninS ne_b1014_b1038 (ninS ne_b1014_b1063 (ninS ne_b1014_b1064 (ninS ne_b1014_b1065 nin0))))
     have c1523 := c1515.keep K1512c (ninS ne_b1034_b1038 (ninS ne_b1034_b1063 (ninS ne_b1034_b1064 (ninS ne_b1034_b1065 nin0))))
     have c1524 := c1517.keep K1512c (ninS ne_b1023_b1038 (ninS ne_b1023_b1063 (ninS ne_b1023_b1064 (ninS ne_b1023_b1065 nin0))))
     exact J203_2o _ _ _ (.ref b1023) .null r1036 (0 : Int32) l12_ r1035 r1036 r1037 X1512 e1512 O1512 N1512 K1512 (Nat.le_trans (Nat.le_trans (Nat.le_trans (Nat.le_trans hk_9 E1038.1) K1062c.1) K1504c.1) K1512c.1) ((((Q9_0.ext E1038).keep K1062c).keep K1504c).keep K1512c) ((((Q9_1.ext E1038).keep K1062c).keep K1504c).keep K1512c) c1518 c1519 ((((Q9_4.ext E1038).keep K1062c).keep K1504c).keep K1512c) c1520 c1521 ((((Q9_7.ext E1038).keep K1062c).keep K1504c).keep K1512c) c1522 ((((Q9_9.ext E1038).keep K1062c).keep K1504c).keep K1512c) c1523 ((((Q9_11.ext E1038).keep K1062c).keep K1504c).keep K1512c) c1524 (((A1038.keep K1062c).keep K1504c).keep K1512c) F1512_values F1512_names F1512_place F1512_depth F1512_outerValues F1512_outerNames F1512_outerPlaces V1512_ov_ V1512_on_ V1512_op_ hp10_
    ·have hp11_ : (r1036 = 0 ∨ r1036 = 1) := hr1036.elim (fun z => absurd z.1 (by decide)) (fun z => z.2)
     show EndsW _ _ _ _ T1504 (mkF m 159 #[ci p0, ci p1, ci p2, ci p3, ci p4, cr w_EMPTY, cr b606, cr b1019, cr b1034, ci 2, ci 1, ci 1, ci l12_, ci r1035, ci r1036, ci r1037, cr b1038, cu, cu, cu, cu] []) _ _ _
     refine walW X1504 hx hby at_159 rfl rfl ?_
     refine wilW X1504 hx hby at_161 rfl ?_
     refine winW X1504 hx hby at_163 ((if0 _ _).trans (feq (by decide : ¬ ((1 : Int32) = (0 : Int32)))).1) ?_
     refine walW X1504 hx hby at_166 rfl rfl ?_
     refine wgoW (pc := 168) (pc' := 173) X1504 hx hby at_168 ?_
     refine wilW X1504 hx hby at_173 rfl ?_
     have c1526 := ((Q9_2.ext E1038).keep K1062c (ninS ne_b1019_b1038 nin0)).keep K1504c (ninS ne_b1019_b1038 (ninS ne_b1019_b1063 (ninS ne_b1019_b1064 (ninS ne_b1019_b1065 nin0))))
     have c1527 := ((Q9_3.ext E1038).keep K1062c (ninS ne_b1019_b1038 nin0)).keep K1504c (ninS ne_b1019_b1038 (ninS ne_b1019_b1063 (ninS ne_b1019_b1064 (ninS ne_b1019_b1065 nin0))))
     have c1528 := ((Q9_10.ext E1038).keep K1062c (ninS ne_b1034_b1038 nin0)).keep K1504c (ninS ne_b1034_b1038 (ninS ne_b1034_b1063 (ninS ne_b1034_b1064 (ninS ne_b1034_b1065 nin0))))
     have c1529 := ((Q9_8.ext E1038).keep K1062c (ninS ne_b1014_b1038 nin0)).keep K1504c (ninS ne_b1014_b1038 (ninS ne_b1014_b1063 (ninS ne_b1014_b1064 (ninS ne_b1014_b1065 nin0))))
     have c1530 := ((Q9_12.ext E1038).keep K1062c (ninS ne_b1023_b1038 nin0)).keep K1504c (ninS ne_b1023_b1038 (ninS ne_b1023_b1063 (ninS ne_b1023_b1064 (ninS ne_b1023_b1065 nin0))))
     refine wsbW X1504 hx hZ hown hw hml rfl hby at_175 411 rfl 412 rfl 390 rfl 413 rfl (by decide) e1504 (rmStep_1oo l Z a0 hw [] n0 h1504 O1504 G1 w_EMPTY GF b1038 b1063 b1064 b1065 b1019 b1017 b1014 b1034 b1023 k1021 k1023 k1066 k1067 k1068 r1035 r1036 g_b1038 g_b1063 g_b1064 g_b1065 NEW ⟨((A1038.keep K1062c).keep K1504c), (((Q9_1.ext E1038).keep K1062c).keep K1504c), (((Q9_4.ext E1038).keep K1062c).keep K1504c), (((Q9_7.ext E1038).keep K1062c).keep K1504c), (((Q9_9.ext E1038).keep K1062c).keep K1504c), (((Q9_11.ext E1038).keep K1062c).keep K1504c), c1526, c1527, c1528, F1504_values, F1504_names, F1504_place, F1504_depth, F1504_outerValues, F1504_outerNames, F1504_outerPlaces, c1529, c1530, V1504_ov_, V1504_on_, V1504_op_, Y1062_1, Y1062_4⟩ hp11_) (by decide) (by decide) [(.ref b1038), (.ref b1019), (.int r1036)] [] pdx_44 rfl rfl rfl (by decide) (by decide) rfl ?_
     intro _ T1525 _ X1525 hQ1525
     obtain ⟨rfl, N1525q, K1525c, F1525_values, F1525_names, F1525_place, F1525_depth, F1525_outerValues, F1525_outerNames, F1525_outerPlaces, V1525_ov_, V1525_on_, V1525_op_⟩ := hQ1525
     have N1525 := Fr.app N1504 N1525q
     obtain ⟨h1525, e1525⟩ : ∃ z, T1525.heap = z := ⟨_, rfl⟩
     rw [e1525] at K1525c F1525_values F1525_names F1525_place F1525_depth F1525_outerValues F1525_outerNames F1525_outerPlaces V1525_ov_ V1525_on_ V1525_op_
     have K1525 := K1504.trans K1525c (allS (Or.inr sz_b1038) (allS (Or.inr sz_b1063) (allS (Or.inr sz_b1064) (allS (Or.inr sz_b1065) all0))))
     have O1525 := O1504.keep K1525c (allS g_b1038 (allS g_b1063 (allS g_b1064 (allS g_b1065 all0))))
     refine wilW X1525 hx hby at_178 rfl ?_
     refine wicW X1525 hx hby at_180 ?_
     refine wcyW (pc := 181) (pc' := 203) X1525 hx hby at_181 (tlt (by decide : (2 : Int32) < (3 : Int32))).1 ?_
     have c1531 := c1526.keep K1525c (ninS ne_b1019_b1038 (ninS ne_b1019_b1063 (ninS ne_b1019_b1064 (ninS ne_b1019_b1065 nin0))))
     have c1532 := c1527.keep K1525c (ninS ne_b1019_b1038 (ninS ne_b1019_b1063 (ninS ne_b1019_b1064 (ninS ne_b1019_b1065 nin0))))
     have c1533 := (((Q9_5.ext E1038).keep K1062c (ninS ne_b1017_b1038 nin0)).keep K1504c (ninS ne_b1017_b1038 (ninS ne_b1017_b1063 (ninS ne_b1017_b1064 (ninS ne_b1017_b1065 nin0))))).keep K1525c (ninS ne_b1017_b1038 (ninS ne_b1017_b1063 (ninS ne_b1017_b1064 (ninS ne_b1017_b1065 nin0))))
     have c1534 := (((Q9_6.ext E1038).keep K1062c (ninS ne_b1018_b1038 nin0)).keep K1504c (ninS ne_b1018_b1038 (ninS ne_b1018_b1063 (ninS ne_b1018_b1064 (ninS ne_b1018_b1065 nin0))))).keep K1525c (ninS ne_b1018_b1038 (ninS ne_b1018_b1063 (ninS ne_b1018_b1064 (ninS ne_b1018_b1065 nin0))))
     have c1535 := c1529.keep K1525c (ninS ne_b1014_b1038 (ninS ne_b1014_b1063 (ninS ne_b1014_b1064 (ninS ne_b1014_b1065 nin0))))
     have c1536 := c1528.keep K1525c (ninS ne_b1034_b1038 (ninS ne_b1034_b1063 (ninS ne_b1034_b1064 (ninS ne_b1034_b1065 nin0))))
     have c1537 := c1530.keep K1525c (ninS ne_b1023_b1038 (ninS ne_b1023_b1063 (ninS ne_b1023_b1064 (ninS ne_b1023_b1065 nin0))))
     exact J203_2o _ _ _ (.ref b1014) (.ref b1017) r1036 (1 : Int32) l12_ r1035 r1036 r1037 X1525 e1525 O1525 N1525 K1525 (Nat.le_trans (Nat.le_trans (Nat.le_trans (Nat.le_trans hk_9 E1038.1) K1062c.1) K1504c.1) K1525c.1) ((((Q9_0.ext E1038).keep K1062c).keep K1504c).keep K1525c) ((((Q9_1.ext E1038).keep K1062c).keep K1504c).keep K1525c) c1531 c1532 ((((Q9_4.ext E1038).keep K1062c).keep K1504c).keep K1525c) c1533 c1534 ((((Q9_7.ext E1038).keep K1062c).keep K1504c).keep K1525c) c1535 ((((Q9_9.ext E1038).keep K1062c).keep K1504c).keep K1525c) c1536 ((((Q9_11.ext E1038).keep K1062c).keep K1504c).keep K1525c) c1537 (((A1038.keep K1062c).keep K1504c).keep K1525c) F1525_values F1525_names F1525_place F1525_depth F1525_outerValues F1525_outerNames F1525_outerPlaces V1525_ov_ V1525_on_ V1525_op_ hp10_
   ·show EndsW _ _ _ _ T1504 (mkF m 153 #[ci p0, ci p1, ci p2, ci p3, ci p4, cr w_EMPTY, cr b606, cr b1019, cr b1034, ci 3, ci 1, ci l11_, ci l12_, ci r1035, ci r1036, ci r1037, cr b1038, cu, cu, cu, cu] []) _ _ _
    refine wilW X1504 hx hby at_153 rfl ?_
    refine wicW X1504 hx hby at_155 ?_
    refine wcnW X1504 hx hby at_156 (flt (by decide : ¬ ((3 : Int32) < (2 : Int32)))).1 ?_
    rcases ho2 with rfl | rfl
    ·have hp11_ : (r1036 = 0 ∨ r1036 = 1 ∨ r1036 = 2) := hr1036.elim (fun z => z.2) (fun z => absurd rfl z.1)
     show EndsW _ _ _ _ T1504 (mkF m 159 #[ci p0, ci p1, ci p2, ci p3, ci p4, cr w_EMPTY, cr b606, cr b1019, cr b1034, ci 3, ci 1, ci 0, ci l12_, ci r1035, ci r1036, ci r1037, cr b1038, cu, cu, cu, cu] []) _ _ _
     refine walW X1504 hx hby at_159 rfl rfl ?_
     refine wilW X1504 hx hby at_161 rfl ?_
     refine wiyW (pc := 163) (pc' := 171) X1504 hx hby at_163 ((if0 _ _).trans (teq (by decide : (0 : Int32) = (0 : Int32))).1) ?_
     refine walW X1504 hx hby at_171 rfl rfl ?_
     refine wilW X1504 hx hby at_173 rfl ?_
     have c1539 := ((Q9_2.ext E1038).keep K1062c (ninS ne_b1019_b1038 nin0)).keep K1504c (ninS ne_b1019_b1038 (ninS ne_b1019_b1063 (ninS ne_b1019_b1064 (ninS ne_b1019_b1065 nin0))))
     have c1540 := ((Q9_3.ext E1038).keep K1062c (ninS ne_b1019_b1038 nin0)).keep K1504c (ninS ne_b1019_b1038 (ninS ne_b1019_b1063 (ninS ne_b1019_b1064 (ninS ne_b1019_b1065 nin0))))
     have c1541 := ((Q9_10.ext E1038).keep K1062c (ninS ne_b1034_b1038 nin0)).keep K1504c (ninS ne_b1034_b1038 (ninS ne_b1034_b1063 (ninS ne_b1034_b1064 (ninS ne_b1034_b1065 nin0))))
     have c1542 := ((Q9_8.ext E1038).keep K1062c (ninS ne_b1014_b1038 nin0)).keep K1504c (ninS ne_b1014_b1038 (ninS ne_b1014_b1063 (ninS ne_b1014_b1064 (ninS ne_b1014_b1065 nin0))))
     have c1543 := ((Q9_12.ext E1038).keep K1062c (ninS ne_b1023_b1038 nin0)).keep K1504c (ninS ne_b1023_b1038 (ninS ne_b1023_b1063 (ninS ne_b1023_b1064 (ninS ne_b1023_b1065 nin0))))
     refine wsbW X1504 hx hZ hown hw hml rfl hby at_175 411 rfl 412 rfl 390 rfl 413 rfl (by decide) e1504 (rmStep_1oa l Z a0 hw [] n0 h1504 O1504 G1 w_EMPTY GF b1038 b1063 b1064 b1065 b1019 b1017 b1014 b1034 b1023 k1021 k1023 k1066 k1067 k1068 r1035 r1036 g_b1038 g_b1063 g_b1064 g_b1065 NEW ⟨((A1038.keep K1062c).keep K1504c), (((Q9_1.ext E1038).keep K1062c).keep K1504c), (((Q9_4.ext E1038).keep K1062c).keep K1504c), (((Q9_7.ext E1038).keep K1062c).keep K1504c), (((Q9_9.ext E1038).keep K1062c).keep K1504c), (((Q9_11.ext E1038).keep K1062c).keep K1504c), c1539, c1540, c1541, F1504_values, F1504_names, F1504_place, F1504_depth, F1504_outerValues, F1504_outerNames, F1504_outerPlaces, c1542, c1543, V1504_ov_, V1504_on_, V1504_op_, Y1062_1, Y1062_4⟩ hp11_) (by decide) (by decide) [(.ref b1038), (.ref b1034), (.int r1036)] [] pdx_44 rfl rfl rfl (by decide) (by decide) rfl ?_
     intro _ T1538 _ X1538 hQ1538
     obtain ⟨rfl, N1538q, K1538c, F1538_values, F1538_names, F1538_place, F1538_depth, F1538_outerValues, F1538_outerNames, F1538_outerPlaces, V1538_ov_, V1538_on_, V1538_op_⟩ := hQ1538
     have N1538 := Fr.app N1504 N1538q
     obtain ⟨h1538, e1538⟩ : ∃ z, T1538.heap = z := ⟨_, rfl⟩
     rw [e1538] at K1538c F1538_values F1538_names F1538_place F1538_depth F1538_outerValues F1538_outerNames F1538_outerPlaces V1538_ov_ V1538_on_ V1538_op_
     have K1538 := K1504.trans K1538c (allS (Or.inr sz_b1038) (allS (Or.inr sz_b1063) (allS (Or.inr sz_b1064) (allS (Or.inr sz_b1065) all0))))
     have O1538 := O1504.keep K1538c (allS g_b1038 (allS g_b1063 (allS g_b1064 (allS g_b1065 all0))))
     have c1544 := c1539.keep K1538c (ninS ne_b1019_b1038 (ninS ne_b1019_b1063 (ninS ne_b1019_b1064 (ninS ne_b1019_b1065 nin0))))
     have c1545 := c1540.keep K1538c (ninS ne_b1019_b1038 (ninS ne_b1019_b1063 (ninS ne_b1019_b1064 (ninS ne_b1019_b1065 nin0))))
     have c1546 := (((Q9_5.ext E1038).keep K1062c (ninS ne_b1017_b1038 nin0)).keep K1504c (ninS ne_b1017_b1038 (ninS ne_b1017_b1063 (ninS ne_b1017_b1064 (ninS ne_b1017_b1065 nin0))))).keep K1538c (ninS ne_b1017_b1038 (ninS ne_b1017_b1063 (ninS ne_b1017_b1064 (ninS ne_b1017_b1065 nin0))))
     have c1547 := (((Q9_6.ext E1038).keep K1062c (ninS ne_b1018_b1038 nin0)).keep K1504c (ninS ne_b1018_b1038 (ninS ne_b1018_b1063 (ninS ne_b1018_b1064 (ninS ne_b1018_b1065 nin0))))).keep K1538c (ninS ne_b1018_b1038 (ninS ne_b1018_b1063 (ninS ne_b1018_b1064 (ninS ne_b1018_b1065 nin0))))
     have c1548 := c1542.keep K1538c (ninS ne_b1014_b1038 (ninS ne_b1014_b1063 (ninS ne_b1014_b1064 (ninS ne_b1014_b1065 nin0))))
     have c1549 := c1541.keep K1538c (ninS ne_b1034_b1038 (ninS ne_b1034_b1063 (ninS ne_b1034_b1064 (ninS ne_b1034_b1065 nin0))))
     have c1550 := c1543.keep K1538c (ninS ne_b1023_b1038 (ninS ne_b1023_b1063 (ninS ne_b1023_b1064 (ninS ne_b1023_b1065 nin0))))
     exact J178_a _ _ _ (.ref b1014) (.ref b1017) r1035 (1 : Int32) l12_ r1035 r1036 r1037 X1538 e1538 O1538 N1538 K1538 (Nat.le_trans (Nat.le_trans (Nat.le_trans (Nat.le_trans hk_9 E1038.1) K1062c.1) K1504c.1) K1538c.1) ((((Q9_0.ext E1038).keep K1062c).keep K1504c).keep K1538c) ((((Q9_1.ext E1038).keep K1062c).keep K1504c).keep K1538c) c1544 c1545 ((((Q9_4.ext E1038).keep K1062c).keep K1504c).keep K1538c) c1546 c1547 ((((Q9_7.ext E1038).keep K1062c).keep K1504c).keep K1538c) c1548 ((((Q9_9.ext E1038).keep K1062c).keep K1504c).keep K1538c) c1549 ((((Q9_11.ext E1038).keep K1062c).keep K1504c).keep K1538c) c1550 (((A1038.keep K1062c).keep K1504c).keep K1538c) F1538_values F1538_names F1538_place F1538_depth F1538_outerValues F1538_outerNames F1538_outerPlaces V1538_ov_ V1538_on_ V1538_op_ hp11_ ho3 hr1037
    ·have hp11_ : (r1036 = 0 ∨ r1036 = 1) := hr1036.elim (fun z => absurd z.1 (by decide)) (fun z => z.2)
     show EndsW _ _ _ _ T1504 (mkF m 159 #[ci p0, ci p1, ci p2, ci p3, ci p4, cr w_EMPTY, cr b606, cr b1019, cr b1034, ci 3, ci 1, ci 1, ci l12_, ci r1035, ci r1036, ci r1037, cr b1038, cu, cu, cu, cu] []) _ _ _
     refine walW X1504 hx hby at_159 rfl rfl ?_
     refine wilW X1504 hx hby at_161 rfl ?_
     show EndsW _ _ _ _ T1504 (mkF m 163 #[ci p0, ci p1, ci p2, ci p3, ci p4, cr w_EMPTY, cr b606, cr b1019, cr b1034, ci 3, ci 1, ci 1, ci l12_, ci r1035, ci r1036, ci r1037, cr b1038, cu, cu, cu, cu] [(.int 1), (.ref b1038)]) _ _ _
     refine winW X1504 hx hby at_163 ((if0 _ _).trans (feq (by decide : ¬ ((1 : Int32) = (0 : Int32)))).1) ?_
     refine walW X1504 hx hby at_166 rfl rfl ?_
     refine wgoW (pc := 168) (pc' := 173) X1504 hx hby at_168 ?_
     refine wilW X1504 hx hby at_173 rfl ?_
     have c1552 := ((Q9_2.ext E1038).keep K1062c (ninS ne_b1019_b1038 nin0)).keep K1504c (ninS ne_b1019_b1038 (ninS ne_b1019_b1063 (ninS ne_b1019_b1064 (ninS ne_b1019_b1065 nin0))))
     have c1553 := ((Q9_3.ext E1038).keep K1062c (ninS ne_b1019_b1038 nin0)).keep K1504c (ninS ne_b1019_b1038 (ninS ne_b1019_b1063 (ninS ne_b1019_b1064 (ninS ne_b1019_b1065 nin0))))
     have c1554 := ((Q9_10.ext E1038).keep K1062c (ninS ne_b1034_b1038 nin0)).keep K1504c (ninS ne_b1034_b1038 (ninS ne_b1034_b1063 (ninS ne_b1034_b1064 (ninS ne_b1034_b1065 nin0))))
     have c1555 := ((Q9_8.ext E1038).keep K1062c (ninS ne_b1014_b1038 nin0)).keep K1504c (ninS ne_b1014_b1038 (ninS ne_b1014_b1063 (ninS ne_b1014_b1064 (ninS ne_b1014_b1065 nin0))))
     have c1556 := ((Q9_12.ext E1038).keep K1062c (ninS ne_b1023_b1038 nin0)).keep K1504c (ninS ne_b1023_b1038 (ninS ne_b1023_b1063 (ninS ne_b1023_b1064 (ninS ne_b1023_b1065 nin0))))
     refine wsbW X1504 hx hZ hown hw hml rfl hby at_175 411 rfl 412 rfl 390 rfl 413 rfl (by decide) e1504 (rmStep_1oo l Z a0 hw [] n0 h1504 O1504 G1 w_EMPTY GF b1038 b1063 b1064 b1065 b1019 b1017 b1014 b1034 b1023 k1021 k1023 k1066 k1067 k1068 r1035 r1036 g_b1038 g_b1063 g_b1064 g_b1065 NEW ⟨((A1038.keep K1062c).keep K1504c), (((Q9_1.ext E1038).keep K1062c).keep K1504c), (((Q9_4.ext E1038).keep K1062c).keep K1504c), (((Q9_7.ext E1038).keep K1062c).keep K1504c), (((Q9_9.ext E1038).keep K1062c).keep K1504c), (((Q9_11.ext E1038).keep K1062c).keep K1504c), c1552, c1553, c1554, F1504_values, F1504_names, F1504_place, F1504_depth, F1504_outerValues, F1504_outerNames, F1504_outerPlaces, c1555, c1556, V1504_ov_, V1504_on_, V1504_op_, Y1062_1, Y1062_4⟩ hp11_) (by decide) (by decide) [(.ref b1038), (.ref b1019), (.int r1036)] [] pdx_44 rfl rfl rfl (by decide) (by decide) rfl ?_
     intro _ T1551 _ X1551 hQ1551
     obtain ⟨rfl, N1551q, K1551c, F1551_values, F1551_names, F1551_place, F1551_depth, F1551_outerValues, F1551_outerNames, F1551_outerPlaces, V1551_ov_, V1551_on_, V1551_op_⟩ := hQ1551
     have N1551 := Fr.app N1504 N1551q
     obtain ⟨h1551, e1551⟩ : ∃ z, T1551.heap = z := ⟨_, rfl⟩
     rw [e1551] at K1551c F1551_values F1551_names F1551_place F1551_depth F1551_outerValues F1551_outerNames F1551_outerPlaces V1551_ov_ V1551_on_ V1551_op_
     have K1551 := K1504.trans K1551c (allS (Or.inr sz_b1038) (allS (Or.inr sz_b1063) (allS (Or.inr sz_b1064) (allS (Or.inr sz_b1065) all0))))
     have O1551 := O1504.keep K1551c (allS g_b1038 (allS g_b1063 (allS g_b1064 (allS g_b1065 all0))))
     have c1557 := c1552.keep K1551c (ninS ne_b1019_b1038 (ninS ne_b1019_b1063 (ninS ne_b1019_b1064 (ninS ne_b1019_b1065 nin0))))
     have c1558 := c1553.keep K1551c (ninS ne_b1019_b1038 (ninS ne_b1019_b1063 (ninS ne_b1019_b1064 (ninS ne_b1019_b1065 nin0))))
     have c1559 := (((Q9_5.ext E1038).keep K1062c (ninS ne_b1017_b1038 nin0)).keep K1504c (ninS ne_b1017_b1038 (ninS ne_b1017_b1063 (ninS ne_b1017_b1064 (ninS ne_b1017_b1065 nin0))))).keep K1551c (ninS ne_b1017_b1038 (ninS ne_b1017_b1063 (ninS ne_b1017_b1064 (ninS ne_b1017_b1065 nin0))))
     have c1560 := (((Q9_6.ext E1038).keep K1062c (ninS ne_b1018_b1038 nin0)).keep K1504c (ninS ne_b1018_b1038 (ninS ne_b1018_b1063 (ninS ne_b1018_b1064 (ninS ne_b1018_b1065 nin0))))).keep K1551c (ninS ne_b1018_b1038 (ninS ne_b1018_b1063 (ninS ne_b1018_b1064 (ninS ne_b1018_b1065 nin0))))
     have c1561 := c1555.keep K1551c (ninS ne_b1014_b1038 (ninS ne_b1014_b1063 (ninS ne_b1014_b1064 (ninS ne_b1014_b1065 nin0))))
     have c1562 := c1554.keep K1551c (ninS ne_b1034_b1038 (ninS ne_b1034_b1063 (ninS ne_b1034_b1064 (ninS ne_b1034_b1065 nin0))))
     have c1563 := c1556.keep K1551c (ninS ne_b1023_b1038 (ninS ne_b1023_b1063 (ninS ne_b1023_b1064 (ninS ne_b1023_b1065 nin0))))
     exact J178_o _ _ _ (.ref b1014) (.ref b1017) r1035 (1 : Int32) l12_ r1035 r1036 r1037 X1551 e1551 O1551 N1551 K1551 (Nat.le_trans (Nat.le_trans (Nat.le_trans (Nat.le_trans hk_9 E1038.1) K1062c.1) K1504c.1) K1551c.1) ((((Q9_0.ext E1038).keep K1062c).keep K1504c).keep K1551c) ((((Q9_1.ext E1038).keep K1062c).keep K1504c).keep K1551c) c1557 c1558 ((((Q9_4.ext E1038).keep K1062c).keep K1504c).keep K1551c) c1559 c1560 ((((Q9_7.ext E1038).keep K1062c).keep K1504c).keep K1551c) c1561 ((((Q9_9.ext E1038).keep K1062c).keep K1504c).keep K1551c) c1562 ((((Q9_11.ext E1038).keep K1062c).keep K1504c).keep K1551c) c1563 (((A1038.keep K1062c).keep K1504c).keep K1551c) F1551_values F1551_names F1551_place F1551_depth F1551_outerValues F1551_outerNames F1551_outerPlaces V1551_ov_ V1551_on_ V1551_op_ hp11_ ho3 hr1037
 have J85 : ∀ (T8 : State) (h8 : Heap) (lcs : List Loc) (l10_ : Int32) (l11_ : Int32) (X8 : Stand p l e room_1 (s.setVm T798.vm) m #[(.int p0), (.int p1), (.int p2), (.int p3), (.int p4)] below meth c T8 lcs 19 107) (eT8 : T8.heap = h8) (O8 : Old Z n0 h8) (N8 : Fr n0 lcs) (K8 : Keep h0 h8 []) (hk_8 : T798.heap.size ≤ h8.size) (Q8_0 : Exa Z h8 b606 cST) (Q8_1 : Exa Z h8 b1019 cJO) (Q8_2 : f4_ Z h8 b1019 (.ref b1017)) (Q8_3 : f3_ Z h8 b1019 (.ref b1014)) (Q8_4 : Exa Z h8 b1017 cNA) (Q8_5 : f34_ Z h8 b1017 (.ref b1018)) (Q8_6 : Arv Z h8 b1018 k1022 (.object cST) (1 : Int32) [(.ref b606)] .null) (Q8_7 : Exa Z h8 b1014 cAJ) (Q8_8 : Arv Z h8 b1014 k1021 (.object cJV) (1 : Int32) [(.ref w_EMPTY)] .null) (Q8_9 : Exa Z h8 b1034 cJA) (Q8_10 : f12_ Z h8 b1034 (.ref b1023)) (Q8_11 : Exa Z h8 b1023 cAJ) (Q8_12 : Arv Z h8 b1023 k1023 (.object cJV) (2 : Int32) [(.ref w_EMPTY), (.ref b1019)] .null) (ho1 : (l10_ = 0 ∨ l10_ = 1)) (ho2 : (l11_ = 0 ∨ l11_ = 1)), EndsW p e below s T8 (mkF m 85 #[ci p0, ci p1, ci p2, ci p3, ci p4, cr w_EMPTY, cr b606, cr b1019, cr b1034, ci n_, ci l10_, cu, cu, cu, cu, cu, cu, cu, cu, cu, cu] [(.int l11_)]) room_1.cells room_1.slots (fun v h L => v = some (.int 1) ∧ Fr n0 L) := by
  intro T8 h8 lcs l10_ l11_ X8 eT8 O8 N8 K8 hk_8 Q8_0 Q8_1 Q8_2 Q8_3 Q8_4 Q8_5 Q8_6 Q8_7 Q8_8 Q8_9 Q8_10 Q8_11 Q8_12 ho1 ho2
  show EndsW _ _ _ _ T8 (mkF m 85 #[ci p0, ci p1, ci p2, ci p3, ci p4, cr w_EMPTY, cr b606, cr b1019, cr b1034, ci n_, ci l10_, cu, cu, cu, cu, cu, cu, cu, cu, cu, cu] [(.int l11_)]) _ _ _
  refine wstW X8 hx hby at_85 (l' := #[ci p0, ci p1, ci p2, ci p3, ci p4, cr w_EMPTY, cr b606, cr b1019, cr b1034, ci n_, ci l10_, ci l11_, cu, cu, cu, cu, cu, cu, cu, cu, cu]) rfl ?_
  refine wilNW X8 hx hby at_87 rfl ?_
  refine wbpW X8 hx hby at_88 ?_
  refine wanW X8 hx hby at_90 ?_
  by_cases hc91_1564 : (p0 &&& (16 : Int32)) = (0 : Int32)
  ·refine wiyW (pc := 91) (pc' := 98) X8 hx hby at_91 ((if0 _ _).trans (teq hc91_1564).1) ?_
   refine wicW X8 hx hby at_98 ?_
   exact J99 _ _ _ l10_ l11_ (0 : Int32) X8 eT8 O8 N8 K8 hk_8 Q8_0 Q8_1 Q8_2 Q8_3 Q8_4 Q8_5 Q8_6 Q8_7 Q8_8 Q8_9 Q8_10 Q8_11 Q8_12 ho1 ho2 (Or.inl rfl)
  ·refine winW X8 hx hby at_91 ((if0 _ _).trans (feq hc91_1564).1) ?_
   refine wicW X8 hx hby at_94 ?_
   refine wgoW (pc := 95) (pc' := 99) X8 hx hby at_95 ?_
   exact J99 _ _ _ l10_ l11_ (1 : Int32) X8 eT8 O8 N8 K8 hk_8 Q8_0 Q8_1 Q8_2 Q8_3 Q8_4 Q8_5 Q8_6 Q8_7 Q8_8 Q8_9 Q8_10 Q8_11 Q8_12 ho1 ho2 (Or.inr rfl)
 have J71 : ∀ (T7 : State) (h7 : Heap) (lcs : List Loc) (l10_ : Int32) (X7 : Stand p l e room_1 (s.setVm T798.vm) m #[(.int p0), (.int p1), (.int p2), (.int p3), (.int p4)] below meth c T7 lcs 19 107) (eT7 : T7.heap = h7) (O7 : Old Z n0 h7) (N7 : Fr n0 lcs) (K7 : Keep h0 h7 []) (hk_7 : T798.heap.size ≤ h7.size) (Q7_0 : Exa Z h7 b606 cST) (Q7_1 : Exa Z h7 b1019 cJO) (Q7_2 : f4_ Z h7 b1019 (.ref b1017)) (Q7_3 : f3_ Z h7 b1019 (.ref b1014)) (Q7_4 : Exa Z h7 b1017 cNA) (Q7_5 : f34_ Z h7 b1017 (.ref b1018)) (Q7_6 : Arv Z h7 b1018 k1022 (.object cST) (1 : Int32) [(.ref b606)] .null) (Q7_7 : Exa Z h7 b1014 cAJ) (Q7_8 : Arv Z h7 b1014 k1021 (.object cJV) (1 : Int32) [(.ref w_EMPTY)] .null) (Q7_9 : Exa Z h7 b1034 cJA) (Q7_10 : f12_ Z h7 b1034 (.ref b1023)) (Q7_11 : Exa Z h7 b1023 cAJ) (Q7_12 : Arv Z h7 b1023 k1023 (.object cJV) (2 : Int32) [(.ref w_EMPTY), (.ref b1019)] .null) (ho1 : (l10_ = 0 ∨ l10_ = 1)), EndsW p e below s T7 (mkF m 71 #[ci p0, ci p1, ci p2, ci p3, ci p4, cr w_EMPTY, cr b606, cr b1019, cr b1034, ci n_, cu, cu, cu, cu, cu, cu, cu, cu, cu, cu, cu] [(.int l10_)]) room_1.cells room_1.slots (fun v h L => v = some (.int 1) ∧ Fr n0 L) := by
  intro T7 h7 lcs l10_ X7 eT7 O7 N7 K7 hk_7 Q7_0 Q7_1 Q7_2 Q7_3 Q7_4 Q7_5 Q7_6 Q7_7 Q7_8 Q7_9 Q7_10 Q7_11 Q7_12 ho1
  show EndsW _ _ _ _ T7 (mkF m 71 #[ci p0, ci p1, ci p2, ci p3, ci p4, cr w_EMPTY, cr b606, cr b1019, cr b1034, ci n_, cu, cu, cu, cu, cu, cu, cu, cu, cu, cu, cu] [(.int l10_)]) _ _ _
  refine wstW X7 hx hby at_71 (l' := #[ci p0, ci p1, ci p2, ci p3, ci p4, cr w_EMPTY, cr b606, cr b1019, cr b1034, ci n_, ci l10_, cu, cu, cu, cu, cu, cu, cu, cu, cu, cu]) rfl ?_
  refine wilNW X7 hx hby at_73 rfl ?_
  refine wbpW X7 hx hby at_74 ?_
  refine wanW X7 hx hby at_76 ?_
  by_cases hc77_1565 : (p0 &&& (8 : Int32)) = (0 : Int32)
  ·refine wiyW (pc := 77) (pc' := 84) X7 hx hby at_77 ((if0 _ _).trans (teq hc77_1565).1) ?_
   refine wicW X7 hx hby at_84 ?_
   exact J85 _ _ _ l10_ (0 : Int32) X7 eT7 O7 N7 K7 hk_7 Q7_0 Q7_1 Q7_2 Q7_3 Q7_4 Q7_5 Q7_6 Q7_7 Q7_8 Q7_9 Q7_10 Q7_11 Q7_12 ho1 (Or.inl rfl)
  ·refine winW X7 hx hby at_77 ((if0 _ _).trans (feq hc77_1565).1) ?_
   refine wicW X7 hx hby at_80 ?_
   refine wgoW (pc := 81) (pc' := 85) X7 hx hby at_81 ?_
   exact J85 _ _ _ l10_ (1 : Int32) X7 eT7 O7 N7 K7 hk_7 Q7_0 Q7_1 Q7_2 Q7_3 Q7_4 Q7_5 Q7_6 Q7_7 Q7_8 Q7_9 Q7_10 Q7_11 Q7_12 ho1 (Or.inr rfl)
 show EndsW _ _ _ _ T1033 (mkF m 60 #[ci p0, ci p1, ci p2, ci p3, ci p4, cr w_EMPTY, cr b606, cr b1019, cr b1034, ci n_, cu, cu, cu, cu, cu, cu, cu, cu, cu, cu, cu] []) _ _ _
 refine wilNW X1033 hx hby at_60 rfl ?_
 refine wicW X1033 hx hby at_61 ?_
 refine wanW X1033 hx hby at_62 ?_
 by_cases hc63_1566 : (p0 &&& (4 : Int32)) = (0 : Int32)
 ·refine wiyW (pc := 63) (pc' := 70) X1033 hx hby at_63 ((if0 _ _).trans (teq hc63_1566).1) ?_
  show EndsW _ _ _ _ T1033 (mkF m 70 #[ci p0, ci p1, ci p2, ci p3, ci p4, cr w_EMPTY, cr b606, cr b1019, cr b1034, ci n_, cu, cu, cu, cu, cu, cu, cu, cu, cu, cu, cu] []) _ _ _
  refine wicW X1033 hx hby at_70 ?_
  have c1567 := ((((((Y605_0.keep K650c).keep K798c).keep K1012c).ext E1023).wr W1024).wr W1025).keep K1033c
  have ne_b1019_b1023 : b1019 ≠ b1023 := Nat.ne_of_lt (Nat.lt_of_lt_of_le Y1012_33.lt (Nat.le_of_eq g1023.symm))
  have c1568 := (((Y1012_34.ext E1023).other W1024 (Or.inl ne_b1019_b1023)).other W1025 (Or.inl ne_b1019_b1023)).keep K1033c nin0
  have c1569 := (((Y1012_35.ext E1023).other W1024 (Or.inl ne_b1019_b1023)).other W1025 (Or.inl ne_b1019_b1023)).keep K1033c nin0
  have ne_b1017_b1023 : b1017 ≠ b1023 := Nat.ne_of_lt (Nat.lt_of_lt_of_le Y1012_24.lt (Nat.le_of_eq g1023.symm))
  have c1570 := (((Y1012_27.ext E1023).other W1024 (Or.inl ne_b1017_b1023)).other W1025 (Or.inl ne_b1017_b1023)).keep K1033c nin0
  have ne_b1018_b1023 : b1018 ≠ b1023 := Nat.ne_of_lt (Nat.lt_of_lt_of_le Y1012_28.lt (Nat.le_of_eq g1023.symm))
  have c1571 := (((Y1012_28.ext E1023).other W1024 ne_b1018_b1023).other W1025 ne_b1018_b1023).keep K1033c nin0
  have ne_b1014_b1023 : b1014 ≠ b1023 := Nat.ne_of_lt (Nat.lt_of_lt_of_le Y1012_2.lt (Nat.le_of_eq g1023.symm))
  have c1572 := (((Y1012_2.ext E1023).other W1024 ne_b1014_b1023).other W1025 ne_b1014_b1023).keep K1033c nin0
  exact J71 _ _ _ (0 : Int32) X1033 e1033 O1033 N1033 K1033 (Nat.le_trans (Nat.le_trans (Nat.le_trans (Nat.le_trans (Nat.le_trans (Nat.le_of_eq (congrArg Array.size e798)) K1012c.1) E1023.1) (own_wrsz W1024)) (own_wrsz W1025)) K1033c.1) c1567 ((((Y1012_33.ext E1023).wr W1024).wr W1025).keep K1033c) c1568 c1569 ((((Y1012_24.ext E1023).wr W1024).wr W1025).keep K1033c) c1570 c1571 ((((Y1012_4.ext E1023).wr W1024).wr W1025).keep K1033c) c1572 Y1033_0 Y1033_1 (((Ex1023.wr W1024).wr W1025).keep K1033c) (V1025.keep K1033c nin0) (Or.inl rfl)
 ·refine winW X1033 hx hby at_63 ((if0 _ _).trans (feq hc63_1566).1) ?_
  refine wicW X1033 hx hby at_66 ?_
  refine wgoW (pc := 67) (pc' := 71) X1033 hx hby at_67 ?_
  have c1573 := ((((((Y605_0.keep K650c).keep K798c).keep K1012c).ext E1023).wr W1024).wr W1025).keep K1033c
  have ne_b1019_b1023 : b1019 ≠ b1023 := Nat.ne_of_lt (Nat.lt_of_lt_of_le Y1012_33.lt (Nat.le_of_eq g1023.symm))
  have c1574 := (((Y1012_34.ext E1023).other W1024 (Or.inl ne_b1019_b1023)).other W1025 (Or.inl ne_b1019_b1023)).keep K1033c nin0
  have c1575 := (((Y1012_35.ext E1023).other W1024 (Or.inl ne_b1019_b1023)).other W1025 (Or.inl ne_b1019_b1023)).keep K1033c nin0
  have ne_b1017_b1023 : b1017 ≠ b1023 := Nat.ne_of_lt (Nat.lt_of_lt_of_le Y1012_24.lt (Nat.le_of_eq g1023.symm))
  have c1576 := (((Y1012_27.ext E1023).other W1024 (Or.inl ne_b1017_b1023)).other W1025 (Or.inl ne_b1017_b1023)).keep K1033c nin0
  have ne_b1018_b1023 : b1018 ≠ b1023 := Nat.ne_of_lt (Nat.lt_of_lt_of_le Y1012_28.lt (Nat.le_of_eq g1023.symm))
  have c1577 := (((Y1012_28.ext E1023).other W1024 ne_b1018_b1023).other W1025 ne_b1018_b1023).keep K1033c nin0
  have ne_b1014_b1023 : b1014 ≠ b1023 := Nat.ne_of_lt (Nat.lt_of_lt_of_le Y1012_2.lt (Nat.le_of_eq g1023.symm))
  have c1578 := (((Y1012_2.ext E1023).other W1024 ne_b1014_b1023).other W1025 ne_b1014_b1023).keep K1033c nin0
  exact J71 _ _ _ (1 : Int32) X1033 e1033 O1033 N1033 K1033 (Nat.le_trans (Nat.le_trans (Nat.le_trans (Nat.le_trans (Nat.le_trans (Nat.le_of_eq (congrArg Array.size e798)) K1012c.1) E1023.1) (own_wrsz W1024)) (own_wrsz W1025)) K1033c.1) c1573 ((((Y1012_33.ext E1023).wr W1024).wr W1025).keep K1033c) c1574 c1575 ((((Y1012_24.ext E1023).wr W1024).wr W1025).keep K1033c) c1576 c1577 ((((Y1012_4.ext E1023).wr W1024).wr W1025).keep K1033c) c1578 Y1033_0 Y1033_1 (((Ex1023.wr W1024).wr W1025).keep K1033c) (V1025.keep K1033c nin0) (Or.inr rfl)
theorem comes_1 {Post : Tables → Env → Array Value → State → Outcome → State → Prop} (hpost : ∀ tb e args s v u, (limb_1_1.after args s (.returned v) u = true ∧ limb_1_2.after args s (.returned v) u = true ∧ True) → ReturnedEndW s (.returned v) u (Jvm.fieldLocs frame_1_writes args s ++ Jvm.arrayLocs frame_1_arrays args s ++ Jvm.staticLocs frame_1_statics s) 56 2368 → Post tb e args s (.returned v) u) :
  ArmFor flags0 classFile x code maxLocals ret World_1 tables_1 room_1 Calls_1 rest_1 Pre_1 Post := by
 intro l hfl _ _ p e ha hc hk s m args below hf hA hF happ hP
 obtain ⟨hcalls, hrest, hpre⟩ := hP
 obtain ⟨-, -, -, hnamed, -, -, -, hat⟩ := (Spec.applies_iff hf).mp happ
 obtain ⟨hg, hn⟩ := and_e (Cond.before_iff.mp (show (Jvm.Cond.and given_1 narrow_1).before args s = true from hpre))
 obtain ⟨g0a, g0b⟩ := and_e hg
 obtain ⟨g1a, g1b⟩ := and_e g0b
 obtain ⟨g2a, g2b⟩ := and_e g1b
 obtain ⟨g3a, g3b⟩ := and_e g2b
 obtain ⟨g4a, g4b⟩ := and_e g3b
 obtain ⟨w0, w1, w2, w3, w4, rfl⟩ : ∃ w0 w1 w2 w3 w4 : Value, args = #[w0, w1, w2, w3, w4] := by
  have hs : args.size = 5 := by simpa [Cond.value, given_1] using g0a
  obtain ⟨L⟩ := args
  match L, hs with
  | [w0, w1, w2, w3, w4], _ => exact ⟨w0, w1, w2, w3, w4, rfl⟩
 have hw := fun d (hd : d ∈ tables_1) => atoms_spec (ws := Jvm.Cond.code x code maxLocals ret :: tables_1) hat d (List.mem_cons_of_mem _ hd)
 have hfit : Fit s := fun {y c} hc i hi => by
  obtain ⟨ha, rfl⟩ := Array.getElem?_eq_some_iff.mp hc
  have q := List.all_eq_true.mp ((Array.all_eq_true_iff_forall_mem.mp hF) _ (Array.getElem_mem ha)) i (List.mem_range.mpr hi)
  simpa [Array.getElem?_eq_getElem hi] using q
 obtain ⟨hsets, hown0⟩ := atoms_of _ (rest_1_c_eq ▸ (show rest_1_c.before _ s = true from hrest))
 obtain ⟨i0, ei0⟩ := is_v g1a
 obtain rfl : w0 = (.int i0) := Option.some.inj ei0
 obtain ⟨i1, ei1⟩ := is_v g2a
 obtain rfl : w1 = (.int i1) := Option.some.inj ei1
 obtain ⟨i2, ei2⟩ := is_v g3a
 obtain rfl : w2 = (.int i2) := Option.some.inj ei2
 obtain ⟨i3, ei3⟩ := is_v g4a
 obtain rfl : w3 = (.int i3) := Option.some.inj ei3
 obtain ⟨i4, ei4⟩ := is_v g4b
 obtain rfl : w4 = (.int i4) := Option.some.inj ei4
 obtain ⟨w_EMPTY, ev_EMPTY⟩ := exa_v hn
 obtain ⟨G1, ev1⟩ := is_v (Cond.before_iff.mp (hsets _ (List.mem_of_getElem? (i := 1) rfl)))
 have SCS := Sta.start ev1 (Or.inl (hsets _ (List.mem_of_getElem? (i := 0) rfl)))
 have P5 : ¬ G1 = (0 : Int32) := gotF (Cond.eq_ints ev1 rfl) (not_v (Cond.before_iff.mp (hsets _ (List.mem_of_getElem? (i := 2) rfl))))
 obtain ⟨n, o, h1, h2, h3, _, L, rfl, ⟨rfl, N⟩, hq⟩ := rm0 l s _ hw tables_1 s.heap.size s.heap (Old.start s) i0 i1 i2 i3 i4 G1 w_EMPTY ⟨SCS, P5, Sta.start ev_EMPTY (Or.inr ⟨(ow hw 1 rfl), (ow hw 2 rfl)⟩), Exa.start ev_EMPTY hn⟩ p e ha hc hk s m _ below hf ((Spec.applies_iff_loose hf).mp happ).1 ⟨rfl, State.Warmed39.refl s, rfl, fun _ => rfl⟩ trivial
 refine ⟨n, _, h1, h2, h3, hpost _ _ _ _ _ _ ⟨Cond.after_iff.mpr rfl, Cond.after_iff.mpr (eq_i res_at (Term.int_eval (1)) rfl), trivial⟩ ⟨hq.1, hq.2.1, hq.2.2.1, (hq.2.2.2.sift fun y hy => Or.inr (N y hy)).mono (by decide) (by decide)⟩⟩
theorem main_1_1 : Claimed_1_1 := comes_1 fun _ _ _ _ _ _ h hF => ⟨h.1, hF⟩
theorem main_1_2 : Claimed_1_2 := comes_1 fun _ _ _ _ _ _ h hF => ⟨h.2.1, hF⟩
end Jvm.Pilot.@@N@@
namespace Jvm.Pilot.@@N@@
open Jvm Jvm.ClassFile Sem Op Lib Jvm.Free Jvm.Stand Jvm.Pilot.@@N@@.Jvm.D
set_option maxRecDepth 65536
/-! MADE BY PROGRAM (witnessworld.py) out of the Statement's table words and the real class files: 49 classes; the members and pool entries that the words name. The judged class is class 1, her method 3. -/
namespace start1
open Jvm.ClassFile
def u (s : String) : CpInfo := .utf8 (stringToUtf16 s)
def gap : Nat → List CpInfo → List CpInfo
  | 0, r => r
  | n + 1, r => .unusable :: gap n r
def poolList (es : List (Nat × CpInfo)) (last : Nat) : List CpInfo := es.foldr (fun e r => gap e.1 (e.2 :: r)) (gap last [])
def pool (es : List (Nat × CpInfo)) (last : Nat) : Array CpInfo := ⟨poolList es last⟩
def fileOf (pool : Array CpInfo) (this : Nat) (attrs : Array Attribute := #[]) (ms : Array MethodInfo := #[]) (fl : Nat := 33) (sup : Nat := 0) (ifs : Array Nat := #[]) (fds : Array FieldInfo := #[]) : ClassFile where
  minorVersion := 0
  majorVersion := 65
  constantPool := pool
  accessFlags := fl
  thisClass := this
  superClass := sup
  interfaces := ifs
  fields := fds
  methods := ms
  attributes := attrs
def plain (name : String) (sup : Option ClassId) : Class where
  name := name
  kind := .ordinary
  loader := none
  accessFlags := 33
  super := sup
  interfaces := #[]
  cf := none
  fields := #[]
  methods := #[]
  instanceTypes := #[]
  staticTypes := #[]
  resolved := #[]
  callSites := []
  init := .initialized
  statics := none
  mirror := none

def pool0 : Array CpInfo := pool [(5, u "<init>"), (0, u "()V"), (1, .class_ 10), (1, u "java/lang/Object"), (16, u "hashCode"), (0, u "()I")] 95
def k0c0 : Code := ⟨0, 1, object_method_1_code, #[], #[]⟩
def k0m0 : Method := { name := "<init>", desc := "()V", sig := { parameters := [], returnType := none }, accessFlags := 1, code := some k0c0 }
def k0m1 : Method := { name := "hashCode", desc := "()I", sig := { parameters := [], returnType := some .int }, accessFlags := 257, code := none }
def k0 : Class := { plain "java/lang/Object" none with
  accessFlags := 33
  cf := some (fileOf pool0 8 #[] #[⟨1, 5, 6, #[]⟩, ⟨257, 27, 28, #[]⟩] 33 0 #[] #[])
  methods := #[k0m0, k0m1]
  resolved := Array.replicate 124 none
  statics := none }
def pool1 : Array CpInfo := pool [(2, .class_ 4), (0, .nameAndType 5 6), (0, u "java/lang/Object"), (0, u "<init>"), (0, u "()V"), (0, .integer 2147483647), (0, .methodref 9 10), (0, .class_ 11), (0, .nameAndType 12 13), (0, u "com/example/ratatoskr/ratatoskr/Walk"), (0, u "enter"), (0, u "(Lcom/example/ratatoskr/ratatoskr/JsonValue;)V"), (0, .methodref 9 15), (0, .nameAndType 16 17), (0, u "next"), (0, u "()Lcom/example/ratatoskr/ratatoskr/JsonValue;"), (0, .fieldref 19 20), (0, .class_ 21), (0, .nameAndType 22 23), (0, u "com/example/ratatoskr/ratatoskr/JsonArray"), (0, u "EMPTY"), (0, u "Lcom/example/ratatoskr/ratatoskr/JsonArray;"), (0, .methodref 25 26), (0, .class_ 27), (0, .nameAndType 28 29), (0, u "java/lang/String"), (0, u "valueOf"), (0, u "(C)Ljava/lang/String;"), (0, .methodref 31 32), (0, .class_ 33), (0, .nameAndType 34 35), (0, u "com/example/ratatoskr/ratatoskr/JsonObject"), (0, u "builder"), (0, u "()Lcom/example/ratatoskr/ratatoskr/JsonObject$Builder;"), (0, .methodref 37 38), (0, .class_ 39), (0, .nameAndType 40 41), (0, u "com/example/ratatoskr/ratatoskr/JsonObject$Builder"), (0, u "put"), (0, u "(Ljava/lang/String;Lcom/example/ratatoskr/ratatoskr/JsonValue;)Lcom/example/ratatoskr/ratatoskr/JsonObject$Builder;"), (0, .methodref 37 43), (0, .nameAndType 44 45), (0, u "build"), (0, u "()Lcom/example/ratatoskr/ratatoskr/JsonObject;"), (0, .class_ 47), (0, u "com/example/ratatoskr/ratatoskr/JsonValue"), (0, .methodref 19 49), (0, .nameAndType 50 51), (0, u "holding"), (0, u "([Lcom/example/ratatoskr/ratatoskr/JsonValue;)Lcom/example/ratatoskr/ratatoskr/JsonArray;"), (0, .methodref 53 54), (0, .class_ 55), (0, .nameAndType 56 57), (0, u "com/example/ratatoskr/ratatoskr/WalkLeavePinLaw"), (0, u "place"), (0, u "(IZ)I"), (0, .methodref 9 3), (0, .methodref 53 60), (0, .nameAndType 61 62), (0, u "step"), (0, u "(Lcom/example/ratatoskr/ratatoskr/Walk;Lcom/example/ratatoskr/ratatoskr/JsonValue;I)V"), (0, .methodref 9 64), (0, .nameAndType 65 6), (0, u "leave"), (0, .methodref 9 67), (0, .nameAndType 68 69), (0, u "depth"), (0, u "()I"), (0, .methodref 9 71), (0, .nameAndType 72 73), (0, u "inObject"), (0, u "()Z"), (0, .methodref 9 75), (0, .nameAndType 56 69), (0, .methodref 9 77), (0, .nameAndType 78 73), (0, u "hasNext"), (0, .methodref 9 80), (0, .nameAndType 81 82), (0, u "name"), (0, u "()Ljava/lang/String;"), (0, .methodref 25 84), (0, .nameAndType 85 86), (0, u "equals"), (0, u "(Ljava/lang/Object;)Z"), (3, u "law"), (0, u "(IIIII)Z")] 4
def k1m0 : Method := { name := "<init>", desc := "()V", sig := { parameters := [], returnType := none }, accessFlags := 2, code := none }
def k1c1 : Code := ⟨2, 2, method_2_code, #[], #[]⟩
def k1m1 : Method := { name := "place", desc := "(IZ)I", sig := { parameters := [.int, .boolean], returnType := some .int }, accessFlags := 10, code := some k1c1 }
def k1c2 : Code := ⟨2, 3, method_3_code, #[], #[]⟩
def k1m2 : Method := { name := "step", desc := "(Lcom/example/ratatoskr/ratatoskr/Walk;Lcom/example/ratatoskr/ratatoskr/JsonValue;I)V", sig := { parameters := [(.object "com/example/ratatoskr/ratatoskr/Walk"), (.object "com/example/ratatoskr/ratatoskr/JsonValue"), .int], returnType := none }, accessFlags := 10, code := some k1c2 }
def k1c3 : Code := ⟨4, 21, code, #[], #[]⟩
def k1m3 : Method := { name := "law", desc := "(IIIII)Z", sig := { parameters := [.int, .int, .int, .int, .int], returnType := some .boolean }, accessFlags := 9, code := some k1c3 }
def k1 : Class := { plain "com/example/ratatoskr/ratatoskr/WalkLeavePinLaw" (some 0) with
  accessFlags := 49
  cf := some (fileOf pool1 53 #[] #[⟨2, 5, 6, #[]⟩, ⟨10, 56, 57, #[]⟩, ⟨10, 61, 62, #[]⟩, ⟨9, 90, 91, #[]⟩] 49 2 #[] #[])
  methods := #[k1m0, k1m1, k1m2, k1m3]
  resolved := Array.replicate 96 none
  statics := none }
def pool2 : Array CpInfo := pool [(1, .class_ 2), (0, u "com/example/ratatoskr/ratatoskr/JsonValue"), (0, .class_ 4), (0, u "java/lang/Object")] 15
def k2 : Class := { plain "com/example/ratatoskr/ratatoskr/JsonValue" (some 0) with
  accessFlags := 1537
  cf := some (fileOf pool2 1 #[] #[] 1537 3 #[] #[])
  resolved := Array.replicate 20 none
  statics := none }
def pool3 : Array CpInfo := pool [(8, .class_ 10), (1, u "java/lang/Iterable"), (24, .class_ 36), (0, u "java/lang/Object")] 25
def k3 : Class := { plain "java/lang/Iterable" (some 0) with
  accessFlags := 1537
  cf := some (fileOf pool3 8 #[] #[] 1537 35 #[] #[])
  resolved := Array.replicate 62 none
  statics := none }
def pool4 : Array CpInfo := pool [(1, .methodref 2 3), (0, .class_ 4), (0, .nameAndType 5 6), (0, u "java/lang/Object"), (0, u "<init>"), (0, u "()V"), (0, .fieldref 8 9), (0, .class_ 10), (0, .nameAndType 11 12), (0, u "com/example/ratatoskr/ratatoskr/JsonArray"), (0, u "elements"), (0, u "[Lcom/example/ratatoskr/ratatoskr/JsonValue;"), (2, u "EMPTY"), (0, u "Lcom/example/ratatoskr/ratatoskr/JsonArray;"), (7, .methodref 8 25), (0, .nameAndType 5 26), (0, u "([Lcom/example/ratatoskr/ratatoskr/JsonValue;)V"), (22, .class_ 50), (0, u "com/example/ratatoskr/ratatoskr/JsonValue"), (6, u "([Lcom/example/ratatoskr/ratatoskr/JsonValue;)Lcom/example/ratatoskr/ratatoskr/JsonArray;"), (0, .class_ 59), (0, u "com/example/ratatoskr/ratatoskr/JsonArray$Builder"), (42, .class_ 103), (0, u "java/lang/Iterable"), (3, u "holding"), (10, u "()[Lcom/example/ratatoskr/ratatoskr/JsonValue;")] 31
def k4c0 : Code := ⟨2, 2, prog_6_method_1_code, #[], #[]⟩
def k4m0 : Method := { name := "<init>", desc := "([Lcom/example/ratatoskr/ratatoskr/JsonValue;)V", sig := { parameters := [(.array (.object "com/example/ratatoskr/ratatoskr/JsonValue"))], returnType := none }, accessFlags := 2, code := some k4c0 }
def k4c1 : Code := ⟨3, 1, prog_6_method_3_code, #[], #[]⟩
def k4m1 : Method := { name := "holding", desc := "([Lcom/example/ratatoskr/ratatoskr/JsonValue;)Lcom/example/ratatoskr/ratatoskr/JsonArray;", sig := { parameters := [(.array (.object "com/example/ratatoskr/ratatoskr/JsonValue"))], returnType := some (.object "com/example/ratatoskr/ratatoskr/JsonArray") }, accessFlags := 8, code := some k4c1 }
def k4c2 : Code := ⟨1, 1, prog_6_method_10_code, #[], #[]⟩
def k4m2 : Method := { name := "elements", desc := "()[Lcom/example/ratatoskr/ratatoskr/JsonValue;", sig := { parameters := [], returnType := some (.array (.object "com/example/ratatoskr/ratatoskr/JsonValue")) }, accessFlags := 0, code := some k4c2 }
def k4 : Class := { plain "com/example/ratatoskr/ratatoskr/JsonArray" (some 0) with
  accessFlags := 49
  interfaces := #[2, 3]
  cf := some (fileOf pool4 8 #[.nestMembers #[58]] #[⟨2, 5, 26, #[]⟩, ⟨8, 107, 57, #[]⟩, ⟨0, 11, 118, #[]⟩] 49 2 #[49, 102] #[⟨24, 15, 16, #[]⟩, ⟨18, 11, 12, #[]⟩])
  fields := #[⟨"EMPTY", (.object "com/example/ratatoskr/ratatoskr/JsonArray"), 24, 0, 0⟩, ⟨"elements", (.array (.object "com/example/ratatoskr/ratatoskr/JsonValue")), 18, 0, 0⟩]
  methods := #[k4m0, k4m1, k4m2]
  instanceTypes := #[(.array (.object "com/example/ratatoskr/ratatoskr/JsonValue"))]
  staticTypes := #[(.object "com/example/ratatoskr/ratatoskr/JsonArray")]
  resolved := Array.replicate 150 none
  statics := some 0 }
def pool5 : Array CpInfo := pool [(1, .class_ 2), (0, u "java/io/Serializable"), (0, .class_ 4), (0, u "java/lang/Object")] 2
def k5 : Class := { plain "java/io/Serializable" (some 0) with
  accessFlags := 1537
  cf := some (fileOf pool5 1 #[] #[] 1537 3 #[] #[])
  resolved := Array.replicate 7 none
  statics := none }
def pool6 : Array CpInfo := pool [(1, .class_ 2), (0, u "java/lang/Comparable"), (0, .class_ 4), (0, u "java/lang/Object")] 7
def k6 : Class := { plain "java/lang/Comparable" (some 0) with
  accessFlags := 1537
  cf := some (fileOf pool6 1 #[] #[] 1537 3 #[] #[])
  resolved := Array.replicate 12 none
  statics := none }
def pool7 : Array CpInfo := pool [(2, .class_ 4), (1, u "java/lang/CharSequence"), (42, .class_ 48), (0, u "java/lang/CharSequence$1CodePointIterator"), (10, .class_ 60), (0, u "java/lang/CharSequence$1CharIterator"), (5, .class_ 67), (0, u "java/lang/Object")] 63
def k7 : Class := { plain "java/lang/CharSequence" (some 0) with
  accessFlags := 1537
  cf := some (fileOf pool7 2 #[.nestMembers #[47, 59]] #[] 1537 66 #[] #[])
  resolved := Array.replicate 131 none
  statics := none }
def pool8 : Array CpInfo := pool [(1, .class_ 2), (0, u "java/lang/constant/Constable"), (0, .class_ 4), (0, u "java/lang/Object")] 6
def k8 : Class := { plain "java/lang/constant/Constable" (some 0) with
  accessFlags := 1537
  cf := some (fileOf pool8 1 #[] #[] 1537 3 #[] #[])
  resolved := Array.replicate 11 none
  statics := none }
def pool9 : Array CpInfo := pool [(1, .class_ 2), (0, u "java/lang/constant/ConstantDesc"), (0, .class_ 4), (0, u "java/lang/Object")] 32
def k9 : Class := { plain "java/lang/constant/ConstantDesc" (some 0) with
  accessFlags := 1537
  cf := some (fileOf pool9 1 #[] #[] 1537 3 #[] #[])
  resolved := Array.replicate 37 none
  statics := none }
def pool10 : Array CpInfo := pool [(1, .methodref 2 3), (0, .class_ 4), (0, .nameAndType 5 6), (0, u "java/lang/Object"), (0, u "<init>"), (0, u "()V"), (2, .fieldref 10 11), (0, .class_ 12), (0, .nameAndType 13 14), (0, u "java/lang/String"), (0, u "value"), (0, u "[B"), (0, .fieldref 10 16), (0, .nameAndType 17 18), (0, u "coder"), (0, u "B"), (0, .fieldref 10 20), (0, .nameAndType 21 22), (0, u "hash"), (0, u "I"), (0, .fieldref 10 24), (0, .nameAndType 25 26), (0, u "hashIsZero"), (0, u "Z"), (11, .fieldref 10 39), (0, .nameAndType 40 26), (0, u "COMPACT_STRINGS"), (12, u "toBytes"), (53, .class_ 109), (1, u "java/lang/StringLatin1"), (32, u "()Z"), (66, .methodref 10 210), (0, .nameAndType 5 211), (0, u "([BB)V"), (122, u "()I"), (34, u "(C)Z"), (122, .methodref 10 493), (0, .nameAndType 494 142), (0, u "isLatin1"), (48, u "equals"), (29, u "(Ljava/lang/Object;)Z"), (1, .class_ 576), (0, u "java/lang/CharSequence"), (22, u "CASE_INSENSITIVE_ORDER"), (0, u "Ljava/util/Comparator;"), (27, .methodref 107 629), (0, .nameAndType 630 631), (0, u "hashCode"), (0, u "([B)I"), (150, u "valueOf"), (0, u "(C)Ljava/lang/String;"), (231, .methodref 107 1016), (0, .nameAndType 1017 369), (0, u "canEncode"), (0, .methodref 107 1019), (0, .nameAndType 53 1020), (0, u "(C)[B"), (80, u "serialPersistentFields"), (0, u "[Ljava/io/ObjectStreamField;"), (0, .class_ 1104), (0, u "java/lang/String$CaseInsensitiveComparator"), (1, .class_ 1107), (0, u "java/io/Serializable"), (0, .class_ 1109), (0, u "java/lang/Comparable"), (0, .class_ 1111), (0, u "java/lang/constant/Constable"), (0, .class_ 1113), (0, u "java/lang/constant/ConstantDesc"), (2, u "serialVersionUID"), (0, u "J"), (3, u "REPL"), (0, u "C"), (2, u "LATIN1"), (1, u "UTF16")] 323
def k10m0 : Method := { name := "<init>", desc := "()V", sig := { parameters := [], returnType := none }, accessFlags := 1, code := none }
def k10c1 : Code := ⟨2, 3, jdk_42_method_66_code, #[], #[]⟩
def k10m1 : Method := { name := "equals", desc := "(Ljava/lang/Object;)Z", sig := { parameters := [(.object "java/lang/Object")], returnType := some .boolean }, accessFlags := 1, code := some k10c1 }
def k10c2 : Code := ⟨2, 2, jdk_42_method_78_code, #[], #[]⟩
def k10m2 : Method := { name := "hashCode", desc := "()I", sig := { parameters := [], returnType := some .int }, accessFlags := 1, code := some k10c2 }
def k10c3 : Code := ⟨4, 1, jdk_42_method_139_code, #[], #[]⟩
def k10m3 : Method := { name := "valueOf", desc := "(C)Ljava/lang/String;", sig := { parameters := [.char], returnType := some (.object "java/lang/String") }, accessFlags := 9, code := some k10c3 }
def k10c4 : Code := ⟨2, 3, jdk_42_method_151_code, #[], #[]⟩
def k10m4 : Method := { name := "<init>", desc := "([BB)V", sig := { parameters := [(.array .byte), .byte], returnType := none }, accessFlags := 0, code := some k10c4 }
def k10c5 : Code := ⟨1, 1, jdk_42_method_154_code, #[], #[]⟩
def k10m5 : Method := { name := "isLatin1", desc := "()Z", sig := { parameters := [], returnType := some .boolean }, accessFlags := 0, code := some k10c5 }
def k10 : Class := { plain "java/lang/String" (some 0) with
  accessFlags := 49
  interfaces := #[5, 6, 7, 8, 9]
  cf := some (fileOf pool10 10 #[.nestMembers #[1103]] #[⟨1, 5, 6, #[]⟩, ⟨1, 543, 573, #[]⟩, ⟨1, 630, 334, #[]⟩, ⟨9, 782, 783, #[]⟩, ⟨0, 5, 211, #[]⟩, ⟨0, 494, 142, #[]⟩] 49 2 #[1106, 1108, 575, 1110, 1112] #[⟨18, 13, 14, #[]⟩, ⟨18, 17, 18, #[]⟩, ⟨2, 21, 22, #[]⟩, ⟨2, 25, 26, #[]⟩, ⟨26, 1116, 1117, #[]⟩, ⟨24, 40, 26, #[]⟩, ⟨26, 1101, 1102, #[]⟩, ⟨26, 1121, 1122, #[]⟩, ⟨25, 599, 600, #[]⟩, ⟨24, 1125, 18, #[]⟩, ⟨24, 1127, 18, #[]⟩])
  fields := #[⟨"value", (.array .byte), 18, 0, 0⟩, ⟨"coder", .byte, 18, 1, 0⟩, ⟨"hash", .int, 2, 2, 0⟩, ⟨"hashIsZero", .boolean, 2, 3, 0⟩, ⟨"serialVersionUID", .long, 26, 0, 0⟩, ⟨"COMPACT_STRINGS", .boolean, 24, 1, 0⟩, ⟨"serialPersistentFields", (.array (.object "java/io/ObjectStreamField")), 26, 2, 0⟩, ⟨"REPL", .char, 26, 3, 0⟩, ⟨"CASE_INSENSITIVE_ORDER", (.object "java/util/Comparator"), 25, 4, 0⟩, ⟨"LATIN1", .byte, 24, 5, 0⟩, ⟨"UTF16", .byte, 24, 6, 0⟩]
  methods := #[k10m0, k10m1, k10m2, k10m3, k10m4, k10m5]
  instanceTypes := #[(.array .byte), .byte, .int, .boolean]
  staticTypes := #[.long, .boolean, (.array (.object "java/io/ObjectStreamField")), .char, (.object "java/util/Comparator"), .byte, .byte]
  resolved := Array.replicate 1451 none
  statics := some 1 }
def pool11 : Array CpInfo := pool [(4, .class_ 6), (1, u "java/lang/Object"), (0, u "<init>"), (0, u "()V"), (5, .class_ 16), (1, u "java/lang/StringLatin1"), (40, u "([B)I"), (32, u "canEncode"), (14, u "(C)Z"), (15, u "$assertionsDisabled"), (0, u "Z"), (98, .class_ 223), (1, u "java/lang/StringLatin1$LinesSpliterator"), (74, u "hashCode"), (81, u "toBytes"), (1, u "(C)[B"), (7, .class_ 391), (0, u "java/lang/StringLatin1$CharsSpliterator")] 3
def k11m0 : Method := { name := "<init>", desc := "()V", sig := { parameters := [], returnType := none }, accessFlags := 0, code := none }
def k11c1 : Code := ⟨2, 1, jdk_43_method_3_code, #[], #[]⟩
def k11m1 : Method := { name := "canEncode", desc := "(C)Z", sig := { parameters := [.char], returnType := some .boolean }, accessFlags := 9, code := some k11c1 }
def k11c2 : Code := ⟨5, 1, jdk_43_method_21_code, #[], #[]⟩
def k11m2 : Method := { name := "hashCode", desc := "([B)I", sig := { parameters := [(.array .byte)], returnType := some .int }, accessFlags := 9, code := some k11c2 }
def k11c3 : Code := ⟨4, 1, jdk_43_method_46_code, #[], #[]⟩
def k11m3 : Method := { name := "toBytes", desc := "(C)[B", sig := { parameters := [.char], returnType := some (.array .byte) }, accessFlags := 9, code := some k11c3 }
def k11 : Class := { plain "java/lang/StringLatin1" (some 0) with
  accessFlags := 48
  cf := some (fileOf pool11 14 #[.nestMembers #[390, 221]] #[⟨0, 7, 8, #[]⟩, ⟨9, 90, 105, #[]⟩, ⟨9, 298, 57, #[]⟩, ⟨9, 380, 382, #[]⟩] 48 4 #[] #[⟨4120, 121, 122, #[]⟩])
  fields := #[⟨"$assertionsDisabled", .boolean, 4120, 0, 0⟩]
  methods := #[k11m0, k11m1, k11m2, k11m3]
  staticTypes := #[.boolean]
  resolved := Array.replicate 395 none
  statics := none }
def pool12 : Array CpInfo := pool [(1, .methodref 2 3), (0, .class_ 4), (0, .nameAndType 5 6), (0, u "java/lang/Object"), (0, u "<init>"), (0, u "()V"), (0, .fieldref 8 9), (0, .class_ 10), (0, .nameAndType 11 12), (0, u "com/example/ratatoskr/ratatoskr/JsonObject"), (0, u "names"), (0, u "Lcom/example/ratatoskr/ratatoskr/Names;"), (0, .fieldref 8 14), (0, .nameAndType 15 16), (0, u "values"), (0, u "[Lcom/example/ratatoskr/ratatoskr/JsonValue;"), (13, .class_ 31), (0, u "com/example/ratatoskr/ratatoskr/JsonValue"), (6, u "(Lcom/example/ratatoskr/ratatoskr/Names;[Lcom/example/ratatoskr/ratatoskr/JsonValue;)V"), (2, u "builder"), (0, u "()Lcom/example/ratatoskr/ratatoskr/JsonObject$Builder;"), (41, .class_ 86), (1, u "com/example/ratatoskr/ratatoskr/JsonObject$Builder"), (6, .class_ 94), (0, u "java/util/LinkedHashMap"), (0, .methodref 93 3), (0, .methodref 84 97), (0, .nameAndType 5 98), (0, u "(Ljava/util/Map;Lcom/example/ratatoskr/ratatoskr/Names;)V"), (9, .class_ 109), (0, u "com/example/ratatoskr/ratatoskr/JsonObject$Members"), (40, u "shape"), (0, u "()Lcom/example/ratatoskr/ratatoskr/Names;"), (0, u "()[Lcom/example/ratatoskr/ratatoskr/JsonValue;"), (8, .class_ 162), (0, u "com/example/ratatoskr/ratatoskr/JsonObject$Members$2"), (0, .class_ 164), (0, u "com/example/ratatoskr/ratatoskr/JsonObject$Members$1")] 4
def k12c0 : Code := ⟨2, 3, prog_13_method_1_code, #[], #[]⟩
def k12m0 : Method := { name := "<init>", desc := "(Lcom/example/ratatoskr/ratatoskr/Names;[Lcom/example/ratatoskr/ratatoskr/JsonValue;)V", sig := { parameters := [(.object "com/example/ratatoskr/ratatoskr/Names"), (.array (.object "com/example/ratatoskr/ratatoskr/JsonValue"))], returnType := none }, accessFlags := 2, code := some k12c0 }
def k12c1 : Code := ⟨4, 0, prog_13_method_4_code, #[], #[]⟩
def k12m1 : Method := { name := "builder", desc := "()Lcom/example/ratatoskr/ratatoskr/JsonObject$Builder;", sig := { parameters := [], returnType := some (.object "com/example/ratatoskr/ratatoskr/JsonObject$Builder") }, accessFlags := 9, code := some k12c1 }
def k12c2 : Code := ⟨1, 1, prog_13_method_10_code, #[], #[]⟩
def k12m2 : Method := { name := "shape", desc := "()Lcom/example/ratatoskr/ratatoskr/Names;", sig := { parameters := [], returnType := some (.object "com/example/ratatoskr/ratatoskr/Names") }, accessFlags := 0, code := some k12c2 }
def k12c3 : Code := ⟨1, 1, prog_13_method_11_code, #[], #[]⟩
def k12m3 : Method := { name := "values", desc := "()[Lcom/example/ratatoskr/ratatoskr/JsonValue;", sig := { parameters := [], returnType := some (.array (.object "com/example/ratatoskr/ratatoskr/JsonValue")) }, accessFlags := 0, code := some k12c3 }
def k12 : Class := { plain "com/example/ratatoskr/ratatoskr/JsonObject" (some 0) with
  accessFlags := 49
  interfaces := #[2]
  cf := some (fileOf pool12 8 #[.nestMembers #[108, 161, 163, 84]] #[⟨2, 5, 38, #[]⟩, ⟨9, 41, 42, #[]⟩, ⟨0, 150, 151, #[]⟩, ⟨0, 15, 152, #[]⟩] 49 2 #[30] #[⟨18, 11, 12, #[]⟩, ⟨18, 15, 16, #[]⟩])
  fields := #[⟨"names", (.object "com/example/ratatoskr/ratatoskr/Names"), 18, 0, 0⟩, ⟨"values", (.array (.object "com/example/ratatoskr/ratatoskr/JsonValue")), 18, 1, 0⟩]
  methods := #[k12m0, k12m1, k12m2, k12m3]
  instanceTypes := #[(.object "com/example/ratatoskr/ratatoskr/Names"), (.array (.object "com/example/ratatoskr/ratatoskr/JsonValue"))]
  resolved := ((Array.replicate 169 none).setIfInBounds 84 (some (.cls 13))).setIfInBounds 96 (some (.method ⟨13, 0⟩))
  statics := none }
def pool13 : Array CpInfo := pool [(1, .methodref 2 3), (0, .class_ 4), (0, .nameAndType 5 6), (0, u "java/lang/Object"), (0, u "<init>"), (0, u "()V"), (0, .fieldref 8 9), (0, .class_ 10), (0, .nameAndType 11 12), (0, u "com/example/ratatoskr/ratatoskr/JsonObject$Builder"), (0, u "members"), (0, u "Ljava/util/Map;"), (0, .fieldref 8 14), (0, .nameAndType 15 16), (0, u "shape"), (0, u "Lcom/example/ratatoskr/ratatoskr/Names;"), (0, .string 18), (0, u "name"), (0, .methodref 20 21), (0, .class_ 22), (0, .nameAndType 23 24), (0, u "java/util/Objects"), (0, u "requireNonNull"), (0, u "(Ljava/lang/Object;Ljava/lang/String;)Ljava/lang/Object;"), (0, .string 26), (0, u "value"), (0, .interfaceMethodref 28 29), (0, .class_ 30), (0, .nameAndType 31 32), (0, u "java/util/Map"), (0, u "put"), (0, u "(Ljava/lang/Object;Ljava/lang/Object;)Ljava/lang/Object;"), (4, .interfaceMethodref 28 38), (0, .nameAndType 39 40), (0, u "size"), (0, u "()I"), (0, .class_ 42), (0, u "java/lang/String"), (0, .class_ 44), (0, u "com/example/ratatoskr/ratatoskr/JsonValue"), (0, .interfaceMethodref 28 46), (0, .nameAndType 47 48), (0, u "entrySet"), (0, u "()Ljava/util/Set;"), (0, .interfaceMethodref 50 51), (0, .class_ 52), (0, .nameAndType 53 54), (0, u "java/util/Set"), (0, u "iterator"), (0, u "()Ljava/util/Iterator;"), (0, .interfaceMethodref 56 57), (0, .class_ 58), (0, .nameAndType 59 60), (0, u "java/util/Iterator"), (0, u "hasNext"), (0, u "()Z"), (0, .interfaceMethodref 56 62), (0, .nameAndType 63 64), (0, u "next"), (0, u "()Ljava/lang/Object;"), (0, .class_ 66), (0, u "java/util/Map$Entry"), (0, .interfaceMethodref 65 68), (0, .nameAndType 69 64), (0, u "getKey"), (0, .interfaceMethodref 65 71), (0, .nameAndType 72 64), (0, u "getValue"), (0, .methodref 74 75), (0, .class_ 76), (0, .nameAndType 77 78), (0, u "com/example/ratatoskr/ratatoskr/Names"), (0, u "of"), (0, u "([Ljava/lang/String;II)Lcom/example/ratatoskr/ratatoskr/Names;"), (0, .class_ 80), (0, u "com/example/ratatoskr/ratatoskr/JsonObject"), (0, .methodref 79 82), (0, .nameAndType 5 83), (0, u "(Lcom/example/ratatoskr/ratatoskr/Names;[Lcom/example/ratatoskr/ratatoskr/JsonValue;)V"), (2, u "(Ljava/util/Map;Lcom/example/ratatoskr/ratatoskr/Names;)V"), (3, u "(Ljava/lang/String;Lcom/example/ratatoskr/ratatoskr/JsonValue;)Lcom/example/ratatoskr/ratatoskr/JsonObject$Builder;"), (2, u "build"), (0, u "()Lcom/example/ratatoskr/ratatoskr/JsonObject;")] 10
def k13c0 : Code := ⟨2, 3, prog_14_method_1_code, #[], #[]⟩
def k13m0 : Method := { name := "<init>", desc := "(Ljava/util/Map;Lcom/example/ratatoskr/ratatoskr/Names;)V", sig := { parameters := [(.object "java/util/Map"), (.object "com/example/ratatoskr/ratatoskr/Names")], returnType := none }, accessFlags := 2, code := some k13c0 }
def k13c1 : Code := ⟨3, 3, prog_14_method_2_code, #[], #[]⟩
def k13m1 : Method := { name := "put", desc := "(Ljava/lang/String;Lcom/example/ratatoskr/ratatoskr/JsonValue;)Lcom/example/ratatoskr/ratatoskr/JsonObject$Builder;", sig := { parameters := [(.object "java/lang/String"), (.object "com/example/ratatoskr/ratatoskr/JsonValue")], returnType := some (.object "com/example/ratatoskr/ratatoskr/JsonObject$Builder") }, accessFlags := 1, code := some k13c1 }
def k13c2 : Code := ⟨4, 6, prog_14_method_4_code, #[], #[]⟩
def k13m2 : Method := { name := "build", desc := "()Lcom/example/ratatoskr/ratatoskr/JsonObject;", sig := { parameters := [], returnType := some (.object "com/example/ratatoskr/ratatoskr/JsonObject") }, accessFlags := 1, code := some k13c2 }
def k13 : Class := { plain "com/example/ratatoskr/ratatoskr/JsonObject$Builder" (some 0) with
  accessFlags := 49
  cf := some (fileOf pool13 8 #[.nestHost 79] #[⟨2, 5, 86, #[]⟩, ⟨1, 31, 90, #[]⟩, ⟨1, 93, 94, #[]⟩] 49 2 #[] #[⟨18, 11, 12, #[]⟩, ⟨2, 15, 16, #[]⟩])
  fields := #[⟨"members", (.object "java/util/Map"), 18, 0, 0⟩, ⟨"shape", (.object "com/example/ratatoskr/ratatoskr/Names"), 2, 1, 0⟩]
  methods := #[k13m0, k13m1, k13m2]
  instanceTypes := #[(.object "java/util/Map"), (.object "com/example/ratatoskr/ratatoskr/Names")]
  resolved := Array.replicate 105 none
  statics := none }
def pool14 : Array CpInfo := pool [(2, .class_ 4), (1, u "java/util/Map"), (13, u "entrySet"), (0, u "()Ljava/util/Set;"), (16, .class_ 37), (0, u "java/util/Map$Entry"), (25, u "(Ljava/lang/Object;Ljava/lang/Object;)Ljava/lang/Object;"), (5, u "put"), (23, .class_ 94), (0, u "java/lang/Object"), (25, u "size"), (0, u "()I")] 141
def k14m0 : Method := { name := "size", desc := "()I", sig := { parameters := [], returnType := some .int }, accessFlags := 1025, code := none }
def k14m1 : Method := { name := "put", desc := "(Ljava/lang/Object;Ljava/lang/Object;)Ljava/lang/Object;", sig := { parameters := [(.object "java/lang/Object"), (.object "java/lang/Object")], returnType := some (.object "java/lang/Object") }, accessFlags := 1025, code := none }
def k14m2 : Method := { name := "entrySet", desc := "()Ljava/util/Set;", sig := { parameters := [], returnType := some (.object "java/util/Set") }, accessFlags := 1025, code := none }
def k14 : Class := { plain "java/util/Map" (some 0) with
  accessFlags := 1537
  cf := some (fileOf pool14 2 #[.nestMembers #[36]] #[⟨1025, 120, 121, #[]⟩, ⟨1025, 69, 63, #[]⟩, ⟨1025, 18, 19, #[]⟩] 1537 93 #[] #[])
  methods := #[k14m0, k14m1, k14m2]
  resolved := Array.replicate 263 none
  statics := none }
def pool15 : Array CpInfo := pool [(1, .methodref 2 3), (0, .class_ 4), (0, .nameAndType 5 6), (0, u "java/lang/Object"), (0, u "<init>"), (0, u "()V"), (1, .class_ 10), (1, u "java/util/AbstractMap"), (42, .class_ 54), (0, u "java/util/Map"), (9, u "keySet"), (0, u "Ljava/util/Set;"), (0, .class_ 67), (0, u "java/util/AbstractMap$1"), (5, u "values"), (0, u "Ljava/util/Collection;"), (0, .class_ 76), (0, u "java/util/AbstractMap$2"), (104, .class_ 182), (0, u "java/util/AbstractMap$ViewCollection"), (0, .class_ 184), (0, u "java/util/AbstractMap$SimpleImmutableEntry"), (0, .class_ 186), (0, u "java/util/AbstractMap$SimpleEntry"), (0, .class_ 188), (0, u "java/util/AbstractMap$2$1"), (0, .class_ 190), (0, u "java/util/AbstractMap$1$1")] 5
def k15c0 : Code := ⟨1, 1, jdk_71_method_1_code, #[], #[]⟩
def k15m0 : Method := { name := "<init>", desc := "()V", sig := { parameters := [], returnType := none }, accessFlags := 4, code := some k15c0 }
def k15 : Class := { plain "java/util/AbstractMap" (some 0) with
  accessFlags := 1057
  interfaces := #[14]
  cf := some (fileOf pool15 8 #[.nestMembers #[181, 183, 185, 75, 187, 66, 189]] #[⟨4, 5, 6, #[]⟩] 1057 2 #[53] #[⟨128, 64, 65, #[]⟩, ⟨128, 73, 74, #[]⟩])
  fields := #[⟨"keySet", (.object "java/util/Set"), 128, 0, 0⟩, ⟨"values", (.object "java/util/Collection"), 128, 1, 0⟩]
  methods := #[k15m0]
  instanceTypes := #[(.object "java/util/Set"), (.object "java/util/Collection")]
  resolved := Array.replicate 196 none
  statics := none }
def pool16 : Array CpInfo := pool [(1, .class_ 2), (0, u "java/lang/Cloneable"), (0, .class_ 4), (0, u "java/lang/Object")] 2
def k16 : Class := { plain "java/lang/Cloneable" (some 0) with
  accessFlags := 1537
  cf := some (fileOf pool16 1 #[] #[] 1537 3 #[] #[])
  resolved := Array.replicate 7 none
  statics := none }
def pool17 : Array CpInfo := pool [(1, .methodref 2 3), (0, .class_ 4), (0, .nameAndType 5 6), (0, u "java/lang/Object"), (0, u "hashCode"), (0, u "()I"), (26, u "(Ljava/lang/Object;)I"), (6, .class_ 41), (0, u "java/util/HashMap"), (1, .methodref 44 45), (0, .class_ 46), (0, .nameAndType 47 48), (0, u "java/util/AbstractMap"), (0, u "<init>"), (0, u "()V"), (32, .fieldref 40 82), (0, .nameAndType 83 84), (0, u "loadFactor"), (0, u "F"), (3, .fieldref 40 89), (0, .nameAndType 90 91), (0, u "threshold"), (0, u "I"), (0, .float 1061158912), (8, .class_ 103), (1, u "java/util/Map"), (0, u "size"), (0, .fieldref 40 106), (0, .nameAndType 107 108), (0, u "table"), (0, u "[Ljava/util/HashMap$Node;"), (8, .methodref 40 118), (0, .nameAndType 119 120), (0, u "resize"), (0, u "()[Ljava/util/HashMap$Node;"), (2, u "entrySet"), (25, .methodref 40 150), (0, .nameAndType 151 33), (0, u "hash"), (0, .methodref 40 153), (0, .nameAndType 154 155), (0, u "putVal"), (0, u "(ILjava/lang/Object;Ljava/lang/Object;ZZ)Ljava/lang/Object;"), (0, .fieldref 40 157), (0, .nameAndType 104 91), (5, .class_ 165), (1, u "java/util/HashMap$Node"), (14, .class_ 181), (0, u "java/util/HashMap$TreeNode"), (4, .methodref 40 187), (0, .nameAndType 188 189), (0, u "newNode"), (0, u "(ILjava/lang/Object;Ljava/lang/Object;Ljava/util/HashMap$Node;)Ljava/util/HashMap$Node;"), (12, .fieldref 40 203), (0, .nameAndType 204 91), (0, u "modCount"), (0, .methodref 40 206), (0, .nameAndType 207 208), (0, u "afterNodeInsertion"), (0, u "(Z)V"), (33, u "Ljava/util/Set;"), (0, .class_ 244), (0, u "java/util/HashMap$KeySet"), (18, .class_ 264), (0, u "java/util/HashMap$Values"), (3, .class_ 269), (0, u "java/util/HashMap$EntrySet"), (17, u "(Ljava/lang/Object;Ljava/lang/Object;)Ljava/lang/Object;"), (58, .class_ 348), (1, u "java/util/HashMap$UnsafeHolder"), (43, .class_ 393), (0, u "java/lang/Cloneable"), (0, .class_ 395), (0, u "java/io/Serializable"), (0, u "serialVersionUID"), (0, u "J"), (3, u "DEFAULT_INITIAL_CAPACITY"), (1, u "MAXIMUM_CAPACITY"), (0, u "DEFAULT_LOAD_FACTOR"), (0, u "TREEIFY_THRESHOLD"), (1, u "UNTREEIFY_THRESHOLD"), (1, u "MIN_TREEIFY_CAPACITY"), (60, u "put"), (125, .class_ 597), (0, u "java/util/HashMap$EntrySpliterator"), (0, .class_ 599), (0, u "java/util/HashMap$ValueSpliterator"), (0, .class_ 601), (0, u "java/util/HashMap$KeySpliterator"), (0, .class_ 603), (0, u "java/util/HashMap$HashMapSpliterator"), (0, .class_ 605), (0, u "java/util/HashMap$EntryIterator"), (0, .class_ 607), (0, u "java/util/HashMap$ValueIterator"), (0, .class_ 609), (0, u "java/util/HashMap$KeyIterator"), (0, .class_ 611), (0, u "java/util/HashMap$HashIterator")] 17
def k17c0 : Code := ⟨3, 2, jdk_69_method_1_code, #[], #[]⟩
def k17m0 : Method := { name := "hash", desc := "(Ljava/lang/Object;)I", sig := { parameters := [(.object "java/lang/Object")], returnType := some .int }, accessFlags := 24, code := some k17c0 }
def k17c1 : Code := ⟨2, 1, jdk_69_method_7_code, #[], #[]⟩
def k17m1 : Method := { name := "<init>", desc := "()V", sig := { parameters := [], returnType := none }, accessFlags := 1, code := some k17c1 }
def k17c2 : Code := ⟨1, 1, jdk_69_method_10_code, #[], #[]⟩
def k17m2 : Method := { name := "size", desc := "()I", sig := { parameters := [], returnType := some .int }, accessFlags := 1, code := some k17c2 }
def k17c3 : Code := ⟨6, 3, jdk_69_method_15_code, #[], #[]⟩
def k17m3 : Method := { name := "put", desc := "(Ljava/lang/Object;Ljava/lang/Object;)Ljava/lang/Object;", sig := { parameters := [(.object "java/lang/Object"), (.object "java/lang/Object")], returnType := some (.object "java/lang/Object") }, accessFlags := 1, code := some k17c3 }
def k17c4 : Code := ⟨7, 13, jdk_69_method_16_code, #[], #[]⟩
def k17m4 : Method := { name := "putVal", desc := "(ILjava/lang/Object;Ljava/lang/Object;ZZ)Ljava/lang/Object;", sig := { parameters := [.int, (.object "java/lang/Object"), (.object "java/lang/Object"), .boolean, .boolean], returnType := some (.object "java/lang/Object") }, accessFlags := 16, code := some k17c4 }
def k17c5 : Code := ⟨5, 14, jdk_69_method_17_code, #[], #[]⟩
def k17m5 : Method := { name := "resize", desc := "()[Ljava/util/HashMap$Node;", sig := { parameters := [], returnType := some (.array (.object "java/util/HashMap$Node")) }, accessFlags := 16, code := some k17c5 }
def k17c6 : Code := { maxStack := 6, maxLocals := 5, code := ⟨#[0xbb, 0x00, 0xa3, 0x59, 0x1b, 0x2c, 0x2d, 0x19, 0x04, 0xb7, 0x01, 0x77, 0xb0]⟩, exceptionTable := #[], attributes := #[] }
def k17m6 : Method := { name := "newNode", desc := "(ILjava/lang/Object;Ljava/lang/Object;Ljava/util/HashMap$Node;)Ljava/util/HashMap$Node;", sig := { parameters := [.int, (.object "java/lang/Object"), (.object "java/lang/Object"), (.object "java/util/HashMap$Node")], returnType := some (.object "java/util/HashMap$Node") }, accessFlags := 0, code := some k17c6 }
def k17c7 : Code := { maxStack := 0, maxLocals := 2, code := ⟨#[0xb1]⟩, exceptionTable := #[], attributes := #[] }
def k17m7 : Method := { name := "afterNodeInsertion", desc := "(Z)V", sig := { parameters := [.boolean], returnType := none }, accessFlags := 0, code := some k17c7 }
def k17 : Class := { plain "java/util/HashMap" (some 15) with
  accessFlags := 33
  interfaces := #[14, 16, 5]
  cf := some (fileOf pool17 40 #[.nestMembers #[180, 596, 598, 600, 602, 604, 606, 608, 610, 346, 268, 263, 243, 163]] #[⟨24, 151, 33, #[]⟩, ⟨1, 47, 48, #[]⟩, ⟨1, 104, 6, #[]⟩, ⟨1, 470, 287, #[]⟩, ⟨16, 154, 155, #[]⟩, ⟨16, 119, 120, #[]⟩, ⟨0, 188, 189, #[]⟩, ⟨0, 207, 208, #[]⟩] 33 44 #[101, 392, 394] #[⟨26, 396, 397, #[]⟩, ⟨24, 401, 91, #[]⟩, ⟨24, 403, 91, #[]⟩, ⟨24, 404, 84, #[]⟩, ⟨24, 405, 91, #[]⟩, ⟨24, 407, 91, #[]⟩, ⟨24, 409, 91, #[]⟩, ⟨128, 107, 108, #[]⟩, ⟨128, 123, 242, #[]⟩, ⟨128, 104, 91, #[]⟩, ⟨128, 204, 91, #[]⟩, ⟨0, 90, 91, #[]⟩, ⟨16, 83, 84, #[]⟩])
  fields := #[⟨"serialVersionUID", .long, 26, 0, 0⟩, ⟨"DEFAULT_INITIAL_CAPACITY", .int, 24, 1, 0⟩, ⟨"MAXIMUM_CAPACITY", .int, 24, 2, 0⟩, ⟨"DEFAULT_LOAD_FACTOR", .float, 24, 3, 0⟩, ⟨"TREEIFY_THRESHOLD", .int, 24, 4, 0⟩, ⟨"UNTREEIFY_THRESHOLD", .int, 24, 5, 0⟩, ⟨"MIN_TREEIFY_CAPACITY", .int, 24, 6, 0⟩, ⟨"table", (.array (.object "java/util/HashMap$Node")), 128, 2, 0⟩, ⟨"entrySet", (.object "java/util/Set"), 128, 3, 0⟩, ⟨"size", .int, 128, 4, 0⟩, ⟨"modCount", .int, 128, 5, 0⟩, ⟨"threshold", .int, 0, 6, 0⟩, ⟨"loadFactor", .float, 16, 7, 0⟩]
  methods := #[k17m0, k17m1, k17m2, k17m3, k17m4, k17m5, k17m6, k17m7]
  instanceTypes := #[(.object "java/util/Set"), (.object "java/util/Collection"), (.array (.object "java/util/HashMap$Node")), (.object "java/util/Set"), .int, .int, .int, .float]
  staticTypes := #[.long, .int, .int, .float, .int, .int, .int]
  resolved := Array.replicate 629 none
  statics := none }
def pool18 : Array CpInfo := pool [(2, .class_ 4), (1, u "java/util/SequencedMap"), (38, .class_ 44), (0, u "java/util/SequencedMap$1SeqKeySet"), (3, .class_ 49), (0, u "java/util/SequencedMap$1SeqValues"), (1, .class_ 52), (0, u "java/util/SequencedMap$1SeqEntrySet"), (1, .class_ 55), (0, u "java/lang/Object"), (0, .class_ 57), (0, u "java/util/Map")] 48
def k18 : Class := { plain "java/util/SequencedMap" (some 0) with
  accessFlags := 1537
  interfaces := #[14]
  cf := some (fileOf pool18 2 #[.nestMembers #[51, 48, 43]] #[] 1537 54 #[56] #[])
  resolved := Array.replicate 106 none
  statics := none }
def pool19 : Array CpInfo := pool [(1, .fieldref 2 3), (0, .class_ 4), (0, .nameAndType 5 6), (0, u "java/util/LinkedHashMap"), (0, u "putMode"), (0, u "I"), (0, .fieldref 2 8), (0, .nameAndType 9 10), (0, u "head"), (0, u "Ljava/util/LinkedHashMap$Entry;"), (0, .fieldref 2 12), (0, .nameAndType 13 10), (0, u "tail"), (1, .class_ 17), (1, u "java/util/LinkedHashMap$Entry"), (5, .class_ 25), (1, u "java/util/HashMap"), (1, u "()V"), (0, .methodref 15 29), (0, .nameAndType 30 31), (0, u "<init>"), (0, u "(ILjava/lang/Object;Ljava/lang/Object;Ljava/util/HashMap$Node;)V"), (0, .methodref 2 33), (0, .nameAndType 34 35), (0, u "linkNodeAtEnd"), (0, u "(Ljava/util/LinkedHashMap$Entry;)V"), (17, .methodref 2 54), (0, .nameAndType 55 56), (0, u "removeEldestEntry"), (0, u "(Ljava/util/Map$Entry;)Z"), (7, .fieldref 2 65), (0, .nameAndType 66 67), (0, u "accessOrder"), (0, u "Z"), (19, .methodref 23 88), (0, .nameAndType 30 27), (27, u "()Ljava/util/SequencedSet;"), (3, u "Ljava/util/Set;"), (0, .class_ 122), (0, u "java/util/LinkedHashMap$LinkedKeySet"), (1, .nameAndType 30 125), (0, u "(Ljava/util/LinkedHashMap;Z)V"), (17, .class_ 144), (0, u "java/util/LinkedHashMap$LinkedValues"), (3, .methodref 2 149), (0, .nameAndType 150 116), (0, u "sequencedEntrySet"), (0, .fieldref 2 152), (0, .nameAndType 153 120), (0, u "entrySet"), (0, .class_ 155), (0, u "java/util/LinkedHashMap$LinkedEntrySet"), (0, .methodref 154 124), (43, .class_ 201), (0, u "java/util/LinkedHashMap$ReversedLinkedHashMapView"), (3, .class_ 206), (0, u "java/util/SequencedMap"), (0, u "serialVersionUID"), (0, u "J"), (5, u "PUT_NORM"), (1, u "PUT_FIRST"), (1, u "PUT_LAST"), (18, u "newNode"), (0, u "(ILjava/lang/Object;Ljava/lang/Object;Ljava/util/HashMap$Node;)Ljava/util/HashMap$Node;"), (22, u "afterNodeInsertion"), (0, u "(Z)V"), (35, u "()Ljava/util/Set;"), (63, .class_ 363), (0, u "java/util/LinkedHashMap$LinkedEntryIterator"), (0, .class_ 365), (0, u "java/util/LinkedHashMap$LinkedValueIterator"), (0, .class_ 367), (0, u "java/util/LinkedHashMap$LinkedKeyIterator"), (0, .class_ 369), (0, u "java/util/LinkedHashMap$LinkedHashIterator")] 16
def k19c0 : Code := ⟨2, 3, jdk_94_method_1_code, #[], #[]⟩
def k19m0 : Method := { name := "linkNodeAtEnd", desc := "(Ljava/util/LinkedHashMap$Entry;)V", sig := { parameters := [(.object "java/util/LinkedHashMap$Entry")], returnType := none }, accessFlags := 2, code := some k19c0 }
def k19c1 : Code := ⟨6, 6, jdk_94_method_4_code, #[], #[]⟩
def k19m1 : Method := { name := "newNode", desc := "(ILjava/lang/Object;Ljava/lang/Object;Ljava/util/HashMap$Node;)Ljava/util/HashMap$Node;", sig := { parameters := [.int, (.object "java/lang/Object"), (.object "java/lang/Object"), (.object "java/util/HashMap$Node")], returnType := some (.object "java/util/HashMap$Node") }, accessFlags := 0, code := some k19c1 }
def k19c2 : Code := ⟨6, 4, jdk_94_method_9_code, #[], #[]⟩
def k19m2 : Method := { name := "afterNodeInsertion", desc := "(Z)V", sig := { parameters := [.boolean], returnType := none }, accessFlags := 0, code := some k19c2 }
def k19c3 : Code := ⟨2, 1, jdk_94_method_16_code, #[], #[]⟩
def k19m3 : Method := { name := "<init>", desc := "()V", sig := { parameters := [], returnType := none }, accessFlags := 1, code := some k19c3 }
def k19c4 : Code := ⟨1, 2, jdk_94_method_23_code, #[], #[]⟩
def k19m4 : Method := { name := "removeEldestEntry", desc := "(Ljava/util/Map$Entry;)Z", sig := { parameters := [(.object "java/util/Map$Entry")], returnType := some .boolean }, accessFlags := 4, code := some k19c4 }
def k19c5 : Code := ⟨1, 1, jdk_94_method_32_code, #[], #[]⟩
def k19m5 : Method := { name := "entrySet", desc := "()Ljava/util/Set;", sig := { parameters := [], returnType := some (.object "java/util/Set") }, accessFlags := 1, code := some k19c5 }
def k19c6 : Code := ⟨4, 3, jdk_94_method_33_code, #[], #[]⟩
def k19m6 : Method := { name := "sequencedEntrySet", desc := "()Ljava/util/SequencedSet;", sig := { parameters := [], returnType := some (.object "java/util/SequencedSet") }, accessFlags := 1, code := some k19c6 }
def k19 : Class := { plain "java/util/LinkedHashMap" (some 17) with
  accessFlags := 33
  interfaces := #[18]
  cf := some (fileOf pool19 2 #[.nestMembers #[200, 362, 364, 366, 368, 154, 143, 121, 15]] #[⟨2, 34, 35, #[]⟩, ⟨0, 237, 238, #[]⟩, ⟨0, 261, 262, #[]⟩, ⟨1, 30, 27, #[]⟩, ⟨4, 55, 56, #[]⟩, ⟨1, 153, 298, #[]⟩, ⟨1, 150, 116, #[]⟩] 33 23 #[205] #[⟨26, 207, 208, #[]⟩, ⟨128, 9, 10, #[]⟩, ⟨128, 13, 10, #[]⟩, ⟨16, 66, 67, #[]⟩, ⟨24, 214, 6, #[]⟩, ⟨24, 216, 6, #[]⟩, ⟨24, 218, 6, #[]⟩, ⟨128, 5, 6, #[]⟩])
  fields := #[⟨"serialVersionUID", .long, 26, 0, 0⟩, ⟨"head", (.object "java/util/LinkedHashMap$Entry"), 128, 8, 0⟩, ⟨"tail", (.object "java/util/LinkedHashMap$Entry"), 128, 9, 0⟩, ⟨"accessOrder", .boolean, 16, 10, 0⟩, ⟨"PUT_NORM", .int, 24, 1, 0⟩, ⟨"PUT_FIRST", .int, 24, 2, 0⟩, ⟨"PUT_LAST", .int, 24, 3, 0⟩, ⟨"putMode", .int, 128, 11, 0⟩]
  methods := #[k19m0, k19m1, k19m2, k19m3, k19m4, k19m5, k19m6]
  instanceTypes := #[(.object "java/util/Set"), (.object "java/util/Collection"), (.array (.object "java/util/HashMap$Node")), (.object "java/util/Set"), .int, .int, .int, .float, (.object "java/util/LinkedHashMap$Entry"), (.object "java/util/LinkedHashMap$Entry"), .boolean, .int]
  staticTypes := #[.long, .int, .int, .int]
  resolved := Array.replicate 386 none
  statics := none }
def pool20 : Array CpInfo := pool [(2, .class_ 4), (1, u "java/lang/Object"), (0, u "<init>"), (0, u "()V"), (35, .class_ 44), (1, u "java/util/Objects"), (0, u "requireNonNull"), (48, u "(Ljava/lang/Object;Ljava/lang/String;)Ljava/lang/Object;")] 89
def k20m0 : Method := { name := "<init>", desc := "()V", sig := { parameters := [], returnType := none }, accessFlags := 2, code := none }
def k20c1 : Code := ⟨3, 2, jdk_31_method_11_code, #[], #[]⟩
def k20m1 : Method := { name := "requireNonNull", desc := "(Ljava/lang/Object;Ljava/lang/String;)Ljava/lang/Object;", sig := { parameters := [(.object "java/lang/Object"), (.object "java/lang/String")], returnType := some (.object "java/lang/Object") }, accessFlags := 9, code := some k20c1 }
def k20 : Class := { plain "java/util/Objects" (some 0) with
  accessFlags := 49
  cf := some (fileOf pool20 42 #[] #[⟨2, 5, 6, #[]⟩, ⟨9, 45, 94, #[]⟩] 49 2 #[] #[])
  methods := #[k20m0, k20m1]
  resolved := Array.replicate 184 none
  statics := none }
def pool21 : Array CpInfo := pool [(23, .class_ 25), (1, u "java/util/Map$Entry"), (0, u "getKey"), (0, u "()Ljava/lang/Object;"), (2, u "getValue"), (1, .class_ 34), (1, u "java/util/Map"), (34, .class_ 70), (0, u "java/lang/Object")] 107
def k21m0 : Method := { name := "getKey", desc := "()Ljava/lang/Object;", sig := { parameters := [], returnType := some (.object "java/lang/Object") }, accessFlags := 1025, code := none }
def k21m1 : Method := { name := "getValue", desc := "()Ljava/lang/Object;", sig := { parameters := [], returnType := some (.object "java/lang/Object") }, accessFlags := 1025, code := none }
def k21 : Class := { plain "java/util/Map$Entry" (some 0) with
  accessFlags := 1537
  cf := some (fileOf pool21 23 #[.nestHost 32] #[⟨1025, 26, 27, #[]⟩, ⟨1025, 30, 27, #[]⟩] 1537 69 #[] #[])
  methods := #[k21m0, k21m1]
  resolved := Array.replicate 178 none
  statics := none }
def pool22 : Array CpInfo := pool [(1, .methodref 2 3), (0, .class_ 4), (0, .nameAndType 5 6), (0, u "java/lang/Object"), (0, u "<init>"), (0, u "()V"), (0, .fieldref 8 9), (0, .class_ 10), (0, .nameAndType 11 12), (0, u "java/util/HashMap$Node"), (0, u "hash"), (0, u "I"), (0, .fieldref 8 14), (0, .nameAndType 15 16), (0, u "key"), (0, u "Ljava/lang/Object;"), (0, .fieldref 8 18), (0, .nameAndType 19 16), (0, u "value"), (0, .fieldref 8 21), (0, .nameAndType 22 23), (0, u "next"), (0, u "Ljava/util/HashMap$Node;"), (22, .class_ 47), (0, u "java/util/Map$Entry"), (2, u "getKey"), (0, u "()Ljava/lang/Object;"), (6, u "getValue"), (4, u "(ILjava/lang/Object;Ljava/lang/Object;Ljava/util/HashMap$Node;)V"), (24, .class_ 89), (0, u "java/util/HashMap")] 5
def k22c0 : Code := ⟨2, 5, jdk_70_method_1_code, #[], #[]⟩
def k22m0 : Method := { name := "<init>", desc := "(ILjava/lang/Object;Ljava/lang/Object;Ljava/util/HashMap$Node;)V", sig := { parameters := [.int, (.object "java/lang/Object"), (.object "java/lang/Object"), (.object "java/util/HashMap$Node")], returnType := none }, accessFlags := 0, code := some k22c0 }
def k22c1 : Code := ⟨1, 1, jdk_70_method_2_code, #[], #[]⟩
def k22m1 : Method := { name := "getKey", desc := "()Ljava/lang/Object;", sig := { parameters := [], returnType := some (.object "java/lang/Object") }, accessFlags := 17, code := some k22c1 }
def k22c2 : Code := ⟨1, 1, jdk_70_method_3_code, #[], #[]⟩
def k22m2 : Method := { name := "getValue", desc := "()Ljava/lang/Object;", sig := { parameters := [], returnType := some (.object "java/lang/Object") }, accessFlags := 17, code := some k22c2 }
def k22 : Class := { plain "java/util/HashMap$Node" (some 0) with
  accessFlags := 32
  interfaces := #[21]
  cf := some (fileOf pool22 8 #[.nestHost 88] #[⟨0, 5, 63, #[]⟩, ⟨17, 50, 51, #[]⟩, ⟨17, 58, 51, #[]⟩] 32 2 #[46] #[⟨16, 11, 12, #[]⟩, ⟨16, 15, 16, #[]⟩, ⟨0, 19, 16, #[]⟩, ⟨0, 22, 23, #[]⟩])
  fields := #[⟨"hash", .int, 16, 0, 0⟩, ⟨"key", (.object "java/lang/Object"), 16, 1, 0⟩, ⟨"value", (.object "java/lang/Object"), 0, 2, 0⟩, ⟨"next", (.object "java/util/HashMap$Node"), 0, 3, 0⟩]
  methods := #[k22m0, k22m1, k22m2]
  instanceTypes := #[.int, (.object "java/lang/Object"), (.object "java/lang/Object"), (.object "java/util/HashMap$Node")]
  resolved := Array.replicate 95 none
  statics := none }
def pool23 : Array CpInfo := pool [(1, .methodref 2 3), (0, .class_ 4), (0, .nameAndType 5 6), (0, u "java/util/HashMap$Node"), (0, u "<init>"), (0, u "(ILjava/lang/Object;Ljava/lang/Object;Ljava/util/HashMap$Node;)V"), (0, .class_ 8), (0, u "java/util/LinkedHashMap$Entry"), (0, u "before"), (0, u "Ljava/util/LinkedHashMap$Entry;"), (2, u "after"), (20, .class_ 35), (0, u "java/util/LinkedHashMap")] 5
def k23c0 : Code := ⟨5, 5, jdk_83_method_1_code, #[], #[]⟩
def k23m0 : Method := { name := "<init>", desc := "(ILjava/lang/Object;Ljava/lang/Object;Ljava/util/HashMap$Node;)V", sig := { parameters := [.int, (.object "java/lang/Object"), (.object "java/lang/Object"), (.object "java/util/HashMap$Node")], returnType := none }, accessFlags := 0, code := some k23c0 }
def k23 : Class := { plain "java/util/LinkedHashMap$Entry" (some 22) with
  accessFlags := 32
  cf := some (fileOf pool23 7 #[.nestHost 34] #[⟨0, 5, 6, #[]⟩] 32 2 #[] #[⟨0, 9, 10, #[]⟩, ⟨0, 13, 10, #[]⟩])
  fields := #[⟨"before", (.object "java/util/LinkedHashMap$Entry"), 0, 4, 0⟩, ⟨"after", (.object "java/util/LinkedHashMap$Entry"), 0, 5, 0⟩]
  methods := #[k23m0]
  instanceTypes := #[.int, (.object "java/lang/Object"), (.object "java/lang/Object"), (.object "java/util/HashMap$Node"), (.object "java/util/LinkedHashMap$Entry"), (.object "java/util/LinkedHashMap$Entry")]
  resolved := Array.replicate 41 none
  statics := none }
def pool24 : Array CpInfo := pool [(10, .class_ 12), (1, u "java/util/Collection"), (47, .class_ 61), (0, u "java/lang/Object"), (0, .class_ 63), (0, u "java/lang/Iterable")] 51
def k24 : Class := { plain "java/util/Collection" (some 0) with
  accessFlags := 1537
  interfaces := #[3]
  cf := some (fileOf pool24 10 #[] #[] 1537 60 #[62] #[])
  resolved := Array.replicate 115 none
  statics := none }
def pool25 : Array CpInfo := pool [(1, .methodref 2 3), (0, .class_ 4), (0, .nameAndType 5 6), (0, u "java/lang/Object"), (0, u "<init>"), (0, u "()V"), (1, .class_ 10), (1, u "java/util/AbstractCollection"), (66, .class_ 78), (0, u "java/util/Collection")] 81
def k25c0 : Code := ⟨1, 1, jdk_22_method_1_code, #[], #[]⟩
def k25m0 : Method := { name := "<init>", desc := "()V", sig := { parameters := [], returnType := none }, accessFlags := 4, code := some k25c0 }
def k25 : Class := { plain "java/util/AbstractCollection" (some 0) with
  accessFlags := 1057
  interfaces := #[24]
  cf := some (fileOf pool25 8 #[] #[⟨4, 5, 6, #[]⟩] 1057 2 #[77] #[])
  methods := #[k25m0]
  resolved := Array.replicate 160 none
  statics := none }
def pool26 : Array CpInfo := pool [(26, .class_ 27), (0, u "java/lang/Object"), (5, .class_ 34), (0, u "java/util/Set"), (1, .class_ 38), (1, u "java/util/Collection"), (22, u "iterator"), (0, u "()Ljava/util/Iterator;")] 81
def k26m0 : Method := { name := "iterator", desc := "()Ljava/util/Iterator;", sig := { parameters := [], returnType := some (.object "java/util/Iterator") }, accessFlags := 1025, code := none }
def k26 : Class := { plain "java/util/Set" (some 0) with
  accessFlags := 1537
  interfaces := #[24]
  cf := some (fileOf pool26 33 #[] #[⟨1025, 61, 62, #[]⟩] 1537 26 #[36] #[])
  methods := #[k26m0]
  resolved := Array.replicate 144 none
  statics := none }
def pool27 : Array CpInfo := pool [(1, .methodref 2 3), (0, .class_ 4), (0, .nameAndType 5 6), (0, u "java/util/AbstractCollection"), (0, u "<init>"), (0, u "()V"), (0, .class_ 8), (0, u "java/util/Set"), (7, .class_ 17), (0, u "java/util/AbstractSet")] 78
def k27c0 : Code := ⟨1, 1, jdk_91_method_1_code, #[], #[]⟩
def k27m0 : Method := { name := "<init>", desc := "()V", sig := { parameters := [], returnType := none }, accessFlags := 4, code := some k27c0 }
def k27 : Class := { plain "java/util/AbstractSet" (some 25) with
  accessFlags := 1057
  interfaces := #[26]
  cf := some (fileOf pool27 16 #[] #[⟨4, 5, 6, #[]⟩] 1057 2 #[7] #[])
  methods := #[k27m0]
  resolved := Array.replicate 96 none
  statics := none }
def pool28 : Array CpInfo := pool [(8, .class_ 10), (1, u "java/util/SequencedCollection"), (15, .class_ 27), (0, u "java/lang/Object"), (0, .class_ 29), (0, u "java/util/Collection")] 27
def k28 : Class := { plain "java/util/SequencedCollection" (some 0) with
  accessFlags := 1537
  interfaces := #[24]
  cf := some (fileOf pool28 8 #[] #[] 1537 26 #[28] #[])
  resolved := Array.replicate 57 none
  statics := none }
def pool29 : Array CpInfo := pool [(2, .class_ 4), (1, u "java/util/SequencedSet"), (2, .class_ 8), (0, u "java/lang/Object"), (0, .class_ 10), (0, u "java/util/SequencedCollection"), (0, .class_ 12), (0, u "java/util/Set")] 13
def k29 : Class := { plain "java/util/SequencedSet" (some 0) with
  accessFlags := 1537
  interfaces := #[28, 26]
  cf := some (fileOf pool29 2 #[] #[] 1537 7 #[9, 11] #[])
  resolved := Array.replicate 26 none
  statics := none }
def pool30 : Array CpInfo := pool [(1, .fieldref 2 3), (0, .class_ 4), (0, .nameAndType 5 6), (0, u "java/util/LinkedHashMap$LinkedEntrySet"), (0, u "this$0"), (0, u "Ljava/util/LinkedHashMap;"), (0, .methodref 8 9), (0, .class_ 10), (0, .nameAndType 11 12), (0, u "java/util/AbstractSet"), (0, u "<init>"), (0, u "()V"), (0, .fieldref 2 14), (0, .nameAndType 15 16), (0, u "reversed"), (0, u "Z"), (1, .class_ 20), (1, u "java/util/LinkedHashMap"), (5, .class_ 27), (0, u "java/util/LinkedHashMap$LinkedEntryIterator"), (0, .methodref 26 29), (0, .nameAndType 11 30), (0, u "(Ljava/util/LinkedHashMap;Z)V"), (110, .class_ 142), (0, u "java/util/SequencedSet"), (9, u "iterator"), (0, u "()Ljava/util/Iterator;")] 43
def k30c0 : Code := ⟨2, 3, jdk_113_method_1_code, #[], #[]⟩
def k30m0 : Method := { name := "<init>", desc := "(Ljava/util/LinkedHashMap;Z)V", sig := { parameters := [(.object "java/util/LinkedHashMap"), .boolean], returnType := none }, accessFlags := 0, code := some k30c0 }
def k30c1 : Code := ⟨4, 1, jdk_113_method_4_code, #[], #[]⟩
def k30m1 : Method := { name := "iterator", desc := "()Ljava/util/Iterator;", sig := { parameters := [], returnType := some (.object "java/util/Iterator") }, accessFlags := 17, code := some k30c1 }
def k30 : Class := { plain "java/util/LinkedHashMap$LinkedEntrySet" (some 27) with
  accessFlags := 48
  interfaces := #[29]
  cf := some (fileOf pool30 2 #[.nestHost 18] #[⟨0, 11, 30, #[]⟩, ⟨17, 152, 153, #[]⟩] 48 8 #[141] #[⟨16, 15, 16, #[]⟩, ⟨4112, 5, 6, #[]⟩])
  fields := #[⟨"reversed", .boolean, 16, 0, 0⟩, ⟨"this$0", (.object "java/util/LinkedHashMap"), 4112, 1, 0⟩]
  methods := #[k30m0, k30m1]
  instanceTypes := #[.boolean, (.object "java/util/LinkedHashMap")]
  resolved := Array.replicate 197 none
  statics := none }
def pool31 : Array CpInfo := pool [(1, .fieldref 2 3), (0, .class_ 4), (0, .nameAndType 5 6), (0, u "java/util/LinkedHashMap$LinkedHashIterator"), (0, u "this$0"), (0, u "Ljava/util/LinkedHashMap;"), (0, .methodref 8 9), (0, .class_ 10), (0, .nameAndType 11 12), (0, u "java/lang/Object"), (0, u "<init>"), (0, u "()V"), (0, .fieldref 2 14), (0, .nameAndType 15 16), (0, u "reversed"), (0, u "Z"), (1, .class_ 20), (1, u "java/util/LinkedHashMap"), (1, u "Ljava/util/LinkedHashMap$Entry;"), (0, .fieldref 18 24), (0, .nameAndType 25 22), (0, u "head"), (0, .fieldref 2 27), (0, .nameAndType 28 22), (0, u "next"), (0, .fieldref 18 30), (0, .nameAndType 31 32), (0, u "modCount"), (0, u "I"), (0, .fieldref 2 34), (0, .nameAndType 35 32), (0, u "expectedModCount"), (0, .fieldref 2 37), (0, .nameAndType 38 22), (0, u "current"), (7, .class_ 48), (1, u "java/util/LinkedHashMap$Entry"), (1, .fieldref 46 51), (0, .nameAndType 52 22), (0, u "after"), (18, u "(Ljava/util/LinkedHashMap;Z)V"), (9, u "hasNext"), (0, u "()Z"), (0, u "nextNode"), (0, u "()Ljava/util/LinkedHashMap$Entry;")] 15
def k31c0 : Code := ⟨2, 3, jdk_2616_method_1_code, #[], #[]⟩
def k31m0 : Method := { name := "<init>", desc := "(Ljava/util/LinkedHashMap;Z)V", sig := { parameters := [(.object "java/util/LinkedHashMap"), .boolean], returnType := none }, accessFlags := 0, code := some k31c0 }
def k31c1 : Code := ⟨1, 1, jdk_2616_method_2_code, #[], #[]⟩
def k31m1 : Method := { name := "hasNext", desc := "()Z", sig := { parameters := [], returnType := some .boolean }, accessFlags := 17, code := some k31c1 }
def k31c2 : Code := ⟨2, 2, jdk_2616_method_3_code, #[], #[]⟩
def k31m2 : Method := { name := "nextNode", desc := "()Ljava/util/LinkedHashMap$Entry;", sig := { parameters := [], returnType := some (.object "java/util/LinkedHashMap$Entry") }, accessFlags := 16, code := some k31c2 }
def k31 : Class := { plain "java/util/LinkedHashMap$LinkedHashIterator" (some 0) with
  accessFlags := 1056
  cf := some (fileOf pool31 2 #[.nestHost 18] #[⟨0, 11, 71, #[]⟩, ⟨17, 81, 82, #[]⟩, ⟨16, 83, 84, #[]⟩] 1056 8 #[] #[⟨0, 28, 22, #[]⟩, ⟨0, 38, 22, #[]⟩, ⟨0, 35, 32, #[]⟩, ⟨0, 15, 16, #[]⟩, ⟨4112, 5, 6, #[]⟩])
  fields := #[⟨"next", (.object "java/util/LinkedHashMap$Entry"), 0, 0, 0⟩, ⟨"current", (.object "java/util/LinkedHashMap$Entry"), 0, 1, 0⟩, ⟨"expectedModCount", .int, 0, 2, 0⟩, ⟨"reversed", .boolean, 0, 3, 0⟩, ⟨"this$0", (.object "java/util/LinkedHashMap"), 4112, 4, 0⟩]
  methods := #[k31m0, k31m1, k31m2]
  instanceTypes := #[(.object "java/util/LinkedHashMap$Entry"), (.object "java/util/LinkedHashMap$Entry"), .int, .boolean, (.object "java/util/LinkedHashMap")]
  resolved := Array.replicate 100 none
  statics := none }
def pool32 : Array CpInfo := pool [(16, .class_ 18), (1, u "java/util/Iterator"), (0, u "hasNext"), (0, u "()Z"), (2, u "next"), (0, u "()Ljava/lang/Object;"), (6, .class_ 32), (0, u "java/lang/Object")] 20
def k32m0 : Method := { name := "hasNext", desc := "()Z", sig := { parameters := [], returnType := some .boolean }, accessFlags := 1025, code := none }
def k32m1 : Method := { name := "next", desc := "()Ljava/lang/Object;", sig := { parameters := [], returnType := some (.object "java/lang/Object") }, accessFlags := 1025, code := none }
def k32 : Class := { plain "java/util/Iterator" (some 0) with
  accessFlags := 1537
  cf := some (fileOf pool32 16 #[] #[⟨1025, 19, 20, #[]⟩, ⟨1025, 23, 24, #[]⟩] 1537 31 #[] #[])
  methods := #[k32m0, k32m1]
  resolved := Array.replicate 53 none
  statics := none }
def pool33 : Array CpInfo := pool [(1, .methodref 2 3), (0, .class_ 4), (0, .nameAndType 5 6), (0, u "java/util/LinkedHashMap$LinkedHashIterator"), (0, u "<init>"), (0, u "(Ljava/util/LinkedHashMap;Z)V"), (0, .methodref 8 9), (0, .class_ 10), (0, .nameAndType 11 12), (0, u "java/util/LinkedHashMap$LinkedEntryIterator"), (0, u "nextNode"), (0, u "()Ljava/util/LinkedHashMap$Entry;"), (0, .methodref 8 14), (0, .nameAndType 15 16), (0, u "next"), (0, u "()Ljava/util/Map$Entry;"), (0, .class_ 18), (0, u "java/util/Iterator"), (14, u "()Ljava/lang/Object;"), (4, .class_ 39), (0, u "java/util/LinkedHashMap")] 10
def k33c0 : Code := ⟨3, 3, jdk_2615_method_1_code, #[], #[]⟩
def k33m0 : Method := { name := "<init>", desc := "(Ljava/util/LinkedHashMap;Z)V", sig := { parameters := [(.object "java/util/LinkedHashMap"), .boolean], returnType := none }, accessFlags := 0, code := some k33c0 }
def k33c1 : Code := ⟨1, 1, jdk_2615_method_2_code, #[], #[]⟩
def k33m1 : Method := { name := "next", desc := "()Ljava/util/Map$Entry;", sig := { parameters := [], returnType := some (.object "java/util/Map$Entry") }, accessFlags := 17, code := some k33c1 }
def k33c2 : Code := ⟨1, 1, jdk_2615_method_3_code, #[], #[]⟩
def k33m2 : Method := { name := "next", desc := "()Ljava/lang/Object;", sig := { parameters := [], returnType := some (.object "java/lang/Object") }, accessFlags := 4161, code := some k33c2 }
def k33 : Class := { plain "java/util/LinkedHashMap$LinkedEntryIterator" (some 31) with
  accessFlags := 48
  interfaces := #[32]
  cf := some (fileOf pool33 8 #[.nestHost 38] #[⟨0, 5, 6, #[]⟩, ⟨17, 15, 16, #[]⟩, ⟨4161, 15, 33, #[]⟩] 48 2 #[17] #[])
  methods := #[k33m0, k33m1, k33m2]
  instanceTypes := #[(.object "java/util/LinkedHashMap$Entry"), (.object "java/util/LinkedHashMap$Entry"), .int, .boolean, (.object "java/util/LinkedHashMap")]
  resolved := Array.replicate 50 none
  statics := none }
def pool34 : Array CpInfo := pool [(8, .class_ 10), (1, u "java/util/List"), (92, .class_ 104), (0, u "java/lang/Object"), (15, .class_ 121), (0, u "java/util/SequencedCollection")] 129
def k34 : Class := { plain "java/util/List" (some 0) with
  accessFlags := 1537
  interfaces := #[28]
  cf := some (fileOf pool34 8 #[] #[] 1537 103 #[120] #[])
  resolved := Array.replicate 251 none
  statics := none }
def pool35 : Array CpInfo := pool [(1, .methodref 2 3), (0, .class_ 4), (0, .nameAndType 5 6), (0, u "java/util/AbstractCollection"), (0, u "<init>"), (0, u "()V"), (0, .fieldref 8 9), (0, .class_ 10), (0, .nameAndType 11 12), (0, u "java/util/AbstractList"), (0, u "modCount"), (0, u "I"), (64, .class_ 78), (0, u "java/util/AbstractList$Itr"), (3, .class_ 83), (0, u "java/util/AbstractList$ListItr"), (9, .class_ 94), (0, u "java/util/AbstractList$RandomAccessSubList"), (3, .class_ 99), (0, u "java/util/AbstractList$SubList"), (33, .class_ 134), (0, u "java/util/List"), (73, .class_ 209), (0, u "java/util/AbstractList$SubList$1"), (0, .class_ 211), (0, u "java/util/AbstractList$RandomAccessSpliterator")] 6
def k35c0 : Code := ⟨2, 1, jdk_39_method_1_code, #[], #[]⟩
def k35m0 : Method := { name := "<init>", desc := "()V", sig := { parameters := [], returnType := none }, accessFlags := 4, code := some k35c0 }
def k35 : Class := { plain "java/util/AbstractList" (some 25) with
  accessFlags := 1057
  interfaces := #[34]
  cf := some (fileOf pool35 8 #[.nestMembers #[93, 98, 208, 210, 82, 77]] #[⟨4, 5, 6, #[]⟩] 1057 2 #[133] #[⟨132, 11, 12, #[]⟩])
  fields := #[⟨"modCount", .int, 132, 0, 0⟩]
  methods := #[k35m0]
  instanceTypes := #[.int]
  resolved := Array.replicate 218 none
  statics := none }
def pool36 : Array CpInfo := pool [(1, .class_ 2), (0, u "java/util/RandomAccess"), (0, .class_ 4), (0, u "java/lang/Object")] 2
def k36 : Class := { plain "java/util/RandomAccess" (some 0) with
  accessFlags := 1537
  cf := some (fileOf pool36 1 #[] #[] 1537 3 #[] #[])
  resolved := Array.replicate 7 none
  statics := none }
def pool37 : Array CpInfo := pool [(1, .methodref 2 3), (0, .class_ 4), (0, .nameAndType 5 6), (0, u "java/util/AbstractList"), (0, u "<init>"), (0, u "()V"), (0, .class_ 8), (0, u "com/example/ratatoskr/ratatoskr/Names"), (0, .class_ 10), (0, u "java/lang/String"), (0, .fieldref 7 12), (0, .nameAndType 13 14), (0, u "names"), (0, u "[Ljava/lang/String;"), (4, .fieldref 7 20), (0, .nameAndType 21 22), (0, u "heads"), (0, u "[I"), (0, .fieldref 7 24), (0, .nameAndType 25 22), (0, u "next"), (0, .methodref 7 27), (0, .nameAndType 5 28), (0, u "(I)V"), (0, .methodref 7 30), (0, .nameAndType 31 32), (0, u "find"), (0, u "(Ljava/lang/String;)I"), (0, .methodref 7 34), (0, .nameAndType 35 36), (0, u "append"), (0, u "(Ljava/lang/String;)V"), (0, .fieldref 7 38), (0, .nameAndType 39 40), (0, u "size"), (0, u "I"), (12, .methodref 9 54), (0, .nameAndType 55 56), (0, u "equals"), (0, u "(Ljava/lang/Object;)Z"), (2, u "quoted"), (0, u "Lcom/example/ratatoskr/ratatoskr/core/internal/QuotedNames;"), (9, .fieldref 7 71), (0, .nameAndType 72 73), (0, u "sorted"), (0, u "Ljava/util/Map;"), (1, .class_ 77), (1, u "java/util/Map"), (0, u "get"), (10, .methodref 7 90), (0, .nameAndType 91 32), (0, u "findInOrder"), (7, .interfaceMethodref 75 100), (0, .nameAndType 101 102), (0, u "put"), (0, u "(Ljava/lang/Object;Ljava/lang/Object;)Ljava/lang/Object;"), (21, u "(I)Ljava/lang/String;"), (0, .class_ 126), (0, u "java/util/RandomAccess"), (0, u "SEARCHED_IN_ORDER"), (2, u "LONGEST_CHAIN"), (7, u "of"), (0, u "([Ljava/lang/String;II)Lcom/example/ratatoskr/ratatoskr/Names;")] 10
def k37c0 : Code := ⟨2, 3, prog_21_method_1_code, #[], #[]⟩
def k37m0 : Method := { name := "<init>", desc := "(I)V", sig := { parameters := [.int], returnType := none }, accessFlags := 2, code := some k37c0 }
def k37c1 : Code := ⟨4, 5, prog_21_method_2_code, #[], #[]⟩
def k37m1 : Method := { name := "of", desc := "([Ljava/lang/String;II)Lcom/example/ratatoskr/ratatoskr/Names;", sig := { parameters := [(.array (.object "java/lang/String")), .int, .int], returnType := some (.object "com/example/ratatoskr/ratatoskr/Names") }, accessFlags := 8, code := some k37c1 }
def k37c2 : Code := ⟨2, 2, prog_21_method_5_code, #[], #[]⟩
def k37m2 : Method := { name := "get", desc := "(I)Ljava/lang/String;", sig := { parameters := [.int], returnType := some (.object "java/lang/String") }, accessFlags := 1, code := some k37c2 }
def k37c3 : Code := ⟨2, 4, prog_21_method_9_code, #[], #[]⟩
def k37m3 : Method := { name := "find", desc := "(Ljava/lang/String;)I", sig := { parameters := [(.object "java/lang/String")], returnType := some .int }, accessFlags := 0, code := some k37c3 }
def k37c4 : Code := ⟨2, 3, prog_21_method_11_code, #[], #[]⟩
def k37m4 : Method := { name := "findInOrder", desc := "(Ljava/lang/String;)I", sig := { parameters := [(.object "java/lang/String")], returnType := some .int }, accessFlags := 2, code := some k37c4 }
def k37c5 : Code := ⟨4, 4, prog_21_method_12_code, #[], #[]⟩
def k37m5 : Method := { name := "append", desc := "(Ljava/lang/String;)V", sig := { parameters := [(.object "java/lang/String")], returnType := none }, accessFlags := 2, code := some k37c5 }
def k37 : Class := { plain "com/example/ratatoskr/ratatoskr/Names" (some 35) with
  accessFlags := 48
  interfaces := #[36]
  cf := some (fileOf pool37 7 #[] #[⟨2, 5, 28, #[]⟩, ⟨8, 138, 139, #[]⟩, ⟨1, 78, 124, #[]⟩, ⟨0, 31, 32, #[]⟩, ⟨2, 91, 32, #[]⟩, ⟨2, 35, 36, #[]⟩] 48 2 #[125] #[⟨26, 127, 40, #[]⟩, ⟨26, 130, 40, #[]⟩, ⟨2, 13, 14, #[]⟩, ⟨2, 39, 40, #[]⟩, ⟨18, 21, 22, #[]⟩, ⟨18, 25, 22, #[]⟩, ⟨2, 72, 73, #[]⟩, ⟨2, 59, 60, #[]⟩])
  fields := #[⟨"SEARCHED_IN_ORDER", .int, 26, 0, 0⟩, ⟨"LONGEST_CHAIN", .int, 26, 1, 0⟩, ⟨"names", (.array (.object "java/lang/String")), 2, 1, 0⟩, ⟨"size", .int, 2, 2, 0⟩, ⟨"heads", (.array .int), 18, 3, 0⟩, ⟨"next", (.array .int), 18, 4, 0⟩, ⟨"sorted", (.object "java/util/Map"), 2, 5, 0⟩, ⟨"quoted", (.object "com/example/ratatoskr/ratatoskr/core/internal/QuotedNames"), 2, 6, 0⟩]
  methods := #[k37m0, k37m1, k37m2, k37m3, k37m4, k37m5]
  instanceTypes := #[.int, (.array (.object "java/lang/String")), .int, (.array .int), (.array .int), (.object "java/util/Map"), (.object "com/example/ratatoskr/ratatoskr/core/internal/QuotedNames")]
  staticTypes := #[.int, .int]
  resolved := Array.replicate 150 none
  statics := none }
def pool38 : Array CpInfo := pool [(1, .methodref 2 3), (0, .class_ 4), (0, .nameAndType 5 6), (0, u "java/lang/Object"), (0, u "<init>"), (0, u "()V"), (0, .class_ 8), (0, u "[Lcom/example/ratatoskr/ratatoskr/JsonValue;"), (0, .fieldref 10 11), (0, .class_ 12), (0, .nameAndType 13 14), (0, u "com/example/ratatoskr/ratatoskr/Walk"), (0, u "outerValues"), (0, u "[[Lcom/example/ratatoskr/ratatoskr/JsonValue;"), (0, .class_ 16), (0, u "com/example/ratatoskr/ratatoskr/Names"), (0, .fieldref 10 18), (0, .nameAndType 19 20), (0, u "outerNames"), (0, u "[Lcom/example/ratatoskr/ratatoskr/Names;"), (0, .fieldref 10 22), (0, .nameAndType 23 24), (0, u "outerPlaces"), (0, u "[I"), (0, .class_ 26), (0, u "com/example/ratatoskr/ratatoskr/JsonObject"), (0, .methodref 25 28), (0, .nameAndType 29 30), (0, u "values"), (0, u "()[Lcom/example/ratatoskr/ratatoskr/JsonValue;"), (0, .methodref 25 32), (0, .nameAndType 33 34), (0, u "shape"), (0, u "()Lcom/example/ratatoskr/ratatoskr/Names;"), (0, .class_ 36), (0, u "com/example/ratatoskr/ratatoskr/JsonArray"), (0, .methodref 35 38), (0, .nameAndType 39 30), (0, u "elements"), (0, .fieldref 10 41), (0, .nameAndType 42 43), (0, u "depth"), (0, u "I"), (3, .fieldref 10 48), (0, .nameAndType 29 8), (0, .fieldref 10 50), (0, .nameAndType 51 52), (0, u "names"), (0, u "Lcom/example/ratatoskr/ratatoskr/Names;"), (0, .fieldref 10 54), (0, .nameAndType 55 43), (0, u "place"), (0, .methodref 15 57), (0, .nameAndType 58 59), (0, u "get"), (0, u "(I)Ljava/lang/String;"), (13, u "enter"), (0, u "(Lcom/example/ratatoskr/ratatoskr/JsonValue;)V"), (5, u "leave"), (0, u "()I"), (0, u "hasNext"), (0, u "()Z"), (0, u "next"), (0, u "()Lcom/example/ratatoskr/ratatoskr/JsonValue;"), (0, u "inObject"), (0, u "name"), (0, u "()Ljava/lang/String;")] 2
def k38c0 : Code := ⟨2, 1, prog_23_method_1_code, #[], #[]⟩
def k38m0 : Method := { name := "<init>", desc := "()V", sig := { parameters := [], returnType := none }, accessFlags := 0, code := some k38c0 }
def k38c1 : Code := ⟨3, 5, prog_23_method_2_code, #[], #[]⟩
def k38m1 : Method := { name := "enter", desc := "(Lcom/example/ratatoskr/ratatoskr/JsonValue;)V", sig := { parameters := [(.object "com/example/ratatoskr/ratatoskr/JsonValue")], returnType := none }, accessFlags := 0, code := some k38c1 }
def k38c2 : Code := ⟨4, 1, prog_23_method_4_code, #[], #[]⟩
def k38m2 : Method := { name := "leave", desc := "()V", sig := { parameters := [], returnType := none }, accessFlags := 0, code := some k38c2 }
def k38c3 : Code := ⟨1, 1, prog_23_method_5_code, #[], #[]⟩
def k38m3 : Method := { name := "depth", desc := "()I", sig := { parameters := [], returnType := some .int }, accessFlags := 0, code := some k38c3 }
def k38c4 : Code := ⟨2, 1, prog_23_method_6_code, #[], #[]⟩
def k38m4 : Method := { name := "hasNext", desc := "()Z", sig := { parameters := [], returnType := some .boolean }, accessFlags := 0, code := some k38c4 }
def k38c5 : Code := ⟨5, 1, prog_23_method_7_code, #[], #[]⟩
def k38m5 : Method := { name := "next", desc := "()Lcom/example/ratatoskr/ratatoskr/JsonValue;", sig := { parameters := [], returnType := some (.object "com/example/ratatoskr/ratatoskr/JsonValue") }, accessFlags := 0, code := some k38c5 }
def k38c6 : Code := ⟨1, 1, prog_23_method_8_code, #[], #[]⟩
def k38m6 : Method := { name := "inObject", desc := "()Z", sig := { parameters := [], returnType := some .boolean }, accessFlags := 0, code := some k38c6 }
def k38c7 : Code := ⟨2, 1, prog_23_method_10_code, #[], #[]⟩
def k38m7 : Method := { name := "place", desc := "()I", sig := { parameters := [], returnType := some .int }, accessFlags := 0, code := some k38c7 }
def k38c8 : Code := ⟨3, 1, prog_23_method_11_code, #[], #[]⟩
def k38m8 : Method := { name := "name", desc := "()Ljava/lang/String;", sig := { parameters := [], returnType := some (.object "java/lang/String") }, accessFlags := 0, code := some k38c8 }
def k38 : Class := { plain "com/example/ratatoskr/ratatoskr/Walk" (some 0) with
  accessFlags := 48
  cf := some (fileOf pool38 10 #[] #[⟨0, 5, 6, #[]⟩, ⟨0, 73, 74, #[]⟩, ⟨0, 80, 6, #[]⟩, ⟨0, 42, 81, #[]⟩, ⟨0, 82, 83, #[]⟩, ⟨0, 84, 85, #[]⟩, ⟨0, 86, 83, #[]⟩, ⟨0, 55, 81, #[]⟩, ⟨0, 87, 88, #[]⟩] 48 2 #[] #[⟨2, 29, 8, #[]⟩, ⟨2, 51, 52, #[]⟩, ⟨2, 55, 43, #[]⟩, ⟨2, 13, 14, #[]⟩, ⟨2, 19, 20, #[]⟩, ⟨2, 23, 24, #[]⟩, ⟨2, 42, 43, #[]⟩])
  fields := #[⟨"values", (.array (.object "com/example/ratatoskr/ratatoskr/JsonValue")), 2, 0, 0⟩, ⟨"names", (.object "com/example/ratatoskr/ratatoskr/Names"), 2, 1, 0⟩, ⟨"place", .int, 2, 2, 0⟩, ⟨"outerValues", (.array (.array (.object "com/example/ratatoskr/ratatoskr/JsonValue"))), 2, 3, 0⟩, ⟨"outerNames", (.array (.object "com/example/ratatoskr/ratatoskr/Names")), 2, 4, 0⟩, ⟨"outerPlaces", (.array .int), 2, 5, 0⟩, ⟨"depth", .int, 2, 6, 0⟩]
  methods := #[k38m0, k38m1, k38m2, k38m3, k38m4, k38m5, k38m6, k38m7, k38m8]
  instanceTypes := #[(.array (.object "com/example/ratatoskr/ratatoskr/JsonValue")), (.object "com/example/ratatoskr/ratatoskr/Names"), .int, (.array (.array (.object "com/example/ratatoskr/ratatoskr/JsonValue"))), (.array (.object "com/example/ratatoskr/ratatoskr/Names")), (.array .int), .int]
  resolved := Array.replicate 91 none
  statics := none }
def pool39 : Array CpInfo := pool [(2, .class_ 4), (1, u "java/lang/Object"), (0, u "<init>"), (0, u "()V"), (17, .class_ 26), (1, u "jdk/internal/util/Preconditions"), (28, .class_ 56), (0, u "jdk/internal/util/Preconditions$4"), (57, .class_ 115), (0, u "jdk/internal/util/Preconditions$1"), (7, u "SIOOBE_FORMATTER"), (0, u "Ljava/util/function/BiFunction;"), (0, .class_ 126), (0, u "jdk/internal/util/Preconditions$2"), (3, u "AIOOBE_FORMATTER"), (0, .class_ 132), (0, u "jdk/internal/util/Preconditions$3"), (3, u "IOOBE_FORMATTER")] 57
def k39m0 : Method := { name := "<init>", desc := "()V", sig := { parameters := [], returnType := none }, accessFlags := 1, code := none }
def k39 : Class := { plain "jdk/internal/util/Preconditions" (some 0) with
  accessFlags := 33
  cf := some (fileOf pool39 24 #[.nestMembers #[55, 131, 125, 114]] #[⟨1, 5, 6, #[]⟩] 33 2 #[] #[⟨25, 123, 124, #[]⟩, ⟨25, 130, 124, #[]⟩, ⟨25, 136, 124, #[]⟩])
  fields := #[⟨"SIOOBE_FORMATTER", (.object "java/util/function/BiFunction"), 25, 0, 0⟩, ⟨"AIOOBE_FORMATTER", (.object "java/util/function/BiFunction"), 25, 1, 0⟩, ⟨"IOOBE_FORMATTER", (.object "java/util/function/BiFunction"), 25, 2, 0⟩]
  methods := #[k39m0]
  staticTypes := #[(.object "java/util/function/BiFunction"), (.object "java/util/function/BiFunction"), (.object "java/util/function/BiFunction")]
  resolved := Array.replicate 194 none
  statics := some 2 }
def pool40 : Array CpInfo := pool [(9, u "<init>"), (6, .class_ 18), (1, u "java/lang/Object"), (0, u "()V"), (1, .class_ 23), (1, u "jdk/internal/util/ArraysSupport"), (0, u "LOG2_ARRAY_LONG_INDEX_SCALE"), (0, u "I"), (2, u "U"), (0, u "Ljdk/internal/misc/Unsafe;"), (8, u "BIG_ENDIAN"), (0, u "Z"), (8, u "LOG2_BYTE_BIT_SIZE"), (4, u "LOG2_ARRAY_INT_INDEX_SCALE"), (54, u "JLA"), (0, u "Ljdk/internal/access/JavaLangAccess;"), (11, u "LOG2_ARRAY_BOOLEAN_INDEX_SCALE"), (9, u "LOG2_ARRAY_BYTE_INDEX_SCALE"), (5, u "LOG2_ARRAY_CHAR_INDEX_SCALE"), (5, u "LOG2_ARRAY_SHORT_INDEX_SCALE"), (18, u "LOG2_ARRAY_FLOAT_INDEX_SCALE"), (24, u "LOG2_ARRAY_DOUBLE_INDEX_SCALE"), (89, u "T_BOOLEAN"), (2, u "T_CHAR"), (1, u "T_FLOAT"), (1, u "T_DOUBLE"), (1, u "T_BYTE"), (1, u "T_SHORT"), (1, u "T_INT"), (1, u "T_LONG"), (1, u "SOFT_MAX_ARRAY_LENGTH")] 83
def k40m0 : Method := { name := "<init>", desc := "()V", sig := { parameters := [], returnType := none }, accessFlags := 2, code := none }
def k40 : Class := { plain "jdk/internal/util/ArraysSupport" (some 0) with
  accessFlags := 33
  cf := some (fileOf pool40 21 #[] #[⟨2, 9, 19, #[]⟩] 33 16 #[] #[⟨24, 28, 29, #[]⟩, ⟨26, 38, 39, #[]⟩, ⟨25, 121, 25, #[]⟩, ⟨25, 131, 25, #[]⟩, ⟨25, 137, 25, #[]⟩, ⟨25, 143, 25, #[]⟩, ⟨25, 53, 25, #[]⟩, ⟨25, 24, 25, #[]⟩, ⟨25, 162, 25, #[]⟩, ⟨25, 187, 25, #[]⟩, ⟨26, 48, 25, #[]⟩, ⟨25, 277, 25, #[]⟩, ⟨25, 280, 25, #[]⟩, ⟨25, 282, 25, #[]⟩, ⟨25, 284, 25, #[]⟩, ⟨25, 286, 25, #[]⟩, ⟨25, 288, 25, #[]⟩, ⟨25, 290, 25, #[]⟩, ⟨25, 292, 25, #[]⟩, ⟨26, 108, 109, #[]⟩, ⟨25, 294, 25, #[]⟩])
  fields := #[⟨"U", (.object "jdk/internal/misc/Unsafe"), 24, 0, 0⟩, ⟨"BIG_ENDIAN", .boolean, 26, 1, 0⟩, ⟨"LOG2_ARRAY_BOOLEAN_INDEX_SCALE", .int, 25, 2, 0⟩, ⟨"LOG2_ARRAY_BYTE_INDEX_SCALE", .int, 25, 3, 0⟩, ⟨"LOG2_ARRAY_CHAR_INDEX_SCALE", .int, 25, 4, 0⟩, ⟨"LOG2_ARRAY_SHORT_INDEX_SCALE", .int, 25, 5, 0⟩, ⟨"LOG2_ARRAY_INT_INDEX_SCALE", .int, 25, 6, 0⟩, ⟨"LOG2_ARRAY_LONG_INDEX_SCALE", .int, 25, 7, 0⟩, ⟨"LOG2_ARRAY_FLOAT_INDEX_SCALE", .int, 25, 8, 0⟩, ⟨"LOG2_ARRAY_DOUBLE_INDEX_SCALE", .int, 25, 9, 0⟩, ⟨"LOG2_BYTE_BIT_SIZE", .int, 26, 10, 0⟩, ⟨"T_BOOLEAN", .int, 25, 11, 0⟩, ⟨"T_CHAR", .int, 25, 12, 0⟩, ⟨"T_FLOAT", .int, 25, 13, 0⟩, ⟨"T_DOUBLE", .int, 25, 14, 0⟩, ⟨"T_BYTE", .int, 25, 15, 0⟩, ⟨"T_SHORT", .int, 25, 16, 0⟩, ⟨"T_INT", .int, 25, 17, 0⟩, ⟨"T_LONG", .int, 25, 18, 0⟩, ⟨"JLA", (.object "jdk/internal/access/JavaLangAccess"), 26, 19, 0⟩, ⟨"SOFT_MAX_ARRAY_LENGTH", .int, 25, 20, 0⟩]
  methods := #[k40m0]
  staticTypes := #[(.object "jdk/internal/misc/Unsafe"), .boolean, .int, .int, .int, .int, .int, .int, .int, .int, .int, .int, .int, .int, .int, .int, .int, .int, .int, (.object "jdk/internal/access/JavaLangAccess"), .int]
  resolved := Array.replicate 378 none
  statics := none }
def k41 : Class := { plain "byte" none with kind := .primitive 'B', accessFlags := 0x411 }
def k42 : Class := { plain "[B" (some 0) with kind := .array 41 .byte, interfaces := #[16, 5], accessFlags := 1041 }
def k43 : Class := { plain "int" none with kind := .primitive 'I', accessFlags := 0x411 }
def k44 : Class := { plain "[I" (some 0) with kind := .array 43 .int, interfaces := #[16, 5], accessFlags := 1041 }
def k45 : Class := { plain "[Lcom/example/ratatoskr/ratatoskr/JsonValue;" (some 0) with kind := .array 2 (.object "com/example/ratatoskr/ratatoskr/JsonValue"), interfaces := #[16, 5], accessFlags := 1041 }
def k46 : Class := { plain "[Lcom/example/ratatoskr/ratatoskr/Names;" (some 0) with kind := .array 37 (.object "com/example/ratatoskr/ratatoskr/Names"), interfaces := #[16, 5], accessFlags := 1041 }
def k47 : Class := { plain "[Ljava/lang/String;" (some 0) with kind := .array 10 (.object "java/lang/String"), interfaces := #[16, 5], accessFlags := 1041 }
def k48 : Class := { plain "[Ljava/util/HashMap$Node;" (some 0) with kind := .array 22 (.object "java/util/HashMap$Node"), interfaces := #[16, 5], accessFlags := 1041 }
def k49 : Class := { plain "[[Lcom/example/ratatoskr/ratatoskr/JsonValue;" (some 0) with kind := .array 45 (.array (.object "com/example/ratatoskr/ratatoskr/JsonValue")), interfaces := #[16, 5], accessFlags := 1041 }
def heap : Heap := #[{ cls := 4, slots := #[.ref 3], vm := .statics 4 },
  { cls := 10, slots := #[.long 0, .int 1, .null, .int 0, .null, .int 0, .int 0], vm := .statics 10 },
  { cls := 39, slots := #[.null, .null, .null], vm := .statics 39 },
  { cls := 4, slots := #[.null], vm := .none }]
def classes : Array Class := #[k0, k1, k2, k3, k4, k5, k6, k7, k8, k9, k10, k11, k12, k13, k14, k15, k16, k17, k18, k19, k20, k21, k22, k23, k24, k25, k26, k27, k28, k29, k30, k31, k32, k33, k34, k35, k36, k37, k38, k39, k40, k41, k42, k43, k44, k45, k46, k47, k48, k49]
def interned : List (Array UInt16 × Addr) := []
def slotsUsed : Nat := 12
def theMethod : MethodId := ⟨1, 3⟩
def args0 : Array Value := #[.int 5, .int 7, .int 9, .int 3, .int 4]
def aboutOver (below : List Frame) : State where
  vm := { classes := classes, interned := interned.toArray }
  heap := heap
  slotsUsed := slotsUsed
  threads := #[{ frames := .invoking theMethod args0 :: below }]
def below0 : List Frame := [.native { method := ⟨0, 0⟩, args := #[] }]
def about1 : State := aboutOver below0
def p0 : Program := .bare "" "" ""
def e0 : Env := launch0.env 0 0 0
theorem w_frames : about1.frames = Frame.invoking theMethod args0 :: below0 := rfl
theorem w_args : argsFit about1.vm theMethod args0 = true := by decide +kernel
theorem w_heap : heapFits about1 = true := by decide +kernel
theorem w_runnable : about1.curStatus? = some .runnable := by decide +kernel
theorem w_alone : about1.alone = true := by decide +kernel
theorem w_named : about1.methodNamed? x = some theMethod := by decide +kernel
theorem w_hears : about1.hears theMethod below0 = true := by decide +kernel
theorem w_ripe : about1.ripe theMethod args0 below0 = true := by decide +kernel
theorem w_running : about1.status = .running := rfl
theorem w_room : about1.hasRoom e0.platform room_1 = true :=
  launch0.hasRoom_least _ room_1 (by decide +kernel) (by decide +kernel) (by decide +kernel) (by decide +kernel) (by decide +kernel) (by decide +kernel)
theorem allAtoms_all (ts : List Jvm.Cond) (a : Array Jvm.Value) (st : Jvm.State) : (allAtoms ts).before a st = ts.all (fun c => c.before a st) := by
  induction ts with
  | nil => rfl
  | cons c t ih =>
    show (Jvm.Cond.and c (allAtoms t)).before a st = _
    rw [Jvm.Cond.before_and, ih, List.all_cons]
def words1 : List Jvm.Cond := Jvm.Cond.code x code maxLocals ret :: tables_1
theorem code_word {y : MethodName} {bytes : ByteArray} {mx : Nat} {rt : Option FieldType} {a : Array Value} {s : State} {m : MethodId} {meth : Method} {c : Code} (h1 : s.methodNamed? y = some m) (h2 : s.vm.method? m = some meth) (h3 : meth.code = some c) (h4 : c.code = bytes)
    (h5 : (c.maxLocals == mx && c.exceptionTable.isEmpty && decide (c.maxStack ≤ mostOperands) && decide (meth.sig.returnType = rt) && !meth.locks && decide (parseMethodDescriptor y.desc = some meth.sig)) = true) : (Jvm.Cond.code y bytes mx rt).before a s = true := by
  simp only [Bool.and_eq_true, beq_iff_eq, Bool.not_eq_true', decide_eq_true_eq] at h5
  obtain ⟨⟨⟨⟨⟨g1, g2⟩, g3⟩, g4⟩, g5⟩, g6⟩ := h5
  simp [Cond.before, Cond.holds, Cond.value, h1, h2, h3, h4, g1, g2, g3, g4, g5, g6]
def isCode : Jvm.Cond → Bool
  | .code _ _ _ _ => true
  | _ => false
theorem all_split {L : List Jvm.Cond} {P : Jvm.Cond → Bool} (h1 : L.all (fun c => isCode c || P c) = true) (h2 : ∀ c ∈ L.filter isCode, P c = true) : L.all P = true := by
  refine List.all_eq_true.mpr fun c hc => ?_
  have h := List.all_eq_true.mp h1 c hc
  rcases Bool.eq_false_or_eq_true (isCode c) with hi | hi
  · exact h2 c (List.mem_filter.mpr ⟨hc, hi⟩)
  · simpa [hi] using h
abbrev kw0 : Jvm.Cond := Jvm.Cond.code x code maxLocals ret
abbrev kw1 : Jvm.Cond := Jvm.Cond.code ({ cls := "java/lang/String", name := "valueOf", desc := "(C)Ljava/lang/String;" } : Jvm.MethodName) jdk_42_method_139_code (1 : Nat) (Option.some (Jvm.ClassFile.FieldType.object "java/lang/String"))
abbrev kw2 : Jvm.Cond := Jvm.Cond.code ({ cls := "java/lang/StringLatin1", name := "canEncode", desc := "(C)Z" } : Jvm.MethodName) jdk_43_method_3_code (1 : Nat) (Option.some Jvm.ClassFile.FieldType.boolean)
abbrev kw3 : Jvm.Cond := Jvm.Cond.code ({ cls := "java/lang/StringLatin1", name := "toBytes", desc := "(C)[B" } : Jvm.MethodName) jdk_43_method_46_code (1 : Nat) (Option.some (Jvm.ClassFile.FieldType.array Jvm.ClassFile.FieldType.byte))
abbrev kw4 : Jvm.Cond := Jvm.Cond.code ({ cls := "java/lang/String", name := "<init>", desc := "([BB)V" } : Jvm.MethodName) jdk_42_method_151_code (3 : Nat) (Option.none : Option Jvm.ClassFile.FieldType)
abbrev kw5 : Jvm.Cond := Jvm.Cond.code ({ cls := "java/lang/Object", name := "<init>", desc := "()V" } : Jvm.MethodName) object_method_1_code (1 : Nat) (Option.none : Option Jvm.ClassFile.FieldType)
abbrev kw6 : Jvm.Cond := Jvm.Cond.code ({ cls := "com/example/ratatoskr/ratatoskr/JsonObject", name := "builder", desc := "()Lcom/example/ratatoskr/ratatoskr/JsonObject$Builder;" } : Jvm.MethodName) prog_13_method_4_code (0 : Nat) (Option.some (Jvm.ClassFile.FieldType.object "com/example/ratatoskr/ratatoskr/JsonObject$Builder"))
abbrev kw7 : Jvm.Cond := Jvm.Cond.code ({ cls := "java/util/LinkedHashMap", name := "<init>", desc := "()V" } : Jvm.MethodName) jdk_94_method_16_code (1 : Nat) (Option.none : Option Jvm.ClassFile.FieldType)
abbrev kw8 : Jvm.Cond := Jvm.Cond.code ({ cls := "java/util/HashMap", name := "<init>", desc := "()V" } : Jvm.MethodName) jdk_69_method_7_code (1 : Nat) (Option.none : Option Jvm.ClassFile.FieldType)
abbrev kw9 : Jvm.Cond := Jvm.Cond.code ({ cls := "java/util/AbstractMap", name := "<init>", desc := "()V" } : Jvm.MethodName) jdk_71_method_1_code (1 : Nat) (Option.none : Option Jvm.ClassFile.FieldType)
abbrev kw10 : Jvm.Cond := Jvm.Cond.code ({ cls := "com/example/ratatoskr/ratatoskr/JsonObject$Builder", name := "<init>", desc := "(Ljava/util/Map;Lcom/example/ratatoskr/ratatoskr/Names;)V" } : Jvm.MethodName) prog_14_method_1_code (3 : Nat) (Option.none : Option Jvm.ClassFile.FieldType)
abbrev kw11 : Jvm.Cond := Jvm.Cond.code ({ cls := "com/example/ratatoskr/ratatoskr/JsonObject$Builder", name := "put", desc := "(Ljava/lang/String;Lcom/example/ratatoskr/ratatoskr/JsonValue;)Lcom/example/ratatoskr/ratatoskr/JsonObject$Builder;" } : Jvm.MethodName) prog_14_method_2_code (3 : Nat) (Option.some (Jvm.ClassFile.FieldType.object "com/example/ratatoskr/ratatoskr/JsonObject$Builder"))
abbrev kw12 : Jvm.Cond := Jvm.Cond.code ({ cls := "java/util/Objects", name := "requireNonNull", desc := "(Ljava/lang/Object;Ljava/lang/String;)Ljava/lang/Object;" } : Jvm.MethodName) jdk_31_method_11_code (2 : Nat) (Option.some (Jvm.ClassFile.FieldType.object "java/lang/Object"))
abbrev kw13 : Jvm.Cond := Jvm.Cond.code ({ cls := "java/util/HashMap", name := "put", desc := "(Ljava/lang/Object;Ljava/lang/Object;)Ljava/lang/Object;" } : Jvm.MethodName) jdk_69_method_15_code (3 : Nat) (Option.some (Jvm.ClassFile.FieldType.object "java/lang/Object"))
abbrev kw14 : Jvm.Cond := Jvm.Cond.code ({ cls := "java/util/HashMap", name := "hash", desc := "(Ljava/lang/Object;)I" } : Jvm.MethodName) jdk_69_method_1_code (2 : Nat) (Option.some Jvm.ClassFile.FieldType.int)
abbrev kw15 : Jvm.Cond := Jvm.Cond.code ({ cls := "java/lang/String", name := "hashCode", desc := "()I" } : Jvm.MethodName) jdk_42_method_78_code (2 : Nat) (Option.some Jvm.ClassFile.FieldType.int)
abbrev kw16 : Jvm.Cond := Jvm.Cond.code ({ cls := "java/lang/String", name := "isLatin1", desc := "()Z" } : Jvm.MethodName) jdk_42_method_154_code (1 : Nat) (Option.some Jvm.ClassFile.FieldType.boolean)
abbrev kw17 : Jvm.Cond := Jvm.Cond.code ({ cls := "java/lang/StringLatin1", name := "hashCode", desc := "([B)I" } : Jvm.MethodName) jdk_43_method_21_code (1 : Nat) (Option.some Jvm.ClassFile.FieldType.int)
abbrev kw18 : Jvm.Cond := Jvm.Cond.code ({ cls := "java/util/HashMap", name := "putVal", desc := "(ILjava/lang/Object;Ljava/lang/Object;ZZ)Ljava/lang/Object;" } : Jvm.MethodName) jdk_69_method_16_code (13 : Nat) (Option.some (Jvm.ClassFile.FieldType.object "java/lang/Object"))
abbrev kw19 : Jvm.Cond := Jvm.Cond.code ({ cls := "java/util/HashMap", name := "resize", desc := "()[Ljava/util/HashMap$Node;" } : Jvm.MethodName) jdk_69_method_17_code (14 : Nat) (Option.some (Jvm.ClassFile.FieldType.array (Jvm.ClassFile.FieldType.object "java/util/HashMap$Node")))
abbrev kw20 : Jvm.Cond := Jvm.Cond.code ({ cls := "java/util/LinkedHashMap", name := "newNode", desc := "(ILjava/lang/Object;Ljava/lang/Object;Ljava/util/HashMap$Node;)Ljava/util/HashMap$Node;" } : Jvm.MethodName) jdk_94_method_4_code (6 : Nat) (Option.some (Jvm.ClassFile.FieldType.object "java/util/HashMap$Node"))
abbrev kw21 : Jvm.Cond := Jvm.Cond.code ({ cls := "java/util/LinkedHashMap$Entry", name := "<init>", desc := "(ILjava/lang/Object;Ljava/lang/Object;Ljava/util/HashMap$Node;)V" } : Jvm.MethodName) jdk_83_method_1_code (5 : Nat) (Option.none : Option Jvm.ClassFile.FieldType)
abbrev kw22 : Jvm.Cond := Jvm.Cond.code ({ cls := "java/util/HashMap$Node", name := "<init>", desc := "(ILjava/lang/Object;Ljava/lang/Object;Ljava/util/HashMap$Node;)V" } : Jvm.MethodName) jdk_70_method_1_code (5 : Nat) (Option.none : Option Jvm.ClassFile.FieldType)
abbrev kw23 : Jvm.Cond := Jvm.Cond.code ({ cls := "java/util/LinkedHashMap", name := "linkNodeAtEnd", desc := "(Ljava/util/LinkedHashMap$Entry;)V" } : Jvm.MethodName) jdk_94_method_1_code (3 : Nat) (Option.none : Option Jvm.ClassFile.FieldType)
abbrev kw24 : Jvm.Cond := Jvm.Cond.code ({ cls := "java/util/LinkedHashMap", name := "afterNodeInsertion", desc := "(Z)V" } : Jvm.MethodName) jdk_94_method_9_code (4 : Nat) (Option.none : Option Jvm.ClassFile.FieldType)
abbrev kw25 : Jvm.Cond := Jvm.Cond.code ({ cls := "java/util/LinkedHashMap", name := "removeEldestEntry", desc := "(Ljava/util/Map$Entry;)Z" } : Jvm.MethodName) jdk_94_method_23_code (2 : Nat) (Option.some Jvm.ClassFile.FieldType.boolean)
abbrev kw26 : Jvm.Cond := Jvm.Cond.code ({ cls := "com/example/ratatoskr/ratatoskr/JsonObject$Builder", name := "build", desc := "()Lcom/example/ratatoskr/ratatoskr/JsonObject;" } : Jvm.MethodName) prog_14_method_4_code (6 : Nat) (Option.some (Jvm.ClassFile.FieldType.object "com/example/ratatoskr/ratatoskr/JsonObject"))
abbrev kw27 : Jvm.Cond := Jvm.Cond.code ({ cls := "java/util/HashMap", name := "size", desc := "()I" } : Jvm.MethodName) jdk_69_method_10_code (1 : Nat) (Option.some Jvm.ClassFile.FieldType.int)
abbrev kw28 : Jvm.Cond := Jvm.Cond.code ({ cls := "java/util/LinkedHashMap", name := "entrySet", desc := "()Ljava/util/Set;" } : Jvm.MethodName) jdk_94_method_32_code (1 : Nat) (Option.some (Jvm.ClassFile.FieldType.object "java/util/Set"))
abbrev kw29 : Jvm.Cond := Jvm.Cond.code ({ cls := "java/util/LinkedHashMap", name := "sequencedEntrySet", desc := "()Ljava/util/SequencedSet;" } : Jvm.MethodName) jdk_94_method_33_code (3 : Nat) (Option.some (Jvm.ClassFile.FieldType.object "java/util/SequencedSet"))
abbrev kw30 : Jvm.Cond := Jvm.Cond.code ({ cls := "java/util/LinkedHashMap$LinkedEntrySet", name := "<init>", desc := "(Ljava/util/LinkedHashMap;Z)V" } : Jvm.MethodName) jdk_113_method_1_code (3 : Nat) (Option.none : Option Jvm.ClassFile.FieldType)
abbrev kw31 : Jvm.Cond := Jvm.Cond.code ({ cls := "java/util/AbstractSet", name := "<init>", desc := "()V" } : Jvm.MethodName) jdk_91_method_1_code (1 : Nat) (Option.none : Option Jvm.ClassFile.FieldType)
abbrev kw32 : Jvm.Cond := Jvm.Cond.code ({ cls := "java/util/AbstractCollection", name := "<init>", desc := "()V" } : Jvm.MethodName) jdk_22_method_1_code (1 : Nat) (Option.none : Option Jvm.ClassFile.FieldType)
abbrev kw33 : Jvm.Cond := Jvm.Cond.code ({ cls := "java/util/LinkedHashMap$LinkedEntrySet", name := "iterator", desc := "()Ljava/util/Iterator;" } : Jvm.MethodName) jdk_113_method_4_code (1 : Nat) (Option.some (Jvm.ClassFile.FieldType.object "java/util/Iterator"))
abbrev kw34 : Jvm.Cond := Jvm.Cond.code ({ cls := "java/util/LinkedHashMap$LinkedEntryIterator", name := "<init>", desc := "(Ljava/util/LinkedHashMap;Z)V" } : Jvm.MethodName) jdk_2615_method_1_code (3 : Nat) (Option.none : Option Jvm.ClassFile.FieldType)
abbrev kw35 : Jvm.Cond := Jvm.Cond.code ({ cls := "java/util/LinkedHashMap$LinkedHashIterator", name := "<init>", desc := "(Ljava/util/LinkedHashMap;Z)V" } : Jvm.MethodName) jdk_2616_method_1_code (3 : Nat) (Option.none : Option Jvm.ClassFile.FieldType)
abbrev kw36 : Jvm.Cond := Jvm.Cond.code ({ cls := "java/util/LinkedHashMap$LinkedHashIterator", name := "hasNext", desc := "()Z" } : Jvm.MethodName) jdk_2616_method_2_code (1 : Nat) (Option.some Jvm.ClassFile.FieldType.boolean)
abbrev kw37 : Jvm.Cond := Jvm.Cond.code ({ cls := "java/util/LinkedHashMap$LinkedEntryIterator", name := "next", desc := "()Ljava/lang/Object;" } : Jvm.MethodName) jdk_2615_method_3_code (1 : Nat) (Option.some (Jvm.ClassFile.FieldType.object "java/lang/Object"))
abbrev kw38 : Jvm.Cond := Jvm.Cond.code ({ cls := "java/util/LinkedHashMap$LinkedEntryIterator", name := "next", desc := "()Ljava/util/Map$Entry;" } : Jvm.MethodName) jdk_2615_method_2_code (1 : Nat) (Option.some (Jvm.ClassFile.FieldType.object "java/util/Map$Entry"))
abbrev kw39 : Jvm.Cond := Jvm.Cond.code ({ cls := "java/util/LinkedHashMap$LinkedHashIterator", name := "nextNode", desc := "()Ljava/util/LinkedHashMap$Entry;" } : Jvm.MethodName) jdk_2616_method_3_code (2 : Nat) (Option.some (Jvm.ClassFile.FieldType.object "java/util/LinkedHashMap$Entry"))
abbrev kw40 : Jvm.Cond := Jvm.Cond.code ({ cls := "java/util/HashMap$Node", name := "getKey", desc := "()Ljava/lang/Object;" } : Jvm.MethodName) jdk_70_method_2_code (1 : Nat) (Option.some (Jvm.ClassFile.FieldType.object "java/lang/Object"))
abbrev kw41 : Jvm.Cond := Jvm.Cond.code ({ cls := "java/util/HashMap$Node", name := "getValue", desc := "()Ljava/lang/Object;" } : Jvm.MethodName) jdk_70_method_3_code (1 : Nat) (Option.some (Jvm.ClassFile.FieldType.object "java/lang/Object"))
abbrev kw42 : Jvm.Cond := Jvm.Cond.code ({ cls := "com/example/ratatoskr/ratatoskr/Names", name := "of", desc := "([Ljava/lang/String;II)Lcom/example/ratatoskr/ratatoskr/Names;" } : Jvm.MethodName) prog_21_method_2_code (5 : Nat) (Option.some (Jvm.ClassFile.FieldType.object "com/example/ratatoskr/ratatoskr/Names"))
abbrev kw43 : Jvm.Cond := Jvm.Cond.code ({ cls := "com/example/ratatoskr/ratatoskr/Names", name := "<init>", desc := "(I)V" } : Jvm.MethodName) prog_21_method_1_code (3 : Nat) (Option.none : Option Jvm.ClassFile.FieldType)
abbrev kw44 : Jvm.Cond := Jvm.Cond.code ({ cls := "java/util/AbstractList", name := "<init>", desc := "()V" } : Jvm.MethodName) jdk_39_method_1_code (1 : Nat) (Option.none : Option Jvm.ClassFile.FieldType)
abbrev kw45 : Jvm.Cond := Jvm.Cond.code ({ cls := "com/example/ratatoskr/ratatoskr/Names", name := "find", desc := "(Ljava/lang/String;)I" } : Jvm.MethodName) prog_21_method_9_code (4 : Nat) (Option.some Jvm.ClassFile.FieldType.int)
abbrev kw46 : Jvm.Cond := Jvm.Cond.code ({ cls := "com/example/ratatoskr/ratatoskr/Names", name := "findInOrder", desc := "(Ljava/lang/String;)I" } : Jvm.MethodName) prog_21_method_11_code (3 : Nat) (Option.some Jvm.ClassFile.FieldType.int)
abbrev kw47 : Jvm.Cond := Jvm.Cond.code ({ cls := "com/example/ratatoskr/ratatoskr/Names", name := "append", desc := "(Ljava/lang/String;)V" } : Jvm.MethodName) prog_21_method_12_code (4 : Nat) (Option.none : Option Jvm.ClassFile.FieldType)
abbrev kw48 : Jvm.Cond := Jvm.Cond.code ({ cls := "com/example/ratatoskr/ratatoskr/JsonObject", name := "<init>", desc := "(Lcom/example/ratatoskr/ratatoskr/Names;[Lcom/example/ratatoskr/ratatoskr/JsonValue;)V" } : Jvm.MethodName) prog_13_method_1_code (3 : Nat) (Option.none : Option Jvm.ClassFile.FieldType)
abbrev kw49 : Jvm.Cond := Jvm.Cond.code ({ cls := "com/example/ratatoskr/ratatoskr/JsonArray", name := "holding", desc := "([Lcom/example/ratatoskr/ratatoskr/JsonValue;)Lcom/example/ratatoskr/ratatoskr/JsonArray;" } : Jvm.MethodName) prog_6_method_3_code (1 : Nat) (Option.some (Jvm.ClassFile.FieldType.object "com/example/ratatoskr/ratatoskr/JsonArray"))
abbrev kw50 : Jvm.Cond := Jvm.Cond.code ({ cls := "com/example/ratatoskr/ratatoskr/JsonArray", name := "<init>", desc := "([Lcom/example/ratatoskr/ratatoskr/JsonValue;)V" } : Jvm.MethodName) prog_6_method_1_code (2 : Nat) (Option.none : Option Jvm.ClassFile.FieldType)
abbrev kw51 : Jvm.Cond := Jvm.Cond.code ({ cls := "com/example/ratatoskr/ratatoskr/WalkLeavePinLaw", name := "place", desc := "(IZ)I" } : Jvm.MethodName) method_2_code (2 : Nat) (Option.some Jvm.ClassFile.FieldType.int)
abbrev kw52 : Jvm.Cond := Jvm.Cond.code ({ cls := "com/example/ratatoskr/ratatoskr/Walk", name := "<init>", desc := "()V" } : Jvm.MethodName) prog_23_method_1_code (1 : Nat) (Option.none : Option Jvm.ClassFile.FieldType)
abbrev kw53 : Jvm.Cond := Jvm.Cond.code ({ cls := "com/example/ratatoskr/ratatoskr/WalkLeavePinLaw", name := "step", desc := "(Lcom/example/ratatoskr/ratatoskr/Walk;Lcom/example/ratatoskr/ratatoskr/JsonValue;I)V" } : Jvm.MethodName) method_3_code (3 : Nat) (Option.none : Option Jvm.ClassFile.FieldType)
abbrev kw54 : Jvm.Cond := Jvm.Cond.code ({ cls := "com/example/ratatoskr/ratatoskr/Walk", name := "enter", desc := "(Lcom/example/ratatoskr/ratatoskr/JsonValue;)V" } : Jvm.MethodName) prog_23_method_2_code (5 : Nat) (Option.none : Option Jvm.ClassFile.FieldType)
abbrev kw55 : Jvm.Cond := Jvm.Cond.code ({ cls := "com/example/ratatoskr/ratatoskr/JsonArray", name := "elements", desc := "()[Lcom/example/ratatoskr/ratatoskr/JsonValue;" } : Jvm.MethodName) prog_6_method_10_code (1 : Nat) (Option.some (Jvm.ClassFile.FieldType.array (Jvm.ClassFile.FieldType.object "com/example/ratatoskr/ratatoskr/JsonValue")))
abbrev kw56 : Jvm.Cond := Jvm.Cond.code ({ cls := "com/example/ratatoskr/ratatoskr/Walk", name := "leave", desc := "()V" } : Jvm.MethodName) prog_23_method_4_code (1 : Nat) (Option.none : Option Jvm.ClassFile.FieldType)
abbrev kw57 : Jvm.Cond := Jvm.Cond.code ({ cls := "com/example/ratatoskr/ratatoskr/Walk", name := "depth", desc := "()I" } : Jvm.MethodName) prog_23_method_5_code (1 : Nat) (Option.some Jvm.ClassFile.FieldType.int)
abbrev kw58 : Jvm.Cond := Jvm.Cond.code ({ cls := "com/example/ratatoskr/ratatoskr/Walk", name := "inObject", desc := "()Z" } : Jvm.MethodName) prog_23_method_8_code (1 : Nat) (Option.some Jvm.ClassFile.FieldType.boolean)
abbrev kw59 : Jvm.Cond := Jvm.Cond.code ({ cls := "com/example/ratatoskr/ratatoskr/Walk", name := "next", desc := "()Lcom/example/ratatoskr/ratatoskr/JsonValue;" } : Jvm.MethodName) prog_23_method_7_code (1 : Nat) (Option.some (Jvm.ClassFile.FieldType.object "com/example/ratatoskr/ratatoskr/JsonValue"))
abbrev kw60 : Jvm.Cond := Jvm.Cond.code ({ cls := "com/example/ratatoskr/ratatoskr/JsonObject", name := "values", desc := "()[Lcom/example/ratatoskr/ratatoskr/JsonValue;" } : Jvm.MethodName) prog_13_method_11_code (1 : Nat) (Option.some (Jvm.ClassFile.FieldType.array (Jvm.ClassFile.FieldType.object "com/example/ratatoskr/ratatoskr/JsonValue")))
abbrev kw61 : Jvm.Cond := Jvm.Cond.code ({ cls := "com/example/ratatoskr/ratatoskr/JsonObject", name := "shape", desc := "()Lcom/example/ratatoskr/ratatoskr/Names;" } : Jvm.MethodName) prog_13_method_10_code (1 : Nat) (Option.some (Jvm.ClassFile.FieldType.object "com/example/ratatoskr/ratatoskr/Names"))
abbrev kw62 : Jvm.Cond := Jvm.Cond.code ({ cls := "com/example/ratatoskr/ratatoskr/Walk", name := "place", desc := "()I" } : Jvm.MethodName) prog_23_method_10_code (1 : Nat) (Option.some Jvm.ClassFile.FieldType.int)
abbrev kw63 : Jvm.Cond := Jvm.Cond.code ({ cls := "com/example/ratatoskr/ratatoskr/Walk", name := "hasNext", desc := "()Z" } : Jvm.MethodName) prog_23_method_6_code (1 : Nat) (Option.some Jvm.ClassFile.FieldType.boolean)
abbrev kw64 : Jvm.Cond := Jvm.Cond.code ({ cls := "com/example/ratatoskr/ratatoskr/Walk", name := "name", desc := "()Ljava/lang/String;" } : Jvm.MethodName) prog_23_method_11_code (1 : Nat) (Option.some (Jvm.ClassFile.FieldType.object "java/lang/String"))
abbrev kw65 : Jvm.Cond := Jvm.Cond.code ({ cls := "com/example/ratatoskr/ratatoskr/Names", name := "get", desc := "(I)Ljava/lang/String;" } : Jvm.MethodName) prog_21_method_5_code (2 : Nat) (Option.some (Jvm.ClassFile.FieldType.object "java/lang/String"))
abbrev kw66 : Jvm.Cond := Jvm.Cond.code ({ cls := "java/lang/String", name := "equals", desc := "(Ljava/lang/Object;)Z" } : Jvm.MethodName) jdk_42_method_66_code (3 : Nat) (Option.some Jvm.ClassFile.FieldType.boolean)
theorem w_c0 : kw0.before args0 about1 = true := code_word (m := ⟨1, 3⟩) (meth := k1m3) (c := k1c3) (by decide +kernel) rfl rfl rfl (by decide +kernel)
theorem w_c1 : kw1.before args0 about1 = true := code_word (m := ⟨10, 3⟩) (meth := k10m3) (c := k10c3) (by decide +kernel) rfl rfl rfl (by decide +kernel)
theorem w_c2 : kw2.before args0 about1 = true := code_word (m := ⟨11, 1⟩) (meth := k11m1) (c := k11c1) (by decide +kernel) rfl rfl rfl (by decide +kernel)
theorem w_c3 : kw3.before args0 about1 = true := code_word (m := ⟨11, 3⟩) (meth := k11m3) (c := k11c3) (by decide +kernel) rfl rfl rfl (by decide +kernel)
theorem w_c4 : kw4.before args0 about1 = true := code_word (m := ⟨10, 4⟩) (meth := k10m4) (c := k10c4) (by decide +kernel) rfl rfl rfl (by decide +kernel)
theorem w_c5 : kw5.before args0 about1 = true := code_word (m := ⟨0, 0⟩) (meth := k0m0) (c := k0c0) (by decide +kernel) rfl rfl rfl (by decide +kernel)
theorem w_c6 : kw6.before args0 about1 = true := code_word (m := ⟨12, 1⟩) (meth := k12m1) (c := k12c1) (by decide +kernel) rfl rfl rfl (by decide +kernel)
theorem w_c7 : kw7.before args0 about1 = true := code_word (m := ⟨19, 3⟩) (meth := k19m3) (c := k19c3) (by decide +kernel) rfl rfl rfl (by decide +kernel)
theorem w_c8 : kw8.before args0 about1 = true := code_word (m := ⟨17, 1⟩) (meth := k17m1) (c := k17c1) (by decide +kernel) rfl rfl rfl (by decide +kernel)
theorem w_c9 : kw9.before args0 about1 = true := code_word (m := ⟨15, 0⟩) (meth := k15m0) (c := k15c0) (by decide +kernel) rfl rfl rfl (by decide +kernel)
theorem w_c10 : kw10.before args0 about1 = true := code_word (m := ⟨13, 0⟩) (meth := k13m0) (c := k13c0) (by decide +kernel) rfl rfl rfl (by decide +kernel)
theorem w_c11 : kw11.before args0 about1 = true := code_word (m := ⟨13, 1⟩) (meth := k13m1) (c := k13c1) (by decide +kernel) rfl rfl rfl (by decide +kernel)
theorem w_c12 : kw12.before args0 about1 = true := code_word (m := ⟨20, 1⟩) (meth := k20m1) (c := k20c1) (by decide +kernel) rfl rfl rfl (by decide +kernel)
theorem w_c13 : kw13.before args0 about1 = true := code_word (m := ⟨17, 3⟩) (meth := k17m3) (c := k17c3) (by decide +kernel) rfl rfl rfl (by decide +kernel)
theorem w_c14 : kw14.before args0 about1 = true := code_word (m := ⟨17, 0⟩) (meth := k17m0) (c := k17c0) (by decide +kernel) rfl rfl rfl (by decide +kernel)
theorem w_c15 : kw15.before args0 about1 = true := code_word (m := ⟨10, 2⟩) (meth := k10m2) (c := k10c2) (by decide +kernel) rfl rfl rfl (by decide +kernel)
theorem w_c16 : kw16.before args0 about1 = true := code_word (m := ⟨10, 5⟩) (meth := k10m5) (c := k10c5) (by decide +kernel) rfl rfl rfl (by decide +kernel)
theorem w_c17 : kw17.before args0 about1 = true := code_word (m := ⟨11, 2⟩) (meth := k11m2) (c := k11c2) (by decide +kernel) rfl rfl rfl (by decide +kernel)
theorem w_c18 : kw18.before args0 about1 = true := code_word (m := ⟨17, 4⟩) (meth := k17m4) (c := k17c4) (by decide +kernel) rfl rfl rfl (by decide +kernel)
theorem w_c19 : kw19.before args0 about1 = true := code_word (m := ⟨17, 5⟩) (meth := k17m5) (c := k17c5) (by decide +kernel) rfl rfl rfl (by decide +kernel)
theorem w_c20 : kw20.before args0 about1 = true := code_word (m := ⟨19, 1⟩) (meth := k19m1) (c := k19c1) (by decide +kernel) rfl rfl rfl (by decide +kernel)
theorem w_c21 : kw21.before args0 about1 = true := code_word (m := ⟨23, 0⟩) (meth := k23m0) (c := k23c0) (by decide +kernel) rfl rfl rfl (by decide +kernel)
theorem w_c22 : kw22.before args0 about1 = true := code_word (m := ⟨22, 0⟩) (meth := k22m0) (c := k22c0) (by decide +kernel) rfl rfl rfl (by decide +kernel)
theorem w_c23 : kw23.before args0 about1 = true := code_word (m := ⟨19, 0⟩) (meth := k19m0) (c := k19c0) (by decide +kernel) rfl rfl rfl (by decide +kernel)
theorem w_c24 : kw24.before args0 about1 = true := code_word (m := ⟨19, 2⟩) (meth := k19m2) (c := k19c2) (by decide +kernel) rfl rfl rfl (by decide +kernel)
theorem w_c25 : kw25.before args0 about1 = true := code_word (m := ⟨19, 4⟩) (meth := k19m4) (c := k19c4) (by decide +kernel) rfl rfl rfl (by decide +kernel)
theorem w_c26 : kw26.before args0 about1 = true := code_word (m := ⟨13, 2⟩) (meth := k13m2) (c := k13c2) (by decide +kernel) rfl rfl rfl (by decide +kernel)
theorem w_c27 : kw27.before args0 about1 = true := code_word (m := ⟨17, 2⟩) (meth := k17m2) (c := k17c2) (by decide +kernel) rfl rfl rfl (by decide +kernel)
theorem w_c28 : kw28.before args0 about1 = true := code_word (m := ⟨19, 5⟩) (meth := k19m5) (c := k19c5) (by decide +kernel) rfl rfl rfl (by decide +kernel)
theorem w_c29 : kw29.before args0 about1 = true := code_word (m := ⟨19, 6⟩) (meth := k19m6) (c := k19c6) (by decide +kernel) rfl rfl rfl (by decide +kernel)
theorem w_c30 : kw30.before args0 about1 = true := code_word (m := ⟨30, 0⟩) (meth := k30m0) (c := k30c0) (by decide +kernel) rfl rfl rfl (by decide +kernel)
theorem w_c31 : kw31.before args0 about1 = true := code_word (m := ⟨27, 0⟩) (meth := k27m0) (c := k27c0) (by decide +kernel) rfl rfl rfl (by decide +kernel)
theorem w_c32 : kw32.before args0 about1 = true := code_word (m := ⟨25, 0⟩) (meth := k25m0) (c := k25c0) (by decide +kernel) rfl rfl rfl (by decide +kernel)
theorem w_c33 : kw33.before args0 about1 = true := code_word (m := ⟨30, 1⟩) (meth := k30m1) (c := k30c1) (by decide +kernel) rfl rfl rfl (by decide +kernel)
theorem w_c34 : kw34.before args0 about1 = true := code_word (m := ⟨33, 0⟩) (meth := k33m0) (c := k33c0) (by decide +kernel) rfl rfl rfl (by decide +kernel)
theorem w_c35 : kw35.before args0 about1 = true := code_word (m := ⟨31, 0⟩) (meth := k31m0) (c := k31c0) (by decide +kernel) rfl rfl rfl (by decide +kernel)
theorem w_c36 : kw36.before args0 about1 = true := code_word (m := ⟨31, 1⟩) (meth := k31m1) (c := k31c1) (by decide +kernel) rfl rfl rfl (by decide +kernel)
theorem w_c37 : kw37.before args0 about1 = true := code_word (m := ⟨33, 2⟩) (meth := k33m2) (c := k33c2) (by decide +kernel) rfl rfl rfl (by decide +kernel)
theorem w_c38 : kw38.before args0 about1 = true := code_word (m := ⟨33, 1⟩) (meth := k33m1) (c := k33c1) (by decide +kernel) rfl rfl rfl (by decide +kernel)
theorem w_c39 : kw39.before args0 about1 = true := code_word (m := ⟨31, 2⟩) (meth := k31m2) (c := k31c2) (by decide +kernel) rfl rfl rfl (by decide +kernel)
theorem w_c40 : kw40.before args0 about1 = true := code_word (m := ⟨22, 1⟩) (meth := k22m1) (c := k22c1) (by decide +kernel) rfl rfl rfl (by decide +kernel)
theorem w_c41 : kw41.before args0 about1 = true := code_word (m := ⟨22, 2⟩) (meth := k22m2) (c := k22c2) (by decide +kernel) rfl rfl rfl (by decide +kernel)
theorem w_c42 : kw42.before args0 about1 = true := code_word (m := ⟨37, 1⟩) (meth := k37m1) (c := k37c1) (by decide +kernel) rfl rfl rfl (by decide +kernel)
theorem w_c43 : kw43.before args0 about1 = true := code_word (m := ⟨37, 0⟩) (meth := k37m0) (c := k37c0) (by decide +kernel) rfl rfl rfl (by decide +kernel)
theorem w_c44 : kw44.before args0 about1 = true := code_word (m := ⟨35, 0⟩) (meth := k35m0) (c := k35c0) (by decide +kernel) rfl rfl rfl (by decide +kernel)
theorem w_c45 : kw45.before args0 about1 = true := code_word (m := ⟨37, 3⟩) (meth := k37m3) (c := k37c3) (by decide +kernel) rfl rfl rfl (by decide +kernel)
theorem w_c46 : kw46.before args0 about1 = true := code_word (m := ⟨37, 4⟩) (meth := k37m4) (c := k37c4) (by decide +kernel) rfl rfl rfl (by decide +kernel)
theorem w_c47 : kw47.before args0 about1 = true := code_word (m := ⟨37, 5⟩) (meth := k37m5) (c := k37c5) (by decide +kernel) rfl rfl rfl (by decide +kernel)
theorem w_c48 : kw48.before args0 about1 = true := code_word (m := ⟨12, 0⟩) (meth := k12m0) (c := k12c0) (by decide +kernel) rfl rfl rfl (by decide +kernel)
theorem w_c49 : kw49.before args0 about1 = true := code_word (m := ⟨4, 1⟩) (meth := k4m1) (c := k4c1) (by decide +kernel) rfl rfl rfl (by decide +kernel)
theorem w_c50 : kw50.before args0 about1 = true := code_word (m := ⟨4, 0⟩) (meth := k4m0) (c := k4c0) (by decide +kernel) rfl rfl rfl (by decide +kernel)
theorem w_c51 : kw51.before args0 about1 = true := code_word (m := ⟨1, 1⟩) (meth := k1m1) (c := k1c1) (by decide +kernel) rfl rfl rfl (by decide +kernel)
theorem w_c52 : kw52.before args0 about1 = true := code_word (m := ⟨38, 0⟩) (meth := k38m0) (c := k38c0) (by decide +kernel) rfl rfl rfl (by decide +kernel)
theorem w_c53 : kw53.before args0 about1 = true := code_word (m := ⟨1, 2⟩) (meth := k1m2) (c := k1c2) (by decide +kernel) rfl rfl rfl (by decide +kernel)
theorem w_c54 : kw54.before args0 about1 = true := code_word (m := ⟨38, 1⟩) (meth := k38m1) (c := k38c1) (by decide +kernel) rfl rfl rfl (by decide +kernel)
theorem w_c55 : kw55.before args0 about1 = true := code_word (m := ⟨4, 2⟩) (meth := k4m2) (c := k4c2) (by decide +kernel) rfl rfl rfl (by decide +kernel)
theorem w_c56 : kw56.before args0 about1 = true := code_word (m := ⟨38, 2⟩) (meth := k38m2) (c := k38c2) (by decide +kernel) rfl rfl rfl (by decide +kernel)
theorem w_c57 : kw57.before args0 about1 = true := code_word (m := ⟨38, 3⟩) (meth := k38m3) (c := k38c3) (by decide +kernel) rfl rfl rfl (by decide +kernel)
theorem w_c58 : kw58.before args0 about1 = true := code_word (m := ⟨38, 6⟩) (meth := k38m6) (c := k38c6) (by decide +kernel) rfl rfl rfl (by decide +kernel)
theorem w_c59 : kw59.before args0 about1 = true := code_word (m := ⟨38, 5⟩) (meth := k38m5) (c := k38c5) (by decide +kernel) rfl rfl rfl (by decide +kernel)
theorem w_c60 : kw60.before args0 about1 = true := code_word (m := ⟨12, 3⟩) (meth := k12m3) (c := k12c3) (by decide +kernel) rfl rfl rfl (by decide +kernel)
theorem w_c61 : kw61.before args0 about1 = true := code_word (m := ⟨12, 2⟩) (meth := k12m2) (c := k12c2) (by decide +kernel) rfl rfl rfl (by decide +kernel)
theorem w_c62 : kw62.before args0 about1 = true := code_word (m := ⟨38, 7⟩) (meth := k38m7) (c := k38c7) (by decide +kernel) rfl rfl rfl (by decide +kernel)
theorem w_c63 : kw63.before args0 about1 = true := code_word (m := ⟨38, 4⟩) (meth := k38m4) (c := k38c4) (by decide +kernel) rfl rfl rfl (by decide +kernel)
theorem w_c64 : kw64.before args0 about1 = true := code_word (m := ⟨38, 8⟩) (meth := k38m8) (c := k38c8) (by decide +kernel) rfl rfl rfl (by decide +kernel)
theorem w_c65 : kw65.before args0 about1 = true := code_word (m := ⟨37, 2⟩) (meth := k37m2) (c := k37c2) (by decide +kernel) rfl rfl rfl (by decide +kernel)
theorem w_c66 : kw66.before args0 about1 = true := code_word (m := ⟨10, 1⟩) (meth := k10m1) (c := k10c1) (by decide +kernel) rfl rfl rfl (by decide +kernel)
def codes1 : List Jvm.Cond := [kw0, kw1, kw2, kw3, kw4, kw5, kw6, kw7, kw8, kw9, kw10, kw11, kw12, kw13, kw14, kw15, kw16, kw17, kw18, kw19, kw20, kw21, kw22, kw23, kw24, kw25, kw26, kw27, kw28, kw29, kw30, kw31, kw32, kw33, kw34, kw35, kw36, kw37, kw38, kw39, kw40, kw41, kw42, kw43, kw44, kw45, kw46, kw47, kw48, kw49, kw50, kw51, kw52, kw53, kw54, kw55, kw56, kw57, kw58, kw59, kw60, kw61, kw62, kw63, kw64, kw65, kw66]
theorem codes_eq : words1.filter isCode = codes1 := rfl
theorem w_codes : ∀ c ∈ words1.filter isCode, c.before args0 about1 = true := by
  rw [codes_eq]
  intro c hc
  simp only [codes1, List.mem_cons, List.not_mem_nil, or_false] at hc
  rcases hc with rfl | rfl | rfl | rfl | rfl | rfl | rfl | rfl | rfl | rfl | rfl | rfl | rfl | rfl | rfl | rfl | rfl | rfl | rfl | rfl | rfl | rfl | rfl | rfl | rfl | rfl | rfl | rfl | rfl | rfl | rfl | rfl | rfl | rfl | rfl | rfl | rfl | rfl | rfl | rfl | rfl | rfl | rfl | rfl | rfl | rfl | rfl | rfl | rfl | rfl | rfl | rfl | rfl | rfl | rfl | rfl | rfl | rfl | rfl | rfl | rfl | rfl | rfl | rfl | rfl | rfl | rfl
  · exact w_c0
  · exact w_c1
  · exact w_c2
  · exact w_c3
  · exact w_c4
  · exact w_c5
  · exact w_c6
  · exact w_c7
  · exact w_c8
  · exact w_c9
  · exact w_c10
  · exact w_c11
  · exact w_c12
  · exact w_c13
  · exact w_c14
  · exact w_c15
  · exact w_c16
  · exact w_c17
  · exact w_c18
  · exact w_c19
  · exact w_c20
  · exact w_c21
  · exact w_c22
  · exact w_c23
  · exact w_c24
  · exact w_c25
  · exact w_c26
  · exact w_c27
  · exact w_c28
  · exact w_c29
  · exact w_c30
  · exact w_c31
  · exact w_c32
  · exact w_c33
  · exact w_c34
  · exact w_c35
  · exact w_c36
  · exact w_c37
  · exact w_c38
  · exact w_c39
  · exact w_c40
  · exact w_c41
  · exact w_c42
  · exact w_c43
  · exact w_c44
  · exact w_c45
  · exact w_c46
  · exact w_c47
  · exact w_c48
  · exact w_c49
  · exact w_c50
  · exact w_c51
  · exact w_c52
  · exact w_c53
  · exact w_c54
  · exact w_c55
  · exact w_c56
  · exact w_c57
  · exact w_c58
  · exact w_c59
  · exact w_c60
  · exact w_c61
  · exact w_c62
  · exact w_c63
  · exact w_c64
  · exact w_c65
  · exact w_c66
theorem w_t1 : (words1.take 24).all (fun c => isCode c || c.before args0 about1) = true := by decide +kernel
theorem w_t2 : ((words1.drop 24).take 24).all (fun c => isCode c || c.before args0 about1) = true := by decide +kernel
theorem w_t3 : (((words1.drop 24).drop 24).take 24).all (fun c => isCode c || c.before args0 about1) = true := by decide +kernel
theorem w_t4 : ((((words1.drop 24).drop 24).drop 24).take 24).all (fun c => isCode c || c.before args0 about1) = true := by decide +kernel
theorem w_t5 : (((((words1.drop 24).drop 24).drop 24).drop 24).take 24).all (fun c => isCode c || c.before args0 about1) = true := by decide +kernel
theorem w_t6 : ((((((words1.drop 24).drop 24).drop 24).drop 24).drop 24).take 24).all (fun c => isCode c || c.before args0 about1) = true := by decide +kernel
theorem w_t7 : (((((((words1.drop 24).drop 24).drop 24).drop 24).drop 24).drop 24).take 24).all (fun c => isCode c || c.before args0 about1) = true := by decide +kernel
theorem w_t8 : ((((((((words1.drop 24).drop 24).drop 24).drop 24).drop 24).drop 24).drop 24).take 24).all (fun c => isCode c || c.before args0 about1) = true := by decide +kernel
theorem w_t9 : (((((((((words1.drop 24).drop 24).drop 24).drop 24).drop 24).drop 24).drop 24).drop 24).take 24).all (fun c => isCode c || c.before args0 about1) = true := by decide +kernel
theorem w_t10 : ((((((((((words1.drop 24).drop 24).drop 24).drop 24).drop 24).drop 24).drop 24).drop 24).drop 24).take 24).all (fun c => isCode c || c.before args0 about1) = true := by decide +kernel
theorem w_t11 : (((((((((((words1.drop 24).drop 24).drop 24).drop 24).drop 24).drop 24).drop 24).drop 24).drop 24).drop 24).take 24).all (fun c => isCode c || c.before args0 about1) = true := by decide +kernel
theorem w_t12 : ((((((((((((words1.drop 24).drop 24).drop 24).drop 24).drop 24).drop 24).drop 24).drop 24).drop 24).drop 24).drop 24).take 24).all (fun c => isCode c || c.before args0 about1) = true := by decide +kernel
theorem w_t13 : (((((((((((((words1.drop 24).drop 24).drop 24).drop 24).drop 24).drop 24).drop 24).drop 24).drop 24).drop 24).drop 24).drop 24).take 24).all (fun c => isCode c || c.before args0 about1) = true := by decide +kernel
theorem w_t14 : ((((((((((((((words1.drop 24).drop 24).drop 24).drop 24).drop 24).drop 24).drop 24).drop 24).drop 24).drop 24).drop 24).drop 24).drop 24).take 24).all (fun c => isCode c || c.before args0 about1) = true := by decide +kernel
theorem w_t15 : (((((((((((((((words1.drop 24).drop 24).drop 24).drop 24).drop 24).drop 24).drop 24).drop 24).drop 24).drop 24).drop 24).drop 24).drop 24).drop 24).take 24).all (fun c => isCode c || c.before args0 about1) = true := by decide +kernel
theorem w_t16 : ((((((((((((((((words1.drop 24).drop 24).drop 24).drop 24).drop 24).drop 24).drop 24).drop 24).drop 24).drop 24).drop 24).drop 24).drop 24).drop 24).drop 24).take 24).all (fun c => isCode c || c.before args0 about1) = true := by decide +kernel
theorem w_t17 : (((((((((((((((((words1.drop 24).drop 24).drop 24).drop 24).drop 24).drop 24).drop 24).drop 24).drop 24).drop 24).drop 24).drop 24).drop 24).drop 24).drop 24).drop 24).take 24).all (fun c => isCode c || c.before args0 about1) = true := by decide +kernel
theorem w_t18 : ((((((((((((((((((words1.drop 24).drop 24).drop 24).drop 24).drop 24).drop 24).drop 24).drop 24).drop 24).drop 24).drop 24).drop 24).drop 24).drop 24).drop 24).drop 24).drop 24).take 24).all (fun c => isCode c || c.before args0 about1) = true := by decide +kernel
theorem w_t19 : (((((((((((((((((((words1.drop 24).drop 24).drop 24).drop 24).drop 24).drop 24).drop 24).drop 24).drop 24).drop 24).drop 24).drop 24).drop 24).drop 24).drop 24).drop 24).drop 24).drop 24).take 24).all (fun c => isCode c || c.before args0 about1) = true := by decide +kernel
theorem w_t20 : ((((((((((((((((((((words1.drop 24).drop 24).drop 24).drop 24).drop 24).drop 24).drop 24).drop 24).drop 24).drop 24).drop 24).drop 24).drop 24).drop 24).drop 24).drop 24).drop 24).drop 24).drop 24).take 24).all (fun c => isCode c || c.before args0 about1) = true := by decide +kernel
theorem w_t21 : ((((((((((((((((((((words1.drop 24).drop 24).drop 24).drop 24).drop 24).drop 24).drop 24).drop 24).drop 24).drop 24).drop 24).drop 24).drop 24).drop 24).drop 24).drop 24).drop 24).drop 24).drop 24).drop 24).all (fun c => isCode c || c.before args0 about1) = true := by decide +kernel
theorem w_tables : (allAtoms (Jvm.Cond.code x code maxLocals ret :: tables_1)).before args0 about1 = true := by
  rw [allAtoms_all]
  show words1.all (fun c => c.before args0 about1) = true
  refine all_split ?_ w_codes
  rw [← List.take_append_drop 24 words1, List.all_append, w_t1, ← List.take_append_drop 24 (words1.drop 24), List.all_append, w_t2, ← List.take_append_drop 24 ((words1.drop 24).drop 24), List.all_append, w_t3, ← List.take_append_drop 24 (((words1.drop 24).drop 24).drop 24), List.all_append, w_t4, ← List.take_append_drop 24 ((((words1.drop 24).drop 24).drop 24).drop 24), List.all_append, w_t5, ← List.take_append_drop 24 (((((words1.drop 24).drop 24).drop 24).drop 24).drop 24), List.all_append, w_t6, ← List.take_append_drop 24 ((((((words1.drop 24).drop 24).drop 24).drop 24).drop 24).drop 24), List.all_append, w_t7, ← List.take_append_drop 24 (((((((words1.drop 24).drop 24).drop 24).drop 24).drop 24).drop 24).drop 24), List.all_append, w_t8, ← List.take_append_drop 24 ((((((((words1.drop 24).drop 24).drop 24).drop 24).drop 24).drop 24).drop 24).drop 24), List.all_append, w_t9, ← List.take_append_drop 24 (((((((((words1.drop 24).drop 24).drop 24).drop 24).drop 24).drop 24).drop 24).drop 24).drop 24), List.all_append, w_t10, ← List.take_append_drop 24 ((((((((((words1.drop 24).drop 24).drop 24).drop 24).drop 24).drop 24).drop 24).drop 24).drop 24).drop 24), List.all_append, w_t11, ← List.take_append_drop 24 (((((((((((words1.drop 24).drop 24).drop 24).drop 24).drop 24).drop 24).drop 24).drop 24).drop 24).drop 24).drop 24), List.all_append, w_t12, ← List.take_append_drop 24 ((((((((((((words1.drop 24).drop 24).drop 24).drop 24).drop 24).drop 24).drop 24).drop 24).drop 24).drop 24).drop 24).drop 24), List.all_append, w_t13, ← List.take_append_drop 24 (((((((((((((words1.drop 24).drop 24).drop 24).drop 24).drop 24).drop 24).drop 24).drop 24).drop 24).drop 24).drop 24).drop 24).drop 24), List.all_append, w_t14, ← List.take_append_drop 24 ((((((((((((((words1.drop 24).drop 24).drop 24).drop 24).drop 24).drop 24).drop 24).drop 24).drop 24).drop 24).drop 24).drop 24).drop 24).drop 24), List.all_append, w_t15, ← List.take_append_drop 24 (((((((((((((((words1.drop 24).drop 24).drop 24).drop 24).drop 24).drop 24).drop 24).drop 24).drop 24).drop 24).drop 24).drop 24).drop 24).drop 24).drop 24), List.all_append, w_t16, ← List.take_append_drop 24 ((((((((((((((((words1.drop 24).drop 24).drop 24).drop 24).drop 24).drop 24).drop 24).drop 24).drop 24).drop 24).drop 24).drop 24).drop 24).drop 24).drop 24).drop 24), List.all_append, w_t17, ← List.take_append_drop 24 (((((((((((((((((words1.drop 24).drop 24).drop 24).drop 24).drop 24).drop 24).drop 24).drop 24).drop 24).drop 24).drop 24).drop 24).drop 24).drop 24).drop 24).drop 24).drop 24), List.all_append, w_t18, ← List.take_append_drop 24 ((((((((((((((((((words1.drop 24).drop 24).drop 24).drop 24).drop 24).drop 24).drop 24).drop 24).drop 24).drop 24).drop 24).drop 24).drop 24).drop 24).drop 24).drop 24).drop 24).drop 24), List.all_append, w_t19, ← List.take_append_drop 24 (((((((((((((((((((words1.drop 24).drop 24).drop 24).drop 24).drop 24).drop 24).drop 24).drop 24).drop 24).drop 24).drop 24).drop 24).drop 24).drop 24).drop 24).drop 24).drop 24).drop 24).drop 24), List.all_append, w_t20, w_t21]
  rfl
theorem w_rest : rest_1_c.before args0 about1 = true := by decide +kernel
theorem w_case : (Jvm.Cond.and given_1 narrow_1).before args0 about1 = true := by decide +kernel
theorem w_applies : (headSpec (Jvm.Cond.code x code maxLocals ret :: tables_1) room_1).applies x e0.platform about1 = true :=
  (Spec.applies_iff w_frames).mpr ⟨w_running, w_runnable, w_alone, w_named, w_hears, w_ripe, w_room, w_tables⟩
theorem atStart : AtStart classFile x code maxLocals ret World_1 tables_1 room_1 Calls_1 rest_1 Pre_1 launch0 p0 e0 about1 theMethod args0 below0 :=
  ⟨lists_1, trivial, launch0.admits_env _ _ _, launch0.least_env, fairChoices_fair.cas, fairChoices_fair.clock, w_frames, w_args, w_heap, w_applies, trivial, w_rest, w_case⟩
end start1
theorem witness_1 : WitnessClaimed_1 := ⟨start1.p0, start1.e0, start1.about1, start1.theMethod, start1.args0, start1.below0, start1.atStart⟩
end Jvm.Pilot.@@N@@
