import JvmDerived
import JvmDerived.Pilot.@@N@@Statement
import JvmDerived.Pilot.@@N@@Code
set_option linter.unusedVariables false
set_option linter.unusedSimpArgs false
@@BLOCK:NumsL.lean.txt@@
@@BLOCK:LamKit.lean.txt@@
namespace Jvm.Pilot.@@N@@
open Jvm Jvm.ClassFile Sem Op Lib Jvm.Free Jvm.Stand Jvm.LawKit Jvm.RoadKit Bundle Jvm.Pilot.@@N@@.Jvm.D
abbrev own_y0 : MethodName := ⟨"java/util/AbstractCollection", "<init>", "()V"⟩
abbrev own_y1 : MethodName := ⟨"java/util/ImmutableCollections$AbstractImmutableCollection", "<init>", "()V"⟩
abbrev own_y2 : MethodName := ⟨"java/util/ImmutableCollections$AbstractImmutableSet", "<init>", "()V"⟩
abbrev own_y3 : MethodName := ⟨"java/util/ImmutableCollections$AbstractImmutableList", "<init>", "()V"⟩
abbrev own_y4 : MethodName := ⟨"java/util/Objects", "requireNonNull", "(Ljava/lang/Object;)Ljava/lang/Object;"⟩
abbrev own_y5 : MethodName := ⟨"java/util/Objects", "requireNonNull", "(Ljava/lang/Object;Ljava/lang/String;)Ljava/lang/Object;"⟩
abbrev own_y6 : MethodName := ⟨"java/util/ImmutableCollections$Set12", "<init>", "(Ljava/lang/Object;)V"⟩
abbrev own_y7 : MethodName := ⟨"java/util/Set", "of", "(Ljava/lang/Object;)Ljava/util/Set;"⟩
abbrev own_y8 : MethodName := ⟨"java/util/ImmutableCollections$List12", "<init>", "(Ljava/lang/Object;)V"⟩
abbrev own_y9 : MethodName := ⟨"java/util/List", "of", "(Ljava/lang/Object;)Ljava/util/List;"⟩
abbrev own_y10 : MethodName := ⟨"java/lang/StringUTF16", "compress", "([CI[BII)I"⟩
abbrev own_y11 : MethodName := ⟨"java/lang/StringUTF16", "compress", "([CII)[B"⟩
abbrev own_y12 : MethodName := ⟨"java/lang/StringUTF16", "coderFromArrayLen", "([BI)B"⟩
abbrev own_y13 : MethodName := ⟨"java/lang/String", "<init>", "([CIILjava/lang/Void;)V"⟩
abbrev own_y14 : MethodName := ⟨"java/lang/String", "<init>", "([C)V"⟩
abbrev own_y15 : MethodName := ⟨"java/lang/String", "coder", "()B"⟩
abbrev own_y16 : MethodName := ⟨"java/lang/String", "length", "()I"⟩
abbrev own_y17 : MethodName := ⟨"java/lang/StringLatin1", "equals", "([B[B)Z"⟩
abbrev own_y18 : MethodName := ⟨"java/lang/String", "equals", "(Ljava/lang/Object;)Z"⟩
abbrev own_y19 : MethodName := ⟨"java/util/ImmutableCollections$Set12", "<init>", "(Ljava/lang/Object;Ljava/lang/Object;)V"⟩
abbrev own_y20 : MethodName := ⟨"java/util/Set", "of", "(Ljava/lang/Object;Ljava/lang/Object;)Ljava/util/Set;"⟩
abbrev own_y21 : MethodName := ⟨"java/util/Set", "of", "()Ljava/util/Set;"⟩
abbrev own_y22 : MethodName := ⟨"com/example/aduana/aduana/core/Authentication", "anonymous", "()Lcom/example/aduana/aduana/core/Authentication;"⟩
abbrev own_y23 : MethodName := ⟨"java/util/Set", "copyOf", "(Ljava/util/Collection;)Ljava/util/Set;"⟩
abbrev own_y24 : MethodName := ⟨"java/lang/AbstractStringBuilder", "<init>", "(I)V"⟩
abbrev own_y25 : MethodName := ⟨"java/lang/StringBuilder", "<init>", "()V"⟩
abbrev own_y26 : MethodName := ⟨"java/lang/AbstractStringBuilder", "inflateIfNeededFor", "(Ljava/lang/String;)V"⟩
abbrev own_y27 : MethodName := ⟨"java/lang/String", "getBytes", "([BIB)V"⟩
abbrev own_y28 : MethodName := ⟨"java/lang/AbstractStringBuilder", "ensureCapacityInternal", "(I)V"⟩
abbrev own_y29 : MethodName := ⟨"java/lang/AbstractStringBuilder", "putStringAt", "(ILjava/lang/String;)V"⟩
abbrev own_y30 : MethodName := ⟨"java/lang/AbstractStringBuilder", "append", "(Ljava/lang/String;)Ljava/lang/AbstractStringBuilder;"⟩
abbrev own_y31 : MethodName := ⟨"java/lang/StringBuilder", "append", "(Ljava/lang/String;)Ljava/lang/StringBuilder;"⟩
abbrev own_y32 : MethodName := ⟨"java/lang/AbstractStringBuilder", "getValue", "()[B"⟩
abbrev own_y33 : MethodName := ⟨"java/lang/AbstractStringBuilder", "isLatin1", "()Z"⟩
abbrev own_y34 : MethodName := ⟨"java/lang/AbstractStringBuilder", "length", "()I"⟩
abbrev own_y35 : MethodName := ⟨"java/lang/StringBuilder", "length", "()I"⟩
abbrev own_y36 : MethodName := ⟨"java/util/Arrays", "checkLength", "(II)V"⟩
abbrev own_y37 : MethodName := ⟨"java/lang/Math", "min", "(II)I"⟩
abbrev own_y38 : MethodName := ⟨"java/util/Arrays", "copyOfRangeByte", "([BII)[B"⟩
abbrev own_y39 : MethodName := ⟨"java/util/Arrays", "copyOfRange", "([BII)[B"⟩
abbrev own_y40 : MethodName := ⟨"java/lang/String", "<init>", "(Ljava/lang/AbstractStringBuilder;Ljava/lang/Void;)V"⟩
abbrev own_y41 : MethodName := ⟨"java/lang/String", "<init>", "(Ljava/lang/StringBuilder;)V"⟩
abbrev own_y42 : MethodName := ⟨"java/lang/StringBuilder", "toString", "()Ljava/lang/String;"⟩
abbrev own_y43 : MethodName := ⟨"com/example/aduana/aduana/core/AccessDecision", "<init>", "(Ljava/lang/String;Ljava/util/function/Predicate;)V"⟩
abbrev own_y44 : MethodName := ⟨"com/example/aduana/aduana/core/AccessDecision", "toString", "()Ljava/lang/String;"⟩
abbrev own_y45 : MethodName := ⟨"com/example/aduana/aduana/core/Authentication", "getRoles", "()Ljava/util/Set;"⟩
abbrev own_y46 : MethodName := ⟨"java/util/ImmutableCollections$List12", "size", "()I"⟩
abbrev own_y47 : MethodName := ⟨"java/util/ImmutableCollections$List12", "get", "(I)Ljava/lang/Object;"⟩
abbrev own_y48 : MethodName := ⟨"java/util/ImmutableCollections$ListItr", "<init>", "(Ljava/util/List;I)V"⟩
abbrev own_y49 : MethodName := ⟨"java/util/ImmutableCollections$AbstractImmutableList", "size", "()I"⟩
abbrev own_y50 : MethodName := ⟨"java/util/ImmutableCollections$AbstractImmutableList", "iterator", "()Ljava/util/Iterator;"⟩
abbrev own_y51 : MethodName := ⟨"java/util/ImmutableCollections$ListItr", "hasNext", "()Z"⟩
abbrev own_y52 : MethodName := ⟨"java/util/ImmutableCollections$ListItr", "next", "()Ljava/lang/Object;"⟩
abbrev own_y53 : MethodName := ⟨"java/util/ImmutableCollections$SetN", "contains", "(Ljava/lang/Object;)Z"⟩
abbrev own_y54 : MethodName := ⟨"java/util/Iterator", "next", "()Ljava/lang/Object;"⟩
abbrev own_y55 : MethodName := ⟨"java/util/Collections", "disjoint", "(Ljava/util/Collection;Ljava/util/Collection;)Z"⟩
abbrev own_y56 : MethodName := ⟨"com/example/aduana/aduana/core/AccessDecision", "lambda$holdsAnyOf$3", "(Ljava/util/List;Lcom/example/aduana/aduana/core/Authentication;)Z"⟩
abbrev own_y57 : MethodName := ⟨"java/util/ImmutableCollections$Set12", "contains", "(Ljava/lang/Object;)Z"⟩
abbrev own_y58 : MethodName := ⟨"java/util/Collection", "contains", "(Ljava/lang/Object;)Z"⟩
abbrev own_y59 : MethodName := ⟨"com/example/aduana/aduana/core/AccessDecision", "holdsAnyOf", "(Ljava/util/List;)Ljava/util/function/Predicate;"⟩
abbrev own_y60 : MethodName := ⟨"com/example/aduana/aduana/core/Authentication", "<init>", "(Ljava/lang/String;Ljava/util/Set;Z)V"⟩
abbrev own_y61 : MethodName := ⟨"com/example/aduana/aduana/core/Authentication", "<init>", "(Ljava/lang/String;Ljava/util/Set;)V"⟩
abbrev own_y62 : MethodName := ⟨"com/example/aduana/aduana/core/AccessDecision", "hasRole", "(Ljava/lang/String;)Lcom/example/aduana/aduana/core/AccessDecision;"⟩
abbrev own_y63 : MethodName := ⟨"com/example/aduana/aduana/core/AccessDecision", "isGranted", "(Lcom/example/aduana/aduana/core/Authentication;)Z"⟩
abbrev own_y64 : MethodName := ⟨"jdk/internal/util/Preconditions", "checkIndex", "(IILjava/util/function/BiFunction;)I"⟩
abbrev own_y65 : MethodName := ⟨"java/lang/String", "checkIndex", "(II)V"⟩
abbrev own_y66 : MethodName := ⟨"java/lang/String", "isLatin1", "()Z"⟩
abbrev own_y67 : MethodName := ⟨"java/lang/StringLatin1", "charAt", "([BI)C"⟩
abbrev own_y68 : MethodName := ⟨"java/lang/String", "charAt", "(I)C"⟩
set_option maxRecDepth 65536
set_option maxHeartbeats 400000000
section OwnKit
theorem own_w {Z : State} {a0 : Array Value} (hw : ∀ d ∈ tables_1, d.before a0 Z = true) {d : Jvm.Cond} (i : Nat) (h : tables_1[i]? = some d) : d.before a0 Z = true := hw d (List.mem_of_getElem? h)
theorem own_narb (x : Int32) : nar .byte (x.toInt8.toInt32) = x.toInt8.toInt32 := by
  show (x.toInt8.toInt32).toInt8.toInt32 = x.toInt8.toInt32
  rw [Int8.toInt8_toInt32]
theorem own_narc (x : Int32) : nar .char (x.toUInt32.toUInt16.toUInt32.toInt32) = x.toUInt32.toUInt16.toUInt32.toInt32 := by
  show (x.toUInt32.toUInt16.toUInt32.toInt32).toUInt32.toUInt16.toUInt32.toInt32 = _
  have : (x.toUInt32.toUInt16.toUInt32.toInt32).toUInt32 = x.toUInt32.toUInt16.toUInt32 := rfl
  rw [this]
  have : x.toUInt32.toUInt16.toUInt32.toUInt16 = x.toUInt32.toUInt16 := by rw [← UInt16.toNat_inj]; simp
  rw [this]
theorem own_plain {Z : State} {h : Heap} {a : Addr} {C : String} (F : Exa Z h a C) : ∃ c : Cell, h[a]? = some c ∧ c.vm.isStatics = false := by
  obtain ⟨c, _, h1, -, -, h4, -⟩ := F; exact ⟨c, h1, h4⟩
theorem own_plainV {Z : State} {h : Heap} {a : Addr} {k : ClassId} {ty : FieldType} {z : Int32} {vs : List Value} {d : Value} (F : Arv Z h a k ty z vs d) : ∃ c : Cell, h[a]? = some c ∧ c.vm.isStatics = false := by
  obtain ⟨c, A, -⟩ := F; exact ⟨c, A.1, A.plain⟩
theorem own_Sta_keep {Z : State} {h h' : Heap} {C n d : String} {v : Value} {ws : List Addr} (F : Sta Z h C n d v) (K : Keep h h' ws) (q : ∀ a ∈ ws, ∃ c : Cell, h[a]? = some c ∧ c.vm.isStatics = false) : Sta Z h' C n d v := by
  obtain ⟨cf, i, k, f, st, cell, h1, h2, h3, h4, h5, h6, h7⟩ := F
  have ne : st ∉ ws := fun hm => by
    obtain ⟨c, g1, g2⟩ := q st hm
    cases h5.symm.trans g1
    rw [h6] at g2; cases g2
  exact ⟨cf, i, k, f, st, cell, h1, h2, h3, h4, K.2.1 _ _ h5 ne, h6, h7⟩
theorem own_NSroot {Z : State} {a0 : Array Value} {O K : String} {j : Nat} (w : (Cond.noSuperclass O).before a0 Z = true) (wk : (Cond.instantiable K j).before a0 Z = true) (hn : O ≠ K) : NS Z O K := by
  obtain ⟨c, k, h1, h2, h3, -⟩ := Cond.noSuperclass_spec w
  obtain ⟨t, kt, g1, -⟩ := Cond.instantiable_spec wk
  refine ⟨c, t, h1, g1, fun fuel => ?_⟩
  cases fuel with
  | zero => rfl
  | succ f => simp [Vm.isSubclassAux, ids_ne h1 g1 hn, h2, h3]
theorem own_NSno {Z : State} {a0 : Array Value} {C S K : String} {j : Nat} (w : (Cond.superclass C S).before a0 Z = true) (wk : (Cond.instantiable K j).before a0 Z = true) (q : NS Z C K) (hn : C ≠ K) : ∃ c t, Z.vm.findClass C = some c ∧ Z.vm.findClass K = some t ∧ Z.vm.assignable c t = false := by
  obtain ⟨c, t, h0, g0, n3⟩ := q
  obtain ⟨_, k, _, _, h2, _, _, h5, -⟩ := Cond.superclass_spec h0 w
  obtain ⟨t', kt, g1, g2, g5, g7, -⟩ := Cond.instantiable_spec wk
  cases g0.symm.trans g1
  have g8 : kt.isInterface = false := by simpa using (Bool.or_eq_false_iff.mp g7).1
  refine ⟨c, t, h0, g0, ?_⟩
  show Z.vm.assignableAux (255 + 1) c t = false
  simp [Vm.assignableAux, ids_ne h0 g0 hn, h2, g2, h5, g5, g8, Vm.isSubclass, n3]
theorem own_hc {T : State} {h : Heap} {a : Addr} {c : Cell} (e : T.heap = h) (q : h[a]? = some c) : T.heap[a]? = some c := by subst e; exact q
theorem own_nf {s : State} {args : Array Value} {y y' : MethodName} (w' : (Cond.instanceMethod y').before args s = true) (nf : NotFace s y') (hc : y'.cls = y.cls) : NotFace s y := fun r0 h0 => by
  obtain ⟨mk', _, hn', -⟩ := Cond.instanceMethod_spec w'
  obtain ⟨k, hk, hi⟩ := nf _ hn'
  have h1 := findClass_of_methodNamed h0
  have h2 := findClass_of_methodNamed hn'
  rw [hc, h1] at h2
  exact ⟨k, by rw [Option.some.inj h2]; exact hk, hi⟩
theorem own_same {Z : State} {a0 : Array Value} {y y' : MethodName} (w : (Cond.instanceMethod y).before a0 Z = true) (w' : (Cond.instanceMethod y').before a0 Z = true) (nf : NotFace Z y') (hc : y'.cls = y.cls) (hp : y.cls ≠ "java/lang/invoke/MethodHandle" ∧ y.cls ≠ "java/lang/invoke/VarHandle") : (Cond.sameMethod y.cls y.cls y.name y.desc).before a0 Z = true := by
  obtain ⟨mk, methM, hn, -⟩ := Cond.instanceMethod_spec w
  obtain ⟨mk', methM', hn', -⟩ := Cond.instanceMethod_spec w'
  have hf := State.methodFound?_of_named hn hp
  have hc1 := findClass_of_methodNamed hn
  have hc2 := findClass_of_methodNamed hn'
  rw [hc, hc1] at hc2
  obtain ⟨k, hk, hi⟩ := nf _ hn'
  rw [← Option.some.inj hc2] at hk
  simp [Cond.before, Cond.holds, Cond.value, hc1, hf, hn, hk, hi]
def own_b (P : Prop) [Decidable P] : Int32 := if P then 1 else 0
theorem own_b1 {P : Prop} [Decidable P] (h : P) : own_b P = 1 := if_pos h
theorem own_b0 {P : Prop} [Decidable P] (h : ¬ P) : own_b P = 0 := if_neg h
variable {p : Program} {l : Launch} {e : Env} {R : Room} {s : State} {m : MethodId} {args : Array Value} {below : List Frame} {meth : Method} {c : Code} {T : State} {locs : List Loc} {cells slots : Nat}
def own_F (p : Program) (e : Env) (below : List Frame) (P : Option Value → Outcome → State → List Loc → Prop) (A : State) : Prop := ∃ s₂ o, Steps p.tables e below A s₂ ∧ s₂.status = .running ∧ Ended s₂ below o ∧ ∃ v L, o = .returned v ∧ P v o s₂ L
abbrev own_Fin (p : Program) (e : Env) (below : List Frame) (s : State) (Q : Option Value → Heap → List Loc → Prop) (k n : Nat) (A : State) : Prop := own_F p e below (fun v o s₂ L => Q v s₂.heap L ∧ FrameEnd s o s₂ L k n) A
theorem own_go {P : Option Value → Outcome → State → List Loc → Prop} {A B : State} (h : ∀ t, Steps p.tables e below B t → Steps p.tables e below A t) (q : own_F p e below P B) : own_F p e below P A := by
  obtain ⟨s₂, o, h1, h2⟩ := q
  exact ⟨s₂, o, h _ h1, h2⟩
theorem own_retN {Q : Option Value → Heap → List Loc → Prop} {k n : Nat} (X : Stand p l e R s m args below meth c T locs cells slots) (hx : p.tables.exec = Jvm.exec) (hlk : meth.locks = false) {pc : Nat} {Ls : Array Slot} {z w : Int32} {t : FieldType} {rest : List Value} (hret : meth.sig.returnType = some t) (ht : t = .boolean ∨ t = .byte ∨ t = .char ∨ t = .short)
    (hd : decode c.code pc = .ok (.ireturn, 1)) {h : Heap} (eT : T.heap = h) (hz : nar t z = w) (hQ : Q (some (.int w)) h locs) (hk : cells ≤ k) (hn : slots ≤ n) : own_Fin p e below s Q k n (T.setTop (mkF m pc Ls (.int z :: rest))) := by
  subst hz eT
  obtain ⟨fs, hr, hrun, hended, hW, hsame⟩ := X.leave (v := some (.int (nar t z))) (fun h => by rw [hret] at h; cases h) hlk
  exact ⟨_, _, retN X hx hret ht hd hr, hrun, hended, _, _, rfl, hQ, ⟨_, rfl⟩, hW, hsame.mono hk hn⟩
theorem own_retI {Q : Option Value → Heap → List Loc → Prop} {k n : Nat} (X : Stand p l e R s m args below meth c T locs cells slots) (hx : p.tables.exec = Jvm.exec) (hlk : meth.locks = false) {pc : Nat} {Ls : Array Slot} {z : Int32} {rest : List Value} (hret : meth.sig.returnType = some .int)
    (hd : decode c.code pc = .ok (.ireturn, 1)) {h : Heap} (eT : T.heap = h) (hQ : Q (some (.int z)) h locs) (hk : cells ≤ k) (hn : slots ≤ n) : own_Fin p e below s Q k n (T.setTop (mkF m pc Ls (.int z :: rest))) := by
  subst eT
  obtain ⟨fs, hr, hrun, hended, hW, hsame⟩ := X.leave (v := some (.int z)) (fun h => by rw [hret] at h; cases h) hlk
  exact ⟨_, _, retOut X hx hret rfl (Or.inl ⟨rfl, Or.inl rfl, z, rfl⟩) hd hr, hrun, hended, _, _, rfl, hQ, ⟨_, rfl⟩, hW, hsame.mono hk hn⟩
theorem own_retJ {Q : Option Value → Heap → List Loc → Prop} {k n : Nat} (X : Stand p l e R s m args below meth c T locs cells slots) (hx : p.tables.exec = Jvm.exec) (hlk : meth.locks = false) {pc : Nat} {Ls : Array Slot} {z : Int64} {rest : List Value} (hret : meth.sig.returnType = some .long)
    (hd : decode c.code pc = .ok (.lreturn, 1)) {h : Heap} (eT : T.heap = h) (hQ : Q (some (.long z)) h locs) (hk : cells ≤ k) (hn : slots ≤ n) : own_Fin p e below s Q k n (T.setTop (mkF m pc Ls (.long z :: rest))) := by
  subst eT
  obtain ⟨fs, hr, hrun, hended, hW, hsame⟩ := X.leave (v := some (.long z)) (fun h => by rw [hret] at h; cases h) hlk
  exact ⟨_, _, retOut X hx hret rfl (Or.inr (Or.inl ⟨rfl, rfl, z, rfl⟩)) hd hr, hrun, hended, _, _, rfl, hQ, ⟨_, rfl⟩, hW, hsame.mono hk hn⟩
theorem own_retD {Q : Option Value → Heap → List Loc → Prop} {k n : Nat} (X : Stand p l e R s m args below meth c T locs cells slots) (hx : p.tables.exec = Jvm.exec) (hlk : meth.locks = false) {pc : Nat} {Ls : Array Slot} {z : UInt64} {rest : List Value} (hret : meth.sig.returnType = some .double)
    (hd : decode c.code pc = .ok (.dreturn, 1)) {h : Heap} (eT : T.heap = h) (hQ : Q (some (.double z)) h locs) (hk : cells ≤ k) (hn : slots ≤ n) : own_Fin p e below s Q k n (T.setTop (mkF m pc Ls (.double z :: rest))) := by
  subst eT
  obtain ⟨fs, hr, hrun, hended, hW, hsame⟩ := X.leave (v := some (.double z)) (fun h => by rw [hret] at h; cases h) hlk
  exact ⟨_, _, retOut X hx hret rfl (Or.inr (Or.inr (Or.inl ⟨rfl, rfl, z, rfl⟩))) hd hr, hrun, hended, _, _, rfl, hQ, ⟨_, rfl⟩, hW, hsame.mono hk hn⟩
theorem own_retA {Q : Option Value → Heap → List Loc → Prop} {k n : Nat} (X : Stand p l e R s m args below meth c T locs cells slots) (hx : p.tables.exec = Jvm.exec) (hlk : meth.locks = false) {pc : Nat} {Ls : Array Slot} {w : Value} {t : FieldType} {rest : List Value} (hret : meth.sig.returnType = some t) (ht : t.isReference = true) (hw : w.isRef = true)
    (hd : decode c.code pc = .ok (.areturn, 1)) {h : Heap} (eT : T.heap = h) (hQ : Q (some w) h locs) (hk : cells ≤ k) (hn : slots ≤ n) : own_Fin p e below s Q k n (T.setTop (mkF m pc Ls (w :: rest))) := by
  subst eT
  obtain ⟨fs, hr, hrun, hended, hW, hsame⟩ := X.leave (v := some w) (fun h => by rw [hret] at h; cases h) hlk
  have hnw : narrow t w = w := by
    rcases ref_cases hw with rfl | ⟨z, rfl⟩ <;> cases t <;> first | rfl | (cases ht; done)
  exact ⟨_, _, retOut X hx hret hnw (Or.inr (Or.inr (Or.inr (Or.inr ⟨rfl, ht, hw⟩)))) hd hr, hrun, hended, _, _, rfl, hQ, ⟨_, rfl⟩, hW, hsame.mono hk hn⟩
theorem own_retV {Q : Option Value → Heap → List Loc → Prop} {k n : Nat} (X : Stand p l e R s m args below meth c T locs cells slots) (hx : p.tables.exec = Jvm.exec) (hlk : meth.locks = false) {pc : Nat} {Ls : Array Slot} (hret : meth.sig.returnType = none)
    (hd : decode c.code pc = .ok (.return_, 1)) {h : Heap} (eT : T.heap = h) (hQ : Q none h locs) (hk : cells ≤ k) (hn : slots ≤ n) : own_Fin p e below s Q k n (T.setTop (mkF m pc Ls [])) := by
  subst eT
  obtain ⟨fs, hr, hrun, hended, hW, hsame⟩ := X.leave (v := none) (fun _ => rfl) hlk
  exact ⟨_, _, X.returnOut hx hret hd hr, hrun, hended, _, _, rfl, hQ, ⟨_, rfl⟩, hW, hsame.mono hk hn⟩
abbrev own_MF (l : Launch) (y : MethodName) (w : Jvm.Cond) (ws : List Jvm.Cond) (rm : Room) (as' : Array Value) (Z : State) (h0 : Heap) (Q : Option Value → Heap → List Loc → Prop) : Prop := MetFree l y (head1 (w :: ws) rm) (fun a U => a = as' ∧ Z.Warmed39 U.vm ∧ U.heap = h0) (fun _ _ _ _ _ => True) (fun _ U o U' => ∃ v L, o = .returned v ∧ Q v U'.heap L ∧ FrameEnd U o U' L rm.cells rm.slots)
theorem own_begin {y : MethodName} {bytes : ByteArray} {maxL : Nat} {ret : Option FieldType} {ws : List Jvm.Cond} {rm : Room} {as' : Array Value} {Z : State} {h0 : Heap} {Q : Option Value → Heap → List Loc → Prop} {L0 : Array Slot} (hp : plainFor y = true) (hef : ∀ m, entryFrame m as' maxL = mkF m 0 L0 [])
    (k : ∀ (p : Program) (e : Env) (s : State) (m : MethodId) (below : List Frame) (meth : Method) (c : Code) (s₁ : State), p.tables.exec = Jvm.exec → c.code = bytes → c.maxLocals = maxL → s.vm.findClass y.cls = some m.cls → meth.name = y.name → meth.locks = false → meth.sig.returnType = ret → Z.Warmed39 s.vm → Stand p l e rm s m as' below meth c s₁ [] 0 0 → s₁.heap = h0 → own_Fin p e below s Q rm.cells rm.slots (s₁.setTop (mkF m 0 L0 []))) : own_MF l y (Cond.code y bytes maxL ret) ws rm as' Z h0 Q := by
  refine MetFree.of_bodySF hp hisR ?_
  intro p e s m args below meth c s₁ Bd hml hP hK
  obtain ⟨rfl, hZ, hh⟩ := hP
  have := k p e s m below meth c s₁ Bd.exec Bd.bytes hml (findClass_of_methodNamed Bd.named) (name_of_methodNamed Bd.named Bd.method).1 Bd.notSynchronized Bd.returns hZ (Stand.of_body Bd) (by rw [← hh, Bd.state]; rfl)
  exact own_go (fun _ q => castTop (hef m) q) this
theorem own_beginW {y : MethodName} {bytes : ByteArray} {maxL : Nat} {ret : Option FieldType} {hs : List (Nat × Nat × Nat × Nat)} {ws : List Jvm.Cond} {rm : Room} {as' : Array Value} {Z : State} {h0 : Heap} {Q : Option Value → Heap → List Loc → Prop} {L0 : Array Slot} (hp : plainFor y = true) (hef : ∀ m, entryFrame m as' maxL = mkF m 0 L0 [])
    (k : ∀ (p : Program) (e : Env) (s : State) (m : MethodId) (below : List Frame) (meth : Method) (c : Code) (s₁ : State), p.tables.exec = Jvm.exec → c.code = bytes → c.maxLocals = maxL → s.vm.findClass y.cls = some m.cls → meth.name = y.name → meth.locks = false → meth.sig.returnType = ret → Z.Warmed39 s.vm → Stand p l e rm s m as' below meth c s₁ [] 0 0 → s₁.heap = h0 → own_Fin p e below s Q rm.cells rm.slots (s₁.setTop (mkF m 0 L0 []))) : own_MF l y (Cond.codeWith y bytes maxL ret hs) ws rm as' Z h0 Q := by
  refine MetFree.of_bodySF hp hisWith ?_
  intro p e s m args below meth c s₁ Bd hml hP hK
  obtain ⟨rfl, hZ, hh⟩ := hP
  have := k p e s m below meth c s₁ Bd.exec Bd.bytes hml (findClass_of_methodNamed Bd.named) (name_of_methodNamed Bd.named Bd.method).1 Bd.notSynchronized Bd.returns hZ (Stand.of_body Bd) (by rw [← hh, Bd.state]; rfl)
  exact own_go (fun _ q => castTop (hef m) q) this
abbrev own_EL : List (String × Nat) := [("com/example/aduana/aduana/core/AccessDecision", 30), ("com/example/aduana/aduana/core/AccessDecisionHasRolePinLaw", 51)]
theorem own_ELok {Z : State} {a0 : Array Value} (hw : ∀ d ∈ tables_1, d.before a0 Z = true) : EW Z a0 own_EL := (EW.cons (own_w hw 123 rfl) (by decide) (EW.cons (own_w hw 366 rfl) (by decide) EW.nil))
abbrev own_FinW (p : Program) (e : Env) (below : List Frame) (s : State) (Q : Option Value → Heap → List Loc → Prop) (k n : Nat) (A : State) : Prop := own_F p e below (fun v o s₂ L => Q v s₂.heap L ∧ ReturnedEndW s o s₂ L k n) A
theorem own_endW {t : State} {o : Outcome} {L : List Loc} {k n k' n' : Nat} (h : ReturnedEndW s o t L k n) (hk : k ≤ k') (hn : n ≤ n') : ReturnedEndW s o t L k' n' := ⟨h.1, h.2.1, h.2.2.1, h.2.2.2.mono hk hn⟩
theorem own_retNW {vm0 : Vm} {k0 : Nat} {Q : Option Value → Heap → List Loc → Prop} {k n : Nat} (X : Stand p l e R (s.setVm vm0) m args below meth c T locs cells slots) (hx : p.tables.exec = Jvm.exec) (hS : s.Since vm0 k0) (hlk : meth.locks = false) {pc : Nat} {Ls : Array Slot} {z w : Int32} {t : FieldType} {rest : List Value} (hret : meth.sig.returnType = some t) (ht : t = .boolean ∨ t = .byte ∨ t = .char ∨ t = .short)
    (hd : decode c.code pc = .ok (.ireturn, 1)) {h : Heap} (eT : T.heap = h) (hb : k0 ≤ h.size) (hz : nar t z = w) (hQ : Q (some (.int w)) h locs) (hk : cells ≤ k) (hn : slots ≤ n) : own_FinW p e below s Q k n (T.setTop (mkF m pc Ls (.int z :: rest))) := by
  subst hz eT
  obtain ⟨fs, hr, hrun, hended, hE⟩ := X.leaveW hS hb (v := some (.int (nar t z))) (fun h => by rw [hret] at h; cases h) hlk
  exact ⟨_, _, retN X hx hret ht hd hr, hrun, hended, _, _, rfl, hQ, own_endW hE hk hn⟩
theorem own_retOW {vm0 : Vm} {k0 : Nat} {Q : Option Value → Heap → List Loc → Prop} {k n : Nat} (X : Stand p l e R (s.setVm vm0) m args below meth c T locs cells slots) (hx : p.tables.exec = Jvm.exec) (hS : s.Since vm0 k0) (hlk : meth.locks = false) {pc : Nat} {Ls : Array Slot} {w : Value} {t : FieldType} {i : Instr} {rest : List Value} (hret : meth.sig.returnType = some t) (hnw : narrow t w = w)
    (hi : (i = .ireturn ∧ (t = .int ∨ t = .boolean ∨ t = .byte ∨ t = .char ∨ t = .short) ∧ ∃ z, w = .int z) ∨ (i = .lreturn ∧ t = .long ∧ ∃ z, w = .long z) ∨ (i = .dreturn ∧ t = .double ∧ ∃ z, w = .double z) ∨ (i = .freturn ∧ t = .float ∧ ∃ z, w = .float z) ∨ (i = .areturn ∧ t.isReference = true ∧ w.isRef = true))
    (hd : decode c.code pc = .ok (i, 1)) {h : Heap} (eT : T.heap = h) (hb : k0 ≤ h.size) (hQ : Q (some w) h locs) (hk : cells ≤ k) (hn : slots ≤ n) : own_FinW p e below s Q k n (T.setTop (mkF m pc Ls (w :: rest))) := by
  subst eT
  obtain ⟨fs, hr, hrun, hended, hE⟩ := X.leaveW hS hb (v := some w) (fun h => by rw [hret] at h; cases h) hlk
  exact ⟨_, _, retOut X hx hret hnw hi hd hr, hrun, hended, _, _, rfl, hQ, own_endW hE hk hn⟩
theorem own_retVW {vm0 : Vm} {k0 : Nat} {Q : Option Value → Heap → List Loc → Prop} {k n : Nat} (X : Stand p l e R (s.setVm vm0) m args below meth c T locs cells slots) (hx : p.tables.exec = Jvm.exec) (hS : s.Since vm0 k0) (hlk : meth.locks = false) {pc : Nat} {Ls : Array Slot} (hret : meth.sig.returnType = none)
    (hd : decode c.code pc = .ok (.return_, 1)) {h : Heap} (eT : T.heap = h) (hb : k0 ≤ h.size) (hQ : Q none h locs) (hk : cells ≤ k) (hn : slots ≤ n) : own_FinW p e below s Q k n (T.setTop (mkF m pc Ls [])) := by
  subst eT
  obtain ⟨fs, hr, hrun, hended, hE⟩ := X.leaveW hS hb (v := none) (fun _ => rfl) hlk
  exact ⟨_, _, X.returnOut hx hret hd hr, hrun, hended, _, _, rfl, hQ, own_endW hE hk hn⟩
theorem own_safeV {Z : State} {EL : List (String × Nat)} {vm : Vm} {h : Heap} {a : Addr} {k : ClassId} {ty : FieldType} {z : Int32} {vs : List Value} {d : Value} (hal : Z.vm.Alike vm) (F : Arv Z h a k ty z vs d) (ht : ty ≠ .byte) : Safe Z EL vm h a := by obtain ⟨c, A, -⟩ := F; exact Safe.arr hal A ht
abbrev own_FinH (Z : State) (p : Program) (e : Env) (below : List Frame) (s : State) (Q : Option Value → Heap → List Loc → Prop) (k n : Nat) (A : State) : Prop := own_F p e below (fun v o s₂ L => Q v s₂.heap L ∧ CHr Z own_EL s.vm s.heap s₂.vm s₂.heap ∧ ReturnedEndW s o s₂ L k n) A
section
variable {Z : State} {a0 : Array Value} {vm0 : Vm} {k0 : Nat} {Q : Option Value → Heap → List Loc → Prop} {k n : Nat} {h0 h : Heap}
theorem own_retNH (X : Stand p l e R (s.setVm vm0) m args below meth c T locs cells slots) (hx : p.tables.exec = Jvm.exec) (hS : s.Since vm0 k0) (hlk : meth.locks = false) (hEL : EW Z a0 own_EL) (hZ : Z.Warmed39 vm0) (hh : s.heap = h0) (hC : CHr Z own_EL s.vm h0 vm0 h) {pc : Nat} {Ls : Array Slot} {z w : Int32} {t : FieldType} {rest : List Value} (hret : meth.sig.returnType = some t) (ht : t = .boolean ∨ t = .byte ∨ t = .char ∨ t = .short)
    (hd : decode c.code pc = .ok (.ireturn, 1)) (eT : T.heap = h) (hb : k0 ≤ h.size) (hz : nar t z = w) (hQ : Q (some (.int w)) h locs) (hk : cells ≤ k) (hn : slots ≤ n) : own_FinH Z p e below s Q k n (T.setTop (mkF m pc Ls (.int z :: rest))) := by
  subst hz eT hh
  obtain ⟨fs, hr, hrun, hended, hE⟩ := X.leaveW hS hb (v := some (.int (nar t z))) (fun h => by rw [hret] at h; cases h) hlk
  exact ⟨_, _, retN X hx hret ht hd hr, hrun, hended, _, _, rfl, hQ, hC.trans (show CHr Z own_EL vm0 T.heap T.vm T.heap from CHv.at X hZ hEL hC.1), own_endW hE hk hn⟩
theorem own_retOH (X : Stand p l e R (s.setVm vm0) m args below meth c T locs cells slots) (hx : p.tables.exec = Jvm.exec) (hS : s.Since vm0 k0) (hlk : meth.locks = false) (hEL : EW Z a0 own_EL) (hZ : Z.Warmed39 vm0) (hh : s.heap = h0) (hC : CHr Z own_EL s.vm h0 vm0 h) {pc : Nat} {Ls : Array Slot} {w : Value} {t : FieldType} {i : Instr} {rest : List Value} (hret : meth.sig.returnType = some t) (hnw : narrow t w = w)
    (hi : (i = .ireturn ∧ (t = .int ∨ t = .boolean ∨ t = .byte ∨ t = .char ∨ t = .short) ∧ ∃ z, w = .int z) ∨ (i = .lreturn ∧ t = .long ∧ ∃ z, w = .long z) ∨ (i = .dreturn ∧ t = .double ∧ ∃ z, w = .double z) ∨ (i = .freturn ∧ t = .float ∧ ∃ z, w = .float z) ∨ (i = .areturn ∧ t.isReference = true ∧ w.isRef = true))
    (hd : decode c.code pc = .ok (i, 1)) (eT : T.heap = h) (hb : k0 ≤ h.size) (hQ : Q (some w) h locs) (hk : cells ≤ k) (hn : slots ≤ n) : own_FinH Z p e below s Q k n (T.setTop (mkF m pc Ls (w :: rest))) := by
  subst eT hh
  obtain ⟨fs, hr, hrun, hended, hE⟩ := X.leaveW hS hb (v := some w) (fun h => by rw [hret] at h; cases h) hlk
  exact ⟨_, _, retOut X hx hret hnw hi hd hr, hrun, hended, _, _, rfl, hQ, hC.trans (show CHr Z own_EL vm0 T.heap T.vm T.heap from CHv.at X hZ hEL hC.1), own_endW hE hk hn⟩
theorem own_retVH (X : Stand p l e R (s.setVm vm0) m args below meth c T locs cells slots) (hx : p.tables.exec = Jvm.exec) (hS : s.Since vm0 k0) (hlk : meth.locks = false) (hEL : EW Z a0 own_EL) (hZ : Z.Warmed39 vm0) (hh : s.heap = h0) (hC : CHr Z own_EL s.vm h0 vm0 h) {pc : Nat} {Ls : Array Slot} (hret : meth.sig.returnType = none)
    (hd : decode c.code pc = .ok (.return_, 1)) (eT : T.heap = h) (hb : k0 ≤ h.size) (hQ : Q none h locs) (hk : cells ≤ k) (hn : slots ≤ n) : own_FinH Z p e below s Q k n (T.setTop (mkF m pc Ls [])) := by
  subst eT hh
  obtain ⟨fs, hr, hrun, hended, hE⟩ := X.leaveW hS hb (v := none) (fun _ => rfl) hlk
  exact ⟨_, _, X.returnOut hx hret hd hr, hrun, hended, _, _, rfl, hQ, hC.trans (show CHr Z own_EL vm0 T.heap T.vm T.heap from CHv.at X hZ hEL hC.1), own_endW hE hk hn⟩
end
end OwnKit
abbrev own_HW (a0 : Array Value) (Z : State) : Prop := ∀ d ∈ tables_1, d.before a0 Z = true
theorem own_HW.w {a0 : Array Value} {Z : State} (hw : own_HW a0 Z) {d : Jvm.Cond} (k : Nat) (h : tables_1[k]? = some d) : d.before a0 Z = true := own_w hw k h
abbrev own_D (b : ByteArray) (n : Nat) (i : Instr) (k : Nat) : Prop := decode b n = .ok (i, k)
abbrev nn0_ : String := "java/lang/Object"
abbrev nn1_ : String := "java/util/ImmutableCollections$Set12"
abbrev nn2_ : String := "java/util/ImmutableCollections$List12"
abbrev nn3_ : String := "java/lang/String"
abbrev nn4_ : String := "java/util/ImmutableCollections$SetN"
abbrev nn5_ : String := "java/lang/StringBuilder"
abbrev nn6_ : String := "com/example/aduana/aduana/core/AccessDecision"
abbrev nn7_ : String := "java/util/ImmutableCollections$ListItr"
abbrev nn8_ : String := "com/example/aduana/aduana/core/Authentication"
abbrev nn9_ : String := "Ljava/lang/Object;"
abbrev nn10_ : String := "java/lang/AbstractStringBuilder"
abbrev nn11_ : String := "Ljava/lang/String;"
abbrev nn12_ : String := "Ljava/util/function/Predicate;"
abbrev nn13_ : String := "Ljava/util/Set;"
abbrev nn14_ : String := "Ljava/util/List;"
abbrev nn15_ : String := "java/util/ImmutableCollections"
abbrev nn16_ : String := "COMPACT_STRINGS"
abbrev nn17_ : String := "EMPTY_SET"
abbrev nn18_ : String := "Ljava/util/ImmutableCollections$SetN;"
abbrev nn19_ : String := "ANONYMOUS"
abbrev nn20_ : String := "Lcom/example/aduana/aduana/core/Authentication;"
abbrev nn21_ : String := "jdk/internal/util/Preconditions"
abbrev nn22_ : String := "SIOOBE_FORMATTER"
abbrev nn23_ : String := "Ljava/util/function/BiFunction;"
abbrev Sr (a : Addr) : Slot := .val (.ref a)
abbrev Si (n : Int32) : Slot := .val (.int n)
abbrev Su : Slot := .unset
abbrev cd11 := jdk_22_method_1_code
abbrev cd10 := jdk_47_method_1_code
abbrev cd9 := jdk_100_method_1_code
abbrev cd41 := jdk_46_method_1_code
abbrev cd12 := jdk_31_method_10_code
abbrev cd15 := jdk_31_method_11_code
abbrev cd8 := jdk_101_method_1_code
abbrev cd7 := jdk_96_method_18_code
abbrev cd40 := jdk_44_method_1_code
abbrev cd39 := jdk_40_method_37_code
abbrev cd5 := jdk_52_method_21_code
abbrev cd4 := jdk_52_method_16_code
abbrev cd6 := jdk_52_method_15_code
abbrev cd2 := jdk_42_method_149_code
abbrev cd1 := jdk_42_method_3_code
abbrev cd23 := jdk_42_method_152_code
abbrev cd22 := jdk_42_method_54_code
abbrev cd56 := jdk_43_method_13_code
abbrev cd55 := jdk_42_method_66_code
abbrev cd65 := jdk_101_method_2_code
abbrev cd64 := jdk_96_method_19_code
abbrev cd68 := jdk_96_method_17_code
abbrev cd66 := prog_11_method_3_code
abbrev cd16 := jdk_96_method_29_code
abbrev cd19 := jdk_68_method_2_code
abbrev cd18 := jdk_67_method_1_code
abbrev cd26 := jdk_68_method_71_code
abbrev cd27 := jdk_42_method_147_code
abbrev cd24 := jdk_68_method_9_code
abbrev cd25 := jdk_68_method_73_code
abbrev cd21 := jdk_68_method_22_code
abbrev cd20 := jdk_67_method_7_code
abbrev cd31 := jdk_68_method_64_code
abbrev cd34 := jdk_68_method_68_code
abbrev cd33 := jdk_68_method_6_code
abbrev cd32 := jdk_67_method_93_code
abbrev cd37 := jdk_65_method_131_code
abbrev cd38 := jdk_29_method_69_code
abbrev cd36 := jdk_65_method_133_code
abbrev cd35 := jdk_65_method_132_code
abbrev cd30 := jdk_42_method_150_code
abbrev cd29 := jdk_42_method_53_code
abbrev cd28 := jdk_67_method_42_code
abbrev cd43 := prog_8_method_1_code
abbrev cd58 := prog_8_method_8_code
abbrev cd46 := prog_11_method_5_code
abbrev cd49 := jdk_44_method_3_code
abbrev cd53 := jdk_44_method_5_code
abbrev cd50 := jdk_53_method_1_code
abbrev cd48 := jdk_46_method_10_code
abbrev cd51 := jdk_53_method_3_code
abbrev cd52 := jdk_53_method_4_code
abbrev cd67 := jdk_132_method_4_code
abbrev cd47 := jdk_79_method_83_code
abbrev cd45 := prog_8_method_10_code
abbrev cd54 := jdk_101_method_5_code
abbrev cd42 := prog_8_method_9_code
abbrev cd14 := prog_11_method_2_code
abbrev cd13 := prog_11_method_1_code
abbrev cd17 := prog_8_method_5_code
abbrev cd44 := prog_8_method_7_code
abbrev cd63 := jdk_41_method_11_code
abbrev cd62 := jdk_42_method_155_code
abbrev cd60 := jdk_42_method_154_code
abbrev cd61 := jdk_43_method_2_code
abbrev cd59 := jdk_42_method_56_code
theorem own_strs : ∀ d ∈ Bundle.stringAtoms, d ∈ tables_1 := by
  intro d hd
  simp only [Bundle.stringAtoms, List.mem_cons, List.not_mem_nil, or_false] at hd
  rcases hd with rfl | rfl | rfl | rfl | rfl | rfl | rfl
  · exact List.mem_of_getElem? (i := 2) rfl
  · exact List.mem_of_getElem? (i := 1) rfl
  · exact List.mem_of_getElem? (i := 19) rfl
  · exact List.mem_of_getElem? (i := 29) rfl
  · exact List.mem_of_getElem? (i := 27) rfl
  · exact List.mem_of_getElem? (i := 81) rfl
  · exact List.mem_of_getElem? (i := 82) rfl
section OwnNums
theorem own_iushr (x : Int32) {n : UInt32} {k : Nat} (hn : n.toNat = k) (h0 : 0 < k) (hk : k < 32) : ((x.toUInt32 >>> n).toInt32).toInt = (x.toInt % 4294967296) / 2 ^ k := by
  have e2 : ((x.toUInt32 >>> n).toInt32).toBitVec.toNat = x.toBitVec.toNat / 2 ^ k := by
    simp only [UInt32.toBitVec_toInt32, UInt32.toBitVec_shiftRight, Int32.toBitVec_toUInt32]
    simp [BitVec.toNat_ushiftRight, Nat.shiftRight_eq_div_pow, hn, Nat.mod_eq_of_lt hk]
  have hb := x.toBitVec.isLt
  have hp : 2 ^ 1 ≤ 2 ^ k := Nat.pow_le_pow_right (by decide) h0
  have hle : x.toBitVec.toNat / 2 ^ k ≤ x.toBitVec.toNat / 2 ^ 1 := Nat.div_le_div_left hp (by decide)
  have e3 : ((x.toUInt32 >>> n).toInt32).toInt = ((x.toBitVec.toNat / 2 ^ k : Nat) : Int) := by
    have : ((x.toUInt32 >>> n).toInt32).toInt = ((x.toUInt32 >>> n).toInt32).toBitVec.toInt := rfl
    rw [this, BitVec.toInt_eq_toNat_cond, e2, if_pos (by omega)]
  have e4 : x.toInt % 4294967296 = (x.toBitVec.toNat : Int) := by
    have : x.toInt = x.toBitVec.toInt := rfl
    rw [this, BitVec.toInt_eq_toNat_cond]
    split <;> omega
  rw [e3, e4, Int.natCast_ediv, Int.natCast_pow]
  rfl
theorem own_lushr (x : Int64) {n : UInt64} {k : Nat} (hn : n.toNat = k) (h0 : 0 < k) (hk : k < 64) : ((x.toUInt64 >>> n).toInt64).toInt = (x.toInt % 18446744073709551616) / 2 ^ k := by
  have e2 : ((x.toUInt64 >>> n).toInt64).toBitVec.toNat = x.toBitVec.toNat / 2 ^ k := by
    simp only [UInt64.toBitVec_toInt64, UInt64.toBitVec_shiftRight, Int64.toBitVec_toUInt64]
    simp [BitVec.toNat_ushiftRight, Nat.shiftRight_eq_div_pow, hn, Nat.mod_eq_of_lt hk]
  have hb := x.toBitVec.isLt
  have hp : 2 ^ 1 ≤ 2 ^ k := Nat.pow_le_pow_right (by decide) h0
  have hle : x.toBitVec.toNat / 2 ^ k ≤ x.toBitVec.toNat / 2 ^ 1 := Nat.div_le_div_left hp (by decide)
  have e3 : ((x.toUInt64 >>> n).toInt64).toInt = ((x.toBitVec.toNat / 2 ^ k : Nat) : Int) := by
    have : ((x.toUInt64 >>> n).toInt64).toInt = ((x.toUInt64 >>> n).toInt64).toBitVec.toInt := rfl
    rw [this, BitVec.toInt_eq_toNat_cond, e2, if_pos (by omega)]
  have e4 : x.toInt % 18446744073709551616 = (x.toBitVec.toNat : Int) := by
    have : x.toInt = x.toBitVec.toInt := rfl
    rw [this, BitVec.toInt_eq_toNat_cond]
    split <;> omega
  rw [e3, e4, Int.natCast_ediv, Int.natCast_pow]
  rfl
theorem own_l2i (x : Int64) : (x.toInt32.toInt - x.toInt) % 4294967296 = 0 := by rw [Int64.toInt_toInt32]; exact bm32 _
theorem own_div32 {x y : Int32} (hx : 0 ≤ x.toInt) (hy : 0 < y.toInt) : (x / y).toInt = x.toInt / y.toInt := by
  rw [Jvm.Kit.i32_div (by omega), Int.tdiv_eq_ediv_of_nonneg hx]
theorem own_div64 {x y : Int64} (hx : 0 ≤ x.toInt) (hy : 0 < y.toInt) : (x / y).toInt = x.toInt / y.toInt := by
  rw [Jvm.Kit.i64_div (by omega), Int.tdiv_eq_ediv_of_nonneg hx]
theorem own_i2c (x : Int32) : (x.toUInt32.toUInt16.toUInt32.toInt32).toInt = x.toInt % 65536 := by
  have e2 : (x.toUInt32.toUInt16.toUInt32.toInt32).toBitVec.toNat = x.toBitVec.toNat % 65536 := by
    show (x.toUInt32.toUInt16.toUInt32).toNat = _
    simp
    rfl
  have hb := x.toBitVec.isLt
  have e3 : (x.toUInt32.toUInt16.toUInt32.toInt32).toInt = (x.toUInt32.toUInt16.toUInt32.toInt32).toBitVec.toInt := rfl
  have e4 : x.toInt = x.toBitVec.toInt := rfl
  rw [e3, e4, BitVec.toInt_eq_toNat_cond, BitVec.toInt_eq_toNat_cond, e2]
  split <;> split <;> omega
theorem own_i2b (x : Int32) : ((x.toInt8.toInt32).toInt - x.toInt) % 256 = 0 ∧ -128 ≤ (x.toInt8.toInt32).toInt ∧ (x.toInt8.toInt32).toInt < 128 := by
  have h1 : (x.toInt8.toInt32).toInt = x.toInt8.toInt := Int8.toInt_toInt32 _
  have h2 := x.toInt8.toInt_lt; have h3 := x.toInt8.le_toInt
  have h4 : x.toInt8.toInt = x.toInt.bmod 256 := Int32.toInt_toInt8 x
  have h5 := Int.bmod_emod (x := x.toInt) (m := 256)
  rw [h1]; omega
end OwnNums
theorem own_pd0 : parseMethodDescriptor "()V" = some ⟨[], none⟩ := by decide +kernel
theorem own_pd1 : parseMethodDescriptor "(Ljava/lang/Object;)Ljava/lang/Object;" = some ⟨[(.object "java/lang/Object")], some (.object "java/lang/Object")⟩ := by decide +kernel
theorem own_pd2 : parseMethodDescriptor "(Ljava/lang/Object;)V" = some ⟨[(.object "java/lang/Object")], none⟩ := by decide +kernel
theorem own_pd3 : parseMethodDescriptor "([CI[BII)I" = some ⟨[(.array .char), .int, (.array .byte), .int, .int], some .int⟩ := by decide +kernel
theorem own_pd4 : parseMethodDescriptor "([CII)[B" = some ⟨[(.array .char), .int, .int], some (.array .byte)⟩ := by decide +kernel
theorem own_pd5 : parseMethodDescriptor "([BI)B" = some ⟨[(.array .byte), .int], some .byte⟩ := by decide +kernel
theorem own_pd6 : parseMethodDescriptor "([CIILjava/lang/Void;)V" = some ⟨[(.array .char), .int, .int, (.object "java/lang/Void")], none⟩ := by decide +kernel
theorem own_pd7 : parseMethodDescriptor "()B" = some ⟨[], some .byte⟩ := by decide +kernel
theorem own_pd8 : parseMethodDescriptor "([B[B)Z" = some ⟨[(.array .byte), (.array .byte)], some .boolean⟩ := by decide +kernel
theorem own_pd9 : parseMethodDescriptor "(Ljava/lang/Object;)Z" = some ⟨[(.object "java/lang/Object")], some .boolean⟩ := by decide +kernel
theorem own_pd10 : parseMethodDescriptor "(Ljava/lang/Object;Ljava/lang/Object;)V" = some ⟨[(.object "java/lang/Object"), (.object "java/lang/Object")], none⟩ := by decide +kernel
theorem own_pd11 : parseMethodDescriptor "(I)V" = some ⟨[.int], none⟩ := by decide +kernel
theorem own_pd12 : parseMethodDescriptor "(Ljava/lang/String;)V" = some ⟨[(.object "java/lang/String")], none⟩ := by decide +kernel
theorem own_pd13 : parseMethodDescriptor "([BIB)V" = some ⟨[(.array .byte), .int, .byte], none⟩ := by decide +kernel
theorem own_pd14 : parseMethodDescriptor "()I" = some ⟨[], some .int⟩ := by decide +kernel
theorem own_pd15 : parseMethodDescriptor "(ILjava/lang/String;)V" = some ⟨[.int, (.object "java/lang/String")], none⟩ := by decide +kernel
theorem own_pd16 : parseMethodDescriptor "(Ljava/lang/String;)Ljava/lang/AbstractStringBuilder;" = some ⟨[(.object "java/lang/String")], some (.object "java/lang/AbstractStringBuilder")⟩ := by decide +kernel
theorem own_pd17 : parseMethodDescriptor "(II)V" = some ⟨[.int, .int], none⟩ := by decide +kernel
theorem own_pd18 : parseMethodDescriptor "(II)I" = some ⟨[.int, .int], some .int⟩ := by decide +kernel
theorem own_pd19 : parseMethodDescriptor "([BII)[B" = some ⟨[(.array .byte), .int, .int], some (.array .byte)⟩ := by decide +kernel
theorem own_pd20 : parseMethodDescriptor "()[B" = some ⟨[], some (.array .byte)⟩ := by decide +kernel
theorem own_pd21 : parseMethodDescriptor "()Z" = some ⟨[], some .boolean⟩ := by decide +kernel
theorem own_pd22 : parseMethodDescriptor "(Ljava/lang/AbstractStringBuilder;Ljava/lang/Void;)V" = some ⟨[(.object "java/lang/AbstractStringBuilder"), (.object "java/lang/Void")], none⟩ := by decide +kernel
theorem own_pd23 : parseMethodDescriptor "(Ljava/lang/StringBuilder;)V" = some ⟨[(.object "java/lang/StringBuilder")], none⟩ := by decide +kernel
theorem own_pd24 : parseMethodDescriptor "(Ljava/util/List;I)V" = some ⟨[(.object "java/util/List"), .int], none⟩ := by decide +kernel
theorem own_pd25 : parseMethodDescriptor "(I)Ljava/lang/Object;" = some ⟨[.int], some (.object "java/lang/Object")⟩ := by decide +kernel
theorem own_pd26 : parseMethodDescriptor "()Ljava/util/Iterator;" = some ⟨[], some (.object "java/util/Iterator")⟩ := by decide +kernel
theorem own_pd27 : parseMethodDescriptor "()Ljava/lang/Object;" = some ⟨[], some (.object "java/lang/Object")⟩ := by decide +kernel
theorem own_pd28 : parseMethodDescriptor "()Ljava/util/Set;" = some ⟨[], some (.object "java/util/Set")⟩ := by decide +kernel
theorem own_pd29 : parseMethodDescriptor "(Ljava/util/Collection;Ljava/util/Collection;)Z" = some ⟨[(.object "java/util/Collection"), (.object "java/util/Collection")], some .boolean⟩ := by decide +kernel
theorem own_pd30 : parseMethodDescriptor "(Ljava/lang/Object;Ljava/lang/String;)Ljava/lang/Object;" = some ⟨[(.object "java/lang/Object"), (.object "java/lang/String")], some (.object "java/lang/Object")⟩ := by decide +kernel
theorem own_pd31 : parseMethodDescriptor "(Ljava/util/Collection;)Ljava/util/Set;" = some ⟨[(.object "java/util/Collection")], some (.object "java/util/Set")⟩ := by decide +kernel
theorem own_pd32 : parseMethodDescriptor "(Ljava/lang/String;Ljava/util/Set;Z)V" = some ⟨[(.object "java/lang/String"), (.object "java/util/Set"), .boolean], none⟩ := by decide +kernel
theorem own_pd33 : parseMethodDescriptor "(Ljava/lang/String;)Ljava/lang/StringBuilder;" = some ⟨[(.object "java/lang/String")], some (.object "java/lang/StringBuilder")⟩ := by decide +kernel
theorem own_pd34 : parseMethodDescriptor "()Ljava/lang/String;" = some ⟨[], some (.object "java/lang/String")⟩ := by decide +kernel
theorem own_pd35 : parseMethodDescriptor "(Ljava/lang/Object;)Ljava/util/List;" = some ⟨[(.object "java/lang/Object")], some (.object "java/util/List")⟩ := by decide +kernel
theorem own_pd36 : parseMethodDescriptor "(Ljava/util/List;)Ljava/util/function/Predicate;" = some ⟨[(.object "java/util/List")], some (.object "java/util/function/Predicate")⟩ := by decide +kernel
theorem own_pd37 : parseMethodDescriptor "(Ljava/lang/String;Ljava/util/function/Predicate;)V" = some ⟨[(.object "java/lang/String"), (.object "java/util/function/Predicate")], none⟩ := by decide +kernel
theorem own_pd38 : parseMethodDescriptor "(Ljava/util/List;Lcom/example/aduana/aduana/core/Authentication;)Z" = some ⟨[(.object "java/util/List"), (.object "com/example/aduana/aduana/core/Authentication")], some .boolean⟩ := by decide +kernel
theorem own_pd39 : parseMethodDescriptor "(IILjava/util/function/BiFunction;)I" = some ⟨[.int, .int, (.object "java/util/function/BiFunction")], some .int⟩ := by decide +kernel
theorem own_pd40 : parseMethodDescriptor "([BI)C" = some ⟨[(.array .byte), .int], some .char⟩ := by decide +kernel
theorem own_pd41 : parseMethodDescriptor "(I)C" = some ⟨[.int], some .char⟩ := by decide +kernel
theorem own_pd42 : parseMethodDescriptor "(Lcom/example/aduana/aduana/core/Authentication;)Z" = some ⟨[(.object "com/example/aduana/aduana/core/Authentication")], some .boolean⟩ := by decide +kernel
theorem own_pd43 : parseMethodDescriptor "(Ljava/lang/String;)Lcom/example/aduana/aduana/core/AccessDecision;" = some ⟨[(.object "java/lang/String")], some (.object "com/example/aduana/aduana/core/AccessDecision")⟩ := by decide +kernel
theorem own_pd44 : parseMethodDescriptor "([C)V" = some ⟨[(.array .char)], none⟩ := by decide +kernel
theorem own_pd45 : parseMethodDescriptor "(Ljava/lang/String;Ljava/util/Set;)V" = some ⟨[(.object "java/lang/String"), (.object "java/util/Set")], none⟩ := by decide +kernel
theorem own_pd46 : parseMethodDescriptor "(Ljava/lang/Object;)Ljava/util/Set;" = some ⟨[(.object "java/lang/Object")], some (.object "java/util/Set")⟩ := by decide +kernel
theorem own_pd47 : parseMethodDescriptor "()Lcom/example/aduana/aduana/core/Authentication;" = some ⟨[], some (.object "com/example/aduana/aduana/core/Authentication")⟩ := by decide +kernel
theorem own_pd48 : parseMethodDescriptor "(Ljava/lang/Object;Ljava/lang/Object;)Ljava/util/Set;" = some ⟨[(.object "java/lang/Object"), (.object "java/lang/Object")], some (.object "java/util/Set")⟩ := by decide +kernel
theorem own_i32_255 : (255 : Int32).toInt = 255 := by decide
theorem own_i32_0 : (0 : Int32).toInt = 0 := by decide
theorem own_i32_1 : (1 : Int32).toInt = 1 := by decide
theorem own_i32_8 : (8 : Int32).toInt = 8 := by decide
theorem own_i32_16 : (16 : Int32).toInt = 16 := by decide
theorem own_i32_2 : (2 : Int32).toInt = 2 := by decide
theorem own_i32_3 : (3 : Int32).toInt = 3 := by decide
theorem own_i32_7 : (7 : Int32).toInt = 7 := by decide
theorem own_i32_4 : (4 : Int32).toInt = 4 := by decide
section
variable {p : Program} {l : Launch} {e : Env} {R : Room} {s : State} {m : MethodId} {args : Array Value} {below : List Frame} {meth : Method} {c : Code} {T : State} {locs : List Loc} {cells slots : Nat} {Z : State} {a0 : Array Value} {h : Heap} {P : Option Value → Outcome → State → List Loc → Prop} {x y : MethodName} {bytes : ByteArray} {maxL : Nat} {ret : Option FieldType} {rm : Room} {as' : Array Value} {Q : Option Value → Heap → List Loc → Prop} {own C : String} {index count W : Nat} {g : JFrame} {b : Addr} {argsL rest : List Value} {R0 O n d : String} {v v' old : Value} {ty : FieldType}
theorem own_gF (X : Stand p l e R s m args below meth c T locs cells slots) (hx : p.tables.exec = Jvm.exec) (hZ : Z.Warmed39 s.vm) (hown : s.vm.findClass own = some m.cls) (w : (Cond.fieldLink own index R0 n d).before a0 Z = true) (via : Via Z R0 O n d) (eT : T.heap = h) (F : Fld Z h b O n d v) (hg : g.method = m) (hs : g.stack = .ref b :: rest) (hd : decode c.code g.pc = .ok (.getfield index, 3)) (k : ∀ T', Stand p l e R s m args below meth c T' locs cells slots → T'.heap = h → own_F p e below P (T'.setTop { g with pc := g.pc + 3, stack := v :: rest })) : own_F p e below P (T.setTop g) := by
  obtain ⟨T', a, q, st⟩ := getF X hx hZ hown (host := "") (Or.inl w) via eT F hg hs hd
  exact own_go st (k T' a q)
theorem own_gS (X : Stand p l e R s m args below meth c T locs cells slots) (hx : p.tables.exec = Jvm.exec) (hZ : Z.Warmed39 s.vm) (hown : s.vm.findClass own = some m.cls) (w : (Cond.fieldLink own index R0 n d).before a0 Z = true) (via : Via Z R0 O n d) (eT : T.heap = h) (F : Sta Z h O n d v) (hg : g.method = m) (hd : decode c.code g.pc = .ok (.getstatic index, 3)) (k : ∀ T', Stand p l e R s m args below meth c T' locs cells slots → T'.heap = h → own_F p e below P (T'.setTop { g with pc := g.pc + 3, stack := v :: g.stack })) : own_F p e below P (T.setTop g) := by
  obtain ⟨T', a, q, st⟩ := getS2 X hx hZ hown (host := "") (Or.inl w) via eT F hg hd
  exact own_go st (k T' a q)
theorem own_iO (X : Stand p l e R s m args below meth c T locs cells slots) (hx : p.tables.exec = Jvm.exec) (hZ : Z.Warmed39 s.vm) (hown : s.vm.findClass own = some m.cls) (w1 : (Cond.methodLink own index Lib.objectInit).before a0 Z = true) (w2 : (Cond.instanceMethod Lib.objectInit).before a0 Z = true) (w3 : (Cond.code Lib.objectInit ⟨#[0xb1]⟩ 1 none).before a0 Z = true) (eT : T.heap = h) (hg : g.method = m) (hsize : g.locals.size = c.maxLocals) (hs : g.stack = .ref b :: rest) (hd : decode c.code g.pc = .ok (.invokespecial index, 3)) (hf : 1 ≤ R.frames) (hW : 2 * g.monitorRoom + (rest.map fun v => v.category).sum ≤ W) (hl : W + 12 ≤ R.locals) (k : ∀ T', Stand p l e R s m args below meth c T' locs cells slots → T'.heap = h → own_F p e below P (T'.setTop { g with pc := g.pc + 3, stack := rest })) : own_F p e below P (T.setTop g) := by
  obtain ⟨T', a, q, st⟩ := initO X hx hZ hown w1 w2 w3 eT hg hsize hs hd hf hW hl
  exact own_go st (k T' a q)
theorem own_cY (X : Stand p l e R s m args below meth c T locs cells slots) (hx : p.tables.exec = Jvm.exec) (hZ : Z.Warmed39 s.vm) (hown : s.vm.findClass own = some m.cls) (w : (Cond.classLink own index C).before a0 Z = true) (eT : T.heap = h) (F : Ins Z h b C true) (hg : g.method = m) (hs : g.stack = .ref b :: rest) (hd : decode c.code g.pc = .ok (.checkcast index, 3)) (k : ∀ T', Stand p l e R s m args below meth c T' locs cells slots → T'.heap = h → own_F p e below P (T'.setTop { g with pc := g.pc + 3 })) : own_F p e below P (T.setTop g) := by
  obtain ⟨T', a, q, st⟩ := castY X hx hZ hown w eT F hg hs hd
  exact own_go st (k T' a q)
theorem own_iY (X : Stand p l e R s m args below meth c T locs cells slots) (hx : p.tables.exec = Jvm.exec) (hZ : Z.Warmed39 s.vm) (hown : s.vm.findClass own = some m.cls) (w : (Cond.classLink own index C).before a0 Z = true) (eT : T.heap = h) (F : Ins Z h b C true) (hg : g.method = m) (hs : g.stack = .ref b :: rest) (hd : decode c.code g.pc = .ok (.instanceof index, 3)) (k : ∀ T', Stand p l e R s m args below meth c T' locs cells slots → T'.heap = h → own_F p e below P (T'.setTop { g with pc := g.pc + 3, stack := .int 1 :: rest })) : own_F p e below P (T.setTop g) := by
  obtain ⟨T', a, q, st⟩ := instY X hx hZ hown w eT F hg hs hd
  exact own_go st (k T' a q)
theorem own_pF (X : Stand p l e R s m args below meth c T locs cells slots) (hx : p.tables.exec = Jvm.exec) (hZ : Z.Warmed39 s.vm) (hown : s.vm.findClass own = some m.cls) (w : (Cond.fieldLink own index R0 n d).before a0 Z = true) (via : Via Z R0 O n d) (eT : T.heap = h) (F : Fld Z h b O n d old) (E : Exa Z h b C) (L : (Cond.lays C O n d).before a0 Z = true ∨ ((Cond.laysFinal C O n d).before a0 Z = true ∧ own = O ∧ meth.name = "<init>")) (wi : (Cond.instantiable C count).before a0 Z = true) (hty : parseFieldDescriptor d = some ty) (hn : narrow ty v = v) (hf : fits ty v = true) (hg : g.method = m) (hs : g.stack = v :: .ref b :: rest) (hd : decode c.code g.pc = .ok (.putfield index, 3)) (k : ∀ T' h', Stand p l e R s m args below meth c T' (locs ++ [⟨b, Jvm.RoadKit.slotOf Z O n d⟩]) cells slots → T'.heap = h' → Wr h h' b (Jvm.RoadKit.slotOf Z O n d) v → own_F p e below P (T'.setTop { g with pc := g.pc + 3, stack := rest })) : own_F p e below P (T.setTop g) := by
  obtain ⟨T', h', a, q, w', st⟩ := putF X hx hZ hown (host := "") (Or.inl w) via eT F E L wi hty hn hf hg hs hd
  exact own_go st (k T' h' a q w')
theorem own_pN (X : Stand p l e R s m args below meth c T locs cells slots) (hx : p.tables.exec = Jvm.exec) (hZ : Z.Warmed39 s.vm) (hown : s.vm.findClass own = some m.cls) (w : (Cond.fieldLink own index R0 n d).before a0 Z = true) (via : Via Z R0 O n d) (eT : T.heap = h) (F : Fld Z h b O n d old) (E : Exa Z h b C) (L : (Cond.lays C O n d).before a0 Z = true ∨ ((Cond.laysFinal C O n d).before a0 Z = true ∧ own = O ∧ meth.name = "<init>")) (wi : (Cond.instantiable C count).before a0 Z = true) (hty : parseFieldDescriptor d = some ty) (hn : narrow ty v = v') (hf : fits ty v' = true) (hg : g.method = m) (hs : g.stack = v :: .ref b :: rest) (hd : decode c.code g.pc = .ok (.putfield index, 3)) (k : ∀ T' h', Stand p l e R s m args below meth c T' (locs ++ [⟨b, Jvm.RoadKit.slotOf Z O n d⟩]) cells slots → T'.heap = h' → Wr h h' b (Jvm.RoadKit.slotOf Z O n d) v' → own_F p e below P (T'.setTop { g with pc := g.pc + 3, stack := rest })) : own_F p e below P (T.setTop g) := by
  obtain ⟨T', h', a, q, w', st⟩ := putFN X hx hZ hown w via eT F E L wi hty hn hf hg hs hd
  exact own_go st (k T' h' a q w')
theorem own_cS (hM : own_MF l y (Cond.code y bytes maxL ret) [] rm as' Z h Q) (X : Stand p l e R s m args below meth c T locs cells slots) (hx : p.tables.exec = Jvm.exec) (hZ : Z.Warmed39 s.vm) (hown : s.vm.findClass own = some m.cls) (w1 : (Cond.methodLink own index y).before a0 Z = true) (w2 : (Cond.static y).before a0 Z = true) (w3 : (Cond.initialized y.cls).before a0 Z = true) (w4 : (Cond.code y bytes maxL ret).before a0 Z = true)
    (eT : T.heap = h) (ha : argsL.toArray = as') (hg : g.method = m) (hsize : g.locals.size = c.maxLocals) (hlen : ∀ sig, parseMethodDescriptor y.desc = some sig → argsL.length = sig.parameters.length) (hstack : g.stack = argsL.reverse ++ rest) (hd : decode c.code g.pc = .ok (.invokestatic index, 3))
    (hW : 2 * g.monitorRoom + (rest.map fun v => v.category).sum = W) (hn : (decide (rm.frames + 1 ≤ R.frames) && decide (W + (maxL + 11) + rm.locals ≤ R.locals) && decide (cells + rm.cells ≤ R.cells) && decide (slots + rm.slots ≤ R.slots)) = true) (hy : y.cls ≠ "java/lang/invoke/MethodHandle" ∧ y.cls ≠ "java/lang/invoke/VarHandle")
    (k : ∀ v T' L, Stand p l e R s m args below meth c T' (locs ++ L) (cells + rm.cells) (slots + rm.slots) → Q v T'.heap L → own_F p e below P (T'.setTop { g with pc := g.pc + 3, stack := v.toList ++ rest })) : own_F p e below P (T.setTop g) := by
  simp only [Bool.and_eq_true, decide_eq_true_eq] at hn
  obtain ⟨⟨⟨h1, h2⟩, h3⟩, h4⟩ := hn
  obtain ⟨v, vm₁, B, -, X', ⟨L, hQ, e1, e2, e3⟩, st⟩ := Jvm.LawKit.callS X hx hown (mvT hZ w1) (mvT hZ w2) (mvT hZ w3) (mvT hZ w4) hy (backOf (W := W) hM hZ w4 w3 h1 h2) hg hsize hlen hstack (Nat.le_of_eq hW) hd (fun _ _ => ⟨ha, eT, h3, h4⟩)
  rw [e1, e2, e3] at X'
  exact own_go st (k v B.U L X' hQ)
theorem own_cN (hM : own_MF l y (Cond.code y bytes maxL none) [] rm as' Z h Q) (X : Stand p l e R s m args below meth c T locs cells slots) (hx : p.tables.exec = Jvm.exec) (hZ : Z.Warmed39 s.vm) (hown : s.vm.findClass own = some m.cls) (w1 : (Cond.methodLink own index y).before a0 Z = true) (w2 : (Cond.instanceMethod y).before a0 Z = true) (w3 : (Cond.initialized y.cls).before a0 Z = true) (w4 : (Cond.code y bytes maxL none).before a0 Z = true)
    (eT : T.heap = h) (ha : (.ref b :: argsL).toArray = as') (hg : g.method = m) (hsize : g.locals.size = c.maxLocals) (hlen : ∀ sig, parseMethodDescriptor y.desc = some sig → argsL.length = sig.parameters.length) (hstack : g.stack = argsL.reverse ++ .ref b :: rest) (hd : decode c.code g.pc = .ok (.invokespecial index, 3))
    (hW : 2 * g.monitorRoom + (rest.map fun v => v.category).sum = W) (hn : (decide (rm.frames + 1 ≤ R.frames) && decide (W + (maxL + 11) + rm.locals ≤ R.locals) && decide (cells + rm.cells ≤ R.cells) && decide (slots + rm.slots ≤ R.slots)) = true) (hy : y.cls ≠ "java/lang/invoke/MethodHandle" ∧ y.cls ≠ "java/lang/invoke/VarHandle") (hi : y.name = "<init>")
    (k : ∀ v T' L, Stand p l e R s m args below meth c T' (locs ++ L) (cells + rm.cells) (slots + rm.slots) → Q v T'.heap L → own_F p e below P (T'.setTop { g with pc := g.pc + 3, stack := v.toList ++ rest })) : own_F p e below P (T.setTop g) := by
  simp only [Bool.and_eq_true, decide_eq_true_eq] at hn
  obtain ⟨⟨⟨h1, h2⟩, h3⟩, h4⟩ := hn
  obtain ⟨v, vm₁, B, -, X', ⟨L, hQ, e1, e2, e3⟩, st⟩ := X.specialBack hx hi hown (mvT hZ w1) (mvT hZ w2) (mvT hZ w4) hy (backOf (W := W) hM hZ w4 w3 h1 h2) hg hsize (Steps.refl _) hlen hstack (Nat.le_of_eq hW) hd (fun _ _ => ⟨ha, eT, h3, h4⟩)
  rw [e1, e2, e3] at X'
  exact own_go (fun _ q => st.trans q) (k v B.U L X' hQ)
theorem own_cV (hM : own_MF l y (Cond.code y bytes maxL ret) [] rm as' Z h Q) (X : Stand p l e R s m args below meth c T locs cells slots) (hx : p.tables.exec = Jvm.exec) (hZ : Z.Warmed39 s.vm) (hown : s.vm.findClass own = some m.cls) (w1 : (Cond.methodLink own index x).before a0 Z = true) (w2 : (Cond.declares x).before a0 Z = true) (nf : NotFace s x) (w5 : (Cond.selects C x y).before a0 Z = true) (w6 : (Cond.instanceMethod y).before a0 Z = true) (w3 : (Cond.initialized y.cls).before a0 Z = true) (w4 : (Cond.code y bytes maxL ret).before a0 Z = true) (E : Exa Z h b C)
    (eT : T.heap = h) (ha : (.ref b :: argsL).toArray = as') (hg : g.method = m) (hsize : g.locals.size = c.maxLocals) (hlen : ∀ sig, parseMethodDescriptor x.desc = some sig → argsL.length = sig.parameters.length) (hstack : g.stack = argsL.reverse ++ .ref b :: rest) (hd : decode c.code g.pc = .ok (.invokevirtual index, 3))
    (hW : 2 * g.monitorRoom + (rest.map fun v => v.category).sum = W) (hn : (decide (rm.frames + 1 ≤ R.frames) && decide (W + (maxL + 11) + rm.locals ≤ R.locals) && decide (cells + rm.cells ≤ R.cells) && decide (slots + rm.slots ≤ R.slots)) = true) (hy : x.cls ≠ "java/lang/invoke/MethodHandle" ∧ x.cls ≠ "java/lang/invoke/VarHandle")
    (k : ∀ v T' L, Stand p l e R s m args below meth c T' (locs ++ L) (cells + rm.cells) (slots + rm.slots) → Q v T'.heap L → own_F p e below P (T'.setTop { g with pc := g.pc + 3, stack := v.toList ++ rest })) : own_F p e below P (T.setTop g) := by
  simp only [Bool.and_eq_true, decide_eq_true_eq] at hn
  obtain ⟨⟨⟨h1, h2⟩, h3⟩, h4⟩ := hn
  obtain ⟨cB, kB, qa, qb, qc⟩ := isOf hZ eT E
  obtain ⟨v, vm₁, B, -, X', ⟨L, hQ, e1, e2, e3⟩, st⟩ := X.virtualBack hx hown (mvT hZ w1) (mvT hZ w2) nf (mvT hZ w5) (mvT hZ w6) hy (backOf (W := W) hM hZ w4 w3 h1 h2) qa qc hg hsize (Steps.refl _) hlen hstack (Nat.le_of_eq hW) hd (fun _ _ => ⟨ha, eT, h3, h4⟩)
  rw [e1, e2, e3] at X'
  exact own_go (fun _ q => st.trans q) (k v B.U L X' hQ)
theorem own_cI (hM : own_MF l y (Cond.code y bytes maxL ret) [] rm as' Z h Q) (X : Stand p l e R s m args below meth c T locs cells slots) (hx : p.tables.exec = Jvm.exec) (hZ : Z.Warmed39 s.vm) (hown : s.vm.findClass own = some m.cls) (w1 : (Cond.methodLink own index x).before a0 Z = true) (w2 : (Cond.declares x).before a0 Z = true) (w7 : (Cond.interfaceMethod x.cls x.cls x.name x.desc).before args s = true) (w5 : (Cond.selects C x y).before a0 Z = true) (w6 : (Cond.instanceMethod y).before a0 Z = true) (w8 : (Cond.publicMethod y).before a0 Z = true) (w9 : (Cond.unhidden C x.name x.desc).before a0 Z = true) (wc : (Cond.castable C x.cls).before a0 Z = true) (w3 : (Cond.initialized y.cls).before a0 Z = true) (w4 : (Cond.code y bytes maxL ret).before a0 Z = true) (E : Exa Z h b C)
    (eT : T.heap = h) (ha : (.ref b :: argsL).toArray = as') (hg : g.method = m) (hsize : g.locals.size = c.maxLocals) (hlen : ∀ sig, parseMethodDescriptor x.desc = some sig → argsL.length = sig.parameters.length) (hstack : g.stack = argsL.reverse ++ .ref b :: rest) (hd : decode c.code g.pc = .ok (.invokeinterface index count, 5))
    (hW : 2 * g.monitorRoom + (rest.map fun v => v.category).sum = W) (hn : (decide (rm.frames + 1 ≤ R.frames) && decide (W + (maxL + 11) + rm.locals ≤ R.locals) && decide (cells + rm.cells ≤ R.cells) && decide (slots + rm.slots ≤ R.slots)) = true) (hy : x.cls ≠ "java/lang/invoke/MethodHandle" ∧ x.cls ≠ "java/lang/invoke/VarHandle")
    (k : ∀ v T' L, Stand p l e R s m args below meth c T' (locs ++ L) (cells + rm.cells) (slots + rm.slots) → Q v T'.heap L → own_F p e below P (T'.setTop { g with pc := g.pc + 5, stack := v.toList ++ rest })) : own_F p e below P (T.setTop g) := by
  simp only [Bool.and_eq_true, decide_eq_true_eq] at hn
  obtain ⟨⟨⟨h1, h2⟩, h3⟩, h4⟩ := hn
  obtain ⟨cB, kB, qa, qb, qc⟩ := isOf hZ eT E
  obtain ⟨v, vm₁, B, -, X', ⟨L, hQ, e1, e2, e3⟩, st⟩ := X.interfaceBack hx hown (mvT hZ w1) (mvT hZ w2) w7 (mvT hZ w5) (mvT hZ w6) (mvT hZ w8) (mvT hZ w9) (mvT hZ wc) hy (backOf (W := W) hM hZ w4 w3 h1 h2) qa qb qc hg hsize (Steps.refl _) hlen hstack (Nat.le_of_eq hW) hd (fun _ _ => ⟨ha, eT, h3, h4⟩)
  rw [e1, e2, e3] at X'
  exact own_go (fun _ q => st.trans q) (k v B.U L X' hQ)
theorem own_cP (hM : own_MF l y (Cond.code y bytes maxL ret) [] rm as' Z h Q) (X : Stand p l e R s m args below meth c T locs cells slots) (hx : p.tables.exec = Jvm.exec) (hZ : Z.Warmed39 s.vm) (hown : s.vm.findClass own = some m.cls) (w1 : (Cond.methodLink own index y).before a0 Z = true) (w6 : (Cond.instanceMethod y).before a0 Z = true) (w5 : (Cond.selects C y y).before a0 Z = true) (w3 : (Cond.initialized y.cls).before a0 Z = true) (w4 : (Cond.code y bytes maxL ret).before a0 Z = true) (E : Exa Z h b C)
    (eT : T.heap = h) (ha : (.ref b :: argsL).toArray = as') (hg : g.method = m) (hsize : g.locals.size = c.maxLocals) (hlen : ∀ sig, parseMethodDescriptor y.desc = some sig → argsL.length = sig.parameters.length) (hstack : g.stack = argsL.reverse ++ .ref b :: rest) (hd : decode c.code g.pc = .ok (.invokevirtual index, 3))
    (hW : 2 * g.monitorRoom + (rest.map fun v => v.category).sum = W) (hn : (decide (rm.frames + 1 ≤ R.frames) && decide (W + (maxL + 11) + rm.locals ≤ R.locals) && decide (cells + rm.cells ≤ R.cells) && decide (slots + rm.slots ≤ R.slots)) = true) (hy : y.cls ≠ "java/lang/invoke/MethodHandle" ∧ y.cls ≠ "java/lang/invoke/VarHandle")
    (k : ∀ v T' L, Stand p l e R s m args below meth c T' (locs ++ L) (cells + rm.cells) (slots + rm.slots) → Q v T'.heap L → own_F p e below P (T'.setTop { g with pc := g.pc + 3, stack := v.toList ++ rest })) : own_F p e below P (T.setTop g) := by
  simp only [Bool.and_eq_true, decide_eq_true_eq] at hn
  obtain ⟨⟨⟨h1, h2⟩, h3⟩, h4⟩ := hn
  obtain ⟨cq, kq, qa, qb, -, qd, -⟩ := id E
  obtain ⟨v, vm₁, B, -, X', ⟨L, hQ, e1, e2, e3⟩, st⟩ := Jvm.LawKit.callV X hx hown (mvT hZ w1) (mvT hZ w6) (mvT hZ w5) (mvT hZ w4) hy (backOf (W := W) hM hZ w4 w3 h1 h2) (own_hc eT qa) qd (by rw [hZ.alike.findClass]; exact qb) hg hsize hlen hstack (Nat.le_of_eq hW) hd (fun _ _ => ⟨ha, eT, h3, h4⟩)
  rw [e1, e2, e3] at X'
  exact own_go st (k v B.U L X' hQ)
end
theorem own_cs {args : Array Value} {s : State} (h0 : (Cond.initializedFor "java/lang/String" "COMPACT_STRINGS" "Z").before args s = true) (h1 : (Cond.isInt (Term.static "java/lang/String" "COMPACT_STRINGS" "Z")).before args s = true)
    (h2 : (Cond.not (Cond.eq (Term.static "java/lang/String" "COMPACT_STRINGS" "Z") (Term.int 0))).before args s = true) : ∃ cs : Int32, Sta s s.heap "java/lang/String" "COMPACT_STRINGS" "Z" (.int cs) ∧ ¬ (cs = (0 : Int32)) := by
  obtain ⟨cs, e1⟩ := is_v (Cond.before_iff.mp h1)
  refine ⟨cs, Sta.start e1 (Or.inl h0), fun q => ?_⟩
  have h3 := Cond.before_iff.mp h2
  subst q
  have ei : (Term.int 0).eval args s none [] s = some (.int 0) := by simp [Term.eval]
  simp [Cond.value, e1, ei] at h3
theorem own_narcid {c : Int32} (h0 : 0 ≤ c.toInt) (h1 : c.toInt ≤ 65535) : nar .char c = c := by
  have q := own_i2c c
  refine Int32.toInt_inj.mp (show (c.toUInt32.toUInt16.toUInt32.toInt32).toInt = c.toInt from ?_)
  rw [q]; omega
theorem own_fitsc {c : Int32} (h0 : 0 ≤ c.toInt) (h1 : c.toInt ≤ 65535) : fits .char (.int c) = true := by
  have q := fits_nar_char c
  rwa [own_narcid h0 h1] at q
abbrev own_OE : MethodName := ⟨"java/lang/Object", "equals", "(Ljava/lang/Object;)Z"⟩
theorem own_oe0 : decode object_method_4_code 0 = .ok (.aload_n 0, 1) := by decide +kernel
theorem own_oe1 : decode object_method_4_code 1 = .ok (.aload_n 1, 1) := by decide +kernel
theorem own_oe2 : decode object_method_4_code 2 = .ok (.if_acmp .ne 7, 3) := by decide +kernel
theorem own_oe9 : decode object_method_4_code 9 = .ok (.iconst 0, 1) := by decide +kernel
theorem own_oe10 : decode object_method_4_code 10 = .ok (.ireturn, 1) := by decide +kernel
section
variable {p : Program} {l : Launch} {e : Env} {R : Room} {s : State} {m : MethodId} {args : Array Value} {below : List Frame} {meth : Method} {c : Code} {T : State} {locs : List Loc} {cells slots : Nat} {Z : State} {a0 : Array Value} {h : Heap}
set_option maxHeartbeats 2000000 in
theorem own_eqO (X : Stand p l e R s m args below meth c T locs cells slots) (hx : p.tables.exec = Jvm.exec) (hZ : Z.Warmed39 s.vm) {own : String} {index : Nat} (hown : s.vm.findClass own = some m.cls)
    (w1 : (Cond.methodLink own index own_OE).before a0 Z = true) (w2 : (Cond.instanceMethod own_OE).before a0 Z = true) (w3 : (Cond.selects "java/lang/Object" own_OE own_OE).before a0 Z = true) (w4 : (Cond.code own_OE object_method_4_code 2 (some .boolean)).before a0 Z = true)
    (eT : T.heap = h) {a b : Addr} (F : Exa Z h a nn0_) (hne : a ≠ b) {g : JFrame} (hg : g.method = m) (hsize : g.locals.size = c.maxLocals) {rest : List Value} (hs : g.stack = .ref b :: .ref a :: rest) (hd : decode c.code g.pc = .ok (.invokevirtual index, 3))
    (hf : 1 ≤ R.frames) {W : Nat} (hW : 2 * g.monitorRoom + (rest.map fun v => v.category).sum ≤ W) (hl : W + 13 ≤ R.locals) (hc : cells ≤ R.cells) (hsl : slots ≤ R.slots) :
    ∃ T', Stand p l e R s m args below meth c T' locs cells slots ∧ T'.heap = h ∧ ∀ target, Steps p.tables e below (T'.setTop { g with pc := g.pc + 3, stack := .int 0 :: rest }) target → Steps p.tables e below (T.setTop g) target := by
  obtain ⟨mk, methM, hnamed, hmethM, hstM, habM⟩ := Cond.instanceMethod_spec (mv (args := args) hZ w2)
  obtain ⟨methM', cM, hmethM', hcM, hbM, hlM, hrM, hkM, -, hsigM⟩ := Cond.code_spec hnamed (mv (args := args) hZ w4)
  cases hmethM.symm.trans hmethM'
  obtain ⟨c2, r2, m2, q1, q2, q3, q4, kP, hkP, hkPi⟩ := Cond.selects_spec (mv (args := args) hZ w3)
  obtain ⟨cell, kc, x1, x2, x3, x4, x5⟩ := F
  have hcls : s.vm.findClass "java/lang/Object" = some cell.cls := by rw [hZ.alike.findClass]; exact x2
  cases hcls.symm.trans q1
  cases (State.methodFound?_of_named hnamed (by decide)).symm.trans q2
  cases hnamed.symm.trans q3
  have hselP : selectMethod e.platform s.vm cell.cls mk = .method mk := by rw [Launch.admits_selectMethod X.admits]; exact q4
  subst eT
  have hlen : (1 : Nat) = methM.sig.parameters.length := by
    have hq : parseMethodDescriptor own_OE.desc = some ⟨[.object "java/lang/Object"], some .boolean⟩ := by decide +kernel
    have := Option.some.inj (hq.symm.trans hsigM)
    rw [← this]; rfl
  obtain ⟨vm₁, X₁, hstep₁⟩ := X.invokevirtual hx hown (mv hZ w1) hnamed hmethM hstM hkP hkPi (by decide) (a := a) (cell := cell) x1 (fun z h => by rw [h] at x4; cases x4) hselP hmethM habM hkP hkPi (g := g) hg (argsL := [.ref b]) (rest := rest) hlen hs hd
  have hm1 : (T.setVm vm₁).vm.method? mk = some methM := by
    show vm₁.method? mk = some methM
    have : s.vm.Alike vm₁ := X₁.warmed.alike
    rw [this.method?]; exact hmethM
  have hn1 : (T.setVm vm₁).methodNamed? own_OE = some mk := X₁.named hnamed
  obtain ⟨Y₀, hin⟩ := X₁.into (g := { g with stack := rest }) hg hsize hd #[.ref a, .ref b] (R' := { frames := 0, cells := 0, slots := 0, locals := 0 }) hm1 hcM hkM (State.plainMethod.of_named (by decide +kernel) hn1 hm1) hf (by rw [hlM]; show 2 * g.monitorRoom + (rest.map fun v => v.category).sum + (2 + 11) + 0 ≤ R.locals; omega)
    hc hsl
  rw [hlM] at Y₀ hin
  obtain ⟨fs, hleave, -, hended, hWe, hsame⟩ := Y₀.leave (v := some (.int 0)) (fun h => by rw [hrM] at h; cases h) hkM
  obtain ⟨T', X', hW', -, ht⟩ := X₁.outOf (g := { g with stack := rest }) hg hd hended hWe hsame
  refine ⟨T', by simpa using X', ?_, fun target k => hstep₁ _ fun acts => ?_⟩
  · have q := congrArg State.heap ht
    exact q.symm
  · refine Steps.trans ?_ k
    rw [hin acts]
    show Steps p.tables e below _ (T'.setTop { g with pc := g.pc + 3, stack := (some (Value.int 0)).toList ++ rest })
    rw [← ht]
    refine Steps.weaken (mid := [.java { g with stack := rest }]) ?_
    have hloc : entryFrame mk #[.ref a, .ref b] 2 = mkF mk 0 #[Sr a, Sr b] [] := rfl
    rw [hloc]
    refine XS.aloadN Y₀.here hx rfl (hb hbM own_oe0) rfl rfl ?_
    refine XS.aloadN Y₀.here hx rfl (hb hbM own_oe1) rfl rfl ?_
    refine Jvm.RoadKit.acmp (g := mkF mk 2 #[Sr a, Sr b] [.ref b, .ref a]) Y₀ hx rfl rfl rfl (pc0 := 2) (pc' := 9) (same := false) rfl (hb hbM own_oe2) rfl (decide_eq_false fun q => hne (Value.ref.inj q)) (by decide) (by decide) ?_
    refine XS.iconst Y₀.here hx rfl (hb hbM own_oe9) ?_
    exact retN Y₀ hx hrM (Or.inl rfl) (hb hbM own_oe10) hleave
end
abbrev own_sig : Jvm.Lambda.Shape := (Jvm.Lambda.Shape.mk "java/util/function/Predicate" "test" (Jvm.ClassFile.MethodDescriptor.mk ([(Jvm.ClassFile.FieldType.object "java/lang/Object")] : List Jvm.ClassFile.FieldType) (Option.some Jvm.ClassFile.FieldType.boolean)) ([(Jvm.ClassFile.FieldType.object "java/util/List")] : List Jvm.ClassFile.FieldType) (6 : Nat) "com/example/aduana/aduana/core/AccessDecision" "lambda$holdsAnyOf$3" (Jvm.ClassFile.MethodDescriptor.mk ([(Jvm.ClassFile.FieldType.object "java/util/List"), (Jvm.ClassFile.FieldType.object "com/example/aduana/aduana/core/Authentication")] : List Jvm.ClassFile.FieldType) (Option.some Jvm.ClassFile.FieldType.boolean)) false (Jvm.ClassFile.MethodDescriptor.mk ([(Jvm.ClassFile.FieldType.object "com/example/aduana/aduana/core/Authentication")] : List Jvm.ClassFile.FieldType) (Option.some Jvm.ClassFile.FieldType.boolean)))
abbrev own_xi : MethodName := ⟨"java/util/function/Predicate", "test", "(Ljava/lang/Object;)Z"⟩
abbrev own_AD : String := "com/example/aduana/aduana/core/AccessDecision"
abbrev own_AU : String := "com/example/aduana/aduana/core/Authentication"
def own_fcode : ByteArray := ⟨#[0x2a, 0xb4, 0x00, 0x0f, 0x2b, 0xc0, 0x00, 0x13, 0xb8, 0x00, 0x19, 0xac]⟩
theorem own_fwd : LamKit.fwdOK own_sig own_AD own_fcode 2 (some .boolean) 25 21 = true := by decide +kernel
theorem own_cap : LamKit.capOK own_sig own_AD 15 0 = true := by decide +kernel
theorem own_f0 : decode own_fcode 0 = .ok (.aload_n 0, 1) := by decide +kernel
theorem own_f1 : decode own_fcode 1 = .ok (.getfield 15, 3) := by decide +kernel
theorem own_f4 : decode own_fcode 4 = .ok (.aload_n 1, 1) := by decide +kernel
theorem own_f5 : decode own_fcode 5 = .ok (.checkcast 19, 3) := by decide +kernel
theorem own_f8 : decode own_fcode 8 = .ok (.invokestatic 25, 3) := by decide +kernel
theorem own_f11 : decode own_fcode 11 = .ok (.ireturn, 1) := by decide +kernel
def own_castOK : Bool := match own_sig.file own_AD with
  | none => false
  | some D => match (D.constantPool[19]? : Option CpInfo) with
    | some (.class_ n) => decide (D.constantPool.string? n = some own_AU) && decide (19 ≠ D.thisClass)
    | _ => false
theorem own_cast : own_castOK = true := by decide +kernel
theorem own_castReady {st : Setting} {vm : Vm} {d c x : ClassId} {dk : Class} (hd : vm.classes[d]? = some dk) (hn : dk.name = own_AD) (h : Lambda.isMade st vm d own_sig c = true) (hf : vm.findClass own_AU = some x) : vm.classReady c 19 x := by
  obtain ⟨dk', k, ok, tk, file, cf, object, iface, toy, lay, methods, target, found, hd', hk, hfile, hcf, -, -, -, -, -, -, -, -, -, -, -, -, -, -, -, -, -, -, hres, -⟩ := Lambda.isMade_spec h
  cases hd.symm.trans hd'
  rw [hn] at hcf
  have q := own_cast
  unfold own_castOK at q
  rw [hcf] at q
  dsimp only at q
  split at q
  · rename_i n hn'
    simp only [Bool.and_eq_true, decide_eq_true_eq] at q
    exact ⟨k, hk, hres 19 _ (Lambda.resolvedOf_class hn' q.2 q.1 hf)⟩
  · cases q
theorem own_isMade39 {Z : State} {vm' : Vm} (hZ : Z.Warmed39 vm') {d c : ClassId} {σ : Lambda.Shape} (h : Lambda.isMade { classPath := fun _ => none } Z.vm d σ c = true) : Lambda.isMade { classPath := fun _ => none } vm' d σ c = true := by
  have hA := hZ.alike
  unfold Lambda.isMade at h ⊢
  simp only [Option.bind_eq_bind, Option.pure_def, Option.getD_eq_iff, Option.bind_eq_some_iff, Bool.false_eq_true, and_false, or_false] at h ⊢
  obtain ⟨dk, h1, k, h2, file, h4, cf, h5, ob, ho, fa, hi, ok, h6, lay, h7, ms, h8, t, ht, tk, h9, h⟩ := h
  obtain ⟨dk', g1, f1⟩ := hA.2.2 _ _ h1
  obtain ⟨ok', g6, f6⟩ := hA.2.2 _ _ h6
  obtain ⟨tk', g9, f9⟩ := hA.2.2 _ _ h9
  obtain ⟨k', g2, f2, -, hr, -⟩ := hZ.2.2.2 _ _ h2
  obtain ⟨r, n1, n2, rfl⟩ : ∃ r n1 n2, k' = { k with resolved := r, nestHost := n1, nestHostError := n2 } := ⟨_, _, _, f2⟩
  have key : ∀ (i : Nat) (x : Resolved), k.resolved[i]? = some (some x) → r[i]? = some (some x) := fun i x q => by
    rcases hr i with e | ⟨e, -⟩
    · exact e.trans q
    · rw [q] at e; cases e
  have e1 : dk'.name = dk.name := by rw [f1]
  have e6 : ok'.instanceTypes = ok.instanceTypes := by rw [f6]
  have e9 : tk'.isInterface = tk.isInterface := by rw [f9]; rfl
  refine ⟨dk', g1, _, g2, file, h4, cf, e1 ▸ h5, ob, by rw [hA.findClass]; exact ho, fa, by rw [hA.findClass]; exact hi, ok', g6, lay, by rw [e6]; exact h7, ms, h8, t, by rw [hA.findClass]; exact ht, tk', g9, ?_⟩
  rw [e9, Lambda.methodIn_ask_alike hA, Lambda.methodIn_ask_alike hA, e1, e6, Lambda.resolvedOf_alike hA]
  cases hg : ((methodIn t σ.implName σ.implDesc.toString tk.isInterface none).ask { classPath := fun _ => none } Z.vm).1 with
  | error x => simp [hg] at h
  | ok tg =>
    cases hf : ((methodIn fa σ.name σ.sam.toString true none).ask { classPath := fun _ => none } Z.vm).1 with
    | error x => simp [hg, hf] at h
    | ok fd =>
      simp only [hg, hf, Option.some.injEq, Bool.and_eq_true] at h ⊢
      refine ⟨⟨h.1.1, ?_⟩, ?_⟩
      · rw [List.all_eq_true]
        intro ⟨z, i⟩ hz
        have q := (List.all_eq_true.mp h.1.2) (z, i) hz
        cases z with
        | none => rfl
        | some w => simpa using key i w (by simpa using q)
      · rw [hA.selectMethod]; exact h.2
theorem own_made39 {Z U : State} (hZ : Z.Warmed39 U.vm) {host : String} {σ : Lambda.Shape} {cK : ClassId} (h : LamKit.Made Z host σ cK) : LamKit.Made U host σ cK := by
  obtain ⟨d, dk, h1, h2, h3, h4⟩ := h
  have hA := hZ.alike
  obtain ⟨dk', g1, f1⟩ := hA.2.2 _ _ h1
  refine ⟨d, dk', g1, by rw [f1]; exact h2, own_isMade39 hZ h3, ?_⟩
  simp only [State.lambdaCallable, hA.findClass, hA.assignable, hA.superclasses, hA.declaredIn] at h4 ⊢
  exact h4
def own_Fn (Z : State) (h : Heap) (b li : Addr) : Prop := ∃ cK, LamKit.Made Z own_AD own_sig cK ∧ h[b]? = some { cls := cK, slots := #[.ref li], vm := .none }
theorem own_Fn.lt {Z : State} {h : Heap} {b li : Addr} (F : own_Fn Z h b li) : b < h.size := by obtain ⟨c, -, q⟩ := F; exact (Array.getElem?_eq_some_iff.mp q).1
theorem own_Fn.ext {Z : State} {h h' : Heap} {b li : Addr} (F : own_Fn Z h b li) (E : Ext h h') : own_Fn Z h' b li := by obtain ⟨c, m, q⟩ := F; exact ⟨c, m, E.2 _ _ q⟩
theorem own_Fn.other {Z : State} {h h' : Heap} {b li a : Addr} {sl : Nat} {v : Value} (F : own_Fn Z h b li) (W : Wr h h' a sl v) (q : b ≠ a) : own_Fn Z h' b li := by
  obtain ⟨c, m, r⟩ := F
  obtain ⟨c0, -, -, -, rfl⟩ := W
  exact ⟨c, m, by rw [Array.getElem?_setIfInBounds_ne (Ne.symm q)]; exact r⟩
theorem own_Fn.keep {Z : State} {h h' : Heap} {b li : Addr} {ws : List Addr} (F : own_Fn Z h b li) (K : Keep h h' ws) (q : b ∉ ws) : own_Fn Z h' b li := by obtain ⟨c, m, r⟩ := F; exact ⟨c, m, K.2.1 _ _ r q⟩
section
variable {p : Program} {l : Launch} {e : Env} {R : Room} {s : State} {m : MethodId} {args : Array Value} {below : List Frame} {meth : Method} {c : Code} {T : State} {locs : List Loc} {cells slots : Nat} {Z : State} {a0 : Array Value} {h : Heap}
set_option maxHeartbeats 4000000 in
theorem own_siteM (X : Stand p l e R s m args below meth c T locs cells slots) (hx : p.tables.exec = Jvm.exec) (hZ : Z.Warmed39 s.vm) {x : MethodName} {pc index fi : Nat} {σ : Lambda.Shape} (hnamed : s.methodNamed? x = some m)
    (hsite : (Cond.lambdaSite x pc index σ).before a0 Z = true) (hcap : σ.captured ≠ []) (hok : LamKit.capOK σ x.cls fi 0 = true) (hO : (Cond.instantiable "java/lang/Object" 0).before a0 Z = true)
    {g : JFrame} (hg : g.method = m) (hpc : g.pc = pc) (hsize : g.locals.size = c.maxLocals) (hdg : decode c.code g.pc = .ok (.invokedynamic index, 5))
    {vals rest : List Value} (hlen : vals.length = σ.captured.length) (hstack : g.stack = vals.reverse ++ rest) (hfit : ∀ (i : Nat) t v, σ.captured[i]? = some t → vals[i]? = some v → narrow t v = v ∧ fits t v = true)
    (hwords : 2 * g.monitorRoom + (g.stack.map fun v => v.category).sum + 3072 ≤ R.locals) (hcells : cells + 1 ≤ R.cells) (hslots : slots + vals.length ≤ R.slots) :
    ∃ cK : ClassId, LamKit.Made Z x.cls σ cK ∧ Stand p l e R s m args below meth c (T.pushCell { cls := cK, slots := vals.toArray, vm := .none }) locs (cells + 1) (slots + vals.length) ∧
      ∀ target, Steps p.tables e below ((T.pushCell { cls := cK, slots := vals.toArray, vm := .none }).setTop { g with pc := g.pc + 5, stack := .ref T.heap.size :: rest }) target → Steps p.tables e below (T.setTop g) target := by
  have hA := hZ.alike
  obtain ⟨cK, one, hat⟩ := Cond.lambdaSite_spec hsite
  obtain ⟨mD, kD, cfD, i0, p0, lk, hmD, hkD, hcfD, hsh, -, hfind, hmade, hcan, hl⟩ := State.lambdaAt?_spec hat
  obtain ⟨kD0, hkD0, hnameD⟩ := className_of_methodNamed hmD
  cases hkD.symm.trans hkD0
  have hm' : s.methodNamed? x = some mD := by
    have := State.methodNamed?_setVm (s := Z) hA x
    rw [hmD] at this; exact this
  cases hnamed.symm.trans hm'
  obtain ⟨kD', hkD', heD⟩ := hA.2.2 _ _ hkD
  have hMade : LamKit.Made Z x.cls σ cK := ⟨_, kD, hkD, hnameD, hmade, hcan⟩
  rcases hl with ⟨a, cell, -, -, hc0, -⟩ | ⟨rfl, -, -⟩
  · exact absurd hc0 hcap
  · obtain ⟨b, nt, desc, site, h1, h2, h3, h4⟩ := Lambda.shapeOf?_site hsh
    obtain ⟨kc, f, hkc, hkind, hty, -⟩ := LamKit.made_cap hok hkD' (by rw [heD]; exact hnameD) (own_isMade39 hZ hmade) (LamKit.noFields (mv (args := args) hZ hO) (State.WarmedH.refl s))
    have hz : ((kc.instanceTypes.toList.zip vals).map fun (t, v) => narrow t v) = vals := by rw [hty]; exact LamKit.zip_narrow _ _ hlen fun i t v a b => (hfit i t v a b).1
    have hw : e.platform.lambdaLinkWords = 3072 := by rw [X.admits.platform]
    have q := X.lambdaMakes hx hg hsize hdg (vals := vals) (rest := rest) hkD' (by rw [hpc, heD]; exact hfind) (by rw [heD]; exact hcfD) h1 h2 (parseLong_of_parse h3) (by rw [h4]; exact hlen) hstack hkc (by rw [hw]; exact hwords) hcells (by rw [hz]; exact hslots)
      (fun i v hv => by
        rw [hz] at hv
        have hv' : vals[i]? = some v := by simpa using hv
        have hi : i < σ.captured.length := by rw [← hlen]; exact (List.getElem?_eq_some_iff.mp hv').1
        have := (hfit i _ v (List.getElem?_eq_getElem hi) hv').2
        simp [State.fitsSlot, State.slotType?, hkc, hkind, hty, List.getElem?_eq_getElem hi, this])
    rw [hz] at q
    exact ⟨cK, hMade, by simpa using q.1, q.2⟩
theorem own_ckc {U target : State} {cK : ClassId} {ck : Code} {bl : List Frame} (hx : p.tables.exec = Jvm.exec) (hU : At U ⟨cK, 1⟩ ck bl) (hW : Z.Warmed39 U.vm) (hmd : LamKit.Made Z own_AD own_sig cK) {b : Addr} (F : Ins Z U.heap b own_AU true)
    {g : JFrame} (hg : g.method = ⟨cK, 1⟩) {rest : List Value} (hs : g.stack = .ref b :: rest) (hd : decode ck.code g.pc = .ok (.checkcast 19, 3)) (k : Steps p.tables e bl (U.setTop { g with pc := g.pc + 3 }) target) : Steps p.tables e bl (U.setTop g) target := by
  obtain ⟨cell, cT, h1, h2, h3⟩ := F
  simp only [Bool.and_eq_true, Bool.not_eq_true'] at h3
  obtain ⟨d, dk, q1, q2, q3, -⟩ := hmd
  obtain ⟨dk', g1, f1⟩ := hW.alike.2.2 _ _ q1
  have hf : U.vm.findClass own_AU = some cT := by rw [hW.alike.findClass]; exact h2
  have hr := own_castReady g1 (by rw [f1]; exact q2) (own_isMade39 hW q3) hf
  have hU' : At U g.method ck bl := by rw [hg]; exact hU
  have hasg : U.vm.assignable cell.cls cT = true := by rw [hW.alike.assignable]; exact h3.2
  obtain ⟨kt, hkt, -⟩ := Vm.findClass_spec hf
  obtain ⟨ks, hks⟩ := Vm.classAt_of_assignable hasg ⟨kt, hkt⟩
  have hcc : ∀ {Q : Unit → Pre} {E : CtlPost} {d : Bool} {acts : List Action}, wp (checkcast.sem 19) Q E e d acts (U.setTop g) ↔ Q () d acts (U.setTop g) := by
    intro Q E d acts
    rw [checkcast.wp_ready (c := cT) (x := .ref b) (rest := rest) hU.top (by rw [hg]; exact hr) hs]
    simp [h1, VmData.noStatics_of h3.1, hks, hkt, hasg]
  jvm_step hU' [hx, hd, hcc]
  exact k
end
theorem own_push {T : State} {h : Heap} {c : Cell} (e : T.heap = h) : Ext h (T.pushCell c).heap ∧ (T.pushCell c).heap[h.size]? = some c := by
  subst e
  have e2 : (T.pushCell c).heap = T.heap.push c := rfl
  refine ⟨⟨by rw [e2]; simp, fun a x q => ?_⟩, by rw [e2]; simp⟩
  obtain ⟨hlt, he⟩ := Array.getElem?_eq_some_iff.mp q
  rw [e2, Array.getElem?_push_lt hlt, he]
theorem own_met {l : Launch} {y : MethodName} {w : Jvm.Cond} {rm : Room} {as' : Array Value} {Z : State} {h0 : Heap} {Q : Option Value → Heap → List Loc → Prop} (hM : own_MF l y w [] rm as' Z h0 Q) {n0 : Nat} (hF : ∀ v h L, Q v h L → Fr n0 L) :
    Met l y [w] rm (fun a U => a = as' ∧ Z.Warmed39 U.vm ∧ U.heap = h0) (fun a st o t => ∃ v L, o = .returned v ∧ Q v t.heap L) rm.cells rm.slots (fun q => n0 ≤ q) := fun p e ha hc hk s m args below hf happ hP hK => by
  obtain ⟨n, o, h1, h2, h3, v, L, h4, h5, h6⟩ := hM p e ha hc hk s m args below hf happ hP hK
  exact ⟨n, o, h1, h2, h3, ⟨v, L, h4, h5⟩, L, h6, hF _ _ _ h5⟩
theorem own_insH {Z : State} {h h' : Heap} {b : Addr} {C : String} {t : Bool} (e : h' = h) (F : Ins Z h b C t) : Ins Z h' b C t := e ▸ F
theorem own_narbool (P : Prop) [Decidable P] : narrow .boolean (.int (own_b P)) = .int (own_b P) := by unfold own_b; split <;> rfl
theorem own_narB (P : Prop) [Decidable P] : nar .boolean (own_b P) = own_b P := by unfold own_b; split <;> rfl
def own_By (Z : State) (h : Heap) (t : Addr) (n j v : Int32) : Prop := ∃ cl : Cell, Arr Z h t cl .byte ∧ cl.slots.size.toInt32 = n ∧ ¬ (j < 0 ∨ cl.slots.size ≤ j.toNatClampNeg) ∧ cl.slots[j.toNatClampNeg]? = some (.int v)
theorem own_By.lt {Z : State} {h : Heap} {t : Addr} {n j v : Int32} (F : own_By Z h t n j v) : t < h.size := by obtain ⟨c, A, -⟩ := F; exact A.lt
theorem own_By.of {Z : State} {h : Heap} {t : Addr} {k : ClassId} {z : Int32} {vs : List Value} {d : Value} {j v : Int32} (F : Arv Z h t k .byte z vs d) (hj : ¬ j < 0) (hz : j.toNatClampNeg < z.toNatClampNeg) (hv : vs.getD j.toNatClampNeg d = .int v) : own_By Z h t z j v := by
  obtain ⟨c, A, q, S, N, H, G⟩ := F
  refine ⟨c, A, len_of S N, fun r => r.elim hj fun r => by rw [S] at r; omega, ?_⟩
  have := H _ (by rw [S]; exact hz)
  rw [this, hv]
theorem own_conr {l : Launch} {y : MethodName} {w : Jvm.Cond} {rm : Room} {as' : Array Value} {Z : State} {h' : Heap} {n0 : Nat} {r r' : Int32} (e : r' = r) (H : own_MF l y w [] rm as' Z h' (fun v h L => v = some (.int r') ∧ Fr n0 L ∧ h = h')) : own_MF l y w [] rm as' Z h' (fun v h L => v = some (.int r) ∧ Fr n0 L ∧ h = h') := e ▸ H
abbrev R_own_rm11 : Room := ⟨1, 0, 0, 12⟩
theorem d11_0 : own_D cd11 0 (.aload_n 0) 1 := by decide +kernel
theorem d11_1 : own_D cd11 1 (.invokespecial 1) 3 := by decide +kernel
theorem d11_4 : own_D cd11 4 .return_ 1 := by decide +kernel
theorem own_pn0 : plainName "java/util/AbstractCollection" = true := by first | (simp [plainName, overriddenIn]; done) | decide +kernel
theorem ef0 (m : MethodId) (x0 : Addr) : entryFrame m #[(.ref x0)] 1 = mkF m 0 #[.val (.ref x0)] [] := by first | (simp [entryFrame, mkF, argsToLocals, Value.category]; done) | rfl
def Q_own_rm11 (Z : State) (a1 : Addr) (h0 : Heap) (n0 : Nat) (v : Option Value) (h : Heap) (L : List Loc) : Prop := v = none ∧ Fr n0 L ∧ h = h0
theorem own_rm11 (l : Launch) (Z : State) (a0 : Array Value) (hw : own_HW a0 Z) (ws : List Jvm.Cond) (a1 : Addr) (h0 : Heap) (n0 : Nat) (Z0 : n0 ≤ h0.size)  :
    own_MF l own_y0 (Jvm.Cond.code own_y0 jdk_22_method_1_code 1 none) ws R_own_rm11 #[.ref a1] Z h0 (Q_own_rm11 Z a1 h0 n0) := by
  refine own_begin (plainFor_of_name own_pn0) (fun m => ef0 m a1) ?_
  intro p e s m below meth c s₁ hx hby hml hown hnm hlk hret hZ X0 e0
  have N0 := Fr.nil n0
  have K0 := Keep.refl h0 []
  refine own_go (B := s₁.setTop (mkF m 1 #[Sr a1] [.ref a1])) (fun _ k => XS.aloadN X0.here hx rfl (hb hby d11_0) rfl rfl k) ?_
  refine own_iO X0 hx hZ hown (hw.w 59 rfl) (hw.w 12 rfl) (hw.w 13 rfl) e0 rfl (by rw [hml]; rfl) rfl (hb hby d11_1) (by decide) (W := 0) (by show 2 * 0 + _ ≤ _; exact Nat.le_of_eq rfl) (by decide) fun T1 X1 e1 => ?_
  refine own_go (B := T1.setTop (mkF m 4 #[Sr a1] [])) (fun _ k => k) ?_
  exact own_retV X1 hx hlk hret (hb hby d11_4) e1 ⟨rfl, N0, rfl⟩ (by decide) (by decide)
abbrev R_own_rm10 : Room := ⟨2, 0, 0, 24⟩
theorem d10_0 : own_D cd10 0 (.aload_n 0) 1 := by decide +kernel
theorem d10_1 : own_D cd10 1 (.invokespecial 1) 3 := by decide +kernel
theorem d10_4 : own_D cd10 4 .return_ 1 := by decide +kernel
theorem own_pn1 : plainName "java/util/ImmutableCollections$AbstractImmutableCollection" = true := by first | (simp [plainName, overriddenIn]; done) | decide +kernel
def Q_own_rm10 (Z : State) (a1 : Addr) (h0 : Heap) (n0 : Nat) (v : Option Value) (h : Heap) (L : List Loc) : Prop := v = none ∧ Fr n0 L ∧ h = h0
theorem own_rm10 (l : Launch) (Z : State) (a0 : Array Value) (hw : own_HW a0 Z) (ws : List Jvm.Cond) (a1 : Addr) (h0 : Heap) (n0 : Nat) (Z0 : n0 ≤ h0.size)  :
    own_MF l own_y1 (Jvm.Cond.code own_y1 jdk_47_method_1_code 1 none) ws R_own_rm10 #[.ref a1] Z h0 (Q_own_rm10 Z a1 h0 n0) := by
  refine own_begin (plainFor_of_name own_pn1) (fun m => ef0 m a1) ?_
  intro p e s m below meth c s₁ hx hby hml hown hnm hlk hret hZ X0 e0
  have N0 := Fr.nil n0
  have K0 := Keep.refl h0 []
  refine own_go (B := s₁.setTop (mkF m 1 #[Sr a1] [.ref a1])) (fun _ k => XS.aloadN X0.here hx rfl (hb hby d10_0) rfl rfl k) ?_
  refine own_cN (own_rm11 l Z a0 hw [] a1 h0 n0 (Nat.le_trans Z0 K0.1) ) X0 hx hZ hown (hw.w 53 rfl) (hw.w 54 rfl) (hw.w 57 rfl) (hw.w 58 rfl) e0 rfl rfl (by rw [hml]; rfl) (rest := []) (lenOf own_pd0 rfl) rfl (hb hby d10_1) (W := 0) (show 2 * 0 + _ = _ from rfl) (by decide) (by decide) rfl ?_
  rintro _ T1 L1 X1 ⟨rfl, N1q, e1⟩
  have N1 := Fr.app N0 N1q
  refine own_go (B := T1.setTop (mkF m 4 #[Sr a1] [])) (fun _ k => k) ?_
  exact own_retV X1 hx hlk hret (hb hby d10_4) e1 ⟨rfl, N1, rfl⟩ (by decide) (by decide)
abbrev R_own_rm9 : Room := ⟨3, 0, 0, 36⟩
theorem d9_0 : own_D cd9 0 (.aload_n 0) 1 := by decide +kernel
theorem d9_1 : own_D cd9 1 (.invokespecial 1) 3 := by decide +kernel
theorem d9_4 : own_D cd9 4 .return_ 1 := by decide +kernel
theorem own_pn2 : plainName "java/util/ImmutableCollections$AbstractImmutableSet" = true := by first | (simp [plainName, overriddenIn]; done) | decide +kernel
def Q_own_rm9 (Z : State) (a1 : Addr) (h0 : Heap) (n0 : Nat) (v : Option Value) (h : Heap) (L : List Loc) : Prop := v = none ∧ Fr n0 L ∧ h = h0
theorem own_rm9 (l : Launch) (Z : State) (a0 : Array Value) (hw : own_HW a0 Z) (ws : List Jvm.Cond) (a1 : Addr) (h0 : Heap) (n0 : Nat) (Z0 : n0 ≤ h0.size)  :
    own_MF l own_y2 (Jvm.Cond.code own_y2 jdk_100_method_1_code 1 none) ws R_own_rm9 #[.ref a1] Z h0 (Q_own_rm9 Z a1 h0 n0) := by
  refine own_begin (plainFor_of_name own_pn2) (fun m => ef0 m a1) ?_
  intro p e s m below meth c s₁ hx hby hml hown hnm hlk hret hZ X0 e0
  have N0 := Fr.nil n0
  have K0 := Keep.refl h0 []
  refine own_go (B := s₁.setTop (mkF m 1 #[Sr a1] [.ref a1])) (fun _ k => XS.aloadN X0.here hx rfl (hb hby d9_0) rfl rfl k) ?_
  refine own_cN (own_rm10 l Z a0 hw [] a1 h0 n0 (Nat.le_trans Z0 K0.1) ) X0 hx hZ hown (hw.w 47 rfl) (hw.w 48 rfl) (hw.w 51 rfl) (hw.w 52 rfl) e0 rfl rfl (by rw [hml]; rfl) (rest := []) (lenOf own_pd0 rfl) rfl (hb hby d9_1) (W := 0) (show 2 * 0 + _ = _ from rfl) (by decide) (by decide) rfl ?_
  rintro _ T1 L1 X1 ⟨rfl, N1q, e1⟩
  have N1 := Fr.app N0 N1q
  refine own_go (B := T1.setTop (mkF m 4 #[Sr a1] [])) (fun _ k => k) ?_
  exact own_retV X1 hx hlk hret (hb hby d9_4) e1 ⟨rfl, N1, rfl⟩ (by decide) (by decide)
abbrev R_own_rm41 : Room := ⟨3, 0, 0, 36⟩
theorem d41_0 : own_D cd41 0 (.aload_n 0) 1 := by decide +kernel
theorem d41_1 : own_D cd41 1 (.invokespecial 1) 3 := by decide +kernel
theorem d41_4 : own_D cd41 4 .return_ 1 := by decide +kernel
theorem own_pn3 : plainName "java/util/ImmutableCollections$AbstractImmutableList" = true := by first | (simp [plainName, overriddenIn]; done) | decide +kernel
def Q_own_rm41 (Z : State) (a1 : Addr) (h0 : Heap) (n0 : Nat) (v : Option Value) (h : Heap) (L : List Loc) : Prop := v = none ∧ Fr n0 L ∧ h = h0
theorem own_rm41 (l : Launch) (Z : State) (a0 : Array Value) (hw : own_HW a0 Z) (ws : List Jvm.Cond) (a1 : Addr) (h0 : Heap) (n0 : Nat) (Z0 : n0 ≤ h0.size)  :
    own_MF l own_y3 (Jvm.Cond.code own_y3 jdk_46_method_1_code 1 none) ws R_own_rm41 #[.ref a1] Z h0 (Q_own_rm41 Z a1 h0 n0) := by
  refine own_begin (plainFor_of_name own_pn3) (fun m => ef0 m a1) ?_
  intro p e s m below meth c s₁ hx hby hml hown hnm hlk hret hZ X0 e0
  have N0 := Fr.nil n0
  have K0 := Keep.refl h0 []
  refine own_go (B := s₁.setTop (mkF m 1 #[Sr a1] [.ref a1])) (fun _ k => XS.aloadN X0.here hx rfl (hb hby d41_0) rfl rfl k) ?_
  refine own_cN (own_rm10 l Z a0 hw [] a1 h0 n0 (Nat.le_trans Z0 K0.1) ) X0 hx hZ hown (hw.w 233 rfl) (hw.w 48 rfl) (hw.w 51 rfl) (hw.w 52 rfl) e0 rfl rfl (by rw [hml]; rfl) (rest := []) (lenOf own_pd0 rfl) rfl (hb hby d41_1) (W := 0) (show 2 * 0 + _ = _ from rfl) (by decide) (by decide) rfl ?_
  rintro _ T1 L1 X1 ⟨rfl, N1q, e1⟩
  have N1 := Fr.app N0 N1q
  refine own_go (B := T1.setTop (mkF m 4 #[Sr a1] [])) (fun _ k => k) ?_
  exact own_retV X1 hx hlk hret (hb hby d41_4) e1 ⟨rfl, N1, rfl⟩ (by decide) (by decide)
abbrev R_own_rm12 : Room := ⟨0, 0, 0, 0⟩
theorem d12_0 : own_D cd12 0 (.aload_n 0) 1 := by decide +kernel
theorem d12_1 : own_D cd12 1 (.ifnonnull 11) 3 := by decide +kernel
theorem d12_12 : own_D cd12 12 (.aload_n 0) 1 := by decide +kernel
theorem d12_13 : own_D cd12 13 .areturn 1 := by decide +kernel
theorem own_pn4 : plainName "java/util/Objects" = true := by first | (simp [plainName, overriddenIn]; done) | decide +kernel
def Q_own_rm12 (Z : State) (a1 : Addr) (h0 : Heap) (n0 : Nat) (v : Option Value) (h : Heap) (L : List Loc) : Prop := v = some (.ref a1) ∧ Fr n0 L ∧ h = h0
theorem own_rm12 (l : Launch) (Z : State) (a0 : Array Value) (hw : own_HW a0 Z) (ws : List Jvm.Cond) (a1 : Addr) (h0 : Heap) (n0 : Nat) (Z0 : n0 ≤ h0.size)  :
    own_MF l own_y4 (Jvm.Cond.code own_y4 jdk_31_method_10_code 1 (some (.object "java/lang/Object"))) ws R_own_rm12 #[.ref a1] Z h0 (Q_own_rm12 Z a1 h0 n0) := by
  refine own_begin (plainFor_of_name own_pn4) (fun m => ef0 m a1) ?_
  intro p e s m below meth c s₁ hx hby hml hown hnm hlk hret hZ X0 e0
  have N0 := Fr.nil n0
  have K0 := Keep.refl h0 []
  refine own_go (B := s₁.setTop (mkF m 13 #[Sr a1] [.ref a1])) (fun _ k => XS.aloadN X0.here hx rfl (hb hby d12_0) rfl rfl (XS.ifnonnullYes X0.here hx rfl (pc0 := 1) (pc' := 12) rfl (hb hby d12_1) rfl (by decide) (by decide) (XS.aloadN X0.here hx rfl (hb hby d12_12) rfl rfl k))) ?_
  exact own_retA X0 hx hlk hret rfl rfl (hb hby d12_13) e0 ⟨rfl, N0, rfl⟩ (by decide) (by decide)
abbrev R_own_rm15 : Room := ⟨0, 0, 0, 0⟩
theorem d15_0 : own_D cd15 0 (.aload_n 0) 1 := by decide +kernel
theorem d15_1 : own_D cd15 1 (.ifnonnull 12) 3 := by decide +kernel
theorem d15_13 : own_D cd15 13 (.aload_n 0) 1 := by decide +kernel
theorem d15_14 : own_D cd15 14 .areturn 1 := by decide +kernel
theorem ef1 (m : MethodId) (x0 x1 : Addr) : entryFrame m #[(.ref x0), (.ref x1)] 2 = mkF m 0 #[.val (.ref x0), .val (.ref x1)] [] := by first | (simp [entryFrame, mkF, argsToLocals, Value.category]; done) | rfl
def Q_own_rm15 (Z : State) (a1 a2 : Addr) (h0 : Heap) (n0 : Nat) (v : Option Value) (h : Heap) (L : List Loc) : Prop := v = some (.ref a1) ∧ Fr n0 L ∧ h = h0
theorem own_rm15 (l : Launch) (Z : State) (a0 : Array Value) (hw : own_HW a0 Z) (ws : List Jvm.Cond) (a1 a2 : Addr) (h0 : Heap) (n0 : Nat) (Z0 : n0 ≤ h0.size)  :
    own_MF l own_y5 (Jvm.Cond.code own_y5 jdk_31_method_11_code 2 (some (.object "java/lang/Object"))) ws R_own_rm15 #[.ref a1, .ref a2] Z h0 (Q_own_rm15 Z a1 a2 h0 n0) := by
  refine own_begin (plainFor_of_name own_pn4) (fun m => ef1 m a1 a2) ?_
  intro p e s m below meth c s₁ hx hby hml hown hnm hlk hret hZ X0 e0
  have N0 := Fr.nil n0
  have K0 := Keep.refl h0 []
  refine own_go (B := s₁.setTop (mkF m 14 #[Sr a1, Sr a2] [.ref a1])) (fun _ k => XS.aloadN X0.here hx rfl (hb hby d15_0) rfl rfl (XS.ifnonnullYes X0.here hx rfl (pc0 := 1) (pc' := 13) rfl (hb hby d15_1) rfl (by decide) (by decide) (XS.aloadN X0.here hx rfl (hb hby d15_13) rfl rfl k))) ?_
  exact own_retA X0 hx hlk hret rfl rfl (hb hby d15_14) e0 ⟨rfl, N0, rfl⟩ (by decide) (by decide)
abbrev R_own_rm8 : Room := ⟨4, 0, 0, 48⟩
theorem d8_0 : own_D cd8 0 (.aload_n 0) 1 := by decide +kernel
theorem d8_1 : own_D cd8 1 (.invokespecial 1) 3 := by decide +kernel
theorem d8_4 : own_D cd8 4 (.aload_n 0) 1 := by decide +kernel
theorem d8_5 : own_D cd8 5 (.aload_n 1) 1 := by decide +kernel
theorem d8_6 : own_D cd8 6 (.invokestatic 7) 3 := by decide +kernel
theorem d8_9 : own_D cd8 9 (.putfield 13) 3 := by decide +kernel
theorem d8_12 : own_D cd8 12 (.aload_n 0) 1 := by decide +kernel
theorem d8_13 : own_D cd8 13 (.getstatic 19) 3 := by decide +kernel
theorem d8_16 : own_D cd8 16 (.putfield 24) 3 := by decide +kernel
theorem d8_19 : own_D cd8 19 .return_ 1 := by decide +kernel
theorem own_pn5 : plainName "java/util/ImmutableCollections$Set12" = true := by first | (simp [plainName, overriddenIn]; done) | decide +kernel
def Q_own_rm8 (Z : State) (a1 a2 em : Addr) (h0 : Heap) (n0 : Nat) (v : Option Value) (h : Heap) (L : List Loc) : Prop := v = none ∧ Fr n0 L ∧ Keep h0 h [a1] ∧ Exa Z h a1 nn1_ ∧ Fld Z h a1 nn1_ "e0" nn9_ (.ref a2) ∧ Fld Z h a1 nn1_ "e1" nn9_ (.ref em)
theorem own_rm8 (l : Launch) (Z : State) (a0 : Array Value) (hw : own_HW a0 Z) (ws : List Jvm.Cond) (a1 a2 em : Addr) (h0 : Heap) (n0 : Nat) (Z0 : n0 ≤ h0.size) (P_E_a1 : Exa Z h0 a1 nn1_) (P_F_a1_e0 : Fld Z h0 a1 nn1_ "e0" nn9_ .null) (P_F_a1_e1 : Fld Z h0 a1 nn1_ "e1" nn9_ .null) (P_S_EMPTY : Sta Z h0 nn15_ "EMPTY" nn9_ (.ref em)) (g_a1 : n0 ≤ a1) :
    own_MF l own_y6 (Jvm.Cond.code own_y6 jdk_101_method_1_code 2 none) ws R_own_rm8 #[.ref a1, .ref a2] Z h0 (Q_own_rm8 Z a1 a2 em h0 n0) := by
  refine own_begin (plainFor_of_name own_pn5) (fun m => ef1 m a1 a2) ?_
  intro p e s m below meth c s₁ hx hby hml hown hnm hlk hret hZ X0 e0
  have N0 := Fr.nil n0
  have K0 := Keep.refl h0 [a1]
  refine own_go (B := s₁.setTop (mkF m 1 #[Sr a1, Sr a2] [.ref a1])) (fun _ k => XS.aloadN X0.here hx rfl (hb hby d8_0) rfl rfl k) ?_
  refine own_cN (own_rm9 l Z a0 hw [] a1 h0 n0 (Nat.le_trans Z0 K0.1) ) X0 hx hZ hown (hw.w 41 rfl) (hw.w 42 rfl) (hw.w 45 rfl) (hw.w 46 rfl) e0 rfl rfl (by rw [hml]; rfl) (rest := []) (lenOf own_pd0 rfl) rfl (hb hby d8_1) (W := 0) (show 2 * 0 + _ = _ from rfl) (by decide) (by decide) rfl ?_
  rintro _ T1 L1 X1 ⟨rfl, N1q, e1⟩
  have N1 := Fr.app N0 N1q
  refine own_go (B := T1.setTop (mkF m 6 #[Sr a1, Sr a2] [.ref a2, .ref a1])) (fun _ k => XS.aloadN X1.here hx rfl (hb hby d8_4) rfl rfl (XS.aloadN X1.here hx rfl (hb hby d8_5) rfl rfl k)) ?_
  refine own_cS (own_rm12 l Z a0 hw [] a2 h0 n0 (Nat.le_trans Z0 K0.1) ) X1 hx hZ hown (hw.w 60 rfl) (hw.w 61 rfl) (hw.w 62 rfl) (hw.w 63 rfl) e1 rfl rfl (by rw [hml]; rfl) (rest := [.ref a1]) (lenOf own_pd1 rfl) rfl (hb hby d8_6) (W := 1) (show 2 * 0 + _ = _ from rfl) (by decide) (by decide) ?_
  rintro _ T2 L2 X2 ⟨rfl, N2q, e2⟩
  have N2 := Fr.app N1 N2q
  refine own_go (B := T2.setTop (mkF m 9 #[Sr a1, Sr a2] [.ref a2, .ref a1])) (fun _ k => k) ?_
  refine own_pF X2 hx hZ hown (hw.w 64 rfl) Via.refl e2 P_F_a1_e0 P_E_a1 (Or.inr ⟨(hw.w 65 rfl), rfl, hnm⟩) (hw.w 35 rfl) (ty := (.object "java/lang/Object")) (v := (.ref a2)) (by decide) rfl rfl rfl rfl (hb hby d8_9) fun T3 h3 X3 e3 W3 => ?_
  have F_w3 : Fld Z h3 a1 nn1_ "e0" nn9_ (.ref a2) := P_F_a1_e0.same W3
  have E_5 := P_E_a1.wr W3
  have F_7 := P_F_a1_e1.other W3 (Or.inr (slot_ne (Or.inr (hw.w 69 rfl)) (Or.inr (hw.w 65 rfl)) (by decide) (t := (.object "java/lang/Object")) (t' := (.object "java/lang/Object")) (by decide) (by decide)))
  have S_8 := P_S_EMPTY.wr W3
  have K9 : Keep h0 h3 [a1] := K0.wr W3 (Or.inl (List.mem_of_getElem? (i := 0) rfl))
  have N3 := Fr.snoc X3 N2 g_a1
  refine own_go (B := T3.setTop (mkF m 13 #[Sr a1, Sr a2] [.ref a1])) (fun _ k => XS.aloadN X3.here hx rfl (hb hby d8_12) rfl rfl k) ?_
  obtain ⟨T10, X10, e10, st10⟩ := getS2 X3 hx hZ hown (Or.inr (hw.w 66 rfl)) Via.refl e3 S_8 (g := (mkF m 13 #[Sr a1, Sr a2] [.ref a1])) rfl (hb hby d8_13)
  refine own_go (B := T10.setTop (mkF m 16 #[Sr a1, Sr a2] [.ref em, .ref a1])) (fun _ k => st10 _ k) ?_
  refine own_pF X10 hx hZ hown (hw.w 68 rfl) Via.refl e10 F_7 E_5 (Or.inr ⟨(hw.w 69 rfl), rfl, hnm⟩) (hw.w 35 rfl) (ty := (.object "java/lang/Object")) (v := (.ref em)) (by decide) rfl rfl rfl rfl (hb hby d8_16) fun T11 h11 X11 e11 W11 => ?_
  have F_w11 : Fld Z h11 a1 nn1_ "e1" nn9_ (.ref em) := F_7.same W11
  have E_13 := E_5.wr W11
  have F_16 := F_w3.other W11 (Or.inr (slot_ne (Or.inr (hw.w 65 rfl)) (Or.inr (hw.w 69 rfl)) (by decide) (t := (.object "java/lang/Object")) (t' := (.object "java/lang/Object")) (by decide) (by decide)))
  have K17 : Keep h0 h11 [a1] := K9.wr W11 (Or.inl (List.mem_of_getElem? (i := 0) rfl))
  have N11 := Fr.snoc X11 N3 g_a1
  refine own_go (B := T11.setTop (mkF m 19 #[Sr a1, Sr a2] [])) (fun _ k => k) ?_
  exact own_retV X11 hx hlk hret (hb hby d8_19) e11 ⟨rfl, N11, K17, E_13, F_16, F_w11⟩ (by decide) (by decide)
abbrev R_own_rm7 : Room := ⟨5, 1, 2, 62⟩
theorem d7_0 : own_D cd7 0 (.new 15) 3 := by decide +kernel
theorem d7_3 : own_D cd7 3 .dup 1 := by decide +kernel
theorem d7_4 : own_D cd7 4 (.aload_n 0) 1 := by decide +kernel
theorem d7_5 : own_D cd7 5 (.invokespecial 17) 3 := by decide +kernel
theorem d7_8 : own_D cd7 8 .areturn 1 := by decide +kernel
theorem own_pn6 : plainName "java/util/Set" = true := by first | (simp [plainName, overriddenIn]; done) | decide +kernel
def Q_own_rm7 (Z : State) (a2 em : Addr) (h0 : Heap) (n0 : Nat) (v : Option Value) (h : Heap) (L : List Loc) : Prop := ∃ b : Addr, v = some (.ref b) ∧ Fr n0 L ∧ Keep h0 h [] ∧ Exa Z h b nn1_ ∧ Fld Z h b nn1_ "e0" nn9_ (.ref a2) ∧ Fld Z h b nn1_ "e1" nn9_ (.ref em) ∧ (h0.size ≤ b)
theorem own_rm7 (l : Launch) (Z : State) (a0 : Array Value) (hw : own_HW a0 Z) (ws : List Jvm.Cond) (a2 em : Addr) (h0 : Heap) (n0 : Nat) (Z0 : n0 ≤ h0.size) (P_S_EMPTY : Sta Z h0 nn15_ "EMPTY" nn9_ (.ref em)) :
    own_MF l own_y7 (Jvm.Cond.code own_y7 jdk_96_method_18_code 1 (some (.object "java/util/Set"))) ws R_own_rm7 #[.ref a2] Z h0 (Q_own_rm7 Z a2 em h0 n0) := by
  refine own_begin (plainFor_of_name own_pn6) (fun m => ef0 m a2) ?_
  intro p e s m below meth c s₁ hx hby hml hown hnm hlk hret hZ X0 e0
  have N0 := Fr.nil n0
  have K0 := Keep.refl h0 []
  obtain ⟨T1, h1, X1, e1, E1, A1, D1, -, st1⟩ := newO X0 hx hZ hown (hw.w 34 rfl) (hw.w 35 rfl) (hw.w 36 rfl) e0 (g := (mkF m 0 #[Sr a2] [])) rfl (hb hby d7_0) (by decide) (by decide)
  obtain ⟨b1, g1⟩ : ∃ z, z = h0.size := ⟨_, rfl⟩
  rw [← g1] at A1 D1 st1
  have sz_b1 : h0.size ≤ b1 := Nat.le_trans K0.1 (Nat.le_of_eq g1.symm)
  have g_b1 : n0 ≤ b1 := Nat.le_trans Z0 sz_b1
  have S_3 := P_S_EMPTY.ext E1
  have F_e0_b1 : Fld Z h1 b1 nn1_ "e0" nn9_ .null := D1 (Or.inr (hw.w 65 rfl)) (ty := (.object "java/lang/Object")) (by decide)
  have F_e1_b1 : Fld Z h1 b1 nn1_ "e1" nn9_ .null := D1 (Or.inr (hw.w 69 rfl)) (ty := (.object "java/lang/Object")) (by decide)
  have K4 : Keep h0 h1 [] := K0.ext E1
  refine own_go (B := T1.setTop (mkF m 5 #[Sr a2] [.ref a2, .ref b1, .ref b1])) (fun _ k => st1 _ (XS.dup X1.here hx rfl (hb hby d7_3) rfl rfl (XS.aloadN X1.here hx rfl (hb hby d7_4) rfl rfl k))) ?_
  refine own_cN (own_rm8 l Z a0 hw [] b1 a2 em h1 n0 (Nat.le_trans Z0 K4.1) A1 F_e0_b1 F_e1_b1 S_3 g_b1) X1 hx hZ hown (hw.w 37 rfl) (hw.w 38 rfl) (hw.w 36 rfl) (hw.w 40 rfl) e1 rfl rfl (by rw [hml]; rfl) (rest := [.ref b1]) (lenOf own_pd2 rfl) rfl (hb hby d7_5) (W := 1) (show 2 * 0 + _ = _ from rfl) (by decide) (by decide) rfl ?_
  rintro _ T5 L5 X5 ⟨rfl, N5q, K5q, Q5_0, Q5_1, Q5_2⟩
  have N5 := Fr.app N0 N5q
  have K11 : Keep h0 T5.heap [] := K4.trans K5q (allS (Or.inr sz_b1) all0)
  refine own_go (B := T5.setTop (mkF m 8 #[Sr a2] [.ref b1])) (fun _ k => k) ?_
  exact own_retA X5 hx hlk hret rfl rfl (hb hby d7_8) rfl ⟨b1, rfl, N5, K11, Q5_0, Q5_1, Q5_2, sz_b1⟩ (by decide) (by decide)
abbrev R_own_rm40 : Room := ⟨4, 0, 0, 48⟩
theorem d40_0 : own_D cd40 0 (.aload_n 0) 1 := by decide +kernel
theorem d40_1 : own_D cd40 1 (.invokespecial 1) 3 := by decide +kernel
theorem d40_4 : own_D cd40 4 (.aload_n 0) 1 := by decide +kernel
theorem d40_5 : own_D cd40 5 (.aload_n 1) 1 := by decide +kernel
theorem d40_6 : own_D cd40 6 (.invokestatic 7) 3 := by decide +kernel
theorem d40_9 : own_D cd40 9 (.putfield 13) 3 := by decide +kernel
theorem d40_12 : own_D cd40 12 (.aload_n 0) 1 := by decide +kernel
theorem d40_13 : own_D cd40 13 (.getstatic 19) 3 := by decide +kernel
theorem d40_16 : own_D cd40 16 (.putfield 24) 3 := by decide +kernel
theorem d40_19 : own_D cd40 19 .return_ 1 := by decide +kernel
theorem own_pn7 : plainName "java/util/ImmutableCollections$List12" = true := by first | (simp [plainName, overriddenIn]; done) | decide +kernel
def Q_own_rm40 (Z : State) (a1 a2 em : Addr) (h0 : Heap) (n0 : Nat) (v : Option Value) (h : Heap) (L : List Loc) : Prop := v = none ∧ Fr n0 L ∧ Keep h0 h [a1] ∧ Exa Z h a1 nn2_ ∧ Fld Z h a1 nn2_ "e0" nn9_ (.ref a2) ∧ Fld Z h a1 nn2_ "e1" nn9_ (.ref em)
theorem own_rm40 (l : Launch) (Z : State) (a0 : Array Value) (hw : own_HW a0 Z) (ws : List Jvm.Cond) (a1 a2 em : Addr) (h0 : Heap) (n0 : Nat) (Z0 : n0 ≤ h0.size) (P_E_a1 : Exa Z h0 a1 nn2_) (P_F_a1_e0 : Fld Z h0 a1 nn2_ "e0" nn9_ .null) (P_F_a1_e1 : Fld Z h0 a1 nn2_ "e1" nn9_ .null) (P_S_EMPTY : Sta Z h0 nn15_ "EMPTY" nn9_ (.ref em)) (g_a1 : n0 ≤ a1) :
    own_MF l own_y8 (Jvm.Cond.code own_y8 jdk_44_method_1_code 2 none) ws R_own_rm40 #[.ref a1, .ref a2] Z h0 (Q_own_rm40 Z a1 a2 em h0 n0) := by
  refine own_begin (plainFor_of_name own_pn7) (fun m => ef1 m a1 a2) ?_
  intro p e s m below meth c s₁ hx hby hml hown hnm hlk hret hZ X0 e0
  have N0 := Fr.nil n0
  have K0 := Keep.refl h0 [a1]
  refine own_go (B := s₁.setTop (mkF m 1 #[Sr a1, Sr a2] [.ref a1])) (fun _ k => XS.aloadN X0.here hx rfl (hb hby d40_0) rfl rfl k) ?_
  refine own_cN (own_rm41 l Z a0 hw [] a1 h0 n0 (Nat.le_trans Z0 K0.1) ) X0 hx hZ hown (hw.w 227 rfl) (hw.w 228 rfl) (hw.w 231 rfl) (hw.w 232 rfl) e0 rfl rfl (by rw [hml]; rfl) (rest := []) (lenOf own_pd0 rfl) rfl (hb hby d40_1) (W := 0) (show 2 * 0 + _ = _ from rfl) (by decide) (by decide) rfl ?_
  rintro _ T1 L1 X1 ⟨rfl, N1q, e1⟩
  have N1 := Fr.app N0 N1q
  refine own_go (B := T1.setTop (mkF m 6 #[Sr a1, Sr a2] [.ref a2, .ref a1])) (fun _ k => XS.aloadN X1.here hx rfl (hb hby d40_4) rfl rfl (XS.aloadN X1.here hx rfl (hb hby d40_5) rfl rfl k)) ?_
  refine own_cS (own_rm12 l Z a0 hw [] a2 h0 n0 (Nat.le_trans Z0 K0.1) ) X1 hx hZ hown (hw.w 236 rfl) (hw.w 61 rfl) (hw.w 62 rfl) (hw.w 63 rfl) e1 rfl rfl (by rw [hml]; rfl) (rest := [.ref a1]) (lenOf own_pd1 rfl) rfl (hb hby d40_6) (W := 1) (show 2 * 0 + _ = _ from rfl) (by decide) (by decide) ?_
  rintro _ T2 L2 X2 ⟨rfl, N2q, e2⟩
  have N2 := Fr.app N1 N2q
  refine own_go (B := T2.setTop (mkF m 9 #[Sr a1, Sr a2] [.ref a2, .ref a1])) (fun _ k => k) ?_
  refine own_pF X2 hx hZ hown (hw.w 237 rfl) Via.refl e2 P_F_a1_e0 P_E_a1 (Or.inr ⟨(hw.w 238 rfl), rfl, hnm⟩) (hw.w 221 rfl) (ty := (.object "java/lang/Object")) (v := (.ref a2)) (by decide) rfl rfl rfl rfl (hb hby d40_9) fun T3 h3 X3 e3 W3 => ?_
  have F_w3 : Fld Z h3 a1 nn2_ "e0" nn9_ (.ref a2) := P_F_a1_e0.same W3
  have E_5 := P_E_a1.wr W3
  have F_7 := P_F_a1_e1.other W3 (Or.inr (slot_ne (Or.inr (hw.w 241 rfl)) (Or.inr (hw.w 238 rfl)) (by decide) (t := (.object "java/lang/Object")) (t' := (.object "java/lang/Object")) (by decide) (by decide)))
  have S_8 := P_S_EMPTY.wr W3
  have K9 : Keep h0 h3 [a1] := K0.wr W3 (Or.inl (List.mem_of_getElem? (i := 0) rfl))
  have N3 := Fr.snoc X3 N2 g_a1
  refine own_go (B := T3.setTop (mkF m 13 #[Sr a1, Sr a2] [.ref a1])) (fun _ k => XS.aloadN X3.here hx rfl (hb hby d40_12) rfl rfl k) ?_
  obtain ⟨T10, X10, e10, st10⟩ := getS2 X3 hx hZ hown (Or.inr (hw.w 239 rfl)) Via.refl e3 S_8 (g := (mkF m 13 #[Sr a1, Sr a2] [.ref a1])) rfl (hb hby d40_13)
  refine own_go (B := T10.setTop (mkF m 16 #[Sr a1, Sr a2] [.ref em, .ref a1])) (fun _ k => st10 _ k) ?_
  refine own_pF X10 hx hZ hown (hw.w 240 rfl) Via.refl e10 F_7 E_5 (Or.inr ⟨(hw.w 241 rfl), rfl, hnm⟩) (hw.w 221 rfl) (ty := (.object "java/lang/Object")) (v := (.ref em)) (by decide) rfl rfl rfl rfl (hb hby d40_16) fun T11 h11 X11 e11 W11 => ?_
  have F_w11 : Fld Z h11 a1 nn2_ "e1" nn9_ (.ref em) := F_7.same W11
  have E_13 := E_5.wr W11
  have F_16 := F_w3.other W11 (Or.inr (slot_ne (Or.inr (hw.w 238 rfl)) (Or.inr (hw.w 241 rfl)) (by decide) (t := (.object "java/lang/Object")) (t' := (.object "java/lang/Object")) (by decide) (by decide)))
  have K17 : Keep h0 h11 [a1] := K9.wr W11 (Or.inl (List.mem_of_getElem? (i := 0) rfl))
  have N11 := Fr.snoc X11 N3 g_a1
  refine own_go (B := T11.setTop (mkF m 19 #[Sr a1, Sr a2] [])) (fun _ k => k) ?_
  exact own_retV X11 hx hlk hret (hb hby d40_19) e11 ⟨rfl, N11, K17, E_13, F_16, F_w11⟩ (by decide) (by decide)
abbrev R_own_rm39 : Room := ⟨5, 1, 2, 62⟩
theorem d39_0 : own_D cd39 0 (.new 96) 3 := by decide +kernel
theorem d39_3 : own_D cd39 3 .dup 1 := by decide +kernel
theorem d39_4 : own_D cd39 4 (.aload_n 0) 1 := by decide +kernel
theorem d39_5 : own_D cd39 5 (.invokespecial 98) 3 := by decide +kernel
theorem d39_8 : own_D cd39 8 .areturn 1 := by decide +kernel
theorem own_pn8 : plainName "java/util/List" = true := by first | (simp [plainName, overriddenIn]; done) | decide +kernel
def Q_own_rm39 (Z : State) (a2 em : Addr) (h0 : Heap) (n0 : Nat) (v : Option Value) (h : Heap) (L : List Loc) : Prop := ∃ b : Addr, v = some (.ref b) ∧ Fr n0 L ∧ Keep h0 h [] ∧ Exa Z h b nn2_ ∧ Fld Z h b nn2_ "e0" nn9_ (.ref a2) ∧ Fld Z h b nn2_ "e1" nn9_ (.ref em) ∧ (h0.size ≤ b)
theorem own_rm39 (l : Launch) (Z : State) (a0 : Array Value) (hw : own_HW a0 Z) (ws : List Jvm.Cond) (a2 em : Addr) (h0 : Heap) (n0 : Nat) (Z0 : n0 ≤ h0.size) (P_S_EMPTY : Sta Z h0 nn15_ "EMPTY" nn9_ (.ref em)) :
    own_MF l own_y9 (Jvm.Cond.code own_y9 jdk_40_method_37_code 1 (some (.object "java/util/List"))) ws R_own_rm39 #[.ref a2] Z h0 (Q_own_rm39 Z a2 em h0 n0) := by
  refine own_begin (plainFor_of_name own_pn8) (fun m => ef0 m a2) ?_
  intro p e s m below meth c s₁ hx hby hml hown hnm hlk hret hZ X0 e0
  have N0 := Fr.nil n0
  have K0 := Keep.refl h0 []
  obtain ⟨T1, h1, X1, e1, E1, A1, D1, -, st1⟩ := newO X0 hx hZ hown (hw.w 220 rfl) (hw.w 221 rfl) (hw.w 222 rfl) e0 (g := (mkF m 0 #[Sr a2] [])) rfl (hb hby d39_0) (by decide) (by decide)
  obtain ⟨b1, g1⟩ : ∃ z, z = h0.size := ⟨_, rfl⟩
  rw [← g1] at A1 D1 st1
  have sz_b1 : h0.size ≤ b1 := Nat.le_trans K0.1 (Nat.le_of_eq g1.symm)
  have g_b1 : n0 ≤ b1 := Nat.le_trans Z0 sz_b1
  have S_3 := P_S_EMPTY.ext E1
  have F_e0_b1 : Fld Z h1 b1 nn2_ "e0" nn9_ .null := D1 (Or.inr (hw.w 238 rfl)) (ty := (.object "java/lang/Object")) (by decide)
  have F_e1_b1 : Fld Z h1 b1 nn2_ "e1" nn9_ .null := D1 (Or.inr (hw.w 241 rfl)) (ty := (.object "java/lang/Object")) (by decide)
  have K4 : Keep h0 h1 [] := K0.ext E1
  refine own_go (B := T1.setTop (mkF m 5 #[Sr a2] [.ref a2, .ref b1, .ref b1])) (fun _ k => st1 _ (XS.dup X1.here hx rfl (hb hby d39_3) rfl rfl (XS.aloadN X1.here hx rfl (hb hby d39_4) rfl rfl k))) ?_
  refine own_cN (own_rm40 l Z a0 hw [] b1 a2 em h1 n0 (Nat.le_trans Z0 K4.1) A1 F_e0_b1 F_e1_b1 S_3 g_b1) X1 hx hZ hown (hw.w 223 rfl) (hw.w 224 rfl) (hw.w 222 rfl) (hw.w 226 rfl) e1 rfl rfl (by rw [hml]; rfl) (rest := [.ref b1]) (lenOf own_pd2 rfl) rfl (hb hby d39_5) (W := 1) (show 2 * 0 + _ = _ from rfl) (by decide) (by decide) rfl ?_
  rintro _ T5 L5 X5 ⟨rfl, N5q, K5q, Q5_0, Q5_1, Q5_2⟩
  have N5 := Fr.app N0 N5q
  have K11 : Keep h0 T5.heap [] := K4.trans K5q (allS (Or.inr sz_b1) all0)
  refine own_go (B := T5.setTop (mkF m 8 #[Sr a2] [.ref b1])) (fun _ k => k) ?_
  exact own_retA X5 hx hlk hret rfl rfl (hb hby d39_8) rfl ⟨b1, rfl, N5, K11, Q5_0, Q5_1, Q5_2, sz_b1⟩ (by decide) (by decide)
abbrev R_own_cmpI1 : Room := ⟨0, 0, 0, 0⟩
theorem d5_0 : own_D cd5 0 (.iconst 0) 1 := by decide +kernel
theorem d5_1 : own_D cd5 1 (.istore 5) 2 := by decide +kernel
theorem d5_3 : own_D cd5 3 (.iload 5) 2 := by decide +kernel
theorem d5_5 : own_D cd5 5 (.iload 4) 2 := by decide +kernel
theorem d5_7 : own_D cd5 7 (.if_icmp .ge 37) 3 := by decide +kernel
theorem d5_10 : own_D cd5 10 (.aload_n 0) 1 := by decide +kernel
theorem d5_11 : own_D cd5 11 (.iload_n 1) 1 := by decide +kernel
theorem d5_12 : own_D cd5 12 .caload 1 := by decide +kernel
theorem d5_13 : own_D cd5 13 (.istore 6) 2 := by decide +kernel
theorem d5_15 : own_D cd5 15 (.iload 6) 2 := by decide +kernel
theorem d5_17 : own_D cd5 17 (.sipush 255) 3 := by decide +kernel
theorem d5_20 : own_D cd5 20 (.if_icmp .le 6) 3 := by decide +kernel
theorem d5_26 : own_D cd5 26 (.aload_n 2) 1 := by decide +kernel
theorem d5_27 : own_D cd5 27 (.iload_n 3) 1 := by decide +kernel
theorem d5_28 : own_D cd5 28 (.iload 6) 2 := by decide +kernel
theorem d5_30 : own_D cd5 30 .i2b 1 := by decide +kernel
theorem d5_31 : own_D cd5 31 .bastore 1 := by decide +kernel
theorem d5_32 : own_D cd5 32 (.iinc 1 1) 3 := by decide +kernel
theorem d5_35 : own_D cd5 35 (.iinc 3 1) 3 := by decide +kernel
theorem d5_38 : own_D cd5 38 (.iinc 5 1) 3 := by decide +kernel
theorem d5_41 : own_D cd5 41 (.goto (-38)) 3 := by decide +kernel
theorem d5_44 : own_D cd5 44 (.iload 4) 2 := by decide +kernel
theorem d5_46 : own_D cd5 46 .ireturn 1 := by decide +kernel
theorem own_pn9 : plainName "java/lang/StringUTF16" = true := by first | (simp [plainName, overriddenIn]; done) | decide +kernel
theorem ef2 (m : MethodId) (x0 x2 : Addr) : entryFrame m #[(.ref x0), (.int 0), (.ref x2), (.int 0), (.int 1)] 7 = mkF m 0 #[.val (.ref x0), .val (.int 0), .val (.ref x2), .val (.int 0), .val (.int 1), .unset, .unset] [] := by first | (simp [entryFrame, mkF, argsToLocals, Value.category]; done) | rfl
theorem own_pl_cmpI1_1 (c0 : Int32) (hh0 : c0.toInt ≤ 255) : ¬ ((255 : Int32) < c0) := by
  have := rng32 c0
  try simp only [own_i32_255] at *
  have := own_i32_255
  try simp only [Int32.lt_iff_toInt_lt, Int32.le_iff_toInt_le, ← Int32.toInt_inj, true_and, and_true, true_or, or_true, false_or, or_false, not_true_eq_false, not_false_eq_true, false_and, and_false, ne_eq] at *
  all_goals first | omega | (simp; done)
def Q_own_cmpI1 (Z : State) (a1 a3 : Addr) (k1 k3 : ClassId) (c0 : Int32) (h0 : Heap) (n0 : Nat) (v : Option Value) (h : Heap) (L : List Loc) : Prop := v = some (.int 1) ∧ Fr n0 L ∧ Keep h0 h [a3] ∧ Arv Z h a3 k3 .byte 1 [(.int (c0.toInt8.toInt32))] (.int 0)
theorem own_cmpI1 (l : Launch) (Z : State) (a0 : Array Value) (hw : own_HW a0 Z) (ws : List Jvm.Cond) (a1 a3 : Addr) (k1 k3 : ClassId) (c0 : Int32) (h0 : Heap) (n0 : Nat) (Z0 : n0 ≤ h0.size) (P_V_a1 : Arv Z h0 a1 k1 .char 1 [.int c0] (.int 0)) (P_V_a3 : Arv Z h0 a3 k3 .byte 1 [.int 0] (.int 0)) (g_a3 : n0 ≤ a3) (ne_a1_a3 : a1 ≠ a3) (hh0 : c0.toInt ≤ 255) :
    own_MF l own_y10 (Jvm.Cond.code own_y10 jdk_52_method_21_code 7 (some .int)) ws R_own_cmpI1 #[.ref a1, .int 0, .ref a3, .int 0, .int 1] Z h0 (Q_own_cmpI1 Z a1 a3 k1 k3 c0 h0 n0) := by
  refine own_begin (plainFor_of_name own_pn9) (fun m => ef2 m a1 a3) ?_
  intro p e s m below meth c s₁ hx hby hml hown hnm hlk hret hZ X0 e0
  have N0 := Fr.nil n0
  have K0 := Keep.refl h0 [a3]
  refine own_go (B := s₁.setTop (mkF m 7 #[Sr a1, Si 0, Sr a3, Si 0, Si 1, Si 0, Su] [.int 1, .int 0])) (fun _ k => XS.iconst X0.here hx rfl (hb hby d5_0) (XS.istore X0.here hx rfl (hb hby d5_1) rfl (l' := #[Sr a1, Si 0, Sr a3, Si 0, Si 1, Si 0, Su]) rfl (XS.iload X0.here hx rfl (hb hby d5_3) rfl (XS.iload X0.here hx rfl (hb hby d5_5) rfl  k)))) ?_
  have hc1 : (0 : Int32) < (1 : Int32) := by decide
  refine own_go (B := s₁.setTop (mkF m 12 #[Sr a1, Si 0, Sr a3, Si 0, Si 1, Si 0, Su] [.int 0, .ref a1])) (fun _ k => XS.icmpNo X0.here hx rfl (hb hby d5_7) rfl (tlt hc1).2.1 (XS.aloadN X0.here hx rfl (hb hby d5_10) rfl rfl (XS.iloadN X0.here hx rfl (hb hby d5_11) rfl  k))) ?_
  obtain ⟨cl2, Ar2, q2, S2, N2n, H2, G2⟩ := id P_V_a1
  have hin3 : ¬ ((0 : Int32) < 0 ∨ cl2.slots.size ≤ ((0 : Int32)).toNatClampNeg) := inb_of S2 ⟨by decide, by decide⟩
  have hat3 : cl2.slots[((0 : Int32)).toNatClampNeg]? = some (.int c0) := H2.at hin3 rfl
  refine own_go (B := s₁.setTop (mkF m 20 #[Sr a1, Si 0, Sr a3, Si 0, Si 1, Si 0, Si c0] [.int 255, .int c0])) (fun _ k => X0.caload hx (j := (0 : Int32)) (v := (.int c0)) (own_hc e0 Ar2.1) (State.isArrayOf_alike hZ.alike Ar2.2.1) Ar2.2.2 hin3 hat3 (g := (mkF m 12 #[Sr a1, Si 0, Sr a3, Si 0, Si 1, Si 0, Su] [.int 0, .ref a1])) rfl rfl (hb hby d5_12) _ (XS.istore X0.here hx rfl (hb hby d5_13) rfl (l' := #[Sr a1, Si 0, Sr a3, Si 0, Si 1, Si 0, Si c0]) rfl (XS.iload X0.here hx rfl (hb hby d5_15) rfl (XS.sipush X0.here hx rfl (hb hby d5_17) k)))) ?_
  have hc4 : ¬ ((255 : Int32) < c0) := (own_pl_cmpI1_1 c0 hh0)
  refine own_go (B := s₁.setTop (mkF m 31 #[Sr a1, Si 0, Sr a3, Si 0, Si 1, Si 0, Si c0] [(.int (c0.toInt8.toInt32)), .int 0, .ref a3])) (fun _ k => XS.icmpYes X0.here hx rfl (pc0 := 20) (pc' := 26) rfl (hb hby d5_20) rfl (flt hc4).2.2.2 (by decide) (by decide) (XS.aloadN X0.here hx rfl (hb hby d5_26) rfl rfl (XS.iloadN X0.here hx rfl (hb hby d5_27) rfl (XS.iload X0.here hx rfl (hb hby d5_28) rfl (XS.i2b X0.here hx rfl (hb hby d5_30) rfl k))))) ?_
  obtain ⟨cl5, Ar5, q5, S5, N5n, H5, G5⟩ := id P_V_a3
  have hin6 : ¬ ((0 : Int32) < 0 ∨ cl5.slots.size ≤ ((0 : Int32)).toNatClampNeg) := inb_of S5 ⟨by decide, by decide⟩
  obtain ⟨T6, h6, X6, e6, W6, st6⟩ := stB X0 hx hZ e0 Ar5 (j := (0 : Int32)) hin6 (g := (mkF m 31 #[Sr a1, Si 0, Sr a3, Si 0, Si 1, Si 0, Si c0] [(.int (c0.toInt8.toInt32)), .int 0, .ref a3])) rfl rfl (hb hby d5_31)
  rw [own_narb] at W6
  have V_a3_6 : Arv Z h6 a3 k3 .byte 1 [(.int (c0.toInt8.toInt32))] (.int 0) := Arv.set Ar5 q5 S5 N5n H5 G5 (fits_nar_byte _) W6 0 rfl (Nat.le_of_ble_eq_true rfl)
  have K10 : Keep h0 h6 [a3] := K0.wr W6 (Or.inl (List.mem_of_getElem? (i := 0) rfl))
  have N6 := Fr.snoc X6 N0 g_a3
  refine own_go (B := T6.setTop (mkF m 35 #[Sr a1, Si ((0 : Int32) + (1 : Int32)), Sr a3, Si 0, Si 1, Si 0, Si c0] [])) (fun _ k => st6 _ (XS.iinc X6.here hx rfl (hb hby d5_32) rfl (l' := #[Sr a1, Si ((0 : Int32) + (1 : Int32)), Sr a3, Si 0, Si 1, Si 0, Si c0]) rfl k)) ?_
  rw [show ((0 : Int32) + (1 : Int32)) = (1 : Int32) from by decide]
  show own_Fin _ _ _ _ _ _ _ (T6.setTop (mkF m 35 #[Sr a1, Si 1, Sr a3, Si 0, Si 1, Si 0, Si c0] []))
  refine own_go (B := T6.setTop (mkF m 38 #[Sr a1, Si 1, Sr a3, Si ((0 : Int32) + (1 : Int32)), Si 1, Si 0, Si c0] [])) (fun _ k => XS.iinc X6.here hx rfl (hb hby d5_35) rfl (l' := #[Sr a1, Si 1, Sr a3, Si ((0 : Int32) + (1 : Int32)), Si 1, Si 0, Si c0]) rfl k) ?_
  rw [show ((0 : Int32) + (1 : Int32)) = (1 : Int32) from by decide]
  show own_Fin _ _ _ _ _ _ _ (T6.setTop (mkF m 38 #[Sr a1, Si 1, Sr a3, Si 1, Si 1, Si 0, Si c0] []))
  refine own_go (B := T6.setTop (mkF m 41 #[Sr a1, Si 1, Sr a3, Si 1, Si 1, Si ((0 : Int32) + (1 : Int32)), Si c0] [])) (fun _ k => XS.iinc X6.here hx rfl (hb hby d5_38) rfl (l' := #[Sr a1, Si 1, Sr a3, Si 1, Si 1, Si ((0 : Int32) + (1 : Int32)), Si c0]) rfl k) ?_
  rw [show ((0 : Int32) + (1 : Int32)) = (1 : Int32) from by decide]
  show own_Fin _ _ _ _ _ _ _ (T6.setTop (mkF m 41 #[Sr a1, Si 1, Sr a3, Si 1, Si 1, Si 1, Si c0] []))
  refine own_go (B := T6.setTop (mkF m 7 #[Sr a1, Si 1, Sr a3, Si 1, Si 1, Si 1, Si c0] [.int 1, .int 1])) (fun _ k => XS.goto X6.here hx rfl (pc0 := 41) (pc' := 3) rfl (hb hby d5_41) (by decide) (by decide) (XS.iload X6.here hx rfl (hb hby d5_3) rfl (XS.iload X6.here hx rfl (hb hby d5_5) rfl  k))) ?_
  have hc11 : ¬ ((1 : Int32) < (1 : Int32)) := by decide
  refine own_go (B := T6.setTop (mkF m 46 #[Sr a1, Si 1, Sr a3, Si 1, Si 1, Si 1, Si c0] [.int 1])) (fun _ k => XS.icmpYes X6.here hx rfl (pc0 := 7) (pc' := 44) rfl (hb hby d5_7) rfl (flt hc11).2.1 (by decide) (by decide) (XS.iload X6.here hx rfl (hb hby d5_44) rfl  k)) ?_
  exact own_retI X6 hx hlk hret (hb hby d5_46) e6 ⟨rfl, N6, K10, V_a3_6⟩ (by decide) (by decide)
abbrev R_own_cmpB1 : Room := ⟨1, 1, 1, 18⟩
theorem d4_0 : own_D cd4 0 (.iload_n 2) 1 := by decide +kernel
theorem d4_1 : own_D cd4 1 (.newarray .byte) 2 := by decide +kernel
theorem d4_3 : own_D cd4 3 (.astore_n 3) 1 := by decide +kernel
theorem d4_4 : own_D cd4 4 (.aload_n 0) 1 := by decide +kernel
theorem d4_5 : own_D cd4 5 (.iload_n 1) 1 := by decide +kernel
theorem d4_6 : own_D cd4 6 (.aload_n 3) 1 := by decide +kernel
theorem d4_7 : own_D cd4 7 (.iconst 0) 1 := by decide +kernel
theorem d4_8 : own_D cd4 8 (.iload_n 2) 1 := by decide +kernel
theorem d4_9 : own_D cd4 9 (.invokestatic 115) 3 := by decide +kernel
theorem d4_12 : own_D cd4 12 (.istore 4) 2 := by decide +kernel
theorem d4_14 : own_D cd4 14 (.iload 4) 2 := by decide +kernel
theorem d4_16 : own_D cd4 16 (.iload_n 2) 1 := by decide +kernel
theorem d4_17 : own_D cd4 17 (.if_icmp .eq 40) 3 := by decide +kernel
theorem d4_57 : own_D cd4 57 (.aload_n 3) 1 := by decide +kernel
theorem d4_58 : own_D cd4 58 .areturn 1 := by decide +kernel
theorem ef3 (m : MethodId) (x0 : Addr) : entryFrame m #[(.ref x0), (.int 0), (.int 1)] 6 = mkF m 0 #[.val (.ref x0), .val (.int 0), .val (.int 1), .unset, .unset, .unset] [] := by first | (simp [entryFrame, mkF, argsToLocals, Value.category]; done) | rfl
def Q_own_cmpB1 (Z : State) (a1 : Addr) (k1 : ClassId) (c0 : Int32) (h0 : Heap) (n0 : Nat) (v : Option Value) (h : Heap) (L : List Loc) : Prop := ∃ b : Addr, ∃ kb : ClassId, v = some (.ref b) ∧ Fr n0 L ∧ Keep h0 h [] ∧ Arv Z h b kb .byte 1 [(.int (c0.toInt8.toInt32))] (.int 0) ∧ (h0.size ≤ b)
theorem own_cmpB1 (l : Launch) (Z : State) (a0 : Array Value) (hw : own_HW a0 Z) (ws : List Jvm.Cond) (a1 : Addr) (k1 : ClassId) (c0 : Int32) (h0 : Heap) (n0 : Nat) (Z0 : n0 ≤ h0.size) (P_V_a1 : Arv Z h0 a1 k1 .char 1 [.int c0] (.int 0)) (hh0 : c0.toInt ≤ 255) :
    own_MF l own_y11 (Jvm.Cond.code own_y11 jdk_52_method_16_code 6 (some (.array .byte))) ws R_own_cmpB1 #[.ref a1, .int 0, .int 1] Z h0 (Q_own_cmpB1 Z a1 k1 c0 h0 n0) := by
  refine own_begin (plainFor_of_name own_pn9) (fun m => ef3 m a1) ?_
  intro p e s m below meth c s₁ hx hby hml hown hnm hlk hret hZ X0 e0
  have N0 := Fr.nil n0
  have K0 := Keep.refl h0 []
  refine own_go (B := s₁.setTop (mkF m 1 #[Sr a1, Si 0, Si 1, Su, Su, Su] [.int 1])) (fun _ k => XS.iloadN X0.here hx rfl (hb hby d4_0) rfl  k) ?_
  obtain ⟨T1, h1, kc1, X1, e1, E1, A1, st1⟩ := newP X0 hx hZ (hw.w 19 rfl) e0 (g := (mkF m 1 #[Sr a1, Si 0, Si 1, Su, Su, Su] [.int 1])) rfl (hb hby d4_1) rfl (by decide) (cap := 1) (by decide) (by decide) (by decide) (by decide)
  obtain ⟨b1, g1⟩ : ∃ z, z = h0.size := ⟨_, rfl⟩
  rw [← g1] at A1 st1
  have ne_a1_b1_2 : a1 ≠ b1 := Nat.ne_of_lt (Nat.lt_of_lt_of_le P_V_a1.lt (Nat.le_of_eq g1.symm))
  have sz_b1 : h0.size ≤ b1 := Nat.le_trans K0.1 (Nat.le_of_eq g1.symm)
  have g_b1 : n0 ≤ b1 := Nat.le_trans Z0 sz_b1
  have V_4 := P_V_a1.ext E1
  have V_b1 : Arv Z h1 b1 kc1 .byte 1 [.int 0] (.int 0) := (Arv.new A1 (by decide)).pad (pad_rep [] (.int 0) 1)
  have K5 : Keep h0 h1 [] := K0.ext E1
  refine own_go (B := T1.setTop (mkF m 9 #[Sr a1, Si 0, Si 1, Sr b1, Su, Su] [.int 1, .int 0, .ref b1, .int 0, .ref a1])) (fun _ k => st1 _ (XS.astoreN X1.here hx rfl (hb hby d4_3) rfl rfl (l' := #[Sr a1, Si 0, Si 1, Sr b1, Su, Su]) rfl (XS.aloadN X1.here hx rfl (hb hby d4_4) rfl rfl (XS.iloadN X1.here hx rfl (hb hby d4_5) rfl (XS.aloadN X1.here hx rfl (hb hby d4_6) rfl rfl (XS.iconst X1.here hx rfl (hb hby d4_7) (XS.iloadN X1.here hx rfl (hb hby d4_8) rfl  k))))))) ?_
  refine own_cS (own_cmpI1 l Z a0 hw [] a1 b1 k1 kc1 c0 h1 n0 (Nat.le_trans Z0 K5.1) V_4 V_b1 g_b1 ne_a1_b1_2 hh0) X1 hx hZ hown (hw.w 20 rfl) (hw.w 21 rfl) (hw.w 17 rfl) (hw.w 22 rfl) e1 rfl rfl (by rw [hml]; rfl) (rest := []) (lenOf own_pd3 rfl) rfl (hb hby d4_9) (W := 0) (show 2 * 0 + _ = _ from rfl) (by decide) (by decide) ?_
  rintro _ T6 L6 X6 ⟨rfl, N6q, K6q, Q6_0⟩
  have N6 := Fr.app N0 N6q
  have K10 : Keep h0 T6.heap [] := K5.trans K6q (allS (Or.inr sz_b1) all0)
  refine own_go (B := T6.setTop (mkF m 17 #[Sr a1, Si 0, Si 1, Sr b1, Si 1, Su] [.int 1, .int 1])) (fun _ k => XS.istore X6.here hx rfl (hb hby d4_12) rfl (l' := #[Sr a1, Si 0, Si 1, Sr b1, Si 1, Su]) rfl (XS.iload X6.here hx rfl (hb hby d4_14) rfl (XS.iloadN X6.here hx rfl (hb hby d4_16) rfl  k))) ?_
  have hc11 : (1 : Int32) = (1 : Int32) := by decide
  refine own_go (B := T6.setTop (mkF m 58 #[Sr a1, Si 0, Si 1, Sr b1, Si 1, Su] [.ref b1])) (fun _ k => XS.icmpYes X6.here hx rfl (pc0 := 17) (pc' := 57) rfl (hb hby d4_17) rfl (teq hc11).1 (by decide) (by decide) (XS.aloadN X6.here hx rfl (hb hby d4_57) rfl rfl k)) ?_
  exact own_retA X6 hx hlk hret rfl rfl (hb hby d4_58) rfl ⟨b1, kc1, rfl, N6, K10, Q6_0, sz_b1⟩ (by decide) (by decide)
abbrev R_own_cod1 : Room := ⟨0, 0, 0, 0⟩
theorem d6_0 : own_D cd6 0 (.iload_n 1) 1 := by decide +kernel
theorem d6_1 : own_D cd6 1 (.aload_n 0) 1 := by decide +kernel
theorem d6_2 : own_D cd6 2 .arraylength 1 := by decide +kernel
theorem d6_3 : own_D cd6 3 .isub 1 := by decide +kernel
theorem d6_4 : own_D cd6 4 (.bipush 31) 2 := by decide +kernel
theorem d6_6 : own_D cd6 6 .iushr 1 := by decide +kernel
theorem d6_7 : own_D cd6 7 .i2b 1 := by decide +kernel
theorem d6_8 : own_D cd6 8 .ireturn 1 := by decide +kernel
theorem ef4 (m : MethodId) (x0 : Addr) : entryFrame m #[(.ref x0), (.int 1)] 2 = mkF m 0 #[.val (.ref x0), .val (.int 1)] [] := by first | (simp [entryFrame, mkF, argsToLocals, Value.category]; done) | rfl
def Q_own_cod1 (Z : State) (a1 : Addr) (k1 : ClassId) (v0 : Int32) (h0 : Heap) (n0 : Nat) (v : Option Value) (h : Heap) (L : List Loc) : Prop := v = some (.int 0) ∧ Fr n0 L ∧ h = h0
theorem own_cod1 (l : Launch) (Z : State) (a0 : Array Value) (hw : own_HW a0 Z) (ws : List Jvm.Cond) (a1 : Addr) (k1 : ClassId) (v0 : Int32) (h0 : Heap) (n0 : Nat) (Z0 : n0 ≤ h0.size) (P_V_a1 : Arv Z h0 a1 k1 .byte 1 [.int v0] (.int 0)) :
    own_MF l own_y12 (Jvm.Cond.code own_y12 jdk_52_method_15_code 2 (some .byte)) ws R_own_cod1 #[.ref a1, .int 1] Z h0 (Q_own_cod1 Z a1 k1 v0 h0 n0) := by
  refine own_begin (plainFor_of_name own_pn9) (fun m => ef4 m a1) ?_
  intro p e s m below meth c s₁ hx hby hml hown hnm hlk hret hZ X0 e0
  have N0 := Fr.nil n0
  have K0 := Keep.refl h0 []
  refine own_go (B := s₁.setTop (mkF m 2 #[Sr a1, Si 1] [.ref a1, .int 1])) (fun _ k => XS.iloadN X0.here hx rfl (hb hby d6_0) rfl (XS.aloadN X0.here hx rfl (hb hby d6_1) rfl rfl k)) ?_
  obtain ⟨cl1, Ar1, q1, S1, N1n, H1, G1⟩ := id P_V_a1
  refine own_go (fun _ k => X0.arraylength hx (own_hc e0 Ar1.1) (State.isArrayOf_alike hZ.alike Ar1.2.1) (g := (mkF m 2 #[Sr a1, Si 1] [.ref a1, .int 1])) rfl rfl (hb hby d6_2) _ k) ?_
  rw [len_of S1 N1n]
  show own_Fin _ _ _ _ _ _ _ (s₁.setTop (mkF m 3 #[Sr a1, Si 1] [.int 1, .int 1]))
  refine own_go (B := s₁.setTop (mkF m 4 #[Sr a1, Si 1] [(.int ((1 : Int32) - (1 : Int32)))])) (fun _ k => XS.isub X0.here hx rfl (hb hby d6_3) rfl k) ?_
  rw [show ((1 : Int32) - (1 : Int32)) = (0 : Int32) from by decide]
  show own_Fin _ _ _ _ _ _ _ (s₁.setTop (mkF m 4 #[Sr a1, Si 1] [.int 0]))
  refine own_go (B := s₁.setTop (mkF m 7 #[Sr a1, Si 1] [(.int (((0 : Int32).toUInt32 >>> ((31 : Int32) &&& 31).toUInt32).toInt32))])) (fun _ k => XS.bipush X0.here hx rfl (hb hby d6_4) (XS.iushr X0.here hx rfl (hb hby d6_6) rfl k)) ?_
  rw [show (((0 : Int32).toUInt32 >>> ((31 : Int32) &&& 31).toUInt32).toInt32) = (0 : Int32) from by decide]
  show own_Fin _ _ _ _ _ _ _ (s₁.setTop (mkF m 7 #[Sr a1, Si 1] [.int 0]))
  refine own_go (B := s₁.setTop (mkF m 8 #[Sr a1, Si 1] [(.int ((0 : Int32).toInt8.toInt32))])) (fun _ k => XS.i2b X0.here hx rfl (hb hby d6_7) rfl k) ?_
  rw [show ((0 : Int32).toInt8.toInt32) = (0 : Int32) from by decide]
  show own_Fin _ _ _ _ _ _ _ (s₁.setTop (mkF m 8 #[Sr a1, Si 1] [.int 0]))
  exact own_retN X0 hx hlk (t := .byte) (w := (0 : Int32)) hret (by simp) (hb hby d6_8) e0 rfl ⟨rfl, N0, rfl⟩ (by decide) (by decide)
abbrev R_own_str4_1 : Room := ⟨2, 1, 1, 35⟩
theorem d2_0 : own_D cd2 0 (.aload_n 0) 1 := by decide +kernel
theorem d2_1 : own_D cd2 1 (.invokespecial 1) 3 := by decide +kernel
theorem d2_4 : own_D cd2 4 (.iload_n 3) 1 := by decide +kernel
theorem d2_5 : own_D cd2 5 (.ifCond .ne 22) 3 := by decide +kernel
theorem d2_27 : own_D cd2 27 (.getstatic 38) 3 := by decide +kernel
theorem d2_30 : own_D cd2 30 (.ifCond .eq 28) 3 := by decide +kernel
theorem d2_33 : own_D cd2 33 (.aload_n 1) 1 := by decide +kernel
theorem d2_34 : own_D cd2 34 (.iload_n 2) 1 := by decide +kernel
theorem d2_35 : own_D cd2 35 (.iload_n 3) 1 := by decide +kernel
theorem d2_36 : own_D cd2 36 (.invokestatic 177) 3 := by decide +kernel
theorem d2_39 : own_D cd2 39 (.astore 5) 2 := by decide +kernel
theorem d2_41 : own_D cd2 41 (.aload_n 0) 1 := by decide +kernel
theorem d2_42 : own_D cd2 42 (.aload 5) 2 := by decide +kernel
theorem d2_44 : own_D cd2 44 (.iload_n 3) 1 := by decide +kernel
theorem d2_45 : own_D cd2 45 (.invokestatic 47) 3 := by decide +kernel
theorem d2_48 : own_D cd2 48 (.putfield 15) 3 := by decide +kernel
theorem d2_51 : own_D cd2 51 (.aload_n 0) 1 := by decide +kernel
theorem d2_52 : own_D cd2 52 (.aload 5) 2 := by decide +kernel
theorem d2_54 : own_D cd2 54 (.putfield 9) 3 := by decide +kernel
theorem d2_57 : own_D cd2 57 .return_ 1 := by decide +kernel
theorem own_pn10 : plainName "java/lang/String" = true := by first | (simp [plainName, overriddenIn]; done) | decide +kernel
theorem ef5 (m : MethodId) (x0 x1 : Addr) : entryFrame m #[(.ref x0), (.ref x1), (.int 0), (.int 1), .null] 6 = mkF m 0 #[.val (.ref x0), .val (.ref x1), .val (.int 0), .val (.int 1), .val .null, .unset] [] := by first | (simp [entryFrame, mkF, argsToLocals, Value.category]; done) | rfl
def Q_own_str4_1 (Z : State) (a1 a2 : Addr) (k2 : ClassId) (c0 cs : Int32) (h0 : Heap) (n0 : Nat) (v : Option Value) (h : Heap) (L : List Loc) : Prop := ∃ t : Addr, ∃ kt : ClassId, v = none ∧ Fr n0 L ∧ Keep h0 h [a1] ∧ Exa Z h a1 nn3_ ∧ Fld Z h a1 nn3_ "value" "[B" (.ref t) ∧ Fld Z h a1 nn3_ "coder" "B" (.int 0) ∧ Arv Z h t kt .byte 1 [(.int (c0.toInt8.toInt32))] (.int 0) ∧ (h0.size ≤ t)
theorem own_str4_1 (l : Launch) (Z : State) (a0 : Array Value) (hw : own_HW a0 Z) (ws : List Jvm.Cond) (a1 a2 : Addr) (k2 : ClassId) (c0 cs : Int32) (h0 : Heap) (n0 : Nat) (Z0 : n0 ≤ h0.size) (P_E_a1 : Exa Z h0 a1 nn3_) (P_F_a1_value : Fld Z h0 a1 nn3_ "value" "[B" .null) (P_F_a1_coder : Fld Z h0 a1 nn3_ "coder" "B" (.int 0)) (P_V_a2 : Arv Z h0 a2 k2 .char 1 [.int c0] (.int 0)) (g_a1 : n0 ≤ a1) (ne_a1_a2 : a1 ≠ a2) (P_S_COMPACT_STRINGS : Sta Z h0 nn3_ nn16_ "Z" (.int cs)) (hcs : ¬ (cs = (0 : Int32))) (hh0 : c0.toInt ≤ 255) :
    own_MF l own_y13 (Jvm.Cond.code own_y13 jdk_42_method_149_code 6 none) ws R_own_str4_1 #[.ref a1, .ref a2, .int 0, .int 1, .null] Z h0 (Q_own_str4_1 Z a1 a2 k2 c0 cs h0 n0) := by
  refine own_begin (plainFor_of_name own_pn10) (fun m => ef5 m a1 a2) ?_
  intro p e s m below meth c s₁ hx hby hml hown hnm hlk hret hZ X0 e0
  have N0 := Fr.nil n0
  have K0 := Keep.refl h0 [a1]
  refine own_go (B := s₁.setTop (mkF m 1 #[Sr a1, Sr a2, Si 0, Si 1, .val .null, Su] [.ref a1])) (fun _ k => XS.aloadN X0.here hx rfl (hb hby d2_0) rfl rfl k) ?_
  refine own_iO X0 hx hZ hown (hw.w 11 rfl) (hw.w 12 rfl) (hw.w 13 rfl) e0 rfl (by rw [hml]; rfl) rfl (hb hby d2_1) (by decide) (W := 0) (by show 2 * 0 + _ ≤ _; exact Nat.le_of_eq rfl) (by decide) fun T1 X1 e1 => ?_
  refine own_go (B := T1.setTop (mkF m 5 #[Sr a1, Sr a2, Si 0, Si 1, .val .null, Su] [.int 1])) (fun _ k => XS.iloadN X1.here hx rfl (hb hby d2_4) rfl  k) ?_
  have hc2 : ¬ ((1 : Int32) = (0 : Int32)) := by decide
  refine own_go (B := T1.setTop (mkF m 27 #[Sr a1, Sr a2, Si 0, Si 1, .val .null, Su] [])) (fun _ k => XS.ifYes X1.here hx rfl (pc0 := 5) (pc' := 27) rfl (hb hby d2_5) rfl ((if0 _ _).trans (feq hc2).2) (by decide) (by decide) k) ?_
  refine own_gS X1 hx hZ hown (hw.w 14 rfl) Via.refl e1 P_S_COMPACT_STRINGS rfl (hb hby d2_27) fun T3 X3 e3 => ?_
  refine own_go (B := T3.setTop (mkF m 36 #[Sr a1, Sr a2, Si 0, Si 1, .val .null, Su] [.int 1, .int 0, .ref a2])) (fun _ k => XS.ifNo X3.here hx rfl (hb hby d2_30) rfl ((if0 _ _).trans (feq hcs).1) (XS.aloadN X3.here hx rfl (hb hby d2_33) rfl rfl (XS.iloadN X3.here hx rfl (hb hby d2_34) rfl (XS.iloadN X3.here hx rfl (hb hby d2_35) rfl  k)))) ?_
  refine own_cS (own_cmpB1 l Z a0 hw [] a2 k2 c0 h0 n0 (Nat.le_trans Z0 K0.1) P_V_a2 hh0) X3 hx hZ hown (hw.w 15 rfl) (hw.w 16 rfl) (hw.w 17 rfl) (hw.w 18 rfl) e3 rfl rfl (by rw [hml]; rfl) (rest := []) (lenOf own_pd4 rfl) rfl (hb hby d2_36) (W := 0) (show 2 * 0 + _ = _ from rfl) (by decide) (by decide) ?_
  rintro _ T4 L4 X4 ⟨b_4, kb_4, rfl, N4q, K4q, Q4_0, x4_0⟩
  have N4 := Fr.app N0 N4q
  have ne_a1_b_4_5 : a1 ≠ b_4 := Nat.ne_of_lt (Nat.lt_of_lt_of_le P_E_a1.lt x4_0)
  have E_8 := P_E_a1.keep K4q
  have F_9 := P_F_a1_value.keep K4q nin0
  have F_10 := P_F_a1_coder.keep K4q nin0
  have K13 : Keep h0 T4.heap [a1] := K0.trans K4q all0
  refine own_go (B := T4.setTop (mkF m 45 #[Sr a1, Sr a2, Si 0, Si 1, .val .null, Sr b_4] [.int 1, .ref b_4, .ref a1])) (fun _ k => XS.astore X4.here hx rfl (hb hby d2_39) rfl rfl (l' := #[Sr a1, Sr a2, Si 0, Si 1, .val .null, Sr b_4]) rfl (XS.aloadN X4.here hx rfl (hb hby d2_41) rfl rfl (XS.aload X4.here hx rfl (hb hby d2_42) rfl rfl (XS.iloadN X4.here hx rfl (hb hby d2_44) rfl  k)))) ?_
  refine own_cS (own_cod1 l Z a0 hw [] b_4 kb_4 (c0.toInt8.toInt32) T4.heap n0 (Nat.le_trans Z0 K13.1) Q4_0) X4 hx hZ hown (hw.w 23 rfl) (hw.w 24 rfl) (hw.w 17 rfl) (hw.w 25 rfl) rfl rfl rfl (by rw [hml]; rfl) (rest := [.ref a1]) (lenOf own_pd5 rfl) rfl (hb hby d2_45) (W := 1) (show 2 * 0 + _ = _ from rfl) (by decide) (by decide) ?_
  rintro _ T14 L14 X14 ⟨rfl, N14q, e14⟩
  have N14 := Fr.app N4 N14q
  refine own_go (B := T14.setTop (mkF m 48 #[Sr a1, Sr a2, Si 0, Si 1, .val .null, Sr b_4] [.int 0, .ref a1])) (fun _ k => k) ?_
  refine own_pN X14 hx hZ hown (hw.w 26 rfl) Via.refl e14 F_10 E_8 (Or.inr ⟨(hw.w 27 rfl), rfl, hnm⟩) (hw.w 1 rfl) (ty := .byte) (v := (.int 0)) (v' := (.int 0)) (by decide) rfl rfl rfl rfl (hb hby d2_48) fun T15 h15 X15 e15 W15 => ?_
  have F_w15 : Fld Z h15 a1 nn3_ "coder" "B" (.int 0) := F_10.same W15
  have E_17 := E_8.wr W15
  have F_18 := F_9.other W15 (Or.inr (slot_ne (Or.inr (hw.w 29 rfl)) (Or.inr (hw.w 27 rfl)) (by decide) (t := (.array .byte)) (t' := .byte) (by decide) (by decide)))
  have V_22 := Q4_0.other W15 (Ne.symm ne_a1_b_4_5)
  have K23 : Keep h0 h15 [a1] := K13.wr W15 (Or.inl (List.mem_of_getElem? (i := 0) rfl))
  have N15 := Fr.snoc X15 N14 g_a1
  refine own_go (B := T15.setTop (mkF m 54 #[Sr a1, Sr a2, Si 0, Si 1, .val .null, Sr b_4] [.ref b_4, .ref a1])) (fun _ k => XS.aloadN X15.here hx rfl (hb hby d2_51) rfl rfl (XS.aload X15.here hx rfl (hb hby d2_52) rfl rfl k)) ?_
  refine own_pF X15 hx hZ hown (hw.w 28 rfl) Via.refl e15 F_18 E_17 (Or.inr ⟨(hw.w 29 rfl), rfl, hnm⟩) (hw.w 1 rfl) (ty := (.array .byte)) (v := (.ref b_4)) (by decide) rfl rfl rfl rfl (hb hby d2_54) fun T24 h24 X24 e24 W24 => ?_
  have F_w24 : Fld Z h24 a1 nn3_ "value" "[B" (.ref b_4) := F_18.same W24
  have E_26 := E_17.wr W24
  have V_30 := V_22.other W24 (Ne.symm ne_a1_b_4_5)
  have F_31 := F_w15.other W24 (Or.inr (slot_ne (Or.inr (hw.w 27 rfl)) (Or.inr (hw.w 29 rfl)) (by decide) (t := .byte) (t' := (.array .byte)) (by decide) (by decide)))
  have K32 : Keep h0 h24 [a1] := K23.wr W24 (Or.inl (List.mem_of_getElem? (i := 0) rfl))
  have N24 := Fr.snoc X24 N15 g_a1
  refine own_go (B := T24.setTop (mkF m 57 #[Sr a1, Sr a2, Si 0, Si 1, .val .null, Sr b_4] [])) (fun _ k => k) ?_
  exact own_retV X24 hx hlk hret (hb hby d2_57) e24 ⟨b_4, kb_4, rfl, N24, K32, E_26, F_w24, F_31, V_30, x4_0⟩ (by decide) (by decide)
abbrev R_own_str1 : Room := ⟨3, 1, 1, 52⟩
theorem d1_0 : own_D cd1 0 (.aload_n 0) 1 := by decide +kernel
theorem d1_1 : own_D cd1 1 (.aload_n 1) 1 := by decide +kernel
theorem d1_2 : own_D cd1 2 (.iconst 0) 1 := by decide +kernel
theorem d1_3 : own_D cd1 3 (.aload_n 1) 1 := by decide +kernel
theorem d1_4 : own_D cd1 4 .arraylength 1 := by decide +kernel
theorem d1_5 : own_D cd1 5 .aconst_null 1 := by decide +kernel
theorem d1_6 : own_D cd1 6 (.invokespecial 27) 3 := by decide +kernel
theorem d1_9 : own_D cd1 9 .return_ 1 := by decide +kernel
def Q_own_str1 (Z : State) (a1 a2 : Addr) (k2 : ClassId) (c0 cs : Int32) (h0 : Heap) (n0 : Nat) (v : Option Value) (h : Heap) (L : List Loc) : Prop := ∃ t : Addr, ∃ kt : ClassId, v = none ∧ Fr n0 L ∧ Keep h0 h [a1] ∧ Exa Z h a1 nn3_ ∧ Fld Z h a1 nn3_ "value" "[B" (.ref t) ∧ Fld Z h a1 nn3_ "coder" "B" (.int 0) ∧ Arv Z h t kt .byte 1 [(.int (c0.toInt8.toInt32))] (.int 0) ∧ (h0.size ≤ t)
theorem own_str1 (l : Launch) (Z : State) (a0 : Array Value) (hw : own_HW a0 Z) (ws : List Jvm.Cond) (a1 a2 : Addr) (k2 : ClassId) (c0 cs : Int32) (h0 : Heap) (n0 : Nat) (Z0 : n0 ≤ h0.size) (P_E_a1 : Exa Z h0 a1 nn3_) (P_F_a1_value : Fld Z h0 a1 nn3_ "value" "[B" .null) (P_F_a1_coder : Fld Z h0 a1 nn3_ "coder" "B" (.int 0)) (P_V_a2 : Arv Z h0 a2 k2 .char 1 [.int c0] (.int 0)) (g_a1 : n0 ≤ a1) (ne_a1_a2 : a1 ≠ a2) (P_S_COMPACT_STRINGS : Sta Z h0 nn3_ nn16_ "Z" (.int cs)) (hcs : ¬ (cs = (0 : Int32))) (hh0 : c0.toInt ≤ 255) :
    own_MF l own_y14 (Jvm.Cond.code own_y14 jdk_42_method_3_code 2 none) ws R_own_str1 #[.ref a1, .ref a2] Z h0 (Q_own_str1 Z a1 a2 k2 c0 cs h0 n0) := by
  refine own_begin (plainFor_of_name own_pn10) (fun m => ef1 m a1 a2) ?_
  intro p e s m below meth c s₁ hx hby hml hown hnm hlk hret hZ X0 e0
  have N0 := Fr.nil n0
  have K0 := Keep.refl h0 [a1]
  refine own_go (B := s₁.setTop (mkF m 4 #[Sr a1, Sr a2] [.ref a2, .int 0, .ref a2, .ref a1])) (fun _ k => XS.aloadN X0.here hx rfl (hb hby d1_0) rfl rfl (XS.aloadN X0.here hx rfl (hb hby d1_1) rfl rfl (XS.iconst X0.here hx rfl (hb hby d1_2) (XS.aloadN X0.here hx rfl (hb hby d1_3) rfl rfl k)))) ?_
  obtain ⟨cl1, Ar1, q1, S1, N1n, H1, G1⟩ := id P_V_a2
  refine own_go (fun _ k => X0.arraylength hx (own_hc e0 Ar1.1) (State.isArrayOf_alike hZ.alike Ar1.2.1) (g := (mkF m 4 #[Sr a1, Sr a2] [.ref a2, .int 0, .ref a2, .ref a1])) rfl rfl (hb hby d1_4) _ k) ?_
  rw [len_of S1 N1n]
  show own_Fin _ _ _ _ _ _ _ (s₁.setTop (mkF m 5 #[Sr a1, Sr a2] [.int 1, .int 0, .ref a2, .ref a1]))
  refine own_go (B := s₁.setTop (mkF m 6 #[Sr a1, Sr a2] [.null, .int 1, .int 0, .ref a2, .ref a1])) (fun _ k => XS.aconstNull X0.here hx rfl (hb hby d1_5) k) ?_
  refine own_cN (own_str4_1 l Z a0 hw [] a1 a2 k2 c0 cs h0 n0 (Nat.le_trans Z0 K0.1) P_E_a1 P_F_a1_value P_F_a1_coder P_V_a2 g_a1 ne_a1_a2 P_S_COMPACT_STRINGS hcs hh0) X0 hx hZ hown (hw.w 7 rfl) (hw.w 8 rfl) (hw.w 2 rfl) (hw.w 10 rfl) e0 rfl rfl (by rw [hml]; rfl) (rest := []) (lenOf own_pd6 rfl) rfl (hb hby d1_6) (W := 0) (show 2 * 0 + _ = _ from rfl) (by decide) (by decide) rfl ?_
  rintro _ T2 L2 X2 ⟨t_2, kt_2, rfl, N2q, K2q, Q2_0, Q2_1, Q2_2, Q2_3, x2_0⟩
  have N2 := Fr.app N0 N2q
  have K11 : Keep h0 T2.heap [a1] := K0.trans K2q (allS (Or.inl (List.mem_of_getElem? (i := 0) rfl)) all0)
  refine own_go (B := T2.setTop (mkF m 9 #[Sr a1, Sr a2] [])) (fun _ k => k) ?_
  exact own_retV X2 hx hlk hret (hb hby d1_9) rfl ⟨t_2, kt_2, rfl, N2, K11, Q2_0, Q2_1, Q2_2, Q2_3, x2_0⟩ (by decide) (by decide)
abbrev R_own_coder0 : Room := ⟨0, 0, 0, 0⟩
theorem d23_0 : own_D cd23 0 (.getstatic 38) 3 := by decide +kernel
theorem d23_3 : own_D cd23 3 (.ifCond .eq 10) 3 := by decide +kernel
theorem d23_6 : own_D cd23 6 (.aload_n 0) 1 := by decide +kernel
theorem d23_7 : own_D cd23 7 (.getfield 15) 3 := by decide +kernel
theorem d23_10 : own_D cd23 10 (.goto 4) 3 := by decide +kernel
theorem d23_14 : own_D cd23 14 .ireturn 1 := by decide +kernel
def Q_own_coder0 (Z : State) (a1 : Addr) (cs : Int32) (h0 : Heap) (n0 : Nat) (v : Option Value) (h : Heap) (L : List Loc) : Prop := v = some (.int 0) ∧ Fr n0 L ∧ h = h0
theorem own_coder0 (l : Launch) (Z : State) (a0 : Array Value) (hw : own_HW a0 Z) (ws : List Jvm.Cond) (a1 : Addr) (cs : Int32) (h0 : Heap) (n0 : Nat) (Z0 : n0 ≤ h0.size) (P_F_a1_coder : Fld Z h0 a1 nn3_ "coder" "B" (.int 0)) (P_S_COMPACT_STRINGS : Sta Z h0 nn3_ nn16_ "Z" (.int cs)) (hcs : ¬ (cs = (0 : Int32))) :
    own_MF l own_y15 (Jvm.Cond.code own_y15 jdk_42_method_152_code 1 (some .byte)) ws R_own_coder0 #[.ref a1] Z h0 (Q_own_coder0 Z a1 cs h0 n0) := by
  refine own_begin (plainFor_of_name own_pn10) (fun m => ef0 m a1) ?_
  intro p e s m below meth c s₁ hx hby hml hown hnm hlk hret hZ X0 e0
  have N0 := Fr.nil n0
  have K0 := Keep.refl h0 []
  refine own_gS X0 hx hZ hown (hw.w 14 rfl) Via.refl e0 P_S_COMPACT_STRINGS rfl (hb hby d23_0) fun T1 X1 e1 => ?_
  refine own_go (B := T1.setTop (mkF m 7 #[Sr a1] [.ref a1])) (fun _ k => XS.ifNo X1.here hx rfl (hb hby d23_3) rfl ((if0 _ _).trans (feq hcs).1) (XS.aloadN X1.here hx rfl (hb hby d23_6) rfl rfl k)) ?_
  refine own_gF X1 hx hZ hown (hw.w 26 rfl) Via.refl e1 P_F_a1_coder rfl rfl (hb hby d23_7) fun T2 X2 e2 => ?_
  refine own_go (B := T2.setTop (mkF m 14 #[Sr a1] [.int 0])) (fun _ k => XS.goto X2.here hx rfl (pc0 := 10) (pc' := 14) rfl (hb hby d23_10) (by decide) (by decide) k) ?_
  exact own_retN X2 hx hlk (t := .byte) (w := (0 : Int32)) hret (by simp) (hb hby d23_14) e2 rfl ⟨rfl, N0, rfl⟩ (by decide) (by decide)
abbrev R_own_len1_0 : Room := ⟨1, 0, 0, 13⟩
theorem d22_0 : own_D cd22 0 (.aload_n 0) 1 := by decide +kernel
theorem d22_1 : own_D cd22 1 (.getfield 9) 3 := by decide +kernel
theorem d22_4 : own_D cd22 4 .arraylength 1 := by decide +kernel
theorem d22_5 : own_D cd22 5 (.aload_n 0) 1 := by decide +kernel
theorem d22_6 : own_D cd22 6 (.invokevirtual 335) 3 := by decide +kernel
theorem d22_9 : own_D cd22 9 .ishr 1 := by decide +kernel
theorem d22_10 : own_D cd22 10 .ireturn 1 := by decide +kernel
def Q_own_len1_0 (Z : State) (a1 t : Addr) (kt : ClassId) (u0 cs : Int32) (h0 : Heap) (n0 : Nat) (v : Option Value) (h : Heap) (L : List Loc) : Prop := v = some (.int 1) ∧ Fr n0 L ∧ h = h0
theorem own_len1_0 (l : Launch) (Z : State) (a0 : Array Value) (hw : own_HW a0 Z) (ws : List Jvm.Cond) (a1 t : Addr) (kt : ClassId) (u0 cs : Int32) (h0 : Heap) (n0 : Nat) (Z0 : n0 ≤ h0.size) (P_E_a1 : Exa Z h0 a1 nn3_) (P_F_a1_value : Fld Z h0 a1 nn3_ "value" "[B" (.ref t)) (P_F_a1_coder : Fld Z h0 a1 nn3_ "coder" "B" (.int 0)) (P_V_t : Arv Z h0 t kt .byte 1 [.int u0] (.int 0)) (P_S_COMPACT_STRINGS : Sta Z h0 nn3_ nn16_ "Z" (.int cs)) (hcs : ¬ (cs = (0 : Int32))) :
    own_MF l own_y16 (Jvm.Cond.code own_y16 jdk_42_method_54_code 1 (some .int)) ws R_own_len1_0 #[.ref a1] Z h0 (Q_own_len1_0 Z a1 t kt u0 cs h0 n0) := by
  refine own_begin (plainFor_of_name own_pn10) (fun m => ef0 m a1) ?_
  intro p e s m below meth c s₁ hx hby hml hown hnm hlk hret hZ X0 e0
  have N0 := Fr.nil n0
  have K0 := Keep.refl h0 []
  refine own_go (B := s₁.setTop (mkF m 1 #[Sr a1] [.ref a1])) (fun _ k => XS.aloadN X0.here hx rfl (hb hby d22_0) rfl rfl k) ?_
  refine own_gF X0 hx hZ hown (hw.w 28 rfl) Via.refl e0 P_F_a1_value rfl rfl (hb hby d22_1) fun T1 X1 e1 => ?_
  refine own_go (B := T1.setTop (mkF m 4 #[Sr a1] [.ref t])) (fun _ k => k) ?_
  obtain ⟨cl2, Ar2, q2, S2, N2n, H2, G2⟩ := id P_V_t
  refine own_go (fun _ k => X1.arraylength hx (own_hc e1 Ar2.1) (State.isArrayOf_alike hZ.alike Ar2.2.1) (g := (mkF m 4 #[Sr a1] [.ref t])) rfl rfl (hb hby d22_4) _ k) ?_
  rw [len_of S2 N2n]
  show own_Fin _ _ _ _ _ _ _ (T1.setTop (mkF m 5 #[Sr a1] [.int 1]))
  refine own_go (B := T1.setTop (mkF m 6 #[Sr a1] [.ref a1, .int 1])) (fun _ k => XS.aloadN X1.here hx rfl (hb hby d22_5) rfl rfl k) ?_
  refine own_cV (own_coder0 l Z a0 hw [] a1 cs h0 n0 (Nat.le_trans Z0 K0.1) P_F_a1_coder P_S_COMPACT_STRINGS hcs) X1 hx hZ hown (hw.w 139 rfl) (hw.w 140 rfl) (notFace_of_selects (args := #[]) (mvT hZ (hw.w 142 rfl))) (hw.w 142 rfl) (hw.w 141 rfl) (hw.w 2 rfl) (hw.w 143 rfl) P_E_a1 e1 rfl rfl (by rw [hml]; rfl) (rest := [.int 1]) (lenOf own_pd7 rfl) rfl (hb hby d22_6) (W := 1) (show 2 * 0 + _ = _ from rfl) (by decide) (by decide) ?_
  rintro _ T3 L3 X3 ⟨rfl, N3q, e3⟩
  have N3 := Fr.app N0 N3q
  refine own_go (B := T3.setTop (mkF m 10 #[Sr a1] [(.int ((1 : Int32) >>> ((0 : Int32) &&& 31)))])) (fun _ k => XS.ishr X3.here hx rfl (hb hby d22_9) rfl k) ?_
  rw [show ((1 : Int32) >>> ((0 : Int32) &&& 31)) = (1 : Int32) from by decide]
  show own_Fin _ _ _ _ _ _ _ (T3.setTop (mkF m 10 #[Sr a1] [.int 1]))
  exact own_retI X3 hx hlk hret (hb hby d22_10) e3 ⟨rfl, N3, rfl⟩ (by decide) (by decide)
abbrev R_own_cmpI2 : Room := ⟨0, 0, 0, 0⟩
theorem ef6 (m : MethodId) (x0 x2 : Addr) : entryFrame m #[(.ref x0), (.int 0), (.ref x2), (.int 0), (.int 2)] 7 = mkF m 0 #[.val (.ref x0), .val (.int 0), .val (.ref x2), .val (.int 0), .val (.int 2), .unset, .unset] [] := by first | (simp [entryFrame, mkF, argsToLocals, Value.category]; done) | rfl
theorem own_pl_cmpI2_1 (c0 : Int32) (hh0 : c0.toInt ≤ 255) : ¬ ((255 : Int32) < c0) := by
  have := rng32 c0
  try simp only [own_i32_255] at *
  have := own_i32_255
  try simp only [Int32.lt_iff_toInt_lt, Int32.le_iff_toInt_le, ← Int32.toInt_inj, true_and, and_true, true_or, or_true, false_or, or_false, not_true_eq_false, not_false_eq_true, false_and, and_false, ne_eq] at *
  all_goals first | omega | (simp; done)
theorem own_pl_cmpI2_2 (c1 : Int32) (hh1 : c1.toInt ≤ 255) : ¬ ((255 : Int32) < c1) := by
  have := rng32 c1
  try simp only [own_i32_255] at *
  have := own_i32_255
  try simp only [Int32.lt_iff_toInt_lt, Int32.le_iff_toInt_le, ← Int32.toInt_inj, true_and, and_true, true_or, or_true, false_or, or_false, not_true_eq_false, not_false_eq_true, false_and, and_false, ne_eq] at *
  all_goals first | omega | (simp; done)
def Q_own_cmpI2 (Z : State) (a1 a3 : Addr) (k1 k3 : ClassId) (c0 c1 : Int32) (h0 : Heap) (n0 : Nat) (v : Option Value) (h : Heap) (L : List Loc) : Prop := v = some (.int 2) ∧ Fr n0 L ∧ Keep h0 h [a3] ∧ Arv Z h a3 k3 .byte 2 [(.int (c0.toInt8.toInt32)), (.int (c1.toInt8.toInt32))] (.int 0)
theorem own_cmpI2 (l : Launch) (Z : State) (a0 : Array Value) (hw : own_HW a0 Z) (ws : List Jvm.Cond) (a1 a3 : Addr) (k1 k3 : ClassId) (c0 c1 : Int32) (h0 : Heap) (n0 : Nat) (Z0 : n0 ≤ h0.size) (P_V_a1 : Arv Z h0 a1 k1 .char 2 [.int c0, .int c1] (.int 0)) (P_V_a3 : Arv Z h0 a3 k3 .byte 2 [.int 0, .int 0] (.int 0)) (g_a3 : n0 ≤ a3) (ne_a1_a3 : a1 ≠ a3) (hh0 : c0.toInt ≤ 255) (hh1 : c1.toInt ≤ 255) :
    own_MF l own_y10 (Jvm.Cond.code own_y10 jdk_52_method_21_code 7 (some .int)) ws R_own_cmpI2 #[.ref a1, .int 0, .ref a3, .int 0, .int 2] Z h0 (Q_own_cmpI2 Z a1 a3 k1 k3 c0 c1 h0 n0) := by
  refine own_begin (plainFor_of_name own_pn9) (fun m => ef6 m a1 a3) ?_
  intro p e s m below meth c s₁ hx hby hml hown hnm hlk hret hZ X0 e0
  have N0 := Fr.nil n0
  have K0 := Keep.refl h0 [a3]
  refine own_go (B := s₁.setTop (mkF m 7 #[Sr a1, Si 0, Sr a3, Si 0, Si 2, Si 0, Su] [.int 2, .int 0])) (fun _ k => XS.iconst X0.here hx rfl (hb hby d5_0) (XS.istore X0.here hx rfl (hb hby d5_1) rfl (l' := #[Sr a1, Si 0, Sr a3, Si 0, Si 2, Si 0, Su]) rfl (XS.iload X0.here hx rfl (hb hby d5_3) rfl (XS.iload X0.here hx rfl (hb hby d5_5) rfl  k)))) ?_
  have hc1 : (0 : Int32) < (2 : Int32) := by decide
  refine own_go (B := s₁.setTop (mkF m 12 #[Sr a1, Si 0, Sr a3, Si 0, Si 2, Si 0, Su] [.int 0, .ref a1])) (fun _ k => XS.icmpNo X0.here hx rfl (hb hby d5_7) rfl (tlt hc1).2.1 (XS.aloadN X0.here hx rfl (hb hby d5_10) rfl rfl (XS.iloadN X0.here hx rfl (hb hby d5_11) rfl  k))) ?_
  obtain ⟨cl2, Ar2, q2, S2, N2n, H2, G2⟩ := id P_V_a1
  have hin3 : ¬ ((0 : Int32) < 0 ∨ cl2.slots.size ≤ ((0 : Int32)).toNatClampNeg) := inb_of S2 ⟨by decide, by decide⟩
  have hat3 : cl2.slots[((0 : Int32)).toNatClampNeg]? = some (.int c0) := H2.at hin3 rfl
  refine own_go (B := s₁.setTop (mkF m 20 #[Sr a1, Si 0, Sr a3, Si 0, Si 2, Si 0, Si c0] [.int 255, .int c0])) (fun _ k => X0.caload hx (j := (0 : Int32)) (v := (.int c0)) (own_hc e0 Ar2.1) (State.isArrayOf_alike hZ.alike Ar2.2.1) Ar2.2.2 hin3 hat3 (g := (mkF m 12 #[Sr a1, Si 0, Sr a3, Si 0, Si 2, Si 0, Su] [.int 0, .ref a1])) rfl rfl (hb hby d5_12) _ (XS.istore X0.here hx rfl (hb hby d5_13) rfl (l' := #[Sr a1, Si 0, Sr a3, Si 0, Si 2, Si 0, Si c0]) rfl (XS.iload X0.here hx rfl (hb hby d5_15) rfl (XS.sipush X0.here hx rfl (hb hby d5_17) k)))) ?_
  have hc4 : ¬ ((255 : Int32) < c0) := (own_pl_cmpI2_1 c0 hh0)
  refine own_go (B := s₁.setTop (mkF m 31 #[Sr a1, Si 0, Sr a3, Si 0, Si 2, Si 0, Si c0] [(.int (c0.toInt8.toInt32)), .int 0, .ref a3])) (fun _ k => XS.icmpYes X0.here hx rfl (pc0 := 20) (pc' := 26) rfl (hb hby d5_20) rfl (flt hc4).2.2.2 (by decide) (by decide) (XS.aloadN X0.here hx rfl (hb hby d5_26) rfl rfl (XS.iloadN X0.here hx rfl (hb hby d5_27) rfl (XS.iload X0.here hx rfl (hb hby d5_28) rfl (XS.i2b X0.here hx rfl (hb hby d5_30) rfl k))))) ?_
  obtain ⟨cl5, Ar5, q5, S5, N5n, H5, G5⟩ := id P_V_a3
  have hin6 : ¬ ((0 : Int32) < 0 ∨ cl5.slots.size ≤ ((0 : Int32)).toNatClampNeg) := inb_of S5 ⟨by decide, by decide⟩
  obtain ⟨T6, h6, X6, e6, W6, st6⟩ := stB X0 hx hZ e0 Ar5 (j := (0 : Int32)) hin6 (g := (mkF m 31 #[Sr a1, Si 0, Sr a3, Si 0, Si 2, Si 0, Si c0] [(.int (c0.toInt8.toInt32)), .int 0, .ref a3])) rfl rfl (hb hby d5_31)
  rw [own_narb] at W6
  have V_a3_6 : Arv Z h6 a3 k3 .byte 2 [(.int (c0.toInt8.toInt32)), .int 0] (.int 0) := Arv.set Ar5 q5 S5 N5n H5 G5 (fits_nar_byte _) W6 0 rfl (Nat.le_of_ble_eq_true rfl)
  have V_8 := P_V_a1.other W6 ne_a1_a3
  have K10 : Keep h0 h6 [a3] := K0.wr W6 (Or.inl (List.mem_of_getElem? (i := 0) rfl))
  have N6 := Fr.snoc X6 N0 g_a3
  refine own_go (B := T6.setTop (mkF m 35 #[Sr a1, Si ((0 : Int32) + (1 : Int32)), Sr a3, Si 0, Si 2, Si 0, Si c0] [])) (fun _ k => st6 _ (XS.iinc X6.here hx rfl (hb hby d5_32) rfl (l' := #[Sr a1, Si ((0 : Int32) + (1 : Int32)), Sr a3, Si 0, Si 2, Si 0, Si c0]) rfl k)) ?_
  rw [show ((0 : Int32) + (1 : Int32)) = (1 : Int32) from by decide]
  show own_Fin _ _ _ _ _ _ _ (T6.setTop (mkF m 35 #[Sr a1, Si 1, Sr a3, Si 0, Si 2, Si 0, Si c0] []))
  refine own_go (B := T6.setTop (mkF m 38 #[Sr a1, Si 1, Sr a3, Si ((0 : Int32) + (1 : Int32)), Si 2, Si 0, Si c0] [])) (fun _ k => XS.iinc X6.here hx rfl (hb hby d5_35) rfl (l' := #[Sr a1, Si 1, Sr a3, Si ((0 : Int32) + (1 : Int32)), Si 2, Si 0, Si c0]) rfl k) ?_
  rw [show ((0 : Int32) + (1 : Int32)) = (1 : Int32) from by decide]
  show own_Fin _ _ _ _ _ _ _ (T6.setTop (mkF m 38 #[Sr a1, Si 1, Sr a3, Si 1, Si 2, Si 0, Si c0] []))
  refine own_go (B := T6.setTop (mkF m 41 #[Sr a1, Si 1, Sr a3, Si 1, Si 2, Si ((0 : Int32) + (1 : Int32)), Si c0] [])) (fun _ k => XS.iinc X6.here hx rfl (hb hby d5_38) rfl (l' := #[Sr a1, Si 1, Sr a3, Si 1, Si 2, Si ((0 : Int32) + (1 : Int32)), Si c0]) rfl k) ?_
  rw [show ((0 : Int32) + (1 : Int32)) = (1 : Int32) from by decide]
  show own_Fin _ _ _ _ _ _ _ (T6.setTop (mkF m 41 #[Sr a1, Si 1, Sr a3, Si 1, Si 2, Si 1, Si c0] []))
  refine own_go (B := T6.setTop (mkF m 7 #[Sr a1, Si 1, Sr a3, Si 1, Si 2, Si 1, Si c0] [.int 2, .int 1])) (fun _ k => XS.goto X6.here hx rfl (pc0 := 41) (pc' := 3) rfl (hb hby d5_41) (by decide) (by decide) (XS.iload X6.here hx rfl (hb hby d5_3) rfl (XS.iload X6.here hx rfl (hb hby d5_5) rfl  k))) ?_
  have hc11 : (1 : Int32) < (2 : Int32) := by decide
  refine own_go (B := T6.setTop (mkF m 12 #[Sr a1, Si 1, Sr a3, Si 1, Si 2, Si 1, Si c0] [.int 1, .ref a1])) (fun _ k => XS.icmpNo X6.here hx rfl (hb hby d5_7) rfl (tlt hc11).2.1 (XS.aloadN X6.here hx rfl (hb hby d5_10) rfl rfl (XS.iloadN X6.here hx rfl (hb hby d5_11) rfl  k))) ?_
  obtain ⟨cl12, Ar12, q12, S12, N12n, H12, G12⟩ := id V_8
  have hin13 : ¬ ((1 : Int32) < 0 ∨ cl12.slots.size ≤ ((1 : Int32)).toNatClampNeg) := inb_of S12 ⟨by decide, by decide⟩
  have hat13 : cl12.slots[((1 : Int32)).toNatClampNeg]? = some (.int c1) := H12.at hin13 rfl
  refine own_go (B := T6.setTop (mkF m 20 #[Sr a1, Si 1, Sr a3, Si 1, Si 2, Si 1, Si c1] [.int 255, .int c1])) (fun _ k => X6.caload hx (j := (1 : Int32)) (v := (.int c1)) (own_hc e6 Ar12.1) (State.isArrayOf_alike hZ.alike Ar12.2.1) Ar12.2.2 hin13 hat13 (g := (mkF m 12 #[Sr a1, Si 1, Sr a3, Si 1, Si 2, Si 1, Si c0] [.int 1, .ref a1])) rfl rfl (hb hby d5_12) _ (XS.istore X6.here hx rfl (hb hby d5_13) rfl (l' := #[Sr a1, Si 1, Sr a3, Si 1, Si 2, Si 1, Si c1]) rfl (XS.iload X6.here hx rfl (hb hby d5_15) rfl (XS.sipush X6.here hx rfl (hb hby d5_17) k)))) ?_
  have hc14 : ¬ ((255 : Int32) < c1) := (own_pl_cmpI2_2 c1 hh1)
  refine own_go (B := T6.setTop (mkF m 31 #[Sr a1, Si 1, Sr a3, Si 1, Si 2, Si 1, Si c1] [(.int (c1.toInt8.toInt32)), .int 1, .ref a3])) (fun _ k => XS.icmpYes X6.here hx rfl (pc0 := 20) (pc' := 26) rfl (hb hby d5_20) rfl (flt hc14).2.2.2 (by decide) (by decide) (XS.aloadN X6.here hx rfl (hb hby d5_26) rfl rfl (XS.iloadN X6.here hx rfl (hb hby d5_27) rfl (XS.iload X6.here hx rfl (hb hby d5_28) rfl (XS.i2b X6.here hx rfl (hb hby d5_30) rfl k))))) ?_
  obtain ⟨cl15, Ar15, q15, S15, N15n, H15, G15⟩ := id V_a3_6
  have hin16 : ¬ ((1 : Int32) < 0 ∨ cl15.slots.size ≤ ((1 : Int32)).toNatClampNeg) := inb_of S15 ⟨by decide, by decide⟩
  obtain ⟨T16, h16, X16, e16, W16, st16⟩ := stB X6 hx hZ e6 Ar15 (j := (1 : Int32)) hin16 (g := (mkF m 31 #[Sr a1, Si 1, Sr a3, Si 1, Si 2, Si 1, Si c1] [(.int (c1.toInt8.toInt32)), .int 1, .ref a3])) rfl rfl (hb hby d5_31)
  rw [own_narb] at W16
  have V_a3_16 : Arv Z h16 a3 k3 .byte 2 [(.int (c0.toInt8.toInt32)), (.int (c1.toInt8.toInt32))] (.int 0) := Arv.set Ar15 q15 S15 N15n H15 G15 (fits_nar_byte _) W16 1 rfl (Nat.le_of_ble_eq_true rfl)
  have K20 : Keep h0 h16 [a3] := K10.wr W16 (Or.inl (List.mem_of_getElem? (i := 0) rfl))
  have N16 := Fr.snoc X16 N6 g_a3
  refine own_go (B := T16.setTop (mkF m 35 #[Sr a1, Si ((1 : Int32) + (1 : Int32)), Sr a3, Si 1, Si 2, Si 1, Si c1] [])) (fun _ k => st16 _ (XS.iinc X16.here hx rfl (hb hby d5_32) rfl (l' := #[Sr a1, Si ((1 : Int32) + (1 : Int32)), Sr a3, Si 1, Si 2, Si 1, Si c1]) rfl k)) ?_
  rw [show ((1 : Int32) + (1 : Int32)) = (2 : Int32) from by decide]
  show own_Fin _ _ _ _ _ _ _ (T16.setTop (mkF m 35 #[Sr a1, Si 2, Sr a3, Si 1, Si 2, Si 1, Si c1] []))
  refine own_go (B := T16.setTop (mkF m 38 #[Sr a1, Si 2, Sr a3, Si ((1 : Int32) + (1 : Int32)), Si 2, Si 1, Si c1] [])) (fun _ k => XS.iinc X16.here hx rfl (hb hby d5_35) rfl (l' := #[Sr a1, Si 2, Sr a3, Si ((1 : Int32) + (1 : Int32)), Si 2, Si 1, Si c1]) rfl k) ?_
  rw [show ((1 : Int32) + (1 : Int32)) = (2 : Int32) from by decide]
  show own_Fin _ _ _ _ _ _ _ (T16.setTop (mkF m 38 #[Sr a1, Si 2, Sr a3, Si 2, Si 2, Si 1, Si c1] []))
  refine own_go (B := T16.setTop (mkF m 41 #[Sr a1, Si 2, Sr a3, Si 2, Si 2, Si ((1 : Int32) + (1 : Int32)), Si c1] [])) (fun _ k => XS.iinc X16.here hx rfl (hb hby d5_38) rfl (l' := #[Sr a1, Si 2, Sr a3, Si 2, Si 2, Si ((1 : Int32) + (1 : Int32)), Si c1]) rfl k) ?_
  rw [show ((1 : Int32) + (1 : Int32)) = (2 : Int32) from by decide]
  show own_Fin _ _ _ _ _ _ _ (T16.setTop (mkF m 41 #[Sr a1, Si 2, Sr a3, Si 2, Si 2, Si 2, Si c1] []))
  refine own_go (B := T16.setTop (mkF m 7 #[Sr a1, Si 2, Sr a3, Si 2, Si 2, Si 2, Si c1] [.int 2, .int 2])) (fun _ k => XS.goto X16.here hx rfl (pc0 := 41) (pc' := 3) rfl (hb hby d5_41) (by decide) (by decide) (XS.iload X16.here hx rfl (hb hby d5_3) rfl (XS.iload X16.here hx rfl (hb hby d5_5) rfl  k))) ?_
  have hc21 : ¬ ((2 : Int32) < (2 : Int32)) := by decide
  refine own_go (B := T16.setTop (mkF m 46 #[Sr a1, Si 2, Sr a3, Si 2, Si 2, Si 2, Si c1] [.int 2])) (fun _ k => XS.icmpYes X16.here hx rfl (pc0 := 7) (pc' := 44) rfl (hb hby d5_7) rfl (flt hc21).2.1 (by decide) (by decide) (XS.iload X16.here hx rfl (hb hby d5_44) rfl  k)) ?_
  exact own_retI X16 hx hlk hret (hb hby d5_46) e16 ⟨rfl, N16, K20, V_a3_16⟩ (by decide) (by decide)
abbrev R_own_cmpB2 : Room := ⟨1, 1, 2, 18⟩
theorem ef7 (m : MethodId) (x0 : Addr) : entryFrame m #[(.ref x0), (.int 0), (.int 2)] 6 = mkF m 0 #[.val (.ref x0), .val (.int 0), .val (.int 2), .unset, .unset, .unset] [] := by first | (simp [entryFrame, mkF, argsToLocals, Value.category]; done) | rfl
def Q_own_cmpB2 (Z : State) (a1 : Addr) (k1 : ClassId) (c0 c1 : Int32) (h0 : Heap) (n0 : Nat) (v : Option Value) (h : Heap) (L : List Loc) : Prop := ∃ b : Addr, ∃ kb : ClassId, v = some (.ref b) ∧ Fr n0 L ∧ Keep h0 h [] ∧ Arv Z h b kb .byte 2 [(.int (c0.toInt8.toInt32)), (.int (c1.toInt8.toInt32))] (.int 0) ∧ (h0.size ≤ b)
theorem own_cmpB2 (l : Launch) (Z : State) (a0 : Array Value) (hw : own_HW a0 Z) (ws : List Jvm.Cond) (a1 : Addr) (k1 : ClassId) (c0 c1 : Int32) (h0 : Heap) (n0 : Nat) (Z0 : n0 ≤ h0.size) (P_V_a1 : Arv Z h0 a1 k1 .char 2 [.int c0, .int c1] (.int 0)) (hh0 : c0.toInt ≤ 255) (hh1 : c1.toInt ≤ 255) :
    own_MF l own_y11 (Jvm.Cond.code own_y11 jdk_52_method_16_code 6 (some (.array .byte))) ws R_own_cmpB2 #[.ref a1, .int 0, .int 2] Z h0 (Q_own_cmpB2 Z a1 k1 c0 c1 h0 n0) := by
  refine own_begin (plainFor_of_name own_pn9) (fun m => ef7 m a1) ?_
  intro p e s m below meth c s₁ hx hby hml hown hnm hlk hret hZ X0 e0
  have N0 := Fr.nil n0
  have K0 := Keep.refl h0 []
  refine own_go (B := s₁.setTop (mkF m 1 #[Sr a1, Si 0, Si 2, Su, Su, Su] [.int 2])) (fun _ k => XS.iloadN X0.here hx rfl (hb hby d4_0) rfl  k) ?_
  obtain ⟨T1, h1, kc1, X1, e1, E1, A1, st1⟩ := newP X0 hx hZ (hw.w 19 rfl) e0 (g := (mkF m 1 #[Sr a1, Si 0, Si 2, Su, Su, Su] [.int 2])) rfl (hb hby d4_1) rfl (by decide) (cap := 2) (by decide) (by decide) (by decide) (by decide)
  obtain ⟨b1, g1⟩ : ∃ z, z = h0.size := ⟨_, rfl⟩
  rw [← g1] at A1 st1
  have ne_a1_b1_2 : a1 ≠ b1 := Nat.ne_of_lt (Nat.lt_of_lt_of_le P_V_a1.lt (Nat.le_of_eq g1.symm))
  have sz_b1 : h0.size ≤ b1 := Nat.le_trans K0.1 (Nat.le_of_eq g1.symm)
  have g_b1 : n0 ≤ b1 := Nat.le_trans Z0 sz_b1
  have V_4 := P_V_a1.ext E1
  have V_b1 : Arv Z h1 b1 kc1 .byte 2 [.int 0, .int 0] (.int 0) := (Arv.new A1 (by decide)).pad (pad_rep [] (.int 0) 2)
  have K5 : Keep h0 h1 [] := K0.ext E1
  refine own_go (B := T1.setTop (mkF m 9 #[Sr a1, Si 0, Si 2, Sr b1, Su, Su] [.int 2, .int 0, .ref b1, .int 0, .ref a1])) (fun _ k => st1 _ (XS.astoreN X1.here hx rfl (hb hby d4_3) rfl rfl (l' := #[Sr a1, Si 0, Si 2, Sr b1, Su, Su]) rfl (XS.aloadN X1.here hx rfl (hb hby d4_4) rfl rfl (XS.iloadN X1.here hx rfl (hb hby d4_5) rfl (XS.aloadN X1.here hx rfl (hb hby d4_6) rfl rfl (XS.iconst X1.here hx rfl (hb hby d4_7) (XS.iloadN X1.here hx rfl (hb hby d4_8) rfl  k))))))) ?_
  refine own_cS (own_cmpI2 l Z a0 hw [] a1 b1 k1 kc1 c0 c1 h1 n0 (Nat.le_trans Z0 K5.1) V_4 V_b1 g_b1 ne_a1_b1_2 hh0 hh1) X1 hx hZ hown (hw.w 20 rfl) (hw.w 21 rfl) (hw.w 17 rfl) (hw.w 22 rfl) e1 rfl rfl (by rw [hml]; rfl) (rest := []) (lenOf own_pd3 rfl) rfl (hb hby d4_9) (W := 0) (show 2 * 0 + _ = _ from rfl) (by decide) (by decide) ?_
  rintro _ T6 L6 X6 ⟨rfl, N6q, K6q, Q6_0⟩
  have N6 := Fr.app N0 N6q
  have K10 : Keep h0 T6.heap [] := K5.trans K6q (allS (Or.inr sz_b1) all0)
  refine own_go (B := T6.setTop (mkF m 17 #[Sr a1, Si 0, Si 2, Sr b1, Si 2, Su] [.int 2, .int 2])) (fun _ k => XS.istore X6.here hx rfl (hb hby d4_12) rfl (l' := #[Sr a1, Si 0, Si 2, Sr b1, Si 2, Su]) rfl (XS.iload X6.here hx rfl (hb hby d4_14) rfl (XS.iloadN X6.here hx rfl (hb hby d4_16) rfl  k))) ?_
  have hc11 : (2 : Int32) = (2 : Int32) := by decide
  refine own_go (B := T6.setTop (mkF m 58 #[Sr a1, Si 0, Si 2, Sr b1, Si 2, Su] [.ref b1])) (fun _ k => XS.icmpYes X6.here hx rfl (pc0 := 17) (pc' := 57) rfl (hb hby d4_17) rfl (teq hc11).1 (by decide) (by decide) (XS.aloadN X6.here hx rfl (hb hby d4_57) rfl rfl k)) ?_
  exact own_retA X6 hx hlk hret rfl rfl (hb hby d4_58) rfl ⟨b1, kc1, rfl, N6, K10, Q6_0, sz_b1⟩ (by decide) (by decide)
abbrev R_own_cod2 : Room := ⟨0, 0, 0, 0⟩
theorem ef8 (m : MethodId) (x0 : Addr) : entryFrame m #[(.ref x0), (.int 2)] 2 = mkF m 0 #[.val (.ref x0), .val (.int 2)] [] := by first | (simp [entryFrame, mkF, argsToLocals, Value.category]; done) | rfl
def Q_own_cod2 (Z : State) (a1 : Addr) (k1 : ClassId) (v0 v1 : Int32) (h0 : Heap) (n0 : Nat) (v : Option Value) (h : Heap) (L : List Loc) : Prop := v = some (.int 0) ∧ Fr n0 L ∧ h = h0
theorem own_cod2 (l : Launch) (Z : State) (a0 : Array Value) (hw : own_HW a0 Z) (ws : List Jvm.Cond) (a1 : Addr) (k1 : ClassId) (v0 v1 : Int32) (h0 : Heap) (n0 : Nat) (Z0 : n0 ≤ h0.size) (P_V_a1 : Arv Z h0 a1 k1 .byte 2 [.int v0, .int v1] (.int 0)) :
    own_MF l own_y12 (Jvm.Cond.code own_y12 jdk_52_method_15_code 2 (some .byte)) ws R_own_cod2 #[.ref a1, .int 2] Z h0 (Q_own_cod2 Z a1 k1 v0 v1 h0 n0) := by
  refine own_begin (plainFor_of_name own_pn9) (fun m => ef8 m a1) ?_
  intro p e s m below meth c s₁ hx hby hml hown hnm hlk hret hZ X0 e0
  have N0 := Fr.nil n0
  have K0 := Keep.refl h0 []
  refine own_go (B := s₁.setTop (mkF m 2 #[Sr a1, Si 2] [.ref a1, .int 2])) (fun _ k => XS.iloadN X0.here hx rfl (hb hby d6_0) rfl (XS.aloadN X0.here hx rfl (hb hby d6_1) rfl rfl k)) ?_
  obtain ⟨cl1, Ar1, q1, S1, N1n, H1, G1⟩ := id P_V_a1
  refine own_go (fun _ k => X0.arraylength hx (own_hc e0 Ar1.1) (State.isArrayOf_alike hZ.alike Ar1.2.1) (g := (mkF m 2 #[Sr a1, Si 2] [.ref a1, .int 2])) rfl rfl (hb hby d6_2) _ k) ?_
  rw [len_of S1 N1n]
  show own_Fin _ _ _ _ _ _ _ (s₁.setTop (mkF m 3 #[Sr a1, Si 2] [.int 2, .int 2]))
  refine own_go (B := s₁.setTop (mkF m 4 #[Sr a1, Si 2] [(.int ((2 : Int32) - (2 : Int32)))])) (fun _ k => XS.isub X0.here hx rfl (hb hby d6_3) rfl k) ?_
  rw [show ((2 : Int32) - (2 : Int32)) = (0 : Int32) from by decide]
  show own_Fin _ _ _ _ _ _ _ (s₁.setTop (mkF m 4 #[Sr a1, Si 2] [.int 0]))
  refine own_go (B := s₁.setTop (mkF m 7 #[Sr a1, Si 2] [(.int (((0 : Int32).toUInt32 >>> ((31 : Int32) &&& 31).toUInt32).toInt32))])) (fun _ k => XS.bipush X0.here hx rfl (hb hby d6_4) (XS.iushr X0.here hx rfl (hb hby d6_6) rfl k)) ?_
  rw [show (((0 : Int32).toUInt32 >>> ((31 : Int32) &&& 31).toUInt32).toInt32) = (0 : Int32) from by decide]
  show own_Fin _ _ _ _ _ _ _ (s₁.setTop (mkF m 7 #[Sr a1, Si 2] [.int 0]))
  refine own_go (B := s₁.setTop (mkF m 8 #[Sr a1, Si 2] [(.int ((0 : Int32).toInt8.toInt32))])) (fun _ k => XS.i2b X0.here hx rfl (hb hby d6_7) rfl k) ?_
  rw [show ((0 : Int32).toInt8.toInt32) = (0 : Int32) from by decide]
  show own_Fin _ _ _ _ _ _ _ (s₁.setTop (mkF m 8 #[Sr a1, Si 2] [.int 0]))
  exact own_retN X0 hx hlk (t := .byte) (w := (0 : Int32)) hret (by simp) (hb hby d6_8) e0 rfl ⟨rfl, N0, rfl⟩ (by decide) (by decide)
abbrev R_own_str4_2 : Room := ⟨2, 1, 2, 35⟩
theorem ef9 (m : MethodId) (x0 x1 : Addr) : entryFrame m #[(.ref x0), (.ref x1), (.int 0), (.int 2), .null] 6 = mkF m 0 #[.val (.ref x0), .val (.ref x1), .val (.int 0), .val (.int 2), .val .null, .unset] [] := by first | (simp [entryFrame, mkF, argsToLocals, Value.category]; done) | rfl
def Q_own_str4_2 (Z : State) (a1 a2 : Addr) (k2 : ClassId) (c0 c1 cs : Int32) (h0 : Heap) (n0 : Nat) (v : Option Value) (h : Heap) (L : List Loc) : Prop := ∃ t : Addr, ∃ kt : ClassId, v = none ∧ Fr n0 L ∧ Keep h0 h [a1] ∧ Exa Z h a1 nn3_ ∧ Fld Z h a1 nn3_ "value" "[B" (.ref t) ∧ Fld Z h a1 nn3_ "coder" "B" (.int 0) ∧ Arv Z h t kt .byte 2 [(.int (c0.toInt8.toInt32)), (.int (c1.toInt8.toInt32))] (.int 0) ∧ (h0.size ≤ t)
theorem own_str4_2 (l : Launch) (Z : State) (a0 : Array Value) (hw : own_HW a0 Z) (ws : List Jvm.Cond) (a1 a2 : Addr) (k2 : ClassId) (c0 c1 cs : Int32) (h0 : Heap) (n0 : Nat) (Z0 : n0 ≤ h0.size) (P_E_a1 : Exa Z h0 a1 nn3_) (P_F_a1_value : Fld Z h0 a1 nn3_ "value" "[B" .null) (P_F_a1_coder : Fld Z h0 a1 nn3_ "coder" "B" (.int 0)) (P_V_a2 : Arv Z h0 a2 k2 .char 2 [.int c0, .int c1] (.int 0)) (g_a1 : n0 ≤ a1) (ne_a1_a2 : a1 ≠ a2) (P_S_COMPACT_STRINGS : Sta Z h0 nn3_ nn16_ "Z" (.int cs)) (hcs : ¬ (cs = (0 : Int32))) (hh0 : c0.toInt ≤ 255) (hh1 : c1.toInt ≤ 255) :
    own_MF l own_y13 (Jvm.Cond.code own_y13 jdk_42_method_149_code 6 none) ws R_own_str4_2 #[.ref a1, .ref a2, .int 0, .int 2, .null] Z h0 (Q_own_str4_2 Z a1 a2 k2 c0 c1 cs h0 n0) := by
  refine own_begin (plainFor_of_name own_pn10) (fun m => ef9 m a1 a2) ?_
  intro p e s m below meth c s₁ hx hby hml hown hnm hlk hret hZ X0 e0
  have N0 := Fr.nil n0
  have K0 := Keep.refl h0 [a1]
  refine own_go (B := s₁.setTop (mkF m 1 #[Sr a1, Sr a2, Si 0, Si 2, .val .null, Su] [.ref a1])) (fun _ k => XS.aloadN X0.here hx rfl (hb hby d2_0) rfl rfl k) ?_
  refine own_iO X0 hx hZ hown (hw.w 11 rfl) (hw.w 12 rfl) (hw.w 13 rfl) e0 rfl (by rw [hml]; rfl) rfl (hb hby d2_1) (by decide) (W := 0) (by show 2 * 0 + _ ≤ _; exact Nat.le_of_eq rfl) (by decide) fun T1 X1 e1 => ?_
  refine own_go (B := T1.setTop (mkF m 5 #[Sr a1, Sr a2, Si 0, Si 2, .val .null, Su] [.int 2])) (fun _ k => XS.iloadN X1.here hx rfl (hb hby d2_4) rfl  k) ?_
  have hc2 : ¬ ((2 : Int32) = (0 : Int32)) := by decide
  refine own_go (B := T1.setTop (mkF m 27 #[Sr a1, Sr a2, Si 0, Si 2, .val .null, Su] [])) (fun _ k => XS.ifYes X1.here hx rfl (pc0 := 5) (pc' := 27) rfl (hb hby d2_5) rfl ((if0 _ _).trans (feq hc2).2) (by decide) (by decide) k) ?_
  refine own_gS X1 hx hZ hown (hw.w 14 rfl) Via.refl e1 P_S_COMPACT_STRINGS rfl (hb hby d2_27) fun T3 X3 e3 => ?_
  refine own_go (B := T3.setTop (mkF m 36 #[Sr a1, Sr a2, Si 0, Si 2, .val .null, Su] [.int 2, .int 0, .ref a2])) (fun _ k => XS.ifNo X3.here hx rfl (hb hby d2_30) rfl ((if0 _ _).trans (feq hcs).1) (XS.aloadN X3.here hx rfl (hb hby d2_33) rfl rfl (XS.iloadN X3.here hx rfl (hb hby d2_34) rfl (XS.iloadN X3.here hx rfl (hb hby d2_35) rfl  k)))) ?_
  refine own_cS (own_cmpB2 l Z a0 hw [] a2 k2 c0 c1 h0 n0 (Nat.le_trans Z0 K0.1) P_V_a2 hh0 hh1) X3 hx hZ hown (hw.w 15 rfl) (hw.w 16 rfl) (hw.w 17 rfl) (hw.w 18 rfl) e3 rfl rfl (by rw [hml]; rfl) (rest := []) (lenOf own_pd4 rfl) rfl (hb hby d2_36) (W := 0) (show 2 * 0 + _ = _ from rfl) (by decide) (by decide) ?_
  rintro _ T4 L4 X4 ⟨b_4, kb_4, rfl, N4q, K4q, Q4_0, x4_0⟩
  have N4 := Fr.app N0 N4q
  have ne_a1_b_4_5 : a1 ≠ b_4 := Nat.ne_of_lt (Nat.lt_of_lt_of_le P_E_a1.lt x4_0)
  have E_8 := P_E_a1.keep K4q
  have F_9 := P_F_a1_value.keep K4q nin0
  have F_10 := P_F_a1_coder.keep K4q nin0
  have K13 : Keep h0 T4.heap [a1] := K0.trans K4q all0
  refine own_go (B := T4.setTop (mkF m 45 #[Sr a1, Sr a2, Si 0, Si 2, .val .null, Sr b_4] [.int 2, .ref b_4, .ref a1])) (fun _ k => XS.astore X4.here hx rfl (hb hby d2_39) rfl rfl (l' := #[Sr a1, Sr a2, Si 0, Si 2, .val .null, Sr b_4]) rfl (XS.aloadN X4.here hx rfl (hb hby d2_41) rfl rfl (XS.aload X4.here hx rfl (hb hby d2_42) rfl rfl (XS.iloadN X4.here hx rfl (hb hby d2_44) rfl  k)))) ?_
  refine own_cS (own_cod2 l Z a0 hw [] b_4 kb_4 (c0.toInt8.toInt32) (c1.toInt8.toInt32) T4.heap n0 (Nat.le_trans Z0 K13.1) Q4_0) X4 hx hZ hown (hw.w 23 rfl) (hw.w 24 rfl) (hw.w 17 rfl) (hw.w 25 rfl) rfl rfl rfl (by rw [hml]; rfl) (rest := [.ref a1]) (lenOf own_pd5 rfl) rfl (hb hby d2_45) (W := 1) (show 2 * 0 + _ = _ from rfl) (by decide) (by decide) ?_
  rintro _ T14 L14 X14 ⟨rfl, N14q, e14⟩
  have N14 := Fr.app N4 N14q
  refine own_go (B := T14.setTop (mkF m 48 #[Sr a1, Sr a2, Si 0, Si 2, .val .null, Sr b_4] [.int 0, .ref a1])) (fun _ k => k) ?_
  refine own_pN X14 hx hZ hown (hw.w 26 rfl) Via.refl e14 F_10 E_8 (Or.inr ⟨(hw.w 27 rfl), rfl, hnm⟩) (hw.w 1 rfl) (ty := .byte) (v := (.int 0)) (v' := (.int 0)) (by decide) rfl rfl rfl rfl (hb hby d2_48) fun T15 h15 X15 e15 W15 => ?_
  have F_w15 : Fld Z h15 a1 nn3_ "coder" "B" (.int 0) := F_10.same W15
  have E_17 := E_8.wr W15
  have F_18 := F_9.other W15 (Or.inr (slot_ne (Or.inr (hw.w 29 rfl)) (Or.inr (hw.w 27 rfl)) (by decide) (t := (.array .byte)) (t' := .byte) (by decide) (by decide)))
  have V_22 := Q4_0.other W15 (Ne.symm ne_a1_b_4_5)
  have K23 : Keep h0 h15 [a1] := K13.wr W15 (Or.inl (List.mem_of_getElem? (i := 0) rfl))
  have N15 := Fr.snoc X15 N14 g_a1
  refine own_go (B := T15.setTop (mkF m 54 #[Sr a1, Sr a2, Si 0, Si 2, .val .null, Sr b_4] [.ref b_4, .ref a1])) (fun _ k => XS.aloadN X15.here hx rfl (hb hby d2_51) rfl rfl (XS.aload X15.here hx rfl (hb hby d2_52) rfl rfl k)) ?_
  refine own_pF X15 hx hZ hown (hw.w 28 rfl) Via.refl e15 F_18 E_17 (Or.inr ⟨(hw.w 29 rfl), rfl, hnm⟩) (hw.w 1 rfl) (ty := (.array .byte)) (v := (.ref b_4)) (by decide) rfl rfl rfl rfl (hb hby d2_54) fun T24 h24 X24 e24 W24 => ?_
  have F_w24 : Fld Z h24 a1 nn3_ "value" "[B" (.ref b_4) := F_18.same W24
  have E_26 := E_17.wr W24
  have V_30 := V_22.other W24 (Ne.symm ne_a1_b_4_5)
  have F_31 := F_w15.other W24 (Or.inr (slot_ne (Or.inr (hw.w 27 rfl)) (Or.inr (hw.w 29 rfl)) (by decide) (t := .byte) (t' := (.array .byte)) (by decide) (by decide)))
  have K32 : Keep h0 h24 [a1] := K23.wr W24 (Or.inl (List.mem_of_getElem? (i := 0) rfl))
  have N24 := Fr.snoc X24 N15 g_a1
  refine own_go (B := T24.setTop (mkF m 57 #[Sr a1, Sr a2, Si 0, Si 2, .val .null, Sr b_4] [])) (fun _ k => k) ?_
  exact own_retV X24 hx hlk hret (hb hby d2_57) e24 ⟨b_4, kb_4, rfl, N24, K32, E_26, F_w24, F_31, V_30, x4_0⟩ (by decide) (by decide)
abbrev R_own_str2 : Room := ⟨3, 1, 2, 52⟩
def Q_own_str2 (Z : State) (a1 a2 : Addr) (k2 : ClassId) (c0 c1 cs : Int32) (h0 : Heap) (n0 : Nat) (v : Option Value) (h : Heap) (L : List Loc) : Prop := ∃ t : Addr, ∃ kt : ClassId, v = none ∧ Fr n0 L ∧ Keep h0 h [a1] ∧ Exa Z h a1 nn3_ ∧ Fld Z h a1 nn3_ "value" "[B" (.ref t) ∧ Fld Z h a1 nn3_ "coder" "B" (.int 0) ∧ Arv Z h t kt .byte 2 [(.int (c0.toInt8.toInt32)), (.int (c1.toInt8.toInt32))] (.int 0) ∧ (h0.size ≤ t)
theorem own_str2 (l : Launch) (Z : State) (a0 : Array Value) (hw : own_HW a0 Z) (ws : List Jvm.Cond) (a1 a2 : Addr) (k2 : ClassId) (c0 c1 cs : Int32) (h0 : Heap) (n0 : Nat) (Z0 : n0 ≤ h0.size) (P_E_a1 : Exa Z h0 a1 nn3_) (P_F_a1_value : Fld Z h0 a1 nn3_ "value" "[B" .null) (P_F_a1_coder : Fld Z h0 a1 nn3_ "coder" "B" (.int 0)) (P_V_a2 : Arv Z h0 a2 k2 .char 2 [.int c0, .int c1] (.int 0)) (g_a1 : n0 ≤ a1) (ne_a1_a2 : a1 ≠ a2) (P_S_COMPACT_STRINGS : Sta Z h0 nn3_ nn16_ "Z" (.int cs)) (hcs : ¬ (cs = (0 : Int32))) (hh0 : c0.toInt ≤ 255) (hh1 : c1.toInt ≤ 255) :
    own_MF l own_y14 (Jvm.Cond.code own_y14 jdk_42_method_3_code 2 none) ws R_own_str2 #[.ref a1, .ref a2] Z h0 (Q_own_str2 Z a1 a2 k2 c0 c1 cs h0 n0) := by
  refine own_begin (plainFor_of_name own_pn10) (fun m => ef1 m a1 a2) ?_
  intro p e s m below meth c s₁ hx hby hml hown hnm hlk hret hZ X0 e0
  have N0 := Fr.nil n0
  have K0 := Keep.refl h0 [a1]
  refine own_go (B := s₁.setTop (mkF m 4 #[Sr a1, Sr a2] [.ref a2, .int 0, .ref a2, .ref a1])) (fun _ k => XS.aloadN X0.here hx rfl (hb hby d1_0) rfl rfl (XS.aloadN X0.here hx rfl (hb hby d1_1) rfl rfl (XS.iconst X0.here hx rfl (hb hby d1_2) (XS.aloadN X0.here hx rfl (hb hby d1_3) rfl rfl k)))) ?_
  obtain ⟨cl1, Ar1, q1, S1, N1n, H1, G1⟩ := id P_V_a2
  refine own_go (fun _ k => X0.arraylength hx (own_hc e0 Ar1.1) (State.isArrayOf_alike hZ.alike Ar1.2.1) (g := (mkF m 4 #[Sr a1, Sr a2] [.ref a2, .int 0, .ref a2, .ref a1])) rfl rfl (hb hby d1_4) _ k) ?_
  rw [len_of S1 N1n]
  show own_Fin _ _ _ _ _ _ _ (s₁.setTop (mkF m 5 #[Sr a1, Sr a2] [.int 2, .int 0, .ref a2, .ref a1]))
  refine own_go (B := s₁.setTop (mkF m 6 #[Sr a1, Sr a2] [.null, .int 2, .int 0, .ref a2, .ref a1])) (fun _ k => XS.aconstNull X0.here hx rfl (hb hby d1_5) k) ?_
  refine own_cN (own_str4_2 l Z a0 hw [] a1 a2 k2 c0 c1 cs h0 n0 (Nat.le_trans Z0 K0.1) P_E_a1 P_F_a1_value P_F_a1_coder P_V_a2 g_a1 ne_a1_a2 P_S_COMPACT_STRINGS hcs hh0 hh1) X0 hx hZ hown (hw.w 7 rfl) (hw.w 8 rfl) (hw.w 2 rfl) (hw.w 10 rfl) e0 rfl rfl (by rw [hml]; rfl) (rest := []) (lenOf own_pd6 rfl) rfl (hb hby d1_6) (W := 0) (show 2 * 0 + _ = _ from rfl) (by decide) (by decide) rfl ?_
  rintro _ T2 L2 X2 ⟨t_2, kt_2, rfl, N2q, K2q, Q2_0, Q2_1, Q2_2, Q2_3, x2_0⟩
  have N2 := Fr.app N0 N2q
  have K11 : Keep h0 T2.heap [a1] := K0.trans K2q (allS (Or.inl (List.mem_of_getElem? (i := 0) rfl)) all0)
  refine own_go (B := T2.setTop (mkF m 9 #[Sr a1, Sr a2] [])) (fun _ k => k) ?_
  exact own_retV X2 hx hlk hret (hb hby d1_9) rfl ⟨t_2, kt_2, rfl, N2, K11, Q2_0, Q2_1, Q2_2, Q2_3, x2_0⟩ (by decide) (by decide)
abbrev R_own_len2_0 : Room := ⟨1, 0, 0, 13⟩
def Q_own_len2_0 (Z : State) (a1 t : Addr) (kt : ClassId) (u0 u1 cs : Int32) (h0 : Heap) (n0 : Nat) (v : Option Value) (h : Heap) (L : List Loc) : Prop := v = some (.int 2) ∧ Fr n0 L ∧ h = h0
theorem own_len2_0 (l : Launch) (Z : State) (a0 : Array Value) (hw : own_HW a0 Z) (ws : List Jvm.Cond) (a1 t : Addr) (kt : ClassId) (u0 u1 cs : Int32) (h0 : Heap) (n0 : Nat) (Z0 : n0 ≤ h0.size) (P_E_a1 : Exa Z h0 a1 nn3_) (P_F_a1_value : Fld Z h0 a1 nn3_ "value" "[B" (.ref t)) (P_F_a1_coder : Fld Z h0 a1 nn3_ "coder" "B" (.int 0)) (P_V_t : Arv Z h0 t kt .byte 2 [.int u0, .int u1] (.int 0)) (P_S_COMPACT_STRINGS : Sta Z h0 nn3_ nn16_ "Z" (.int cs)) (hcs : ¬ (cs = (0 : Int32))) :
    own_MF l own_y16 (Jvm.Cond.code own_y16 jdk_42_method_54_code 1 (some .int)) ws R_own_len2_0 #[.ref a1] Z h0 (Q_own_len2_0 Z a1 t kt u0 u1 cs h0 n0) := by
  refine own_begin (plainFor_of_name own_pn10) (fun m => ef0 m a1) ?_
  intro p e s m below meth c s₁ hx hby hml hown hnm hlk hret hZ X0 e0
  have N0 := Fr.nil n0
  have K0 := Keep.refl h0 []
  refine own_go (B := s₁.setTop (mkF m 1 #[Sr a1] [.ref a1])) (fun _ k => XS.aloadN X0.here hx rfl (hb hby d22_0) rfl rfl k) ?_
  refine own_gF X0 hx hZ hown (hw.w 28 rfl) Via.refl e0 P_F_a1_value rfl rfl (hb hby d22_1) fun T1 X1 e1 => ?_
  refine own_go (B := T1.setTop (mkF m 4 #[Sr a1] [.ref t])) (fun _ k => k) ?_
  obtain ⟨cl2, Ar2, q2, S2, N2n, H2, G2⟩ := id P_V_t
  refine own_go (fun _ k => X1.arraylength hx (own_hc e1 Ar2.1) (State.isArrayOf_alike hZ.alike Ar2.2.1) (g := (mkF m 4 #[Sr a1] [.ref t])) rfl rfl (hb hby d22_4) _ k) ?_
  rw [len_of S2 N2n]
  show own_Fin _ _ _ _ _ _ _ (T1.setTop (mkF m 5 #[Sr a1] [.int 2]))
  refine own_go (B := T1.setTop (mkF m 6 #[Sr a1] [.ref a1, .int 2])) (fun _ k => XS.aloadN X1.here hx rfl (hb hby d22_5) rfl rfl k) ?_
  refine own_cV (own_coder0 l Z a0 hw [] a1 cs h0 n0 (Nat.le_trans Z0 K0.1) P_F_a1_coder P_S_COMPACT_STRINGS hcs) X1 hx hZ hown (hw.w 139 rfl) (hw.w 140 rfl) (notFace_of_selects (args := #[]) (mvT hZ (hw.w 142 rfl))) (hw.w 142 rfl) (hw.w 141 rfl) (hw.w 2 rfl) (hw.w 143 rfl) P_E_a1 e1 rfl rfl (by rw [hml]; rfl) (rest := [.int 2]) (lenOf own_pd7 rfl) rfl (hb hby d22_6) (W := 1) (show 2 * 0 + _ = _ from rfl) (by decide) (by decide) ?_
  rintro _ T3 L3 X3 ⟨rfl, N3q, e3⟩
  have N3 := Fr.app N0 N3q
  refine own_go (B := T3.setTop (mkF m 10 #[Sr a1] [(.int ((2 : Int32) >>> ((0 : Int32) &&& 31)))])) (fun _ k => XS.ishr X3.here hx rfl (hb hby d22_9) rfl k) ?_
  rw [show ((2 : Int32) >>> ((0 : Int32) &&& 31)) = (2 : Int32) from by decide]
  show own_Fin _ _ _ _ _ _ _ (T3.setTop (mkF m 10 #[Sr a1] [.int 2]))
  exact own_retI X3 hx hlk hret (hb hby d22_10) e3 ⟨rfl, N3, rfl⟩ (by decide) (by decide)
abbrev R_own_len9_0 : Room := ⟨1, 0, 0, 13⟩
def Q_own_len9_0 (Z : State) (a1 t : Addr) (kt : ClassId) (u0 u1 u2 u3 u4 u5 u6 u7 u8 cs : Int32) (h0 : Heap) (n0 : Nat) (v : Option Value) (h : Heap) (L : List Loc) : Prop := v = some (.int 9) ∧ Fr n0 L ∧ h = h0
theorem own_len9_0 (l : Launch) (Z : State) (a0 : Array Value) (hw : own_HW a0 Z) (ws : List Jvm.Cond) (a1 t : Addr) (kt : ClassId) (u0 u1 u2 u3 u4 u5 u6 u7 u8 cs : Int32) (h0 : Heap) (n0 : Nat) (Z0 : n0 ≤ h0.size) (P_E_a1 : Exa Z h0 a1 nn3_) (P_F_a1_value : Fld Z h0 a1 nn3_ "value" "[B" (.ref t)) (P_F_a1_coder : Fld Z h0 a1 nn3_ "coder" "B" (.int 0)) (P_V_t : Arv Z h0 t kt .byte 9 [.int u0, .int u1, .int u2, .int u3, .int u4, .int u5, .int u6, .int u7, .int u8] (.int 0)) (P_S_COMPACT_STRINGS : Sta Z h0 nn3_ nn16_ "Z" (.int cs)) (hcs : ¬ (cs = (0 : Int32))) :
    own_MF l own_y16 (Jvm.Cond.code own_y16 jdk_42_method_54_code 1 (some .int)) ws R_own_len9_0 #[.ref a1] Z h0 (Q_own_len9_0 Z a1 t kt u0 u1 u2 u3 u4 u5 u6 u7 u8 cs h0 n0) := by
  refine own_begin (plainFor_of_name own_pn10) (fun m => ef0 m a1) ?_
  intro p e s m below meth c s₁ hx hby hml hown hnm hlk hret hZ X0 e0
  have N0 := Fr.nil n0
  have K0 := Keep.refl h0 []
  refine own_go (B := s₁.setTop (mkF m 1 #[Sr a1] [.ref a1])) (fun _ k => XS.aloadN X0.here hx rfl (hb hby d22_0) rfl rfl k) ?_
  refine own_gF X0 hx hZ hown (hw.w 28 rfl) Via.refl e0 P_F_a1_value rfl rfl (hb hby d22_1) fun T1 X1 e1 => ?_
  refine own_go (B := T1.setTop (mkF m 4 #[Sr a1] [.ref t])) (fun _ k => k) ?_
  obtain ⟨cl2, Ar2, q2, S2, N2n, H2, G2⟩ := id P_V_t
  refine own_go (fun _ k => X1.arraylength hx (own_hc e1 Ar2.1) (State.isArrayOf_alike hZ.alike Ar2.2.1) (g := (mkF m 4 #[Sr a1] [.ref t])) rfl rfl (hb hby d22_4) _ k) ?_
  rw [len_of S2 N2n]
  show own_Fin _ _ _ _ _ _ _ (T1.setTop (mkF m 5 #[Sr a1] [.int 9]))
  refine own_go (B := T1.setTop (mkF m 6 #[Sr a1] [.ref a1, .int 9])) (fun _ k => XS.aloadN X1.here hx rfl (hb hby d22_5) rfl rfl k) ?_
  refine own_cV (own_coder0 l Z a0 hw [] a1 cs h0 n0 (Nat.le_trans Z0 K0.1) P_F_a1_coder P_S_COMPACT_STRINGS hcs) X1 hx hZ hown (hw.w 139 rfl) (hw.w 140 rfl) (notFace_of_selects (args := #[]) (mvT hZ (hw.w 142 rfl))) (hw.w 142 rfl) (hw.w 141 rfl) (hw.w 2 rfl) (hw.w 143 rfl) P_E_a1 e1 rfl rfl (by rw [hml]; rfl) (rest := [.int 9]) (lenOf own_pd7 rfl) rfl (hb hby d22_6) (W := 1) (show 2 * 0 + _ = _ from rfl) (by decide) (by decide) ?_
  rintro _ T3 L3 X3 ⟨rfl, N3q, e3⟩
  have N3 := Fr.app N0 N3q
  refine own_go (B := T3.setTop (mkF m 10 #[Sr a1] [(.int ((9 : Int32) >>> ((0 : Int32) &&& 31)))])) (fun _ k => XS.ishr X3.here hx rfl (hb hby d22_9) rfl k) ?_
  rw [show ((9 : Int32) >>> ((0 : Int32) &&& 31)) = (9 : Int32) from by decide]
  show own_Fin _ _ _ _ _ _ _ (T3.setTop (mkF m 10 #[Sr a1] [.int 9]))
  exact own_retI X3 hx hlk hret (hb hby d22_10) e3 ⟨rfl, N3, rfl⟩ (by decide) (by decide)
abbrev R_own_len10_0 : Room := ⟨1, 0, 0, 13⟩
def Q_own_len10_0 (Z : State) (a1 t : Addr) (kt : ClassId) (u0 u1 u2 u3 u4 u5 u6 u7 u8 u9 cs : Int32) (h0 : Heap) (n0 : Nat) (v : Option Value) (h : Heap) (L : List Loc) : Prop := v = some (.int 10) ∧ Fr n0 L ∧ h = h0
theorem own_len10_0 (l : Launch) (Z : State) (a0 : Array Value) (hw : own_HW a0 Z) (ws : List Jvm.Cond) (a1 t : Addr) (kt : ClassId) (u0 u1 u2 u3 u4 u5 u6 u7 u8 u9 cs : Int32) (h0 : Heap) (n0 : Nat) (Z0 : n0 ≤ h0.size) (P_E_a1 : Exa Z h0 a1 nn3_) (P_F_a1_value : Fld Z h0 a1 nn3_ "value" "[B" (.ref t)) (P_F_a1_coder : Fld Z h0 a1 nn3_ "coder" "B" (.int 0)) (P_V_t : Arv Z h0 t kt .byte 10 [.int u0, .int u1, .int u2, .int u3, .int u4, .int u5, .int u6, .int u7, .int u8, .int u9] (.int 0)) (P_S_COMPACT_STRINGS : Sta Z h0 nn3_ nn16_ "Z" (.int cs)) (hcs : ¬ (cs = (0 : Int32))) :
    own_MF l own_y16 (Jvm.Cond.code own_y16 jdk_42_method_54_code 1 (some .int)) ws R_own_len10_0 #[.ref a1] Z h0 (Q_own_len10_0 Z a1 t kt u0 u1 u2 u3 u4 u5 u6 u7 u8 u9 cs h0 n0) := by
  refine own_begin (plainFor_of_name own_pn10) (fun m => ef0 m a1) ?_
  intro p e s m below meth c s₁ hx hby hml hown hnm hlk hret hZ X0 e0
  have N0 := Fr.nil n0
  have K0 := Keep.refl h0 []
  refine own_go (B := s₁.setTop (mkF m 1 #[Sr a1] [.ref a1])) (fun _ k => XS.aloadN X0.here hx rfl (hb hby d22_0) rfl rfl k) ?_
  refine own_gF X0 hx hZ hown (hw.w 28 rfl) Via.refl e0 P_F_a1_value rfl rfl (hb hby d22_1) fun T1 X1 e1 => ?_
  refine own_go (B := T1.setTop (mkF m 4 #[Sr a1] [.ref t])) (fun _ k => k) ?_
  obtain ⟨cl2, Ar2, q2, S2, N2n, H2, G2⟩ := id P_V_t
  refine own_go (fun _ k => X1.arraylength hx (own_hc e1 Ar2.1) (State.isArrayOf_alike hZ.alike Ar2.2.1) (g := (mkF m 4 #[Sr a1] [.ref t])) rfl rfl (hb hby d22_4) _ k) ?_
  rw [len_of S2 N2n]
  show own_Fin _ _ _ _ _ _ _ (T1.setTop (mkF m 5 #[Sr a1] [.int 10]))
  refine own_go (B := T1.setTop (mkF m 6 #[Sr a1] [.ref a1, .int 10])) (fun _ k => XS.aloadN X1.here hx rfl (hb hby d22_5) rfl rfl k) ?_
  refine own_cV (own_coder0 l Z a0 hw [] a1 cs h0 n0 (Nat.le_trans Z0 K0.1) P_F_a1_coder P_S_COMPACT_STRINGS hcs) X1 hx hZ hown (hw.w 139 rfl) (hw.w 140 rfl) (notFace_of_selects (args := #[]) (mvT hZ (hw.w 142 rfl))) (hw.w 142 rfl) (hw.w 141 rfl) (hw.w 2 rfl) (hw.w 143 rfl) P_E_a1 e1 rfl rfl (by rw [hml]; rfl) (rest := [.int 10]) (lenOf own_pd7 rfl) rfl (hb hby d22_6) (W := 1) (show 2 * 0 + _ = _ from rfl) (by decide) (by decide) ?_
  rintro _ T3 L3 X3 ⟨rfl, N3q, e3⟩
  have N3 := Fr.app N0 N3q
  refine own_go (B := T3.setTop (mkF m 10 #[Sr a1] [(.int ((10 : Int32) >>> ((0 : Int32) &&& 31)))])) (fun _ k => XS.ishr X3.here hx rfl (hb hby d22_9) rfl k) ?_
  rw [show ((10 : Int32) >>> ((0 : Int32) &&& 31)) = (10 : Int32) from by decide]
  show own_Fin _ _ _ _ _ _ _ (T3.setTop (mkF m 10 #[Sr a1] [.int 10]))
  exact own_retI X3 hx hlk hret (hb hby d22_10) e3 ⟨rfl, N3, rfl⟩ (by decide) (by decide)
abbrev R_own_len11_0 : Room := ⟨1, 0, 0, 13⟩
def Q_own_len11_0 (Z : State) (a1 t : Addr) (kt : ClassId) (u0 u1 u2 u3 u4 u5 u6 u7 u8 u9 u10 cs : Int32) (h0 : Heap) (n0 : Nat) (v : Option Value) (h : Heap) (L : List Loc) : Prop := v = some (.int 11) ∧ Fr n0 L ∧ h = h0
theorem own_len11_0 (l : Launch) (Z : State) (a0 : Array Value) (hw : own_HW a0 Z) (ws : List Jvm.Cond) (a1 t : Addr) (kt : ClassId) (u0 u1 u2 u3 u4 u5 u6 u7 u8 u9 u10 cs : Int32) (h0 : Heap) (n0 : Nat) (Z0 : n0 ≤ h0.size) (P_E_a1 : Exa Z h0 a1 nn3_) (P_F_a1_value : Fld Z h0 a1 nn3_ "value" "[B" (.ref t)) (P_F_a1_coder : Fld Z h0 a1 nn3_ "coder" "B" (.int 0)) (P_V_t : Arv Z h0 t kt .byte 11 [.int u0, .int u1, .int u2, .int u3, .int u4, .int u5, .int u6, .int u7, .int u8, .int u9, .int u10] (.int 0)) (P_S_COMPACT_STRINGS : Sta Z h0 nn3_ nn16_ "Z" (.int cs)) (hcs : ¬ (cs = (0 : Int32))) :
    own_MF l own_y16 (Jvm.Cond.code own_y16 jdk_42_method_54_code 1 (some .int)) ws R_own_len11_0 #[.ref a1] Z h0 (Q_own_len11_0 Z a1 t kt u0 u1 u2 u3 u4 u5 u6 u7 u8 u9 u10 cs h0 n0) := by
  refine own_begin (plainFor_of_name own_pn10) (fun m => ef0 m a1) ?_
  intro p e s m below meth c s₁ hx hby hml hown hnm hlk hret hZ X0 e0
  have N0 := Fr.nil n0
  have K0 := Keep.refl h0 []
  refine own_go (B := s₁.setTop (mkF m 1 #[Sr a1] [.ref a1])) (fun _ k => XS.aloadN X0.here hx rfl (hb hby d22_0) rfl rfl k) ?_
  refine own_gF X0 hx hZ hown (hw.w 28 rfl) Via.refl e0 P_F_a1_value rfl rfl (hb hby d22_1) fun T1 X1 e1 => ?_
  refine own_go (B := T1.setTop (mkF m 4 #[Sr a1] [.ref t])) (fun _ k => k) ?_
  obtain ⟨cl2, Ar2, q2, S2, N2n, H2, G2⟩ := id P_V_t
  refine own_go (fun _ k => X1.arraylength hx (own_hc e1 Ar2.1) (State.isArrayOf_alike hZ.alike Ar2.2.1) (g := (mkF m 4 #[Sr a1] [.ref t])) rfl rfl (hb hby d22_4) _ k) ?_
  rw [len_of S2 N2n]
  show own_Fin _ _ _ _ _ _ _ (T1.setTop (mkF m 5 #[Sr a1] [.int 11]))
  refine own_go (B := T1.setTop (mkF m 6 #[Sr a1] [.ref a1, .int 11])) (fun _ k => XS.aloadN X1.here hx rfl (hb hby d22_5) rfl rfl k) ?_
  refine own_cV (own_coder0 l Z a0 hw [] a1 cs h0 n0 (Nat.le_trans Z0 K0.1) P_F_a1_coder P_S_COMPACT_STRINGS hcs) X1 hx hZ hown (hw.w 139 rfl) (hw.w 140 rfl) (notFace_of_selects (args := #[]) (mvT hZ (hw.w 142 rfl))) (hw.w 142 rfl) (hw.w 141 rfl) (hw.w 2 rfl) (hw.w 143 rfl) P_E_a1 e1 rfl rfl (by rw [hml]; rfl) (rest := [.int 11]) (lenOf own_pd7 rfl) rfl (hb hby d22_6) (W := 1) (show 2 * 0 + _ = _ from rfl) (by decide) (by decide) ?_
  rintro _ T3 L3 X3 ⟨rfl, N3q, e3⟩
  have N3 := Fr.app N0 N3q
  refine own_go (B := T3.setTop (mkF m 10 #[Sr a1] [(.int ((11 : Int32) >>> ((0 : Int32) &&& 31)))])) (fun _ k => XS.ishr X3.here hx rfl (hb hby d22_9) rfl k) ?_
  rw [show ((11 : Int32) >>> ((0 : Int32) &&& 31)) = (11 : Int32) from by decide]
  show own_Fin _ _ _ _ _ _ _ (T3.setTop (mkF m 10 #[Sr a1] [.int 11]))
  exact own_retI X3 hx hlk hret (hb hby d22_10) e3 ⟨rfl, N3, rfl⟩ (by decide) (by decide)
abbrev R_own_leq11 : Room := ⟨0, 0, 0, 0⟩
theorem d56_0 : own_D cd56 0 (.aload_n 0) 1 := by decide +kernel
theorem d56_1 : own_D cd56 1 .arraylength 1 := by decide +kernel
theorem d56_2 : own_D cd56 2 (.aload_n 1) 1 := by decide +kernel
theorem d56_3 : own_D cd56 3 .arraylength 1 := by decide +kernel
theorem d56_4 : own_D cd56 4 (.if_icmp .ne 30) 3 := by decide +kernel
theorem d56_7 : own_D cd56 7 (.iconst 0) 1 := by decide +kernel
theorem d56_8 : own_D cd56 8 (.istore_n 2) 1 := by decide +kernel
theorem d56_9 : own_D cd56 9 (.iload_n 2) 1 := by decide +kernel
theorem d56_10 : own_D cd56 10 (.aload_n 0) 1 := by decide +kernel
theorem d56_11 : own_D cd56 11 .arraylength 1 := by decide +kernel
theorem d56_12 : own_D cd56 12 (.if_icmp .ge 20) 3 := by decide +kernel
theorem d56_15 : own_D cd56 15 (.aload_n 0) 1 := by decide +kernel
theorem d56_16 : own_D cd56 16 (.iload_n 2) 1 := by decide +kernel
theorem d56_17 : own_D cd56 17 .baload 1 := by decide +kernel
theorem d56_18 : own_D cd56 18 (.aload_n 1) 1 := by decide +kernel
theorem d56_19 : own_D cd56 19 (.iload_n 2) 1 := by decide +kernel
theorem d56_20 : own_D cd56 20 .baload 1 := by decide +kernel
theorem d56_21 : own_D cd56 21 (.if_icmp .eq 5) 3 := by decide +kernel
theorem d56_24 : own_D cd56 24 (.iconst 0) 1 := by decide +kernel
theorem d56_25 : own_D cd56 25 .ireturn 1 := by decide +kernel
theorem d56_26 : own_D cd56 26 (.iinc 2 1) 3 := by decide +kernel
theorem d56_29 : own_D cd56 29 (.goto (-20)) 3 := by decide +kernel
theorem d56_32 : own_D cd56 32 (.iconst 1) 1 := by decide +kernel
theorem d56_33 : own_D cd56 33 .ireturn 1 := by decide +kernel
theorem own_pn11 : plainName "java/lang/StringLatin1" = true := by first | (simp [plainName, overriddenIn]; done) | decide +kernel
theorem ef10 (m : MethodId) (x0 x1 : Addr) : entryFrame m #[(.ref x0), (.ref x1)] 3 = mkF m 0 #[.val (.ref x0), .val (.ref x1), .unset] [] := by first | (simp [entryFrame, mkF, argsToLocals, Value.category]; done) | rfl
def Q_own_leq11 (Z : State) (a1 a2 : Addr) (k1 k2 : ClassId) (x0 y0 : Int32) (h0 : Heap) (n0 : Nat) (v : Option Value) (h : Heap) (L : List Loc) : Prop := v = some (.int (own_b (x0 = y0))) ∧ Fr n0 L ∧ h = h0
theorem own_leq11 (l : Launch) (Z : State) (a0 : Array Value) (hw : own_HW a0 Z) (ws : List Jvm.Cond) (a1 a2 : Addr) (k1 k2 : ClassId) (x0 y0 : Int32) (h0 : Heap) (n0 : Nat) (Z0 : n0 ≤ h0.size) (P_V_a1 : Arv Z h0 a1 k1 .byte 1 [.int x0] (.int 0)) (P_V_a2 : Arv Z h0 a2 k2 .byte 1 [.int y0] (.int 0)) :
    own_MF l own_y17 (Jvm.Cond.code own_y17 jdk_43_method_13_code 3 (some .boolean)) ws R_own_leq11 #[.ref a1, .ref a2] Z h0 (Q_own_leq11 Z a1 a2 k1 k2 x0 y0 h0 n0) := by
  refine own_begin (plainFor_of_name own_pn11) (fun m => ef10 m a1 a2) ?_
  intro p e s m below meth c s₁ hx hby hml hown hnm hlk hret hZ X0 e0
  have N0 := Fr.nil n0
  have K0 := Keep.refl h0 []
  refine own_go (B := s₁.setTop (mkF m 1 #[Sr a1, Sr a2, Su] [.ref a1])) (fun _ k => XS.aloadN X0.here hx rfl (hb hby d56_0) rfl rfl k) ?_
  obtain ⟨cl1, Ar1, q1, S1, N1n, H1, G1⟩ := id P_V_a1
  refine own_go (fun _ k => X0.arraylength hx (own_hc e0 Ar1.1) (State.isArrayOf_alike hZ.alike Ar1.2.1) (g := (mkF m 1 #[Sr a1, Sr a2, Su] [.ref a1])) rfl rfl (hb hby d56_1) _ k) ?_
  rw [len_of S1 N1n]
  show own_Fin _ _ _ _ _ _ _ (s₁.setTop (mkF m 2 #[Sr a1, Sr a2, Su] [.int 1]))
  refine own_go (B := s₁.setTop (mkF m 3 #[Sr a1, Sr a2, Su] [.ref a2, .int 1])) (fun _ k => XS.aloadN X0.here hx rfl (hb hby d56_2) rfl rfl k) ?_
  obtain ⟨cl2, Ar2, q2, S2, N2n, H2, G2⟩ := id P_V_a2
  refine own_go (fun _ k => X0.arraylength hx (own_hc e0 Ar2.1) (State.isArrayOf_alike hZ.alike Ar2.2.1) (g := (mkF m 3 #[Sr a1, Sr a2, Su] [.ref a2, .int 1])) rfl rfl (hb hby d56_3) _ k) ?_
  rw [len_of S2 N2n]
  show own_Fin _ _ _ _ _ _ _ (s₁.setTop (mkF m 4 #[Sr a1, Sr a2, Su] [.int 1, .int 1]))
  have hc3 : (1 : Int32) = (1 : Int32) := by decide
  refine own_go (B := s₁.setTop (mkF m 11 #[Sr a1, Sr a2, Si 0] [.ref a1, .int 0])) (fun _ k => XS.icmpNo X0.here hx rfl (hb hby d56_4) rfl (teq hc3).2 (XS.iconst X0.here hx rfl (hb hby d56_7) (XS.istoreN X0.here hx rfl (hb hby d56_8) rfl (l' := #[Sr a1, Sr a2, Si 0]) rfl (XS.iloadN X0.here hx rfl (hb hby d56_9) rfl (XS.aloadN X0.here hx rfl (hb hby d56_10) rfl rfl k))))) ?_
  obtain ⟨cl4, Ar4, q4, S4, N4n, H4, G4⟩ := id P_V_a1
  refine own_go (fun _ k => X0.arraylength hx (own_hc e0 Ar4.1) (State.isArrayOf_alike hZ.alike Ar4.2.1) (g := (mkF m 11 #[Sr a1, Sr a2, Si 0] [.ref a1, .int 0])) rfl rfl (hb hby d56_11) _ k) ?_
  rw [len_of S4 N4n]
  show own_Fin _ _ _ _ _ _ _ (s₁.setTop (mkF m 12 #[Sr a1, Sr a2, Si 0] [.int 1, .int 0]))
  have hc5 : (0 : Int32) < (1 : Int32) := by decide
  refine own_go (B := s₁.setTop (mkF m 17 #[Sr a1, Sr a2, Si 0] [.int 0, .ref a1])) (fun _ k => XS.icmpNo X0.here hx rfl (hb hby d56_12) rfl (tlt hc5).2.1 (XS.aloadN X0.here hx rfl (hb hby d56_15) rfl rfl (XS.iloadN X0.here hx rfl (hb hby d56_16) rfl  k))) ?_
  obtain ⟨cl6, Ar6, q6, S6, N6n, H6, G6⟩ := id P_V_a1
  have hin7 : ¬ ((0 : Int32) < 0 ∨ cl6.slots.size ≤ ((0 : Int32)).toNatClampNeg) := inb_of S6 ⟨by decide, by decide⟩
  have hat7 : cl6.slots[((0 : Int32)).toNatClampNeg]? = some (.int x0) := H6.at hin7 rfl
  refine own_go (B := s₁.setTop (mkF m 20 #[Sr a1, Sr a2, Si 0] [.int 0, .ref a2, .int x0])) (fun _ k => X0.baloadBytes hx (j := (0 : Int32)) (v := (.int x0)) (own_hc e0 Ar6.1) (State.isArrayOf_alike hZ.alike Ar6.2.1) Ar6.2.2 hin7 hat7 (g := (mkF m 17 #[Sr a1, Sr a2, Si 0] [.int 0, .ref a1])) rfl rfl (hb hby d56_17) _ (XS.aloadN X0.here hx rfl (hb hby d56_18) rfl rfl (XS.iloadN X0.here hx rfl (hb hby d56_19) rfl  k))) ?_
  obtain ⟨cl8, Ar8, q8, S8, N8n, H8, G8⟩ := id P_V_a2
  have hin9 : ¬ ((0 : Int32) < 0 ∨ cl8.slots.size ≤ ((0 : Int32)).toNatClampNeg) := inb_of S8 ⟨by decide, by decide⟩
  have hat9 : cl8.slots[((0 : Int32)).toNatClampNeg]? = some (.int y0) := H8.at hin9 rfl
  refine own_go (B := s₁.setTop (mkF m 21 #[Sr a1, Sr a2, Si 0] [.int y0, .int x0])) (fun _ k => X0.baloadBytes hx (j := (0 : Int32)) (v := (.int y0)) (own_hc e0 Ar8.1) (State.isArrayOf_alike hZ.alike Ar8.2.1) Ar8.2.2 hin9 hat9 (g := (mkF m 20 #[Sr a1, Sr a2, Si 0] [.int 0, .ref a2, .int x0])) rfl rfl (hb hby d56_20) _ k) ?_
  by_cases hc10 : x0 = y0
  · skip
    refine own_go (B := s₁.setTop (mkF m 29 #[Sr a1, Sr a2, Si ((0 : Int32) + (1 : Int32))] [])) (fun _ k => XS.icmpYes X0.here hx rfl (pc0 := 21) (pc' := 26) rfl (hb hby d56_21) rfl (teq hc10).1 (by decide) (by decide) (XS.iinc X0.here hx rfl (hb hby d56_26) rfl (l' := #[Sr a1, Sr a2, Si ((0 : Int32) + (1 : Int32))]) rfl k)) ?_
    rw [show ((0 : Int32) + (1 : Int32)) = (1 : Int32) from by decide]
    show own_Fin _ _ _ _ _ _ _ (s₁.setTop (mkF m 29 #[Sr a1, Sr a2, Si 1] []))
    refine own_go (B := s₁.setTop (mkF m 11 #[Sr a1, Sr a2, Si 1] [.ref a1, .int 1])) (fun _ k => XS.goto X0.here hx rfl (pc0 := 29) (pc' := 9) rfl (hb hby d56_29) (by decide) (by decide) (XS.iloadN X0.here hx rfl (hb hby d56_9) rfl (XS.aloadN X0.here hx rfl (hb hby d56_10) rfl rfl k))) ?_
    obtain ⟨cl11, Ar11, q11, S11, N11n, H11, G11⟩ := id P_V_a1
    refine own_go (fun _ k => X0.arraylength hx (own_hc e0 Ar11.1) (State.isArrayOf_alike hZ.alike Ar11.2.1) (g := (mkF m 11 #[Sr a1, Sr a2, Si 1] [.ref a1, .int 1])) rfl rfl (hb hby d56_11) _ k) ?_
    rw [len_of S11 N11n]
    show own_Fin _ _ _ _ _ _ _ (s₁.setTop (mkF m 12 #[Sr a1, Sr a2, Si 1] [.int 1, .int 1]))
    have hc12 : ¬ ((1 : Int32) < (1 : Int32)) := by decide
    refine own_go (B := s₁.setTop (mkF m 33 #[Sr a1, Sr a2, Si 1] [.int 1])) (fun _ k => XS.icmpYes X0.here hx rfl (pc0 := 12) (pc' := 32) rfl (hb hby d56_12) rfl (flt hc12).2.1 (by decide) (by decide) (XS.iconst X0.here hx rfl (hb hby d56_32) k)) ?_
    exact own_retN X0 hx hlk (t := .boolean) (w := (1 : Int32)) hret (by simp) (hb hby d56_33) e0 rfl ⟨(by rw [own_b1 hc10]), N0, rfl⟩ (by decide) (by decide)
  · skip
    refine own_go (B := s₁.setTop (mkF m 25 #[Sr a1, Sr a2, Si 0] [.int 0])) (fun _ k => XS.icmpNo X0.here hx rfl (hb hby d56_21) rfl (feq hc10).1 (XS.iconst X0.here hx rfl (hb hby d56_24) k)) ?_
    exact own_retN X0 hx hlk (t := .boolean) (w := (0 : Int32)) hret (by simp) (hb hby d56_25) e0 rfl ⟨(by rw [own_b0 hc10]), N0, rfl⟩ (by decide) (by decide)
abbrev R_own_seq11 : Room := ⟨1, 0, 0, 14⟩
theorem d55_0 : own_D cd55 0 (.aload_n 0) 1 := by decide +kernel
theorem d55_1 : own_D cd55 1 (.aload_n 1) 1 := by decide +kernel
theorem d55_2 : own_D cd55 2 (.if_acmp .ne 5) 3 := by decide +kernel
theorem d55_7 : own_D cd55 7 (.aload_n 1) 1 := by decide +kernel
theorem d55_8 : own_D cd55 8 (.instanceof 10) 3 := by decide +kernel
theorem d55_11 : own_D cd55 11 (.ifCond .eq 43) 3 := by decide +kernel
theorem d55_14 : own_D cd55 14 (.aload_n 1) 1 := by decide +kernel
theorem d55_15 : own_D cd55 15 (.checkcast 10) 3 := by decide +kernel
theorem d55_18 : own_D cd55 18 (.astore_n 2) 1 := by decide +kernel
theorem d55_19 : own_D cd55 19 (.getstatic 38) 3 := by decide +kernel
theorem d55_22 : own_D cd55 22 (.ifCond .eq 14) 3 := by decide +kernel
theorem d55_25 : own_D cd55 25 (.aload_n 0) 1 := by decide +kernel
theorem d55_26 : own_D cd55 26 (.getfield 15) 3 := by decide +kernel
theorem d55_29 : own_D cd55 29 (.aload_n 2) 1 := by decide +kernel
theorem d55_30 : own_D cd55 30 (.getfield 15) 3 := by decide +kernel
theorem d55_33 : own_D cd55 33 (.if_icmp .ne 21) 3 := by decide +kernel
theorem d55_36 : own_D cd55 36 (.aload_n 0) 1 := by decide +kernel
theorem d55_37 : own_D cd55 37 (.getfield 9) 3 := by decide +kernel
theorem d55_40 : own_D cd55 40 (.aload_n 2) 1 := by decide +kernel
theorem d55_41 : own_D cd55 41 (.getfield 9) 3 := by decide +kernel
theorem d55_44 : own_D cd55 44 (.invokestatic 541) 3 := by decide +kernel
theorem d55_47 : own_D cd55 47 (.ifCond .eq 7) 3 := by decide +kernel
theorem d55_50 : own_D cd55 50 (.iconst 1) 1 := by decide +kernel
theorem d55_51 : own_D cd55 51 (.goto 4) 3 := by decide +kernel
theorem d55_54 : own_D cd55 54 (.iconst 0) 1 := by decide +kernel
theorem d55_55 : own_D cd55 55 .ireturn 1 := by decide +kernel
def Q_own_seq11 (Z : State) (a1 a2 t1 t2 : Addr) (k1 k2 : ClassId) (x0 y0 cs : Int32) (h0 : Heap) (n0 : Nat) (v : Option Value) (h : Heap) (L : List Loc) : Prop := v = some (.int (own_b (x0 = y0))) ∧ Fr n0 L ∧ h = h0
theorem own_seq11 (l : Launch) (Z : State) (a0 : Array Value) (hw : own_HW a0 Z) (ws : List Jvm.Cond) (a1 a2 t1 t2 : Addr) (k1 k2 : ClassId) (x0 y0 cs : Int32) (h0 : Heap) (n0 : Nat) (Z0 : n0 ≤ h0.size) (P_E_a1 : Exa Z h0 a1 nn3_) (P_F_a1_value : Fld Z h0 a1 nn3_ "value" "[B" (.ref t1)) (P_F_a1_coder : Fld Z h0 a1 nn3_ "coder" "B" (.int 0)) (P_V_t1 : Arv Z h0 t1 k1 .byte 1 [.int x0] (.int 0)) (P_E_a2 : Exa Z h0 a2 nn3_) (P_F_a2_value : Fld Z h0 a2 nn3_ "value" "[B" (.ref t2)) (P_F_a2_coder : Fld Z h0 a2 nn3_ "coder" "B" (.int 0)) (P_V_t2 : Arv Z h0 t2 k2 .byte 1 [.int y0] (.int 0)) (ne_a1_a2 : a1 ≠ a2) (P_S_COMPACT_STRINGS : Sta Z h0 nn3_ nn16_ "Z" (.int cs)) (hcs : ¬ (cs = (0 : Int32))) :
    own_MF l own_y18 (Jvm.Cond.code own_y18 jdk_42_method_66_code 3 (some .boolean)) ws R_own_seq11 #[.ref a1, .ref a2] Z h0 (Q_own_seq11 Z a1 a2 t1 t2 k1 k2 x0 y0 cs h0 n0) := by
  refine own_begin (plainFor_of_name own_pn10) (fun m => ef10 m a1 a2) ?_
  intro p e s m below meth c s₁ hx hby hml hown hnm hlk hret hZ X0 e0
  have N0 := Fr.nil n0
  have K0 := Keep.refl h0 []
  refine own_go (B := s₁.setTop (mkF m 8 #[Sr a1, Sr a2, Su] [.ref a2])) (fun _ k => XS.aloadN X0.here hx rfl (hb hby d55_0) rfl rfl (XS.aloadN X0.here hx rfl (hb hby d55_1) rfl rfl (Jvm.RoadKit.acmp (g := (mkF m 2 #[Sr a1, Sr a2, Su] [.ref a2, .ref a1])) X0 hx rfl rfl rfl (pc0 := 2) (pc' := 7) (same := false) rfl (hb hby d55_2) rfl (decide_eq_false fun q => ne_a1_a2 (Value.ref.inj q)) (by decide) (by decide) (XS.aloadN X0.here hx rfl (hb hby d55_7) rfl rfl k)))) ?_
  refine own_iY X0 hx hZ hown (hw.w 353 rfl) e0 (Ins.self P_E_a2) rfl rfl (hb hby d55_8) fun T1 X1 e1 => ?_
  refine own_go (B := T1.setTop (mkF m 11 #[Sr a1, Sr a2, Su] [.int 1])) (fun _ k => k) ?_
  have hc2 : ¬ ((1 : Int32) = (0 : Int32)) := by decide
  refine own_go (B := T1.setTop (mkF m 15 #[Sr a1, Sr a2, Su] [.ref a2])) (fun _ k => XS.ifNo X1.here hx rfl (hb hby d55_11) rfl ((if0 _ _).trans (feq hc2).1) (XS.aloadN X1.here hx rfl (hb hby d55_14) rfl rfl k)) ?_
  refine own_cY X1 hx hZ hown (hw.w 353 rfl) e1 (Ins.self P_E_a2) rfl rfl (hb hby d55_15) fun T3 X3 e3 => ?_
  refine own_go (B := T3.setTop (mkF m 19 #[Sr a1, Sr a2, Sr a2] [])) (fun _ k => XS.astoreN X3.here hx rfl (hb hby d55_18) rfl rfl (l' := #[Sr a1, Sr a2, Sr a2]) rfl k) ?_
  refine own_gS X3 hx hZ hown (hw.w 14 rfl) Via.refl e3 P_S_COMPACT_STRINGS rfl (hb hby d55_19) fun T4 X4 e4 => ?_
  refine own_go (B := T4.setTop (mkF m 26 #[Sr a1, Sr a2, Sr a2] [.ref a1])) (fun _ k => XS.ifNo X4.here hx rfl (hb hby d55_22) rfl ((if0 _ _).trans (feq hcs).1) (XS.aloadN X4.here hx rfl (hb hby d55_25) rfl rfl k)) ?_
  refine own_gF X4 hx hZ hown (hw.w 26 rfl) Via.refl e4 P_F_a1_coder rfl rfl (hb hby d55_26) fun T5 X5 e5 => ?_
  refine own_go (B := T5.setTop (mkF m 30 #[Sr a1, Sr a2, Sr a2] [.ref a2, .int 0])) (fun _ k => XS.aloadN X5.here hx rfl (hb hby d55_29) rfl rfl k) ?_
  refine own_gF X5 hx hZ hown (hw.w 26 rfl) Via.refl e5 P_F_a2_coder rfl rfl (hb hby d55_30) fun T6 X6 e6 => ?_
  refine own_go (B := T6.setTop (mkF m 33 #[Sr a1, Sr a2, Sr a2] [.int 0, .int 0])) (fun _ k => k) ?_
  have hc7 : (0 : Int32) = (0 : Int32) := by decide
  refine own_go (B := T6.setTop (mkF m 37 #[Sr a1, Sr a2, Sr a2] [.ref a1])) (fun _ k => XS.icmpNo X6.here hx rfl (hb hby d55_33) rfl (teq hc7).2 (XS.aloadN X6.here hx rfl (hb hby d55_36) rfl rfl k)) ?_
  refine own_gF X6 hx hZ hown (hw.w 28 rfl) Via.refl e6 P_F_a1_value rfl rfl (hb hby d55_37) fun T8 X8 e8 => ?_
  refine own_go (B := T8.setTop (mkF m 41 #[Sr a1, Sr a2, Sr a2] [.ref a2, .ref t1])) (fun _ k => XS.aloadN X8.here hx rfl (hb hby d55_40) rfl rfl k) ?_
  refine own_gF X8 hx hZ hown (hw.w 28 rfl) Via.refl e8 P_F_a2_value rfl rfl (hb hby d55_41) fun T9 X9 e9 => ?_
  refine own_go (B := T9.setTop (mkF m 44 #[Sr a1, Sr a2, Sr a2] [.ref t2, .ref t1])) (fun _ k => k) ?_
  refine own_cS (own_leq11 l Z a0 hw [] t1 t2 k1 k2 x0 y0 h0 n0 (Nat.le_trans Z0 K0.1) P_V_t1 P_V_t2) X9 hx hZ hown (hw.w 354 rfl) (hw.w 355 rfl) (hw.w 356 rfl) (hw.w 357 rfl) e9 rfl rfl (by rw [hml]; rfl) (rest := []) (lenOf own_pd8 rfl) rfl (hb hby d55_44) (W := 0) (show 2 * 0 + _ = _ from rfl) (by decide) (by decide) ?_
  rintro _ T10 L10 X10 ⟨rfl, N10q, e10⟩
  have N10 := Fr.app N0 N10q
  refine own_go (B := T10.setTop (mkF m 47 #[Sr a1, Sr a2, Sr a2] [(.int (own_b (x0 = y0)))])) (fun _ k => k) ?_
  by_cases hc11 : x0 = y0
  · skip
    rw [own_b1 hc11]
    show own_Fin _ _ _ _ _ _ _ (T10.setTop (mkF m 47 #[Sr a1, Sr a2, Sr a2] [.int 1]))
    have hc12 : ¬ ((1 : Int32) = (0 : Int32)) := by decide
    refine own_go (B := T10.setTop (mkF m 55 #[Sr a1, Sr a2, Sr a2] [.int 1])) (fun _ k => XS.ifNo X10.here hx rfl (hb hby d55_47) rfl ((if0 _ _).trans (feq hc12).1) (XS.iconst X10.here hx rfl (hb hby d55_50) (XS.goto X10.here hx rfl (pc0 := 51) (pc' := 55) rfl (hb hby d55_51) (by decide) (by decide) k))) ?_
    exact own_retN X10 hx hlk (t := .boolean) (w := (1 : Int32)) hret (by simp) (hb hby d55_55) e10 rfl ⟨(by rw [own_b1 hc11]), N10, rfl⟩ (by decide) (by decide)
  · skip
    rw [own_b0 hc11]
    show own_Fin _ _ _ _ _ _ _ (T10.setTop (mkF m 47 #[Sr a1, Sr a2, Sr a2] [.int 0]))
    have hc13 : (0 : Int32) = (0 : Int32) := by decide
    refine own_go (B := T10.setTop (mkF m 55 #[Sr a1, Sr a2, Sr a2] [.int 0])) (fun _ k => XS.ifYes X10.here hx rfl (pc0 := 47) (pc' := 54) rfl (hb hby d55_47) rfl ((if0 _ _).trans (teq hc13).1) (by decide) (by decide) (XS.iconst X10.here hx rfl (hb hby d55_54) k)) ?_
    exact own_retN X10 hx hlk (t := .boolean) (w := (0 : Int32)) hret (by simp) (hb hby d55_55) e10 rfl ⟨(by rw [own_b0 hc11]), N10, rfl⟩ (by decide) (by decide)
abbrev R_own_leq12 : Room := ⟨0, 0, 0, 0⟩
theorem d56_34 : own_D cd56 34 (.iconst 0) 1 := by decide +kernel
theorem d56_35 : own_D cd56 35 .ireturn 1 := by decide +kernel
def Q_own_leq12 (Z : State) (a1 a2 : Addr) (k1 k2 : ClassId) (x0 y0 y1 : Int32) (h0 : Heap) (n0 : Nat) (v : Option Value) (h : Heap) (L : List Loc) : Prop := v = some (.int 0) ∧ Fr n0 L ∧ h = h0
theorem own_leq12 (l : Launch) (Z : State) (a0 : Array Value) (hw : own_HW a0 Z) (ws : List Jvm.Cond) (a1 a2 : Addr) (k1 k2 : ClassId) (x0 y0 y1 : Int32) (h0 : Heap) (n0 : Nat) (Z0 : n0 ≤ h0.size) (P_V_a1 : Arv Z h0 a1 k1 .byte 1 [.int x0] (.int 0)) (P_V_a2 : Arv Z h0 a2 k2 .byte 2 [.int y0, .int y1] (.int 0)) :
    own_MF l own_y17 (Jvm.Cond.code own_y17 jdk_43_method_13_code 3 (some .boolean)) ws R_own_leq12 #[.ref a1, .ref a2] Z h0 (Q_own_leq12 Z a1 a2 k1 k2 x0 y0 y1 h0 n0) := by
  refine own_begin (plainFor_of_name own_pn11) (fun m => ef10 m a1 a2) ?_
  intro p e s m below meth c s₁ hx hby hml hown hnm hlk hret hZ X0 e0
  have N0 := Fr.nil n0
  have K0 := Keep.refl h0 []
  refine own_go (B := s₁.setTop (mkF m 1 #[Sr a1, Sr a2, Su] [.ref a1])) (fun _ k => XS.aloadN X0.here hx rfl (hb hby d56_0) rfl rfl k) ?_
  obtain ⟨cl1, Ar1, q1, S1, N1n, H1, G1⟩ := id P_V_a1
  refine own_go (fun _ k => X0.arraylength hx (own_hc e0 Ar1.1) (State.isArrayOf_alike hZ.alike Ar1.2.1) (g := (mkF m 1 #[Sr a1, Sr a2, Su] [.ref a1])) rfl rfl (hb hby d56_1) _ k) ?_
  rw [len_of S1 N1n]
  show own_Fin _ _ _ _ _ _ _ (s₁.setTop (mkF m 2 #[Sr a1, Sr a2, Su] [.int 1]))
  refine own_go (B := s₁.setTop (mkF m 3 #[Sr a1, Sr a2, Su] [.ref a2, .int 1])) (fun _ k => XS.aloadN X0.here hx rfl (hb hby d56_2) rfl rfl k) ?_
  obtain ⟨cl2, Ar2, q2, S2, N2n, H2, G2⟩ := id P_V_a2
  refine own_go (fun _ k => X0.arraylength hx (own_hc e0 Ar2.1) (State.isArrayOf_alike hZ.alike Ar2.2.1) (g := (mkF m 3 #[Sr a1, Sr a2, Su] [.ref a2, .int 1])) rfl rfl (hb hby d56_3) _ k) ?_
  rw [len_of S2 N2n]
  show own_Fin _ _ _ _ _ _ _ (s₁.setTop (mkF m 4 #[Sr a1, Sr a2, Su] [.int 2, .int 1]))
  have hc3 : ¬ ((1 : Int32) = (2 : Int32)) := by decide
  refine own_go (B := s₁.setTop (mkF m 35 #[Sr a1, Sr a2, Su] [.int 0])) (fun _ k => XS.icmpYes X0.here hx rfl (pc0 := 4) (pc' := 34) rfl (hb hby d56_4) rfl (feq hc3).2 (by decide) (by decide) (XS.iconst X0.here hx rfl (hb hby d56_34) k)) ?_
  exact own_retN X0 hx hlk (t := .boolean) (w := (0 : Int32)) hret (by simp) (hb hby d56_35) e0 rfl ⟨rfl, N0, rfl⟩ (by decide) (by decide)
abbrev R_own_seq12 : Room := ⟨1, 0, 0, 14⟩
def Q_own_seq12 (Z : State) (a1 a2 t1 t2 : Addr) (k1 k2 : ClassId) (x0 y0 y1 cs : Int32) (h0 : Heap) (n0 : Nat) (v : Option Value) (h : Heap) (L : List Loc) : Prop := v = some (.int 0) ∧ Fr n0 L ∧ h = h0
theorem own_seq12 (l : Launch) (Z : State) (a0 : Array Value) (hw : own_HW a0 Z) (ws : List Jvm.Cond) (a1 a2 t1 t2 : Addr) (k1 k2 : ClassId) (x0 y0 y1 cs : Int32) (h0 : Heap) (n0 : Nat) (Z0 : n0 ≤ h0.size) (P_E_a1 : Exa Z h0 a1 nn3_) (P_F_a1_value : Fld Z h0 a1 nn3_ "value" "[B" (.ref t1)) (P_F_a1_coder : Fld Z h0 a1 nn3_ "coder" "B" (.int 0)) (P_V_t1 : Arv Z h0 t1 k1 .byte 1 [.int x0] (.int 0)) (P_E_a2 : Exa Z h0 a2 nn3_) (P_F_a2_value : Fld Z h0 a2 nn3_ "value" "[B" (.ref t2)) (P_F_a2_coder : Fld Z h0 a2 nn3_ "coder" "B" (.int 0)) (P_V_t2 : Arv Z h0 t2 k2 .byte 2 [.int y0, .int y1] (.int 0)) (ne_a1_a2 : a1 ≠ a2) (P_S_COMPACT_STRINGS : Sta Z h0 nn3_ nn16_ "Z" (.int cs)) (hcs : ¬ (cs = (0 : Int32))) :
    own_MF l own_y18 (Jvm.Cond.code own_y18 jdk_42_method_66_code 3 (some .boolean)) ws R_own_seq12 #[.ref a1, .ref a2] Z h0 (Q_own_seq12 Z a1 a2 t1 t2 k1 k2 x0 y0 y1 cs h0 n0) := by
  refine own_begin (plainFor_of_name own_pn10) (fun m => ef10 m a1 a2) ?_
  intro p e s m below meth c s₁ hx hby hml hown hnm hlk hret hZ X0 e0
  have N0 := Fr.nil n0
  have K0 := Keep.refl h0 []
  refine own_go (B := s₁.setTop (mkF m 8 #[Sr a1, Sr a2, Su] [.ref a2])) (fun _ k => XS.aloadN X0.here hx rfl (hb hby d55_0) rfl rfl (XS.aloadN X0.here hx rfl (hb hby d55_1) rfl rfl (Jvm.RoadKit.acmp (g := (mkF m 2 #[Sr a1, Sr a2, Su] [.ref a2, .ref a1])) X0 hx rfl rfl rfl (pc0 := 2) (pc' := 7) (same := false) rfl (hb hby d55_2) rfl (decide_eq_false fun q => ne_a1_a2 (Value.ref.inj q)) (by decide) (by decide) (XS.aloadN X0.here hx rfl (hb hby d55_7) rfl rfl k)))) ?_
  refine own_iY X0 hx hZ hown (hw.w 353 rfl) e0 (Ins.self P_E_a2) rfl rfl (hb hby d55_8) fun T1 X1 e1 => ?_
  refine own_go (B := T1.setTop (mkF m 11 #[Sr a1, Sr a2, Su] [.int 1])) (fun _ k => k) ?_
  have hc2 : ¬ ((1 : Int32) = (0 : Int32)) := by decide
  refine own_go (B := T1.setTop (mkF m 15 #[Sr a1, Sr a2, Su] [.ref a2])) (fun _ k => XS.ifNo X1.here hx rfl (hb hby d55_11) rfl ((if0 _ _).trans (feq hc2).1) (XS.aloadN X1.here hx rfl (hb hby d55_14) rfl rfl k)) ?_
  refine own_cY X1 hx hZ hown (hw.w 353 rfl) e1 (Ins.self P_E_a2) rfl rfl (hb hby d55_15) fun T3 X3 e3 => ?_
  refine own_go (B := T3.setTop (mkF m 19 #[Sr a1, Sr a2, Sr a2] [])) (fun _ k => XS.astoreN X3.here hx rfl (hb hby d55_18) rfl rfl (l' := #[Sr a1, Sr a2, Sr a2]) rfl k) ?_
  refine own_gS X3 hx hZ hown (hw.w 14 rfl) Via.refl e3 P_S_COMPACT_STRINGS rfl (hb hby d55_19) fun T4 X4 e4 => ?_
  refine own_go (B := T4.setTop (mkF m 26 #[Sr a1, Sr a2, Sr a2] [.ref a1])) (fun _ k => XS.ifNo X4.here hx rfl (hb hby d55_22) rfl ((if0 _ _).trans (feq hcs).1) (XS.aloadN X4.here hx rfl (hb hby d55_25) rfl rfl k)) ?_
  refine own_gF X4 hx hZ hown (hw.w 26 rfl) Via.refl e4 P_F_a1_coder rfl rfl (hb hby d55_26) fun T5 X5 e5 => ?_
  refine own_go (B := T5.setTop (mkF m 30 #[Sr a1, Sr a2, Sr a2] [.ref a2, .int 0])) (fun _ k => XS.aloadN X5.here hx rfl (hb hby d55_29) rfl rfl k) ?_
  refine own_gF X5 hx hZ hown (hw.w 26 rfl) Via.refl e5 P_F_a2_coder rfl rfl (hb hby d55_30) fun T6 X6 e6 => ?_
  refine own_go (B := T6.setTop (mkF m 33 #[Sr a1, Sr a2, Sr a2] [.int 0, .int 0])) (fun _ k => k) ?_
  have hc7 : (0 : Int32) = (0 : Int32) := by decide
  refine own_go (B := T6.setTop (mkF m 37 #[Sr a1, Sr a2, Sr a2] [.ref a1])) (fun _ k => XS.icmpNo X6.here hx rfl (hb hby d55_33) rfl (teq hc7).2 (XS.aloadN X6.here hx rfl (hb hby d55_36) rfl rfl k)) ?_
  refine own_gF X6 hx hZ hown (hw.w 28 rfl) Via.refl e6 P_F_a1_value rfl rfl (hb hby d55_37) fun T8 X8 e8 => ?_
  refine own_go (B := T8.setTop (mkF m 41 #[Sr a1, Sr a2, Sr a2] [.ref a2, .ref t1])) (fun _ k => XS.aloadN X8.here hx rfl (hb hby d55_40) rfl rfl k) ?_
  refine own_gF X8 hx hZ hown (hw.w 28 rfl) Via.refl e8 P_F_a2_value rfl rfl (hb hby d55_41) fun T9 X9 e9 => ?_
  refine own_go (B := T9.setTop (mkF m 44 #[Sr a1, Sr a2, Sr a2] [.ref t2, .ref t1])) (fun _ k => k) ?_
  refine own_cS (own_leq12 l Z a0 hw [] t1 t2 k1 k2 x0 y0 y1 h0 n0 (Nat.le_trans Z0 K0.1) P_V_t1 P_V_t2) X9 hx hZ hown (hw.w 354 rfl) (hw.w 355 rfl) (hw.w 356 rfl) (hw.w 357 rfl) e9 rfl rfl (by rw [hml]; rfl) (rest := []) (lenOf own_pd8 rfl) rfl (hb hby d55_44) (W := 0) (show 2 * 0 + _ = _ from rfl) (by decide) (by decide) ?_
  rintro _ T10 L10 X10 ⟨rfl, N10q, e10⟩
  have N10 := Fr.app N0 N10q
  refine own_go (B := T10.setTop (mkF m 47 #[Sr a1, Sr a2, Sr a2] [.int 0])) (fun _ k => k) ?_
  have hc11 : (0 : Int32) = (0 : Int32) := by decide
  refine own_go (B := T10.setTop (mkF m 55 #[Sr a1, Sr a2, Sr a2] [.int 0])) (fun _ k => XS.ifYes X10.here hx rfl (pc0 := 47) (pc' := 54) rfl (hb hby d55_47) rfl ((if0 _ _).trans (teq hc11).1) (by decide) (by decide) (XS.iconst X10.here hx rfl (hb hby d55_54) k)) ?_
  exact own_retN X10 hx hlk (t := .boolean) (w := (0 : Int32)) hret (by simp) (hb hby d55_55) e10 rfl ⟨rfl, N10, rfl⟩ (by decide) (by decide)
abbrev R_own_leq21 : Room := ⟨0, 0, 0, 0⟩
def Q_own_leq21 (Z : State) (a1 a2 : Addr) (k1 k2 : ClassId) (x0 x1 y0 : Int32) (h0 : Heap) (n0 : Nat) (v : Option Value) (h : Heap) (L : List Loc) : Prop := v = some (.int 0) ∧ Fr n0 L ∧ h = h0
theorem own_leq21 (l : Launch) (Z : State) (a0 : Array Value) (hw : own_HW a0 Z) (ws : List Jvm.Cond) (a1 a2 : Addr) (k1 k2 : ClassId) (x0 x1 y0 : Int32) (h0 : Heap) (n0 : Nat) (Z0 : n0 ≤ h0.size) (P_V_a1 : Arv Z h0 a1 k1 .byte 2 [.int x0, .int x1] (.int 0)) (P_V_a2 : Arv Z h0 a2 k2 .byte 1 [.int y0] (.int 0)) :
    own_MF l own_y17 (Jvm.Cond.code own_y17 jdk_43_method_13_code 3 (some .boolean)) ws R_own_leq21 #[.ref a1, .ref a2] Z h0 (Q_own_leq21 Z a1 a2 k1 k2 x0 x1 y0 h0 n0) := by
  refine own_begin (plainFor_of_name own_pn11) (fun m => ef10 m a1 a2) ?_
  intro p e s m below meth c s₁ hx hby hml hown hnm hlk hret hZ X0 e0
  have N0 := Fr.nil n0
  have K0 := Keep.refl h0 []
  refine own_go (B := s₁.setTop (mkF m 1 #[Sr a1, Sr a2, Su] [.ref a1])) (fun _ k => XS.aloadN X0.here hx rfl (hb hby d56_0) rfl rfl k) ?_
  obtain ⟨cl1, Ar1, q1, S1, N1n, H1, G1⟩ := id P_V_a1
  refine own_go (fun _ k => X0.arraylength hx (own_hc e0 Ar1.1) (State.isArrayOf_alike hZ.alike Ar1.2.1) (g := (mkF m 1 #[Sr a1, Sr a2, Su] [.ref a1])) rfl rfl (hb hby d56_1) _ k) ?_
  rw [len_of S1 N1n]
  show own_Fin _ _ _ _ _ _ _ (s₁.setTop (mkF m 2 #[Sr a1, Sr a2, Su] [.int 2]))
  refine own_go (B := s₁.setTop (mkF m 3 #[Sr a1, Sr a2, Su] [.ref a2, .int 2])) (fun _ k => XS.aloadN X0.here hx rfl (hb hby d56_2) rfl rfl k) ?_
  obtain ⟨cl2, Ar2, q2, S2, N2n, H2, G2⟩ := id P_V_a2
  refine own_go (fun _ k => X0.arraylength hx (own_hc e0 Ar2.1) (State.isArrayOf_alike hZ.alike Ar2.2.1) (g := (mkF m 3 #[Sr a1, Sr a2, Su] [.ref a2, .int 2])) rfl rfl (hb hby d56_3) _ k) ?_
  rw [len_of S2 N2n]
  show own_Fin _ _ _ _ _ _ _ (s₁.setTop (mkF m 4 #[Sr a1, Sr a2, Su] [.int 1, .int 2]))
  have hc3 : ¬ ((2 : Int32) = (1 : Int32)) := by decide
  refine own_go (B := s₁.setTop (mkF m 35 #[Sr a1, Sr a2, Su] [.int 0])) (fun _ k => XS.icmpYes X0.here hx rfl (pc0 := 4) (pc' := 34) rfl (hb hby d56_4) rfl (feq hc3).2 (by decide) (by decide) (XS.iconst X0.here hx rfl (hb hby d56_34) k)) ?_
  exact own_retN X0 hx hlk (t := .boolean) (w := (0 : Int32)) hret (by simp) (hb hby d56_35) e0 rfl ⟨rfl, N0, rfl⟩ (by decide) (by decide)
abbrev R_own_seq21 : Room := ⟨1, 0, 0, 14⟩
def Q_own_seq21 (Z : State) (a1 a2 t1 t2 : Addr) (k1 k2 : ClassId) (x0 x1 y0 cs : Int32) (h0 : Heap) (n0 : Nat) (v : Option Value) (h : Heap) (L : List Loc) : Prop := v = some (.int 0) ∧ Fr n0 L ∧ h = h0
theorem own_seq21 (l : Launch) (Z : State) (a0 : Array Value) (hw : own_HW a0 Z) (ws : List Jvm.Cond) (a1 a2 t1 t2 : Addr) (k1 k2 : ClassId) (x0 x1 y0 cs : Int32) (h0 : Heap) (n0 : Nat) (Z0 : n0 ≤ h0.size) (P_E_a1 : Exa Z h0 a1 nn3_) (P_F_a1_value : Fld Z h0 a1 nn3_ "value" "[B" (.ref t1)) (P_F_a1_coder : Fld Z h0 a1 nn3_ "coder" "B" (.int 0)) (P_V_t1 : Arv Z h0 t1 k1 .byte 2 [.int x0, .int x1] (.int 0)) (P_E_a2 : Exa Z h0 a2 nn3_) (P_F_a2_value : Fld Z h0 a2 nn3_ "value" "[B" (.ref t2)) (P_F_a2_coder : Fld Z h0 a2 nn3_ "coder" "B" (.int 0)) (P_V_t2 : Arv Z h0 t2 k2 .byte 1 [.int y0] (.int 0)) (ne_a1_a2 : a1 ≠ a2) (P_S_COMPACT_STRINGS : Sta Z h0 nn3_ nn16_ "Z" (.int cs)) (hcs : ¬ (cs = (0 : Int32))) :
    own_MF l own_y18 (Jvm.Cond.code own_y18 jdk_42_method_66_code 3 (some .boolean)) ws R_own_seq21 #[.ref a1, .ref a2] Z h0 (Q_own_seq21 Z a1 a2 t1 t2 k1 k2 x0 x1 y0 cs h0 n0) := by
  refine own_begin (plainFor_of_name own_pn10) (fun m => ef10 m a1 a2) ?_
  intro p e s m below meth c s₁ hx hby hml hown hnm hlk hret hZ X0 e0
  have N0 := Fr.nil n0
  have K0 := Keep.refl h0 []
  refine own_go (B := s₁.setTop (mkF m 8 #[Sr a1, Sr a2, Su] [.ref a2])) (fun _ k => XS.aloadN X0.here hx rfl (hb hby d55_0) rfl rfl (XS.aloadN X0.here hx rfl (hb hby d55_1) rfl rfl (Jvm.RoadKit.acmp (g := (mkF m 2 #[Sr a1, Sr a2, Su] [.ref a2, .ref a1])) X0 hx rfl rfl rfl (pc0 := 2) (pc' := 7) (same := false) rfl (hb hby d55_2) rfl (decide_eq_false fun q => ne_a1_a2 (Value.ref.inj q)) (by decide) (by decide) (XS.aloadN X0.here hx rfl (hb hby d55_7) rfl rfl k)))) ?_
  refine own_iY X0 hx hZ hown (hw.w 353 rfl) e0 (Ins.self P_E_a2) rfl rfl (hb hby d55_8) fun T1 X1 e1 => ?_
  refine own_go (B := T1.setTop (mkF m 11 #[Sr a1, Sr a2, Su] [.int 1])) (fun _ k => k) ?_
  have hc2 : ¬ ((1 : Int32) = (0 : Int32)) := by decide
  refine own_go (B := T1.setTop (mkF m 15 #[Sr a1, Sr a2, Su] [.ref a2])) (fun _ k => XS.ifNo X1.here hx rfl (hb hby d55_11) rfl ((if0 _ _).trans (feq hc2).1) (XS.aloadN X1.here hx rfl (hb hby d55_14) rfl rfl k)) ?_
  refine own_cY X1 hx hZ hown (hw.w 353 rfl) e1 (Ins.self P_E_a2) rfl rfl (hb hby d55_15) fun T3 X3 e3 => ?_
  refine own_go (B := T3.setTop (mkF m 19 #[Sr a1, Sr a2, Sr a2] [])) (fun _ k => XS.astoreN X3.here hx rfl (hb hby d55_18) rfl rfl (l' := #[Sr a1, Sr a2, Sr a2]) rfl k) ?_
  refine own_gS X3 hx hZ hown (hw.w 14 rfl) Via.refl e3 P_S_COMPACT_STRINGS rfl (hb hby d55_19) fun T4 X4 e4 => ?_
  refine own_go (B := T4.setTop (mkF m 26 #[Sr a1, Sr a2, Sr a2] [.ref a1])) (fun _ k => XS.ifNo X4.here hx rfl (hb hby d55_22) rfl ((if0 _ _).trans (feq hcs).1) (XS.aloadN X4.here hx rfl (hb hby d55_25) rfl rfl k)) ?_
  refine own_gF X4 hx hZ hown (hw.w 26 rfl) Via.refl e4 P_F_a1_coder rfl rfl (hb hby d55_26) fun T5 X5 e5 => ?_
  refine own_go (B := T5.setTop (mkF m 30 #[Sr a1, Sr a2, Sr a2] [.ref a2, .int 0])) (fun _ k => XS.aloadN X5.here hx rfl (hb hby d55_29) rfl rfl k) ?_
  refine own_gF X5 hx hZ hown (hw.w 26 rfl) Via.refl e5 P_F_a2_coder rfl rfl (hb hby d55_30) fun T6 X6 e6 => ?_
  refine own_go (B := T6.setTop (mkF m 33 #[Sr a1, Sr a2, Sr a2] [.int 0, .int 0])) (fun _ k => k) ?_
  have hc7 : (0 : Int32) = (0 : Int32) := by decide
  refine own_go (B := T6.setTop (mkF m 37 #[Sr a1, Sr a2, Sr a2] [.ref a1])) (fun _ k => XS.icmpNo X6.here hx rfl (hb hby d55_33) rfl (teq hc7).2 (XS.aloadN X6.here hx rfl (hb hby d55_36) rfl rfl k)) ?_
  refine own_gF X6 hx hZ hown (hw.w 28 rfl) Via.refl e6 P_F_a1_value rfl rfl (hb hby d55_37) fun T8 X8 e8 => ?_
  refine own_go (B := T8.setTop (mkF m 41 #[Sr a1, Sr a2, Sr a2] [.ref a2, .ref t1])) (fun _ k => XS.aloadN X8.here hx rfl (hb hby d55_40) rfl rfl k) ?_
  refine own_gF X8 hx hZ hown (hw.w 28 rfl) Via.refl e8 P_F_a2_value rfl rfl (hb hby d55_41) fun T9 X9 e9 => ?_
  refine own_go (B := T9.setTop (mkF m 44 #[Sr a1, Sr a2, Sr a2] [.ref t2, .ref t1])) (fun _ k => k) ?_
  refine own_cS (own_leq21 l Z a0 hw [] t1 t2 k1 k2 x0 x1 y0 h0 n0 (Nat.le_trans Z0 K0.1) P_V_t1 P_V_t2) X9 hx hZ hown (hw.w 354 rfl) (hw.w 355 rfl) (hw.w 356 rfl) (hw.w 357 rfl) e9 rfl rfl (by rw [hml]; rfl) (rest := []) (lenOf own_pd8 rfl) rfl (hb hby d55_44) (W := 0) (show 2 * 0 + _ = _ from rfl) (by decide) (by decide) ?_
  rintro _ T10 L10 X10 ⟨rfl, N10q, e10⟩
  have N10 := Fr.app N0 N10q
  refine own_go (B := T10.setTop (mkF m 47 #[Sr a1, Sr a2, Sr a2] [.int 0])) (fun _ k => k) ?_
  have hc11 : (0 : Int32) = (0 : Int32) := by decide
  refine own_go (B := T10.setTop (mkF m 55 #[Sr a1, Sr a2, Sr a2] [.int 0])) (fun _ k => XS.ifYes X10.here hx rfl (pc0 := 47) (pc' := 54) rfl (hb hby d55_47) rfl ((if0 _ _).trans (teq hc11).1) (by decide) (by decide) (XS.iconst X10.here hx rfl (hb hby d55_54) k)) ?_
  exact own_retN X10 hx hlk (t := .boolean) (w := (0 : Int32)) hret (by simp) (hb hby d55_55) e10 rfl ⟨rfl, N10, rfl⟩ (by decide) (by decide)
abbrev R_own_leq22 : Room := ⟨0, 0, 0, 0⟩
theorem own_pl_leq22_1 (x0 x1 y0 y1 : Int32) (hc10 : x0 = y0) (hc17 : x1 = y1) : x0 = y0 ∧ x1 = y1 := by
  have := rng32 x0
  have := rng32 y0
  have := rng32 x1
  have := rng32 y1
  try simp only [Int32.lt_iff_toInt_lt, Int32.le_iff_toInt_le, ← Int32.toInt_inj, true_and, and_true, true_or, or_true, false_or, or_false, not_true_eq_false, not_false_eq_true, false_and, and_false, ne_eq] at *
  all_goals first | omega | (simp; done)
theorem own_pl_leq22_2 (x0 x1 y0 y1 : Int32) (hc10 : x0 = y0) (hc17 : ¬ (x1 = y1)) : ¬ (x0 = y0 ∧ x1 = y1) := by
  have := rng32 x0
  have := rng32 y0
  have := rng32 x1
  have := rng32 y1
  try simp only [Int32.lt_iff_toInt_lt, Int32.le_iff_toInt_le, ← Int32.toInt_inj, true_and, and_true, true_or, or_true, false_or, or_false, not_true_eq_false, not_false_eq_true, false_and, and_false, ne_eq] at *
  all_goals first | omega | (simp; done)
theorem own_pl_leq22_3 (x0 x1 y0 y1 : Int32) (hc10 : ¬ (x0 = y0)) : ¬ (x0 = y0 ∧ x1 = y1) := by
  have := rng32 x0
  have := rng32 y0
  try simp only [Int32.lt_iff_toInt_lt, Int32.le_iff_toInt_le, ← Int32.toInt_inj, true_and, and_true, true_or, or_true, false_or, or_false, not_true_eq_false, not_false_eq_true, false_and, and_false, ne_eq] at *
  all_goals first | omega | (simp; done)
def Q_own_leq22 (Z : State) (a1 a2 : Addr) (k1 k2 : ClassId) (x0 x1 y0 y1 : Int32) (h0 : Heap) (n0 : Nat) (v : Option Value) (h : Heap) (L : List Loc) : Prop := v = some (.int (own_b (x0 = y0 ∧ x1 = y1))) ∧ Fr n0 L ∧ h = h0
theorem own_leq22 (l : Launch) (Z : State) (a0 : Array Value) (hw : own_HW a0 Z) (ws : List Jvm.Cond) (a1 a2 : Addr) (k1 k2 : ClassId) (x0 x1 y0 y1 : Int32) (h0 : Heap) (n0 : Nat) (Z0 : n0 ≤ h0.size) (P_V_a1 : Arv Z h0 a1 k1 .byte 2 [.int x0, .int x1] (.int 0)) (P_V_a2 : Arv Z h0 a2 k2 .byte 2 [.int y0, .int y1] (.int 0)) :
    own_MF l own_y17 (Jvm.Cond.code own_y17 jdk_43_method_13_code 3 (some .boolean)) ws R_own_leq22 #[.ref a1, .ref a2] Z h0 (Q_own_leq22 Z a1 a2 k1 k2 x0 x1 y0 y1 h0 n0) := by
  refine own_begin (plainFor_of_name own_pn11) (fun m => ef10 m a1 a2) ?_
  intro p e s m below meth c s₁ hx hby hml hown hnm hlk hret hZ X0 e0
  have N0 := Fr.nil n0
  have K0 := Keep.refl h0 []
  refine own_go (B := s₁.setTop (mkF m 1 #[Sr a1, Sr a2, Su] [.ref a1])) (fun _ k => XS.aloadN X0.here hx rfl (hb hby d56_0) rfl rfl k) ?_
  obtain ⟨cl1, Ar1, q1, S1, N1n, H1, G1⟩ := id P_V_a1
  refine own_go (fun _ k => X0.arraylength hx (own_hc e0 Ar1.1) (State.isArrayOf_alike hZ.alike Ar1.2.1) (g := (mkF m 1 #[Sr a1, Sr a2, Su] [.ref a1])) rfl rfl (hb hby d56_1) _ k) ?_
  rw [len_of S1 N1n]
  show own_Fin _ _ _ _ _ _ _ (s₁.setTop (mkF m 2 #[Sr a1, Sr a2, Su] [.int 2]))
  refine own_go (B := s₁.setTop (mkF m 3 #[Sr a1, Sr a2, Su] [.ref a2, .int 2])) (fun _ k => XS.aloadN X0.here hx rfl (hb hby d56_2) rfl rfl k) ?_
  obtain ⟨cl2, Ar2, q2, S2, N2n, H2, G2⟩ := id P_V_a2
  refine own_go (fun _ k => X0.arraylength hx (own_hc e0 Ar2.1) (State.isArrayOf_alike hZ.alike Ar2.2.1) (g := (mkF m 3 #[Sr a1, Sr a2, Su] [.ref a2, .int 2])) rfl rfl (hb hby d56_3) _ k) ?_
  rw [len_of S2 N2n]
  show own_Fin _ _ _ _ _ _ _ (s₁.setTop (mkF m 4 #[Sr a1, Sr a2, Su] [.int 2, .int 2]))
  have hc3 : (2 : Int32) = (2 : Int32) := by decide
  refine own_go (B := s₁.setTop (mkF m 11 #[Sr a1, Sr a2, Si 0] [.ref a1, .int 0])) (fun _ k => XS.icmpNo X0.here hx rfl (hb hby d56_4) rfl (teq hc3).2 (XS.iconst X0.here hx rfl (hb hby d56_7) (XS.istoreN X0.here hx rfl (hb hby d56_8) rfl (l' := #[Sr a1, Sr a2, Si 0]) rfl (XS.iloadN X0.here hx rfl (hb hby d56_9) rfl (XS.aloadN X0.here hx rfl (hb hby d56_10) rfl rfl k))))) ?_
  obtain ⟨cl4, Ar4, q4, S4, N4n, H4, G4⟩ := id P_V_a1
  refine own_go (fun _ k => X0.arraylength hx (own_hc e0 Ar4.1) (State.isArrayOf_alike hZ.alike Ar4.2.1) (g := (mkF m 11 #[Sr a1, Sr a2, Si 0] [.ref a1, .int 0])) rfl rfl (hb hby d56_11) _ k) ?_
  rw [len_of S4 N4n]
  show own_Fin _ _ _ _ _ _ _ (s₁.setTop (mkF m 12 #[Sr a1, Sr a2, Si 0] [.int 2, .int 0]))
  have hc5 : (0 : Int32) < (2 : Int32) := by decide
  refine own_go (B := s₁.setTop (mkF m 17 #[Sr a1, Sr a2, Si 0] [.int 0, .ref a1])) (fun _ k => XS.icmpNo X0.here hx rfl (hb hby d56_12) rfl (tlt hc5).2.1 (XS.aloadN X0.here hx rfl (hb hby d56_15) rfl rfl (XS.iloadN X0.here hx rfl (hb hby d56_16) rfl  k))) ?_
  obtain ⟨cl6, Ar6, q6, S6, N6n, H6, G6⟩ := id P_V_a1
  have hin7 : ¬ ((0 : Int32) < 0 ∨ cl6.slots.size ≤ ((0 : Int32)).toNatClampNeg) := inb_of S6 ⟨by decide, by decide⟩
  have hat7 : cl6.slots[((0 : Int32)).toNatClampNeg]? = some (.int x0) := H6.at hin7 rfl
  refine own_go (B := s₁.setTop (mkF m 20 #[Sr a1, Sr a2, Si 0] [.int 0, .ref a2, .int x0])) (fun _ k => X0.baloadBytes hx (j := (0 : Int32)) (v := (.int x0)) (own_hc e0 Ar6.1) (State.isArrayOf_alike hZ.alike Ar6.2.1) Ar6.2.2 hin7 hat7 (g := (mkF m 17 #[Sr a1, Sr a2, Si 0] [.int 0, .ref a1])) rfl rfl (hb hby d56_17) _ (XS.aloadN X0.here hx rfl (hb hby d56_18) rfl rfl (XS.iloadN X0.here hx rfl (hb hby d56_19) rfl  k))) ?_
  obtain ⟨cl8, Ar8, q8, S8, N8n, H8, G8⟩ := id P_V_a2
  have hin9 : ¬ ((0 : Int32) < 0 ∨ cl8.slots.size ≤ ((0 : Int32)).toNatClampNeg) := inb_of S8 ⟨by decide, by decide⟩
  have hat9 : cl8.slots[((0 : Int32)).toNatClampNeg]? = some (.int y0) := H8.at hin9 rfl
  refine own_go (B := s₁.setTop (mkF m 21 #[Sr a1, Sr a2, Si 0] [.int y0, .int x0])) (fun _ k => X0.baloadBytes hx (j := (0 : Int32)) (v := (.int y0)) (own_hc e0 Ar8.1) (State.isArrayOf_alike hZ.alike Ar8.2.1) Ar8.2.2 hin9 hat9 (g := (mkF m 20 #[Sr a1, Sr a2, Si 0] [.int 0, .ref a2, .int x0])) rfl rfl (hb hby d56_20) _ k) ?_
  by_cases hc10 : x0 = y0
  · skip
    refine own_go (B := s₁.setTop (mkF m 29 #[Sr a1, Sr a2, Si ((0 : Int32) + (1 : Int32))] [])) (fun _ k => XS.icmpYes X0.here hx rfl (pc0 := 21) (pc' := 26) rfl (hb hby d56_21) rfl (teq hc10).1 (by decide) (by decide) (XS.iinc X0.here hx rfl (hb hby d56_26) rfl (l' := #[Sr a1, Sr a2, Si ((0 : Int32) + (1 : Int32))]) rfl k)) ?_
    rw [show ((0 : Int32) + (1 : Int32)) = (1 : Int32) from by decide]
    show own_Fin _ _ _ _ _ _ _ (s₁.setTop (mkF m 29 #[Sr a1, Sr a2, Si 1] []))
    refine own_go (B := s₁.setTop (mkF m 11 #[Sr a1, Sr a2, Si 1] [.ref a1, .int 1])) (fun _ k => XS.goto X0.here hx rfl (pc0 := 29) (pc' := 9) rfl (hb hby d56_29) (by decide) (by decide) (XS.iloadN X0.here hx rfl (hb hby d56_9) rfl (XS.aloadN X0.here hx rfl (hb hby d56_10) rfl rfl k))) ?_
    obtain ⟨cl11, Ar11, q11, S11, N11n, H11, G11⟩ := id P_V_a1
    refine own_go (fun _ k => X0.arraylength hx (own_hc e0 Ar11.1) (State.isArrayOf_alike hZ.alike Ar11.2.1) (g := (mkF m 11 #[Sr a1, Sr a2, Si 1] [.ref a1, .int 1])) rfl rfl (hb hby d56_11) _ k) ?_
    rw [len_of S11 N11n]
    show own_Fin _ _ _ _ _ _ _ (s₁.setTop (mkF m 12 #[Sr a1, Sr a2, Si 1] [.int 2, .int 1]))
    have hc12 : (1 : Int32) < (2 : Int32) := by decide
    refine own_go (B := s₁.setTop (mkF m 17 #[Sr a1, Sr a2, Si 1] [.int 1, .ref a1])) (fun _ k => XS.icmpNo X0.here hx rfl (hb hby d56_12) rfl (tlt hc12).2.1 (XS.aloadN X0.here hx rfl (hb hby d56_15) rfl rfl (XS.iloadN X0.here hx rfl (hb hby d56_16) rfl  k))) ?_
    obtain ⟨cl13, Ar13, q13, S13, N13n, H13, G13⟩ := id P_V_a1
    have hin14 : ¬ ((1 : Int32) < 0 ∨ cl13.slots.size ≤ ((1 : Int32)).toNatClampNeg) := inb_of S13 ⟨by decide, by decide⟩
    have hat14 : cl13.slots[((1 : Int32)).toNatClampNeg]? = some (.int x1) := H13.at hin14 rfl
    refine own_go (B := s₁.setTop (mkF m 20 #[Sr a1, Sr a2, Si 1] [.int 1, .ref a2, .int x1])) (fun _ k => X0.baloadBytes hx (j := (1 : Int32)) (v := (.int x1)) (own_hc e0 Ar13.1) (State.isArrayOf_alike hZ.alike Ar13.2.1) Ar13.2.2 hin14 hat14 (g := (mkF m 17 #[Sr a1, Sr a2, Si 1] [.int 1, .ref a1])) rfl rfl (hb hby d56_17) _ (XS.aloadN X0.here hx rfl (hb hby d56_18) rfl rfl (XS.iloadN X0.here hx rfl (hb hby d56_19) rfl  k))) ?_
    obtain ⟨cl15, Ar15, q15, S15, N15n, H15, G15⟩ := id P_V_a2
    have hin16 : ¬ ((1 : Int32) < 0 ∨ cl15.slots.size ≤ ((1 : Int32)).toNatClampNeg) := inb_of S15 ⟨by decide, by decide⟩
    have hat16 : cl15.slots[((1 : Int32)).toNatClampNeg]? = some (.int y1) := H15.at hin16 rfl
    refine own_go (B := s₁.setTop (mkF m 21 #[Sr a1, Sr a2, Si 1] [.int y1, .int x1])) (fun _ k => X0.baloadBytes hx (j := (1 : Int32)) (v := (.int y1)) (own_hc e0 Ar15.1) (State.isArrayOf_alike hZ.alike Ar15.2.1) Ar15.2.2 hin16 hat16 (g := (mkF m 20 #[Sr a1, Sr a2, Si 1] [.int 1, .ref a2, .int x1])) rfl rfl (hb hby d56_20) _ k) ?_
    by_cases hc17 : x1 = y1
    · skip
      refine own_go (B := s₁.setTop (mkF m 29 #[Sr a1, Sr a2, Si ((1 : Int32) + (1 : Int32))] [])) (fun _ k => XS.icmpYes X0.here hx rfl (pc0 := 21) (pc' := 26) rfl (hb hby d56_21) rfl (teq hc17).1 (by decide) (by decide) (XS.iinc X0.here hx rfl (hb hby d56_26) rfl (l' := #[Sr a1, Sr a2, Si ((1 : Int32) + (1 : Int32))]) rfl k)) ?_
      rw [show ((1 : Int32) + (1 : Int32)) = (2 : Int32) from by decide]
      show own_Fin _ _ _ _ _ _ _ (s₁.setTop (mkF m 29 #[Sr a1, Sr a2, Si 2] []))
      refine own_go (B := s₁.setTop (mkF m 11 #[Sr a1, Sr a2, Si 2] [.ref a1, .int 2])) (fun _ k => XS.goto X0.here hx rfl (pc0 := 29) (pc' := 9) rfl (hb hby d56_29) (by decide) (by decide) (XS.iloadN X0.here hx rfl (hb hby d56_9) rfl (XS.aloadN X0.here hx rfl (hb hby d56_10) rfl rfl k))) ?_
      obtain ⟨cl18, Ar18, q18, S18, N18n, H18, G18⟩ := id P_V_a1
      refine own_go (fun _ k => X0.arraylength hx (own_hc e0 Ar18.1) (State.isArrayOf_alike hZ.alike Ar18.2.1) (g := (mkF m 11 #[Sr a1, Sr a2, Si 2] [.ref a1, .int 2])) rfl rfl (hb hby d56_11) _ k) ?_
      rw [len_of S18 N18n]
      show own_Fin _ _ _ _ _ _ _ (s₁.setTop (mkF m 12 #[Sr a1, Sr a2, Si 2] [.int 2, .int 2]))
      have hc19 : ¬ ((2 : Int32) < (2 : Int32)) := by decide
      refine own_go (B := s₁.setTop (mkF m 33 #[Sr a1, Sr a2, Si 2] [.int 1])) (fun _ k => XS.icmpYes X0.here hx rfl (pc0 := 12) (pc' := 32) rfl (hb hby d56_12) rfl (flt hc19).2.1 (by decide) (by decide) (XS.iconst X0.here hx rfl (hb hby d56_32) k)) ?_
      exact own_retN X0 hx hlk (t := .boolean) (w := (1 : Int32)) hret (by simp) (hb hby d56_33) e0 rfl ⟨(by rw [own_b1 (own_pl_leq22_1 x0 x1 y0 y1 hc10 hc17)]), N0, rfl⟩ (by decide) (by decide)
    · skip
      refine own_go (B := s₁.setTop (mkF m 25 #[Sr a1, Sr a2, Si 1] [.int 0])) (fun _ k => XS.icmpNo X0.here hx rfl (hb hby d56_21) rfl (feq hc17).1 (XS.iconst X0.here hx rfl (hb hby d56_24) k)) ?_
      exact own_retN X0 hx hlk (t := .boolean) (w := (0 : Int32)) hret (by simp) (hb hby d56_25) e0 rfl ⟨(by rw [own_b0 (own_pl_leq22_2 x0 x1 y0 y1 hc10 hc17)]), N0, rfl⟩ (by decide) (by decide)
  · skip
    refine own_go (B := s₁.setTop (mkF m 25 #[Sr a1, Sr a2, Si 0] [.int 0])) (fun _ k => XS.icmpNo X0.here hx rfl (hb hby d56_21) rfl (feq hc10).1 (XS.iconst X0.here hx rfl (hb hby d56_24) k)) ?_
    exact own_retN X0 hx hlk (t := .boolean) (w := (0 : Int32)) hret (by simp) (hb hby d56_25) e0 rfl ⟨(by rw [own_b0 (own_pl_leq22_3 x0 x1 y0 y1 hc10)]), N0, rfl⟩ (by decide) (by decide)
abbrev R_own_seq22 : Room := ⟨1, 0, 0, 14⟩
def Q_own_seq22 (Z : State) (a1 a2 t1 t2 : Addr) (k1 k2 : ClassId) (x0 x1 y0 y1 cs : Int32) (h0 : Heap) (n0 : Nat) (v : Option Value) (h : Heap) (L : List Loc) : Prop := v = some (.int (own_b (x0 = y0 ∧ x1 = y1))) ∧ Fr n0 L ∧ h = h0
theorem own_seq22 (l : Launch) (Z : State) (a0 : Array Value) (hw : own_HW a0 Z) (ws : List Jvm.Cond) (a1 a2 t1 t2 : Addr) (k1 k2 : ClassId) (x0 x1 y0 y1 cs : Int32) (h0 : Heap) (n0 : Nat) (Z0 : n0 ≤ h0.size) (P_E_a1 : Exa Z h0 a1 nn3_) (P_F_a1_value : Fld Z h0 a1 nn3_ "value" "[B" (.ref t1)) (P_F_a1_coder : Fld Z h0 a1 nn3_ "coder" "B" (.int 0)) (P_V_t1 : Arv Z h0 t1 k1 .byte 2 [.int x0, .int x1] (.int 0)) (P_E_a2 : Exa Z h0 a2 nn3_) (P_F_a2_value : Fld Z h0 a2 nn3_ "value" "[B" (.ref t2)) (P_F_a2_coder : Fld Z h0 a2 nn3_ "coder" "B" (.int 0)) (P_V_t2 : Arv Z h0 t2 k2 .byte 2 [.int y0, .int y1] (.int 0)) (ne_a1_a2 : a1 ≠ a2) (P_S_COMPACT_STRINGS : Sta Z h0 nn3_ nn16_ "Z" (.int cs)) (hcs : ¬ (cs = (0 : Int32))) :
    own_MF l own_y18 (Jvm.Cond.code own_y18 jdk_42_method_66_code 3 (some .boolean)) ws R_own_seq22 #[.ref a1, .ref a2] Z h0 (Q_own_seq22 Z a1 a2 t1 t2 k1 k2 x0 x1 y0 y1 cs h0 n0) := by
  refine own_begin (plainFor_of_name own_pn10) (fun m => ef10 m a1 a2) ?_
  intro p e s m below meth c s₁ hx hby hml hown hnm hlk hret hZ X0 e0
  have N0 := Fr.nil n0
  have K0 := Keep.refl h0 []
  refine own_go (B := s₁.setTop (mkF m 8 #[Sr a1, Sr a2, Su] [.ref a2])) (fun _ k => XS.aloadN X0.here hx rfl (hb hby d55_0) rfl rfl (XS.aloadN X0.here hx rfl (hb hby d55_1) rfl rfl (Jvm.RoadKit.acmp (g := (mkF m 2 #[Sr a1, Sr a2, Su] [.ref a2, .ref a1])) X0 hx rfl rfl rfl (pc0 := 2) (pc' := 7) (same := false) rfl (hb hby d55_2) rfl (decide_eq_false fun q => ne_a1_a2 (Value.ref.inj q)) (by decide) (by decide) (XS.aloadN X0.here hx rfl (hb hby d55_7) rfl rfl k)))) ?_
  refine own_iY X0 hx hZ hown (hw.w 353 rfl) e0 (Ins.self P_E_a2) rfl rfl (hb hby d55_8) fun T1 X1 e1 => ?_
  refine own_go (B := T1.setTop (mkF m 11 #[Sr a1, Sr a2, Su] [.int 1])) (fun _ k => k) ?_
  have hc2 : ¬ ((1 : Int32) = (0 : Int32)) := by decide
  refine own_go (B := T1.setTop (mkF m 15 #[Sr a1, Sr a2, Su] [.ref a2])) (fun _ k => XS.ifNo X1.here hx rfl (hb hby d55_11) rfl ((if0 _ _).trans (feq hc2).1) (XS.aloadN X1.here hx rfl (hb hby d55_14) rfl rfl k)) ?_
  refine own_cY X1 hx hZ hown (hw.w 353 rfl) e1 (Ins.self P_E_a2) rfl rfl (hb hby d55_15) fun T3 X3 e3 => ?_
  refine own_go (B := T3.setTop (mkF m 19 #[Sr a1, Sr a2, Sr a2] [])) (fun _ k => XS.astoreN X3.here hx rfl (hb hby d55_18) rfl rfl (l' := #[Sr a1, Sr a2, Sr a2]) rfl k) ?_
  refine own_gS X3 hx hZ hown (hw.w 14 rfl) Via.refl e3 P_S_COMPACT_STRINGS rfl (hb hby d55_19) fun T4 X4 e4 => ?_
  refine own_go (B := T4.setTop (mkF m 26 #[Sr a1, Sr a2, Sr a2] [.ref a1])) (fun _ k => XS.ifNo X4.here hx rfl (hb hby d55_22) rfl ((if0 _ _).trans (feq hcs).1) (XS.aloadN X4.here hx rfl (hb hby d55_25) rfl rfl k)) ?_
  refine own_gF X4 hx hZ hown (hw.w 26 rfl) Via.refl e4 P_F_a1_coder rfl rfl (hb hby d55_26) fun T5 X5 e5 => ?_
  refine own_go (B := T5.setTop (mkF m 30 #[Sr a1, Sr a2, Sr a2] [.ref a2, .int 0])) (fun _ k => XS.aloadN X5.here hx rfl (hb hby d55_29) rfl rfl k) ?_
  refine own_gF X5 hx hZ hown (hw.w 26 rfl) Via.refl e5 P_F_a2_coder rfl rfl (hb hby d55_30) fun T6 X6 e6 => ?_
  refine own_go (B := T6.setTop (mkF m 33 #[Sr a1, Sr a2, Sr a2] [.int 0, .int 0])) (fun _ k => k) ?_
  have hc7 : (0 : Int32) = (0 : Int32) := by decide
  refine own_go (B := T6.setTop (mkF m 37 #[Sr a1, Sr a2, Sr a2] [.ref a1])) (fun _ k => XS.icmpNo X6.here hx rfl (hb hby d55_33) rfl (teq hc7).2 (XS.aloadN X6.here hx rfl (hb hby d55_36) rfl rfl k)) ?_
  refine own_gF X6 hx hZ hown (hw.w 28 rfl) Via.refl e6 P_F_a1_value rfl rfl (hb hby d55_37) fun T8 X8 e8 => ?_
  refine own_go (B := T8.setTop (mkF m 41 #[Sr a1, Sr a2, Sr a2] [.ref a2, .ref t1])) (fun _ k => XS.aloadN X8.here hx rfl (hb hby d55_40) rfl rfl k) ?_
  refine own_gF X8 hx hZ hown (hw.w 28 rfl) Via.refl e8 P_F_a2_value rfl rfl (hb hby d55_41) fun T9 X9 e9 => ?_
  refine own_go (B := T9.setTop (mkF m 44 #[Sr a1, Sr a2, Sr a2] [.ref t2, .ref t1])) (fun _ k => k) ?_
  refine own_cS (own_leq22 l Z a0 hw [] t1 t2 k1 k2 x0 x1 y0 y1 h0 n0 (Nat.le_trans Z0 K0.1) P_V_t1 P_V_t2) X9 hx hZ hown (hw.w 354 rfl) (hw.w 355 rfl) (hw.w 356 rfl) (hw.w 357 rfl) e9 rfl rfl (by rw [hml]; rfl) (rest := []) (lenOf own_pd8 rfl) rfl (hb hby d55_44) (W := 0) (show 2 * 0 + _ = _ from rfl) (by decide) (by decide) ?_
  rintro _ T10 L10 X10 ⟨rfl, N10q, e10⟩
  have N10 := Fr.app N0 N10q
  refine own_go (B := T10.setTop (mkF m 47 #[Sr a1, Sr a2, Sr a2] [(.int (own_b (x0 = y0 ∧ x1 = y1)))])) (fun _ k => k) ?_
  by_cases hc11 : x0 = y0 ∧ x1 = y1
  · skip
    rw [own_b1 hc11]
    show own_Fin _ _ _ _ _ _ _ (T10.setTop (mkF m 47 #[Sr a1, Sr a2, Sr a2] [.int 1]))
    have hc12 : ¬ ((1 : Int32) = (0 : Int32)) := by decide
    refine own_go (B := T10.setTop (mkF m 55 #[Sr a1, Sr a2, Sr a2] [.int 1])) (fun _ k => XS.ifNo X10.here hx rfl (hb hby d55_47) rfl ((if0 _ _).trans (feq hc12).1) (XS.iconst X10.here hx rfl (hb hby d55_50) (XS.goto X10.here hx rfl (pc0 := 51) (pc' := 55) rfl (hb hby d55_51) (by decide) (by decide) k))) ?_
    exact own_retN X10 hx hlk (t := .boolean) (w := (1 : Int32)) hret (by simp) (hb hby d55_55) e10 rfl ⟨(by rw [own_b1 hc11]), N10, rfl⟩ (by decide) (by decide)
  · skip
    rw [own_b0 hc11]
    show own_Fin _ _ _ _ _ _ _ (T10.setTop (mkF m 47 #[Sr a1, Sr a2, Sr a2] [.int 0]))
    have hc13 : (0 : Int32) = (0 : Int32) := by decide
    refine own_go (B := T10.setTop (mkF m 55 #[Sr a1, Sr a2, Sr a2] [.int 0])) (fun _ k => XS.ifYes X10.here hx rfl (pc0 := 47) (pc' := 54) rfl (hb hby d55_47) rfl ((if0 _ _).trans (teq hc13).1) (by decide) (by decide) (XS.iconst X10.here hx rfl (hb hby d55_54) k)) ?_
    exact own_retN X10 hx hlk (t := .boolean) (w := (0 : Int32)) hret (by simp) (hb hby d55_55) e10 rfl ⟨(by rw [own_b0 hc11]), N10, rfl⟩ (by decide) (by decide)
abbrev R_own_rm65 : Room := ⟨4, 0, 0, 48⟩
theorem d65_0 : own_D cd65 0 (.aload_n 0) 1 := by decide +kernel
theorem d65_1 : own_D cd65 1 (.invokespecial 1) 3 := by decide +kernel
theorem d65_4 : own_D cd65 4 (.aload_n 1) 1 := by decide +kernel
theorem d65_5 : own_D cd65 5 (.aload_n 2) 1 := by decide +kernel
theorem d65_6 : own_D cd65 6 (.invokestatic 7) 3 := by decide +kernel
theorem d65_9 : own_D cd65 9 (.invokevirtual 27) 3 := by decide +kernel
theorem d65_12 : own_D cd65 12 (.ifCond .eq 30) 3 := by decide +kernel
theorem d65_42 : own_D cd65 42 (.aload_n 0) 1 := by decide +kernel
theorem d65_43 : own_D cd65 43 (.aload_n 1) 1 := by decide +kernel
theorem d65_44 : own_D cd65 44 (.putfield 13) 3 := by decide +kernel
theorem d65_47 : own_D cd65 47 (.aload_n 0) 1 := by decide +kernel
theorem d65_48 : own_D cd65 48 (.aload_n 2) 1 := by decide +kernel
theorem d65_49 : own_D cd65 49 (.putfield 24) 3 := by decide +kernel
theorem d65_52 : own_D cd65 52 .return_ 1 := by decide +kernel
theorem ef11 (m : MethodId) (x0 x1 x2 : Addr) : entryFrame m #[(.ref x0), (.ref x1), (.ref x2)] 3 = mkF m 0 #[.val (.ref x0), .val (.ref x1), .val (.ref x2)] [] := by first | (simp [entryFrame, mkF, argsToLocals, Value.category]; done) | rfl
def Q_own_rm65 (Z : State) (a1 a2 a3 t2 t3 : Addr) (k2 k3 : ClassId) (x0 y0 y1 cs : Int32) (h0 : Heap) (n0 : Nat) (v : Option Value) (h : Heap) (L : List Loc) : Prop := v = none ∧ Fr n0 L ∧ Keep h0 h [a1] ∧ Exa Z h a1 nn1_ ∧ Fld Z h a1 nn1_ "e0" nn9_ (.ref a2) ∧ Fld Z h a1 nn1_ "e1" nn9_ (.ref a3)
theorem own_rm65 (l : Launch) (Z : State) (a0 : Array Value) (hw : own_HW a0 Z) (ws : List Jvm.Cond) (a1 a2 a3 t2 t3 : Addr) (k2 k3 : ClassId) (x0 y0 y1 cs : Int32) (h0 : Heap) (n0 : Nat) (Z0 : n0 ≤ h0.size) (P_E_a1 : Exa Z h0 a1 nn1_) (P_F_a1_e0 : Fld Z h0 a1 nn1_ "e0" nn9_ .null) (P_F_a1_e1 : Fld Z h0 a1 nn1_ "e1" nn9_ .null) (P_E_a2 : Exa Z h0 a2 nn3_) (P_F_a2_value : Fld Z h0 a2 nn3_ "value" "[B" (.ref t2)) (P_F_a2_coder : Fld Z h0 a2 nn3_ "coder" "B" (.int 0)) (P_V_t2 : Arv Z h0 t2 k2 .byte 1 [.int x0] (.int 0)) (P_E_a3 : Exa Z h0 a3 nn3_) (P_F_a3_value : Fld Z h0 a3 nn3_ "value" "[B" (.ref t3)) (P_F_a3_coder : Fld Z h0 a3 nn3_ "coder" "B" (.int 0)) (P_V_t3 : Arv Z h0 t3 k3 .byte 2 [.int y0, .int y1] (.int 0)) (g_a1 : n0 ≤ a1) (ne_a2_a3 : a2 ≠ a3) (ne_a2_a1 : a2 ≠ a1) (ne_a3_a1 : a3 ≠ a1) (ne_t2_a1 : t2 ≠ a1) (ne_t3_a1 : t3 ≠ a1) (P_S_COMPACT_STRINGS : Sta Z h0 nn3_ nn16_ "Z" (.int cs)) (hcs : ¬ (cs = (0 : Int32))) :
    own_MF l own_y19 (Jvm.Cond.code own_y19 jdk_101_method_2_code 3 none) ws R_own_rm65 #[.ref a1, .ref a2, .ref a3] Z h0 (Q_own_rm65 Z a1 a2 a3 t2 t3 k2 k3 x0 y0 y1 cs h0 n0) := by
  refine own_begin (plainFor_of_name own_pn5) (fun m => ef11 m a1 a2 a3) ?_
  intro p e s m below meth c s₁ hx hby hml hown hnm hlk hret hZ X0 e0
  have N0 := Fr.nil n0
  have K0 := Keep.refl h0 [a1]
  refine own_go (B := s₁.setTop (mkF m 1 #[Sr a1, Sr a2, Sr a3] [.ref a1])) (fun _ k => XS.aloadN X0.here hx rfl (hb hby d65_0) rfl rfl k) ?_
  refine own_cN (own_rm9 l Z a0 hw [] a1 h0 n0 (Nat.le_trans Z0 K0.1) ) X0 hx hZ hown (hw.w 41 rfl) (hw.w 42 rfl) (hw.w 45 rfl) (hw.w 46 rfl) e0 rfl rfl (by rw [hml]; rfl) (rest := []) (lenOf own_pd0 rfl) rfl (hb hby d65_1) (W := 0) (show 2 * 0 + _ = _ from rfl) (by decide) (by decide) rfl ?_
  rintro _ T1 L1 X1 ⟨rfl, N1q, e1⟩
  have N1 := Fr.app N0 N1q
  refine own_go (B := T1.setTop (mkF m 6 #[Sr a1, Sr a2, Sr a3] [.ref a3, .ref a2])) (fun _ k => XS.aloadN X1.here hx rfl (hb hby d65_4) rfl rfl (XS.aloadN X1.here hx rfl (hb hby d65_5) rfl rfl k)) ?_
  refine own_cS (own_rm12 l Z a0 hw [] a3 h0 n0 (Nat.le_trans Z0 K0.1) ) X1 hx hZ hown (hw.w 60 rfl) (hw.w 61 rfl) (hw.w 62 rfl) (hw.w 63 rfl) e1 rfl rfl (by rw [hml]; rfl) (rest := [.ref a2]) (lenOf own_pd1 rfl) rfl (hb hby d65_6) (W := 1) (show 2 * 0 + _ = _ from rfl) (by decide) (by decide) ?_
  rintro _ T2 L2 X2 ⟨rfl, N2q, e2⟩
  have N2 := Fr.app N1 N2q
  refine own_go (B := T2.setTop (mkF m 9 #[Sr a1, Sr a2, Sr a3] [.ref a3, .ref a2])) (fun _ k => k) ?_
  refine own_cV (own_seq12 l Z a0 hw [] a2 a3 t2 t3 k2 k3 x0 y0 y1 cs h0 n0 (Nat.le_trans Z0 K0.1) P_E_a2 P_F_a2_value P_F_a2_coder P_V_t2 P_E_a3 P_F_a3_value P_F_a3_coder P_V_t3 ne_a2_a3 P_S_COMPACT_STRINGS hcs) X2 hx hZ hown (hw.w 347 rfl) (hw.w 348 rfl) (notFace_of_selects (args := #[]) (mvT hZ (hw.w 358 rfl))) (hw.w 350 rfl) (hw.w 351 rfl) (hw.w 2 rfl) (hw.w 352 rfl) P_E_a2 e2 rfl rfl (by rw [hml]; rfl) (rest := []) (lenOf own_pd9 rfl) rfl (hb hby d65_9) (W := 0) (show 2 * 0 + _ = _ from rfl) (by decide) (by decide) ?_
  rintro _ T3 L3 X3 ⟨rfl, N3q, e3⟩
  have N3 := Fr.app N2 N3q
  refine own_go (B := T3.setTop (mkF m 12 #[Sr a1, Sr a2, Sr a3] [.int 0])) (fun _ k => k) ?_
  have hc4 : (0 : Int32) = (0 : Int32) := by decide
  refine own_go (B := T3.setTop (mkF m 44 #[Sr a1, Sr a2, Sr a3] [.ref a2, .ref a1])) (fun _ k => XS.ifYes X3.here hx rfl (pc0 := 12) (pc' := 42) rfl (hb hby d65_12) rfl ((if0 _ _).trans (teq hc4).1) (by decide) (by decide) (XS.aloadN X3.here hx rfl (hb hby d65_42) rfl rfl (XS.aloadN X3.here hx rfl (hb hby d65_43) rfl rfl k))) ?_
  refine own_pF X3 hx hZ hown (hw.w 64 rfl) Via.refl e3 P_F_a1_e0 P_E_a1 (Or.inr ⟨(hw.w 65 rfl), rfl, hnm⟩) (hw.w 35 rfl) (ty := (.object "java/lang/Object")) (v := (.ref a2)) (by decide) rfl rfl rfl rfl (hb hby d65_44) fun T5 h5 X5 e5 W5 => ?_
  have F_w5 : Fld Z h5 a1 nn1_ "e0" nn9_ (.ref a2) := P_F_a1_e0.same W5
  have E_7 := P_E_a1.wr W5
  have F_9 := P_F_a1_e1.other W5 (Or.inr (slot_ne (Or.inr (hw.w 69 rfl)) (Or.inr (hw.w 65 rfl)) (by decide) (t := (.object "java/lang/Object")) (t' := (.object "java/lang/Object")) (by decide) (by decide)))
  have K19 : Keep h0 h5 [a1] := K0.wr W5 (Or.inl (List.mem_of_getElem? (i := 0) rfl))
  have N5 := Fr.snoc X5 N3 g_a1
  refine own_go (B := T5.setTop (mkF m 49 #[Sr a1, Sr a2, Sr a3] [.ref a3, .ref a1])) (fun _ k => XS.aloadN X5.here hx rfl (hb hby d65_47) rfl rfl (XS.aloadN X5.here hx rfl (hb hby d65_48) rfl rfl k)) ?_
  refine own_pF X5 hx hZ hown (hw.w 68 rfl) Via.refl e5 F_9 E_7 (Or.inr ⟨(hw.w 69 rfl), rfl, hnm⟩) (hw.w 35 rfl) (ty := (.object "java/lang/Object")) (v := (.ref a3)) (by decide) rfl rfl rfl rfl (hb hby d65_49) fun T20 h20 X20 e20 W20 => ?_
  have F_w20 : Fld Z h20 a1 nn1_ "e1" nn9_ (.ref a3) := F_9.same W20
  have E_22 := E_7.wr W20
  have F_33 := F_w5.other W20 (Or.inr (slot_ne (Or.inr (hw.w 65 rfl)) (Or.inr (hw.w 69 rfl)) (by decide) (t := (.object "java/lang/Object")) (t' := (.object "java/lang/Object")) (by decide) (by decide)))
  have K34 : Keep h0 h20 [a1] := K19.wr W20 (Or.inl (List.mem_of_getElem? (i := 0) rfl))
  have N20 := Fr.snoc X20 N5 g_a1
  refine own_go (B := T20.setTop (mkF m 52 #[Sr a1, Sr a2, Sr a3] [])) (fun _ k => k) ?_
  exact own_retV X20 hx hlk hret (hb hby d65_52) e20 ⟨rfl, N20, K34, E_22, F_33, F_w20⟩ (by decide) (by decide)
abbrev R_own_rm64 : Room := ⟨5, 1, 2, 63⟩
theorem d64_0 : own_D cd64 0 (.new 15) 3 := by decide +kernel
theorem d64_3 : own_D cd64 3 .dup 1 := by decide +kernel
theorem d64_4 : own_D cd64 4 (.aload_n 0) 1 := by decide +kernel
theorem d64_5 : own_D cd64 5 (.aload_n 1) 1 := by decide +kernel
theorem d64_6 : own_D cd64 6 (.invokespecial 21) 3 := by decide +kernel
theorem d64_9 : own_D cd64 9 .areturn 1 := by decide +kernel
def Q_own_rm64 (Z : State) (a2 a3 t2 t3 : Addr) (k2 k3 : ClassId) (x0 y0 y1 cs : Int32) (h0 : Heap) (n0 : Nat) (v : Option Value) (h : Heap) (L : List Loc) : Prop := ∃ b : Addr, v = some (.ref b) ∧ Fr n0 L ∧ Keep h0 h [] ∧ Exa Z h b nn1_ ∧ Fld Z h b nn1_ "e0" nn9_ (.ref a2) ∧ Fld Z h b nn1_ "e1" nn9_ (.ref a3) ∧ (h0.size ≤ b)
theorem own_rm64 (l : Launch) (Z : State) (a0 : Array Value) (hw : own_HW a0 Z) (ws : List Jvm.Cond) (a2 a3 t2 t3 : Addr) (k2 k3 : ClassId) (x0 y0 y1 cs : Int32) (h0 : Heap) (n0 : Nat) (Z0 : n0 ≤ h0.size) (P_E_a2 : Exa Z h0 a2 nn3_) (P_F_a2_value : Fld Z h0 a2 nn3_ "value" "[B" (.ref t2)) (P_F_a2_coder : Fld Z h0 a2 nn3_ "coder" "B" (.int 0)) (P_V_t2 : Arv Z h0 t2 k2 .byte 1 [.int x0] (.int 0)) (P_E_a3 : Exa Z h0 a3 nn3_) (P_F_a3_value : Fld Z h0 a3 nn3_ "value" "[B" (.ref t3)) (P_F_a3_coder : Fld Z h0 a3 nn3_ "coder" "B" (.int 0)) (P_V_t3 : Arv Z h0 t3 k3 .byte 2 [.int y0, .int y1] (.int 0)) (ne_a2_a3 : a2 ≠ a3) (P_S_COMPACT_STRINGS : Sta Z h0 nn3_ nn16_ "Z" (.int cs)) (hcs : ¬ (cs = (0 : Int32))) :
    own_MF l own_y20 (Jvm.Cond.code own_y20 jdk_96_method_19_code 2 (some (.object "java/util/Set"))) ws R_own_rm64 #[.ref a2, .ref a3] Z h0 (Q_own_rm64 Z a2 a3 t2 t3 k2 k3 x0 y0 y1 cs h0 n0) := by
  refine own_begin (plainFor_of_name own_pn6) (fun m => ef1 m a2 a3) ?_
  intro p e s m below meth c s₁ hx hby hml hown hnm hlk hret hZ X0 e0
  have N0 := Fr.nil n0
  have K0 := Keep.refl h0 []
  obtain ⟨T1, h1, X1, e1, E1, A1, D1, -, st1⟩ := newO X0 hx hZ hown (hw.w 34 rfl) (hw.w 35 rfl) (hw.w 36 rfl) e0 (g := (mkF m 0 #[Sr a2, Sr a3] [])) rfl (hb hby d64_0) (by decide) (by decide)
  obtain ⟨b1, g1⟩ : ∃ z, z = h0.size := ⟨_, rfl⟩
  rw [← g1] at A1 D1 st1
  have ne_a2_b1_2 : a2 ≠ b1 := Nat.ne_of_lt (Nat.lt_of_lt_of_le P_E_a2.lt (Nat.le_of_eq g1.symm))
  have ne_t2_b1_3 : t2 ≠ b1 := Nat.ne_of_lt (Nat.lt_of_lt_of_le P_V_t2.lt (Nat.le_of_eq g1.symm))
  have ne_a3_b1_4 : a3 ≠ b1 := Nat.ne_of_lt (Nat.lt_of_lt_of_le P_E_a3.lt (Nat.le_of_eq g1.symm))
  have ne_t3_b1_5 : t3 ≠ b1 := Nat.ne_of_lt (Nat.lt_of_lt_of_le P_V_t3.lt (Nat.le_of_eq g1.symm))
  have sz_b1 : h0.size ≤ b1 := Nat.le_trans K0.1 (Nat.le_of_eq g1.symm)
  have g_b1 : n0 ≤ b1 := Nat.le_trans Z0 sz_b1
  have E_7 := P_E_a2.ext E1
  have F_8 := P_F_a2_value.ext E1
  have F_9 := P_F_a2_coder.ext E1
  have V_10 := P_V_t2.ext E1
  have E_11 := P_E_a3.ext E1
  have F_12 := P_F_a3_value.ext E1
  have F_13 := P_F_a3_coder.ext E1
  have V_14 := P_V_t3.ext E1
  have S_15 := P_S_COMPACT_STRINGS.ext E1
  have F_e0_b1 : Fld Z h1 b1 nn1_ "e0" nn9_ .null := D1 (Or.inr (hw.w 65 rfl)) (ty := (.object "java/lang/Object")) (by decide)
  have F_e1_b1 : Fld Z h1 b1 nn1_ "e1" nn9_ .null := D1 (Or.inr (hw.w 69 rfl)) (ty := (.object "java/lang/Object")) (by decide)
  have K16 : Keep h0 h1 [] := K0.ext E1
  refine own_go (B := T1.setTop (mkF m 6 #[Sr a2, Sr a3] [.ref a3, .ref a2, .ref b1, .ref b1])) (fun _ k => st1 _ (XS.dup X1.here hx rfl (hb hby d64_3) rfl rfl (XS.aloadN X1.here hx rfl (hb hby d64_4) rfl rfl (XS.aloadN X1.here hx rfl (hb hby d64_5) rfl rfl k)))) ?_
  refine own_cN (own_rm65 l Z a0 hw [] b1 a2 a3 t2 t3 k2 k3 x0 y0 y1 cs h1 n0 (Nat.le_trans Z0 K16.1) A1 F_e0_b1 F_e1_b1 E_7 F_8 F_9 V_10 E_11 F_12 F_13 V_14 g_b1 ne_a2_a3 ne_a2_b1_2 ne_a3_b1_4 ne_t2_b1_3 ne_t3_b1_5 S_15 hcs) X1 hx hZ hown (hw.w 391 rfl) (hw.w 392 rfl) (hw.w 36 rfl) (hw.w 393 rfl) e1 rfl rfl (by rw [hml]; rfl) (rest := [.ref b1]) (lenOf own_pd10 rfl) rfl (hb hby d64_6) (W := 1) (show 2 * 0 + _ = _ from rfl) (by decide) (by decide) rfl ?_
  rintro _ T17 L17 X17 ⟨rfl, N17q, K17q, Q17_0, Q17_1, Q17_2⟩
  have N17 := Fr.app N0 N17q
  have K31 : Keep h0 T17.heap [] := K16.trans K17q (allS (Or.inr sz_b1) all0)
  refine own_go (B := T17.setTop (mkF m 9 #[Sr a2, Sr a3] [.ref b1])) (fun _ k => k) ?_
  exact own_retA X17 hx hlk hret rfl rfl (hb hby d64_9) rfl ⟨b1, rfl, N17, K31, Q17_0, Q17_1, Q17_2, sz_b1⟩ (by decide) (by decide)
abbrev R_own_rm68 : Room := ⟨0, 0, 0, 0⟩
theorem d68_0 : own_D cd68 0 (.getstatic 9) 3 := by decide +kernel
theorem d68_3 : own_D cd68 3 .areturn 1 := by decide +kernel
theorem ef12 (m : MethodId)  : entryFrame m #[] 0 = mkF m 0 #[] [] := by first | (simp [entryFrame, mkF, argsToLocals, Value.category]; done) | rfl
def Q_own_rm68 (Z : State) (es : Addr) (h0 : Heap) (n0 : Nat) (v : Option Value) (h : Heap) (L : List Loc) : Prop := v = some (.ref es) ∧ Fr n0 L ∧ h = h0
theorem own_rm68 (l : Launch) (Z : State) (a0 : Array Value) (hw : own_HW a0 Z) (ws : List Jvm.Cond) (es : Addr) (h0 : Heap) (n0 : Nat) (Z0 : n0 ≤ h0.size) (P_S_EMPTY_SET : Sta Z h0 nn15_ nn17_ nn18_ (.ref es)) :
    own_MF l own_y21 (Jvm.Cond.code own_y21 jdk_96_method_17_code 0 (some (.object "java/util/Set"))) ws R_own_rm68 #[] Z h0 (Q_own_rm68 Z es h0 n0) := by
  refine own_begin (plainFor_of_name own_pn6) (fun m => ef12 m ) ?_
  intro p e s m below meth c s₁ hx hby hml hown hnm hlk hret hZ X0 e0
  have N0 := Fr.nil n0
  have K0 := Keep.refl h0 []
  refine own_gS X0 hx hZ hown (hw.w 413 rfl) Via.refl e0 P_S_EMPTY_SET rfl (hb hby d68_0) fun T1 X1 e1 => ?_
  refine own_go (B := T1.setTop (mkF m 3 #[] [.ref es])) (fun _ k => k) ?_
  exact own_retA X1 hx hlk hret rfl rfl (hb hby d68_3) e1 ⟨rfl, N0, rfl⟩ (by decide) (by decide)
abbrev R_own_rm66 : Room := ⟨0, 0, 0, 0⟩
theorem d66_0 : own_D cd66 0 (.getstatic 39) 3 := by decide +kernel
theorem d66_3 : own_D cd66 3 .areturn 1 := by decide +kernel
theorem own_pn12 : plainName "com/example/aduana/aduana/core/Authentication" = true := by first | (simp [plainName, overriddenIn]; done) | decide +kernel
def Q_own_rm66 (Z : State) (an : Addr) (h0 : Heap) (n0 : Nat) (v : Option Value) (h : Heap) (L : List Loc) : Prop := v = some (.ref an) ∧ Fr n0 L ∧ h = h0
theorem own_rm66 (l : Launch) (Z : State) (a0 : Array Value) (hw : own_HW a0 Z) (ws : List Jvm.Cond) (an : Addr) (h0 : Heap) (n0 : Nat) (Z0 : n0 ≤ h0.size) (P_S_ANONYMOUS : Sta Z h0 nn8_ nn19_ nn20_ (.ref an)) :
    own_MF l own_y22 (Jvm.Cond.code own_y22 prog_11_method_3_code 0 (some (.object "com/example/aduana/aduana/core/Authentication"))) ws R_own_rm66 #[] Z h0 (Q_own_rm66 Z an h0 n0) := by
  refine own_begin (plainFor_of_name own_pn12) (fun m => ef12 m ) ?_
  intro p e s m below meth c s₁ hx hby hml hown hnm hlk hret hZ X0 e0
  have N0 := Fr.nil n0
  have K0 := Keep.refl h0 []
  refine own_gS X0 hx hZ hown (hw.w 397 rfl) Via.refl e0 P_S_ANONYMOUS rfl (hb hby d66_0) fun T1 X1 e1 => ?_
  refine own_go (B := T1.setTop (mkF m 3 #[] [.ref an])) (fun _ k => k) ?_
  exact own_retA X1 hx hlk hret rfl rfl (hb hby d66_3) e1 ⟨rfl, N0, rfl⟩ (by decide) (by decide)
abbrev R_own_copy12 : Room := ⟨0, 0, 0, 0⟩
theorem d16_0 : own_D cd16 0 (.aload_n 0) 1 := by decide +kernel
theorem d16_1 : own_D cd16 1 (.instanceof 31) 3 := by decide +kernel
theorem d16_4 : own_D cd16 4 (.ifCond .eq 8) 3 := by decide +kernel
theorem d16_7 : own_D cd16 7 (.aload_n 0) 1 := by decide +kernel
theorem d16_8 : own_D cd16 8 (.checkcast 33) 3 := by decide +kernel
theorem d16_11 : own_D cd16 11 .areturn 1 := by decide +kernel
def Q_own_copy12 (Z : State) (a1 : Addr) (h0 : Heap) (n0 : Nat) (v : Option Value) (h : Heap) (L : List Loc) : Prop := v = some (.ref a1) ∧ Fr n0 L ∧ h = h0
theorem own_copy12 (l : Launch) (Z : State) (a0 : Array Value) (hw : own_HW a0 Z) (ws : List Jvm.Cond) (a1 : Addr) (h0 : Heap) (n0 : Nat) (Z0 : n0 ≤ h0.size) (P_E_a1 : Exa Z h0 a1 nn1_) :
    own_MF l own_y23 (Jvm.Cond.code own_y23 jdk_96_method_29_code 1 (some (.object "java/util/Set"))) ws R_own_copy12 #[.ref a1] Z h0 (Q_own_copy12 Z a1 h0 n0) := by
  refine own_begin (plainFor_of_name own_pn6) (fun m => ef0 m a1) ?_
  intro p e s m below meth c s₁ hx hby hml hown hnm hlk hret hZ X0 e0
  have N0 := Fr.nil n0
  have K0 := Keep.refl h0 []
  refine own_go (B := s₁.setTop (mkF m 1 #[Sr a1] [.ref a1])) (fun _ k => XS.aloadN X0.here hx rfl (hb hby d16_0) rfl rfl k) ?_
  refine own_iY X0 hx hZ hown (hw.w 92 rfl) e0 (Ins.of_exa P_E_a1 (hw.w 44 rfl)) rfl rfl (hb hby d16_1) fun T1 X1 e1 => ?_
  refine own_go (B := T1.setTop (mkF m 4 #[Sr a1] [.int 1])) (fun _ k => k) ?_
  have hc2 : ¬ ((1 : Int32) = (0 : Int32)) := by decide
  refine own_go (B := T1.setTop (mkF m 8 #[Sr a1] [.ref a1])) (fun _ k => XS.ifNo X1.here hx rfl (hb hby d16_4) rfl ((if0 _ _).trans (feq hc2).1) (XS.aloadN X1.here hx rfl (hb hby d16_7) rfl rfl k)) ?_
  refine own_cY X1 hx hZ hown (hw.w 93 rfl) e1 (Ins.of_exa P_E_a1 (hw.w 94 rfl)) rfl rfl (hb hby d16_8) fun T3 X3 e3 => ?_
  refine own_go (B := T3.setTop (mkF m 11 #[Sr a1] [.ref a1])) (fun _ k => k) ?_
  exact own_retA X3 hx hlk hret rfl rfl (hb hby d16_11) e3 ⟨rfl, N0, rfl⟩ (by decide) (by decide)
abbrev R_own_copyN : Room := ⟨0, 0, 0, 0⟩
def Q_own_copyN (Z : State) (a1 : Addr) (h0 : Heap) (n0 : Nat) (v : Option Value) (h : Heap) (L : List Loc) : Prop := v = some (.ref a1) ∧ Fr n0 L ∧ h = h0
theorem own_copyN (l : Launch) (Z : State) (a0 : Array Value) (hw : own_HW a0 Z) (ws : List Jvm.Cond) (a1 : Addr) (h0 : Heap) (n0 : Nat) (Z0 : n0 ≤ h0.size) (P_E_a1 : Exa Z h0 a1 nn4_) :
    own_MF l own_y23 (Jvm.Cond.code own_y23 jdk_96_method_29_code 1 (some (.object "java/util/Set"))) ws R_own_copyN #[.ref a1] Z h0 (Q_own_copyN Z a1 h0 n0) := by
  refine own_begin (plainFor_of_name own_pn6) (fun m => ef0 m a1) ?_
  intro p e s m below meth c s₁ hx hby hml hown hnm hlk hret hZ X0 e0
  have N0 := Fr.nil n0
  have K0 := Keep.refl h0 []
  refine own_go (B := s₁.setTop (mkF m 1 #[Sr a1] [.ref a1])) (fun _ k => XS.aloadN X0.here hx rfl (hb hby d16_0) rfl rfl k) ?_
  refine own_iY X0 hx hZ hown (hw.w 92 rfl) e0 (Ins.of_exa P_E_a1 (hw.w 414 rfl)) rfl rfl (hb hby d16_1) fun T1 X1 e1 => ?_
  refine own_go (B := T1.setTop (mkF m 4 #[Sr a1] [.int 1])) (fun _ k => k) ?_
  have hc2 : ¬ ((1 : Int32) = (0 : Int32)) := by decide
  refine own_go (B := T1.setTop (mkF m 8 #[Sr a1] [.ref a1])) (fun _ k => XS.ifNo X1.here hx rfl (hb hby d16_4) rfl ((if0 _ _).trans (feq hc2).1) (XS.aloadN X1.here hx rfl (hb hby d16_7) rfl rfl k)) ?_
  refine own_cY X1 hx hZ hown (hw.w 93 rfl) e1 (Ins.of_exa P_E_a1 (hw.w 399 rfl)) rfl rfl (hb hby d16_8) fun T3 X3 e3 => ?_
  refine own_go (B := T3.setTop (mkF m 11 #[Sr a1] [.ref a1])) (fun _ k => k) ?_
  exact own_retA X3 hx hlk hret rfl rfl (hb hby d16_11) e3 ⟨rfl, N0, rfl⟩ (by decide) (by decide)
abbrev R_own_rm19 : Room := ⟨1, 1, 16, 12⟩
theorem d19_0 : own_D cd19 0 (.aload_n 0) 1 := by decide +kernel
theorem d19_1 : own_D cd19 1 (.invokespecial 3) 3 := by decide +kernel
theorem d19_4 : own_D cd19 4 (.getstatic 18) 3 := by decide +kernel
theorem d19_7 : own_D cd19 7 (.ifCond .eq 18) 3 := by decide +kernel
theorem d19_10 : own_D cd19 10 (.aload_n 0) 1 := by decide +kernel
theorem d19_11 : own_D cd19 11 (.iload_n 1) 1 := by decide +kernel
theorem d19_12 : own_D cd19 12 (.newarray .byte) 2 := by decide +kernel
theorem d19_14 : own_D cd19 14 (.putfield 15) 3 := by decide +kernel
theorem d19_17 : own_D cd19 17 (.aload_n 0) 1 := by decide +kernel
theorem d19_18 : own_D cd19 18 (.iconst 0) 1 := by decide +kernel
theorem d19_19 : own_D cd19 19 (.putfield 22) 3 := by decide +kernel
theorem d19_22 : own_D cd19 22 (.goto 16) 3 := by decide +kernel
theorem d19_38 : own_D cd19 38 .return_ 1 := by decide +kernel
theorem own_pn13 : plainName "java/lang/AbstractStringBuilder" = true := by first | (simp [plainName, overriddenIn]; done) | decide +kernel
theorem ef13 (m : MethodId) (x0 : Addr) : entryFrame m #[(.ref x0), (.int 16)] 2 = mkF m 0 #[.val (.ref x0), .val (.int 16)] [] := by first | (simp [entryFrame, mkF, argsToLocals, Value.category]; done) | rfl
def Q_own_rm19 (Z : State) (a1 : Addr) (cs : Int32) (h0 : Heap) (n0 : Nat) (v : Option Value) (h : Heap) (L : List Loc) : Prop := ∃ vb : Addr, ∃ kb : ClassId, v = none ∧ Fr n0 L ∧ Keep h0 h [a1] ∧ Exa Z h a1 nn5_ ∧ Fld Z h a1 nn10_ "value" "[B" (.ref vb) ∧ Fld Z h a1 nn10_ "coder" "B" (.int 0) ∧ Fld Z h a1 nn10_ "count" "I" (.int 0) ∧ Arv Z h vb kb .byte 16 [.int 0, .int 0, .int 0, .int 0, .int 0, .int 0, .int 0, .int 0, .int 0, .int 0, .int 0, .int 0, .int 0, .int 0, .int 0, .int 0] (.int 0) ∧ (h0.size ≤ vb)
theorem own_rm19 (l : Launch) (Z : State) (a0 : Array Value) (hw : own_HW a0 Z) (ws : List Jvm.Cond) (a1 : Addr) (cs : Int32) (h0 : Heap) (n0 : Nat) (Z0 : n0 ≤ h0.size) (P_E_a1 : Exa Z h0 a1 nn5_) (P_F_a1_value : Fld Z h0 a1 nn10_ "value" "[B" .null) (P_F_a1_coder : Fld Z h0 a1 nn10_ "coder" "B" (.int 0)) (P_F_a1_count : Fld Z h0 a1 nn10_ "count" "I" (.int 0)) (g_a1 : n0 ≤ a1) (P_S_COMPACT_STRINGS : Sta Z h0 nn3_ nn16_ "Z" (.int cs)) (hcs : ¬ (cs = (0 : Int32))) :
    own_MF l own_y24 (Jvm.Cond.code own_y24 jdk_68_method_2_code 2 none) ws R_own_rm19 #[.ref a1, .int 16] Z h0 (Q_own_rm19 Z a1 cs h0 n0) := by
  refine own_begin (plainFor_of_name own_pn13) (fun m => ef13 m a1) ?_
  intro p e s m below meth c s₁ hx hby hml hown hnm hlk hret hZ X0 e0
  have N0 := Fr.nil n0
  have K0 := Keep.refl h0 [a1]
  refine own_go (B := s₁.setTop (mkF m 1 #[Sr a1, Si 16] [.ref a1])) (fun _ k => XS.aloadN X0.here hx rfl (hb hby d19_0) rfl rfl k) ?_
  refine own_iO X0 hx hZ hown (hw.w 117 rfl) (hw.w 12 rfl) (hw.w 13 rfl) e0 rfl (by rw [hml]; rfl) rfl (hb hby d19_1) (by decide) (W := 0) (by show 2 * 0 + _ ≤ _; exact Nat.le_of_eq rfl) (by decide) fun T1 X1 e1 => ?_
  refine own_go (B := T1.setTop (mkF m 4 #[Sr a1, Si 16] [])) (fun _ k => k) ?_
  refine own_gS X1 hx hZ hown (hw.w 118 rfl) Via.refl e1 P_S_COMPACT_STRINGS rfl (hb hby d19_4) fun T2 X2 e2 => ?_
  refine own_go (B := T2.setTop (mkF m 12 #[Sr a1, Si 16] [.int 16, .ref a1])) (fun _ k => XS.ifNo X2.here hx rfl (hb hby d19_7) rfl ((if0 _ _).trans (feq hcs).1) (XS.aloadN X2.here hx rfl (hb hby d19_10) rfl rfl (XS.iloadN X2.here hx rfl (hb hby d19_11) rfl  k))) ?_
  obtain ⟨T3, h3, kc3, X3, e3, E3, A3, st3⟩ := newP X2 hx hZ (hw.w 19 rfl) e2 (g := (mkF m 12 #[Sr a1, Si 16] [.int 16, .ref a1])) rfl (hb hby d19_12) rfl (by decide) (cap := 16) (by decide) (by decide) (by decide) (by decide)
  obtain ⟨b3, g3⟩ : ∃ z, z = h0.size := ⟨_, rfl⟩
  rw [← g3] at A3 st3
  have ne_a1_b3_4 : a1 ≠ b3 := Nat.ne_of_lt (Nat.lt_of_lt_of_le P_E_a1.lt (Nat.le_of_eq g3.symm))
  have sz_b3 : h0.size ≤ b3 := Nat.le_trans K0.1 (Nat.le_of_eq g3.symm)
  have E_6 := P_E_a1.ext E3
  have F_7 := P_F_a1_value.ext E3
  have F_8 := P_F_a1_coder.ext E3
  have F_9 := P_F_a1_count.ext E3
  have V_b3 : Arv Z h3 b3 kc3 .byte 16 [.int 0, .int 0, .int 0, .int 0, .int 0, .int 0, .int 0, .int 0, .int 0, .int 0, .int 0, .int 0, .int 0, .int 0, .int 0, .int 0] (.int 0) := (Arv.new A3 (by decide)).pad (pad_rep [] (.int 0) 16)
  have K11 : Keep h0 h3 [a1] := K0.ext E3
  refine own_go (B := T3.setTop (mkF m 14 #[Sr a1, Si 16] [.ref b3, .ref a1])) (fun _ k => st3 _ k) ?_
  refine own_pF X3 hx hZ hown (hw.w 119 rfl) Via.refl e3 F_7 E_6 (Or.inl (hw.w 120 rfl)) (hw.w 106 rfl) (ty := (.array .byte)) (v := (.ref b3)) (by decide) rfl rfl rfl rfl (hb hby d19_14) fun T12 h12 X12 e12 W12 => ?_
  have F_w12 : Fld Z h12 a1 nn10_ "value" "[B" (.ref b3) := F_7.same W12
  have E_14 := E_6.wr W12
  have F_16 := F_8.other W12 (Or.inr (slot_ne (Or.inl (hw.w 122 rfl)) (Or.inl (hw.w 120 rfl)) (by decide) (t := .byte) (t' := (.array .byte)) (by decide) (by decide)))
  have F_17 := F_9.other W12 (Or.inr (slot_ne (Or.inl (hw.w 145 rfl)) (Or.inl (hw.w 120 rfl)) (by decide) (t := .int) (t' := (.array .byte)) (by decide) (by decide)))
  have V_19 := V_b3.other W12 (Ne.symm ne_a1_b3_4)
  have K20 : Keep h0 h12 [a1] := K11.wr W12 (Or.inl (List.mem_of_getElem? (i := 0) rfl))
  have N12 := Fr.snoc X12 N0 g_a1
  refine own_go (B := T12.setTop (mkF m 19 #[Sr a1, Si 16] [.int 0, .ref a1])) (fun _ k => XS.aloadN X12.here hx rfl (hb hby d19_17) rfl rfl (XS.iconst X12.here hx rfl (hb hby d19_18) k)) ?_
  refine own_pN X12 hx hZ hown (hw.w 121 rfl) Via.refl e12 F_16 E_14 (Or.inl (hw.w 122 rfl)) (hw.w 106 rfl) (ty := .byte) (v := (.int 0)) (v' := (.int 0)) (by decide) rfl rfl rfl rfl (hb hby d19_19) fun T21 h21 X21 e21 W21 => ?_
  have F_w21 : Fld Z h21 a1 nn10_ "coder" "B" (.int 0) := F_16.same W21
  have E_23 := E_14.wr W21
  have F_25 := F_17.other W21 (Or.inr (slot_ne (Or.inl (hw.w 145 rfl)) (Or.inl (hw.w 122 rfl)) (by decide) (t := .int) (t' := .byte) (by decide) (by decide)))
  have V_27 := V_19.other W21 (Ne.symm ne_a1_b3_4)
  have F_28 := F_w12.other W21 (Or.inr (slot_ne (Or.inl (hw.w 120 rfl)) (Or.inl (hw.w 122 rfl)) (by decide) (t := (.array .byte)) (t' := .byte) (by decide) (by decide)))
  have K29 : Keep h0 h21 [a1] := K20.wr W21 (Or.inl (List.mem_of_getElem? (i := 0) rfl))
  have N21 := Fr.snoc X21 N12 g_a1
  refine own_go (B := T21.setTop (mkF m 38 #[Sr a1, Si 16] [])) (fun _ k => XS.goto X21.here hx rfl (pc0 := 22) (pc' := 38) rfl (hb hby d19_22) (by decide) (by decide) k) ?_
  exact own_retV X21 hx hlk hret (hb hby d19_38) e21 ⟨b3, kc3, rfl, N21, K29, E_23, F_28, F_w21, F_25, V_27, sz_b3⟩ (by decide) (by decide)
abbrev R_own_rm18 : Room := ⟨2, 1, 16, 25⟩
theorem d18_0 : own_D cd18 0 (.aload_n 0) 1 := by decide +kernel
theorem d18_1 : own_D cd18 1 (.bipush 16) 2 := by decide +kernel
theorem d18_3 : own_D cd18 3 (.invokespecial 1) 3 := by decide +kernel
theorem d18_6 : own_D cd18 6 .return_ 1 := by decide +kernel
theorem own_pn14 : plainName "java/lang/StringBuilder" = true := by first | (simp [plainName, overriddenIn]; done) | decide +kernel
def Q_own_rm18 (Z : State) (a1 : Addr) (cs : Int32) (h0 : Heap) (n0 : Nat) (v : Option Value) (h : Heap) (L : List Loc) : Prop := ∃ vb : Addr, ∃ kb : ClassId, v = none ∧ Fr n0 L ∧ Keep h0 h [a1] ∧ Exa Z h a1 nn5_ ∧ Fld Z h a1 nn10_ "value" "[B" (.ref vb) ∧ Fld Z h a1 nn10_ "coder" "B" (.int 0) ∧ Fld Z h a1 nn10_ "count" "I" (.int 0) ∧ Arv Z h vb kb .byte 16 [.int 0, .int 0, .int 0, .int 0, .int 0, .int 0, .int 0, .int 0, .int 0, .int 0, .int 0, .int 0, .int 0, .int 0, .int 0, .int 0] (.int 0) ∧ (h0.size ≤ vb)
theorem own_rm18 (l : Launch) (Z : State) (a0 : Array Value) (hw : own_HW a0 Z) (ws : List Jvm.Cond) (a1 : Addr) (cs : Int32) (h0 : Heap) (n0 : Nat) (Z0 : n0 ≤ h0.size) (P_E_a1 : Exa Z h0 a1 nn5_) (P_F_a1_value : Fld Z h0 a1 nn10_ "value" "[B" .null) (P_F_a1_coder : Fld Z h0 a1 nn10_ "coder" "B" (.int 0)) (P_F_a1_count : Fld Z h0 a1 nn10_ "count" "I" (.int 0)) (g_a1 : n0 ≤ a1) (P_S_COMPACT_STRINGS : Sta Z h0 nn3_ nn16_ "Z" (.int cs)) (hcs : ¬ (cs = (0 : Int32))) :
    own_MF l own_y25 (Jvm.Cond.code own_y25 jdk_67_method_1_code 1 none) ws R_own_rm18 #[.ref a1] Z h0 (Q_own_rm18 Z a1 cs h0 n0) := by
  refine own_begin (plainFor_of_name own_pn14) (fun m => ef0 m a1) ?_
  intro p e s m below meth c s₁ hx hby hml hown hnm hlk hret hZ X0 e0
  have N0 := Fr.nil n0
  have K0 := Keep.refl h0 [a1]
  refine own_go (B := s₁.setTop (mkF m 3 #[Sr a1] [.int 16, .ref a1])) (fun _ k => XS.aloadN X0.here hx rfl (hb hby d18_0) rfl rfl (XS.bipush X0.here hx rfl (hb hby d18_1) k)) ?_
  refine own_cN (own_rm19 l Z a0 hw [] a1 cs h0 n0 (Nat.le_trans Z0 K0.1) P_E_a1 P_F_a1_value P_F_a1_coder P_F_a1_count g_a1 P_S_COMPACT_STRINGS hcs) X0 hx hZ hown (hw.w 111 rfl) (hw.w 112 rfl) (hw.w 115 rfl) (hw.w 116 rfl) e0 rfl rfl (by rw [hml]; rfl) (rest := []) (lenOf own_pd11 rfl) rfl (hb hby d18_3) (W := 0) (show 2 * 0 + _ = _ from rfl) (by decide) (by decide) rfl ?_
  rintro _ T1 L1 X1 ⟨vb_1, kb_1, rfl, N1q, K1q, Q1_0, Q1_1, Q1_2, Q1_3, Q1_4, x1_0⟩
  have N1 := Fr.app N0 N1q
  have K9 : Keep h0 T1.heap [a1] := K0.trans K1q (allS (Or.inl (List.mem_of_getElem? (i := 0) rfl)) all0)
  refine own_go (B := T1.setTop (mkF m 6 #[Sr a1] [])) (fun _ k => k) ?_
  exact own_retV X1 hx hlk hret (hb hby d18_6) rfl ⟨vb_1, kb_1, rfl, N1, K9, Q1_0, Q1_1, Q1_2, Q1_3, Q1_4, x1_0⟩ (by decide) (by decide)
abbrev R_own_rm26 : Room := ⟨1, 0, 0, 13⟩
theorem d26_0 : own_D cd26 0 (.getstatic 18) 3 := by decide +kernel
theorem d26_3 : own_D cd26 3 (.ifCond .eq 18) 3 := by decide +kernel
theorem d26_6 : own_D cd26 6 (.aload_n 0) 1 := by decide +kernel
theorem d26_7 : own_D cd26 7 (.getfield 22) 3 := by decide +kernel
theorem d26_10 : own_D cd26 10 (.aload_n 1) 1 := by decide +kernel
theorem d26_11 : own_D cd26 11 (.invokevirtual 40) 3 := by decide +kernel
theorem d26_14 : own_D cd26 14 (.if_icmp .eq 7) 3 := by decide +kernel
theorem d26_21 : own_D cd26 21 .return_ 1 := by decide +kernel
def Q_own_rm26 (Z : State) (a1 a2 : Addr) (cs : Int32) (h0 : Heap) (n0 : Nat) (v : Option Value) (h : Heap) (L : List Loc) : Prop := v = none ∧ Fr n0 L ∧ h = h0
theorem own_rm26 (l : Launch) (Z : State) (a0 : Array Value) (hw : own_HW a0 Z) (ws : List Jvm.Cond) (a1 a2 : Addr) (cs : Int32) (h0 : Heap) (n0 : Nat) (Z0 : n0 ≤ h0.size) (P_F_a1_coder : Fld Z h0 a1 nn10_ "coder" "B" (.int 0)) (P_E_a2 : Exa Z h0 a2 nn3_) (P_F_a2_coder : Fld Z h0 a2 nn3_ "coder" "B" (.int 0)) (P_S_COMPACT_STRINGS : Sta Z h0 nn3_ nn16_ "Z" (.int cs)) (hcs : ¬ (cs = (0 : Int32))) :
    own_MF l own_y26 (Jvm.Cond.code own_y26 jdk_68_method_71_code 2 none) ws R_own_rm26 #[.ref a1, .ref a2] Z h0 (Q_own_rm26 Z a1 a2 cs h0 n0) := by
  refine own_begin (plainFor_of_name own_pn13) (fun m => ef1 m a1 a2) ?_
  intro p e s m below meth c s₁ hx hby hml hown hnm hlk hret hZ X0 e0
  have N0 := Fr.nil n0
  have K0 := Keep.refl h0 []
  refine own_gS X0 hx hZ hown (hw.w 118 rfl) Via.refl e0 P_S_COMPACT_STRINGS rfl (hb hby d26_0) fun T1 X1 e1 => ?_
  refine own_go (B := T1.setTop (mkF m 7 #[Sr a1, Sr a2] [.ref a1])) (fun _ k => XS.ifNo X1.here hx rfl (hb hby d26_3) rfl ((if0 _ _).trans (feq hcs).1) (XS.aloadN X1.here hx rfl (hb hby d26_6) rfl rfl k)) ?_
  refine own_gF X1 hx hZ hown (hw.w 121 rfl) Via.refl e1 P_F_a1_coder rfl rfl (hb hby d26_7) fun T2 X2 e2 => ?_
  refine own_go (B := T2.setTop (mkF m 11 #[Sr a1, Sr a2] [.ref a2, .int 0])) (fun _ k => XS.aloadN X2.here hx rfl (hb hby d26_10) rfl rfl k) ?_
  refine own_cV (own_coder0 l Z a0 hw [] a2 cs h0 n0 (Nat.le_trans Z0 K0.1) P_F_a2_coder P_S_COMPACT_STRINGS hcs) X2 hx hZ hown (hw.w 161 rfl) (hw.w 140 rfl) (notFace_of_selects (args := #[]) (mvT hZ (hw.w 142 rfl))) (hw.w 142 rfl) (hw.w 141 rfl) (hw.w 2 rfl) (hw.w 143 rfl) P_E_a2 e2 rfl rfl (by rw [hml]; rfl) (rest := [.int 0]) (lenOf own_pd7 rfl) rfl (hb hby d26_11) (W := 1) (show 2 * 0 + _ = _ from rfl) (by decide) (by decide) ?_
  rintro _ T3 L3 X3 ⟨rfl, N3q, e3⟩
  have N3 := Fr.app N0 N3q
  refine own_go (B := T3.setTop (mkF m 14 #[Sr a1, Sr a2] [.int 0, .int 0])) (fun _ k => k) ?_
  have hc4 : (0 : Int32) = (0 : Int32) := by decide
  refine own_go (B := T3.setTop (mkF m 21 #[Sr a1, Sr a2] [])) (fun _ k => XS.icmpYes X3.here hx rfl (pc0 := 14) (pc' := 21) rfl (hb hby d26_14) rfl (teq hc4).1 (by decide) (by decide) k) ?_
  exact own_retV X3 hx hlk hret (hb hby d26_21) e3 ⟨rfl, N3, rfl⟩ (by decide) (by decide)
abbrev R_own_gb0_9 : Room := ⟨1, 0, 0, 18⟩
theorem d27_0 : own_D cd27 0 (.aload_n 0) 1 := by decide +kernel
theorem d27_1 : own_D cd27 1 (.invokevirtual 335) 3 := by decide +kernel
theorem d27_4 : own_D cd27 4 (.iload_n 3) 1 := by decide +kernel
theorem d27_5 : own_D cd27 5 (.if_icmp .ne 23) 3 := by decide +kernel
theorem d27_8 : own_D cd27 8 (.aload_n 0) 1 := by decide +kernel
theorem d27_9 : own_D cd27 9 (.getfield 9) 3 := by decide +kernel
theorem d27_12 : own_D cd27 12 (.iconst 0) 1 := by decide +kernel
theorem d27_13 : own_D cd27 13 (.aload_n 1) 1 := by decide +kernel
theorem d27_14 : own_D cd27 14 (.iload_n 2) 1 := by decide +kernel
theorem d27_15 : own_D cd27 15 (.iload_n 3) 1 := by decide +kernel
theorem d27_16 : own_D cd27 16 .ishl 1 := by decide +kernel
theorem d27_17 : own_D cd27 17 (.aload_n 0) 1 := by decide +kernel
theorem d27_18 : own_D cd27 18 (.getfield 9) 3 := by decide +kernel
theorem d27_21 : own_D cd27 21 .arraylength 1 := by decide +kernel
theorem d27_22 : own_D cd27 22 (.invokestatic 212) 3 := by decide +kernel
theorem d27_25 : own_D cd27 25 (.goto 18) 3 := by decide +kernel
theorem d27_43 : own_D cd27 43 .return_ 1 := by decide +kernel
theorem ef14 (m : MethodId) (x0 x1 : Addr) : entryFrame m #[(.ref x0), (.ref x1), (.int 0), (.int 0)] 4 = mkF m 0 #[.val (.ref x0), .val (.ref x1), .val (.int 0), .val (.int 0)] [] := by first | (simp [entryFrame, mkF, argsToLocals, Value.category]; done) | rfl
def Q_own_gb0_9 (Z : State) (a1 vb t1 : Addr) (k1 kb : ClassId) (u0 u1 u2 u3 u4 u5 u6 u7 u8 cs : Int32) (h0 : Heap) (n0 : Nat) (v : Option Value) (h : Heap) (L : List Loc) : Prop := v = none ∧ Fr n0 L ∧ Keep h0 h [vb] ∧ Arv Z h vb kb .byte 16 [.int u0, .int u1, .int u2, .int u3, .int u4, .int u5, .int u6, .int u7, .int u8, .int 0, .int 0, .int 0, .int 0, .int 0, .int 0, .int 0] (.int 0)
theorem own_gb0_9 (l : Launch) (Z : State) (a0 : Array Value) (hw : own_HW a0 Z) (ws : List Jvm.Cond) (a1 vb t1 : Addr) (k1 kb : ClassId) (u0 u1 u2 u3 u4 u5 u6 u7 u8 cs : Int32) (h0 : Heap) (n0 : Nat) (Z0 : n0 ≤ h0.size) (P_E_a1 : Exa Z h0 a1 nn3_) (P_F_a1_value : Fld Z h0 a1 nn3_ "value" "[B" (.ref t1)) (P_F_a1_coder : Fld Z h0 a1 nn3_ "coder" "B" (.int 0)) (P_V_t1 : Arv Z h0 t1 k1 .byte 9 [.int u0, .int u1, .int u2, .int u3, .int u4, .int u5, .int u6, .int u7, .int u8] (.int 0)) (P_V_vb : Arv Z h0 vb kb .byte 16 [.int 0, .int 0, .int 0, .int 0, .int 0, .int 0, .int 0, .int 0, .int 0, .int 0, .int 0, .int 0, .int 0, .int 0, .int 0, .int 0] (.int 0)) (g_vb : n0 ≤ vb) (ne_a1_vb : a1 ≠ vb) (ne_t1_vb : t1 ≠ vb) (P_S_COMPACT_STRINGS : Sta Z h0 nn3_ nn16_ "Z" (.int cs)) (hcs : ¬ (cs = (0 : Int32))) :
    own_MF l own_y27 (Jvm.Cond.code own_y27 jdk_42_method_147_code 4 none) ws R_own_gb0_9 #[.ref a1, .ref vb, .int 0, .int 0] Z h0 (Q_own_gb0_9 Z a1 vb t1 k1 kb u0 u1 u2 u3 u4 u5 u6 u7 u8 cs h0 n0) := by
  refine own_begin (plainFor_of_name own_pn10) (fun m => ef14 m a1 vb) ?_
  intro p e s m below meth c s₁ hx hby hml hown hnm hlk hret hZ X0 e0
  have N0 := Fr.nil n0
  have K0 := Keep.refl h0 [vb]
  refine own_go (B := s₁.setTop (mkF m 1 #[Sr a1, Sr vb, Si 0, Si 0] [.ref a1])) (fun _ k => XS.aloadN X0.here hx rfl (hb hby d27_0) rfl rfl k) ?_
  refine own_cV (own_coder0 l Z a0 hw [] a1 cs h0 n0 (Nat.le_trans Z0 K0.1) P_F_a1_coder P_S_COMPACT_STRINGS hcs) X0 hx hZ hown (hw.w 139 rfl) (hw.w 140 rfl) (notFace_of_selects (args := #[]) (mvT hZ (hw.w 142 rfl))) (hw.w 142 rfl) (hw.w 141 rfl) (hw.w 2 rfl) (hw.w 143 rfl) P_E_a1 e0 rfl rfl (by rw [hml]; rfl) (rest := []) (lenOf own_pd7 rfl) rfl (hb hby d27_1) (W := 0) (show 2 * 0 + _ = _ from rfl) (by decide) (by decide) ?_
  rintro _ T1 L1 X1 ⟨rfl, N1q, e1⟩
  have N1 := Fr.app N0 N1q
  refine own_go (B := T1.setTop (mkF m 5 #[Sr a1, Sr vb, Si 0, Si 0] [.int 0, .int 0])) (fun _ k => XS.iloadN X1.here hx rfl (hb hby d27_4) rfl  k) ?_
  have hc2 : (0 : Int32) = (0 : Int32) := by decide
  refine own_go (B := T1.setTop (mkF m 9 #[Sr a1, Sr vb, Si 0, Si 0] [.ref a1])) (fun _ k => XS.icmpNo X1.here hx rfl (hb hby d27_5) rfl (teq hc2).2 (XS.aloadN X1.here hx rfl (hb hby d27_8) rfl rfl k)) ?_
  refine own_gF X1 hx hZ hown (hw.w 28 rfl) Via.refl e1 P_F_a1_value rfl rfl (hb hby d27_9) fun T3 X3 e3 => ?_
  refine own_go (B := T3.setTop (mkF m 17 #[Sr a1, Sr vb, Si 0, Si 0] [(.int ((0 : Int32) <<< ((0 : Int32) &&& 31))), .ref vb, .int 0, .ref t1])) (fun _ k => XS.iconst X3.here hx rfl (hb hby d27_12) (XS.aloadN X3.here hx rfl (hb hby d27_13) rfl rfl (XS.iloadN X3.here hx rfl (hb hby d27_14) rfl (XS.iloadN X3.here hx rfl (hb hby d27_15) rfl (XS.ishl X3.here hx rfl (hb hby d27_16) rfl k))))) ?_
  rw [show ((0 : Int32) <<< ((0 : Int32) &&& 31)) = (0 : Int32) from by decide]
  show own_Fin _ _ _ _ _ _ _ (T3.setTop (mkF m 17 #[Sr a1, Sr vb, Si 0, Si 0] [.int 0, .ref vb, .int 0, .ref t1]))
  refine own_go (B := T3.setTop (mkF m 18 #[Sr a1, Sr vb, Si 0, Si 0] [.ref a1, .int 0, .ref vb, .int 0, .ref t1])) (fun _ k => XS.aloadN X3.here hx rfl (hb hby d27_17) rfl rfl k) ?_
  refine own_gF X3 hx hZ hown (hw.w 28 rfl) Via.refl e3 P_F_a1_value rfl rfl (hb hby d27_18) fun T4 X4 e4 => ?_
  refine own_go (B := T4.setTop (mkF m 21 #[Sr a1, Sr vb, Si 0, Si 0] [.ref t1, .int 0, .ref vb, .int 0, .ref t1])) (fun _ k => k) ?_
  obtain ⟨cl5, Ar5, q5, S5, N5n, H5, G5⟩ := id P_V_t1
  refine own_go (fun _ k => X4.arraylength hx (own_hc e4 Ar5.1) (State.isArrayOf_alike hZ.alike Ar5.2.1) (g := (mkF m 21 #[Sr a1, Sr vb, Si 0, Si 0] [.ref t1, .int 0, .ref vb, .int 0, .ref t1])) rfl rfl (hb hby d27_21) _ k) ?_
  rw [len_of S5 N5n]
  show own_Fin _ _ _ _ _ _ _ (T4.setTop (mkF m 22 #[Sr a1, Sr vb, Si 0, Si 0] [.int 9, .int 0, .ref vb, .int 0, .ref t1]))
  obtain ⟨T6, h6, L6, X6, e6, N6, Kc6, Vc6, st6⟩ := cpA X4 hx hZ hown (hw.w 167 rfl) (hw.w 170 rfl) (hw.w 168 rfl) (hw.w 169 rfl) e4 P_V_t1 P_V_vb (us := [.int u0, .int u1, .int u2, .int u3, .int u4, .int u5, .int u6, .int u7, .int u8]) (Or.inl ⟨rfl, rfl⟩) (by decide) (by decide) (by decide) (by decide) (by decide) rfl (Nat.le_of_ble_eq_true rfl) N1 g_vb (g := (mkF m 22 #[Sr a1, Sr vb, Si 0, Si 0] [.int 9, .int 0, .ref vb, .int 0, .ref t1])) rfl (by rw [hml]; rfl) rfl (hb hby d27_22) (by decide) (W := 0) (by show 2 * 0 + _ ≤ _; exact Nat.le_of_eq rfl) (by decide)
  have V_vb_6 : Arv Z h6 vb kb .byte 16 [.int u0, .int u1, .int u2, .int u3, .int u4, .int u5, .int u6, .int u7, .int u8, .int 0, .int 0, .int 0, .int 0, .int 0, .int 0, .int 0] (.int 0) := Vc6
  have K14 : Keep h0 h6 [vb] := K0.trans Kc6 (allS (Or.inl (List.mem_of_getElem? (i := 0) rfl)) all0)
  refine own_go (B := T6.setTop (mkF m 43 #[Sr a1, Sr vb, Si 0, Si 0] [])) (fun _ k => st6 _ (XS.goto X6.here hx rfl (pc0 := 25) (pc' := 43) rfl (hb hby d27_25) (by decide) (by decide) k)) ?_
  exact own_retV X6 hx hlk hret (hb hby d27_43) e6 ⟨rfl, N6, K14, V_vb_6⟩ (by decide) (by decide)
abbrev R_own_ens0_9 : Room := ⟨0, 0, 0, 0⟩
theorem d24_0 : own_D cd24 0 (.aload_n 0) 1 := by decide +kernel
theorem d24_1 : own_D cd24 1 (.getfield 15) 3 := by decide +kernel
theorem d24_4 : own_D cd24 4 .arraylength 1 := by decide +kernel
theorem d24_5 : own_D cd24 5 (.aload_n 0) 1 := by decide +kernel
theorem d24_6 : own_D cd24 6 (.getfield 22) 3 := by decide +kernel
theorem d24_9 : own_D cd24 9 .ishr 1 := by decide +kernel
theorem d24_10 : own_D cd24 10 (.istore_n 2) 1 := by decide +kernel
theorem d24_11 : own_D cd24 11 (.iload_n 1) 1 := by decide +kernel
theorem d24_12 : own_D cd24 12 (.iload_n 2) 1 := by decide +kernel
theorem d24_13 : own_D cd24 13 .isub 1 := by decide +kernel
theorem d24_14 : own_D cd24 14 (.ifCond .le 24) 3 := by decide +kernel
theorem d24_38 : own_D cd24 38 .return_ 1 := by decide +kernel
theorem ef15 (m : MethodId) (x0 : Addr) : entryFrame m #[(.ref x0), (.int 9)] 3 = mkF m 0 #[.val (.ref x0), .val (.int 9), .unset] [] := by first | (simp [entryFrame, mkF, argsToLocals, Value.category]; done) | rfl
def Q_own_ens0_9 (Z : State) (a1 vb : Addr) (kb : ClassId) (h0 : Heap) (n0 : Nat) (v : Option Value) (h : Heap) (L : List Loc) : Prop := v = none ∧ Fr n0 L ∧ h = h0
theorem own_ens0_9 (l : Launch) (Z : State) (a0 : Array Value) (hw : own_HW a0 Z) (ws : List Jvm.Cond) (a1 vb : Addr) (kb : ClassId) (h0 : Heap) (n0 : Nat) (Z0 : n0 ≤ h0.size) (P_E_a1 : Exa Z h0 a1 nn5_) (P_F_a1_value : Fld Z h0 a1 nn10_ "value" "[B" (.ref vb)) (P_F_a1_coder : Fld Z h0 a1 nn10_ "coder" "B" (.int 0)) (P_F_a1_count : Fld Z h0 a1 nn10_ "count" "I" (.int 0)) (P_V_vb : Arv Z h0 vb kb .byte 16 [.int 0, .int 0, .int 0, .int 0, .int 0, .int 0, .int 0, .int 0, .int 0, .int 0, .int 0, .int 0, .int 0, .int 0, .int 0, .int 0] (.int 0)) :
    own_MF l own_y28 (Jvm.Cond.code own_y28 jdk_68_method_9_code 3 none) ws R_own_ens0_9 #[.ref a1, .int 9] Z h0 (Q_own_ens0_9 Z a1 vb kb h0 n0) := by
  refine own_begin (plainFor_of_name own_pn13) (fun m => ef15 m a1) ?_
  intro p e s m below meth c s₁ hx hby hml hown hnm hlk hret hZ X0 e0
  have N0 := Fr.nil n0
  have K0 := Keep.refl h0 []
  refine own_go (B := s₁.setTop (mkF m 1 #[Sr a1, Si 9, Su] [.ref a1])) (fun _ k => XS.aloadN X0.here hx rfl (hb hby d24_0) rfl rfl k) ?_
  refine own_gF X0 hx hZ hown (hw.w 119 rfl) Via.refl e0 P_F_a1_value rfl rfl (hb hby d24_1) fun T1 X1 e1 => ?_
  refine own_go (B := T1.setTop (mkF m 4 #[Sr a1, Si 9, Su] [.ref vb])) (fun _ k => k) ?_
  obtain ⟨cl2, Ar2, q2, S2, N2n, H2, G2⟩ := id P_V_vb
  refine own_go (fun _ k => X1.arraylength hx (own_hc e1 Ar2.1) (State.isArrayOf_alike hZ.alike Ar2.2.1) (g := (mkF m 4 #[Sr a1, Si 9, Su] [.ref vb])) rfl rfl (hb hby d24_4) _ k) ?_
  rw [len_of S2 N2n]
  show own_Fin _ _ _ _ _ _ _ (T1.setTop (mkF m 5 #[Sr a1, Si 9, Su] [.int 16]))
  refine own_go (B := T1.setTop (mkF m 6 #[Sr a1, Si 9, Su] [.ref a1, .int 16])) (fun _ k => XS.aloadN X1.here hx rfl (hb hby d24_5) rfl rfl k) ?_
  refine own_gF X1 hx hZ hown (hw.w 121 rfl) Via.refl e1 P_F_a1_coder rfl rfl (hb hby d24_6) fun T3 X3 e3 => ?_
  refine own_go (B := T3.setTop (mkF m 10 #[Sr a1, Si 9, Su] [(.int ((16 : Int32) >>> ((0 : Int32) &&& 31)))])) (fun _ k => XS.ishr X3.here hx rfl (hb hby d24_9) rfl k) ?_
  rw [show ((16 : Int32) >>> ((0 : Int32) &&& 31)) = (16 : Int32) from by decide]
  show own_Fin _ _ _ _ _ _ _ (T3.setTop (mkF m 10 #[Sr a1, Si 9, Su] [.int 16]))
  refine own_go (B := T3.setTop (mkF m 14 #[Sr a1, Si 9, Si 16] [(.int ((9 : Int32) - (16 : Int32)))])) (fun _ k => XS.istoreN X3.here hx rfl (hb hby d24_10) rfl (l' := #[Sr a1, Si 9, Si 16]) rfl (XS.iloadN X3.here hx rfl (hb hby d24_11) rfl (XS.iloadN X3.here hx rfl (hb hby d24_12) rfl (XS.isub X3.here hx rfl (hb hby d24_13) rfl k)))) ?_
  rw [show ((9 : Int32) - (16 : Int32)) = (-7 : Int32) from by decide]
  show own_Fin _ _ _ _ _ _ _ (T3.setTop (mkF m 14 #[Sr a1, Si 9, Si 16] [(.int (-7))]))
  have hc4 : ¬ ((0 : Int32) < (-7 : Int32)) := by decide
  refine own_go (B := T3.setTop (mkF m 38 #[Sr a1, Si 9, Si 16] [])) (fun _ k => XS.ifYes X3.here hx rfl (pc0 := 14) (pc' := 38) rfl (hb hby d24_14) rfl ((if0 _ _).trans (flt hc4).2.2.2) (by decide) (by decide) k) ?_
  exact own_retV X3 hx hlk hret (hb hby d24_38) e3 ⟨rfl, N0, rfl⟩ (by decide) (by decide)
abbrev R_own_put0_9 : Room := ⟨2, 0, 0, 33⟩
theorem d25_0 : own_D cd25 0 (.aload_n 0) 1 := by decide +kernel
theorem d25_1 : own_D cd25 1 (.aload_n 2) 1 := by decide +kernel
theorem d25_2 : own_D cd25 2 (.invokevirtual 397) 3 := by decide +kernel
theorem d25_5 : own_D cd25 5 (.aload_n 2) 1 := by decide +kernel
theorem d25_6 : own_D cd25 6 (.aload_n 0) 1 := by decide +kernel
theorem d25_7 : own_D cd25 7 (.getfield 15) 3 := by decide +kernel
theorem d25_10 : own_D cd25 10 (.iload_n 1) 1 := by decide +kernel
theorem d25_11 : own_D cd25 11 (.aload_n 0) 1 := by decide +kernel
theorem d25_12 : own_D cd25 12 (.getfield 22) 3 := by decide +kernel
theorem d25_15 : own_D cd25 15 (.invokevirtual 399) 3 := by decide +kernel
theorem d25_18 : own_D cd25 18 .return_ 1 := by decide +kernel
theorem ef16 (m : MethodId) (x0 x2 : Addr) : entryFrame m #[(.ref x0), (.int 0), (.ref x2)] 3 = mkF m 0 #[.val (.ref x0), .val (.int 0), .val (.ref x2)] [] := by first | (simp [entryFrame, mkF, argsToLocals, Value.category]; done) | rfl
def Q_own_put0_9 (Z : State) (a1 a2 vb t2 : Addr) (k2 kb : ClassId) (u0 u1 u2 u3 u4 u5 u6 u7 u8 cs : Int32) (h0 : Heap) (n0 : Nat) (v : Option Value) (h : Heap) (L : List Loc) : Prop := v = none ∧ Fr n0 L ∧ Keep h0 h [vb] ∧ Arv Z h vb kb .byte 16 [.int u0, .int u1, .int u2, .int u3, .int u4, .int u5, .int u6, .int u7, .int u8, .int 0, .int 0, .int 0, .int 0, .int 0, .int 0, .int 0] (.int 0)
theorem own_put0_9 (l : Launch) (Z : State) (a0 : Array Value) (hw : own_HW a0 Z) (ws : List Jvm.Cond) (a1 a2 vb t2 : Addr) (k2 kb : ClassId) (u0 u1 u2 u3 u4 u5 u6 u7 u8 cs : Int32) (h0 : Heap) (n0 : Nat) (Z0 : n0 ≤ h0.size) (P_E_a1 : Exa Z h0 a1 nn5_) (P_F_a1_value : Fld Z h0 a1 nn10_ "value" "[B" (.ref vb)) (P_F_a1_coder : Fld Z h0 a1 nn10_ "coder" "B" (.int 0)) (P_F_a1_count : Fld Z h0 a1 nn10_ "count" "I" (.int 0)) (P_E_a2 : Exa Z h0 a2 nn3_) (P_F_a2_value : Fld Z h0 a2 nn3_ "value" "[B" (.ref t2)) (P_F_a2_coder : Fld Z h0 a2 nn3_ "coder" "B" (.int 0)) (P_V_t2 : Arv Z h0 t2 k2 .byte 9 [.int u0, .int u1, .int u2, .int u3, .int u4, .int u5, .int u6, .int u7, .int u8] (.int 0)) (P_V_vb : Arv Z h0 vb kb .byte 16 [.int 0, .int 0, .int 0, .int 0, .int 0, .int 0, .int 0, .int 0, .int 0, .int 0, .int 0, .int 0, .int 0, .int 0, .int 0, .int 0] (.int 0)) (g_vb : n0 ≤ vb) (ne_a1_vb : a1 ≠ vb) (ne_a2_vb : a2 ≠ vb) (ne_t2_vb : t2 ≠ vb) (P_S_COMPACT_STRINGS : Sta Z h0 nn3_ nn16_ "Z" (.int cs)) (hcs : ¬ (cs = (0 : Int32))) :
    own_MF l own_y29 (Jvm.Cond.code own_y29 jdk_68_method_73_code 3 none) ws R_own_put0_9 #[.ref a1, .int 0, .ref a2] Z h0 (Q_own_put0_9 Z a1 a2 vb t2 k2 kb u0 u1 u2 u3 u4 u5 u6 u7 u8 cs h0 n0) := by
  refine own_begin (plainFor_of_name own_pn13) (fun m => ef16 m a1 a2) ?_
  intro p e s m below meth c s₁ hx hby hml hown hnm hlk hret hZ X0 e0
  have N0 := Fr.nil n0
  have K0 := Keep.refl h0 [vb]
  refine own_go (B := s₁.setTop (mkF m 2 #[Sr a1, Si 0, Sr a2] [.ref a2, .ref a1])) (fun _ k => XS.aloadN X0.here hx rfl (hb hby d25_0) rfl rfl (XS.aloadN X0.here hx rfl (hb hby d25_1) rfl rfl k)) ?_
  refine own_cP (own_rm26 l Z a0 hw [] a1 a2 cs h0 n0 (Nat.le_trans Z0 K0.1) P_F_a1_coder P_E_a2 P_F_a2_coder P_S_COMPACT_STRINGS hcs) X0 hx hZ hown (hw.w 156 rfl) (hw.w 157 rfl) (hw.w 159 rfl) (hw.w 115 rfl) (hw.w 160 rfl) P_E_a1 e0 rfl rfl (by rw [hml]; rfl) (rest := []) (lenOf own_pd12 rfl) rfl (hb hby d25_2) (W := 0) (show 2 * 0 + _ = _ from rfl) (by decide) (by decide) ?_
  rintro _ T1 L1 X1 ⟨rfl, N1q, e1⟩
  have N1 := Fr.app N0 N1q
  refine own_go (B := T1.setTop (mkF m 7 #[Sr a1, Si 0, Sr a2] [.ref a1, .ref a2])) (fun _ k => XS.aloadN X1.here hx rfl (hb hby d25_5) rfl rfl (XS.aloadN X1.here hx rfl (hb hby d25_6) rfl rfl k)) ?_
  refine own_gF X1 hx hZ hown (hw.w 119 rfl) Via.refl e1 P_F_a1_value rfl rfl (hb hby d25_7) fun T2 X2 e2 => ?_
  refine own_go (B := T2.setTop (mkF m 12 #[Sr a1, Si 0, Sr a2] [.ref a1, .int 0, .ref vb, .ref a2])) (fun _ k => XS.iloadN X2.here hx rfl (hb hby d25_10) rfl (XS.aloadN X2.here hx rfl (hb hby d25_11) rfl rfl k)) ?_
  refine own_gF X2 hx hZ hown (hw.w 121 rfl) Via.refl e2 P_F_a1_coder rfl rfl (hb hby d25_12) fun T3 X3 e3 => ?_
  refine own_go (B := T3.setTop (mkF m 15 #[Sr a1, Si 0, Sr a2] [.int 0, .int 0, .ref vb, .ref a2])) (fun _ k => k) ?_
  refine own_cV (own_gb0_9 l Z a0 hw [] a2 vb t2 k2 kb u0 u1 u2 u3 u4 u5 u6 u7 u8 cs h0 n0 (Nat.le_trans Z0 K0.1) P_E_a2 P_F_a2_value P_F_a2_coder P_V_t2 P_V_vb g_vb ne_a2_vb ne_t2_vb P_S_COMPACT_STRINGS hcs) X3 hx hZ hown (hw.w 162 rfl) (hw.w 163 rfl) (notFace_of_selects (args := #[]) (mvT hZ (hw.w 165 rfl))) (hw.w 165 rfl) (hw.w 164 rfl) (hw.w 2 rfl) (hw.w 166 rfl) P_E_a2 e3 rfl rfl (by rw [hml]; rfl) (rest := []) (lenOf own_pd13 rfl) rfl (hb hby d25_15) (W := 0) (show 2 * 0 + _ = _ from rfl) (by decide) (by decide) ?_
  rintro _ T4 L4 X4 ⟨rfl, N4q, K4q, Q4_0⟩
  have N4 := Fr.app N1 N4q
  have K16 : Keep h0 T4.heap [vb] := K0.trans K4q (allS (Or.inl (List.mem_of_getElem? (i := 0) rfl)) all0)
  refine own_go (B := T4.setTop (mkF m 18 #[Sr a1, Si 0, Sr a2] [])) (fun _ k => k) ?_
  exact own_retV X4 hx hlk hret (hb hby d25_18) rfl ⟨rfl, N4, K16, Q4_0⟩ (by decide) (by decide)
abbrev R_own_apA0_9 : Room := ⟨3, 0, 0, 47⟩
theorem d21_0 : own_D cd21 0 (.aload_n 1) 1 := by decide +kernel
theorem d21_1 : own_D cd21 1 (.ifnonnull 8) 3 := by decide +kernel
theorem d21_9 : own_D cd21 9 (.aload_n 1) 1 := by decide +kernel
theorem d21_10 : own_D cd21 10 (.invokevirtual 32) 3 := by decide +kernel
theorem d21_13 : own_D cd21 13 (.istore_n 2) 1 := by decide +kernel
theorem d21_14 : own_D cd21 14 (.aload_n 0) 1 := by decide +kernel
theorem d21_15 : own_D cd21 15 (.aload_n 0) 1 := by decide +kernel
theorem d21_16 : own_D cd21 16 (.getfield 79) 3 := by decide +kernel
theorem d21_19 : own_D cd21 19 (.iload_n 2) 1 := by decide +kernel
theorem d21_20 : own_D cd21 20 .iadd 1 := by decide +kernel
theorem d21_21 : own_D cd21 21 (.invokevirtual 100) 3 := by decide +kernel
theorem d21_24 : own_D cd21 24 (.aload_n 0) 1 := by decide +kernel
theorem d21_25 : own_D cd21 25 (.aload_n 0) 1 := by decide +kernel
theorem d21_26 : own_D cd21 26 (.getfield 79) 3 := by decide +kernel
theorem d21_29 : own_D cd21 29 (.aload_n 1) 1 := by decide +kernel
theorem d21_30 : own_D cd21 30 (.invokevirtual 208) 3 := by decide +kernel
theorem d21_33 : own_D cd21 33 (.aload_n 0) 1 := by decide +kernel
theorem d21_34 : own_D cd21 34 .dup 1 := by decide +kernel
theorem d21_35 : own_D cd21 35 (.getfield 79) 3 := by decide +kernel
theorem d21_38 : own_D cd21 38 (.iload_n 2) 1 := by decide +kernel
theorem d21_39 : own_D cd21 39 .iadd 1 := by decide +kernel
theorem d21_40 : own_D cd21 40 (.putfield 79) 3 := by decide +kernel
theorem d21_43 : own_D cd21 43 (.aload_n 0) 1 := by decide +kernel
theorem d21_44 : own_D cd21 44 .areturn 1 := by decide +kernel
def Q_own_apA0_9 (Z : State) (a1 a2 vb t2 : Addr) (k2 kb : ClassId) (u0 u1 u2 u3 u4 u5 u6 u7 u8 cs : Int32) (h0 : Heap) (n0 : Nat) (v : Option Value) (h : Heap) (L : List Loc) : Prop := v = some (.ref a1) ∧ Fr n0 L ∧ Keep h0 h [a1, vb] ∧ Exa Z h a1 nn5_ ∧ Fld Z h a1 nn10_ "value" "[B" (.ref vb) ∧ Fld Z h a1 nn10_ "coder" "B" (.int 0) ∧ Fld Z h a1 nn10_ "count" "I" (.int 9) ∧ Arv Z h vb kb .byte 16 [.int u0, .int u1, .int u2, .int u3, .int u4, .int u5, .int u6, .int u7, .int u8, .int 0, .int 0, .int 0, .int 0, .int 0, .int 0, .int 0] (.int 0)
theorem own_apA0_9 (l : Launch) (Z : State) (a0 : Array Value) (hw : own_HW a0 Z) (ws : List Jvm.Cond) (a1 a2 vb t2 : Addr) (k2 kb : ClassId) (u0 u1 u2 u3 u4 u5 u6 u7 u8 cs : Int32) (h0 : Heap) (n0 : Nat) (Z0 : n0 ≤ h0.size) (P_E_a1 : Exa Z h0 a1 nn5_) (P_F_a1_value : Fld Z h0 a1 nn10_ "value" "[B" (.ref vb)) (P_F_a1_coder : Fld Z h0 a1 nn10_ "coder" "B" (.int 0)) (P_F_a1_count : Fld Z h0 a1 nn10_ "count" "I" (.int 0)) (P_E_a2 : Exa Z h0 a2 nn3_) (P_F_a2_value : Fld Z h0 a2 nn3_ "value" "[B" (.ref t2)) (P_F_a2_coder : Fld Z h0 a2 nn3_ "coder" "B" (.int 0)) (P_V_t2 : Arv Z h0 t2 k2 .byte 9 [.int u0, .int u1, .int u2, .int u3, .int u4, .int u5, .int u6, .int u7, .int u8] (.int 0)) (P_V_vb : Arv Z h0 vb kb .byte 16 [.int 0, .int 0, .int 0, .int 0, .int 0, .int 0, .int 0, .int 0, .int 0, .int 0, .int 0, .int 0, .int 0, .int 0, .int 0, .int 0] (.int 0)) (g_vb : n0 ≤ vb) (ne_a1_vb : a1 ≠ vb) (ne_a2_vb : a2 ≠ vb) (ne_t2_vb : t2 ≠ vb) (P_S_COMPACT_STRINGS : Sta Z h0 nn3_ nn16_ "Z" (.int cs)) (hcs : ¬ (cs = (0 : Int32))) (ne_a2_a1 : a2 ≠ a1) (ne_t2_a1 : t2 ≠ a1) (g_a1 : n0 ≤ a1) :
    own_MF l own_y30 (Jvm.Cond.code own_y30 jdk_68_method_22_code 3 (some (.object "java/lang/AbstractStringBuilder"))) ws R_own_apA0_9 #[.ref a1, .ref a2] Z h0 (Q_own_apA0_9 Z a1 a2 vb t2 k2 kb u0 u1 u2 u3 u4 u5 u6 u7 u8 cs h0 n0) := by
  refine own_begin (plainFor_of_name own_pn13) (fun m => ef10 m a1 a2) ?_
  intro p e s m below meth c s₁ hx hby hml hown hnm hlk hret hZ X0 e0
  have N0 := Fr.nil n0
  have K0 := Keep.refl h0 [a1, vb]
  refine own_go (B := s₁.setTop (mkF m 10 #[Sr a1, Sr a2, Su] [.ref a2])) (fun _ k => XS.aloadN X0.here hx rfl (hb hby d21_0) rfl rfl (XS.ifnonnullYes X0.here hx rfl (pc0 := 1) (pc' := 9) rfl (hb hby d21_1) rfl (by decide) (by decide) (XS.aloadN X0.here hx rfl (hb hby d21_9) rfl rfl k))) ?_
  refine own_cV (own_len9_0 l Z a0 hw [] a2 t2 k2 u0 u1 u2 u3 u4 u5 u6 u7 u8 cs h0 n0 (Nat.le_trans Z0 K0.1) P_E_a2 P_F_a2_value P_F_a2_coder P_V_t2 P_S_COMPACT_STRINGS hcs) X0 hx hZ hown (hw.w 134 rfl) (hw.w 135 rfl) (notFace_of_selects (args := #[]) (mvT hZ (hw.w 137 rfl))) (hw.w 137 rfl) (hw.w 136 rfl) (hw.w 2 rfl) (hw.w 138 rfl) P_E_a2 e0 rfl rfl (by rw [hml]; rfl) (rest := []) (lenOf own_pd14 rfl) rfl (hb hby d21_10) (W := 0) (show 2 * 0 + _ = _ from rfl) (by decide) (by decide) ?_
  rintro _ T1 L1 X1 ⟨rfl, N1q, e1⟩
  have N1 := Fr.app N0 N1q
  refine own_go (B := T1.setTop (mkF m 16 #[Sr a1, Sr a2, Si 9] [.ref a1, .ref a1])) (fun _ k => XS.istoreN X1.here hx rfl (hb hby d21_13) rfl (l' := #[Sr a1, Sr a2, Si 9]) rfl (XS.aloadN X1.here hx rfl (hb hby d21_14) rfl rfl (XS.aloadN X1.here hx rfl (hb hby d21_15) rfl rfl k))) ?_
  refine own_gF X1 hx hZ hown (hw.w 144 rfl) Via.refl e1 P_F_a1_count rfl rfl (hb hby d21_16) fun T2 X2 e2 => ?_
  refine own_go (B := T2.setTop (mkF m 21 #[Sr a1, Sr a2, Si 9] [(.int ((0 : Int32) + (9 : Int32))), .ref a1])) (fun _ k => XS.iloadN X2.here hx rfl (hb hby d21_19) rfl (XS.iadd X2.here hx rfl (hb hby d21_20) rfl k)) ?_
  rw [show ((0 : Int32) + (9 : Int32)) = (9 : Int32) from by decide]
  show own_Fin _ _ _ _ _ _ _ (T2.setTop (mkF m 21 #[Sr a1, Sr a2, Si 9] [.int 9, .ref a1]))
  refine own_cP (own_ens0_9 l Z a0 hw [] a1 vb kb h0 n0 (Nat.le_trans Z0 K0.1) P_E_a1 P_F_a1_value P_F_a1_coder P_F_a1_count P_V_vb) X2 hx hZ hown (hw.w 146 rfl) (hw.w 147 rfl) (hw.w 149 rfl) (hw.w 115 rfl) (hw.w 150 rfl) P_E_a1 e2 rfl rfl (by rw [hml]; rfl) (rest := []) (lenOf own_pd11 rfl) rfl (hb hby d21_21) (W := 0) (show 2 * 0 + _ = _ from rfl) (by decide) (by decide) ?_
  rintro _ T3 L3 X3 ⟨rfl, N3q, e3⟩
  have N3 := Fr.app N1 N3q
  refine own_go (B := T3.setTop (mkF m 26 #[Sr a1, Sr a2, Si 9] [.ref a1, .ref a1])) (fun _ k => XS.aloadN X3.here hx rfl (hb hby d21_24) rfl rfl (XS.aloadN X3.here hx rfl (hb hby d21_25) rfl rfl k)) ?_
  refine own_gF X3 hx hZ hown (hw.w 144 rfl) Via.refl e3 P_F_a1_count rfl rfl (hb hby d21_26) fun T4 X4 e4 => ?_
  refine own_go (B := T4.setTop (mkF m 30 #[Sr a1, Sr a2, Si 9] [.ref a2, .int 0, .ref a1])) (fun _ k => XS.aloadN X4.here hx rfl (hb hby d21_29) rfl rfl k) ?_
  refine own_cP (own_put0_9 l Z a0 hw [] a1 a2 vb t2 k2 kb u0 u1 u2 u3 u4 u5 u6 u7 u8 cs h0 n0 (Nat.le_trans Z0 K0.1) P_E_a1 P_F_a1_value P_F_a1_coder P_F_a1_count P_E_a2 P_F_a2_value P_F_a2_coder P_V_t2 P_V_vb g_vb ne_a1_vb ne_a2_vb ne_t2_vb P_S_COMPACT_STRINGS hcs) X4 hx hZ hown (hw.w 151 rfl) (hw.w 152 rfl) (hw.w 154 rfl) (hw.w 115 rfl) (hw.w 155 rfl) P_E_a1 e4 rfl rfl (by rw [hml]; rfl) (rest := []) (lenOf own_pd15 rfl) rfl (hb hby d21_30) (W := 0) (show 2 * 0 + _ = _ from rfl) (by decide) (by decide) ?_
  rintro _ T5 L5 X5 ⟨rfl, N5q, K5q, Q5_0⟩
  have N5 := Fr.app N3 N5q
  have E_7 := P_E_a1.keep K5q
  have F_8 := P_F_a1_value.keep K5q (ninS ne_a1_vb nin0)
  have F_9 := P_F_a1_coder.keep K5q (ninS ne_a1_vb nin0)
  have F_10 := P_F_a1_count.keep K5q (ninS ne_a1_vb nin0)
  have K17 : Keep h0 T5.heap [a1, vb] := K0.trans K5q (allS (Or.inl (List.mem_of_getElem? (i := 1) rfl)) all0)
  refine own_go (B := T5.setTop (mkF m 35 #[Sr a1, Sr a2, Si 9] [.ref a1, .ref a1])) (fun _ k => XS.aloadN X5.here hx rfl (hb hby d21_33) rfl rfl (XS.dup X5.here hx rfl (hb hby d21_34) rfl rfl k)) ?_
  refine own_gF X5 hx hZ hown (hw.w 144 rfl) Via.refl rfl F_10 rfl rfl (hb hby d21_35) fun T18 X18 e18 => ?_
  refine own_go (B := T18.setTop (mkF m 40 #[Sr a1, Sr a2, Si 9] [(.int ((0 : Int32) + (9 : Int32))), .ref a1])) (fun _ k => XS.iloadN X18.here hx rfl (hb hby d21_38) rfl (XS.iadd X18.here hx rfl (hb hby d21_39) rfl k)) ?_
  rw [show ((0 : Int32) + (9 : Int32)) = (9 : Int32) from by decide]
  show own_Fin _ _ _ _ _ _ _ (T18.setTop (mkF m 40 #[Sr a1, Sr a2, Si 9] [.int 9, .ref a1]))
  refine own_pF X18 hx hZ hown (hw.w 144 rfl) Via.refl e18 F_10 E_7 (Or.inl (hw.w 145 rfl)) (hw.w 106 rfl) (ty := .int) (v := (.int 9)) (by decide) rfl rfl rfl rfl (hb hby d21_40) fun T19 h19 X19 e19 W19 => ?_
  have F_w19 : Fld Z h19 a1 nn10_ "count" "I" (.int 9) := F_10.same W19
  have E_21 := E_7.wr W19
  have F_22 := F_8.other W19 (Or.inr (slot_ne (Or.inl (hw.w 120 rfl)) (Or.inl (hw.w 145 rfl)) (by decide) (t := (.array .byte)) (t' := .int) (by decide) (by decide)))
  have F_23 := F_9.other W19 (Or.inr (slot_ne (Or.inl (hw.w 122 rfl)) (Or.inl (hw.w 145 rfl)) (by decide) (t := .byte) (t' := .int) (by decide) (by decide)))
  have V_30 := Q5_0.other W19 (Ne.symm ne_a1_vb)
  have K31 : Keep h0 h19 [a1, vb] := K17.wr W19 (Or.inl (List.mem_of_getElem? (i := 0) rfl))
  have N19 := Fr.snoc X19 N5 g_a1
  refine own_go (B := T19.setTop (mkF m 44 #[Sr a1, Sr a2, Si 9] [.ref a1])) (fun _ k => XS.aloadN X19.here hx rfl (hb hby d21_43) rfl rfl k) ?_
  exact own_retA X19 hx hlk hret rfl rfl (hb hby d21_44) e19 ⟨rfl, N19, K31, E_21, F_22, F_23, F_w19, V_30⟩ (by decide) (by decide)
abbrev R_own_ap0_9 : Room := ⟨4, 0, 0, 61⟩
theorem d20_0 : own_D cd20 0 (.aload_n 0) 1 := by decide +kernel
theorem d20_1 : own_D cd20 1 (.aload_n 1) 1 := by decide +kernel
theorem d20_2 : own_D cd20 2 (.invokespecial 29) 3 := by decide +kernel
theorem d20_5 : own_D cd20 5 .pop 1 := by decide +kernel
theorem d20_6 : own_D cd20 6 (.aload_n 0) 1 := by decide +kernel
theorem d20_7 : own_D cd20 7 .areturn 1 := by decide +kernel
def Q_own_ap0_9 (Z : State) (a1 a2 vb t2 : Addr) (k2 kb : ClassId) (u0 u1 u2 u3 u4 u5 u6 u7 u8 cs : Int32) (h0 : Heap) (n0 : Nat) (v : Option Value) (h : Heap) (L : List Loc) : Prop := v = some (.ref a1) ∧ Fr n0 L ∧ Keep h0 h [a1, vb] ∧ Exa Z h a1 nn5_ ∧ Fld Z h a1 nn10_ "value" "[B" (.ref vb) ∧ Fld Z h a1 nn10_ "coder" "B" (.int 0) ∧ Fld Z h a1 nn10_ "count" "I" (.int 9) ∧ Arv Z h vb kb .byte 16 [.int u0, .int u1, .int u2, .int u3, .int u4, .int u5, .int u6, .int u7, .int u8, .int 0, .int 0, .int 0, .int 0, .int 0, .int 0, .int 0] (.int 0)
theorem own_ap0_9 (l : Launch) (Z : State) (a0 : Array Value) (hw : own_HW a0 Z) (ws : List Jvm.Cond) (a1 a2 vb t2 : Addr) (k2 kb : ClassId) (u0 u1 u2 u3 u4 u5 u6 u7 u8 cs : Int32) (h0 : Heap) (n0 : Nat) (Z0 : n0 ≤ h0.size) (P_E_a1 : Exa Z h0 a1 nn5_) (P_F_a1_value : Fld Z h0 a1 nn10_ "value" "[B" (.ref vb)) (P_F_a1_coder : Fld Z h0 a1 nn10_ "coder" "B" (.int 0)) (P_F_a1_count : Fld Z h0 a1 nn10_ "count" "I" (.int 0)) (P_E_a2 : Exa Z h0 a2 nn3_) (P_F_a2_value : Fld Z h0 a2 nn3_ "value" "[B" (.ref t2)) (P_F_a2_coder : Fld Z h0 a2 nn3_ "coder" "B" (.int 0)) (P_V_t2 : Arv Z h0 t2 k2 .byte 9 [.int u0, .int u1, .int u2, .int u3, .int u4, .int u5, .int u6, .int u7, .int u8] (.int 0)) (P_V_vb : Arv Z h0 vb kb .byte 16 [.int 0, .int 0, .int 0, .int 0, .int 0, .int 0, .int 0, .int 0, .int 0, .int 0, .int 0, .int 0, .int 0, .int 0, .int 0, .int 0] (.int 0)) (g_vb : n0 ≤ vb) (ne_a1_vb : a1 ≠ vb) (ne_a2_vb : a2 ≠ vb) (ne_t2_vb : t2 ≠ vb) (P_S_COMPACT_STRINGS : Sta Z h0 nn3_ nn16_ "Z" (.int cs)) (hcs : ¬ (cs = (0 : Int32))) (ne_a2_a1 : a2 ≠ a1) (ne_t2_a1 : t2 ≠ a1) (g_a1 : n0 ≤ a1) :
    own_MF l own_y31 (Jvm.Cond.code own_y31 jdk_67_method_7_code 2 (some (.object "java/lang/StringBuilder"))) ws R_own_ap0_9 #[.ref a1, .ref a2] Z h0 (Q_own_ap0_9 Z a1 a2 vb t2 k2 kb u0 u1 u2 u3 u4 u5 u6 u7 u8 cs h0 n0) := by
  refine own_begin (plainFor_of_name own_pn14) (fun m => ef1 m a1 a2) ?_
  intro p e s m below meth c s₁ hx hby hml hown hnm hlk hret hZ X0 e0
  have N0 := Fr.nil n0
  have K0 := Keep.refl h0 [a1, vb]
  refine own_go (B := s₁.setTop (mkF m 2 #[Sr a1, Sr a2] [.ref a2, .ref a1])) (fun _ k => XS.aloadN X0.here hx rfl (hb hby d20_0) rfl rfl (XS.aloadN X0.here hx rfl (hb hby d20_1) rfl rfl k)) ?_
  obtain ⟨_, _, ⟨T1, L1, k1, n1⟩, -, X1, ⟨Lc1, hQ1, l1, y1, z1⟩, st1⟩ := superBack X0 hx hZ (y := own_y30) hown (hw.w 129 rfl) (own_same (y := own_y30) (y' := own_y28) (hw.w 130 rfl) (hw.w 147 rfl) (notFace_of_selects (hw.w 149 rfl)) rfl (by decide)) (hw.w 130 rfl) (hw.w 131 rfl) (by decide) (backOf (W := 0) (own_apA0_9 l Z a0 hw [] a1 a2 vb t2 k2 kb u0 u1 u2 u3 u4 u5 u6 u7 u8 cs h0 n0 (Nat.le_trans Z0 K0.1) P_E_a1 P_F_a1_value P_F_a1_coder P_F_a1_count P_E_a2 P_F_a2_value P_F_a2_coder P_V_t2 P_V_vb g_vb ne_a1_vb ne_a2_vb ne_t2_vb P_S_COMPACT_STRINGS hcs ne_a2_a1 ne_t2_a1 g_a1) hZ (hw.w 133 rfl) (hw.w 115 rfl) (by decide) (by decide)) e0 (Ins.self P_E_a1) (g := (mkF m 2 #[Sr a1, Sr a2] [.ref a2, .ref a1])) rfl (by rw [hml]; rfl) (hw.w 133 rfl) (argsL := [.ref a2]) (rest := []) (lenOf own_pd16 rfl) rfl (by show 2 * 0 + _ ≤ _; exact Nat.le_of_eq rfl) (hb hby d20_2) (fun _ _ => ⟨rfl, e0, (by decide : 0 + 0 ≤ _), (by decide : 0 + 0 ≤ _)⟩)
  dsimp only [Pt.U, Pt.locs, Pt.cells, Pt.slots] at X1 l1 y1 z1 st1 hQ1
  subst l1 y1 z1
  obtain ⟨rfl, N1q, K1q, Q1_0, Q1_1, Q1_2, Q1_3, Q1_4⟩ := hQ1
  have N1 := Fr.app N0 N1q
  have K13 : Keep h0 T1.heap [a1, vb] := K0.trans K1q (allS (Or.inl (List.mem_of_getElem? (i := 0) rfl)) (allS (Or.inl (List.mem_of_getElem? (i := 1) rfl)) all0))
  refine own_go (B := T1.setTop (mkF m 7 #[Sr a1, Sr a2] [.ref a1])) (fun _ k => st1.trans (XS.pop X1.here hx rfl (hb hby d20_5) rfl rfl (XS.aloadN X1.here hx rfl (hb hby d20_6) rfl rfl k))) ?_
  exact own_retA X1 hx hlk hret rfl rfl (hb hby d20_7) rfl ⟨rfl, N1, K13, Q1_0, Q1_1, Q1_2, Q1_3, Q1_4⟩ (by decide) (by decide)
abbrev R_own_gb9_1 : Room := ⟨1, 0, 0, 18⟩
theorem ef17 (m : MethodId) (x0 x1 : Addr) : entryFrame m #[(.ref x0), (.ref x1), (.int 9), (.int 0)] 4 = mkF m 0 #[.val (.ref x0), .val (.ref x1), .val (.int 9), .val (.int 0)] [] := by first | (simp [entryFrame, mkF, argsToLocals, Value.category]; done) | rfl
def Q_own_gb9_1 (Z : State) (a1 vb t1 : Addr) (k1 kb : ClassId) (u0 w0 w1 w2 w3 w4 w5 w6 w7 w8 cs : Int32) (h0 : Heap) (n0 : Nat) (v : Option Value) (h : Heap) (L : List Loc) : Prop := v = none ∧ Fr n0 L ∧ Keep h0 h [vb] ∧ Arv Z h vb kb .byte 16 [.int w0, .int w1, .int w2, .int w3, .int w4, .int w5, .int w6, .int w7, .int w8, .int u0, .int 0, .int 0, .int 0, .int 0, .int 0, .int 0] (.int 0)
theorem own_gb9_1 (l : Launch) (Z : State) (a0 : Array Value) (hw : own_HW a0 Z) (ws : List Jvm.Cond) (a1 vb t1 : Addr) (k1 kb : ClassId) (u0 w0 w1 w2 w3 w4 w5 w6 w7 w8 cs : Int32) (h0 : Heap) (n0 : Nat) (Z0 : n0 ≤ h0.size) (P_E_a1 : Exa Z h0 a1 nn3_) (P_F_a1_value : Fld Z h0 a1 nn3_ "value" "[B" (.ref t1)) (P_F_a1_coder : Fld Z h0 a1 nn3_ "coder" "B" (.int 0)) (P_V_t1 : Arv Z h0 t1 k1 .byte 1 [.int u0] (.int 0)) (P_V_vb : Arv Z h0 vb kb .byte 16 [.int w0, .int w1, .int w2, .int w3, .int w4, .int w5, .int w6, .int w7, .int w8, .int 0, .int 0, .int 0, .int 0, .int 0, .int 0, .int 0] (.int 0)) (g_vb : n0 ≤ vb) (ne_a1_vb : a1 ≠ vb) (ne_t1_vb : t1 ≠ vb) (P_S_COMPACT_STRINGS : Sta Z h0 nn3_ nn16_ "Z" (.int cs)) (hcs : ¬ (cs = (0 : Int32))) :
    own_MF l own_y27 (Jvm.Cond.code own_y27 jdk_42_method_147_code 4 none) ws R_own_gb9_1 #[.ref a1, .ref vb, .int 9, .int 0] Z h0 (Q_own_gb9_1 Z a1 vb t1 k1 kb u0 w0 w1 w2 w3 w4 w5 w6 w7 w8 cs h0 n0) := by
  refine own_begin (plainFor_of_name own_pn10) (fun m => ef17 m a1 vb) ?_
  intro p e s m below meth c s₁ hx hby hml hown hnm hlk hret hZ X0 e0
  have N0 := Fr.nil n0
  have K0 := Keep.refl h0 [vb]
  refine own_go (B := s₁.setTop (mkF m 1 #[Sr a1, Sr vb, Si 9, Si 0] [.ref a1])) (fun _ k => XS.aloadN X0.here hx rfl (hb hby d27_0) rfl rfl k) ?_
  refine own_cV (own_coder0 l Z a0 hw [] a1 cs h0 n0 (Nat.le_trans Z0 K0.1) P_F_a1_coder P_S_COMPACT_STRINGS hcs) X0 hx hZ hown (hw.w 139 rfl) (hw.w 140 rfl) (notFace_of_selects (args := #[]) (mvT hZ (hw.w 142 rfl))) (hw.w 142 rfl) (hw.w 141 rfl) (hw.w 2 rfl) (hw.w 143 rfl) P_E_a1 e0 rfl rfl (by rw [hml]; rfl) (rest := []) (lenOf own_pd7 rfl) rfl (hb hby d27_1) (W := 0) (show 2 * 0 + _ = _ from rfl) (by decide) (by decide) ?_
  rintro _ T1 L1 X1 ⟨rfl, N1q, e1⟩
  have N1 := Fr.app N0 N1q
  refine own_go (B := T1.setTop (mkF m 5 #[Sr a1, Sr vb, Si 9, Si 0] [.int 0, .int 0])) (fun _ k => XS.iloadN X1.here hx rfl (hb hby d27_4) rfl  k) ?_
  have hc2 : (0 : Int32) = (0 : Int32) := by decide
  refine own_go (B := T1.setTop (mkF m 9 #[Sr a1, Sr vb, Si 9, Si 0] [.ref a1])) (fun _ k => XS.icmpNo X1.here hx rfl (hb hby d27_5) rfl (teq hc2).2 (XS.aloadN X1.here hx rfl (hb hby d27_8) rfl rfl k)) ?_
  refine own_gF X1 hx hZ hown (hw.w 28 rfl) Via.refl e1 P_F_a1_value rfl rfl (hb hby d27_9) fun T3 X3 e3 => ?_
  refine own_go (B := T3.setTop (mkF m 17 #[Sr a1, Sr vb, Si 9, Si 0] [(.int ((9 : Int32) <<< ((0 : Int32) &&& 31))), .ref vb, .int 0, .ref t1])) (fun _ k => XS.iconst X3.here hx rfl (hb hby d27_12) (XS.aloadN X3.here hx rfl (hb hby d27_13) rfl rfl (XS.iloadN X3.here hx rfl (hb hby d27_14) rfl (XS.iloadN X3.here hx rfl (hb hby d27_15) rfl (XS.ishl X3.here hx rfl (hb hby d27_16) rfl k))))) ?_
  rw [show ((9 : Int32) <<< ((0 : Int32) &&& 31)) = (9 : Int32) from by decide]
  show own_Fin _ _ _ _ _ _ _ (T3.setTop (mkF m 17 #[Sr a1, Sr vb, Si 9, Si 0] [.int 9, .ref vb, .int 0, .ref t1]))
  refine own_go (B := T3.setTop (mkF m 18 #[Sr a1, Sr vb, Si 9, Si 0] [.ref a1, .int 9, .ref vb, .int 0, .ref t1])) (fun _ k => XS.aloadN X3.here hx rfl (hb hby d27_17) rfl rfl k) ?_
  refine own_gF X3 hx hZ hown (hw.w 28 rfl) Via.refl e3 P_F_a1_value rfl rfl (hb hby d27_18) fun T4 X4 e4 => ?_
  refine own_go (B := T4.setTop (mkF m 21 #[Sr a1, Sr vb, Si 9, Si 0] [.ref t1, .int 9, .ref vb, .int 0, .ref t1])) (fun _ k => k) ?_
  obtain ⟨cl5, Ar5, q5, S5, N5n, H5, G5⟩ := id P_V_t1
  refine own_go (fun _ k => X4.arraylength hx (own_hc e4 Ar5.1) (State.isArrayOf_alike hZ.alike Ar5.2.1) (g := (mkF m 21 #[Sr a1, Sr vb, Si 9, Si 0] [.ref t1, .int 9, .ref vb, .int 0, .ref t1])) rfl rfl (hb hby d27_21) _ k) ?_
  rw [len_of S5 N5n]
  show own_Fin _ _ _ _ _ _ _ (T4.setTop (mkF m 22 #[Sr a1, Sr vb, Si 9, Si 0] [.int 1, .int 9, .ref vb, .int 0, .ref t1]))
  obtain ⟨T6, h6, L6, X6, e6, N6, Kc6, Vc6, st6⟩ := cpA X4 hx hZ hown (hw.w 167 rfl) (hw.w 170 rfl) (hw.w 168 rfl) (hw.w 169 rfl) e4 P_V_t1 P_V_vb (us := [.int u0]) (Or.inl ⟨rfl, rfl⟩) (by decide) (by decide) (by decide) (by decide) (by decide) rfl (Nat.le_of_ble_eq_true rfl) N1 g_vb (g := (mkF m 22 #[Sr a1, Sr vb, Si 9, Si 0] [.int 1, .int 9, .ref vb, .int 0, .ref t1])) rfl (by rw [hml]; rfl) rfl (hb hby d27_22) (by decide) (W := 0) (by show 2 * 0 + _ ≤ _; exact Nat.le_of_eq rfl) (by decide)
  have V_vb_6 : Arv Z h6 vb kb .byte 16 [.int w0, .int w1, .int w2, .int w3, .int w4, .int w5, .int w6, .int w7, .int w8, .int u0, .int 0, .int 0, .int 0, .int 0, .int 0, .int 0] (.int 0) := Vc6
  have K14 : Keep h0 h6 [vb] := K0.trans Kc6 (allS (Or.inl (List.mem_of_getElem? (i := 0) rfl)) all0)
  refine own_go (B := T6.setTop (mkF m 43 #[Sr a1, Sr vb, Si 9, Si 0] [])) (fun _ k => st6 _ (XS.goto X6.here hx rfl (pc0 := 25) (pc' := 43) rfl (hb hby d27_25) (by decide) (by decide) k)) ?_
  exact own_retV X6 hx hlk hret (hb hby d27_43) e6 ⟨rfl, N6, K14, V_vb_6⟩ (by decide) (by decide)
abbrev R_own_ens9_1 : Room := ⟨0, 0, 0, 0⟩
theorem ef18 (m : MethodId) (x0 : Addr) : entryFrame m #[(.ref x0), (.int 10)] 3 = mkF m 0 #[.val (.ref x0), .val (.int 10), .unset] [] := by first | (simp [entryFrame, mkF, argsToLocals, Value.category]; done) | rfl
def Q_own_ens9_1 (Z : State) (a1 vb : Addr) (kb : ClassId) (w0 w1 w2 w3 w4 w5 w6 w7 w8 : Int32) (h0 : Heap) (n0 : Nat) (v : Option Value) (h : Heap) (L : List Loc) : Prop := v = none ∧ Fr n0 L ∧ h = h0
theorem own_ens9_1 (l : Launch) (Z : State) (a0 : Array Value) (hw : own_HW a0 Z) (ws : List Jvm.Cond) (a1 vb : Addr) (kb : ClassId) (w0 w1 w2 w3 w4 w5 w6 w7 w8 : Int32) (h0 : Heap) (n0 : Nat) (Z0 : n0 ≤ h0.size) (P_E_a1 : Exa Z h0 a1 nn5_) (P_F_a1_value : Fld Z h0 a1 nn10_ "value" "[B" (.ref vb)) (P_F_a1_coder : Fld Z h0 a1 nn10_ "coder" "B" (.int 0)) (P_F_a1_count : Fld Z h0 a1 nn10_ "count" "I" (.int 9)) (P_V_vb : Arv Z h0 vb kb .byte 16 [.int w0, .int w1, .int w2, .int w3, .int w4, .int w5, .int w6, .int w7, .int w8, .int 0, .int 0, .int 0, .int 0, .int 0, .int 0, .int 0] (.int 0)) :
    own_MF l own_y28 (Jvm.Cond.code own_y28 jdk_68_method_9_code 3 none) ws R_own_ens9_1 #[.ref a1, .int 10] Z h0 (Q_own_ens9_1 Z a1 vb kb w0 w1 w2 w3 w4 w5 w6 w7 w8 h0 n0) := by
  refine own_begin (plainFor_of_name own_pn13) (fun m => ef18 m a1) ?_
  intro p e s m below meth c s₁ hx hby hml hown hnm hlk hret hZ X0 e0
  have N0 := Fr.nil n0
  have K0 := Keep.refl h0 []
  refine own_go (B := s₁.setTop (mkF m 1 #[Sr a1, Si 10, Su] [.ref a1])) (fun _ k => XS.aloadN X0.here hx rfl (hb hby d24_0) rfl rfl k) ?_
  refine own_gF X0 hx hZ hown (hw.w 119 rfl) Via.refl e0 P_F_a1_value rfl rfl (hb hby d24_1) fun T1 X1 e1 => ?_
  refine own_go (B := T1.setTop (mkF m 4 #[Sr a1, Si 10, Su] [.ref vb])) (fun _ k => k) ?_
  obtain ⟨cl2, Ar2, q2, S2, N2n, H2, G2⟩ := id P_V_vb
  refine own_go (fun _ k => X1.arraylength hx (own_hc e1 Ar2.1) (State.isArrayOf_alike hZ.alike Ar2.2.1) (g := (mkF m 4 #[Sr a1, Si 10, Su] [.ref vb])) rfl rfl (hb hby d24_4) _ k) ?_
  rw [len_of S2 N2n]
  show own_Fin _ _ _ _ _ _ _ (T1.setTop (mkF m 5 #[Sr a1, Si 10, Su] [.int 16]))
  refine own_go (B := T1.setTop (mkF m 6 #[Sr a1, Si 10, Su] [.ref a1, .int 16])) (fun _ k => XS.aloadN X1.here hx rfl (hb hby d24_5) rfl rfl k) ?_
  refine own_gF X1 hx hZ hown (hw.w 121 rfl) Via.refl e1 P_F_a1_coder rfl rfl (hb hby d24_6) fun T3 X3 e3 => ?_
  refine own_go (B := T3.setTop (mkF m 10 #[Sr a1, Si 10, Su] [(.int ((16 : Int32) >>> ((0 : Int32) &&& 31)))])) (fun _ k => XS.ishr X3.here hx rfl (hb hby d24_9) rfl k) ?_
  rw [show ((16 : Int32) >>> ((0 : Int32) &&& 31)) = (16 : Int32) from by decide]
  show own_Fin _ _ _ _ _ _ _ (T3.setTop (mkF m 10 #[Sr a1, Si 10, Su] [.int 16]))
  refine own_go (B := T3.setTop (mkF m 14 #[Sr a1, Si 10, Si 16] [(.int ((10 : Int32) - (16 : Int32)))])) (fun _ k => XS.istoreN X3.here hx rfl (hb hby d24_10) rfl (l' := #[Sr a1, Si 10, Si 16]) rfl (XS.iloadN X3.here hx rfl (hb hby d24_11) rfl (XS.iloadN X3.here hx rfl (hb hby d24_12) rfl (XS.isub X3.here hx rfl (hb hby d24_13) rfl k)))) ?_
  rw [show ((10 : Int32) - (16 : Int32)) = (-6 : Int32) from by decide]
  show own_Fin _ _ _ _ _ _ _ (T3.setTop (mkF m 14 #[Sr a1, Si 10, Si 16] [(.int (-6))]))
  have hc4 : ¬ ((0 : Int32) < (-6 : Int32)) := by decide
  refine own_go (B := T3.setTop (mkF m 38 #[Sr a1, Si 10, Si 16] [])) (fun _ k => XS.ifYes X3.here hx rfl (pc0 := 14) (pc' := 38) rfl (hb hby d24_14) rfl ((if0 _ _).trans (flt hc4).2.2.2) (by decide) (by decide) k) ?_
  exact own_retV X3 hx hlk hret (hb hby d24_38) e3 ⟨rfl, N0, rfl⟩ (by decide) (by decide)
abbrev R_own_put9_1 : Room := ⟨2, 0, 0, 33⟩
theorem ef19 (m : MethodId) (x0 x2 : Addr) : entryFrame m #[(.ref x0), (.int 9), (.ref x2)] 3 = mkF m 0 #[.val (.ref x0), .val (.int 9), .val (.ref x2)] [] := by first | (simp [entryFrame, mkF, argsToLocals, Value.category]; done) | rfl
def Q_own_put9_1 (Z : State) (a1 a2 vb t2 : Addr) (k2 kb : ClassId) (u0 w0 w1 w2 w3 w4 w5 w6 w7 w8 cs : Int32) (h0 : Heap) (n0 : Nat) (v : Option Value) (h : Heap) (L : List Loc) : Prop := v = none ∧ Fr n0 L ∧ Keep h0 h [vb] ∧ Arv Z h vb kb .byte 16 [.int w0, .int w1, .int w2, .int w3, .int w4, .int w5, .int w6, .int w7, .int w8, .int u0, .int 0, .int 0, .int 0, .int 0, .int 0, .int 0] (.int 0)
theorem own_put9_1 (l : Launch) (Z : State) (a0 : Array Value) (hw : own_HW a0 Z) (ws : List Jvm.Cond) (a1 a2 vb t2 : Addr) (k2 kb : ClassId) (u0 w0 w1 w2 w3 w4 w5 w6 w7 w8 cs : Int32) (h0 : Heap) (n0 : Nat) (Z0 : n0 ≤ h0.size) (P_E_a1 : Exa Z h0 a1 nn5_) (P_F_a1_value : Fld Z h0 a1 nn10_ "value" "[B" (.ref vb)) (P_F_a1_coder : Fld Z h0 a1 nn10_ "coder" "B" (.int 0)) (P_F_a1_count : Fld Z h0 a1 nn10_ "count" "I" (.int 9)) (P_E_a2 : Exa Z h0 a2 nn3_) (P_F_a2_value : Fld Z h0 a2 nn3_ "value" "[B" (.ref t2)) (P_F_a2_coder : Fld Z h0 a2 nn3_ "coder" "B" (.int 0)) (P_V_t2 : Arv Z h0 t2 k2 .byte 1 [.int u0] (.int 0)) (P_V_vb : Arv Z h0 vb kb .byte 16 [.int w0, .int w1, .int w2, .int w3, .int w4, .int w5, .int w6, .int w7, .int w8, .int 0, .int 0, .int 0, .int 0, .int 0, .int 0, .int 0] (.int 0)) (g_vb : n0 ≤ vb) (ne_a1_vb : a1 ≠ vb) (ne_a2_vb : a2 ≠ vb) (ne_t2_vb : t2 ≠ vb) (P_S_COMPACT_STRINGS : Sta Z h0 nn3_ nn16_ "Z" (.int cs)) (hcs : ¬ (cs = (0 : Int32))) :
    own_MF l own_y29 (Jvm.Cond.code own_y29 jdk_68_method_73_code 3 none) ws R_own_put9_1 #[.ref a1, .int 9, .ref a2] Z h0 (Q_own_put9_1 Z a1 a2 vb t2 k2 kb u0 w0 w1 w2 w3 w4 w5 w6 w7 w8 cs h0 n0) := by
  refine own_begin (plainFor_of_name own_pn13) (fun m => ef19 m a1 a2) ?_
  intro p e s m below meth c s₁ hx hby hml hown hnm hlk hret hZ X0 e0
  have N0 := Fr.nil n0
  have K0 := Keep.refl h0 [vb]
  refine own_go (B := s₁.setTop (mkF m 2 #[Sr a1, Si 9, Sr a2] [.ref a2, .ref a1])) (fun _ k => XS.aloadN X0.here hx rfl (hb hby d25_0) rfl rfl (XS.aloadN X0.here hx rfl (hb hby d25_1) rfl rfl k)) ?_
  refine own_cP (own_rm26 l Z a0 hw [] a1 a2 cs h0 n0 (Nat.le_trans Z0 K0.1) P_F_a1_coder P_E_a2 P_F_a2_coder P_S_COMPACT_STRINGS hcs) X0 hx hZ hown (hw.w 156 rfl) (hw.w 157 rfl) (hw.w 159 rfl) (hw.w 115 rfl) (hw.w 160 rfl) P_E_a1 e0 rfl rfl (by rw [hml]; rfl) (rest := []) (lenOf own_pd12 rfl) rfl (hb hby d25_2) (W := 0) (show 2 * 0 + _ = _ from rfl) (by decide) (by decide) ?_
  rintro _ T1 L1 X1 ⟨rfl, N1q, e1⟩
  have N1 := Fr.app N0 N1q
  refine own_go (B := T1.setTop (mkF m 7 #[Sr a1, Si 9, Sr a2] [.ref a1, .ref a2])) (fun _ k => XS.aloadN X1.here hx rfl (hb hby d25_5) rfl rfl (XS.aloadN X1.here hx rfl (hb hby d25_6) rfl rfl k)) ?_
  refine own_gF X1 hx hZ hown (hw.w 119 rfl) Via.refl e1 P_F_a1_value rfl rfl (hb hby d25_7) fun T2 X2 e2 => ?_
  refine own_go (B := T2.setTop (mkF m 12 #[Sr a1, Si 9, Sr a2] [.ref a1, .int 9, .ref vb, .ref a2])) (fun _ k => XS.iloadN X2.here hx rfl (hb hby d25_10) rfl (XS.aloadN X2.here hx rfl (hb hby d25_11) rfl rfl k)) ?_
  refine own_gF X2 hx hZ hown (hw.w 121 rfl) Via.refl e2 P_F_a1_coder rfl rfl (hb hby d25_12) fun T3 X3 e3 => ?_
  refine own_go (B := T3.setTop (mkF m 15 #[Sr a1, Si 9, Sr a2] [.int 0, .int 9, .ref vb, .ref a2])) (fun _ k => k) ?_
  refine own_cV (own_gb9_1 l Z a0 hw [] a2 vb t2 k2 kb u0 w0 w1 w2 w3 w4 w5 w6 w7 w8 cs h0 n0 (Nat.le_trans Z0 K0.1) P_E_a2 P_F_a2_value P_F_a2_coder P_V_t2 P_V_vb g_vb ne_a2_vb ne_t2_vb P_S_COMPACT_STRINGS hcs) X3 hx hZ hown (hw.w 162 rfl) (hw.w 163 rfl) (notFace_of_selects (args := #[]) (mvT hZ (hw.w 165 rfl))) (hw.w 165 rfl) (hw.w 164 rfl) (hw.w 2 rfl) (hw.w 166 rfl) P_E_a2 e3 rfl rfl (by rw [hml]; rfl) (rest := []) (lenOf own_pd13 rfl) rfl (hb hby d25_15) (W := 0) (show 2 * 0 + _ = _ from rfl) (by decide) (by decide) ?_
  rintro _ T4 L4 X4 ⟨rfl, N4q, K4q, Q4_0⟩
  have N4 := Fr.app N1 N4q
  have K16 : Keep h0 T4.heap [vb] := K0.trans K4q (allS (Or.inl (List.mem_of_getElem? (i := 0) rfl)) all0)
  refine own_go (B := T4.setTop (mkF m 18 #[Sr a1, Si 9, Sr a2] [])) (fun _ k => k) ?_
  exact own_retV X4 hx hlk hret (hb hby d25_18) rfl ⟨rfl, N4, K16, Q4_0⟩ (by decide) (by decide)
abbrev R_own_apA9_1 : Room := ⟨3, 0, 0, 47⟩
def Q_own_apA9_1 (Z : State) (a1 a2 vb t2 : Addr) (k2 kb : ClassId) (u0 w0 w1 w2 w3 w4 w5 w6 w7 w8 cs : Int32) (h0 : Heap) (n0 : Nat) (v : Option Value) (h : Heap) (L : List Loc) : Prop := v = some (.ref a1) ∧ Fr n0 L ∧ Keep h0 h [a1, vb] ∧ Exa Z h a1 nn5_ ∧ Fld Z h a1 nn10_ "value" "[B" (.ref vb) ∧ Fld Z h a1 nn10_ "coder" "B" (.int 0) ∧ Fld Z h a1 nn10_ "count" "I" (.int 10) ∧ Arv Z h vb kb .byte 16 [.int w0, .int w1, .int w2, .int w3, .int w4, .int w5, .int w6, .int w7, .int w8, .int u0, .int 0, .int 0, .int 0, .int 0, .int 0, .int 0] (.int 0)
theorem own_apA9_1 (l : Launch) (Z : State) (a0 : Array Value) (hw : own_HW a0 Z) (ws : List Jvm.Cond) (a1 a2 vb t2 : Addr) (k2 kb : ClassId) (u0 w0 w1 w2 w3 w4 w5 w6 w7 w8 cs : Int32) (h0 : Heap) (n0 : Nat) (Z0 : n0 ≤ h0.size) (P_E_a1 : Exa Z h0 a1 nn5_) (P_F_a1_value : Fld Z h0 a1 nn10_ "value" "[B" (.ref vb)) (P_F_a1_coder : Fld Z h0 a1 nn10_ "coder" "B" (.int 0)) (P_F_a1_count : Fld Z h0 a1 nn10_ "count" "I" (.int 9)) (P_E_a2 : Exa Z h0 a2 nn3_) (P_F_a2_value : Fld Z h0 a2 nn3_ "value" "[B" (.ref t2)) (P_F_a2_coder : Fld Z h0 a2 nn3_ "coder" "B" (.int 0)) (P_V_t2 : Arv Z h0 t2 k2 .byte 1 [.int u0] (.int 0)) (P_V_vb : Arv Z h0 vb kb .byte 16 [.int w0, .int w1, .int w2, .int w3, .int w4, .int w5, .int w6, .int w7, .int w8, .int 0, .int 0, .int 0, .int 0, .int 0, .int 0, .int 0] (.int 0)) (g_vb : n0 ≤ vb) (ne_a1_vb : a1 ≠ vb) (ne_a2_vb : a2 ≠ vb) (ne_t2_vb : t2 ≠ vb) (P_S_COMPACT_STRINGS : Sta Z h0 nn3_ nn16_ "Z" (.int cs)) (hcs : ¬ (cs = (0 : Int32))) (ne_a2_a1 : a2 ≠ a1) (ne_t2_a1 : t2 ≠ a1) (g_a1 : n0 ≤ a1) :
    own_MF l own_y30 (Jvm.Cond.code own_y30 jdk_68_method_22_code 3 (some (.object "java/lang/AbstractStringBuilder"))) ws R_own_apA9_1 #[.ref a1, .ref a2] Z h0 (Q_own_apA9_1 Z a1 a2 vb t2 k2 kb u0 w0 w1 w2 w3 w4 w5 w6 w7 w8 cs h0 n0) := by
  refine own_begin (plainFor_of_name own_pn13) (fun m => ef10 m a1 a2) ?_
  intro p e s m below meth c s₁ hx hby hml hown hnm hlk hret hZ X0 e0
  have N0 := Fr.nil n0
  have K0 := Keep.refl h0 [a1, vb]
  refine own_go (B := s₁.setTop (mkF m 10 #[Sr a1, Sr a2, Su] [.ref a2])) (fun _ k => XS.aloadN X0.here hx rfl (hb hby d21_0) rfl rfl (XS.ifnonnullYes X0.here hx rfl (pc0 := 1) (pc' := 9) rfl (hb hby d21_1) rfl (by decide) (by decide) (XS.aloadN X0.here hx rfl (hb hby d21_9) rfl rfl k))) ?_
  refine own_cV (own_len1_0 l Z a0 hw [] a2 t2 k2 u0 cs h0 n0 (Nat.le_trans Z0 K0.1) P_E_a2 P_F_a2_value P_F_a2_coder P_V_t2 P_S_COMPACT_STRINGS hcs) X0 hx hZ hown (hw.w 134 rfl) (hw.w 135 rfl) (notFace_of_selects (args := #[]) (mvT hZ (hw.w 137 rfl))) (hw.w 137 rfl) (hw.w 136 rfl) (hw.w 2 rfl) (hw.w 138 rfl) P_E_a2 e0 rfl rfl (by rw [hml]; rfl) (rest := []) (lenOf own_pd14 rfl) rfl (hb hby d21_10) (W := 0) (show 2 * 0 + _ = _ from rfl) (by decide) (by decide) ?_
  rintro _ T1 L1 X1 ⟨rfl, N1q, e1⟩
  have N1 := Fr.app N0 N1q
  refine own_go (B := T1.setTop (mkF m 16 #[Sr a1, Sr a2, Si 1] [.ref a1, .ref a1])) (fun _ k => XS.istoreN X1.here hx rfl (hb hby d21_13) rfl (l' := #[Sr a1, Sr a2, Si 1]) rfl (XS.aloadN X1.here hx rfl (hb hby d21_14) rfl rfl (XS.aloadN X1.here hx rfl (hb hby d21_15) rfl rfl k))) ?_
  refine own_gF X1 hx hZ hown (hw.w 144 rfl) Via.refl e1 P_F_a1_count rfl rfl (hb hby d21_16) fun T2 X2 e2 => ?_
  refine own_go (B := T2.setTop (mkF m 21 #[Sr a1, Sr a2, Si 1] [(.int ((9 : Int32) + (1 : Int32))), .ref a1])) (fun _ k => XS.iloadN X2.here hx rfl (hb hby d21_19) rfl (XS.iadd X2.here hx rfl (hb hby d21_20) rfl k)) ?_
  rw [show ((9 : Int32) + (1 : Int32)) = (10 : Int32) from by decide]
  show own_Fin _ _ _ _ _ _ _ (T2.setTop (mkF m 21 #[Sr a1, Sr a2, Si 1] [.int 10, .ref a1]))
  refine own_cP (own_ens9_1 l Z a0 hw [] a1 vb kb w0 w1 w2 w3 w4 w5 w6 w7 w8 h0 n0 (Nat.le_trans Z0 K0.1) P_E_a1 P_F_a1_value P_F_a1_coder P_F_a1_count P_V_vb) X2 hx hZ hown (hw.w 146 rfl) (hw.w 147 rfl) (hw.w 149 rfl) (hw.w 115 rfl) (hw.w 150 rfl) P_E_a1 e2 rfl rfl (by rw [hml]; rfl) (rest := []) (lenOf own_pd11 rfl) rfl (hb hby d21_21) (W := 0) (show 2 * 0 + _ = _ from rfl) (by decide) (by decide) ?_
  rintro _ T3 L3 X3 ⟨rfl, N3q, e3⟩
  have N3 := Fr.app N1 N3q
  refine own_go (B := T3.setTop (mkF m 26 #[Sr a1, Sr a2, Si 1] [.ref a1, .ref a1])) (fun _ k => XS.aloadN X3.here hx rfl (hb hby d21_24) rfl rfl (XS.aloadN X3.here hx rfl (hb hby d21_25) rfl rfl k)) ?_
  refine own_gF X3 hx hZ hown (hw.w 144 rfl) Via.refl e3 P_F_a1_count rfl rfl (hb hby d21_26) fun T4 X4 e4 => ?_
  refine own_go (B := T4.setTop (mkF m 30 #[Sr a1, Sr a2, Si 1] [.ref a2, .int 9, .ref a1])) (fun _ k => XS.aloadN X4.here hx rfl (hb hby d21_29) rfl rfl k) ?_
  refine own_cP (own_put9_1 l Z a0 hw [] a1 a2 vb t2 k2 kb u0 w0 w1 w2 w3 w4 w5 w6 w7 w8 cs h0 n0 (Nat.le_trans Z0 K0.1) P_E_a1 P_F_a1_value P_F_a1_coder P_F_a1_count P_E_a2 P_F_a2_value P_F_a2_coder P_V_t2 P_V_vb g_vb ne_a1_vb ne_a2_vb ne_t2_vb P_S_COMPACT_STRINGS hcs) X4 hx hZ hown (hw.w 151 rfl) (hw.w 152 rfl) (hw.w 154 rfl) (hw.w 115 rfl) (hw.w 155 rfl) P_E_a1 e4 rfl rfl (by rw [hml]; rfl) (rest := []) (lenOf own_pd15 rfl) rfl (hb hby d21_30) (W := 0) (show 2 * 0 + _ = _ from rfl) (by decide) (by decide) ?_
  rintro _ T5 L5 X5 ⟨rfl, N5q, K5q, Q5_0⟩
  have N5 := Fr.app N3 N5q
  have E_7 := P_E_a1.keep K5q
  have F_8 := P_F_a1_value.keep K5q (ninS ne_a1_vb nin0)
  have F_9 := P_F_a1_coder.keep K5q (ninS ne_a1_vb nin0)
  have F_10 := P_F_a1_count.keep K5q (ninS ne_a1_vb nin0)
  have K17 : Keep h0 T5.heap [a1, vb] := K0.trans K5q (allS (Or.inl (List.mem_of_getElem? (i := 1) rfl)) all0)
  refine own_go (B := T5.setTop (mkF m 35 #[Sr a1, Sr a2, Si 1] [.ref a1, .ref a1])) (fun _ k => XS.aloadN X5.here hx rfl (hb hby d21_33) rfl rfl (XS.dup X5.here hx rfl (hb hby d21_34) rfl rfl k)) ?_
  refine own_gF X5 hx hZ hown (hw.w 144 rfl) Via.refl rfl F_10 rfl rfl (hb hby d21_35) fun T18 X18 e18 => ?_
  refine own_go (B := T18.setTop (mkF m 40 #[Sr a1, Sr a2, Si 1] [(.int ((9 : Int32) + (1 : Int32))), .ref a1])) (fun _ k => XS.iloadN X18.here hx rfl (hb hby d21_38) rfl (XS.iadd X18.here hx rfl (hb hby d21_39) rfl k)) ?_
  rw [show ((9 : Int32) + (1 : Int32)) = (10 : Int32) from by decide]
  show own_Fin _ _ _ _ _ _ _ (T18.setTop (mkF m 40 #[Sr a1, Sr a2, Si 1] [.int 10, .ref a1]))
  refine own_pF X18 hx hZ hown (hw.w 144 rfl) Via.refl e18 F_10 E_7 (Or.inl (hw.w 145 rfl)) (hw.w 106 rfl) (ty := .int) (v := (.int 10)) (by decide) rfl rfl rfl rfl (hb hby d21_40) fun T19 h19 X19 e19 W19 => ?_
  have F_w19 : Fld Z h19 a1 nn10_ "count" "I" (.int 10) := F_10.same W19
  have E_21 := E_7.wr W19
  have F_22 := F_8.other W19 (Or.inr (slot_ne (Or.inl (hw.w 120 rfl)) (Or.inl (hw.w 145 rfl)) (by decide) (t := (.array .byte)) (t' := .int) (by decide) (by decide)))
  have F_23 := F_9.other W19 (Or.inr (slot_ne (Or.inl (hw.w 122 rfl)) (Or.inl (hw.w 145 rfl)) (by decide) (t := .byte) (t' := .int) (by decide) (by decide)))
  have V_30 := Q5_0.other W19 (Ne.symm ne_a1_vb)
  have K31 : Keep h0 h19 [a1, vb] := K17.wr W19 (Or.inl (List.mem_of_getElem? (i := 0) rfl))
  have N19 := Fr.snoc X19 N5 g_a1
  refine own_go (B := T19.setTop (mkF m 44 #[Sr a1, Sr a2, Si 1] [.ref a1])) (fun _ k => XS.aloadN X19.here hx rfl (hb hby d21_43) rfl rfl k) ?_
  exact own_retA X19 hx hlk hret rfl rfl (hb hby d21_44) e19 ⟨rfl, N19, K31, E_21, F_22, F_23, F_w19, V_30⟩ (by decide) (by decide)
abbrev R_own_ap9_1 : Room := ⟨4, 0, 0, 61⟩
def Q_own_ap9_1 (Z : State) (a1 a2 vb t2 : Addr) (k2 kb : ClassId) (u0 w0 w1 w2 w3 w4 w5 w6 w7 w8 cs : Int32) (h0 : Heap) (n0 : Nat) (v : Option Value) (h : Heap) (L : List Loc) : Prop := v = some (.ref a1) ∧ Fr n0 L ∧ Keep h0 h [a1, vb] ∧ Exa Z h a1 nn5_ ∧ Fld Z h a1 nn10_ "value" "[B" (.ref vb) ∧ Fld Z h a1 nn10_ "coder" "B" (.int 0) ∧ Fld Z h a1 nn10_ "count" "I" (.int 10) ∧ Arv Z h vb kb .byte 16 [.int w0, .int w1, .int w2, .int w3, .int w4, .int w5, .int w6, .int w7, .int w8, .int u0, .int 0, .int 0, .int 0, .int 0, .int 0, .int 0] (.int 0)
theorem own_ap9_1 (l : Launch) (Z : State) (a0 : Array Value) (hw : own_HW a0 Z) (ws : List Jvm.Cond) (a1 a2 vb t2 : Addr) (k2 kb : ClassId) (u0 w0 w1 w2 w3 w4 w5 w6 w7 w8 cs : Int32) (h0 : Heap) (n0 : Nat) (Z0 : n0 ≤ h0.size) (P_E_a1 : Exa Z h0 a1 nn5_) (P_F_a1_value : Fld Z h0 a1 nn10_ "value" "[B" (.ref vb)) (P_F_a1_coder : Fld Z h0 a1 nn10_ "coder" "B" (.int 0)) (P_F_a1_count : Fld Z h0 a1 nn10_ "count" "I" (.int 9)) (P_E_a2 : Exa Z h0 a2 nn3_) (P_F_a2_value : Fld Z h0 a2 nn3_ "value" "[B" (.ref t2)) (P_F_a2_coder : Fld Z h0 a2 nn3_ "coder" "B" (.int 0)) (P_V_t2 : Arv Z h0 t2 k2 .byte 1 [.int u0] (.int 0)) (P_V_vb : Arv Z h0 vb kb .byte 16 [.int w0, .int w1, .int w2, .int w3, .int w4, .int w5, .int w6, .int w7, .int w8, .int 0, .int 0, .int 0, .int 0, .int 0, .int 0, .int 0] (.int 0)) (g_vb : n0 ≤ vb) (ne_a1_vb : a1 ≠ vb) (ne_a2_vb : a2 ≠ vb) (ne_t2_vb : t2 ≠ vb) (P_S_COMPACT_STRINGS : Sta Z h0 nn3_ nn16_ "Z" (.int cs)) (hcs : ¬ (cs = (0 : Int32))) (ne_a2_a1 : a2 ≠ a1) (ne_t2_a1 : t2 ≠ a1) (g_a1 : n0 ≤ a1) :
    own_MF l own_y31 (Jvm.Cond.code own_y31 jdk_67_method_7_code 2 (some (.object "java/lang/StringBuilder"))) ws R_own_ap9_1 #[.ref a1, .ref a2] Z h0 (Q_own_ap9_1 Z a1 a2 vb t2 k2 kb u0 w0 w1 w2 w3 w4 w5 w6 w7 w8 cs h0 n0) := by
  refine own_begin (plainFor_of_name own_pn14) (fun m => ef1 m a1 a2) ?_
  intro p e s m below meth c s₁ hx hby hml hown hnm hlk hret hZ X0 e0
  have N0 := Fr.nil n0
  have K0 := Keep.refl h0 [a1, vb]
  refine own_go (B := s₁.setTop (mkF m 2 #[Sr a1, Sr a2] [.ref a2, .ref a1])) (fun _ k => XS.aloadN X0.here hx rfl (hb hby d20_0) rfl rfl (XS.aloadN X0.here hx rfl (hb hby d20_1) rfl rfl k)) ?_
  obtain ⟨_, _, ⟨T1, L1, k1, n1⟩, -, X1, ⟨Lc1, hQ1, l1, y1, z1⟩, st1⟩ := superBack X0 hx hZ (y := own_y30) hown (hw.w 129 rfl) (own_same (y := own_y30) (y' := own_y28) (hw.w 130 rfl) (hw.w 147 rfl) (notFace_of_selects (hw.w 149 rfl)) rfl (by decide)) (hw.w 130 rfl) (hw.w 131 rfl) (by decide) (backOf (W := 0) (own_apA9_1 l Z a0 hw [] a1 a2 vb t2 k2 kb u0 w0 w1 w2 w3 w4 w5 w6 w7 w8 cs h0 n0 (Nat.le_trans Z0 K0.1) P_E_a1 P_F_a1_value P_F_a1_coder P_F_a1_count P_E_a2 P_F_a2_value P_F_a2_coder P_V_t2 P_V_vb g_vb ne_a1_vb ne_a2_vb ne_t2_vb P_S_COMPACT_STRINGS hcs ne_a2_a1 ne_t2_a1 g_a1) hZ (hw.w 133 rfl) (hw.w 115 rfl) (by decide) (by decide)) e0 (Ins.self P_E_a1) (g := (mkF m 2 #[Sr a1, Sr a2] [.ref a2, .ref a1])) rfl (by rw [hml]; rfl) (hw.w 133 rfl) (argsL := [.ref a2]) (rest := []) (lenOf own_pd16 rfl) rfl (by show 2 * 0 + _ ≤ _; exact Nat.le_of_eq rfl) (hb hby d20_2) (fun _ _ => ⟨rfl, e0, (by decide : 0 + 0 ≤ _), (by decide : 0 + 0 ≤ _)⟩)
  dsimp only [Pt.U, Pt.locs, Pt.cells, Pt.slots] at X1 l1 y1 z1 st1 hQ1
  subst l1 y1 z1
  obtain ⟨rfl, N1q, K1q, Q1_0, Q1_1, Q1_2, Q1_3, Q1_4⟩ := hQ1
  have N1 := Fr.app N0 N1q
  have K13 : Keep h0 T1.heap [a1, vb] := K0.trans K1q (allS (Or.inl (List.mem_of_getElem? (i := 0) rfl)) (allS (Or.inl (List.mem_of_getElem? (i := 1) rfl)) all0))
  refine own_go (B := T1.setTop (mkF m 7 #[Sr a1, Sr a2] [.ref a1])) (fun _ k => st1.trans (XS.pop X1.here hx rfl (hb hby d20_5) rfl rfl (XS.aloadN X1.here hx rfl (hb hby d20_6) rfl rfl k))) ?_
  exact own_retA X1 hx hlk hret rfl rfl (hb hby d20_7) rfl ⟨rfl, N1, K13, Q1_0, Q1_1, Q1_2, Q1_3, Q1_4⟩ (by decide) (by decide)
abbrev R_own_gb9_2 : Room := ⟨1, 0, 0, 18⟩
def Q_own_gb9_2 (Z : State) (a1 vb t1 : Addr) (k1 kb : ClassId) (u0 u1 w0 w1 w2 w3 w4 w5 w6 w7 w8 cs : Int32) (h0 : Heap) (n0 : Nat) (v : Option Value) (h : Heap) (L : List Loc) : Prop := v = none ∧ Fr n0 L ∧ Keep h0 h [vb] ∧ Arv Z h vb kb .byte 16 [.int w0, .int w1, .int w2, .int w3, .int w4, .int w5, .int w6, .int w7, .int w8, .int u0, .int u1, .int 0, .int 0, .int 0, .int 0, .int 0] (.int 0)
theorem own_gb9_2 (l : Launch) (Z : State) (a0 : Array Value) (hw : own_HW a0 Z) (ws : List Jvm.Cond) (a1 vb t1 : Addr) (k1 kb : ClassId) (u0 u1 w0 w1 w2 w3 w4 w5 w6 w7 w8 cs : Int32) (h0 : Heap) (n0 : Nat) (Z0 : n0 ≤ h0.size) (P_E_a1 : Exa Z h0 a1 nn3_) (P_F_a1_value : Fld Z h0 a1 nn3_ "value" "[B" (.ref t1)) (P_F_a1_coder : Fld Z h0 a1 nn3_ "coder" "B" (.int 0)) (P_V_t1 : Arv Z h0 t1 k1 .byte 2 [.int u0, .int u1] (.int 0)) (P_V_vb : Arv Z h0 vb kb .byte 16 [.int w0, .int w1, .int w2, .int w3, .int w4, .int w5, .int w6, .int w7, .int w8, .int 0, .int 0, .int 0, .int 0, .int 0, .int 0, .int 0] (.int 0)) (g_vb : n0 ≤ vb) (ne_a1_vb : a1 ≠ vb) (ne_t1_vb : t1 ≠ vb) (P_S_COMPACT_STRINGS : Sta Z h0 nn3_ nn16_ "Z" (.int cs)) (hcs : ¬ (cs = (0 : Int32))) :
    own_MF l own_y27 (Jvm.Cond.code own_y27 jdk_42_method_147_code 4 none) ws R_own_gb9_2 #[.ref a1, .ref vb, .int 9, .int 0] Z h0 (Q_own_gb9_2 Z a1 vb t1 k1 kb u0 u1 w0 w1 w2 w3 w4 w5 w6 w7 w8 cs h0 n0) := by
  refine own_begin (plainFor_of_name own_pn10) (fun m => ef17 m a1 vb) ?_
  intro p e s m below meth c s₁ hx hby hml hown hnm hlk hret hZ X0 e0
  have N0 := Fr.nil n0
  have K0 := Keep.refl h0 [vb]
  refine own_go (B := s₁.setTop (mkF m 1 #[Sr a1, Sr vb, Si 9, Si 0] [.ref a1])) (fun _ k => XS.aloadN X0.here hx rfl (hb hby d27_0) rfl rfl k) ?_
  refine own_cV (own_coder0 l Z a0 hw [] a1 cs h0 n0 (Nat.le_trans Z0 K0.1) P_F_a1_coder P_S_COMPACT_STRINGS hcs) X0 hx hZ hown (hw.w 139 rfl) (hw.w 140 rfl) (notFace_of_selects (args := #[]) (mvT hZ (hw.w 142 rfl))) (hw.w 142 rfl) (hw.w 141 rfl) (hw.w 2 rfl) (hw.w 143 rfl) P_E_a1 e0 rfl rfl (by rw [hml]; rfl) (rest := []) (lenOf own_pd7 rfl) rfl (hb hby d27_1) (W := 0) (show 2 * 0 + _ = _ from rfl) (by decide) (by decide) ?_
  rintro _ T1 L1 X1 ⟨rfl, N1q, e1⟩
  have N1 := Fr.app N0 N1q
  refine own_go (B := T1.setTop (mkF m 5 #[Sr a1, Sr vb, Si 9, Si 0] [.int 0, .int 0])) (fun _ k => XS.iloadN X1.here hx rfl (hb hby d27_4) rfl  k) ?_
  have hc2 : (0 : Int32) = (0 : Int32) := by decide
  refine own_go (B := T1.setTop (mkF m 9 #[Sr a1, Sr vb, Si 9, Si 0] [.ref a1])) (fun _ k => XS.icmpNo X1.here hx rfl (hb hby d27_5) rfl (teq hc2).2 (XS.aloadN X1.here hx rfl (hb hby d27_8) rfl rfl k)) ?_
  refine own_gF X1 hx hZ hown (hw.w 28 rfl) Via.refl e1 P_F_a1_value rfl rfl (hb hby d27_9) fun T3 X3 e3 => ?_
  refine own_go (B := T3.setTop (mkF m 17 #[Sr a1, Sr vb, Si 9, Si 0] [(.int ((9 : Int32) <<< ((0 : Int32) &&& 31))), .ref vb, .int 0, .ref t1])) (fun _ k => XS.iconst X3.here hx rfl (hb hby d27_12) (XS.aloadN X3.here hx rfl (hb hby d27_13) rfl rfl (XS.iloadN X3.here hx rfl (hb hby d27_14) rfl (XS.iloadN X3.here hx rfl (hb hby d27_15) rfl (XS.ishl X3.here hx rfl (hb hby d27_16) rfl k))))) ?_
  rw [show ((9 : Int32) <<< ((0 : Int32) &&& 31)) = (9 : Int32) from by decide]
  show own_Fin _ _ _ _ _ _ _ (T3.setTop (mkF m 17 #[Sr a1, Sr vb, Si 9, Si 0] [.int 9, .ref vb, .int 0, .ref t1]))
  refine own_go (B := T3.setTop (mkF m 18 #[Sr a1, Sr vb, Si 9, Si 0] [.ref a1, .int 9, .ref vb, .int 0, .ref t1])) (fun _ k => XS.aloadN X3.here hx rfl (hb hby d27_17) rfl rfl k) ?_
  refine own_gF X3 hx hZ hown (hw.w 28 rfl) Via.refl e3 P_F_a1_value rfl rfl (hb hby d27_18) fun T4 X4 e4 => ?_
  refine own_go (B := T4.setTop (mkF m 21 #[Sr a1, Sr vb, Si 9, Si 0] [.ref t1, .int 9, .ref vb, .int 0, .ref t1])) (fun _ k => k) ?_
  obtain ⟨cl5, Ar5, q5, S5, N5n, H5, G5⟩ := id P_V_t1
  refine own_go (fun _ k => X4.arraylength hx (own_hc e4 Ar5.1) (State.isArrayOf_alike hZ.alike Ar5.2.1) (g := (mkF m 21 #[Sr a1, Sr vb, Si 9, Si 0] [.ref t1, .int 9, .ref vb, .int 0, .ref t1])) rfl rfl (hb hby d27_21) _ k) ?_
  rw [len_of S5 N5n]
  show own_Fin _ _ _ _ _ _ _ (T4.setTop (mkF m 22 #[Sr a1, Sr vb, Si 9, Si 0] [.int 2, .int 9, .ref vb, .int 0, .ref t1]))
  obtain ⟨T6, h6, L6, X6, e6, N6, Kc6, Vc6, st6⟩ := cpA X4 hx hZ hown (hw.w 167 rfl) (hw.w 170 rfl) (hw.w 168 rfl) (hw.w 169 rfl) e4 P_V_t1 P_V_vb (us := [.int u0, .int u1]) (Or.inl ⟨rfl, rfl⟩) (by decide) (by decide) (by decide) (by decide) (by decide) rfl (Nat.le_of_ble_eq_true rfl) N1 g_vb (g := (mkF m 22 #[Sr a1, Sr vb, Si 9, Si 0] [.int 2, .int 9, .ref vb, .int 0, .ref t1])) rfl (by rw [hml]; rfl) rfl (hb hby d27_22) (by decide) (W := 0) (by show 2 * 0 + _ ≤ _; exact Nat.le_of_eq rfl) (by decide)
  have V_vb_6 : Arv Z h6 vb kb .byte 16 [.int w0, .int w1, .int w2, .int w3, .int w4, .int w5, .int w6, .int w7, .int w8, .int u0, .int u1, .int 0, .int 0, .int 0, .int 0, .int 0] (.int 0) := Vc6
  have K14 : Keep h0 h6 [vb] := K0.trans Kc6 (allS (Or.inl (List.mem_of_getElem? (i := 0) rfl)) all0)
  refine own_go (B := T6.setTop (mkF m 43 #[Sr a1, Sr vb, Si 9, Si 0] [])) (fun _ k => st6 _ (XS.goto X6.here hx rfl (pc0 := 25) (pc' := 43) rfl (hb hby d27_25) (by decide) (by decide) k)) ?_
  exact own_retV X6 hx hlk hret (hb hby d27_43) e6 ⟨rfl, N6, K14, V_vb_6⟩ (by decide) (by decide)
abbrev R_own_ens9_2 : Room := ⟨0, 0, 0, 0⟩
theorem ef20 (m : MethodId) (x0 : Addr) : entryFrame m #[(.ref x0), (.int 11)] 3 = mkF m 0 #[.val (.ref x0), .val (.int 11), .unset] [] := by first | (simp [entryFrame, mkF, argsToLocals, Value.category]; done) | rfl
def Q_own_ens9_2 (Z : State) (a1 vb : Addr) (kb : ClassId) (w0 w1 w2 w3 w4 w5 w6 w7 w8 : Int32) (h0 : Heap) (n0 : Nat) (v : Option Value) (h : Heap) (L : List Loc) : Prop := v = none ∧ Fr n0 L ∧ h = h0
theorem own_ens9_2 (l : Launch) (Z : State) (a0 : Array Value) (hw : own_HW a0 Z) (ws : List Jvm.Cond) (a1 vb : Addr) (kb : ClassId) (w0 w1 w2 w3 w4 w5 w6 w7 w8 : Int32) (h0 : Heap) (n0 : Nat) (Z0 : n0 ≤ h0.size) (P_E_a1 : Exa Z h0 a1 nn5_) (P_F_a1_value : Fld Z h0 a1 nn10_ "value" "[B" (.ref vb)) (P_F_a1_coder : Fld Z h0 a1 nn10_ "coder" "B" (.int 0)) (P_F_a1_count : Fld Z h0 a1 nn10_ "count" "I" (.int 9)) (P_V_vb : Arv Z h0 vb kb .byte 16 [.int w0, .int w1, .int w2, .int w3, .int w4, .int w5, .int w6, .int w7, .int w8, .int 0, .int 0, .int 0, .int 0, .int 0, .int 0, .int 0] (.int 0)) :
    own_MF l own_y28 (Jvm.Cond.code own_y28 jdk_68_method_9_code 3 none) ws R_own_ens9_2 #[.ref a1, .int 11] Z h0 (Q_own_ens9_2 Z a1 vb kb w0 w1 w2 w3 w4 w5 w6 w7 w8 h0 n0) := by
  refine own_begin (plainFor_of_name own_pn13) (fun m => ef20 m a1) ?_
  intro p e s m below meth c s₁ hx hby hml hown hnm hlk hret hZ X0 e0
  have N0 := Fr.nil n0
  have K0 := Keep.refl h0 []
  refine own_go (B := s₁.setTop (mkF m 1 #[Sr a1, Si 11, Su] [.ref a1])) (fun _ k => XS.aloadN X0.here hx rfl (hb hby d24_0) rfl rfl k) ?_
  refine own_gF X0 hx hZ hown (hw.w 119 rfl) Via.refl e0 P_F_a1_value rfl rfl (hb hby d24_1) fun T1 X1 e1 => ?_
  refine own_go (B := T1.setTop (mkF m 4 #[Sr a1, Si 11, Su] [.ref vb])) (fun _ k => k) ?_
  obtain ⟨cl2, Ar2, q2, S2, N2n, H2, G2⟩ := id P_V_vb
  refine own_go (fun _ k => X1.arraylength hx (own_hc e1 Ar2.1) (State.isArrayOf_alike hZ.alike Ar2.2.1) (g := (mkF m 4 #[Sr a1, Si 11, Su] [.ref vb])) rfl rfl (hb hby d24_4) _ k) ?_
  rw [len_of S2 N2n]
  show own_Fin _ _ _ _ _ _ _ (T1.setTop (mkF m 5 #[Sr a1, Si 11, Su] [.int 16]))
  refine own_go (B := T1.setTop (mkF m 6 #[Sr a1, Si 11, Su] [.ref a1, .int 16])) (fun _ k => XS.aloadN X1.here hx rfl (hb hby d24_5) rfl rfl k) ?_
  refine own_gF X1 hx hZ hown (hw.w 121 rfl) Via.refl e1 P_F_a1_coder rfl rfl (hb hby d24_6) fun T3 X3 e3 => ?_
  refine own_go (B := T3.setTop (mkF m 10 #[Sr a1, Si 11, Su] [(.int ((16 : Int32) >>> ((0 : Int32) &&& 31)))])) (fun _ k => XS.ishr X3.here hx rfl (hb hby d24_9) rfl k) ?_
  rw [show ((16 : Int32) >>> ((0 : Int32) &&& 31)) = (16 : Int32) from by decide]
  show own_Fin _ _ _ _ _ _ _ (T3.setTop (mkF m 10 #[Sr a1, Si 11, Su] [.int 16]))
  refine own_go (B := T3.setTop (mkF m 14 #[Sr a1, Si 11, Si 16] [(.int ((11 : Int32) - (16 : Int32)))])) (fun _ k => XS.istoreN X3.here hx rfl (hb hby d24_10) rfl (l' := #[Sr a1, Si 11, Si 16]) rfl (XS.iloadN X3.here hx rfl (hb hby d24_11) rfl (XS.iloadN X3.here hx rfl (hb hby d24_12) rfl (XS.isub X3.here hx rfl (hb hby d24_13) rfl k)))) ?_
  rw [show ((11 : Int32) - (16 : Int32)) = (-5 : Int32) from by decide]
  show own_Fin _ _ _ _ _ _ _ (T3.setTop (mkF m 14 #[Sr a1, Si 11, Si 16] [(.int (-5))]))
  have hc4 : ¬ ((0 : Int32) < (-5 : Int32)) := by decide
  refine own_go (B := T3.setTop (mkF m 38 #[Sr a1, Si 11, Si 16] [])) (fun _ k => XS.ifYes X3.here hx rfl (pc0 := 14) (pc' := 38) rfl (hb hby d24_14) rfl ((if0 _ _).trans (flt hc4).2.2.2) (by decide) (by decide) k) ?_
  exact own_retV X3 hx hlk hret (hb hby d24_38) e3 ⟨rfl, N0, rfl⟩ (by decide) (by decide)
abbrev R_own_put9_2 : Room := ⟨2, 0, 0, 33⟩
def Q_own_put9_2 (Z : State) (a1 a2 vb t2 : Addr) (k2 kb : ClassId) (u0 u1 w0 w1 w2 w3 w4 w5 w6 w7 w8 cs : Int32) (h0 : Heap) (n0 : Nat) (v : Option Value) (h : Heap) (L : List Loc) : Prop := v = none ∧ Fr n0 L ∧ Keep h0 h [vb] ∧ Arv Z h vb kb .byte 16 [.int w0, .int w1, .int w2, .int w3, .int w4, .int w5, .int w6, .int w7, .int w8, .int u0, .int u1, .int 0, .int 0, .int 0, .int 0, .int 0] (.int 0)
theorem own_put9_2 (l : Launch) (Z : State) (a0 : Array Value) (hw : own_HW a0 Z) (ws : List Jvm.Cond) (a1 a2 vb t2 : Addr) (k2 kb : ClassId) (u0 u1 w0 w1 w2 w3 w4 w5 w6 w7 w8 cs : Int32) (h0 : Heap) (n0 : Nat) (Z0 : n0 ≤ h0.size) (P_E_a1 : Exa Z h0 a1 nn5_) (P_F_a1_value : Fld Z h0 a1 nn10_ "value" "[B" (.ref vb)) (P_F_a1_coder : Fld Z h0 a1 nn10_ "coder" "B" (.int 0)) (P_F_a1_count : Fld Z h0 a1 nn10_ "count" "I" (.int 9)) (P_E_a2 : Exa Z h0 a2 nn3_) (P_F_a2_value : Fld Z h0 a2 nn3_ "value" "[B" (.ref t2)) (P_F_a2_coder : Fld Z h0 a2 nn3_ "coder" "B" (.int 0)) (P_V_t2 : Arv Z h0 t2 k2 .byte 2 [.int u0, .int u1] (.int 0)) (P_V_vb : Arv Z h0 vb kb .byte 16 [.int w0, .int w1, .int w2, .int w3, .int w4, .int w5, .int w6, .int w7, .int w8, .int 0, .int 0, .int 0, .int 0, .int 0, .int 0, .int 0] (.int 0)) (g_vb : n0 ≤ vb) (ne_a1_vb : a1 ≠ vb) (ne_a2_vb : a2 ≠ vb) (ne_t2_vb : t2 ≠ vb) (P_S_COMPACT_STRINGS : Sta Z h0 nn3_ nn16_ "Z" (.int cs)) (hcs : ¬ (cs = (0 : Int32))) :
    own_MF l own_y29 (Jvm.Cond.code own_y29 jdk_68_method_73_code 3 none) ws R_own_put9_2 #[.ref a1, .int 9, .ref a2] Z h0 (Q_own_put9_2 Z a1 a2 vb t2 k2 kb u0 u1 w0 w1 w2 w3 w4 w5 w6 w7 w8 cs h0 n0) := by
  refine own_begin (plainFor_of_name own_pn13) (fun m => ef19 m a1 a2) ?_
  intro p e s m below meth c s₁ hx hby hml hown hnm hlk hret hZ X0 e0
  have N0 := Fr.nil n0
  have K0 := Keep.refl h0 [vb]
  refine own_go (B := s₁.setTop (mkF m 2 #[Sr a1, Si 9, Sr a2] [.ref a2, .ref a1])) (fun _ k => XS.aloadN X0.here hx rfl (hb hby d25_0) rfl rfl (XS.aloadN X0.here hx rfl (hb hby d25_1) rfl rfl k)) ?_
  refine own_cP (own_rm26 l Z a0 hw [] a1 a2 cs h0 n0 (Nat.le_trans Z0 K0.1) P_F_a1_coder P_E_a2 P_F_a2_coder P_S_COMPACT_STRINGS hcs) X0 hx hZ hown (hw.w 156 rfl) (hw.w 157 rfl) (hw.w 159 rfl) (hw.w 115 rfl) (hw.w 160 rfl) P_E_a1 e0 rfl rfl (by rw [hml]; rfl) (rest := []) (lenOf own_pd12 rfl) rfl (hb hby d25_2) (W := 0) (show 2 * 0 + _ = _ from rfl) (by decide) (by decide) ?_
  rintro _ T1 L1 X1 ⟨rfl, N1q, e1⟩
  have N1 := Fr.app N0 N1q
  refine own_go (B := T1.setTop (mkF m 7 #[Sr a1, Si 9, Sr a2] [.ref a1, .ref a2])) (fun _ k => XS.aloadN X1.here hx rfl (hb hby d25_5) rfl rfl (XS.aloadN X1.here hx rfl (hb hby d25_6) rfl rfl k)) ?_
  refine own_gF X1 hx hZ hown (hw.w 119 rfl) Via.refl e1 P_F_a1_value rfl rfl (hb hby d25_7) fun T2 X2 e2 => ?_
  refine own_go (B := T2.setTop (mkF m 12 #[Sr a1, Si 9, Sr a2] [.ref a1, .int 9, .ref vb, .ref a2])) (fun _ k => XS.iloadN X2.here hx rfl (hb hby d25_10) rfl (XS.aloadN X2.here hx rfl (hb hby d25_11) rfl rfl k)) ?_
  refine own_gF X2 hx hZ hown (hw.w 121 rfl) Via.refl e2 P_F_a1_coder rfl rfl (hb hby d25_12) fun T3 X3 e3 => ?_
  refine own_go (B := T3.setTop (mkF m 15 #[Sr a1, Si 9, Sr a2] [.int 0, .int 9, .ref vb, .ref a2])) (fun _ k => k) ?_
  refine own_cV (own_gb9_2 l Z a0 hw [] a2 vb t2 k2 kb u0 u1 w0 w1 w2 w3 w4 w5 w6 w7 w8 cs h0 n0 (Nat.le_trans Z0 K0.1) P_E_a2 P_F_a2_value P_F_a2_coder P_V_t2 P_V_vb g_vb ne_a2_vb ne_t2_vb P_S_COMPACT_STRINGS hcs) X3 hx hZ hown (hw.w 162 rfl) (hw.w 163 rfl) (notFace_of_selects (args := #[]) (mvT hZ (hw.w 165 rfl))) (hw.w 165 rfl) (hw.w 164 rfl) (hw.w 2 rfl) (hw.w 166 rfl) P_E_a2 e3 rfl rfl (by rw [hml]; rfl) (rest := []) (lenOf own_pd13 rfl) rfl (hb hby d25_15) (W := 0) (show 2 * 0 + _ = _ from rfl) (by decide) (by decide) ?_
  rintro _ T4 L4 X4 ⟨rfl, N4q, K4q, Q4_0⟩
  have N4 := Fr.app N1 N4q
  have K16 : Keep h0 T4.heap [vb] := K0.trans K4q (allS (Or.inl (List.mem_of_getElem? (i := 0) rfl)) all0)
  refine own_go (B := T4.setTop (mkF m 18 #[Sr a1, Si 9, Sr a2] [])) (fun _ k => k) ?_
  exact own_retV X4 hx hlk hret (hb hby d25_18) rfl ⟨rfl, N4, K16, Q4_0⟩ (by decide) (by decide)
abbrev R_own_apA9_2 : Room := ⟨3, 0, 0, 47⟩
def Q_own_apA9_2 (Z : State) (a1 a2 vb t2 : Addr) (k2 kb : ClassId) (u0 u1 w0 w1 w2 w3 w4 w5 w6 w7 w8 cs : Int32) (h0 : Heap) (n0 : Nat) (v : Option Value) (h : Heap) (L : List Loc) : Prop := v = some (.ref a1) ∧ Fr n0 L ∧ Keep h0 h [a1, vb] ∧ Exa Z h a1 nn5_ ∧ Fld Z h a1 nn10_ "value" "[B" (.ref vb) ∧ Fld Z h a1 nn10_ "coder" "B" (.int 0) ∧ Fld Z h a1 nn10_ "count" "I" (.int 11) ∧ Arv Z h vb kb .byte 16 [.int w0, .int w1, .int w2, .int w3, .int w4, .int w5, .int w6, .int w7, .int w8, .int u0, .int u1, .int 0, .int 0, .int 0, .int 0, .int 0] (.int 0)
theorem own_apA9_2 (l : Launch) (Z : State) (a0 : Array Value) (hw : own_HW a0 Z) (ws : List Jvm.Cond) (a1 a2 vb t2 : Addr) (k2 kb : ClassId) (u0 u1 w0 w1 w2 w3 w4 w5 w6 w7 w8 cs : Int32) (h0 : Heap) (n0 : Nat) (Z0 : n0 ≤ h0.size) (P_E_a1 : Exa Z h0 a1 nn5_) (P_F_a1_value : Fld Z h0 a1 nn10_ "value" "[B" (.ref vb)) (P_F_a1_coder : Fld Z h0 a1 nn10_ "coder" "B" (.int 0)) (P_F_a1_count : Fld Z h0 a1 nn10_ "count" "I" (.int 9)) (P_E_a2 : Exa Z h0 a2 nn3_) (P_F_a2_value : Fld Z h0 a2 nn3_ "value" "[B" (.ref t2)) (P_F_a2_coder : Fld Z h0 a2 nn3_ "coder" "B" (.int 0)) (P_V_t2 : Arv Z h0 t2 k2 .byte 2 [.int u0, .int u1] (.int 0)) (P_V_vb : Arv Z h0 vb kb .byte 16 [.int w0, .int w1, .int w2, .int w3, .int w4, .int w5, .int w6, .int w7, .int w8, .int 0, .int 0, .int 0, .int 0, .int 0, .int 0, .int 0] (.int 0)) (g_vb : n0 ≤ vb) (ne_a1_vb : a1 ≠ vb) (ne_a2_vb : a2 ≠ vb) (ne_t2_vb : t2 ≠ vb) (P_S_COMPACT_STRINGS : Sta Z h0 nn3_ nn16_ "Z" (.int cs)) (hcs : ¬ (cs = (0 : Int32))) (ne_a2_a1 : a2 ≠ a1) (ne_t2_a1 : t2 ≠ a1) (g_a1 : n0 ≤ a1) :
    own_MF l own_y30 (Jvm.Cond.code own_y30 jdk_68_method_22_code 3 (some (.object "java/lang/AbstractStringBuilder"))) ws R_own_apA9_2 #[.ref a1, .ref a2] Z h0 (Q_own_apA9_2 Z a1 a2 vb t2 k2 kb u0 u1 w0 w1 w2 w3 w4 w5 w6 w7 w8 cs h0 n0) := by
  refine own_begin (plainFor_of_name own_pn13) (fun m => ef10 m a1 a2) ?_
  intro p e s m below meth c s₁ hx hby hml hown hnm hlk hret hZ X0 e0
  have N0 := Fr.nil n0
  have K0 := Keep.refl h0 [a1, vb]
  refine own_go (B := s₁.setTop (mkF m 10 #[Sr a1, Sr a2, Su] [.ref a2])) (fun _ k => XS.aloadN X0.here hx rfl (hb hby d21_0) rfl rfl (XS.ifnonnullYes X0.here hx rfl (pc0 := 1) (pc' := 9) rfl (hb hby d21_1) rfl (by decide) (by decide) (XS.aloadN X0.here hx rfl (hb hby d21_9) rfl rfl k))) ?_
  refine own_cV (own_len2_0 l Z a0 hw [] a2 t2 k2 u0 u1 cs h0 n0 (Nat.le_trans Z0 K0.1) P_E_a2 P_F_a2_value P_F_a2_coder P_V_t2 P_S_COMPACT_STRINGS hcs) X0 hx hZ hown (hw.w 134 rfl) (hw.w 135 rfl) (notFace_of_selects (args := #[]) (mvT hZ (hw.w 137 rfl))) (hw.w 137 rfl) (hw.w 136 rfl) (hw.w 2 rfl) (hw.w 138 rfl) P_E_a2 e0 rfl rfl (by rw [hml]; rfl) (rest := []) (lenOf own_pd14 rfl) rfl (hb hby d21_10) (W := 0) (show 2 * 0 + _ = _ from rfl) (by decide) (by decide) ?_
  rintro _ T1 L1 X1 ⟨rfl, N1q, e1⟩
  have N1 := Fr.app N0 N1q
  refine own_go (B := T1.setTop (mkF m 16 #[Sr a1, Sr a2, Si 2] [.ref a1, .ref a1])) (fun _ k => XS.istoreN X1.here hx rfl (hb hby d21_13) rfl (l' := #[Sr a1, Sr a2, Si 2]) rfl (XS.aloadN X1.here hx rfl (hb hby d21_14) rfl rfl (XS.aloadN X1.here hx rfl (hb hby d21_15) rfl rfl k))) ?_
  refine own_gF X1 hx hZ hown (hw.w 144 rfl) Via.refl e1 P_F_a1_count rfl rfl (hb hby d21_16) fun T2 X2 e2 => ?_
  refine own_go (B := T2.setTop (mkF m 21 #[Sr a1, Sr a2, Si 2] [(.int ((9 : Int32) + (2 : Int32))), .ref a1])) (fun _ k => XS.iloadN X2.here hx rfl (hb hby d21_19) rfl (XS.iadd X2.here hx rfl (hb hby d21_20) rfl k)) ?_
  rw [show ((9 : Int32) + (2 : Int32)) = (11 : Int32) from by decide]
  show own_Fin _ _ _ _ _ _ _ (T2.setTop (mkF m 21 #[Sr a1, Sr a2, Si 2] [.int 11, .ref a1]))
  refine own_cP (own_ens9_2 l Z a0 hw [] a1 vb kb w0 w1 w2 w3 w4 w5 w6 w7 w8 h0 n0 (Nat.le_trans Z0 K0.1) P_E_a1 P_F_a1_value P_F_a1_coder P_F_a1_count P_V_vb) X2 hx hZ hown (hw.w 146 rfl) (hw.w 147 rfl) (hw.w 149 rfl) (hw.w 115 rfl) (hw.w 150 rfl) P_E_a1 e2 rfl rfl (by rw [hml]; rfl) (rest := []) (lenOf own_pd11 rfl) rfl (hb hby d21_21) (W := 0) (show 2 * 0 + _ = _ from rfl) (by decide) (by decide) ?_
  rintro _ T3 L3 X3 ⟨rfl, N3q, e3⟩
  have N3 := Fr.app N1 N3q
  refine own_go (B := T3.setTop (mkF m 26 #[Sr a1, Sr a2, Si 2] [.ref a1, .ref a1])) (fun _ k => XS.aloadN X3.here hx rfl (hb hby d21_24) rfl rfl (XS.aloadN X3.here hx rfl (hb hby d21_25) rfl rfl k)) ?_
  refine own_gF X3 hx hZ hown (hw.w 144 rfl) Via.refl e3 P_F_a1_count rfl rfl (hb hby d21_26) fun T4 X4 e4 => ?_
  refine own_go (B := T4.setTop (mkF m 30 #[Sr a1, Sr a2, Si 2] [.ref a2, .int 9, .ref a1])) (fun _ k => XS.aloadN X4.here hx rfl (hb hby d21_29) rfl rfl k) ?_
  refine own_cP (own_put9_2 l Z a0 hw [] a1 a2 vb t2 k2 kb u0 u1 w0 w1 w2 w3 w4 w5 w6 w7 w8 cs h0 n0 (Nat.le_trans Z0 K0.1) P_E_a1 P_F_a1_value P_F_a1_coder P_F_a1_count P_E_a2 P_F_a2_value P_F_a2_coder P_V_t2 P_V_vb g_vb ne_a1_vb ne_a2_vb ne_t2_vb P_S_COMPACT_STRINGS hcs) X4 hx hZ hown (hw.w 151 rfl) (hw.w 152 rfl) (hw.w 154 rfl) (hw.w 115 rfl) (hw.w 155 rfl) P_E_a1 e4 rfl rfl (by rw [hml]; rfl) (rest := []) (lenOf own_pd15 rfl) rfl (hb hby d21_30) (W := 0) (show 2 * 0 + _ = _ from rfl) (by decide) (by decide) ?_
  rintro _ T5 L5 X5 ⟨rfl, N5q, K5q, Q5_0⟩
  have N5 := Fr.app N3 N5q
  have E_7 := P_E_a1.keep K5q
  have F_8 := P_F_a1_value.keep K5q (ninS ne_a1_vb nin0)
  have F_9 := P_F_a1_coder.keep K5q (ninS ne_a1_vb nin0)
  have F_10 := P_F_a1_count.keep K5q (ninS ne_a1_vb nin0)
  have K17 : Keep h0 T5.heap [a1, vb] := K0.trans K5q (allS (Or.inl (List.mem_of_getElem? (i := 1) rfl)) all0)
  refine own_go (B := T5.setTop (mkF m 35 #[Sr a1, Sr a2, Si 2] [.ref a1, .ref a1])) (fun _ k => XS.aloadN X5.here hx rfl (hb hby d21_33) rfl rfl (XS.dup X5.here hx rfl (hb hby d21_34) rfl rfl k)) ?_
  refine own_gF X5 hx hZ hown (hw.w 144 rfl) Via.refl rfl F_10 rfl rfl (hb hby d21_35) fun T18 X18 e18 => ?_
  refine own_go (B := T18.setTop (mkF m 40 #[Sr a1, Sr a2, Si 2] [(.int ((9 : Int32) + (2 : Int32))), .ref a1])) (fun _ k => XS.iloadN X18.here hx rfl (hb hby d21_38) rfl (XS.iadd X18.here hx rfl (hb hby d21_39) rfl k)) ?_
  rw [show ((9 : Int32) + (2 : Int32)) = (11 : Int32) from by decide]
  show own_Fin _ _ _ _ _ _ _ (T18.setTop (mkF m 40 #[Sr a1, Sr a2, Si 2] [.int 11, .ref a1]))
  refine own_pF X18 hx hZ hown (hw.w 144 rfl) Via.refl e18 F_10 E_7 (Or.inl (hw.w 145 rfl)) (hw.w 106 rfl) (ty := .int) (v := (.int 11)) (by decide) rfl rfl rfl rfl (hb hby d21_40) fun T19 h19 X19 e19 W19 => ?_
  have F_w19 : Fld Z h19 a1 nn10_ "count" "I" (.int 11) := F_10.same W19
  have E_21 := E_7.wr W19
  have F_22 := F_8.other W19 (Or.inr (slot_ne (Or.inl (hw.w 120 rfl)) (Or.inl (hw.w 145 rfl)) (by decide) (t := (.array .byte)) (t' := .int) (by decide) (by decide)))
  have F_23 := F_9.other W19 (Or.inr (slot_ne (Or.inl (hw.w 122 rfl)) (Or.inl (hw.w 145 rfl)) (by decide) (t := .byte) (t' := .int) (by decide) (by decide)))
  have V_30 := Q5_0.other W19 (Ne.symm ne_a1_vb)
  have K31 : Keep h0 h19 [a1, vb] := K17.wr W19 (Or.inl (List.mem_of_getElem? (i := 0) rfl))
  have N19 := Fr.snoc X19 N5 g_a1
  refine own_go (B := T19.setTop (mkF m 44 #[Sr a1, Sr a2, Si 2] [.ref a1])) (fun _ k => XS.aloadN X19.here hx rfl (hb hby d21_43) rfl rfl k) ?_
  exact own_retA X19 hx hlk hret rfl rfl (hb hby d21_44) e19 ⟨rfl, N19, K31, E_21, F_22, F_23, F_w19, V_30⟩ (by decide) (by decide)
abbrev R_own_ap9_2 : Room := ⟨4, 0, 0, 61⟩
def Q_own_ap9_2 (Z : State) (a1 a2 vb t2 : Addr) (k2 kb : ClassId) (u0 u1 w0 w1 w2 w3 w4 w5 w6 w7 w8 cs : Int32) (h0 : Heap) (n0 : Nat) (v : Option Value) (h : Heap) (L : List Loc) : Prop := v = some (.ref a1) ∧ Fr n0 L ∧ Keep h0 h [a1, vb] ∧ Exa Z h a1 nn5_ ∧ Fld Z h a1 nn10_ "value" "[B" (.ref vb) ∧ Fld Z h a1 nn10_ "coder" "B" (.int 0) ∧ Fld Z h a1 nn10_ "count" "I" (.int 11) ∧ Arv Z h vb kb .byte 16 [.int w0, .int w1, .int w2, .int w3, .int w4, .int w5, .int w6, .int w7, .int w8, .int u0, .int u1, .int 0, .int 0, .int 0, .int 0, .int 0] (.int 0)
theorem own_ap9_2 (l : Launch) (Z : State) (a0 : Array Value) (hw : own_HW a0 Z) (ws : List Jvm.Cond) (a1 a2 vb t2 : Addr) (k2 kb : ClassId) (u0 u1 w0 w1 w2 w3 w4 w5 w6 w7 w8 cs : Int32) (h0 : Heap) (n0 : Nat) (Z0 : n0 ≤ h0.size) (P_E_a1 : Exa Z h0 a1 nn5_) (P_F_a1_value : Fld Z h0 a1 nn10_ "value" "[B" (.ref vb)) (P_F_a1_coder : Fld Z h0 a1 nn10_ "coder" "B" (.int 0)) (P_F_a1_count : Fld Z h0 a1 nn10_ "count" "I" (.int 9)) (P_E_a2 : Exa Z h0 a2 nn3_) (P_F_a2_value : Fld Z h0 a2 nn3_ "value" "[B" (.ref t2)) (P_F_a2_coder : Fld Z h0 a2 nn3_ "coder" "B" (.int 0)) (P_V_t2 : Arv Z h0 t2 k2 .byte 2 [.int u0, .int u1] (.int 0)) (P_V_vb : Arv Z h0 vb kb .byte 16 [.int w0, .int w1, .int w2, .int w3, .int w4, .int w5, .int w6, .int w7, .int w8, .int 0, .int 0, .int 0, .int 0, .int 0, .int 0, .int 0] (.int 0)) (g_vb : n0 ≤ vb) (ne_a1_vb : a1 ≠ vb) (ne_a2_vb : a2 ≠ vb) (ne_t2_vb : t2 ≠ vb) (P_S_COMPACT_STRINGS : Sta Z h0 nn3_ nn16_ "Z" (.int cs)) (hcs : ¬ (cs = (0 : Int32))) (ne_a2_a1 : a2 ≠ a1) (ne_t2_a1 : t2 ≠ a1) (g_a1 : n0 ≤ a1) :
    own_MF l own_y31 (Jvm.Cond.code own_y31 jdk_67_method_7_code 2 (some (.object "java/lang/StringBuilder"))) ws R_own_ap9_2 #[.ref a1, .ref a2] Z h0 (Q_own_ap9_2 Z a1 a2 vb t2 k2 kb u0 u1 w0 w1 w2 w3 w4 w5 w6 w7 w8 cs h0 n0) := by
  refine own_begin (plainFor_of_name own_pn14) (fun m => ef1 m a1 a2) ?_
  intro p e s m below meth c s₁ hx hby hml hown hnm hlk hret hZ X0 e0
  have N0 := Fr.nil n0
  have K0 := Keep.refl h0 [a1, vb]
  refine own_go (B := s₁.setTop (mkF m 2 #[Sr a1, Sr a2] [.ref a2, .ref a1])) (fun _ k => XS.aloadN X0.here hx rfl (hb hby d20_0) rfl rfl (XS.aloadN X0.here hx rfl (hb hby d20_1) rfl rfl k)) ?_
  obtain ⟨_, _, ⟨T1, L1, k1, n1⟩, -, X1, ⟨Lc1, hQ1, l1, y1, z1⟩, st1⟩ := superBack X0 hx hZ (y := own_y30) hown (hw.w 129 rfl) (own_same (y := own_y30) (y' := own_y28) (hw.w 130 rfl) (hw.w 147 rfl) (notFace_of_selects (hw.w 149 rfl)) rfl (by decide)) (hw.w 130 rfl) (hw.w 131 rfl) (by decide) (backOf (W := 0) (own_apA9_2 l Z a0 hw [] a1 a2 vb t2 k2 kb u0 u1 w0 w1 w2 w3 w4 w5 w6 w7 w8 cs h0 n0 (Nat.le_trans Z0 K0.1) P_E_a1 P_F_a1_value P_F_a1_coder P_F_a1_count P_E_a2 P_F_a2_value P_F_a2_coder P_V_t2 P_V_vb g_vb ne_a1_vb ne_a2_vb ne_t2_vb P_S_COMPACT_STRINGS hcs ne_a2_a1 ne_t2_a1 g_a1) hZ (hw.w 133 rfl) (hw.w 115 rfl) (by decide) (by decide)) e0 (Ins.self P_E_a1) (g := (mkF m 2 #[Sr a1, Sr a2] [.ref a2, .ref a1])) rfl (by rw [hml]; rfl) (hw.w 133 rfl) (argsL := [.ref a2]) (rest := []) (lenOf own_pd16 rfl) rfl (by show 2 * 0 + _ ≤ _; exact Nat.le_of_eq rfl) (hb hby d20_2) (fun _ _ => ⟨rfl, e0, (by decide : 0 + 0 ≤ _), (by decide : 0 + 0 ≤ _)⟩)
  dsimp only [Pt.U, Pt.locs, Pt.cells, Pt.slots] at X1 l1 y1 z1 st1 hQ1
  subst l1 y1 z1
  obtain ⟨rfl, N1q, K1q, Q1_0, Q1_1, Q1_2, Q1_3, Q1_4⟩ := hQ1
  have N1 := Fr.app N0 N1q
  have K13 : Keep h0 T1.heap [a1, vb] := K0.trans K1q (allS (Or.inl (List.mem_of_getElem? (i := 0) rfl)) (allS (Or.inl (List.mem_of_getElem? (i := 1) rfl)) all0))
  refine own_go (B := T1.setTop (mkF m 7 #[Sr a1, Sr a2] [.ref a1])) (fun _ k => st1.trans (XS.pop X1.here hx rfl (hb hby d20_5) rfl rfl (XS.aloadN X1.here hx rfl (hb hby d20_6) rfl rfl k))) ?_
  exact own_retA X1 hx hlk hret rfl rfl (hb hby d20_7) rfl ⟨rfl, N1, K13, Q1_0, Q1_1, Q1_2, Q1_3, Q1_4⟩ (by decide) (by decide)
abbrev R_own_rm31 : Room := ⟨0, 0, 0, 0⟩
theorem d31_0 : own_D cd31 0 (.aload_n 0) 1 := by decide +kernel
theorem d31_1 : own_D cd31 1 (.getfield 15) 3 := by decide +kernel
theorem d31_4 : own_D cd31 4 .areturn 1 := by decide +kernel
def Q_own_rm31 (Z : State) (a1 vb : Addr) (h0 : Heap) (n0 : Nat) (v : Option Value) (h : Heap) (L : List Loc) : Prop := v = some (.ref vb) ∧ Fr n0 L ∧ h = h0
theorem own_rm31 (l : Launch) (Z : State) (a0 : Array Value) (hw : own_HW a0 Z) (ws : List Jvm.Cond) (a1 vb : Addr) (h0 : Heap) (n0 : Nat) (Z0 : n0 ≤ h0.size) (P_F_a1_value : Fld Z h0 a1 nn10_ "value" "[B" (.ref vb)) :
    own_MF l own_y32 (Jvm.Cond.code own_y32 jdk_68_method_64_code 1 (some (.array .byte))) ws R_own_rm31 #[.ref a1] Z h0 (Q_own_rm31 Z a1 vb h0 n0) := by
  refine own_begin (plainFor_of_name own_pn13) (fun m => ef0 m a1) ?_
  intro p e s m below meth c s₁ hx hby hml hown hnm hlk hret hZ X0 e0
  have N0 := Fr.nil n0
  have K0 := Keep.refl h0 []
  refine own_go (B := s₁.setTop (mkF m 1 #[Sr a1] [.ref a1])) (fun _ k => XS.aloadN X0.here hx rfl (hb hby d31_0) rfl rfl k) ?_
  refine own_gF X0 hx hZ hown (hw.w 119 rfl) Via.refl e0 P_F_a1_value rfl rfl (hb hby d31_1) fun T1 X1 e1 => ?_
  refine own_go (B := T1.setTop (mkF m 4 #[Sr a1] [.ref vb])) (fun _ k => k) ?_
  exact own_retA X1 hx hlk hret rfl rfl (hb hby d31_4) e1 ⟨rfl, N0, rfl⟩ (by decide) (by decide)
abbrev R_own_rm34 : Room := ⟨0, 0, 0, 0⟩
theorem d34_0 : own_D cd34 0 (.getstatic 18) 3 := by decide +kernel
theorem d34_3 : own_D cd34 3 (.ifCond .eq 14) 3 := by decide +kernel
theorem d34_6 : own_D cd34 6 (.aload_n 0) 1 := by decide +kernel
theorem d34_7 : own_D cd34 7 (.getfield 22) 3 := by decide +kernel
theorem d34_10 : own_D cd34 10 (.ifCond .ne 7) 3 := by decide +kernel
theorem d34_13 : own_D cd34 13 (.iconst 1) 1 := by decide +kernel
theorem d34_14 : own_D cd34 14 (.goto 4) 3 := by decide +kernel
theorem d34_18 : own_D cd34 18 .ireturn 1 := by decide +kernel
def Q_own_rm34 (Z : State) (a1 : Addr) (cs : Int32) (h0 : Heap) (n0 : Nat) (v : Option Value) (h : Heap) (L : List Loc) : Prop := v = some (.int 1) ∧ Fr n0 L ∧ h = h0
theorem own_rm34 (l : Launch) (Z : State) (a0 : Array Value) (hw : own_HW a0 Z) (ws : List Jvm.Cond) (a1 : Addr) (cs : Int32) (h0 : Heap) (n0 : Nat) (Z0 : n0 ≤ h0.size) (P_F_a1_coder : Fld Z h0 a1 nn10_ "coder" "B" (.int 0)) (P_S_COMPACT_STRINGS : Sta Z h0 nn3_ nn16_ "Z" (.int cs)) (hcs : ¬ (cs = (0 : Int32))) :
    own_MF l own_y33 (Jvm.Cond.code own_y33 jdk_68_method_68_code 1 (some .boolean)) ws R_own_rm34 #[.ref a1] Z h0 (Q_own_rm34 Z a1 cs h0 n0) := by
  refine own_begin (plainFor_of_name own_pn13) (fun m => ef0 m a1) ?_
  intro p e s m below meth c s₁ hx hby hml hown hnm hlk hret hZ X0 e0
  have N0 := Fr.nil n0
  have K0 := Keep.refl h0 []
  refine own_gS X0 hx hZ hown (hw.w 118 rfl) Via.refl e0 P_S_COMPACT_STRINGS rfl (hb hby d34_0) fun T1 X1 e1 => ?_
  refine own_go (B := T1.setTop (mkF m 7 #[Sr a1] [.ref a1])) (fun _ k => XS.ifNo X1.here hx rfl (hb hby d34_3) rfl ((if0 _ _).trans (feq hcs).1) (XS.aloadN X1.here hx rfl (hb hby d34_6) rfl rfl k)) ?_
  refine own_gF X1 hx hZ hown (hw.w 121 rfl) Via.refl e1 P_F_a1_coder rfl rfl (hb hby d34_7) fun T2 X2 e2 => ?_
  refine own_go (B := T2.setTop (mkF m 10 #[Sr a1] [.int 0])) (fun _ k => k) ?_
  have hc3 : (0 : Int32) = (0 : Int32) := by decide
  refine own_go (B := T2.setTop (mkF m 18 #[Sr a1] [.int 1])) (fun _ k => XS.ifNo X2.here hx rfl (hb hby d34_10) rfl ((if0 _ _).trans (teq hc3).2) (XS.iconst X2.here hx rfl (hb hby d34_13) (XS.goto X2.here hx rfl (pc0 := 14) (pc' := 18) rfl (hb hby d34_14) (by decide) (by decide) k))) ?_
  exact own_retN X2 hx hlk (t := .boolean) (w := (1 : Int32)) hret (by simp) (hb hby d34_18) e2 rfl ⟨rfl, N0, rfl⟩ (by decide) (by decide)
abbrev R_own_aln10 : Room := ⟨0, 0, 0, 0⟩
theorem d33_0 : own_D cd33 0 (.aload_n 0) 1 := by decide +kernel
theorem d33_1 : own_D cd33 1 (.getfield 79) 3 := by decide +kernel
theorem d33_4 : own_D cd33 4 .ireturn 1 := by decide +kernel
def Q_own_aln10 (Z : State) (a1 : Addr) (h0 : Heap) (n0 : Nat) (v : Option Value) (h : Heap) (L : List Loc) : Prop := v = some (.int 10) ∧ Fr n0 L ∧ h = h0
theorem own_aln10 (l : Launch) (Z : State) (a0 : Array Value) (hw : own_HW a0 Z) (ws : List Jvm.Cond) (a1 : Addr) (h0 : Heap) (n0 : Nat) (Z0 : n0 ≤ h0.size) (P_F_a1_count : Fld Z h0 a1 nn10_ "count" "I" (.int 10)) :
    own_MF l own_y34 (Jvm.Cond.code own_y34 jdk_68_method_6_code 1 (some .int)) ws R_own_aln10 #[.ref a1] Z h0 (Q_own_aln10 Z a1 h0 n0) := by
  refine own_begin (plainFor_of_name own_pn13) (fun m => ef0 m a1) ?_
  intro p e s m below meth c s₁ hx hby hml hown hnm hlk hret hZ X0 e0
  have N0 := Fr.nil n0
  have K0 := Keep.refl h0 []
  refine own_go (B := s₁.setTop (mkF m 1 #[Sr a1] [.ref a1])) (fun _ k => XS.aloadN X0.here hx rfl (hb hby d33_0) rfl rfl k) ?_
  refine own_gF X0 hx hZ hown (hw.w 144 rfl) Via.refl e0 P_F_a1_count rfl rfl (hb hby d33_1) fun T1 X1 e1 => ?_
  refine own_go (B := T1.setTop (mkF m 4 #[Sr a1] [.int 10])) (fun _ k => k) ?_
  exact own_retI X1 hx hlk hret (hb hby d33_4) e1 ⟨rfl, N0, rfl⟩ (by decide) (by decide)
abbrev R_own_sln10 : Room := ⟨1, 0, 0, 12⟩
theorem d32_0 : own_D cd32 0 (.aload_n 0) 1 := by decide +kernel
theorem d32_1 : own_D cd32 1 (.invokespecial 343) 3 := by decide +kernel
theorem d32_4 : own_D cd32 4 .ireturn 1 := by decide +kernel
def Q_own_sln10 (Z : State) (a1 : Addr) (h0 : Heap) (n0 : Nat) (v : Option Value) (h : Heap) (L : List Loc) : Prop := v = some (.int 10) ∧ Fr n0 L ∧ h = h0
theorem own_sln10 (l : Launch) (Z : State) (a0 : Array Value) (hw : own_HW a0 Z) (ws : List Jvm.Cond) (a1 : Addr) (h0 : Heap) (n0 : Nat) (Z0 : n0 ≤ h0.size) (P_F_a1_count : Fld Z h0 a1 nn10_ "count" "I" (.int 10)) (P_E_a1 : Exa Z h0 a1 nn5_) :
    own_MF l own_y35 (Jvm.Cond.code own_y35 jdk_67_method_93_code 1 (some .int)) ws R_own_sln10 #[.ref a1] Z h0 (Q_own_sln10 Z a1 h0 n0) := by
  refine own_begin (plainFor_of_name own_pn14) (fun m => ef0 m a1) ?_
  intro p e s m below meth c s₁ hx hby hml hown hnm hlk hret hZ X0 e0
  have N0 := Fr.nil n0
  have K0 := Keep.refl h0 []
  refine own_go (B := s₁.setTop (mkF m 1 #[Sr a1] [.ref a1])) (fun _ k => XS.aloadN X0.here hx rfl (hb hby d32_0) rfl rfl k) ?_
  obtain ⟨_, _, ⟨T1, L1, k1, n1⟩, -, X1, ⟨Lc1, hQ1, l1, y1, z1⟩, st1⟩ := superBack X0 hx hZ (y := own_y34) hown (hw.w 194 rfl) (own_same (y := own_y34) (y' := own_y28) (hw.w 190 rfl) (hw.w 147 rfl) (notFace_of_selects (hw.w 149 rfl)) rfl (by decide)) (hw.w 190 rfl) (hw.w 131 rfl) (by decide) (backOf (W := 0) (own_aln10 l Z a0 hw [] a1 h0 n0 (Nat.le_trans Z0 K0.1) P_F_a1_count) hZ (hw.w 195 rfl) (hw.w 115 rfl) (by decide) (by decide)) e0 (Ins.self P_E_a1) (g := (mkF m 1 #[Sr a1] [.ref a1])) rfl (by rw [hml]; rfl) (hw.w 195 rfl) (argsL := []) (rest := []) (lenOf own_pd14 rfl) rfl (by show 2 * 0 + _ ≤ _; exact Nat.le_of_eq rfl) (hb hby d32_1) (fun _ _ => ⟨rfl, e0, (by decide : 0 + 0 ≤ _), (by decide : 0 + 0 ≤ _)⟩)
  dsimp only [Pt.U, Pt.locs, Pt.cells, Pt.slots] at X1 l1 y1 z1 st1 hQ1
  subst l1 y1 z1
  obtain ⟨rfl, N1q, e1⟩ := hQ1
  have N1 := Fr.app N0 N1q
  refine own_go (B := T1.setTop (mkF m 4 #[Sr a1] [.int 10])) (fun _ k => st1.trans k) ?_
  exact own_retI X1 hx hlk hret (hb hby d32_4) e1 ⟨rfl, N1, rfl⟩ (by decide) (by decide)
abbrev R_own_chl10 : Room := ⟨0, 0, 0, 0⟩
theorem d37_0 : own_D cd37 0 (.iload_n 1) 1 := by decide +kernel
theorem d37_1 : own_D cd37 1 (.iload_n 0) 1 := by decide +kernel
theorem d37_2 : own_D cd37 2 (.if_icmp .ge 35) 3 := by decide +kernel
theorem d37_37 : own_D cd37 37 .return_ 1 := by decide +kernel
theorem own_pn15 : plainName "java/util/Arrays" = true := by first | (simp [plainName, overriddenIn]; done) | decide +kernel
theorem ef21 (m : MethodId)  : entryFrame m #[(.int 0), (.int 10)] 2 = mkF m 0 #[.val (.int 0), .val (.int 10)] [] := by first | (simp [entryFrame, mkF, argsToLocals, Value.category]; done) | rfl
def Q_own_chl10 (Z : State)  (h0 : Heap) (n0 : Nat) (v : Option Value) (h : Heap) (L : List Loc) : Prop := v = none ∧ Fr n0 L ∧ h = h0
theorem own_chl10 (l : Launch) (Z : State) (a0 : Array Value) (hw : own_HW a0 Z) (ws : List Jvm.Cond)  (h0 : Heap) (n0 : Nat) (Z0 : n0 ≤ h0.size)  :
    own_MF l own_y36 (Jvm.Cond.code own_y36 jdk_65_method_131_code 2 none) ws R_own_chl10 #[.int 0, .int 10] Z h0 (Q_own_chl10 Z  h0 n0) := by
  refine own_begin (plainFor_of_name own_pn15) (fun m => ef21 m ) ?_
  intro p e s m below meth c s₁ hx hby hml hown hnm hlk hret hZ X0 e0
  have N0 := Fr.nil n0
  have K0 := Keep.refl h0 []
  refine own_go (B := s₁.setTop (mkF m 2 #[Si 0, Si 10] [.int 0, .int 10])) (fun _ k => XS.iloadN X0.here hx rfl (hb hby d37_0) rfl (XS.iloadN X0.here hx rfl (hb hby d37_1) rfl  k)) ?_
  have hc1 : ¬ ((10 : Int32) < (0 : Int32)) := by decide
  refine own_go (B := s₁.setTop (mkF m 37 #[Si 0, Si 10] [])) (fun _ k => XS.icmpYes X0.here hx rfl (pc0 := 2) (pc' := 37) rfl (hb hby d37_2) rfl (flt hc1).2.1 (by decide) (by decide) k) ?_
  exact own_retV X0 hx hlk hret (hb hby d37_37) e0 ⟨rfl, N0, rfl⟩ (by decide) (by decide)
abbrev R_own_min10 : Room := ⟨0, 0, 0, 0⟩
theorem d38_0 : own_D cd38 0 (.iload_n 0) 1 := by decide +kernel
theorem d38_1 : own_D cd38 1 (.iload_n 1) 1 := by decide +kernel
theorem d38_2 : own_D cd38 2 (.if_icmp .gt 7) 3 := by decide +kernel
theorem d38_9 : own_D cd38 9 (.iload_n 1) 1 := by decide +kernel
theorem d38_10 : own_D cd38 10 .ireturn 1 := by decide +kernel
theorem ef22 (m : MethodId)  : entryFrame m #[(.int 16), (.int 10)] 2 = mkF m 0 #[.val (.int 16), .val (.int 10)] [] := by first | (simp [entryFrame, mkF, argsToLocals, Value.category]; done) | rfl
def Q_own_min10 (Z : State)  (h0 : Heap) (n0 : Nat) (v : Option Value) (h : Heap) (L : List Loc) : Prop := v = some (.int 10) ∧ Fr n0 L ∧ h = h0
theorem own_min10 (l : Launch) (Z : State) (a0 : Array Value) (hw : own_HW a0 Z) (ws : List Jvm.Cond)  (h0 : Heap) (n0 : Nat) (Z0 : n0 ≤ h0.size)  :
    own_MF l own_y37 (Jvm.Cond.code own_y37 jdk_29_method_69_code 2 (some .int)) ws R_own_min10 #[.int 16, .int 10] Z h0 (Q_own_min10 Z  h0 n0) := by
  refine own_begin (Jvm.Free.JP.mathPlain rfl (by decide +kernel)) (fun m => ef22 m ) ?_
  intro p e s m below meth c s₁ hx hby hml hown hnm hlk hret hZ X0 e0
  have N0 := Fr.nil n0
  have K0 := Keep.refl h0 []
  refine own_go (B := s₁.setTop (mkF m 2 #[Si 16, Si 10] [.int 10, .int 16])) (fun _ k => XS.iloadN X0.here hx rfl (hb hby d38_0) rfl (XS.iloadN X0.here hx rfl (hb hby d38_1) rfl  k)) ?_
  have hc1 : (10 : Int32) < (16 : Int32) := by decide
  refine own_go (B := s₁.setTop (mkF m 10 #[Si 16, Si 10] [.int 10])) (fun _ k => XS.icmpYes X0.here hx rfl (pc0 := 2) (pc' := 9) rfl (hb hby d38_2) rfl (tlt hc1).2.2.1 (by decide) (by decide) (XS.iloadN X0.here hx rfl (hb hby d38_9) rfl  k)) ?_
  exact own_retI X0 hx hlk hret (hb hby d38_10) e0 ⟨rfl, N0, rfl⟩ (by decide) (by decide)
abbrev R_own_crb10 : Room := ⟨1, 1, 10, 18⟩
theorem d36_0 : own_D cd36 0 (.iload_n 1) 1 := by decide +kernel
theorem d36_1 : own_D cd36 1 (.iload_n 2) 1 := by decide +kernel
theorem d36_2 : own_D cd36 2 (.invokestatic 343) 3 := by decide +kernel
theorem d36_5 : own_D cd36 5 (.iload_n 2) 1 := by decide +kernel
theorem d36_6 : own_D cd36 6 (.iload_n 1) 1 := by decide +kernel
theorem d36_7 : own_D cd36 7 .isub 1 := by decide +kernel
theorem d36_8 : own_D cd36 8 (.istore_n 3) 1 := by decide +kernel
theorem d36_9 : own_D cd36 9 (.iload_n 3) 1 := by decide +kernel
theorem d36_10 : own_D cd36 10 (.newarray .byte) 2 := by decide +kernel
theorem d36_12 : own_D cd36 12 (.astore 4) 2 := by decide +kernel
theorem d36_14 : own_D cd36 14 (.aload_n 0) 1 := by decide +kernel
theorem d36_15 : own_D cd36 15 (.iload_n 1) 1 := by decide +kernel
theorem d36_16 : own_D cd36 16 (.aload 4) 2 := by decide +kernel
theorem d36_18 : own_D cd36 18 (.iconst 0) 1 := by decide +kernel
theorem d36_19 : own_D cd36 19 (.aload_n 0) 1 := by decide +kernel
theorem d36_20 : own_D cd36 20 .arraylength 1 := by decide +kernel
theorem d36_21 : own_D cd36 21 (.iload_n 1) 1 := by decide +kernel
theorem d36_22 : own_D cd36 22 .isub 1 := by decide +kernel
theorem d36_23 : own_D cd36 23 (.iload_n 3) 1 := by decide +kernel
theorem d36_24 : own_D cd36 24 (.invokestatic 304) 3 := by decide +kernel
theorem d36_27 : own_D cd36 27 (.invokestatic 150) 3 := by decide +kernel
theorem d36_30 : own_D cd36 30 (.aload 4) 2 := by decide +kernel
theorem d36_32 : own_D cd36 32 .areturn 1 := by decide +kernel
theorem ef23 (m : MethodId) (x0 : Addr) : entryFrame m #[(.ref x0), (.int 0), (.int 10)] 5 = mkF m 0 #[.val (.ref x0), .val (.int 0), .val (.int 10), .unset, .unset] [] := by first | (simp [entryFrame, mkF, argsToLocals, Value.category]; done) | rfl
def Q_own_crb10 (Z : State) (vb : Addr) (kb : ClassId) (w0 w1 w2 w3 w4 w5 w6 w7 w8 w9 : Int32) (h0 : Heap) (n0 : Nat) (v : Option Value) (h : Heap) (L : List Loc) : Prop := ∃ b : Addr, ∃ kc : ClassId, v = some (.ref b) ∧ Fr n0 L ∧ Keep h0 h [] ∧ Arv Z h b kc .byte 10 [.int w0, .int w1, .int w2, .int w3, .int w4, .int w5, .int w6, .int w7, .int w8, .int w9] (.int 0) ∧ (h0.size ≤ b)
theorem own_crb10 (l : Launch) (Z : State) (a0 : Array Value) (hw : own_HW a0 Z) (ws : List Jvm.Cond) (vb : Addr) (kb : ClassId) (w0 w1 w2 w3 w4 w5 w6 w7 w8 w9 : Int32) (h0 : Heap) (n0 : Nat) (Z0 : n0 ≤ h0.size) (P_V_vb : Arv Z h0 vb kb .byte 16 [.int w0, .int w1, .int w2, .int w3, .int w4, .int w5, .int w6, .int w7, .int w8, .int w9, .int 0, .int 0, .int 0, .int 0, .int 0, .int 0] (.int 0)) :
    own_MF l own_y38 (Jvm.Cond.code own_y38 jdk_65_method_133_code 5 (some (.array .byte))) ws R_own_crb10 #[.ref vb, .int 0, .int 10] Z h0 (Q_own_crb10 Z vb kb w0 w1 w2 w3 w4 w5 w6 w7 w8 w9 h0 n0) := by
  refine own_begin (plainFor_of_name own_pn15) (fun m => ef23 m vb) ?_
  intro p e s m below meth c s₁ hx hby hml hown hnm hlk hret hZ X0 e0
  have N0 := Fr.nil n0
  have K0 := Keep.refl h0 []
  refine own_go (B := s₁.setTop (mkF m 2 #[Sr vb, Si 0, Si 10, Su, Su] [.int 10, .int 0])) (fun _ k => XS.iloadN X0.here hx rfl (hb hby d36_0) rfl (XS.iloadN X0.here hx rfl (hb hby d36_1) rfl  k)) ?_
  refine own_cS (own_chl10 l Z a0 hw []  h0 n0 (Nat.le_trans Z0 K0.1) ) X0 hx hZ hown (hw.w 208 rfl) (hw.w 209 rfl) (hw.w 203 rfl) (hw.w 210 rfl) e0 rfl rfl (by rw [hml]; rfl) (rest := []) (lenOf own_pd17 rfl) rfl (hb hby d36_2) (W := 0) (show 2 * 0 + _ = _ from rfl) (by decide) (by decide) ?_
  rintro _ T1 L1 X1 ⟨rfl, N1q, e1⟩
  have N1 := Fr.app N0 N1q
  refine own_go (B := T1.setTop (mkF m 8 #[Sr vb, Si 0, Si 10, Su, Su] [(.int ((10 : Int32) - (0 : Int32)))])) (fun _ k => XS.iloadN X1.here hx rfl (hb hby d36_5) rfl (XS.iloadN X1.here hx rfl (hb hby d36_6) rfl (XS.isub X1.here hx rfl (hb hby d36_7) rfl k))) ?_
  rw [show ((10 : Int32) - (0 : Int32)) = (10 : Int32) from by decide]
  show own_Fin _ _ _ _ _ _ _ (T1.setTop (mkF m 8 #[Sr vb, Si 0, Si 10, Su, Su] [.int 10]))
  refine own_go (B := T1.setTop (mkF m 10 #[Sr vb, Si 0, Si 10, Si 10, Su] [.int 10])) (fun _ k => XS.istoreN X1.here hx rfl (hb hby d36_8) rfl (l' := #[Sr vb, Si 0, Si 10, Si 10, Su]) rfl (XS.iloadN X1.here hx rfl (hb hby d36_9) rfl  k)) ?_
  obtain ⟨T2, h2, kc2, X2, e2, E2, A2, st2⟩ := newP X1 hx hZ (hw.w 19 rfl) e1 (g := (mkF m 10 #[Sr vb, Si 0, Si 10, Si 10, Su] [.int 10])) rfl (hb hby d36_10) rfl (by decide) (cap := 10) (by decide) (by decide) (by decide) (by decide)
  obtain ⟨b2, g2⟩ : ∃ z, z = h0.size := ⟨_, rfl⟩
  rw [← g2] at A2 st2
  have sz_b2 : h0.size ≤ b2 := Nat.le_trans K0.1 (Nat.le_of_eq g2.symm)
  have g_b2 : n0 ≤ b2 := Nat.le_trans Z0 sz_b2
  have V_5 := P_V_vb.ext E2
  have V_b2 : Arv Z h2 b2 kc2 .byte 10 [.int 0, .int 0, .int 0, .int 0, .int 0, .int 0, .int 0, .int 0, .int 0, .int 0] (.int 0) := (Arv.new A2 (by decide)).pad (pad_rep [] (.int 0) 10)
  have K6 : Keep h0 h2 [] := K0.ext E2
  refine own_go (B := T2.setTop (mkF m 20 #[Sr vb, Si 0, Si 10, Si 10, Sr b2] [.ref vb, .int 0, .ref b2, .int 0, .ref vb])) (fun _ k => st2 _ (XS.astore X2.here hx rfl (hb hby d36_12) rfl rfl (l' := #[Sr vb, Si 0, Si 10, Si 10, Sr b2]) rfl (XS.aloadN X2.here hx rfl (hb hby d36_14) rfl rfl (XS.iloadN X2.here hx rfl (hb hby d36_15) rfl (XS.aload X2.here hx rfl (hb hby d36_16) rfl rfl (XS.iconst X2.here hx rfl (hb hby d36_18) (XS.aloadN X2.here hx rfl (hb hby d36_19) rfl rfl k))))))) ?_
  obtain ⟨cl7, Ar7, q7, S7, N7n, H7, G7⟩ := id V_5
  refine own_go (fun _ k => X2.arraylength hx (own_hc e2 Ar7.1) (State.isArrayOf_alike hZ.alike Ar7.2.1) (g := (mkF m 20 #[Sr vb, Si 0, Si 10, Si 10, Sr b2] [.ref vb, .int 0, .ref b2, .int 0, .ref vb])) rfl rfl (hb hby d36_20) _ k) ?_
  rw [len_of S7 N7n]
  show own_Fin _ _ _ _ _ _ _ (T2.setTop (mkF m 21 #[Sr vb, Si 0, Si 10, Si 10, Sr b2] [.int 16, .int 0, .ref b2, .int 0, .ref vb]))
  refine own_go (B := T2.setTop (mkF m 23 #[Sr vb, Si 0, Si 10, Si 10, Sr b2] [(.int ((16 : Int32) - (0 : Int32))), .int 0, .ref b2, .int 0, .ref vb])) (fun _ k => XS.iloadN X2.here hx rfl (hb hby d36_21) rfl (XS.isub X2.here hx rfl (hb hby d36_22) rfl k)) ?_
  rw [show ((16 : Int32) - (0 : Int32)) = (16 : Int32) from by decide]
  show own_Fin _ _ _ _ _ _ _ (T2.setTop (mkF m 23 #[Sr vb, Si 0, Si 10, Si 10, Sr b2] [.int 16, .int 0, .ref b2, .int 0, .ref vb]))
  refine own_go (B := T2.setTop (mkF m 24 #[Sr vb, Si 0, Si 10, Si 10, Sr b2] [.int 10, .int 16, .int 0, .ref b2, .int 0, .ref vb])) (fun _ k => XS.iloadN X2.here hx rfl (hb hby d36_23) rfl  k) ?_
  refine own_cS (own_min10 l Z a0 hw []  h2 n0 (Nat.le_trans Z0 K6.1) ) X2 hx hZ hown (hw.w 211 rfl) (hw.w 212 rfl) (hw.w 213 rfl) (hw.w 214 rfl) e2 rfl rfl (by rw [hml]; rfl) (rest := [.int 0, .ref b2, .int 0, .ref vb]) (lenOf own_pd18 rfl) rfl (hb hby d36_24) (W := 4) (show 2 * 0 + _ = _ from rfl) (by decide) (by decide) ?_
  rintro _ T8 L8 X8 ⟨rfl, N8q, e8⟩
  have N8 := Fr.app N1 N8q
  refine own_go (B := T8.setTop (mkF m 27 #[Sr vb, Si 0, Si 10, Si 10, Sr b2] [.int 10, .int 0, .ref b2, .int 0, .ref vb])) (fun _ k => k) ?_
  obtain ⟨T9, h9, L9, X9, e9, N9, Kc9, Vc9, st9⟩ := cpA X8 hx hZ hown (hw.w 215 rfl) (hw.w 170 rfl) (hw.w 168 rfl) (hw.w 169 rfl) e8 V_5 V_b2 (us := [.int w0, .int w1, .int w2, .int w3, .int w4, .int w5, .int w6, .int w7, .int w8, .int w9]) (Or.inl ⟨rfl, rfl⟩) (by decide) (by decide) (by decide) (by decide) (by decide) rfl (Nat.le_of_ble_eq_true rfl) N8 g_b2 (g := (mkF m 27 #[Sr vb, Si 0, Si 10, Si 10, Sr b2] [.int 10, .int 0, .ref b2, .int 0, .ref vb])) rfl (by rw [hml]; rfl) rfl (hb hby d36_27) (by decide) (W := 0) (by show 2 * 0 + _ ≤ _; exact Nat.le_of_eq rfl) (by decide)
  have V_b2_9 : Arv Z h9 b2 kc2 .byte 10 [.int w0, .int w1, .int w2, .int w3, .int w4, .int w5, .int w6, .int w7, .int w8, .int w9] (.int 0) := Vc9
  have K13 : Keep h0 h9 [] := K6.trans Kc9 (allS (Or.inr sz_b2) all0)
  refine own_go (B := T9.setTop (mkF m 32 #[Sr vb, Si 0, Si 10, Si 10, Sr b2] [.ref b2])) (fun _ k => st9 _ (XS.aload X9.here hx rfl (hb hby d36_30) rfl rfl k)) ?_
  exact own_retA X9 hx hlk hret rfl rfl (hb hby d36_32) e9 ⟨b2, kc2, rfl, N9, K13, V_b2_9, sz_b2⟩ (by decide) (by decide)
abbrev R_own_cr10 : Room := ⟨2, 1, 10, 34⟩
theorem d35_0 : own_D cd35 0 (.iload_n 1) 1 := by decide +kernel
theorem d35_1 : own_D cd35 1 (.ifCond .ne 9) 3 := by decide +kernel
theorem d35_4 : own_D cd35 4 (.iload_n 2) 1 := by decide +kernel
theorem d35_5 : own_D cd35 5 (.aload_n 0) 1 := by decide +kernel
theorem d35_6 : own_D cd35 6 .arraylength 1 := by decide +kernel
theorem d35_7 : own_D cd35 7 (.if_icmp .eq 10) 3 := by decide +kernel
theorem d35_10 : own_D cd35 10 (.aload_n 0) 1 := by decide +kernel
theorem d35_11 : own_D cd35 11 (.iload_n 1) 1 := by decide +kernel
theorem d35_12 : own_D cd35 12 (.iload_n 2) 1 := by decide +kernel
theorem d35_13 : own_D cd35 13 (.invokestatic 339) 3 := by decide +kernel
theorem d35_16 : own_D cd35 16 .areturn 1 := by decide +kernel
theorem ef24 (m : MethodId) (x0 : Addr) : entryFrame m #[(.ref x0), (.int 0), (.int 10)] 3 = mkF m 0 #[.val (.ref x0), .val (.int 0), .val (.int 10)] [] := by first | (simp [entryFrame, mkF, argsToLocals, Value.category]; done) | rfl
def Q_own_cr10 (Z : State) (vb : Addr) (kb : ClassId) (w0 w1 w2 w3 w4 w5 w6 w7 w8 w9 : Int32) (h0 : Heap) (n0 : Nat) (v : Option Value) (h : Heap) (L : List Loc) : Prop := ∃ b : Addr, ∃ kc : ClassId, v = some (.ref b) ∧ Fr n0 L ∧ Keep h0 h [] ∧ Arv Z h b kc .byte 10 [.int w0, .int w1, .int w2, .int w3, .int w4, .int w5, .int w6, .int w7, .int w8, .int w9] (.int 0) ∧ (h0.size ≤ b)
theorem own_cr10 (l : Launch) (Z : State) (a0 : Array Value) (hw : own_HW a0 Z) (ws : List Jvm.Cond) (vb : Addr) (kb : ClassId) (w0 w1 w2 w3 w4 w5 w6 w7 w8 w9 : Int32) (h0 : Heap) (n0 : Nat) (Z0 : n0 ≤ h0.size) (P_V_vb : Arv Z h0 vb kb .byte 16 [.int w0, .int w1, .int w2, .int w3, .int w4, .int w5, .int w6, .int w7, .int w8, .int w9, .int 0, .int 0, .int 0, .int 0, .int 0, .int 0] (.int 0)) :
    own_MF l own_y39 (Jvm.Cond.code own_y39 jdk_65_method_132_code 3 (some (.array .byte))) ws R_own_cr10 #[.ref vb, .int 0, .int 10] Z h0 (Q_own_cr10 Z vb kb w0 w1 w2 w3 w4 w5 w6 w7 w8 w9 h0 n0) := by
  refine own_begin (plainFor_of_name own_pn15) (fun m => ef24 m vb) ?_
  intro p e s m below meth c s₁ hx hby hml hown hnm hlk hret hZ X0 e0
  have N0 := Fr.nil n0
  have K0 := Keep.refl h0 []
  refine own_go (B := s₁.setTop (mkF m 1 #[Sr vb, Si 0, Si 10] [.int 0])) (fun _ k => XS.iloadN X0.here hx rfl (hb hby d35_0) rfl  k) ?_
  have hc1 : (0 : Int32) = (0 : Int32) := by decide
  refine own_go (B := s₁.setTop (mkF m 6 #[Sr vb, Si 0, Si 10] [.ref vb, .int 10])) (fun _ k => XS.ifNo X0.here hx rfl (hb hby d35_1) rfl ((if0 _ _).trans (teq hc1).2) (XS.iloadN X0.here hx rfl (hb hby d35_4) rfl (XS.aloadN X0.here hx rfl (hb hby d35_5) rfl rfl k))) ?_
  obtain ⟨cl2, Ar2, q2, S2, N2n, H2, G2⟩ := id P_V_vb
  refine own_go (fun _ k => X0.arraylength hx (own_hc e0 Ar2.1) (State.isArrayOf_alike hZ.alike Ar2.2.1) (g := (mkF m 6 #[Sr vb, Si 0, Si 10] [.ref vb, .int 10])) rfl rfl (hb hby d35_6) _ k) ?_
  rw [len_of S2 N2n]
  show own_Fin _ _ _ _ _ _ _ (s₁.setTop (mkF m 7 #[Sr vb, Si 0, Si 10] [.int 16, .int 10]))
  have hc3 : ¬ ((10 : Int32) = (16 : Int32)) := by decide
  refine own_go (B := s₁.setTop (mkF m 13 #[Sr vb, Si 0, Si 10] [.int 10, .int 0, .ref vb])) (fun _ k => XS.icmpNo X0.here hx rfl (hb hby d35_7) rfl (feq hc3).1 (XS.aloadN X0.here hx rfl (hb hby d35_10) rfl rfl (XS.iloadN X0.here hx rfl (hb hby d35_11) rfl (XS.iloadN X0.here hx rfl (hb hby d35_12) rfl  k)))) ?_
  refine own_cS (own_crb10 l Z a0 hw [] vb kb w0 w1 w2 w3 w4 w5 w6 w7 w8 w9 h0 n0 (Nat.le_trans Z0 K0.1) P_V_vb) X0 hx hZ hown (hw.w 205 rfl) (hw.w 206 rfl) (hw.w 203 rfl) (hw.w 207 rfl) e0 rfl rfl (by rw [hml]; rfl) (rest := []) (lenOf own_pd19 rfl) rfl (hb hby d35_13) (W := 0) (show 2 * 0 + _ = _ from rfl) (by decide) (by decide) ?_
  rintro _ T4 L4 X4 ⟨b_4, kc_4, rfl, N4q, K4q, Q4_0, x4_0⟩
  have N4 := Fr.app N0 N4q
  have K8 : Keep h0 T4.heap [] := K0.trans K4q all0
  refine own_go (B := T4.setTop (mkF m 16 #[Sr vb, Si 0, Si 10] [.ref b_4])) (fun _ k => k) ?_
  exact own_retA X4 hx hlk hret rfl rfl (hb hby d35_16) rfl ⟨b_4, kc_4, rfl, N4, K8, Q4_0, x4_0⟩ (by decide) (by decide)
abbrev R_own_sab10 : Room := ⟨3, 1, 10, 49⟩
theorem d30_0 : own_D cd30 0 (.aload_n 0) 1 := by decide +kernel
theorem d30_1 : own_D cd30 1 (.invokespecial 1) 3 := by decide +kernel
theorem d30_4 : own_D cd30 4 (.aload_n 1) 1 := by decide +kernel
theorem d30_5 : own_D cd30 5 (.invokevirtual 552) 3 := by decide +kernel
theorem d30_8 : own_D cd30 8 (.astore_n 3) 1 := by decide +kernel
theorem d30_9 : own_D cd30 9 (.aload_n 1) 1 := by decide +kernel
theorem d30_10 : own_D cd30 10 (.invokevirtual 549) 3 := by decide +kernel
theorem d30_13 : own_D cd30 13 (.istore 4) 2 := by decide +kernel
theorem d30_15 : own_D cd30 15 (.aload_n 1) 1 := by decide +kernel
theorem d30_16 : own_D cd30 16 (.invokevirtual 1047) 3 := by decide +kernel
theorem d30_19 : own_D cd30 19 (.ifCond .eq 22) 3 := by decide +kernel
theorem d30_22 : own_D cd30 22 (.aload_n 0) 1 := by decide +kernel
theorem d30_23 : own_D cd30 23 (.iconst 0) 1 := by decide +kernel
theorem d30_24 : own_D cd30 24 (.putfield 15) 3 := by decide +kernel
theorem d30_27 : own_D cd30 27 (.aload_n 0) 1 := by decide +kernel
theorem d30_28 : own_D cd30 28 (.aload_n 3) 1 := by decide +kernel
theorem d30_29 : own_D cd30 29 (.iconst 0) 1 := by decide +kernel
theorem d30_30 : own_D cd30 30 (.iload 4) 2 := by decide +kernel
theorem d30_32 : own_D cd30 32 (.invokestatic 54) 3 := by decide +kernel
theorem d30_35 : own_D cd30 35 (.putfield 9) 3 := by decide +kernel
theorem d30_38 : own_D cd30 38 (.goto 59) 3 := by decide +kernel
theorem d30_97 : own_D cd30 97 .return_ 1 := by decide +kernel
theorem ef25 (m : MethodId) (x0 x1 : Addr) : entryFrame m #[(.ref x0), (.ref x1), .null] 5 = mkF m 0 #[.val (.ref x0), .val (.ref x1), .val .null, .unset, .unset] [] := by first | (simp [entryFrame, mkF, argsToLocals, Value.category]; done) | rfl
def Q_own_sab10 (Z : State) (a1 a2 vb : Addr) (kb : ClassId) (w0 w1 w2 w3 w4 w5 w6 w7 w8 w9 cs : Int32) (h0 : Heap) (n0 : Nat) (v : Option Value) (h : Heap) (L : List Loc) : Prop := ∃ t : Addr, ∃ kt : ClassId, v = none ∧ Fr n0 L ∧ Keep h0 h [a1] ∧ Exa Z h a1 nn3_ ∧ Fld Z h a1 nn3_ "value" "[B" (.ref t) ∧ Fld Z h a1 nn3_ "coder" "B" (.int 0) ∧ Arv Z h t kt .byte 10 [.int w0, .int w1, .int w2, .int w3, .int w4, .int w5, .int w6, .int w7, .int w8, .int w9] (.int 0) ∧ (h0.size ≤ t)
theorem own_sab10 (l : Launch) (Z : State) (a0 : Array Value) (hw : own_HW a0 Z) (ws : List Jvm.Cond) (a1 a2 vb : Addr) (kb : ClassId) (w0 w1 w2 w3 w4 w5 w6 w7 w8 w9 cs : Int32) (h0 : Heap) (n0 : Nat) (Z0 : n0 ≤ h0.size) (P_E_a1 : Exa Z h0 a1 nn3_) (P_F_a1_value : Fld Z h0 a1 nn3_ "value" "[B" .null) (P_F_a1_coder : Fld Z h0 a1 nn3_ "coder" "B" (.int 0)) (P_E_a2 : Exa Z h0 a2 nn5_) (P_F_a2_value : Fld Z h0 a2 nn10_ "value" "[B" (.ref vb)) (P_F_a2_coder : Fld Z h0 a2 nn10_ "coder" "B" (.int 0)) (P_F_a2_count : Fld Z h0 a2 nn10_ "count" "I" (.int 10)) (P_V_vb : Arv Z h0 vb kb .byte 16 [.int w0, .int w1, .int w2, .int w3, .int w4, .int w5, .int w6, .int w7, .int w8, .int w9, .int 0, .int 0, .int 0, .int 0, .int 0, .int 0] (.int 0)) (g_a1 : n0 ≤ a1) (ne_a2_a1 : a2 ≠ a1) (ne_vb_a1 : vb ≠ a1) (P_S_COMPACT_STRINGS : Sta Z h0 nn3_ nn16_ "Z" (.int cs)) (hcs : ¬ (cs = (0 : Int32))) :
    own_MF l own_y40 (Jvm.Cond.code own_y40 jdk_42_method_150_code 5 none) ws R_own_sab10 #[.ref a1, .ref a2, .null] Z h0 (Q_own_sab10 Z a1 a2 vb kb w0 w1 w2 w3 w4 w5 w6 w7 w8 w9 cs h0 n0) := by
  refine own_begin (plainFor_of_name own_pn10) (fun m => ef25 m a1 a2) ?_
  intro p e s m below meth c s₁ hx hby hml hown hnm hlk hret hZ X0 e0
  have N0 := Fr.nil n0
  have K0 := Keep.refl h0 [a1]
  refine own_go (B := s₁.setTop (mkF m 1 #[Sr a1, Sr a2, .val .null, Su, Su] [.ref a1])) (fun _ k => XS.aloadN X0.here hx rfl (hb hby d30_0) rfl rfl k) ?_
  refine own_iO X0 hx hZ hown (hw.w 11 rfl) (hw.w 12 rfl) (hw.w 13 rfl) e0 rfl (by rw [hml]; rfl) rfl (hb hby d30_1) (by decide) (W := 0) (by show 2 * 0 + _ ≤ _; exact Nat.le_of_eq rfl) (by decide) fun T1 X1 e1 => ?_
  refine own_go (B := T1.setTop (mkF m 5 #[Sr a1, Sr a2, .val .null, Su, Su] [.ref a2])) (fun _ k => XS.aloadN X1.here hx rfl (hb hby d30_4) rfl rfl k) ?_
  refine own_cV (own_rm31 l Z a0 hw [] a2 vb h0 n0 (Nat.le_trans Z0 K0.1) P_F_a2_value) X1 hx hZ hown (hw.w 183 rfl) (hw.w 184 rfl) (notFace_of_selects (args := #[]) (mvT hZ (hw.w 186 rfl))) (hw.w 186 rfl) (hw.w 185 rfl) (hw.w 115 rfl) (hw.w 187 rfl) P_E_a2 e1 rfl rfl (by rw [hml]; rfl) (rest := []) (lenOf own_pd20 rfl) rfl (hb hby d30_5) (W := 0) (show 2 * 0 + _ = _ from rfl) (by decide) (by decide) ?_
  rintro _ T2 L2 X2 ⟨rfl, N2q, e2⟩
  have N2 := Fr.app N0 N2q
  refine own_go (B := T2.setTop (mkF m 10 #[Sr a1, Sr a2, .val .null, Sr vb, Su] [.ref a2])) (fun _ k => XS.astoreN X2.here hx rfl (hb hby d30_8) rfl rfl (l' := #[Sr a1, Sr a2, .val .null, Sr vb, Su]) rfl (XS.aloadN X2.here hx rfl (hb hby d30_9) rfl rfl k)) ?_
  refine own_cV (own_sln10 l Z a0 hw [] a2 h0 n0 (Nat.le_trans Z0 K0.1) P_F_a2_count P_E_a2) X2 hx hZ hown (hw.w 188 rfl) (hw.w 189 rfl) (own_nf (args := #[]) (y' := own_y28) (mvT hZ (hw.w 147 rfl)) (notFace_of_selects (args := #[]) (mvT hZ (hw.w 149 rfl))) rfl) (hw.w 191 rfl) (hw.w 192 rfl) (hw.w 107 rfl) (hw.w 193 rfl) P_E_a2 e2 rfl rfl (by rw [hml]; rfl) (rest := []) (lenOf own_pd14 rfl) rfl (hb hby d30_10) (W := 0) (show 2 * 0 + _ = _ from rfl) (by decide) (by decide) ?_
  rintro _ T3 L3 X3 ⟨rfl, N3q, e3⟩
  have N3 := Fr.app N2 N3q
  refine own_go (B := T3.setTop (mkF m 16 #[Sr a1, Sr a2, .val .null, Sr vb, Si 10] [.ref a2])) (fun _ k => XS.istore X3.here hx rfl (hb hby d30_13) rfl (l' := #[Sr a1, Sr a2, .val .null, Sr vb, Si 10]) rfl (XS.aloadN X3.here hx rfl (hb hby d30_15) rfl rfl k)) ?_
  refine own_cV (own_rm34 l Z a0 hw [] a2 cs h0 n0 (Nat.le_trans Z0 K0.1) P_F_a2_coder P_S_COMPACT_STRINGS hcs) X3 hx hZ hown (hw.w 196 rfl) (hw.w 197 rfl) (notFace_of_selects (args := #[]) (mvT hZ (hw.w 199 rfl))) (hw.w 199 rfl) (hw.w 198 rfl) (hw.w 115 rfl) (hw.w 200 rfl) P_E_a2 e3 rfl rfl (by rw [hml]; rfl) (rest := []) (lenOf own_pd21 rfl) rfl (hb hby d30_16) (W := 0) (show 2 * 0 + _ = _ from rfl) (by decide) (by decide) ?_
  rintro _ T4 L4 X4 ⟨rfl, N4q, e4⟩
  have N4 := Fr.app N3 N4q
  refine own_go (B := T4.setTop (mkF m 19 #[Sr a1, Sr a2, .val .null, Sr vb, Si 10] [.int 1])) (fun _ k => k) ?_
  have hc5 : ¬ ((1 : Int32) = (0 : Int32)) := by decide
  refine own_go (B := T4.setTop (mkF m 24 #[Sr a1, Sr a2, .val .null, Sr vb, Si 10] [.int 0, .ref a1])) (fun _ k => XS.ifNo X4.here hx rfl (hb hby d30_19) rfl ((if0 _ _).trans (feq hc5).1) (XS.aloadN X4.here hx rfl (hb hby d30_22) rfl rfl (XS.iconst X4.here hx rfl (hb hby d30_23) k))) ?_
  refine own_pN X4 hx hZ hown (hw.w 26 rfl) Via.refl e4 P_F_a1_coder P_E_a1 (Or.inr ⟨(hw.w 27 rfl), rfl, hnm⟩) (hw.w 1 rfl) (ty := .byte) (v := (.int 0)) (v' := (.int 0)) (by decide) rfl rfl rfl rfl (hb hby d30_24) fun T6 h6 X6 e6 W6 => ?_
  have F_w6 : Fld Z h6 a1 nn3_ "coder" "B" (.int 0) := P_F_a1_coder.same W6
  have E_8 := P_E_a1.wr W6
  have F_9 := P_F_a1_value.other W6 (Or.inr (slot_ne (Or.inr (hw.w 29 rfl)) (Or.inr (hw.w 27 rfl)) (by decide) (t := (.array .byte)) (t' := .byte) (by decide) (by decide)))
  have V_15 := P_V_vb.other W6 ne_vb_a1
  have K17 : Keep h0 h6 [a1] := K0.wr W6 (Or.inl (List.mem_of_getElem? (i := 0) rfl))
  have N6 := Fr.snoc X6 N4 g_a1
  refine own_go (B := T6.setTop (mkF m 32 #[Sr a1, Sr a2, .val .null, Sr vb, Si 10] [.int 10, .int 0, .ref vb, .ref a1])) (fun _ k => XS.aloadN X6.here hx rfl (hb hby d30_27) rfl rfl (XS.aloadN X6.here hx rfl (hb hby d30_28) rfl rfl (XS.iconst X6.here hx rfl (hb hby d30_29) (XS.iload X6.here hx rfl (hb hby d30_30) rfl  k)))) ?_
  refine own_cS (own_cr10 l Z a0 hw [] vb kb w0 w1 w2 w3 w4 w5 w6 w7 w8 w9 h6 n0 (Nat.le_trans Z0 K17.1) V_15) X6 hx hZ hown (hw.w 201 rfl) (hw.w 202 rfl) (hw.w 203 rfl) (hw.w 204 rfl) e6 rfl rfl (by rw [hml]; rfl) (rest := [.ref a1]) (lenOf own_pd19 rfl) rfl (hb hby d30_32) (W := 1) (show 2 * 0 + _ = _ from rfl) (by decide) (by decide) ?_
  rintro _ T18 L18 X18 ⟨b_18, kc_18, rfl, N18q, K18q, Q18_0, x18_0⟩
  have N18 := Fr.app N6 N18q
  have ne_a1_b_18_19 : a1 ≠ b_18 := Nat.ne_of_lt (Nat.lt_of_lt_of_le E_8.lt x18_0)
  have sz_b_18 : h0.size ≤ b_18 := Nat.le_trans K17.1 x18_0
  have E_23 := E_8.keep K18q
  have F_24 := F_9.keep K18q nin0
  have F_31 := F_w6.keep K18q nin0
  have K32 : Keep h0 T18.heap [a1] := K17.trans K18q all0
  refine own_go (B := T18.setTop (mkF m 35 #[Sr a1, Sr a2, .val .null, Sr vb, Si 10] [.ref b_18, .ref a1])) (fun _ k => k) ?_
  refine own_pF X18 hx hZ hown (hw.w 28 rfl) Via.refl rfl F_24 E_23 (Or.inr ⟨(hw.w 29 rfl), rfl, hnm⟩) (hw.w 1 rfl) (ty := (.array .byte)) (v := (.ref b_18)) (by decide) rfl rfl rfl rfl (hb hby d30_35) fun T33 h33 X33 e33 W33 => ?_
  have F_w33 : Fld Z h33 a1 nn3_ "value" "[B" (.ref b_18) := F_24.same W33
  have E_35 := E_23.wr W33
  have F_43 := F_31.other W33 (Or.inr (slot_ne (Or.inr (hw.w 27 rfl)) (Or.inr (hw.w 29 rfl)) (by decide) (t := .byte) (t' := (.array .byte)) (by decide) (by decide)))
  have V_44 := Q18_0.other W33 (Ne.symm ne_a1_b_18_19)
  have K45 : Keep h0 h33 [a1] := K32.wr W33 (Or.inl (List.mem_of_getElem? (i := 0) rfl))
  have N33 := Fr.snoc X33 N18 g_a1
  refine own_go (B := T33.setTop (mkF m 97 #[Sr a1, Sr a2, .val .null, Sr vb, Si 10] [])) (fun _ k => XS.goto X33.here hx rfl (pc0 := 38) (pc' := 97) rfl (hb hby d30_38) (by decide) (by decide) k) ?_
  exact own_retV X33 hx hlk hret (hb hby d30_97) e33 ⟨b_18, kc_18, rfl, N33, K45, E_35, F_w33, F_43, V_44, sz_b_18⟩ (by decide) (by decide)
abbrev R_own_ssb10 : Room := ⟨4, 1, 10, 65⟩
theorem d29_0 : own_D cd29 0 (.aload_n 0) 1 := by decide +kernel
theorem d29_1 : own_D cd29 1 (.aload_n 1) 1 := by decide +kernel
theorem d29_2 : own_D cd29 2 .aconst_null 1 := by decide +kernel
theorem d29_3 : own_D cd29 3 (.invokespecial 489) 3 := by decide +kernel
theorem d29_6 : own_D cd29 6 .return_ 1 := by decide +kernel
def Q_own_ssb10 (Z : State) (a1 a2 vb : Addr) (kb : ClassId) (w0 w1 w2 w3 w4 w5 w6 w7 w8 w9 cs : Int32) (h0 : Heap) (n0 : Nat) (v : Option Value) (h : Heap) (L : List Loc) : Prop := ∃ t : Addr, ∃ kt : ClassId, v = none ∧ Fr n0 L ∧ Keep h0 h [a1] ∧ Exa Z h a1 nn3_ ∧ Fld Z h a1 nn3_ "value" "[B" (.ref t) ∧ Fld Z h a1 nn3_ "coder" "B" (.int 0) ∧ Arv Z h t kt .byte 10 [.int w0, .int w1, .int w2, .int w3, .int w4, .int w5, .int w6, .int w7, .int w8, .int w9] (.int 0) ∧ (h0.size ≤ t)
theorem own_ssb10 (l : Launch) (Z : State) (a0 : Array Value) (hw : own_HW a0 Z) (ws : List Jvm.Cond) (a1 a2 vb : Addr) (kb : ClassId) (w0 w1 w2 w3 w4 w5 w6 w7 w8 w9 cs : Int32) (h0 : Heap) (n0 : Nat) (Z0 : n0 ≤ h0.size) (P_E_a1 : Exa Z h0 a1 nn3_) (P_F_a1_value : Fld Z h0 a1 nn3_ "value" "[B" .null) (P_F_a1_coder : Fld Z h0 a1 nn3_ "coder" "B" (.int 0)) (P_E_a2 : Exa Z h0 a2 nn5_) (P_F_a2_value : Fld Z h0 a2 nn10_ "value" "[B" (.ref vb)) (P_F_a2_coder : Fld Z h0 a2 nn10_ "coder" "B" (.int 0)) (P_F_a2_count : Fld Z h0 a2 nn10_ "count" "I" (.int 10)) (P_V_vb : Arv Z h0 vb kb .byte 16 [.int w0, .int w1, .int w2, .int w3, .int w4, .int w5, .int w6, .int w7, .int w8, .int w9, .int 0, .int 0, .int 0, .int 0, .int 0, .int 0] (.int 0)) (g_a1 : n0 ≤ a1) (ne_a2_a1 : a2 ≠ a1) (ne_vb_a1 : vb ≠ a1) (P_S_COMPACT_STRINGS : Sta Z h0 nn3_ nn16_ "Z" (.int cs)) (hcs : ¬ (cs = (0 : Int32))) :
    own_MF l own_y41 (Jvm.Cond.code own_y41 jdk_42_method_53_code 2 none) ws R_own_ssb10 #[.ref a1, .ref a2] Z h0 (Q_own_ssb10 Z a1 a2 vb kb w0 w1 w2 w3 w4 w5 w6 w7 w8 w9 cs h0 n0) := by
  refine own_begin (plainFor_of_name own_pn10) (fun m => ef1 m a1 a2) ?_
  intro p e s m below meth c s₁ hx hby hml hown hnm hlk hret hZ X0 e0
  have N0 := Fr.nil n0
  have K0 := Keep.refl h0 [a1]
  refine own_go (B := s₁.setTop (mkF m 3 #[Sr a1, Sr a2] [.null, .ref a2, .ref a1])) (fun _ k => XS.aloadN X0.here hx rfl (hb hby d29_0) rfl rfl (XS.aloadN X0.here hx rfl (hb hby d29_1) rfl rfl (XS.aconstNull X0.here hx rfl (hb hby d29_2) k))) ?_
  refine own_cN (own_sab10 l Z a0 hw [] a1 a2 vb kb w0 w1 w2 w3 w4 w5 w6 w7 w8 w9 cs h0 n0 (Nat.le_trans Z0 K0.1) P_E_a1 P_F_a1_value P_F_a1_coder P_E_a2 P_F_a2_value P_F_a2_coder P_F_a2_count P_V_vb g_a1 ne_a2_a1 ne_vb_a1 P_S_COMPACT_STRINGS hcs) X0 hx hZ hown (hw.w 180 rfl) (hw.w 181 rfl) (hw.w 2 rfl) (hw.w 182 rfl) e0 rfl rfl (by rw [hml]; rfl) (rest := []) (lenOf own_pd22 rfl) rfl (hb hby d29_3) (W := 0) (show 2 * 0 + _ = _ from rfl) (by decide) (by decide) rfl ?_
  rintro _ T1 L1 X1 ⟨t_1, kt_1, rfl, N1q, K1q, Q1_0, Q1_1, Q1_2, Q1_3, x1_0⟩
  have N1 := Fr.app N0 N1q
  have K15 : Keep h0 T1.heap [a1] := K0.trans K1q (allS (Or.inl (List.mem_of_getElem? (i := 0) rfl)) all0)
  refine own_go (B := T1.setTop (mkF m 6 #[Sr a1, Sr a2] [])) (fun _ k => k) ?_
  exact own_retV X1 hx hlk hret (hb hby d29_6) rfl ⟨t_1, kt_1, rfl, N1, K15, Q1_0, Q1_1, Q1_2, Q1_3, x1_0⟩ (by decide) (by decide)
abbrev R_own_tos10 : Room := ⟨5, 2, 14, 79⟩
theorem d28_0 : own_D cd28 0 (.new 18) 3 := by decide +kernel
theorem d28_3 : own_D cd28 3 .dup 1 := by decide +kernel
theorem d28_4 : own_D cd28 4 (.aload_n 0) 1 := by decide +kernel
theorem d28_5 : own_D cd28 5 (.invokespecial 137) 3 := by decide +kernel
theorem d28_8 : own_D cd28 8 .areturn 1 := by decide +kernel
def Q_own_tos10 (Z : State) (a2 vb : Addr) (kb : ClassId) (w0 w1 w2 w3 w4 w5 w6 w7 w8 w9 cs : Int32) (h0 : Heap) (n0 : Nat) (v : Option Value) (h : Heap) (L : List Loc) : Prop := ∃ b : Addr, ∃ t : Addr, ∃ kt : ClassId, v = some (.ref b) ∧ Fr n0 L ∧ Keep h0 h [] ∧ Exa Z h b nn3_ ∧ Fld Z h b nn3_ "value" "[B" (.ref t) ∧ Fld Z h b nn3_ "coder" "B" (.int 0) ∧ Arv Z h t kt .byte 10 [.int w0, .int w1, .int w2, .int w3, .int w4, .int w5, .int w6, .int w7, .int w8, .int w9] (.int 0) ∧ (h0.size ≤ b) ∧ (h0.size ≤ t)
theorem own_tos10 (l : Launch) (Z : State) (a0 : Array Value) (hw : own_HW a0 Z) (ws : List Jvm.Cond) (a2 vb : Addr) (kb : ClassId) (w0 w1 w2 w3 w4 w5 w6 w7 w8 w9 cs : Int32) (h0 : Heap) (n0 : Nat) (Z0 : n0 ≤ h0.size) (P_E_a2 : Exa Z h0 a2 nn5_) (P_F_a2_value : Fld Z h0 a2 nn10_ "value" "[B" (.ref vb)) (P_F_a2_coder : Fld Z h0 a2 nn10_ "coder" "B" (.int 0)) (P_F_a2_count : Fld Z h0 a2 nn10_ "count" "I" (.int 10)) (P_V_vb : Arv Z h0 vb kb .byte 16 [.int w0, .int w1, .int w2, .int w3, .int w4, .int w5, .int w6, .int w7, .int w8, .int w9, .int 0, .int 0, .int 0, .int 0, .int 0, .int 0] (.int 0)) (P_S_COMPACT_STRINGS : Sta Z h0 nn3_ nn16_ "Z" (.int cs)) (hcs : ¬ (cs = (0 : Int32))) :
    own_MF l own_y42 (Jvm.Cond.code own_y42 jdk_67_method_42_code 1 (some (.object "java/lang/String"))) ws R_own_tos10 #[.ref a2] Z h0 (Q_own_tos10 Z a2 vb kb w0 w1 w2 w3 w4 w5 w6 w7 w8 w9 cs h0 n0) := by
  refine own_begin (plainFor_of_name own_pn14) (fun m => ef0 m a2) ?_
  intro p e s m below meth c s₁ hx hby hml hown hnm hlk hret hZ X0 e0
  have N0 := Fr.nil n0
  have K0 := Keep.refl h0 []
  obtain ⟨T1, h1, X1, e1, E1, A1, D1, -, st1⟩ := newO X0 hx hZ hown (hw.w 176 rfl) (hw.w 1 rfl) (hw.w 2 rfl) e0 (g := (mkF m 0 #[Sr a2] [])) rfl (hb hby d28_0) (by decide) (by decide)
  obtain ⟨b1, g1⟩ : ∃ z, z = h0.size := ⟨_, rfl⟩
  rw [← g1] at A1 D1 st1
  have ne_a2_b1_2 : a2 ≠ b1 := Nat.ne_of_lt (Nat.lt_of_lt_of_le P_E_a2.lt (Nat.le_of_eq g1.symm))
  have ne_vb_b1_3 : vb ≠ b1 := Nat.ne_of_lt (Nat.lt_of_lt_of_le P_V_vb.lt (Nat.le_of_eq g1.symm))
  have sz_b1 : h0.size ≤ b1 := Nat.le_trans K0.1 (Nat.le_of_eq g1.symm)
  have g_b1 : n0 ≤ b1 := Nat.le_trans Z0 sz_b1
  have E_5 := P_E_a2.ext E1
  have F_6 := P_F_a2_value.ext E1
  have F_7 := P_F_a2_coder.ext E1
  have F_8 := P_F_a2_count.ext E1
  have V_9 := P_V_vb.ext E1
  have S_10 := P_S_COMPACT_STRINGS.ext E1
  have F_coder_b1 : Fld Z h1 b1 nn3_ "coder" "B" (.int 0) := D1 (Or.inr (hw.w 27 rfl)) (ty := .byte) (by decide)
  have F_value_b1 : Fld Z h1 b1 nn3_ "value" "[B" .null := D1 (Or.inr (hw.w 29 rfl)) (ty := (.array .byte)) (by decide)
  have K11 : Keep h0 h1 [] := K0.ext E1
  refine own_go (B := T1.setTop (mkF m 5 #[Sr a2] [.ref a2, .ref b1, .ref b1])) (fun _ k => st1 _ (XS.dup X1.here hx rfl (hb hby d28_3) rfl rfl (XS.aloadN X1.here hx rfl (hb hby d28_4) rfl rfl k))) ?_
  refine own_cN (own_ssb10 l Z a0 hw [] b1 a2 vb kb w0 w1 w2 w3 w4 w5 w6 w7 w8 w9 cs h1 n0 (Nat.le_trans Z0 K11.1) A1 F_value_b1 F_coder_b1 E_5 F_6 F_7 F_8 V_9 g_b1 ne_a2_b1_2 ne_vb_b1_3 S_10 hcs) X1 hx hZ hown (hw.w 177 rfl) (hw.w 178 rfl) (hw.w 2 rfl) (hw.w 179 rfl) e1 rfl rfl (by rw [hml]; rfl) (rest := [.ref b1]) (lenOf own_pd23 rfl) rfl (hb hby d28_5) (W := 1) (show 2 * 0 + _ = _ from rfl) (by decide) (by decide) rfl ?_
  rintro _ T12 L12 X12 ⟨t_12, kt_12, rfl, N12q, K12q, Q12_0, Q12_1, Q12_2, Q12_3, x12_0⟩
  have N12 := Fr.app N0 N12q
  have sz_t_12 : h0.size ≤ t_12 := Nat.le_trans K11.1 x12_0
  have K26 : Keep h0 T12.heap [] := K11.trans K12q (allS (Or.inr sz_b1) all0)
  refine own_go (B := T12.setTop (mkF m 8 #[Sr a2] [.ref b1])) (fun _ k => k) ?_
  exact own_retA X12 hx hlk hret rfl rfl (hb hby d28_8) rfl ⟨b1, t_12, kt_12, rfl, N12, K26, Q12_0, Q12_1, Q12_2, Q12_3, sz_b1, sz_t_12⟩ (by decide) (by decide)
abbrev R_own_aln11 : Room := ⟨0, 0, 0, 0⟩
def Q_own_aln11 (Z : State) (a1 : Addr) (h0 : Heap) (n0 : Nat) (v : Option Value) (h : Heap) (L : List Loc) : Prop := v = some (.int 11) ∧ Fr n0 L ∧ h = h0
theorem own_aln11 (l : Launch) (Z : State) (a0 : Array Value) (hw : own_HW a0 Z) (ws : List Jvm.Cond) (a1 : Addr) (h0 : Heap) (n0 : Nat) (Z0 : n0 ≤ h0.size) (P_F_a1_count : Fld Z h0 a1 nn10_ "count" "I" (.int 11)) :
    own_MF l own_y34 (Jvm.Cond.code own_y34 jdk_68_method_6_code 1 (some .int)) ws R_own_aln11 #[.ref a1] Z h0 (Q_own_aln11 Z a1 h0 n0) := by
  refine own_begin (plainFor_of_name own_pn13) (fun m => ef0 m a1) ?_
  intro p e s m below meth c s₁ hx hby hml hown hnm hlk hret hZ X0 e0
  have N0 := Fr.nil n0
  have K0 := Keep.refl h0 []
  refine own_go (B := s₁.setTop (mkF m 1 #[Sr a1] [.ref a1])) (fun _ k => XS.aloadN X0.here hx rfl (hb hby d33_0) rfl rfl k) ?_
  refine own_gF X0 hx hZ hown (hw.w 144 rfl) Via.refl e0 P_F_a1_count rfl rfl (hb hby d33_1) fun T1 X1 e1 => ?_
  refine own_go (B := T1.setTop (mkF m 4 #[Sr a1] [.int 11])) (fun _ k => k) ?_
  exact own_retI X1 hx hlk hret (hb hby d33_4) e1 ⟨rfl, N0, rfl⟩ (by decide) (by decide)
abbrev R_own_sln11 : Room := ⟨1, 0, 0, 12⟩
def Q_own_sln11 (Z : State) (a1 : Addr) (h0 : Heap) (n0 : Nat) (v : Option Value) (h : Heap) (L : List Loc) : Prop := v = some (.int 11) ∧ Fr n0 L ∧ h = h0
theorem own_sln11 (l : Launch) (Z : State) (a0 : Array Value) (hw : own_HW a0 Z) (ws : List Jvm.Cond) (a1 : Addr) (h0 : Heap) (n0 : Nat) (Z0 : n0 ≤ h0.size) (P_F_a1_count : Fld Z h0 a1 nn10_ "count" "I" (.int 11)) (P_E_a1 : Exa Z h0 a1 nn5_) :
    own_MF l own_y35 (Jvm.Cond.code own_y35 jdk_67_method_93_code 1 (some .int)) ws R_own_sln11 #[.ref a1] Z h0 (Q_own_sln11 Z a1 h0 n0) := by
  refine own_begin (plainFor_of_name own_pn14) (fun m => ef0 m a1) ?_
  intro p e s m below meth c s₁ hx hby hml hown hnm hlk hret hZ X0 e0
  have N0 := Fr.nil n0
  have K0 := Keep.refl h0 []
  refine own_go (B := s₁.setTop (mkF m 1 #[Sr a1] [.ref a1])) (fun _ k => XS.aloadN X0.here hx rfl (hb hby d32_0) rfl rfl k) ?_
  obtain ⟨_, _, ⟨T1, L1, k1, n1⟩, -, X1, ⟨Lc1, hQ1, l1, y1, z1⟩, st1⟩ := superBack X0 hx hZ (y := own_y34) hown (hw.w 194 rfl) (own_same (y := own_y34) (y' := own_y28) (hw.w 190 rfl) (hw.w 147 rfl) (notFace_of_selects (hw.w 149 rfl)) rfl (by decide)) (hw.w 190 rfl) (hw.w 131 rfl) (by decide) (backOf (W := 0) (own_aln11 l Z a0 hw [] a1 h0 n0 (Nat.le_trans Z0 K0.1) P_F_a1_count) hZ (hw.w 195 rfl) (hw.w 115 rfl) (by decide) (by decide)) e0 (Ins.self P_E_a1) (g := (mkF m 1 #[Sr a1] [.ref a1])) rfl (by rw [hml]; rfl) (hw.w 195 rfl) (argsL := []) (rest := []) (lenOf own_pd14 rfl) rfl (by show 2 * 0 + _ ≤ _; exact Nat.le_of_eq rfl) (hb hby d32_1) (fun _ _ => ⟨rfl, e0, (by decide : 0 + 0 ≤ _), (by decide : 0 + 0 ≤ _)⟩)
  dsimp only [Pt.U, Pt.locs, Pt.cells, Pt.slots] at X1 l1 y1 z1 st1 hQ1
  subst l1 y1 z1
  obtain ⟨rfl, N1q, e1⟩ := hQ1
  have N1 := Fr.app N0 N1q
  refine own_go (B := T1.setTop (mkF m 4 #[Sr a1] [.int 11])) (fun _ k => st1.trans k) ?_
  exact own_retI X1 hx hlk hret (hb hby d32_4) e1 ⟨rfl, N1, rfl⟩ (by decide) (by decide)
abbrev R_own_chl11 : Room := ⟨0, 0, 0, 0⟩
theorem ef26 (m : MethodId)  : entryFrame m #[(.int 0), (.int 11)] 2 = mkF m 0 #[.val (.int 0), .val (.int 11)] [] := by first | (simp [entryFrame, mkF, argsToLocals, Value.category]; done) | rfl
def Q_own_chl11 (Z : State)  (h0 : Heap) (n0 : Nat) (v : Option Value) (h : Heap) (L : List Loc) : Prop := v = none ∧ Fr n0 L ∧ h = h0
theorem own_chl11 (l : Launch) (Z : State) (a0 : Array Value) (hw : own_HW a0 Z) (ws : List Jvm.Cond)  (h0 : Heap) (n0 : Nat) (Z0 : n0 ≤ h0.size)  :
    own_MF l own_y36 (Jvm.Cond.code own_y36 jdk_65_method_131_code 2 none) ws R_own_chl11 #[.int 0, .int 11] Z h0 (Q_own_chl11 Z  h0 n0) := by
  refine own_begin (plainFor_of_name own_pn15) (fun m => ef26 m ) ?_
  intro p e s m below meth c s₁ hx hby hml hown hnm hlk hret hZ X0 e0
  have N0 := Fr.nil n0
  have K0 := Keep.refl h0 []
  refine own_go (B := s₁.setTop (mkF m 2 #[Si 0, Si 11] [.int 0, .int 11])) (fun _ k => XS.iloadN X0.here hx rfl (hb hby d37_0) rfl (XS.iloadN X0.here hx rfl (hb hby d37_1) rfl  k)) ?_
  have hc1 : ¬ ((11 : Int32) < (0 : Int32)) := by decide
  refine own_go (B := s₁.setTop (mkF m 37 #[Si 0, Si 11] [])) (fun _ k => XS.icmpYes X0.here hx rfl (pc0 := 2) (pc' := 37) rfl (hb hby d37_2) rfl (flt hc1).2.1 (by decide) (by decide) k) ?_
  exact own_retV X0 hx hlk hret (hb hby d37_37) e0 ⟨rfl, N0, rfl⟩ (by decide) (by decide)
abbrev R_own_min11 : Room := ⟨0, 0, 0, 0⟩
theorem ef27 (m : MethodId)  : entryFrame m #[(.int 16), (.int 11)] 2 = mkF m 0 #[.val (.int 16), .val (.int 11)] [] := by first | (simp [entryFrame, mkF, argsToLocals, Value.category]; done) | rfl
def Q_own_min11 (Z : State)  (h0 : Heap) (n0 : Nat) (v : Option Value) (h : Heap) (L : List Loc) : Prop := v = some (.int 11) ∧ Fr n0 L ∧ h = h0
theorem own_min11 (l : Launch) (Z : State) (a0 : Array Value) (hw : own_HW a0 Z) (ws : List Jvm.Cond)  (h0 : Heap) (n0 : Nat) (Z0 : n0 ≤ h0.size)  :
    own_MF l own_y37 (Jvm.Cond.code own_y37 jdk_29_method_69_code 2 (some .int)) ws R_own_min11 #[.int 16, .int 11] Z h0 (Q_own_min11 Z  h0 n0) := by
  refine own_begin (Jvm.Free.JP.mathPlain rfl (by decide +kernel)) (fun m => ef27 m ) ?_
  intro p e s m below meth c s₁ hx hby hml hown hnm hlk hret hZ X0 e0
  have N0 := Fr.nil n0
  have K0 := Keep.refl h0 []
  refine own_go (B := s₁.setTop (mkF m 2 #[Si 16, Si 11] [.int 11, .int 16])) (fun _ k => XS.iloadN X0.here hx rfl (hb hby d38_0) rfl (XS.iloadN X0.here hx rfl (hb hby d38_1) rfl  k)) ?_
  have hc1 : (11 : Int32) < (16 : Int32) := by decide
  refine own_go (B := s₁.setTop (mkF m 10 #[Si 16, Si 11] [.int 11])) (fun _ k => XS.icmpYes X0.here hx rfl (pc0 := 2) (pc' := 9) rfl (hb hby d38_2) rfl (tlt hc1).2.2.1 (by decide) (by decide) (XS.iloadN X0.here hx rfl (hb hby d38_9) rfl  k)) ?_
  exact own_retI X0 hx hlk hret (hb hby d38_10) e0 ⟨rfl, N0, rfl⟩ (by decide) (by decide)
abbrev R_own_crb11 : Room := ⟨1, 1, 11, 18⟩
theorem ef28 (m : MethodId) (x0 : Addr) : entryFrame m #[(.ref x0), (.int 0), (.int 11)] 5 = mkF m 0 #[.val (.ref x0), .val (.int 0), .val (.int 11), .unset, .unset] [] := by first | (simp [entryFrame, mkF, argsToLocals, Value.category]; done) | rfl
def Q_own_crb11 (Z : State) (vb : Addr) (kb : ClassId) (w0 w1 w2 w3 w4 w5 w6 w7 w8 w9 w10 : Int32) (h0 : Heap) (n0 : Nat) (v : Option Value) (h : Heap) (L : List Loc) : Prop := ∃ b : Addr, ∃ kc : ClassId, v = some (.ref b) ∧ Fr n0 L ∧ Keep h0 h [] ∧ Arv Z h b kc .byte 11 [.int w0, .int w1, .int w2, .int w3, .int w4, .int w5, .int w6, .int w7, .int w8, .int w9, .int w10] (.int 0) ∧ (h0.size ≤ b)
theorem own_crb11 (l : Launch) (Z : State) (a0 : Array Value) (hw : own_HW a0 Z) (ws : List Jvm.Cond) (vb : Addr) (kb : ClassId) (w0 w1 w2 w3 w4 w5 w6 w7 w8 w9 w10 : Int32) (h0 : Heap) (n0 : Nat) (Z0 : n0 ≤ h0.size) (P_V_vb : Arv Z h0 vb kb .byte 16 [.int w0, .int w1, .int w2, .int w3, .int w4, .int w5, .int w6, .int w7, .int w8, .int w9, .int w10, .int 0, .int 0, .int 0, .int 0, .int 0] (.int 0)) :
    own_MF l own_y38 (Jvm.Cond.code own_y38 jdk_65_method_133_code 5 (some (.array .byte))) ws R_own_crb11 #[.ref vb, .int 0, .int 11] Z h0 (Q_own_crb11 Z vb kb w0 w1 w2 w3 w4 w5 w6 w7 w8 w9 w10 h0 n0) := by
  refine own_begin (plainFor_of_name own_pn15) (fun m => ef28 m vb) ?_
  intro p e s m below meth c s₁ hx hby hml hown hnm hlk hret hZ X0 e0
  have N0 := Fr.nil n0
  have K0 := Keep.refl h0 []
  refine own_go (B := s₁.setTop (mkF m 2 #[Sr vb, Si 0, Si 11, Su, Su] [.int 11, .int 0])) (fun _ k => XS.iloadN X0.here hx rfl (hb hby d36_0) rfl (XS.iloadN X0.here hx rfl (hb hby d36_1) rfl  k)) ?_
  refine own_cS (own_chl11 l Z a0 hw []  h0 n0 (Nat.le_trans Z0 K0.1) ) X0 hx hZ hown (hw.w 208 rfl) (hw.w 209 rfl) (hw.w 203 rfl) (hw.w 210 rfl) e0 rfl rfl (by rw [hml]; rfl) (rest := []) (lenOf own_pd17 rfl) rfl (hb hby d36_2) (W := 0) (show 2 * 0 + _ = _ from rfl) (by decide) (by decide) ?_
  rintro _ T1 L1 X1 ⟨rfl, N1q, e1⟩
  have N1 := Fr.app N0 N1q
  refine own_go (B := T1.setTop (mkF m 8 #[Sr vb, Si 0, Si 11, Su, Su] [(.int ((11 : Int32) - (0 : Int32)))])) (fun _ k => XS.iloadN X1.here hx rfl (hb hby d36_5) rfl (XS.iloadN X1.here hx rfl (hb hby d36_6) rfl (XS.isub X1.here hx rfl (hb hby d36_7) rfl k))) ?_
  rw [show ((11 : Int32) - (0 : Int32)) = (11 : Int32) from by decide]
  show own_Fin _ _ _ _ _ _ _ (T1.setTop (mkF m 8 #[Sr vb, Si 0, Si 11, Su, Su] [.int 11]))
  refine own_go (B := T1.setTop (mkF m 10 #[Sr vb, Si 0, Si 11, Si 11, Su] [.int 11])) (fun _ k => XS.istoreN X1.here hx rfl (hb hby d36_8) rfl (l' := #[Sr vb, Si 0, Si 11, Si 11, Su]) rfl (XS.iloadN X1.here hx rfl (hb hby d36_9) rfl  k)) ?_
  obtain ⟨T2, h2, kc2, X2, e2, E2, A2, st2⟩ := newP X1 hx hZ (hw.w 19 rfl) e1 (g := (mkF m 10 #[Sr vb, Si 0, Si 11, Si 11, Su] [.int 11])) rfl (hb hby d36_10) rfl (by decide) (cap := 11) (by decide) (by decide) (by decide) (by decide)
  obtain ⟨b2, g2⟩ : ∃ z, z = h0.size := ⟨_, rfl⟩
  rw [← g2] at A2 st2
  have sz_b2 : h0.size ≤ b2 := Nat.le_trans K0.1 (Nat.le_of_eq g2.symm)
  have g_b2 : n0 ≤ b2 := Nat.le_trans Z0 sz_b2
  have V_5 := P_V_vb.ext E2
  have V_b2 : Arv Z h2 b2 kc2 .byte 11 [.int 0, .int 0, .int 0, .int 0, .int 0, .int 0, .int 0, .int 0, .int 0, .int 0, .int 0] (.int 0) := (Arv.new A2 (by decide)).pad (pad_rep [] (.int 0) 11)
  have K6 : Keep h0 h2 [] := K0.ext E2
  refine own_go (B := T2.setTop (mkF m 20 #[Sr vb, Si 0, Si 11, Si 11, Sr b2] [.ref vb, .int 0, .ref b2, .int 0, .ref vb])) (fun _ k => st2 _ (XS.astore X2.here hx rfl (hb hby d36_12) rfl rfl (l' := #[Sr vb, Si 0, Si 11, Si 11, Sr b2]) rfl (XS.aloadN X2.here hx rfl (hb hby d36_14) rfl rfl (XS.iloadN X2.here hx rfl (hb hby d36_15) rfl (XS.aload X2.here hx rfl (hb hby d36_16) rfl rfl (XS.iconst X2.here hx rfl (hb hby d36_18) (XS.aloadN X2.here hx rfl (hb hby d36_19) rfl rfl k))))))) ?_
  obtain ⟨cl7, Ar7, q7, S7, N7n, H7, G7⟩ := id V_5
  refine own_go (fun _ k => X2.arraylength hx (own_hc e2 Ar7.1) (State.isArrayOf_alike hZ.alike Ar7.2.1) (g := (mkF m 20 #[Sr vb, Si 0, Si 11, Si 11, Sr b2] [.ref vb, .int 0, .ref b2, .int 0, .ref vb])) rfl rfl (hb hby d36_20) _ k) ?_
  rw [len_of S7 N7n]
  show own_Fin _ _ _ _ _ _ _ (T2.setTop (mkF m 21 #[Sr vb, Si 0, Si 11, Si 11, Sr b2] [.int 16, .int 0, .ref b2, .int 0, .ref vb]))
  refine own_go (B := T2.setTop (mkF m 23 #[Sr vb, Si 0, Si 11, Si 11, Sr b2] [(.int ((16 : Int32) - (0 : Int32))), .int 0, .ref b2, .int 0, .ref vb])) (fun _ k => XS.iloadN X2.here hx rfl (hb hby d36_21) rfl (XS.isub X2.here hx rfl (hb hby d36_22) rfl k)) ?_
  rw [show ((16 : Int32) - (0 : Int32)) = (16 : Int32) from by decide]
  show own_Fin _ _ _ _ _ _ _ (T2.setTop (mkF m 23 #[Sr vb, Si 0, Si 11, Si 11, Sr b2] [.int 16, .int 0, .ref b2, .int 0, .ref vb]))
  refine own_go (B := T2.setTop (mkF m 24 #[Sr vb, Si 0, Si 11, Si 11, Sr b2] [.int 11, .int 16, .int 0, .ref b2, .int 0, .ref vb])) (fun _ k => XS.iloadN X2.here hx rfl (hb hby d36_23) rfl  k) ?_
  refine own_cS (own_min11 l Z a0 hw []  h2 n0 (Nat.le_trans Z0 K6.1) ) X2 hx hZ hown (hw.w 211 rfl) (hw.w 212 rfl) (hw.w 213 rfl) (hw.w 214 rfl) e2 rfl rfl (by rw [hml]; rfl) (rest := [.int 0, .ref b2, .int 0, .ref vb]) (lenOf own_pd18 rfl) rfl (hb hby d36_24) (W := 4) (show 2 * 0 + _ = _ from rfl) (by decide) (by decide) ?_
  rintro _ T8 L8 X8 ⟨rfl, N8q, e8⟩
  have N8 := Fr.app N1 N8q
  refine own_go (B := T8.setTop (mkF m 27 #[Sr vb, Si 0, Si 11, Si 11, Sr b2] [.int 11, .int 0, .ref b2, .int 0, .ref vb])) (fun _ k => k) ?_
  obtain ⟨T9, h9, L9, X9, e9, N9, Kc9, Vc9, st9⟩ := cpA X8 hx hZ hown (hw.w 215 rfl) (hw.w 170 rfl) (hw.w 168 rfl) (hw.w 169 rfl) e8 V_5 V_b2 (us := [.int w0, .int w1, .int w2, .int w3, .int w4, .int w5, .int w6, .int w7, .int w8, .int w9, .int w10]) (Or.inl ⟨rfl, rfl⟩) (by decide) (by decide) (by decide) (by decide) (by decide) rfl (Nat.le_of_ble_eq_true rfl) N8 g_b2 (g := (mkF m 27 #[Sr vb, Si 0, Si 11, Si 11, Sr b2] [.int 11, .int 0, .ref b2, .int 0, .ref vb])) rfl (by rw [hml]; rfl) rfl (hb hby d36_27) (by decide) (W := 0) (by show 2 * 0 + _ ≤ _; exact Nat.le_of_eq rfl) (by decide)
  have V_b2_9 : Arv Z h9 b2 kc2 .byte 11 [.int w0, .int w1, .int w2, .int w3, .int w4, .int w5, .int w6, .int w7, .int w8, .int w9, .int w10] (.int 0) := Vc9
  have K13 : Keep h0 h9 [] := K6.trans Kc9 (allS (Or.inr sz_b2) all0)
  refine own_go (B := T9.setTop (mkF m 32 #[Sr vb, Si 0, Si 11, Si 11, Sr b2] [.ref b2])) (fun _ k => st9 _ (XS.aload X9.here hx rfl (hb hby d36_30) rfl rfl k)) ?_
  exact own_retA X9 hx hlk hret rfl rfl (hb hby d36_32) e9 ⟨b2, kc2, rfl, N9, K13, V_b2_9, sz_b2⟩ (by decide) (by decide)
abbrev R_own_cr11 : Room := ⟨2, 1, 11, 34⟩
theorem ef29 (m : MethodId) (x0 : Addr) : entryFrame m #[(.ref x0), (.int 0), (.int 11)] 3 = mkF m 0 #[.val (.ref x0), .val (.int 0), .val (.int 11)] [] := by first | (simp [entryFrame, mkF, argsToLocals, Value.category]; done) | rfl
def Q_own_cr11 (Z : State) (vb : Addr) (kb : ClassId) (w0 w1 w2 w3 w4 w5 w6 w7 w8 w9 w10 : Int32) (h0 : Heap) (n0 : Nat) (v : Option Value) (h : Heap) (L : List Loc) : Prop := ∃ b : Addr, ∃ kc : ClassId, v = some (.ref b) ∧ Fr n0 L ∧ Keep h0 h [] ∧ Arv Z h b kc .byte 11 [.int w0, .int w1, .int w2, .int w3, .int w4, .int w5, .int w6, .int w7, .int w8, .int w9, .int w10] (.int 0) ∧ (h0.size ≤ b)
theorem own_cr11 (l : Launch) (Z : State) (a0 : Array Value) (hw : own_HW a0 Z) (ws : List Jvm.Cond) (vb : Addr) (kb : ClassId) (w0 w1 w2 w3 w4 w5 w6 w7 w8 w9 w10 : Int32) (h0 : Heap) (n0 : Nat) (Z0 : n0 ≤ h0.size) (P_V_vb : Arv Z h0 vb kb .byte 16 [.int w0, .int w1, .int w2, .int w3, .int w4, .int w5, .int w6, .int w7, .int w8, .int w9, .int w10, .int 0, .int 0, .int 0, .int 0, .int 0] (.int 0)) :
    own_MF l own_y39 (Jvm.Cond.code own_y39 jdk_65_method_132_code 3 (some (.array .byte))) ws R_own_cr11 #[.ref vb, .int 0, .int 11] Z h0 (Q_own_cr11 Z vb kb w0 w1 w2 w3 w4 w5 w6 w7 w8 w9 w10 h0 n0) := by
  refine own_begin (plainFor_of_name own_pn15) (fun m => ef29 m vb) ?_
  intro p e s m below meth c s₁ hx hby hml hown hnm hlk hret hZ X0 e0
  have N0 := Fr.nil n0
  have K0 := Keep.refl h0 []
  refine own_go (B := s₁.setTop (mkF m 1 #[Sr vb, Si 0, Si 11] [.int 0])) (fun _ k => XS.iloadN X0.here hx rfl (hb hby d35_0) rfl  k) ?_
  have hc1 : (0 : Int32) = (0 : Int32) := by decide
  refine own_go (B := s₁.setTop (mkF m 6 #[Sr vb, Si 0, Si 11] [.ref vb, .int 11])) (fun _ k => XS.ifNo X0.here hx rfl (hb hby d35_1) rfl ((if0 _ _).trans (teq hc1).2) (XS.iloadN X0.here hx rfl (hb hby d35_4) rfl (XS.aloadN X0.here hx rfl (hb hby d35_5) rfl rfl k))) ?_
  obtain ⟨cl2, Ar2, q2, S2, N2n, H2, G2⟩ := id P_V_vb
  refine own_go (fun _ k => X0.arraylength hx (own_hc e0 Ar2.1) (State.isArrayOf_alike hZ.alike Ar2.2.1) (g := (mkF m 6 #[Sr vb, Si 0, Si 11] [.ref vb, .int 11])) rfl rfl (hb hby d35_6) _ k) ?_
  rw [len_of S2 N2n]
  show own_Fin _ _ _ _ _ _ _ (s₁.setTop (mkF m 7 #[Sr vb, Si 0, Si 11] [.int 16, .int 11]))
  have hc3 : ¬ ((11 : Int32) = (16 : Int32)) := by decide
  refine own_go (B := s₁.setTop (mkF m 13 #[Sr vb, Si 0, Si 11] [.int 11, .int 0, .ref vb])) (fun _ k => XS.icmpNo X0.here hx rfl (hb hby d35_7) rfl (feq hc3).1 (XS.aloadN X0.here hx rfl (hb hby d35_10) rfl rfl (XS.iloadN X0.here hx rfl (hb hby d35_11) rfl (XS.iloadN X0.here hx rfl (hb hby d35_12) rfl  k)))) ?_
  refine own_cS (own_crb11 l Z a0 hw [] vb kb w0 w1 w2 w3 w4 w5 w6 w7 w8 w9 w10 h0 n0 (Nat.le_trans Z0 K0.1) P_V_vb) X0 hx hZ hown (hw.w 205 rfl) (hw.w 206 rfl) (hw.w 203 rfl) (hw.w 207 rfl) e0 rfl rfl (by rw [hml]; rfl) (rest := []) (lenOf own_pd19 rfl) rfl (hb hby d35_13) (W := 0) (show 2 * 0 + _ = _ from rfl) (by decide) (by decide) ?_
  rintro _ T4 L4 X4 ⟨b_4, kc_4, rfl, N4q, K4q, Q4_0, x4_0⟩
  have N4 := Fr.app N0 N4q
  have K8 : Keep h0 T4.heap [] := K0.trans K4q all0
  refine own_go (B := T4.setTop (mkF m 16 #[Sr vb, Si 0, Si 11] [.ref b_4])) (fun _ k => k) ?_
  exact own_retA X4 hx hlk hret rfl rfl (hb hby d35_16) rfl ⟨b_4, kc_4, rfl, N4, K8, Q4_0, x4_0⟩ (by decide) (by decide)
abbrev R_own_sab11 : Room := ⟨3, 1, 11, 49⟩
def Q_own_sab11 (Z : State) (a1 a2 vb : Addr) (kb : ClassId) (w0 w1 w2 w3 w4 w5 w6 w7 w8 w9 w10 cs : Int32) (h0 : Heap) (n0 : Nat) (v : Option Value) (h : Heap) (L : List Loc) : Prop := ∃ t : Addr, ∃ kt : ClassId, v = none ∧ Fr n0 L ∧ Keep h0 h [a1] ∧ Exa Z h a1 nn3_ ∧ Fld Z h a1 nn3_ "value" "[B" (.ref t) ∧ Fld Z h a1 nn3_ "coder" "B" (.int 0) ∧ Arv Z h t kt .byte 11 [.int w0, .int w1, .int w2, .int w3, .int w4, .int w5, .int w6, .int w7, .int w8, .int w9, .int w10] (.int 0) ∧ (h0.size ≤ t)
theorem own_sab11 (l : Launch) (Z : State) (a0 : Array Value) (hw : own_HW a0 Z) (ws : List Jvm.Cond) (a1 a2 vb : Addr) (kb : ClassId) (w0 w1 w2 w3 w4 w5 w6 w7 w8 w9 w10 cs : Int32) (h0 : Heap) (n0 : Nat) (Z0 : n0 ≤ h0.size) (P_E_a1 : Exa Z h0 a1 nn3_) (P_F_a1_value : Fld Z h0 a1 nn3_ "value" "[B" .null) (P_F_a1_coder : Fld Z h0 a1 nn3_ "coder" "B" (.int 0)) (P_E_a2 : Exa Z h0 a2 nn5_) (P_F_a2_value : Fld Z h0 a2 nn10_ "value" "[B" (.ref vb)) (P_F_a2_coder : Fld Z h0 a2 nn10_ "coder" "B" (.int 0)) (P_F_a2_count : Fld Z h0 a2 nn10_ "count" "I" (.int 11)) (P_V_vb : Arv Z h0 vb kb .byte 16 [.int w0, .int w1, .int w2, .int w3, .int w4, .int w5, .int w6, .int w7, .int w8, .int w9, .int w10, .int 0, .int 0, .int 0, .int 0, .int 0] (.int 0)) (g_a1 : n0 ≤ a1) (ne_a2_a1 : a2 ≠ a1) (ne_vb_a1 : vb ≠ a1) (P_S_COMPACT_STRINGS : Sta Z h0 nn3_ nn16_ "Z" (.int cs)) (hcs : ¬ (cs = (0 : Int32))) :
    own_MF l own_y40 (Jvm.Cond.code own_y40 jdk_42_method_150_code 5 none) ws R_own_sab11 #[.ref a1, .ref a2, .null] Z h0 (Q_own_sab11 Z a1 a2 vb kb w0 w1 w2 w3 w4 w5 w6 w7 w8 w9 w10 cs h0 n0) := by
  refine own_begin (plainFor_of_name own_pn10) (fun m => ef25 m a1 a2) ?_
  intro p e s m below meth c s₁ hx hby hml hown hnm hlk hret hZ X0 e0
  have N0 := Fr.nil n0
  have K0 := Keep.refl h0 [a1]
  refine own_go (B := s₁.setTop (mkF m 1 #[Sr a1, Sr a2, .val .null, Su, Su] [.ref a1])) (fun _ k => XS.aloadN X0.here hx rfl (hb hby d30_0) rfl rfl k) ?_
  refine own_iO X0 hx hZ hown (hw.w 11 rfl) (hw.w 12 rfl) (hw.w 13 rfl) e0 rfl (by rw [hml]; rfl) rfl (hb hby d30_1) (by decide) (W := 0) (by show 2 * 0 + _ ≤ _; exact Nat.le_of_eq rfl) (by decide) fun T1 X1 e1 => ?_
  refine own_go (B := T1.setTop (mkF m 5 #[Sr a1, Sr a2, .val .null, Su, Su] [.ref a2])) (fun _ k => XS.aloadN X1.here hx rfl (hb hby d30_4) rfl rfl k) ?_
  refine own_cV (own_rm31 l Z a0 hw [] a2 vb h0 n0 (Nat.le_trans Z0 K0.1) P_F_a2_value) X1 hx hZ hown (hw.w 183 rfl) (hw.w 184 rfl) (notFace_of_selects (args := #[]) (mvT hZ (hw.w 186 rfl))) (hw.w 186 rfl) (hw.w 185 rfl) (hw.w 115 rfl) (hw.w 187 rfl) P_E_a2 e1 rfl rfl (by rw [hml]; rfl) (rest := []) (lenOf own_pd20 rfl) rfl (hb hby d30_5) (W := 0) (show 2 * 0 + _ = _ from rfl) (by decide) (by decide) ?_
  rintro _ T2 L2 X2 ⟨rfl, N2q, e2⟩
  have N2 := Fr.app N0 N2q
  refine own_go (B := T2.setTop (mkF m 10 #[Sr a1, Sr a2, .val .null, Sr vb, Su] [.ref a2])) (fun _ k => XS.astoreN X2.here hx rfl (hb hby d30_8) rfl rfl (l' := #[Sr a1, Sr a2, .val .null, Sr vb, Su]) rfl (XS.aloadN X2.here hx rfl (hb hby d30_9) rfl rfl k)) ?_
  refine own_cV (own_sln11 l Z a0 hw [] a2 h0 n0 (Nat.le_trans Z0 K0.1) P_F_a2_count P_E_a2) X2 hx hZ hown (hw.w 188 rfl) (hw.w 189 rfl) (own_nf (args := #[]) (y' := own_y28) (mvT hZ (hw.w 147 rfl)) (notFace_of_selects (args := #[]) (mvT hZ (hw.w 149 rfl))) rfl) (hw.w 191 rfl) (hw.w 192 rfl) (hw.w 107 rfl) (hw.w 193 rfl) P_E_a2 e2 rfl rfl (by rw [hml]; rfl) (rest := []) (lenOf own_pd14 rfl) rfl (hb hby d30_10) (W := 0) (show 2 * 0 + _ = _ from rfl) (by decide) (by decide) ?_
  rintro _ T3 L3 X3 ⟨rfl, N3q, e3⟩
  have N3 := Fr.app N2 N3q
  refine own_go (B := T3.setTop (mkF m 16 #[Sr a1, Sr a2, .val .null, Sr vb, Si 11] [.ref a2])) (fun _ k => XS.istore X3.here hx rfl (hb hby d30_13) rfl (l' := #[Sr a1, Sr a2, .val .null, Sr vb, Si 11]) rfl (XS.aloadN X3.here hx rfl (hb hby d30_15) rfl rfl k)) ?_
  refine own_cV (own_rm34 l Z a0 hw [] a2 cs h0 n0 (Nat.le_trans Z0 K0.1) P_F_a2_coder P_S_COMPACT_STRINGS hcs) X3 hx hZ hown (hw.w 196 rfl) (hw.w 197 rfl) (notFace_of_selects (args := #[]) (mvT hZ (hw.w 199 rfl))) (hw.w 199 rfl) (hw.w 198 rfl) (hw.w 115 rfl) (hw.w 200 rfl) P_E_a2 e3 rfl rfl (by rw [hml]; rfl) (rest := []) (lenOf own_pd21 rfl) rfl (hb hby d30_16) (W := 0) (show 2 * 0 + _ = _ from rfl) (by decide) (by decide) ?_
  rintro _ T4 L4 X4 ⟨rfl, N4q, e4⟩
  have N4 := Fr.app N3 N4q
  refine own_go (B := T4.setTop (mkF m 19 #[Sr a1, Sr a2, .val .null, Sr vb, Si 11] [.int 1])) (fun _ k => k) ?_
  have hc5 : ¬ ((1 : Int32) = (0 : Int32)) := by decide
  refine own_go (B := T4.setTop (mkF m 24 #[Sr a1, Sr a2, .val .null, Sr vb, Si 11] [.int 0, .ref a1])) (fun _ k => XS.ifNo X4.here hx rfl (hb hby d30_19) rfl ((if0 _ _).trans (feq hc5).1) (XS.aloadN X4.here hx rfl (hb hby d30_22) rfl rfl (XS.iconst X4.here hx rfl (hb hby d30_23) k))) ?_
  refine own_pN X4 hx hZ hown (hw.w 26 rfl) Via.refl e4 P_F_a1_coder P_E_a1 (Or.inr ⟨(hw.w 27 rfl), rfl, hnm⟩) (hw.w 1 rfl) (ty := .byte) (v := (.int 0)) (v' := (.int 0)) (by decide) rfl rfl rfl rfl (hb hby d30_24) fun T6 h6 X6 e6 W6 => ?_
  have F_w6 : Fld Z h6 a1 nn3_ "coder" "B" (.int 0) := P_F_a1_coder.same W6
  have E_8 := P_E_a1.wr W6
  have F_9 := P_F_a1_value.other W6 (Or.inr (slot_ne (Or.inr (hw.w 29 rfl)) (Or.inr (hw.w 27 rfl)) (by decide) (t := (.array .byte)) (t' := .byte) (by decide) (by decide)))
  have V_15 := P_V_vb.other W6 ne_vb_a1
  have K17 : Keep h0 h6 [a1] := K0.wr W6 (Or.inl (List.mem_of_getElem? (i := 0) rfl))
  have N6 := Fr.snoc X6 N4 g_a1
  refine own_go (B := T6.setTop (mkF m 32 #[Sr a1, Sr a2, .val .null, Sr vb, Si 11] [.int 11, .int 0, .ref vb, .ref a1])) (fun _ k => XS.aloadN X6.here hx rfl (hb hby d30_27) rfl rfl (XS.aloadN X6.here hx rfl (hb hby d30_28) rfl rfl (XS.iconst X6.here hx rfl (hb hby d30_29) (XS.iload X6.here hx rfl (hb hby d30_30) rfl  k)))) ?_
  refine own_cS (own_cr11 l Z a0 hw [] vb kb w0 w1 w2 w3 w4 w5 w6 w7 w8 w9 w10 h6 n0 (Nat.le_trans Z0 K17.1) V_15) X6 hx hZ hown (hw.w 201 rfl) (hw.w 202 rfl) (hw.w 203 rfl) (hw.w 204 rfl) e6 rfl rfl (by rw [hml]; rfl) (rest := [.ref a1]) (lenOf own_pd19 rfl) rfl (hb hby d30_32) (W := 1) (show 2 * 0 + _ = _ from rfl) (by decide) (by decide) ?_
  rintro _ T18 L18 X18 ⟨b_18, kc_18, rfl, N18q, K18q, Q18_0, x18_0⟩
  have N18 := Fr.app N6 N18q
  have ne_a1_b_18_19 : a1 ≠ b_18 := Nat.ne_of_lt (Nat.lt_of_lt_of_le E_8.lt x18_0)
  have sz_b_18 : h0.size ≤ b_18 := Nat.le_trans K17.1 x18_0
  have E_23 := E_8.keep K18q
  have F_24 := F_9.keep K18q nin0
  have F_31 := F_w6.keep K18q nin0
  have K32 : Keep h0 T18.heap [a1] := K17.trans K18q all0
  refine own_go (B := T18.setTop (mkF m 35 #[Sr a1, Sr a2, .val .null, Sr vb, Si 11] [.ref b_18, .ref a1])) (fun _ k => k) ?_
  refine own_pF X18 hx hZ hown (hw.w 28 rfl) Via.refl rfl F_24 E_23 (Or.inr ⟨(hw.w 29 rfl), rfl, hnm⟩) (hw.w 1 rfl) (ty := (.array .byte)) (v := (.ref b_18)) (by decide) rfl rfl rfl rfl (hb hby d30_35) fun T33 h33 X33 e33 W33 => ?_
  have F_w33 : Fld Z h33 a1 nn3_ "value" "[B" (.ref b_18) := F_24.same W33
  have E_35 := E_23.wr W33
  have F_43 := F_31.other W33 (Or.inr (slot_ne (Or.inr (hw.w 27 rfl)) (Or.inr (hw.w 29 rfl)) (by decide) (t := .byte) (t' := (.array .byte)) (by decide) (by decide)))
  have V_44 := Q18_0.other W33 (Ne.symm ne_a1_b_18_19)
  have K45 : Keep h0 h33 [a1] := K32.wr W33 (Or.inl (List.mem_of_getElem? (i := 0) rfl))
  have N33 := Fr.snoc X33 N18 g_a1
  refine own_go (B := T33.setTop (mkF m 97 #[Sr a1, Sr a2, .val .null, Sr vb, Si 11] [])) (fun _ k => XS.goto X33.here hx rfl (pc0 := 38) (pc' := 97) rfl (hb hby d30_38) (by decide) (by decide) k) ?_
  exact own_retV X33 hx hlk hret (hb hby d30_97) e33 ⟨b_18, kc_18, rfl, N33, K45, E_35, F_w33, F_43, V_44, sz_b_18⟩ (by decide) (by decide)
abbrev R_own_ssb11 : Room := ⟨4, 1, 11, 65⟩
def Q_own_ssb11 (Z : State) (a1 a2 vb : Addr) (kb : ClassId) (w0 w1 w2 w3 w4 w5 w6 w7 w8 w9 w10 cs : Int32) (h0 : Heap) (n0 : Nat) (v : Option Value) (h : Heap) (L : List Loc) : Prop := ∃ t : Addr, ∃ kt : ClassId, v = none ∧ Fr n0 L ∧ Keep h0 h [a1] ∧ Exa Z h a1 nn3_ ∧ Fld Z h a1 nn3_ "value" "[B" (.ref t) ∧ Fld Z h a1 nn3_ "coder" "B" (.int 0) ∧ Arv Z h t kt .byte 11 [.int w0, .int w1, .int w2, .int w3, .int w4, .int w5, .int w6, .int w7, .int w8, .int w9, .int w10] (.int 0) ∧ (h0.size ≤ t)
theorem own_ssb11 (l : Launch) (Z : State) (a0 : Array Value) (hw : own_HW a0 Z) (ws : List Jvm.Cond) (a1 a2 vb : Addr) (kb : ClassId) (w0 w1 w2 w3 w4 w5 w6 w7 w8 w9 w10 cs : Int32) (h0 : Heap) (n0 : Nat) (Z0 : n0 ≤ h0.size) (P_E_a1 : Exa Z h0 a1 nn3_) (P_F_a1_value : Fld Z h0 a1 nn3_ "value" "[B" .null) (P_F_a1_coder : Fld Z h0 a1 nn3_ "coder" "B" (.int 0)) (P_E_a2 : Exa Z h0 a2 nn5_) (P_F_a2_value : Fld Z h0 a2 nn10_ "value" "[B" (.ref vb)) (P_F_a2_coder : Fld Z h0 a2 nn10_ "coder" "B" (.int 0)) (P_F_a2_count : Fld Z h0 a2 nn10_ "count" "I" (.int 11)) (P_V_vb : Arv Z h0 vb kb .byte 16 [.int w0, .int w1, .int w2, .int w3, .int w4, .int w5, .int w6, .int w7, .int w8, .int w9, .int w10, .int 0, .int 0, .int 0, .int 0, .int 0] (.int 0)) (g_a1 : n0 ≤ a1) (ne_a2_a1 : a2 ≠ a1) (ne_vb_a1 : vb ≠ a1) (P_S_COMPACT_STRINGS : Sta Z h0 nn3_ nn16_ "Z" (.int cs)) (hcs : ¬ (cs = (0 : Int32))) :
    own_MF l own_y41 (Jvm.Cond.code own_y41 jdk_42_method_53_code 2 none) ws R_own_ssb11 #[.ref a1, .ref a2] Z h0 (Q_own_ssb11 Z a1 a2 vb kb w0 w1 w2 w3 w4 w5 w6 w7 w8 w9 w10 cs h0 n0) := by
  refine own_begin (plainFor_of_name own_pn10) (fun m => ef1 m a1 a2) ?_
  intro p e s m below meth c s₁ hx hby hml hown hnm hlk hret hZ X0 e0
  have N0 := Fr.nil n0
  have K0 := Keep.refl h0 [a1]
  refine own_go (B := s₁.setTop (mkF m 3 #[Sr a1, Sr a2] [.null, .ref a2, .ref a1])) (fun _ k => XS.aloadN X0.here hx rfl (hb hby d29_0) rfl rfl (XS.aloadN X0.here hx rfl (hb hby d29_1) rfl rfl (XS.aconstNull X0.here hx rfl (hb hby d29_2) k))) ?_
  refine own_cN (own_sab11 l Z a0 hw [] a1 a2 vb kb w0 w1 w2 w3 w4 w5 w6 w7 w8 w9 w10 cs h0 n0 (Nat.le_trans Z0 K0.1) P_E_a1 P_F_a1_value P_F_a1_coder P_E_a2 P_F_a2_value P_F_a2_coder P_F_a2_count P_V_vb g_a1 ne_a2_a1 ne_vb_a1 P_S_COMPACT_STRINGS hcs) X0 hx hZ hown (hw.w 180 rfl) (hw.w 181 rfl) (hw.w 2 rfl) (hw.w 182 rfl) e0 rfl rfl (by rw [hml]; rfl) (rest := []) (lenOf own_pd22 rfl) rfl (hb hby d29_3) (W := 0) (show 2 * 0 + _ = _ from rfl) (by decide) (by decide) rfl ?_
  rintro _ T1 L1 X1 ⟨t_1, kt_1, rfl, N1q, K1q, Q1_0, Q1_1, Q1_2, Q1_3, x1_0⟩
  have N1 := Fr.app N0 N1q
  have K15 : Keep h0 T1.heap [a1] := K0.trans K1q (allS (Or.inl (List.mem_of_getElem? (i := 0) rfl)) all0)
  refine own_go (B := T1.setTop (mkF m 6 #[Sr a1, Sr a2] [])) (fun _ k => k) ?_
  exact own_retV X1 hx hlk hret (hb hby d29_6) rfl ⟨t_1, kt_1, rfl, N1, K15, Q1_0, Q1_1, Q1_2, Q1_3, x1_0⟩ (by decide) (by decide)
abbrev R_own_tos11 : Room := ⟨5, 2, 15, 79⟩
def Q_own_tos11 (Z : State) (a2 vb : Addr) (kb : ClassId) (w0 w1 w2 w3 w4 w5 w6 w7 w8 w9 w10 cs : Int32) (h0 : Heap) (n0 : Nat) (v : Option Value) (h : Heap) (L : List Loc) : Prop := ∃ b : Addr, ∃ t : Addr, ∃ kt : ClassId, v = some (.ref b) ∧ Fr n0 L ∧ Keep h0 h [] ∧ Exa Z h b nn3_ ∧ Fld Z h b nn3_ "value" "[B" (.ref t) ∧ Fld Z h b nn3_ "coder" "B" (.int 0) ∧ Arv Z h t kt .byte 11 [.int w0, .int w1, .int w2, .int w3, .int w4, .int w5, .int w6, .int w7, .int w8, .int w9, .int w10] (.int 0) ∧ (h0.size ≤ b) ∧ (h0.size ≤ t)
theorem own_tos11 (l : Launch) (Z : State) (a0 : Array Value) (hw : own_HW a0 Z) (ws : List Jvm.Cond) (a2 vb : Addr) (kb : ClassId) (w0 w1 w2 w3 w4 w5 w6 w7 w8 w9 w10 cs : Int32) (h0 : Heap) (n0 : Nat) (Z0 : n0 ≤ h0.size) (P_E_a2 : Exa Z h0 a2 nn5_) (P_F_a2_value : Fld Z h0 a2 nn10_ "value" "[B" (.ref vb)) (P_F_a2_coder : Fld Z h0 a2 nn10_ "coder" "B" (.int 0)) (P_F_a2_count : Fld Z h0 a2 nn10_ "count" "I" (.int 11)) (P_V_vb : Arv Z h0 vb kb .byte 16 [.int w0, .int w1, .int w2, .int w3, .int w4, .int w5, .int w6, .int w7, .int w8, .int w9, .int w10, .int 0, .int 0, .int 0, .int 0, .int 0] (.int 0)) (P_S_COMPACT_STRINGS : Sta Z h0 nn3_ nn16_ "Z" (.int cs)) (hcs : ¬ (cs = (0 : Int32))) :
    own_MF l own_y42 (Jvm.Cond.code own_y42 jdk_67_method_42_code 1 (some (.object "java/lang/String"))) ws R_own_tos11 #[.ref a2] Z h0 (Q_own_tos11 Z a2 vb kb w0 w1 w2 w3 w4 w5 w6 w7 w8 w9 w10 cs h0 n0) := by
  refine own_begin (plainFor_of_name own_pn14) (fun m => ef0 m a2) ?_
  intro p e s m below meth c s₁ hx hby hml hown hnm hlk hret hZ X0 e0
  have N0 := Fr.nil n0
  have K0 := Keep.refl h0 []
  obtain ⟨T1, h1, X1, e1, E1, A1, D1, -, st1⟩ := newO X0 hx hZ hown (hw.w 176 rfl) (hw.w 1 rfl) (hw.w 2 rfl) e0 (g := (mkF m 0 #[Sr a2] [])) rfl (hb hby d28_0) (by decide) (by decide)
  obtain ⟨b1, g1⟩ : ∃ z, z = h0.size := ⟨_, rfl⟩
  rw [← g1] at A1 D1 st1
  have ne_a2_b1_2 : a2 ≠ b1 := Nat.ne_of_lt (Nat.lt_of_lt_of_le P_E_a2.lt (Nat.le_of_eq g1.symm))
  have ne_vb_b1_3 : vb ≠ b1 := Nat.ne_of_lt (Nat.lt_of_lt_of_le P_V_vb.lt (Nat.le_of_eq g1.symm))
  have sz_b1 : h0.size ≤ b1 := Nat.le_trans K0.1 (Nat.le_of_eq g1.symm)
  have g_b1 : n0 ≤ b1 := Nat.le_trans Z0 sz_b1
  have E_5 := P_E_a2.ext E1
  have F_6 := P_F_a2_value.ext E1
  have F_7 := P_F_a2_coder.ext E1
  have F_8 := P_F_a2_count.ext E1
  have V_9 := P_V_vb.ext E1
  have S_10 := P_S_COMPACT_STRINGS.ext E1
  have F_coder_b1 : Fld Z h1 b1 nn3_ "coder" "B" (.int 0) := D1 (Or.inr (hw.w 27 rfl)) (ty := .byte) (by decide)
  have F_value_b1 : Fld Z h1 b1 nn3_ "value" "[B" .null := D1 (Or.inr (hw.w 29 rfl)) (ty := (.array .byte)) (by decide)
  have K11 : Keep h0 h1 [] := K0.ext E1
  refine own_go (B := T1.setTop (mkF m 5 #[Sr a2] [.ref a2, .ref b1, .ref b1])) (fun _ k => st1 _ (XS.dup X1.here hx rfl (hb hby d28_3) rfl rfl (XS.aloadN X1.here hx rfl (hb hby d28_4) rfl rfl k))) ?_
  refine own_cN (own_ssb11 l Z a0 hw [] b1 a2 vb kb w0 w1 w2 w3 w4 w5 w6 w7 w8 w9 w10 cs h1 n0 (Nat.le_trans Z0 K11.1) A1 F_value_b1 F_coder_b1 E_5 F_6 F_7 F_8 V_9 g_b1 ne_a2_b1_2 ne_vb_b1_3 S_10 hcs) X1 hx hZ hown (hw.w 177 rfl) (hw.w 178 rfl) (hw.w 2 rfl) (hw.w 179 rfl) e1 rfl rfl (by rw [hml]; rfl) (rest := [.ref b1]) (lenOf own_pd23 rfl) rfl (hb hby d28_5) (W := 1) (show 2 * 0 + _ = _ from rfl) (by decide) (by decide) rfl ?_
  rintro _ T12 L12 X12 ⟨t_12, kt_12, rfl, N12q, K12q, Q12_0, Q12_1, Q12_2, Q12_3, x12_0⟩
  have N12 := Fr.app N0 N12q
  have sz_t_12 : h0.size ≤ t_12 := Nat.le_trans K11.1 x12_0
  have K26 : Keep h0 T12.heap [] := K11.trans K12q (allS (Or.inr sz_b1) all0)
  refine own_go (B := T12.setTop (mkF m 8 #[Sr a2] [.ref b1])) (fun _ k => k) ?_
  exact own_retA X12 hx hlk hret rfl rfl (hb hby d28_8) rfl ⟨b1, t_12, kt_12, rfl, N12, K26, Q12_0, Q12_1, Q12_2, Q12_3, sz_b1, sz_t_12⟩ (by decide) (by decide)
abbrev R_own_rm43 : Room := ⟨1, 0, 0, 12⟩
theorem d43_0 : own_D cd43 0 (.aload_n 0) 1 := by decide +kernel
theorem d43_1 : own_D cd43 1 (.invokespecial 1) 3 := by decide +kernel
theorem d43_4 : own_D cd43 4 (.aload_n 0) 1 := by decide +kernel
theorem d43_5 : own_D cd43 5 (.aload_n 1) 1 := by decide +kernel
theorem d43_6 : own_D cd43 6 (.putfield 7) 3 := by decide +kernel
theorem d43_9 : own_D cd43 9 (.aload_n 0) 1 := by decide +kernel
theorem d43_10 : own_D cd43 10 (.aload_n 2) 1 := by decide +kernel
theorem d43_11 : own_D cd43 11 (.putfield 13) 3 := by decide +kernel
theorem d43_14 : own_D cd43 14 .return_ 1 := by decide +kernel
theorem own_pn16 : plainName "com/example/aduana/aduana/core/AccessDecision" = true := by first | (simp [plainName, overriddenIn]; done) | decide +kernel
def Q_own_rm43 (Z : State) (a1 a2 a3 : Addr) (h0 : Heap) (n0 : Nat) (v : Option Value) (h : Heap) (L : List Loc) : Prop := v = none ∧ Fr n0 L ∧ Keep h0 h [a1] ∧ Exa Z h a1 nn6_ ∧ Fld Z h a1 nn6_ "description" nn11_ (.ref a2) ∧ Fld Z h a1 nn6_ "grants" nn12_ (.ref a3)
theorem own_rm43 (l : Launch) (Z : State) (a0 : Array Value) (hw : own_HW a0 Z) (ws : List Jvm.Cond) (a1 a2 a3 : Addr) (h0 : Heap) (n0 : Nat) (Z0 : n0 ≤ h0.size) (P_E_a1 : Exa Z h0 a1 nn6_) (P_F_a1_description : Fld Z h0 a1 nn6_ "description" nn11_ .null) (P_F_a1_grants : Fld Z h0 a1 nn6_ "grants" nn12_ .null) (g_a1 : n0 ≤ a1) :
    own_MF l own_y43 (Jvm.Cond.code own_y43 prog_8_method_1_code 3 none) ws R_own_rm43 #[.ref a1, .ref a2, .ref a3] Z h0 (Q_own_rm43 Z a1 a2 a3 h0 n0) := by
  refine own_begin (plainFor_of_name own_pn16) (fun m => ef11 m a1 a2 a3) ?_
  intro p e s m below meth c s₁ hx hby hml hown hnm hlk hret hZ X0 e0
  have N0 := Fr.nil n0
  have K0 := Keep.refl h0 [a1]
  refine own_go (B := s₁.setTop (mkF m 1 #[Sr a1, Sr a2, Sr a3] [.ref a1])) (fun _ k => XS.aloadN X0.here hx rfl (hb hby d43_0) rfl rfl k) ?_
  refine own_iO X0 hx hZ hown (hw.w 252 rfl) (hw.w 12 rfl) (hw.w 13 rfl) e0 rfl (by rw [hml]; rfl) rfl (hb hby d43_1) (by decide) (W := 0) (by show 2 * 0 + _ ≤ _; exact Nat.le_of_eq rfl) (by decide) fun T1 X1 e1 => ?_
  refine own_go (B := T1.setTop (mkF m 6 #[Sr a1, Sr a2, Sr a3] [.ref a2, .ref a1])) (fun _ k => XS.aloadN X1.here hx rfl (hb hby d43_4) rfl rfl (XS.aloadN X1.here hx rfl (hb hby d43_5) rfl rfl k)) ?_
  refine own_pF X1 hx hZ hown (hw.w 253 rfl) Via.refl e1 P_F_a1_description P_E_a1 (Or.inr ⟨(hw.w 254 rfl), rfl, hnm⟩) (hw.w 104 rfl) (ty := (.object "java/lang/String")) (v := (.ref a2)) (by decide) rfl rfl rfl rfl (hb hby d43_6) fun T2 h2 X2 e2 W2 => ?_
  have F_w2 : Fld Z h2 a1 nn6_ "description" nn11_ (.ref a2) := P_F_a1_description.same W2
  have E_4 := P_E_a1.wr W2
  have F_6 := P_F_a1_grants.other W2 (Or.inr (slot_ne (Or.inr (hw.w 256 rfl)) (Or.inr (hw.w 254 rfl)) (by decide) (t := (.object "java/util/function/Predicate")) (t' := (.object "java/lang/String")) (by decide) (by decide)))
  have K7 : Keep h0 h2 [a1] := K0.wr W2 (Or.inl (List.mem_of_getElem? (i := 0) rfl))
  have N2 := Fr.snoc X2 N0 g_a1
  refine own_go (B := T2.setTop (mkF m 11 #[Sr a1, Sr a2, Sr a3] [.ref a3, .ref a1])) (fun _ k => XS.aloadN X2.here hx rfl (hb hby d43_9) rfl rfl (XS.aloadN X2.here hx rfl (hb hby d43_10) rfl rfl k)) ?_
  refine own_pF X2 hx hZ hown (hw.w 255 rfl) Via.refl e2 F_6 E_4 (Or.inr ⟨(hw.w 256 rfl), rfl, hnm⟩) (hw.w 104 rfl) (ty := (.object "java/util/function/Predicate")) (v := (.ref a3)) (by decide) rfl rfl rfl rfl (hb hby d43_11) fun T8 h8 X8 e8 W8 => ?_
  have F_w8 : Fld Z h8 a1 nn6_ "grants" nn12_ (.ref a3) := F_6.same W8
  have E_10 := E_4.wr W8
  have F_12 := F_w2.other W8 (Or.inr (slot_ne (Or.inr (hw.w 254 rfl)) (Or.inr (hw.w 256 rfl)) (by decide) (t := (.object "java/lang/String")) (t' := (.object "java/util/function/Predicate")) (by decide) (by decide)))
  have K13 : Keep h0 h8 [a1] := K7.wr W8 (Or.inl (List.mem_of_getElem? (i := 0) rfl))
  have N8 := Fr.snoc X8 N2 g_a1
  refine own_go (B := T8.setTop (mkF m 14 #[Sr a1, Sr a2, Sr a3] [])) (fun _ k => k) ?_
  exact own_retV X8 hx hlk hret (hb hby d43_14) e8 ⟨rfl, N8, K13, E_10, F_12, F_w8⟩ (by decide) (by decide)
abbrev R_own_rm58 : Room := ⟨0, 0, 0, 0⟩
theorem d58_0 : own_D cd58 0 (.aload_n 0) 1 := by decide +kernel
theorem d58_1 : own_D cd58 1 (.getfield 7) 3 := by decide +kernel
theorem d58_4 : own_D cd58 4 .areturn 1 := by decide +kernel
def Q_own_rm58 (Z : State) (a1 a2 : Addr) (h0 : Heap) (n0 : Nat) (v : Option Value) (h : Heap) (L : List Loc) : Prop := v = some (.ref a2) ∧ Fr n0 L ∧ h = h0
theorem own_rm58 (l : Launch) (Z : State) (a0 : Array Value) (hw : own_HW a0 Z) (ws : List Jvm.Cond) (a1 a2 : Addr) (h0 : Heap) (n0 : Nat) (Z0 : n0 ≤ h0.size) (P_F_a1_description : Fld Z h0 a1 nn6_ "description" nn11_ (.ref a2)) :
    own_MF l own_y44 (Jvm.Cond.code own_y44 prog_8_method_8_code 1 (some (.object "java/lang/String"))) ws R_own_rm58 #[.ref a1] Z h0 (Q_own_rm58 Z a1 a2 h0 n0) := by
  refine own_begin (plainFor_of_name own_pn16) (fun m => ef0 m a1) ?_
  intro p e s m below meth c s₁ hx hby hml hown hnm hlk hret hZ X0 e0
  have N0 := Fr.nil n0
  have K0 := Keep.refl h0 []
  refine own_go (B := s₁.setTop (mkF m 1 #[Sr a1] [.ref a1])) (fun _ k => XS.aloadN X0.here hx rfl (hb hby d58_0) rfl rfl k) ?_
  refine own_gF X0 hx hZ hown (hw.w 253 rfl) Via.refl e0 P_F_a1_description rfl rfl (hb hby d58_1) fun T1 X1 e1 => ?_
  refine own_go (B := T1.setTop (mkF m 4 #[Sr a1] [.ref a2])) (fun _ k => k) ?_
  exact own_retA X1 hx hlk hret rfl rfl (hb hby d58_4) e1 ⟨rfl, N0, rfl⟩ (by decide) (by decide)
abbrev R_own_rm46 : Room := ⟨0, 0, 0, 0⟩
theorem d46_0 : own_D cd46 0 (.aload_n 0) 1 := by decide +kernel
theorem d46_1 : own_D cd46 1 (.getfield 31) 3 := by decide +kernel
theorem d46_4 : own_D cd46 4 .areturn 1 := by decide +kernel
def Q_own_rm46 (Z : State) (a1 a2 : Addr) (h0 : Heap) (n0 : Nat) (v : Option Value) (h : Heap) (L : List Loc) : Prop := v = some (.ref a2) ∧ Fr n0 L ∧ h = h0
theorem own_rm46 (l : Launch) (Z : State) (a0 : Array Value) (hw : own_HW a0 Z) (ws : List Jvm.Cond) (a1 a2 : Addr) (h0 : Heap) (n0 : Nat) (Z0 : n0 ≤ h0.size) (P_F_a1_roles : Fld Z h0 a1 nn8_ "roles" nn13_ (.ref a2)) :
    own_MF l own_y45 (Jvm.Cond.code own_y45 prog_11_method_5_code 1 (some (.object "java/util/Set"))) ws R_own_rm46 #[.ref a1] Z h0 (Q_own_rm46 Z a1 a2 h0 n0) := by
  refine own_begin (plainFor_of_name own_pn12) (fun m => ef0 m a1) ?_
  intro p e s m below meth c s₁ hx hby hml hown hnm hlk hret hZ X0 e0
  have N0 := Fr.nil n0
  have K0 := Keep.refl h0 []
  refine own_go (B := s₁.setTop (mkF m 1 #[Sr a1] [.ref a1])) (fun _ k => XS.aloadN X0.here hx rfl (hb hby d46_0) rfl rfl k) ?_
  refine own_gF X0 hx hZ hown (hw.w 95 rfl) Via.refl e0 P_F_a1_roles rfl rfl (hb hby d46_1) fun T1 X1 e1 => ?_
  refine own_go (B := T1.setTop (mkF m 4 #[Sr a1] [.ref a2])) (fun _ k => k) ?_
  exact own_retA X1 hx hlk hret rfl rfl (hb hby d46_4) e1 ⟨rfl, N0, rfl⟩ (by decide) (by decide)
abbrev R_own_rm49 : Room := ⟨0, 0, 0, 0⟩
theorem d49_0 : own_D cd49 0 (.aload_n 0) 1 := by decide +kernel
theorem d49_1 : own_D cd49 1 (.getfield 24) 3 := by decide +kernel
theorem d49_4 : own_D cd49 4 (.getstatic 19) 3 := by decide +kernel
theorem d49_7 : own_D cd49 7 (.if_acmp .eq 7) 3 := by decide +kernel
theorem d49_14 : own_D cd49 14 (.iconst 1) 1 := by decide +kernel
theorem d49_15 : own_D cd49 15 .ireturn 1 := by decide +kernel
def Q_own_rm49 (Z : State) (a1 em : Addr) (h0 : Heap) (n0 : Nat) (v : Option Value) (h : Heap) (L : List Loc) : Prop := v = some (.int 1) ∧ Fr n0 L ∧ h = h0
theorem own_rm49 (l : Launch) (Z : State) (a0 : Array Value) (hw : own_HW a0 Z) (ws : List Jvm.Cond) (a1 em : Addr) (h0 : Heap) (n0 : Nat) (Z0 : n0 ≤ h0.size) (P_F_a1_e1 : Fld Z h0 a1 nn2_ "e1" nn9_ (.ref em)) (P_S_EMPTY : Sta Z h0 nn15_ "EMPTY" nn9_ (.ref em)) :
    own_MF l own_y46 (Jvm.Cond.code own_y46 jdk_44_method_3_code 1 (some .int)) ws R_own_rm49 #[.ref a1] Z h0 (Q_own_rm49 Z a1 em h0 n0) := by
  refine own_begin (plainFor_of_name own_pn7) (fun m => ef0 m a1) ?_
  intro p e s m below meth c s₁ hx hby hml hown hnm hlk hret hZ X0 e0
  have N0 := Fr.nil n0
  have K0 := Keep.refl h0 []
  refine own_go (B := s₁.setTop (mkF m 1 #[Sr a1] [.ref a1])) (fun _ k => XS.aloadN X0.here hx rfl (hb hby d49_0) rfl rfl k) ?_
  refine own_gF X0 hx hZ hown (hw.w 240 rfl) Via.refl e0 P_F_a1_e1 rfl rfl (hb hby d49_1) fun T1 X1 e1 => ?_
  refine own_go (B := T1.setTop (mkF m 4 #[Sr a1] [.ref em])) (fun _ k => k) ?_
  obtain ⟨T2, X2, e2, st2⟩ := getS2 X1 hx hZ hown (Or.inr (hw.w 239 rfl)) Via.refl e1 P_S_EMPTY (g := (mkF m 4 #[Sr a1] [.ref em])) rfl (hb hby d49_4)
  refine own_go (B := T2.setTop (mkF m 15 #[Sr a1] [.int 1])) (fun _ k => st2 _ (Jvm.RoadKit.acmp (g := (mkF m 7 #[Sr a1] [.ref em, .ref em])) X2 hx rfl rfl rfl (pc0 := 7) (pc' := 14) (same := true) rfl (hb hby d49_7) rfl (decide_eq_true rfl) (by decide) (by decide) (XS.iconst X2.here hx rfl (hb hby d49_14) k))) ?_
  exact own_retI X2 hx hlk hret (hb hby d49_15) e2 ⟨rfl, N0, rfl⟩ (by decide) (by decide)
abbrev R_own_rm53 : Room := ⟨0, 0, 0, 0⟩
theorem d53_0 : own_D cd53 0 (.iload_n 1) 1 := by decide +kernel
theorem d53_1 : own_D cd53 1 (.ifCond .ne 8) 3 := by decide +kernel
theorem d53_4 : own_D cd53 4 (.aload_n 0) 1 := by decide +kernel
theorem d53_5 : own_D cd53 5 (.getfield 13) 3 := by decide +kernel
theorem d53_8 : own_D cd53 8 .areturn 1 := by decide +kernel
theorem ef30 (m : MethodId) (x0 : Addr) : entryFrame m #[(.ref x0), (.int 0)] 2 = mkF m 0 #[.val (.ref x0), .val (.int 0)] [] := by first | (simp [entryFrame, mkF, argsToLocals, Value.category]; done) | rfl
def Q_own_rm53 (Z : State) (a1 a2 : Addr) (h0 : Heap) (n0 : Nat) (v : Option Value) (h : Heap) (L : List Loc) : Prop := v = some (.ref a2) ∧ Fr n0 L ∧ h = h0
theorem own_rm53 (l : Launch) (Z : State) (a0 : Array Value) (hw : own_HW a0 Z) (ws : List Jvm.Cond) (a1 a2 : Addr) (h0 : Heap) (n0 : Nat) (Z0 : n0 ≤ h0.size) (P_F_a1_e0 : Fld Z h0 a1 nn2_ "e0" nn9_ (.ref a2)) :
    own_MF l own_y47 (Jvm.Cond.code own_y47 jdk_44_method_5_code 2 (some (.object "java/lang/Object"))) ws R_own_rm53 #[.ref a1, .int 0] Z h0 (Q_own_rm53 Z a1 a2 h0 n0) := by
  refine own_begin (plainFor_of_name own_pn7) (fun m => ef30 m a1) ?_
  intro p e s m below meth c s₁ hx hby hml hown hnm hlk hret hZ X0 e0
  have N0 := Fr.nil n0
  have K0 := Keep.refl h0 []
  refine own_go (B := s₁.setTop (mkF m 1 #[Sr a1, Si 0] [.int 0])) (fun _ k => XS.iloadN X0.here hx rfl (hb hby d53_0) rfl  k) ?_
  have hc1 : (0 : Int32) = (0 : Int32) := by decide
  refine own_go (B := s₁.setTop (mkF m 5 #[Sr a1, Si 0] [.ref a1])) (fun _ k => XS.ifNo X0.here hx rfl (hb hby d53_1) rfl ((if0 _ _).trans (teq hc1).2) (XS.aloadN X0.here hx rfl (hb hby d53_4) rfl rfl k)) ?_
  refine own_gF X0 hx hZ hown (hw.w 237 rfl) Via.refl e0 P_F_a1_e0 rfl rfl (hb hby d53_5) fun T2 X2 e2 => ?_
  refine own_go (B := T2.setTop (mkF m 8 #[Sr a1, Si 0] [.ref a2])) (fun _ k => k) ?_
  exact own_retA X2 hx hlk hret rfl rfl (hb hby d53_8) e2 ⟨rfl, N0, rfl⟩ (by decide) (by decide)
abbrev R_own_rm50 : Room := ⟨1, 0, 0, 12⟩
theorem d50_0 : own_D cd50 0 (.aload_n 0) 1 := by decide +kernel
theorem d50_1 : own_D cd50 1 (.invokespecial 1) 3 := by decide +kernel
theorem d50_4 : own_D cd50 4 (.aload_n 0) 1 := by decide +kernel
theorem d50_5 : own_D cd50 5 (.aload_n 1) 1 := by decide +kernel
theorem d50_6 : own_D cd50 6 (.putfield 7) 3 := by decide +kernel
theorem d50_9 : own_D cd50 9 (.aload_n 0) 1 := by decide +kernel
theorem d50_10 : own_D cd50 10 (.iload_n 2) 1 := by decide +kernel
theorem d50_11 : own_D cd50 11 (.putfield 13) 3 := by decide +kernel
theorem d50_14 : own_D cd50 14 (.aload_n 0) 1 := by decide +kernel
theorem d50_15 : own_D cd50 15 (.iconst 0) 1 := by decide +kernel
theorem d50_16 : own_D cd50 16 (.putfield 17) 3 := by decide +kernel
theorem d50_19 : own_D cd50 19 (.aload_n 0) 1 := by decide +kernel
theorem d50_20 : own_D cd50 20 (.iconst 0) 1 := by decide +kernel
theorem d50_21 : own_D cd50 21 (.putfield 20) 3 := by decide +kernel
theorem d50_24 : own_D cd50 24 .return_ 1 := by decide +kernel
theorem own_pn17 : plainName "java/util/ImmutableCollections$ListItr" = true := by first | (simp [plainName, overriddenIn]; done) | decide +kernel
theorem ef31 (m : MethodId) (x0 x1 : Addr) : entryFrame m #[(.ref x0), (.ref x1), (.int 1)] 3 = mkF m 0 #[.val (.ref x0), .val (.ref x1), .val (.int 1)] [] := by first | (simp [entryFrame, mkF, argsToLocals, Value.category]; done) | rfl
def Q_own_rm50 (Z : State) (a1 a2 : Addr) (h0 : Heap) (n0 : Nat) (v : Option Value) (h : Heap) (L : List Loc) : Prop := v = none ∧ Fr n0 L ∧ Keep h0 h [a1] ∧ Exa Z h a1 nn7_ ∧ Fld Z h a1 nn7_ "list" nn14_ (.ref a2) ∧ Fld Z h a1 nn7_ "size" "I" (.int 1) ∧ Fld Z h a1 nn7_ "cursor" "I" (.int 0) ∧ Fld Z h a1 nn7_ "isListIterator" "Z" (.int 0)
theorem own_rm50 (l : Launch) (Z : State) (a0 : Array Value) (hw : own_HW a0 Z) (ws : List Jvm.Cond) (a1 a2 : Addr) (h0 : Heap) (n0 : Nat) (Z0 : n0 ≤ h0.size) (P_E_a1 : Exa Z h0 a1 nn7_) (P_F_a1_list : Fld Z h0 a1 nn7_ "list" nn14_ .null) (P_F_a1_size : Fld Z h0 a1 nn7_ "size" "I" (.int 0)) (P_F_a1_cursor : Fld Z h0 a1 nn7_ "cursor" "I" (.int 0)) (P_F_a1_isListIterator : Fld Z h0 a1 nn7_ "isListIterator" "Z" (.int 0)) (g_a1 : n0 ≤ a1) :
    own_MF l own_y48 (Jvm.Cond.code own_y48 jdk_53_method_1_code 3 none) ws R_own_rm50 #[.ref a1, .ref a2, .int 1] Z h0 (Q_own_rm50 Z a1 a2 h0 n0) := by
  refine own_begin (plainFor_of_name own_pn17) (fun m => ef31 m a1 a2) ?_
  intro p e s m below meth c s₁ hx hby hml hown hnm hlk hret hZ X0 e0
  have N0 := Fr.nil n0
  have K0 := Keep.refl h0 [a1]
  refine own_go (B := s₁.setTop (mkF m 1 #[Sr a1, Sr a2, Si 1] [.ref a1])) (fun _ k => XS.aloadN X0.here hx rfl (hb hby d50_0) rfl rfl k) ?_
  refine own_iO X0 hx hZ hown (hw.w 303 rfl) (hw.w 12 rfl) (hw.w 13 rfl) e0 rfl (by rw [hml]; rfl) rfl (hb hby d50_1) (by decide) (W := 0) (by show 2 * 0 + _ ≤ _; exact Nat.le_of_eq rfl) (by decide) fun T1 X1 e1 => ?_
  refine own_go (B := T1.setTop (mkF m 6 #[Sr a1, Sr a2, Si 1] [.ref a2, .ref a1])) (fun _ k => XS.aloadN X1.here hx rfl (hb hby d50_4) rfl rfl (XS.aloadN X1.here hx rfl (hb hby d50_5) rfl rfl k)) ?_
  refine own_pF X1 hx hZ hown (hw.w 304 rfl) Via.refl e1 P_F_a1_list P_E_a1 (Or.inr ⟨(hw.w 305 rfl), rfl, hnm⟩) (hw.w 291 rfl) (ty := (.object "java/util/List")) (v := (.ref a2)) (by decide) rfl rfl rfl rfl (hb hby d50_6) fun T2 h2 X2 e2 W2 => ?_
  have F_w2 : Fld Z h2 a1 nn7_ "list" nn14_ (.ref a2) := P_F_a1_list.same W2
  have E_4 := P_E_a1.wr W2
  have F_6 := P_F_a1_size.other W2 (Or.inr (slot_ne (Or.inr (hw.w 307 rfl)) (Or.inr (hw.w 305 rfl)) (by decide) (t := .int) (t' := (.object "java/util/List")) (by decide) (by decide)))
  have F_7 := P_F_a1_cursor.other W2 (Or.inr (slot_ne (Or.inl (hw.w 309 rfl)) (Or.inr (hw.w 305 rfl)) (by decide) (t := .int) (t' := (.object "java/util/List")) (by decide) (by decide)))
  have F_8 := P_F_a1_isListIterator.other W2 (Or.inr (slot_ne (Or.inr (hw.w 311 rfl)) (Or.inr (hw.w 305 rfl)) (by decide) (t := .boolean) (t' := (.object "java/util/List")) (by decide) (by decide)))
  have K9 : Keep h0 h2 [a1] := K0.wr W2 (Or.inl (List.mem_of_getElem? (i := 0) rfl))
  have N2 := Fr.snoc X2 N0 g_a1
  refine own_go (B := T2.setTop (mkF m 11 #[Sr a1, Sr a2, Si 1] [.int 1, .ref a1])) (fun _ k => XS.aloadN X2.here hx rfl (hb hby d50_9) rfl rfl (XS.iloadN X2.here hx rfl (hb hby d50_10) rfl  k)) ?_
  refine own_pF X2 hx hZ hown (hw.w 306 rfl) Via.refl e2 F_6 E_4 (Or.inr ⟨(hw.w 307 rfl), rfl, hnm⟩) (hw.w 291 rfl) (ty := .int) (v := (.int 1)) (by decide) rfl rfl rfl rfl (hb hby d50_11) fun T10 h10 X10 e10 W10 => ?_
  have F_w10 : Fld Z h10 a1 nn7_ "size" "I" (.int 1) := F_6.same W10
  have E_12 := E_4.wr W10
  have F_14 := F_7.other W10 (Or.inr (slot_ne (Or.inl (hw.w 309 rfl)) (Or.inr (hw.w 307 rfl)) (by decide) (t := .int) (t' := .int) (by decide) (by decide)))
  have F_15 := F_8.other W10 (Or.inr (slot_ne (Or.inr (hw.w 311 rfl)) (Or.inr (hw.w 307 rfl)) (by decide) (t := .boolean) (t' := .int) (by decide) (by decide)))
  have F_16 := F_w2.other W10 (Or.inr (slot_ne (Or.inr (hw.w 305 rfl)) (Or.inr (hw.w 307 rfl)) (by decide) (t := (.object "java/util/List")) (t' := .int) (by decide) (by decide)))
  have K17 : Keep h0 h10 [a1] := K9.wr W10 (Or.inl (List.mem_of_getElem? (i := 0) rfl))
  have N10 := Fr.snoc X10 N2 g_a1
  refine own_go (B := T10.setTop (mkF m 16 #[Sr a1, Sr a2, Si 1] [.int 0, .ref a1])) (fun _ k => XS.aloadN X10.here hx rfl (hb hby d50_14) rfl rfl (XS.iconst X10.here hx rfl (hb hby d50_15) k)) ?_
  refine own_pF X10 hx hZ hown (hw.w 308 rfl) Via.refl e10 F_14 E_12 (Or.inl (hw.w 309 rfl)) (hw.w 291 rfl) (ty := .int) (v := (.int 0)) (by decide) rfl rfl rfl rfl (hb hby d50_16) fun T18 h18 X18 e18 W18 => ?_
  have F_w18 : Fld Z h18 a1 nn7_ "cursor" "I" (.int 0) := F_14.same W18
  have E_20 := E_12.wr W18
  have F_22 := F_15.other W18 (Or.inr (slot_ne (Or.inr (hw.w 311 rfl)) (Or.inl (hw.w 309 rfl)) (by decide) (t := .boolean) (t' := .int) (by decide) (by decide)))
  have F_23 := F_16.other W18 (Or.inr (slot_ne (Or.inr (hw.w 305 rfl)) (Or.inl (hw.w 309 rfl)) (by decide) (t := (.object "java/util/List")) (t' := .int) (by decide) (by decide)))
  have F_24 := F_w10.other W18 (Or.inr (slot_ne (Or.inr (hw.w 307 rfl)) (Or.inl (hw.w 309 rfl)) (by decide) (t := .int) (t' := .int) (by decide) (by decide)))
  have K25 : Keep h0 h18 [a1] := K17.wr W18 (Or.inl (List.mem_of_getElem? (i := 0) rfl))
  have N18 := Fr.snoc X18 N10 g_a1
  refine own_go (B := T18.setTop (mkF m 21 #[Sr a1, Sr a2, Si 1] [.int 0, .ref a1])) (fun _ k => XS.aloadN X18.here hx rfl (hb hby d50_19) rfl rfl (XS.iconst X18.here hx rfl (hb hby d50_20) k)) ?_
  refine own_pN X18 hx hZ hown (hw.w 310 rfl) Via.refl e18 F_22 E_20 (Or.inr ⟨(hw.w 311 rfl), rfl, hnm⟩) (hw.w 291 rfl) (ty := .boolean) (v := (.int 0)) (v' := (.int 0)) (by decide) rfl rfl rfl rfl (hb hby d50_21) fun T26 h26 X26 e26 W26 => ?_
  have F_w26 : Fld Z h26 a1 nn7_ "isListIterator" "Z" (.int 0) := F_22.same W26
  have E_28 := E_20.wr W26
  have F_30 := F_23.other W26 (Or.inr (slot_ne (Or.inr (hw.w 305 rfl)) (Or.inr (hw.w 311 rfl)) (by decide) (t := (.object "java/util/List")) (t' := .boolean) (by decide) (by decide)))
  have F_31 := F_24.other W26 (Or.inr (slot_ne (Or.inr (hw.w 307 rfl)) (Or.inr (hw.w 311 rfl)) (by decide) (t := .int) (t' := .boolean) (by decide) (by decide)))
  have F_32 := F_w18.other W26 (Or.inr (slot_ne (Or.inl (hw.w 309 rfl)) (Or.inr (hw.w 311 rfl)) (by decide) (t := .int) (t' := .boolean) (by decide) (by decide)))
  have K33 : Keep h0 h26 [a1] := K25.wr W26 (Or.inl (List.mem_of_getElem? (i := 0) rfl))
  have N26 := Fr.snoc X26 N18 g_a1
  refine own_go (B := T26.setTop (mkF m 24 #[Sr a1, Sr a2, Si 1] [])) (fun _ k => k) ?_
  exact own_retV X26 hx hlk hret (hb hby d50_24) e26 ⟨rfl, N26, K33, E_28, F_30, F_31, F_32, F_w26⟩ (by decide) (by decide)
abbrev R_own_rm48 : Room := ⟨2, 1, 4, 27⟩
theorem d48_0 : own_D cd48 0 (.new 61) 3 := by decide +kernel
theorem d48_3 : own_D cd48 3 .dup 1 := by decide +kernel
theorem d48_4 : own_D cd48 4 (.aload_n 0) 1 := by decide +kernel
theorem d48_5 : own_D cd48 5 (.aload_n 0) 1 := by decide +kernel
theorem d48_6 : own_D cd48 6 (.invokevirtual 13) 3 := by decide +kernel
theorem d48_9 : own_D cd48 9 (.invokespecial 63) 3 := by decide +kernel
theorem d48_12 : own_D cd48 12 .areturn 1 := by decide +kernel
def Q_own_rm48 (Z : State) (a1 a2 em : Addr) (h0 : Heap) (n0 : Nat) (v : Option Value) (h : Heap) (L : List Loc) : Prop := ∃ b : Addr, v = some (.ref b) ∧ Fr n0 L ∧ Keep h0 h [] ∧ Exa Z h b nn7_ ∧ Fld Z h b nn7_ "list" nn14_ (.ref a1) ∧ Fld Z h b nn7_ "size" "I" (.int 1) ∧ Fld Z h b nn7_ "cursor" "I" (.int 0) ∧ Fld Z h b nn7_ "isListIterator" "Z" (.int 0) ∧ (h0.size ≤ b)
theorem own_rm48 (l : Launch) (Z : State) (a0 : Array Value) (hw : own_HW a0 Z) (ws : List Jvm.Cond) (a1 a2 em : Addr) (h0 : Heap) (n0 : Nat) (Z0 : n0 ≤ h0.size) (P_E_a1 : Exa Z h0 a1 nn2_) (P_F_a1_e0 : Fld Z h0 a1 nn2_ "e0" nn9_ (.ref a2)) (P_F_a1_e1 : Fld Z h0 a1 nn2_ "e1" nn9_ (.ref em)) (P_S_EMPTY : Sta Z h0 nn15_ "EMPTY" nn9_ (.ref em)) :
    own_MF l own_y50 (Jvm.Cond.code own_y50 jdk_46_method_10_code 1 (some (.object "java/util/Iterator"))) ws R_own_rm48 #[.ref a1] Z h0 (Q_own_rm48 Z a1 a2 em h0 n0) := by
  refine own_begin (plainFor_of_name own_pn3) (fun m => ef0 m a1) ?_
  intro p e s m below meth c s₁ hx hby hml hown hnm hlk hret hZ X0 e0
  have N0 := Fr.nil n0
  have K0 := Keep.refl h0 []
  obtain ⟨T1, h1, X1, e1, E1, A1, D1, -, st1⟩ := newO X0 hx hZ hown (hw.w 290 rfl) (hw.w 291 rfl) (hw.w 292 rfl) e0 (g := (mkF m 0 #[Sr a1] [])) rfl (hb hby d48_0) (by decide) (by decide)
  obtain ⟨b1, g1⟩ : ∃ z, z = h0.size := ⟨_, rfl⟩
  rw [← g1] at A1 D1 st1
  have sz_b1 : h0.size ≤ b1 := Nat.le_trans K0.1 (Nat.le_of_eq g1.symm)
  have g_b1 : n0 ≤ b1 := Nat.le_trans Z0 sz_b1
  have E_4 := P_E_a1.ext E1
  have F_6 := P_F_a1_e1.ext E1
  have S_7 := P_S_EMPTY.ext E1
  have F_list_b1 : Fld Z h1 b1 nn7_ "list" nn14_ .null := D1 (Or.inr (hw.w 305 rfl)) (ty := (.object "java/util/List")) (by decide)
  have F_size_b1 : Fld Z h1 b1 nn7_ "size" "I" (.int 0) := D1 (Or.inr (hw.w 307 rfl)) (ty := .int) (by decide)
  have F_cursor_b1 : Fld Z h1 b1 nn7_ "cursor" "I" (.int 0) := D1 (Or.inl (hw.w 309 rfl)) (ty := .int) (by decide)
  have F_isListIterator_b1 : Fld Z h1 b1 nn7_ "isListIterator" "Z" (.int 0) := D1 (Or.inr (hw.w 311 rfl)) (ty := .boolean) (by decide)
  have K8 : Keep h0 h1 [] := K0.ext E1
  refine own_go (B := T1.setTop (mkF m 6 #[Sr a1] [.ref a1, .ref a1, .ref b1, .ref b1])) (fun _ k => st1 _ (XS.dup X1.here hx rfl (hb hby d48_3) rfl rfl (XS.aloadN X1.here hx rfl (hb hby d48_4) rfl rfl (XS.aloadN X1.here hx rfl (hb hby d48_5) rfl rfl k)))) ?_
  obtain ⟨cq9, kq9, q9a, q9b, q9c⟩ := isOf hZ e1 E_4
  obtain ⟨_, _, ⟨T9, L9, k9, n9⟩, -, X9, ⟨Lc9, hQ9, l9, y9, z9⟩, st9⟩ := X1.virtualBackUp hx (x := own_y49) (y := own_y46) hown (mvT hZ (hw.w 293 rfl)) (mvT hZ (hw.w 294 rfl)) (mvT hZ (hw.w 295 rfl)) (by decide) (mvT hZ (hw.w 296 rfl)) (mvT hZ (hw.w 297 rfl)) (backOf (W := 3) (own_rm49 l Z a0 hw [] a1 em h1 n0 (Nat.le_trans Z0 K8.1) F_6 S_7) hZ (hw.w 298 rfl) (hw.w 222 rfl) (by decide) (by decide)) q9a q9c (g := (mkF m 6 #[Sr a1] [.ref a1, .ref a1, .ref b1, .ref b1])) rfl (by rw [hml]; rfl) (Steps.refl _) (argsL := []) (rest := [.ref a1, .ref b1, .ref b1]) (lenOf own_pd14 rfl) rfl (by show 2 * 0 + _ ≤ _; exact Nat.le_of_eq rfl) (hb hby d48_6) (fun _ _ => ⟨rfl, e1, (by decide : 1 + 0 ≤ _), (by decide : 4 + 0 ≤ _)⟩)
  dsimp only [Pt.U, Pt.locs, Pt.cells, Pt.slots] at X9 l9 y9 z9 st9 hQ9
  subst l9 y9 z9
  obtain ⟨rfl, N9q, e9⟩ := hQ9
  have N9 := Fr.app N0 N9q
  refine own_go (B := T9.setTop (mkF m 9 #[Sr a1] [.int 1, .ref a1, .ref b1, .ref b1])) (fun _ k => st9.trans k) ?_
  refine own_cN (own_rm50 l Z a0 hw [] b1 a1 h1 n0 (Nat.le_trans Z0 K8.1) A1 F_list_b1 F_size_b1 F_cursor_b1 F_isListIterator_b1 g_b1) X9 hx hZ hown (hw.w 299 rfl) (hw.w 300 rfl) (hw.w 292 rfl) (hw.w 302 rfl) e9 rfl rfl (by rw [hml]; rfl) (rest := [.ref b1]) (lenOf own_pd24 rfl) rfl (hb hby d48_9) (W := 1) (show 2 * 0 + _ = _ from rfl) (by decide) (by decide) rfl ?_
  rintro _ T10 L10 X10 ⟨rfl, N10q, K10q, Q10_0, Q10_1, Q10_2, Q10_3, Q10_4⟩
  have N10 := Fr.app N9 N10q
  have K21 : Keep h0 T10.heap [] := K8.trans K10q (allS (Or.inr sz_b1) all0)
  refine own_go (B := T10.setTop (mkF m 12 #[Sr a1] [.ref b1])) (fun _ k => k) ?_
  exact own_retA X10 hx hlk hret rfl rfl (hb hby d48_12) rfl ⟨b1, rfl, N10, K21, Q10_0, Q10_1, Q10_2, Q10_3, Q10_4, sz_b1⟩ (by decide) (by decide)
abbrev R_own_hn0 : Room := ⟨0, 0, 0, 0⟩
theorem d51_0 : own_D cd51 0 (.aload_n 0) 1 := by decide +kernel
theorem d51_1 : own_D cd51 1 (.getfield 17) 3 := by decide +kernel
theorem d51_4 : own_D cd51 4 (.aload_n 0) 1 := by decide +kernel
theorem d51_5 : own_D cd51 5 (.getfield 13) 3 := by decide +kernel
theorem d51_8 : own_D cd51 8 (.if_icmp .eq 7) 3 := by decide +kernel
theorem d51_11 : own_D cd51 11 (.iconst 1) 1 := by decide +kernel
theorem d51_12 : own_D cd51 12 (.goto 4) 3 := by decide +kernel
theorem d51_16 : own_D cd51 16 .ireturn 1 := by decide +kernel
def Q_own_hn0 (Z : State) (a1 : Addr) (h0 : Heap) (n0 : Nat) (v : Option Value) (h : Heap) (L : List Loc) : Prop := v = some (.int 1) ∧ Fr n0 L ∧ h = h0
theorem own_hn0 (l : Launch) (Z : State) (a0 : Array Value) (hw : own_HW a0 Z) (ws : List Jvm.Cond) (a1 : Addr) (h0 : Heap) (n0 : Nat) (Z0 : n0 ≤ h0.size) (P_F_a1_size : Fld Z h0 a1 nn7_ "size" "I" (.int 1)) (P_F_a1_cursor : Fld Z h0 a1 nn7_ "cursor" "I" (.int 0)) :
    own_MF l own_y51 (Jvm.Cond.code own_y51 jdk_53_method_3_code 1 (some .boolean)) ws R_own_hn0 #[.ref a1] Z h0 (Q_own_hn0 Z a1 h0 n0) := by
  refine own_begin (plainFor_of_name own_pn17) (fun m => ef0 m a1) ?_
  intro p e s m below meth c s₁ hx hby hml hown hnm hlk hret hZ X0 e0
  have N0 := Fr.nil n0
  have K0 := Keep.refl h0 []
  refine own_go (B := s₁.setTop (mkF m 1 #[Sr a1] [.ref a1])) (fun _ k => XS.aloadN X0.here hx rfl (hb hby d51_0) rfl rfl k) ?_
  refine own_gF X0 hx hZ hown (hw.w 308 rfl) Via.refl e0 P_F_a1_cursor rfl rfl (hb hby d51_1) fun T1 X1 e1 => ?_
  refine own_go (B := T1.setTop (mkF m 5 #[Sr a1] [.ref a1, .int 0])) (fun _ k => XS.aloadN X1.here hx rfl (hb hby d51_4) rfl rfl k) ?_
  refine own_gF X1 hx hZ hown (hw.w 306 rfl) Via.refl e1 P_F_a1_size rfl rfl (hb hby d51_5) fun T2 X2 e2 => ?_
  refine own_go (B := T2.setTop (mkF m 8 #[Sr a1] [.int 1, .int 0])) (fun _ k => k) ?_
  have hc3 : ¬ ((0 : Int32) = (1 : Int32)) := by decide
  refine own_go (B := T2.setTop (mkF m 16 #[Sr a1] [.int 1])) (fun _ k => XS.icmpNo X2.here hx rfl (hb hby d51_8) rfl (feq hc3).1 (XS.iconst X2.here hx rfl (hb hby d51_11) (XS.goto X2.here hx rfl (pc0 := 12) (pc' := 16) rfl (hb hby d51_12) (by decide) (by decide) k))) ?_
  exact own_retN X2 hx hlk (t := .boolean) (w := (1 : Int32)) hret (by simp) (hb hby d51_16) e2 rfl ⟨rfl, N0, rfl⟩ (by decide) (by decide)
abbrev R_own_hn1 : Room := ⟨0, 0, 0, 0⟩
theorem d51_15 : own_D cd51 15 (.iconst 0) 1 := by decide +kernel
def Q_own_hn1 (Z : State) (a1 : Addr) (h0 : Heap) (n0 : Nat) (v : Option Value) (h : Heap) (L : List Loc) : Prop := v = some (.int 0) ∧ Fr n0 L ∧ h = h0
theorem own_hn1 (l : Launch) (Z : State) (a0 : Array Value) (hw : own_HW a0 Z) (ws : List Jvm.Cond) (a1 : Addr) (h0 : Heap) (n0 : Nat) (Z0 : n0 ≤ h0.size) (P_F_a1_size : Fld Z h0 a1 nn7_ "size" "I" (.int 1)) (P_F_a1_cursor : Fld Z h0 a1 nn7_ "cursor" "I" (.int 1)) :
    own_MF l own_y51 (Jvm.Cond.code own_y51 jdk_53_method_3_code 1 (some .boolean)) ws R_own_hn1 #[.ref a1] Z h0 (Q_own_hn1 Z a1 h0 n0) := by
  refine own_begin (plainFor_of_name own_pn17) (fun m => ef0 m a1) ?_
  intro p e s m below meth c s₁ hx hby hml hown hnm hlk hret hZ X0 e0
  have N0 := Fr.nil n0
  have K0 := Keep.refl h0 []
  refine own_go (B := s₁.setTop (mkF m 1 #[Sr a1] [.ref a1])) (fun _ k => XS.aloadN X0.here hx rfl (hb hby d51_0) rfl rfl k) ?_
  refine own_gF X0 hx hZ hown (hw.w 308 rfl) Via.refl e0 P_F_a1_cursor rfl rfl (hb hby d51_1) fun T1 X1 e1 => ?_
  refine own_go (B := T1.setTop (mkF m 5 #[Sr a1] [.ref a1, .int 1])) (fun _ k => XS.aloadN X1.here hx rfl (hb hby d51_4) rfl rfl k) ?_
  refine own_gF X1 hx hZ hown (hw.w 306 rfl) Via.refl e1 P_F_a1_size rfl rfl (hb hby d51_5) fun T2 X2 e2 => ?_
  refine own_go (B := T2.setTop (mkF m 8 #[Sr a1] [.int 1, .int 1])) (fun _ k => k) ?_
  have hc3 : (1 : Int32) = (1 : Int32) := by decide
  refine own_go (B := T2.setTop (mkF m 16 #[Sr a1] [.int 0])) (fun _ k => XS.icmpYes X2.here hx rfl (pc0 := 8) (pc' := 15) rfl (hb hby d51_8) rfl (teq hc3).1 (by decide) (by decide) (XS.iconst X2.here hx rfl (hb hby d51_15) k)) ?_
  exact own_retN X2 hx hlk (t := .boolean) (w := (0 : Int32)) hret (by simp) (hb hby d51_16) e2 rfl ⟨rfl, N0, rfl⟩ (by decide) (by decide)
abbrev R_own_rm52 : Room := ⟨1, 0, 0, 13⟩
theorem d52_0 : own_D cd52 0 (.aload_n 0) 1 := by decide +kernel
theorem d52_1 : own_D cd52 1 (.getfield 17) 3 := by decide +kernel
theorem d52_4 : own_D cd52 4 (.istore_n 1) 1 := by decide +kernel
theorem d52_5 : own_D cd52 5 (.aload_n 0) 1 := by decide +kernel
theorem d52_6 : own_D cd52 6 (.getfield 7) 3 := by decide +kernel
theorem d52_9 : own_D cd52 9 (.iload_n 1) 1 := by decide +kernel
theorem d52_10 : own_D cd52 10 (.invokeinterface 24 2) 5 := by decide +kernel
theorem d52_15 : own_D cd52 15 (.astore_n 2) 1 := by decide +kernel
theorem d52_16 : own_D cd52 16 (.aload_n 0) 1 := by decide +kernel
theorem d52_17 : own_D cd52 17 (.iload_n 1) 1 := by decide +kernel
theorem d52_18 : own_D cd52 18 (.iconst 1) 1 := by decide +kernel
theorem d52_19 : own_D cd52 19 .iadd 1 := by decide +kernel
theorem d52_20 : own_D cd52 20 (.putfield 17) 3 := by decide +kernel
theorem d52_23 : own_D cd52 23 (.aload_n 2) 1 := by decide +kernel
theorem d52_24 : own_D cd52 24 .areturn 1 := by decide +kernel
theorem ef32 (m : MethodId) (x0 : Addr) : entryFrame m #[(.ref x0)] 3 = mkF m 0 #[.val (.ref x0), .unset, .unset] [] := by first | (simp [entryFrame, mkF, argsToLocals, Value.category]; done) | rfl
def Q_own_rm52 (Z : State) (a1 a2 a3 : Addr) (h0 : Heap) (n0 : Nat) (v : Option Value) (h : Heap) (L : List Loc) : Prop := v = some (.ref a3) ∧ Fr n0 L ∧ Keep h0 h [a1] ∧ Exa Z h a1 nn7_ ∧ Fld Z h a1 nn7_ "size" "I" (.int 1) ∧ Fld Z h a1 nn7_ "cursor" "I" (.int 1)
theorem own_rm52 (l : Launch) (Z : State) (a0 : Array Value) (hw : own_HW a0 Z) (ws : List Jvm.Cond) (a1 a2 a3 : Addr) (h0 : Heap) (n0 : Nat) (Z0 : n0 ≤ h0.size) (P_E_a1 : Exa Z h0 a1 nn7_) (P_F_a1_list : Fld Z h0 a1 nn7_ "list" nn14_ (.ref a2)) (P_F_a1_size : Fld Z h0 a1 nn7_ "size" "I" (.int 1)) (P_F_a1_cursor : Fld Z h0 a1 nn7_ "cursor" "I" (.int 0)) (P_F_a1_isListIterator : Fld Z h0 a1 nn7_ "isListIterator" "Z" (.int 0)) (P_E_a2 : Exa Z h0 a2 nn2_) (P_F_a2_e0 : Fld Z h0 a2 nn2_ "e0" nn9_ (.ref a3)) (g_a1 : n0 ≤ a1) (ne_a2_a1 : a2 ≠ a1) :
    own_MF l own_y52 (Jvm.Cond.codeWith ({ cls := "java/util/ImmutableCollections$ListItr", name := "next", desc := "()Ljava/lang/Object;" } : Jvm.MethodName) jdk_53_method_4_code (3 : Nat) (Option.some (Jvm.ClassFile.FieldType.object "java/lang/Object")) [((0 : Nat), (24 : Nat), (25 : Nat), (30 : Nat))]) ws R_own_rm52 #[.ref a1] Z h0 (Q_own_rm52 Z a1 a2 a3 h0 n0) := by
  refine own_beginW (plainFor_of_name own_pn17) (fun m => ef32 m a1) ?_
  intro p e s m below meth c s₁ hx hby hml hown hnm hlk hret hZ X0 e0
  have N0 := Fr.nil n0
  have K0 := Keep.refl h0 [a1]
  refine own_go (B := s₁.setTop (mkF m 1 #[Sr a1, Su, Su] [.ref a1])) (fun _ k => XS.aloadN X0.here hx rfl (hb hby d52_0) rfl rfl k) ?_
  refine own_gF X0 hx hZ hown (hw.w 308 rfl) Via.refl e0 P_F_a1_cursor rfl rfl (hb hby d52_1) fun T1 X1 e1 => ?_
  refine own_go (B := T1.setTop (mkF m 6 #[Sr a1, Si 0, Su] [.ref a1])) (fun _ k => XS.istoreN X1.here hx rfl (hb hby d52_4) rfl (l' := #[Sr a1, Si 0, Su]) rfl (XS.aloadN X1.here hx rfl (hb hby d52_5) rfl rfl k)) ?_
  refine own_gF X1 hx hZ hown (hw.w 304 rfl) Via.refl e1 P_F_a1_list rfl rfl (hb hby d52_6) fun T2 X2 e2 => ?_
  refine own_go (B := T2.setTop (mkF m 10 #[Sr a1, Si 0, Su] [.int 0, .ref a2])) (fun _ k => XS.iloadN X2.here hx rfl (hb hby d52_9) rfl  k) ?_
  refine own_cI (own_rm53 l Z a0 hw [] a2 a3 h0 n0 (Nat.le_trans Z0 K0.1) P_F_a2_e0) X2 hx hZ hown (hw.w 329 rfl) (hw.w 330 rfl) (mvT hZ (hw.w 331 rfl)) (hw.w 332 rfl) (hw.w 333 rfl) (hw.w 334 rfl) (hw.w 335 rfl) (hw.w 336 rfl) (hw.w 222 rfl) (hw.w 337 rfl) P_E_a2 e2 rfl rfl (by rw [hml]; rfl) (rest := []) (lenOf own_pd25 rfl) rfl (hb hby d52_10) (W := 0) (show 2 * 0 + _ = _ from rfl) (by decide) (by decide) ?_
  rintro _ T3 L3 X3 ⟨rfl, N3q, e3⟩
  have N3 := Fr.app N0 N3q
  refine own_go (B := T3.setTop (mkF m 20 #[Sr a1, Si 0, Sr a3] [(.int ((0 : Int32) + (1 : Int32))), .ref a1])) (fun _ k => XS.astoreN X3.here hx rfl (hb hby d52_15) rfl rfl (l' := #[Sr a1, Si 0, Sr a3]) rfl (XS.aloadN X3.here hx rfl (hb hby d52_16) rfl rfl (XS.iloadN X3.here hx rfl (hb hby d52_17) rfl (XS.iconst X3.here hx rfl (hb hby d52_18) (XS.iadd X3.here hx rfl (hb hby d52_19) rfl k))))) ?_
  rw [show ((0 : Int32) + (1 : Int32)) = (1 : Int32) from by decide]
  show own_Fin _ _ _ _ _ _ _ (T3.setTop (mkF m 20 #[Sr a1, Si 0, Sr a3] [.int 1, .ref a1]))
  refine own_pF X3 hx hZ hown (hw.w 308 rfl) Via.refl e3 P_F_a1_cursor P_E_a1 (Or.inl (hw.w 309 rfl)) (hw.w 291 rfl) (ty := .int) (v := (.int 1)) (by decide) rfl rfl rfl rfl (hb hby d52_20) fun T4 h4 X4 e4 W4 => ?_
  have F_w4 : Fld Z h4 a1 nn7_ "cursor" "I" (.int 1) := P_F_a1_cursor.same W4
  have E_6 := P_E_a1.wr W4
  have F_8 := P_F_a1_size.other W4 (Or.inr (slot_ne (Or.inr (hw.w 307 rfl)) (Or.inl (hw.w 309 rfl)) (by decide) (t := .int) (t' := .int) (by decide) (by decide)))
  have K13 : Keep h0 h4 [a1] := K0.wr W4 (Or.inl (List.mem_of_getElem? (i := 0) rfl))
  have N4 := Fr.snoc X4 N3 g_a1
  refine own_go (B := T4.setTop (mkF m 24 #[Sr a1, Si 0, Sr a3] [.ref a3])) (fun _ k => XS.aloadN X4.here hx rfl (hb hby d52_23) rfl rfl k) ?_
  exact own_retA X4 hx hlk hret rfl rfl (hb hby d52_24) e4 ⟨rfl, N4, K13, E_6, F_8, F_w4⟩ (by decide) (by decide)
abbrev R_own_contN : Room := ⟨1, 0, 0, 12⟩
theorem d67_0 : own_D cd67 0 (.aload_n 1) 1 := by decide +kernel
theorem d67_1 : own_D cd67 1 (.invokestatic 46) 3 := by decide +kernel
theorem d67_4 : own_D cd67 4 .pop 1 := by decide +kernel
theorem d67_5 : own_D cd67 5 (.aload_n 0) 1 := by decide +kernel
theorem d67_6 : own_D cd67 6 (.getfield 9) 3 := by decide +kernel
theorem d67_9 : own_D cd67 9 (.ifCond .le 15) 3 := by decide +kernel
theorem d67_24 : own_D cd67 24 (.iconst 0) 1 := by decide +kernel
theorem d67_25 : own_D cd67 25 .ireturn 1 := by decide +kernel
theorem own_pn18 : plainName "java/util/ImmutableCollections$SetN" = true := by first | (simp [plainName, overriddenIn]; done) | decide +kernel
def Q_own_contN (Z : State) (a1 ro : Addr) (h0 : Heap) (n0 : Nat) (v : Option Value) (h : Heap) (L : List Loc) : Prop := v = some (.int 0) ∧ Fr n0 L ∧ h = h0
theorem own_contN (l : Launch) (Z : State) (a0 : Array Value) (hw : own_HW a0 Z) (ws : List Jvm.Cond) (a1 ro : Addr) (h0 : Heap) (n0 : Nat) (Z0 : n0 ≤ h0.size) (P_E_a1 : Exa Z h0 a1 nn4_) (P_F_a1_size : Fld Z h0 a1 nn4_ "size" "I" (.int 0)) :
    own_MF l own_y53 (Jvm.Cond.code own_y53 jdk_132_method_4_code 2 (some .boolean)) ws R_own_contN #[.ref a1, .ref ro] Z h0 (Q_own_contN Z a1 ro h0 n0) := by
  refine own_begin (plainFor_of_name own_pn18) (fun m => ef1 m a1 ro) ?_
  intro p e s m below meth c s₁ hx hby hml hown hnm hlk hret hZ X0 e0
  have N0 := Fr.nil n0
  have K0 := Keep.refl h0 []
  refine own_go (B := s₁.setTop (mkF m 1 #[Sr a1, Sr ro] [.ref ro])) (fun _ k => XS.aloadN X0.here hx rfl (hb hby d67_0) rfl rfl k) ?_
  refine own_cS (own_rm12 l Z a0 hw [] ro h0 n0 (Nat.le_trans Z0 K0.1) ) X0 hx hZ hown (hw.w 407 rfl) (hw.w 61 rfl) (hw.w 62 rfl) (hw.w 63 rfl) e0 rfl rfl (by rw [hml]; rfl) (rest := []) (lenOf own_pd1 rfl) rfl (hb hby d67_1) (W := 0) (show 2 * 0 + _ = _ from rfl) (by decide) (by decide) ?_
  rintro _ T1 L1 X1 ⟨rfl, N1q, e1⟩
  have N1 := Fr.app N0 N1q
  refine own_go (B := T1.setTop (mkF m 6 #[Sr a1, Sr ro] [.ref a1])) (fun _ k => XS.pop X1.here hx rfl (hb hby d67_4) rfl rfl (XS.aloadN X1.here hx rfl (hb hby d67_5) rfl rfl k)) ?_
  refine own_gF X1 hx hZ hown (hw.w 408 rfl) Via.refl e1 P_F_a1_size rfl rfl (hb hby d67_6) fun T2 X2 e2 => ?_
  refine own_go (B := T2.setTop (mkF m 9 #[Sr a1, Sr ro] [.int 0])) (fun _ k => k) ?_
  have hc3 : ¬ ((0 : Int32) < (0 : Int32)) := by decide
  refine own_go (B := T2.setTop (mkF m 25 #[Sr a1, Sr ro] [.int 0])) (fun _ k => XS.ifYes X2.here hx rfl (pc0 := 9) (pc' := 24) rfl (hb hby d67_9) rfl ((if0 _ _).trans (flt hc3).2.2.2) (by decide) (by decide) (XS.iconst X2.here hx rfl (hb hby d67_24) k)) ?_
  exact own_retN X2 hx hlk (t := .boolean) (w := (0 : Int32)) hret (by simp) (hb hby d67_25) e2 rfl ⟨rfl, N1, rfl⟩ (by decide) (by decide)
abbrev R_own_disjN : Room := ⟨3, 1, 4, 39⟩
theorem d47_0 : own_D cd47 0 (.aload_n 1) 1 := by decide +kernel
theorem d47_1 : own_D cd47 1 (.astore_n 2) 1 := by decide +kernel
theorem d47_2 : own_D cd47 2 (.aload_n 0) 1 := by decide +kernel
theorem d47_3 : own_D cd47 3 (.astore_n 3) 1 := by decide +kernel
theorem d47_4 : own_D cd47 4 (.aload_n 0) 1 := by decide +kernel
theorem d47_5 : own_D cd47 5 (.instanceof 180) 3 := by decide +kernel
theorem d47_8 : own_D cd47 8 (.ifCond .eq 10) 3 := by decide +kernel
theorem d47_11 : own_D cd47 11 (.aload_n 1) 1 := by decide +kernel
theorem d47_12 : own_D cd47 12 (.astore_n 3) 1 := by decide +kernel
theorem d47_13 : own_D cd47 13 (.aload_n 0) 1 := by decide +kernel
theorem d47_14 : own_D cd47 14 (.astore_n 2) 1 := by decide +kernel
theorem d47_15 : own_D cd47 15 (.goto 49) 3 := by decide +kernel
theorem d47_64 : own_D cd47 64 (.aload_n 3) 1 := by decide +kernel
theorem d47_65 : own_D cd47 65 (.invokeinterface 119 1) 5 := by decide +kernel
theorem d47_70 : own_D cd47 70 (.astore 4) 2 := by decide +kernel
theorem d47_72 : own_D cd47 72 (.aload 4) 2 := by decide +kernel
theorem d47_74 : own_D cd47 74 (.invokeinterface 128 1) 5 := by decide +kernel
theorem d47_79 : own_D cd47 79 (.ifCond .eq 28) 3 := by decide +kernel
theorem d47_82 : own_D cd47 82 (.aload 4) 2 := by decide +kernel
theorem d47_84 : own_D cd47 84 (.invokeinterface 125 1) 5 := by decide +kernel
theorem d47_89 : own_D cd47 89 (.astore 5) 2 := by decide +kernel
theorem d47_91 : own_D cd47 91 (.aload_n 2) 1 := by decide +kernel
theorem d47_92 : own_D cd47 92 (.aload 5) 2 := by decide +kernel
theorem d47_94 : own_D cd47 94 (.invokeinterface 460 2) 5 := by decide +kernel
theorem d47_99 : own_D cd47 99 (.ifCond .eq 5) 3 := by decide +kernel
theorem d47_104 : own_D cd47 104 (.goto (-32)) 3 := by decide +kernel
theorem d47_107 : own_D cd47 107 (.iconst 1) 1 := by decide +kernel
theorem d47_108 : own_D cd47 108 .ireturn 1 := by decide +kernel
theorem own_pn19 : plainName "java/util/Collections" = true := by first | (simp [plainName, overriddenIn]; done) | decide +kernel
theorem ef33 (m : MethodId) (x0 x1 : Addr) : entryFrame m #[(.ref x0), (.ref x1)] 6 = mkF m 0 #[.val (.ref x0), .val (.ref x1), .unset, .unset, .unset, .unset] [] := by first | (simp [entryFrame, mkF, argsToLocals, Value.category]; done) | rfl
def Q_own_disjN (Z : State) (a1 ro li lem : Addr) (h0 : Heap) (n0 : Nat) (v : Option Value) (h : Heap) (L : List Loc) : Prop := v = some (.int 1) ∧ Fr n0 L ∧ Keep h0 h []
theorem own_disjN (l : Launch) (Z : State) (a0 : Array Value) (hw : own_HW a0 Z) (ws : List Jvm.Cond) (a1 ro li lem : Addr) (h0 : Heap) (n0 : Nat) (Z0 : n0 ≤ h0.size) (P_E_a1 : Exa Z h0 a1 nn4_) (P_F_a1_size : Fld Z h0 a1 nn4_ "size" "I" (.int 0)) (P_E_li : Exa Z h0 li nn2_) (P_F_li_e0 : Fld Z h0 li nn2_ "e0" nn9_ (.ref ro)) (P_F_li_e1 : Fld Z h0 li nn2_ "e1" nn9_ (.ref lem)) (P_S_EMPTY : Sta Z h0 nn15_ "EMPTY" nn9_ (.ref lem)) :
    own_MF l own_y55 (Jvm.Cond.code own_y55 jdk_79_method_83_code 6 (some .boolean)) ws R_own_disjN #[.ref a1, .ref li] Z h0 (Q_own_disjN Z a1 ro li lem h0 n0) := by
  refine own_begin (plainFor_of_name own_pn19) (fun m => ef33 m a1 li) ?_
  intro p e s m below meth c s₁ hx hby hml hown hnm hlk hret hZ X0 e0
  have N0 := Fr.nil n0
  have K0 := Keep.refl h0 []
  refine own_go (B := s₁.setTop (mkF m 5 #[Sr a1, Sr li, Sr li, Sr a1, Su, Su] [.ref a1])) (fun _ k => XS.aloadN X0.here hx rfl (hb hby d47_0) rfl rfl (XS.astoreN X0.here hx rfl (hb hby d47_1) rfl rfl (l' := #[Sr a1, Sr li, Sr li, Su, Su, Su]) rfl (XS.aloadN X0.here hx rfl (hb hby d47_2) rfl rfl (XS.astoreN X0.here hx rfl (hb hby d47_3) rfl rfl (l' := #[Sr a1, Sr li, Sr li, Sr a1, Su, Su]) rfl (XS.aloadN X0.here hx rfl (hb hby d47_4) rfl rfl k))))) ?_
  refine own_iY X0 hx hZ hown (hw.w 280 rfl) e0 (Ins.of_exa P_E_a1 (hw.w 399 rfl)) rfl rfl (hb hby d47_5) fun T1 X1 e1 => ?_
  refine own_go (B := T1.setTop (mkF m 8 #[Sr a1, Sr li, Sr li, Sr a1, Su, Su] [.int 1])) (fun _ k => k) ?_
  have hc2 : ¬ ((1 : Int32) = (0 : Int32)) := by decide
  refine own_go (B := T1.setTop (mkF m 65 #[Sr a1, Sr li, Sr a1, Sr li, Su, Su] [.ref li])) (fun _ k => XS.ifNo X1.here hx rfl (hb hby d47_8) rfl ((if0 _ _).trans (feq hc2).1) (XS.aloadN X1.here hx rfl (hb hby d47_11) rfl rfl (XS.astoreN X1.here hx rfl (hb hby d47_12) rfl rfl (l' := #[Sr a1, Sr li, Sr li, Sr li, Su, Su]) rfl (XS.aloadN X1.here hx rfl (hb hby d47_13) rfl rfl (XS.astoreN X1.here hx rfl (hb hby d47_14) rfl rfl (l' := #[Sr a1, Sr li, Sr a1, Sr li, Su, Su]) rfl (XS.goto X1.here hx rfl (pc0 := 15) (pc' := 64) rfl (hb hby d47_15) (by decide) (by decide) (XS.aloadN X1.here hx rfl (hb hby d47_64) rfl rfl k))))))) ?_
  refine own_cI (own_rm48 l Z a0 hw [] li ro lem h0 n0 (Nat.le_trans Z0 K0.1) P_E_li P_F_li_e0 P_F_li_e1 P_S_EMPTY) X1 hx hZ hown (hw.w 281 rfl) (hw.w 282 rfl) (mvT hZ (hw.w 283 rfl)) (hw.w 284 rfl) (hw.w 285 rfl) (hw.w 286 rfl) (hw.w 287 rfl) (hw.w 288 rfl) (hw.w 231 rfl) (hw.w 289 rfl) P_E_li e1 rfl rfl (by rw [hml]; rfl) (rest := []) (lenOf own_pd26 rfl) rfl (hb hby d47_65) (W := 0) (show 2 * 0 + _ = _ from rfl) (by decide) (by decide) ?_
  rintro _ T3 L3 X3 ⟨b_3, rfl, N3q, K3q, Q3_0, Q3_1, Q3_2, Q3_3, Q3_4, x3_0⟩
  have N3 := Fr.app N0 N3q
  have ne_a1_b_3_4 : a1 ≠ b_3 := Nat.ne_of_lt (Nat.lt_of_lt_of_le P_E_a1.lt x3_0)
  have ne_li_b_3_5 : li ≠ b_3 := Nat.ne_of_lt (Nat.lt_of_lt_of_le P_E_li.lt x3_0)
  have sz_b_3 : h0.size ≤ b_3 := Nat.le_trans K0.1 x3_0
  have g_b_3 : n0 ≤ b_3 := Nat.le_trans Z0 sz_b_3
  have E_7 := P_E_a1.keep K3q
  have F_8 := P_F_a1_size.keep K3q nin0
  have E_9 := P_E_li.keep K3q
  have F_10 := P_F_li_e0.keep K3q nin0
  have K13 : Keep h0 T3.heap [] := K0.trans K3q all0
  refine own_go (B := T3.setTop (mkF m 74 #[Sr a1, Sr li, Sr a1, Sr li, Sr b_3, Su] [.ref b_3])) (fun _ k => XS.astore X3.here hx rfl (hb hby d47_70) rfl rfl (l' := #[Sr a1, Sr li, Sr a1, Sr li, Sr b_3, Su]) rfl (XS.aload X3.here hx rfl (hb hby d47_72) rfl rfl k)) ?_
  refine own_cI (own_hn0 l Z a0 hw [] b_3 T3.heap n0 (Nat.le_trans Z0 K13.1) Q3_2 Q3_3) X3 hx hZ hown (hw.w 312 rfl) (hw.w 313 rfl) (mvT hZ (hw.w 314 rfl)) (hw.w 315 rfl) (hw.w 316 rfl) (hw.w 317 rfl) (hw.w 318 rfl) (hw.w 319 rfl) (hw.w 292 rfl) (hw.w 320 rfl) Q3_0 rfl rfl rfl (by rw [hml]; rfl) (rest := []) (lenOf own_pd21 rfl) rfl (hb hby d47_74) (W := 0) (show 2 * 0 + _ = _ from rfl) (by decide) (by decide) ?_
  rintro _ T14 L14 X14 ⟨rfl, N14q, e14⟩
  have N14 := Fr.app N3 N14q
  refine own_go (B := T14.setTop (mkF m 79 #[Sr a1, Sr li, Sr a1, Sr li, Sr b_3, Su] [.int 1])) (fun _ k => k) ?_
  have hc15 : ¬ ((1 : Int32) = (0 : Int32)) := by decide
  refine own_go (B := T14.setTop (mkF m 84 #[Sr a1, Sr li, Sr a1, Sr li, Sr b_3, Su] [.ref b_3])) (fun _ k => XS.ifNo X14.here hx rfl (hb hby d47_79) rfl ((if0 _ _).trans (feq hc15).1) (XS.aload X14.here hx rfl (hb hby d47_82) rfl rfl k)) ?_
  obtain ⟨cq16, kq16, q16a, q16b, q16c⟩ := isOf hZ e14 Q3_0
  obtain ⟨_, _, ⟨T16, L16, k16, n16⟩, -, X16, ⟨Lc16, hQ16, l16, y16, z16⟩, st16⟩ := X14.interfaceBack hx (xi := own_y54) (y := own_y52) hown (mvT hZ (hw.w 321 rfl)) (mvT hZ (hw.w 322 rfl)) (mvT hZ (hw.w 323 rfl)) (mvT hZ (hw.w 324 rfl)) (mvT hZ (hw.w 325 rfl)) (mvT hZ (hw.w 326 rfl)) (mvT hZ (hw.w 327 rfl)) (mvT hZ (hw.w 319 rfl)) (by decide) (backOfWith (W := 0) (own_rm52 l Z a0 hw [] b_3 li ro T3.heap n0 (Nat.le_trans Z0 K13.1) Q3_0 Q3_1 Q3_2 Q3_3 Q3_4 E_9 F_10 g_b_3 ne_li_b_3_5) hZ (hw.w 328 rfl) (hw.w 292 rfl) (by decide) (by decide)) q16a q16b q16c (g := (mkF m 84 #[Sr a1, Sr li, Sr a1, Sr li, Sr b_3, Su] [.ref b_3])) rfl (by rw [hml]; rfl) (Steps.refl _) (argsL := []) (rest := []) (lenOf own_pd27 rfl) rfl (by show 2 * 0 + _ ≤ _; exact Nat.le_of_eq rfl) (hb hby d47_84) (fun _ _ => ⟨rfl, e14, (by decide : 1 + 0 ≤ _), (by decide : 4 + 0 ≤ _)⟩)
  dsimp only [Pt.U, Pt.locs, Pt.cells, Pt.slots] at X16 l16 y16 z16 st16 hQ16
  subst l16 y16 z16
  obtain ⟨rfl, N16q, K16q, Q16_0, Q16_1, Q16_2⟩ := hQ16
  have N16 := Fr.app N14 N16q
  have E_18 := E_7.keep K16q
  have F_19 := F_8.keep K16q (ninS ne_a1_b_3_4 nin0)
  have K29 : Keep h0 T16.heap [] := K13.trans K16q (allS (Or.inr sz_b_3) all0)
  refine own_go (B := T16.setTop (mkF m 94 #[Sr a1, Sr li, Sr a1, Sr li, Sr b_3, Sr ro] [.ref ro, .ref a1])) (fun _ k => st16.trans (XS.astore X16.here hx rfl (hb hby d47_89) rfl rfl (l' := #[Sr a1, Sr li, Sr a1, Sr li, Sr b_3, Sr ro]) rfl (XS.aloadN X16.here hx rfl (hb hby d47_91) rfl rfl (XS.aload X16.here hx rfl (hb hby d47_92) rfl rfl k)))) ?_
  refine own_cI (own_contN l Z a0 hw [] a1 ro T16.heap n0 (Nat.le_trans Z0 K29.1) E_18 F_19) X16 hx hZ hown (hw.w 338 rfl) (hw.w 339 rfl) (mvT hZ (hw.w 340 rfl)) (hw.w 400 rfl) (hw.w 401 rfl) (hw.w 402 rfl) (hw.w 403 rfl) (hw.w 404 rfl) (hw.w 405 rfl) (hw.w 406 rfl) E_18 rfl rfl rfl (by rw [hml]; rfl) (rest := []) (lenOf own_pd9 rfl) rfl (hb hby d47_94) (W := 0) (show 2 * 0 + _ = _ from rfl) (by decide) (by decide) ?_
  rintro _ T30 L30 X30 ⟨rfl, N30q, e30⟩
  have N30 := Fr.app N16 N30q
  refine own_go (B := T30.setTop (mkF m 99 #[Sr a1, Sr li, Sr a1, Sr li, Sr b_3, Sr ro] [.int 0])) (fun _ k => k) ?_
  have hc31 : (0 : Int32) = (0 : Int32) := by decide
  refine own_go (B := T30.setTop (mkF m 74 #[Sr a1, Sr li, Sr a1, Sr li, Sr b_3, Sr ro] [.ref b_3])) (fun _ k => XS.ifYes X30.here hx rfl (pc0 := 99) (pc' := 104) rfl (hb hby d47_99) rfl ((if0 _ _).trans (teq hc31).1) (by decide) (by decide) (XS.goto X30.here hx rfl (pc0 := 104) (pc' := 72) rfl (hb hby d47_104) (by decide) (by decide) (XS.aload X30.here hx rfl (hb hby d47_72) rfl rfl k))) ?_
  refine own_cI (own_hn1 l Z a0 hw [] b_3 T16.heap n0 (Nat.le_trans Z0 K29.1) Q16_1 Q16_2) X30 hx hZ hown (hw.w 312 rfl) (hw.w 313 rfl) (mvT hZ (hw.w 314 rfl)) (hw.w 315 rfl) (hw.w 316 rfl) (hw.w 317 rfl) (hw.w 318 rfl) (hw.w 319 rfl) (hw.w 292 rfl) (hw.w 320 rfl) Q16_0 e30 rfl rfl (by rw [hml]; rfl) (rest := []) (lenOf own_pd21 rfl) rfl (hb hby d47_74) (W := 0) (show 2 * 0 + _ = _ from rfl) (by decide) (by decide) ?_
  rintro _ T32 L32 X32 ⟨rfl, N32q, e32⟩
  have N32 := Fr.app N30 N32q
  refine own_go (B := T32.setTop (mkF m 79 #[Sr a1, Sr li, Sr a1, Sr li, Sr b_3, Sr ro] [.int 0])) (fun _ k => k) ?_
  have hc33 : (0 : Int32) = (0 : Int32) := by decide
  refine own_go (B := T32.setTop (mkF m 108 #[Sr a1, Sr li, Sr a1, Sr li, Sr b_3, Sr ro] [.int 1])) (fun _ k => XS.ifYes X32.here hx rfl (pc0 := 79) (pc' := 107) rfl (hb hby d47_79) rfl ((if0 _ _).trans (teq hc33).1) (by decide) (by decide) (XS.iconst X32.here hx rfl (hb hby d47_107) k)) ?_
  exact own_retN X32 hx hlk (t := .boolean) (w := (1 : Int32)) hret (by simp) (hb hby d47_108) e32 rfl ⟨rfl, N32, K29⟩ (by decide) (by decide)
abbrev R_own_lamN : Room := ⟨4, 1, 4, 56⟩
theorem d45_0 : own_D cd45 0 (.aload_n 1) 1 := by decide +kernel
theorem d45_1 : own_D cd45 1 (.invokevirtual 95) 3 := by decide +kernel
theorem d45_4 : own_D cd45 4 (.aload_n 0) 1 := by decide +kernel
theorem d45_5 : own_D cd45 5 (.invokestatic 99) 3 := by decide +kernel
theorem d45_8 : own_D cd45 8 (.ifCond .ne 7) 3 := by decide +kernel
theorem d45_15 : own_D cd45 15 (.iconst 0) 1 := by decide +kernel
theorem d45_16 : own_D cd45 16 .ireturn 1 := by decide +kernel
def Q_own_lamN (Z : State) (a1 ro li lem au : Addr) (h0 : Heap) (n0 : Nat) (v : Option Value) (h : Heap) (L : List Loc) : Prop := v = some (.int 0) ∧ Fr n0 L ∧ Keep h0 h []
theorem own_lamN (l : Launch) (Z : State) (a0 : Array Value) (hw : own_HW a0 Z) (ws : List Jvm.Cond) (a1 ro li lem au : Addr) (h0 : Heap) (n0 : Nat) (Z0 : n0 ≤ h0.size) (P_E_a1 : Exa Z h0 a1 nn4_) (P_F_a1_size : Fld Z h0 a1 nn4_ "size" "I" (.int 0)) (P_E_li : Exa Z h0 li nn2_) (P_F_li_e0 : Fld Z h0 li nn2_ "e0" nn9_ (.ref ro)) (P_F_li_e1 : Fld Z h0 li nn2_ "e1" nn9_ (.ref lem)) (P_S_EMPTY : Sta Z h0 nn15_ "EMPTY" nn9_ (.ref lem)) (P_E_au : Exa Z h0 au nn8_) (P_F_au_roles : Fld Z h0 au nn8_ "roles" nn13_ (.ref a1)) :
    own_MF l own_y56 (Jvm.Cond.code own_y56 prog_8_method_10_code 2 (some .boolean)) ws R_own_lamN #[.ref li, .ref au] Z h0 (Q_own_lamN Z a1 ro li lem au h0 n0) := by
  refine own_begin (plainFor_of_name own_pn16) (fun m => ef1 m li au) ?_
  intro p e s m below meth c s₁ hx hby hml hown hnm hlk hret hZ X0 e0
  have N0 := Fr.nil n0
  have K0 := Keep.refl h0 []
  refine own_go (B := s₁.setTop (mkF m 1 #[Sr li, Sr au] [.ref au])) (fun _ k => XS.aloadN X0.here hx rfl (hb hby d45_0) rfl rfl k) ?_
  refine own_cV (own_rm46 l Z a0 hw [] au a1 h0 n0 (Nat.le_trans Z0 K0.1) P_F_au_roles) X0 hx hZ hown (hw.w 271 rfl) (hw.w 272 rfl) (notFace_of_selects (args := #[]) (mvT hZ (hw.w 274 rfl))) (hw.w 274 rfl) (hw.w 273 rfl) (hw.w 72 rfl) (hw.w 275 rfl) P_E_au e0 rfl rfl (by rw [hml]; rfl) (rest := []) (lenOf own_pd28 rfl) rfl (hb hby d45_1) (W := 0) (show 2 * 0 + _ = _ from rfl) (by decide) (by decide) ?_
  rintro _ T1 L1 X1 ⟨rfl, N1q, e1⟩
  have N1 := Fr.app N0 N1q
  refine own_go (B := T1.setTop (mkF m 5 #[Sr li, Sr au] [.ref li, .ref a1])) (fun _ k => XS.aloadN X1.here hx rfl (hb hby d45_4) rfl rfl k) ?_
  refine own_cS (own_disjN l Z a0 hw [] a1 ro li lem h0 n0 (Nat.le_trans Z0 K0.1) P_E_a1 P_F_a1_size P_E_li P_F_li_e0 P_F_li_e1 P_S_EMPTY) X1 hx hZ hown (hw.w 276 rfl) (hw.w 277 rfl) (hw.w 278 rfl) (hw.w 279 rfl) e1 rfl rfl (by rw [hml]; rfl) (rest := []) (lenOf own_pd29 rfl) rfl (hb hby d45_5) (W := 0) (show 2 * 0 + _ = _ from rfl) (by decide) (by decide) ?_
  rintro _ T2 L2 X2 ⟨rfl, N2q, K2q⟩
  have N2 := Fr.app N1 N2q
  have K12 : Keep h0 T2.heap [] := K0.trans K2q all0
  refine own_go (B := T2.setTop (mkF m 8 #[Sr li, Sr au] [.int 1])) (fun _ k => k) ?_
  have hc13 : ¬ ((1 : Int32) = (0 : Int32)) := by decide
  refine own_go (B := T2.setTop (mkF m 16 #[Sr li, Sr au] [.int 0])) (fun _ k => XS.ifYes X2.here hx rfl (pc0 := 8) (pc' := 15) rfl (hb hby d45_8) rfl ((if0 _ _).trans (feq hc13).2) (by decide) (by decide) (XS.iconst X2.here hx rfl (hb hby d45_15) k)) ?_
  exact own_retN X2 hx hlk (t := .boolean) (w := (0 : Int32)) hret (by simp) (hb hby d45_16) rfl rfl ⟨rfl, N2, K12⟩ (by decide) (by decide)
abbrev R_own_cont1_1 : Room := ⟨3, 0, 0, 100⟩
theorem d54_0 : own_D cd54 0 (.aload_n 1) 1 := by decide +kernel
theorem d54_1 : own_D cd54 1 (.aload_n 0) 1 := by decide +kernel
theorem d54_2 : own_D cd54 2 (.getfield 13) 3 := by decide +kernel
theorem d54_5 : own_D cd54 5 (.invokevirtual 27) 3 := by decide +kernel
theorem d54_8 : own_D cd54 8 (.ifCond .ne 14) 3 := by decide +kernel
theorem d54_11 : own_D cd54 11 (.aload_n 0) 1 := by decide +kernel
theorem d54_12 : own_D cd54 12 (.getfield 24) 3 := by decide +kernel
theorem d54_15 : own_D cd54 15 (.aload_n 1) 1 := by decide +kernel
theorem d54_16 : own_D cd54 16 (.invokevirtual 27) 3 := by decide +kernel
theorem d54_19 : own_D cd54 19 (.ifCond .eq 7) 3 := by decide +kernel
theorem d54_22 : own_D cd54 22 (.iconst 1) 1 := by decide +kernel
theorem d54_23 : own_D cd54 23 (.goto 4) 3 := by decide +kernel
theorem d54_26 : own_D cd54 26 (.iconst 0) 1 := by decide +kernel
theorem d54_27 : own_D cd54 27 .ireturn 1 := by decide +kernel
def Q_own_cont1_1 (Z : State) (a1 ro tr : Addr) (kr : ClassId) (el0 te0 : Addr) (ke0 : ClassId) (em : Addr) (x0 y0 cs : Int32) (h0 : Heap) (n0 : Nat) (v : Option Value) (h : Heap) (L : List Loc) : Prop := v = some (.int (own_b (x0 = y0))) ∧ Fr n0 L ∧ h = h0
theorem own_cont1_1 (l : Launch) (Z : State) (a0 : Array Value) (hw : own_HW a0 Z) (ws : List Jvm.Cond) (a1 ro tr : Addr) (kr : ClassId) (el0 te0 : Addr) (ke0 : ClassId) (em : Addr) (x0 y0 cs : Int32) (h0 : Heap) (n0 : Nat) (Z0 : n0 ≤ h0.size) (P_E_a1 : Exa Z h0 a1 nn1_) (P_F_a1_e0 : Fld Z h0 a1 nn1_ "e0" nn9_ (.ref el0)) (P_F_a1_e1 : Fld Z h0 a1 nn1_ "e1" nn9_ (.ref em)) (P_E_el0 : Exa Z h0 el0 nn3_) (P_F_el0_value : Fld Z h0 el0 nn3_ "value" "[B" (.ref te0)) (P_F_el0_coder : Fld Z h0 el0 nn3_ "coder" "B" (.int 0)) (P_V_te0 : Arv Z h0 te0 ke0 .byte 1 [.int y0] (.int 0)) (P_E_ro : Exa Z h0 ro nn3_) (P_F_ro_value : Fld Z h0 ro nn3_ "value" "[B" (.ref tr)) (P_F_ro_coder : Fld Z h0 ro nn3_ "coder" "B" (.int 0)) (P_V_tr : Arv Z h0 tr kr .byte 1 [.int x0] (.int 0)) (P_E_em : Exa Z h0 em nn0_) (ne_ro_el0 : ro ≠ el0) (ne_em_ro : em ≠ ro) (P_S_COMPACT_STRINGS : Sta Z h0 nn3_ nn16_ "Z" (.int cs)) (hcs : ¬ (cs = (0 : Int32))) :
    own_MF l own_y57 (Jvm.Cond.code own_y57 jdk_101_method_5_code 2 (some .boolean)) ws R_own_cont1_1 #[.ref a1, .ref ro] Z h0 (Q_own_cont1_1 Z a1 ro tr kr el0 te0 ke0 em x0 y0 cs h0 n0) := by
  refine own_begin (plainFor_of_name own_pn5) (fun m => ef1 m a1 ro) ?_
  intro p e s m below meth c s₁ hx hby hml hown hnm hlk hret hZ X0 e0
  have N0 := Fr.nil n0
  have K0 := Keep.refl h0 []
  refine own_go (B := s₁.setTop (mkF m 2 #[Sr a1, Sr ro] [.ref a1, .ref ro])) (fun _ k => XS.aloadN X0.here hx rfl (hb hby d54_0) rfl rfl (XS.aloadN X0.here hx rfl (hb hby d54_1) rfl rfl k)) ?_
  refine own_gF X0 hx hZ hown (hw.w 64 rfl) Via.refl e0 P_F_a1_e0 rfl rfl (hb hby d54_2) fun T1 X1 e1 => ?_
  refine own_go (B := T1.setTop (mkF m 5 #[Sr a1, Sr ro] [.ref el0, .ref ro])) (fun _ k => k) ?_
  refine own_cV (own_seq11 l Z a0 hw [] ro el0 tr te0 kr ke0 x0 y0 cs h0 n0 (Nat.le_trans Z0 K0.1) P_E_ro P_F_ro_value P_F_ro_coder P_V_tr P_E_el0 P_F_el0_value P_F_el0_coder P_V_te0 ne_ro_el0 P_S_COMPACT_STRINGS hcs) X1 hx hZ hown (hw.w 347 rfl) (hw.w 348 rfl) (notFace_of_selects (args := #[]) (mvT hZ (hw.w 358 rfl))) (hw.w 350 rfl) (hw.w 351 rfl) (hw.w 2 rfl) (hw.w 352 rfl) P_E_ro e1 rfl rfl (by rw [hml]; rfl) (rest := []) (lenOf own_pd9 rfl) rfl (hb hby d54_5) (W := 0) (show 2 * 0 + _ = _ from rfl) (by decide) (by decide) ?_
  rintro _ T2 L2 X2 ⟨rfl, N2q, e2⟩
  have N2 := Fr.app N0 N2q
  refine own_go (B := T2.setTop (mkF m 8 #[Sr a1, Sr ro] [(.int (own_b (x0 = y0)))])) (fun _ k => k) ?_
  by_cases hc3 : x0 = y0
  · skip
    rw [own_b1 hc3]
    show own_Fin _ _ _ _ _ _ _ (T2.setTop (mkF m 8 #[Sr a1, Sr ro] [.int 1]))
    have hc4 : ¬ ((1 : Int32) = (0 : Int32)) := by decide
    refine own_go (B := T2.setTop (mkF m 27 #[Sr a1, Sr ro] [.int 1])) (fun _ k => XS.ifYes X2.here hx rfl (pc0 := 8) (pc' := 22) rfl (hb hby d54_8) rfl ((if0 _ _).trans (feq hc4).2) (by decide) (by decide) (XS.iconst X2.here hx rfl (hb hby d54_22) (XS.goto X2.here hx rfl (pc0 := 23) (pc' := 27) rfl (hb hby d54_23) (by decide) (by decide) k))) ?_
    exact own_retN X2 hx hlk (t := .boolean) (w := (1 : Int32)) hret (by simp) (hb hby d54_27) e2 rfl ⟨(by rw [own_b1 hc3]), N2, rfl⟩ (by decide) (by decide)
  · skip
    rw [own_b0 hc3]
    show own_Fin _ _ _ _ _ _ _ (T2.setTop (mkF m 8 #[Sr a1, Sr ro] [.int 0]))
    have hc5 : (0 : Int32) = (0 : Int32) := by decide
    refine own_go (B := T2.setTop (mkF m 12 #[Sr a1, Sr ro] [.ref a1])) (fun _ k => XS.ifNo X2.here hx rfl (hb hby d54_8) rfl ((if0 _ _).trans (teq hc5).2) (XS.aloadN X2.here hx rfl (hb hby d54_11) rfl rfl k)) ?_
    refine own_gF X2 hx hZ hown (hw.w 68 rfl) Via.refl e2 P_F_a1_e1 rfl rfl (hb hby d54_12) fun T6 X6 e6 => ?_
    refine own_go (B := T6.setTop (mkF m 16 #[Sr a1, Sr ro] [.ref ro, .ref em])) (fun _ k => XS.aloadN X6.here hx rfl (hb hby d54_15) rfl rfl k) ?_
    obtain ⟨T7, X7, e7, st7⟩ := own_eqO X6 hx hZ hown (hw.w 347 rfl) (hw.w 349 rfl) (hw.w 358 rfl) (hw.w 359 rfl) e6 P_E_em ne_em_ro (g := (mkF m 16 #[Sr a1, Sr ro] [.ref ro, .ref em])) rfl (by rw [hml]; rfl) rfl (hb hby d54_16) (by decide) (W := 0) (by show 2 * 0 + _ ≤ _; exact Nat.le_of_eq rfl) (by decide) (by decide : 0 ≤ _) (by decide : 0 ≤ _)
    refine own_go (B := T7.setTop (mkF m 19 #[Sr a1, Sr ro] [.int 0])) (fun _ k => st7 _ k) ?_
    have hc8 : (0 : Int32) = (0 : Int32) := by decide
    refine own_go (B := T7.setTop (mkF m 27 #[Sr a1, Sr ro] [.int 0])) (fun _ k => XS.ifYes X7.here hx rfl (pc0 := 19) (pc' := 26) rfl (hb hby d54_19) rfl ((if0 _ _).trans (teq hc8).1) (by decide) (by decide) (XS.iconst X7.here hx rfl (hb hby d54_26) k)) ?_
    exact own_retN X7 hx hlk (t := .boolean) (w := (0 : Int32)) hret (by simp) (hb hby d54_27) e7 rfl ⟨(by rw [own_b0 hc3]), N2, rfl⟩ (by decide) (by decide)
abbrev R_own_cont1_2 : Room := ⟨3, 0, 0, 100⟩
def Q_own_cont1_2 (Z : State) (a1 ro tr : Addr) (kr : ClassId) (el0 te0 : Addr) (ke0 : ClassId) (em : Addr) (x0 y0 y1 cs : Int32) (h0 : Heap) (n0 : Nat) (v : Option Value) (h : Heap) (L : List Loc) : Prop := v = some (.int 0) ∧ Fr n0 L ∧ h = h0
theorem own_cont1_2 (l : Launch) (Z : State) (a0 : Array Value) (hw : own_HW a0 Z) (ws : List Jvm.Cond) (a1 ro tr : Addr) (kr : ClassId) (el0 te0 : Addr) (ke0 : ClassId) (em : Addr) (x0 y0 y1 cs : Int32) (h0 : Heap) (n0 : Nat) (Z0 : n0 ≤ h0.size) (P_E_a1 : Exa Z h0 a1 nn1_) (P_F_a1_e0 : Fld Z h0 a1 nn1_ "e0" nn9_ (.ref el0)) (P_F_a1_e1 : Fld Z h0 a1 nn1_ "e1" nn9_ (.ref em)) (P_E_el0 : Exa Z h0 el0 nn3_) (P_F_el0_value : Fld Z h0 el0 nn3_ "value" "[B" (.ref te0)) (P_F_el0_coder : Fld Z h0 el0 nn3_ "coder" "B" (.int 0)) (P_V_te0 : Arv Z h0 te0 ke0 .byte 2 [.int y0, .int y1] (.int 0)) (P_E_ro : Exa Z h0 ro nn3_) (P_F_ro_value : Fld Z h0 ro nn3_ "value" "[B" (.ref tr)) (P_F_ro_coder : Fld Z h0 ro nn3_ "coder" "B" (.int 0)) (P_V_tr : Arv Z h0 tr kr .byte 1 [.int x0] (.int 0)) (P_E_em : Exa Z h0 em nn0_) (ne_ro_el0 : ro ≠ el0) (ne_em_ro : em ≠ ro) (P_S_COMPACT_STRINGS : Sta Z h0 nn3_ nn16_ "Z" (.int cs)) (hcs : ¬ (cs = (0 : Int32))) :
    own_MF l own_y57 (Jvm.Cond.code own_y57 jdk_101_method_5_code 2 (some .boolean)) ws R_own_cont1_2 #[.ref a1, .ref ro] Z h0 (Q_own_cont1_2 Z a1 ro tr kr el0 te0 ke0 em x0 y0 y1 cs h0 n0) := by
  refine own_begin (plainFor_of_name own_pn5) (fun m => ef1 m a1 ro) ?_
  intro p e s m below meth c s₁ hx hby hml hown hnm hlk hret hZ X0 e0
  have N0 := Fr.nil n0
  have K0 := Keep.refl h0 []
  refine own_go (B := s₁.setTop (mkF m 2 #[Sr a1, Sr ro] [.ref a1, .ref ro])) (fun _ k => XS.aloadN X0.here hx rfl (hb hby d54_0) rfl rfl (XS.aloadN X0.here hx rfl (hb hby d54_1) rfl rfl k)) ?_
  refine own_gF X0 hx hZ hown (hw.w 64 rfl) Via.refl e0 P_F_a1_e0 rfl rfl (hb hby d54_2) fun T1 X1 e1 => ?_
  refine own_go (B := T1.setTop (mkF m 5 #[Sr a1, Sr ro] [.ref el0, .ref ro])) (fun _ k => k) ?_
  refine own_cV (own_seq12 l Z a0 hw [] ro el0 tr te0 kr ke0 x0 y0 y1 cs h0 n0 (Nat.le_trans Z0 K0.1) P_E_ro P_F_ro_value P_F_ro_coder P_V_tr P_E_el0 P_F_el0_value P_F_el0_coder P_V_te0 ne_ro_el0 P_S_COMPACT_STRINGS hcs) X1 hx hZ hown (hw.w 347 rfl) (hw.w 348 rfl) (notFace_of_selects (args := #[]) (mvT hZ (hw.w 358 rfl))) (hw.w 350 rfl) (hw.w 351 rfl) (hw.w 2 rfl) (hw.w 352 rfl) P_E_ro e1 rfl rfl (by rw [hml]; rfl) (rest := []) (lenOf own_pd9 rfl) rfl (hb hby d54_5) (W := 0) (show 2 * 0 + _ = _ from rfl) (by decide) (by decide) ?_
  rintro _ T2 L2 X2 ⟨rfl, N2q, e2⟩
  have N2 := Fr.app N0 N2q
  refine own_go (B := T2.setTop (mkF m 8 #[Sr a1, Sr ro] [.int 0])) (fun _ k => k) ?_
  have hc3 : (0 : Int32) = (0 : Int32) := by decide
  refine own_go (B := T2.setTop (mkF m 12 #[Sr a1, Sr ro] [.ref a1])) (fun _ k => XS.ifNo X2.here hx rfl (hb hby d54_8) rfl ((if0 _ _).trans (teq hc3).2) (XS.aloadN X2.here hx rfl (hb hby d54_11) rfl rfl k)) ?_
  refine own_gF X2 hx hZ hown (hw.w 68 rfl) Via.refl e2 P_F_a1_e1 rfl rfl (hb hby d54_12) fun T4 X4 e4 => ?_
  refine own_go (B := T4.setTop (mkF m 16 #[Sr a1, Sr ro] [.ref ro, .ref em])) (fun _ k => XS.aloadN X4.here hx rfl (hb hby d54_15) rfl rfl k) ?_
  obtain ⟨T5, X5, e5, st5⟩ := own_eqO X4 hx hZ hown (hw.w 347 rfl) (hw.w 349 rfl) (hw.w 358 rfl) (hw.w 359 rfl) e4 P_E_em ne_em_ro (g := (mkF m 16 #[Sr a1, Sr ro] [.ref ro, .ref em])) rfl (by rw [hml]; rfl) rfl (hb hby d54_16) (by decide) (W := 0) (by show 2 * 0 + _ ≤ _; exact Nat.le_of_eq rfl) (by decide) (by decide : 0 ≤ _) (by decide : 0 ≤ _)
  refine own_go (B := T5.setTop (mkF m 19 #[Sr a1, Sr ro] [.int 0])) (fun _ k => st5 _ k) ?_
  have hc6 : (0 : Int32) = (0 : Int32) := by decide
  refine own_go (B := T5.setTop (mkF m 27 #[Sr a1, Sr ro] [.int 0])) (fun _ k => XS.ifYes X5.here hx rfl (pc0 := 19) (pc' := 26) rfl (hb hby d54_19) rfl ((if0 _ _).trans (teq hc6).1) (by decide) (by decide) (XS.iconst X5.here hx rfl (hb hby d54_26) k)) ?_
  exact own_retN X5 hx hlk (t := .boolean) (w := (0 : Int32)) hret (by simp) (hb hby d54_27) e5 rfl ⟨rfl, N2, rfl⟩ (by decide) (by decide)
abbrev R_own_cont1_12 : Room := ⟨3, 0, 0, 100⟩
def Q_own_cont1_12 (Z : State) (a1 ro tr : Addr) (kr : ClassId) (el0 te0 : Addr) (ke0 : ClassId) (el1 te1 : Addr) (ke1 : ClassId) (x0 y0 z0 z1 cs : Int32) (h0 : Heap) (n0 : Nat) (v : Option Value) (h : Heap) (L : List Loc) : Prop := v = some (.int (own_b (x0 = y0))) ∧ Fr n0 L ∧ h = h0
theorem own_cont1_12 (l : Launch) (Z : State) (a0 : Array Value) (hw : own_HW a0 Z) (ws : List Jvm.Cond) (a1 ro tr : Addr) (kr : ClassId) (el0 te0 : Addr) (ke0 : ClassId) (el1 te1 : Addr) (ke1 : ClassId) (x0 y0 z0 z1 cs : Int32) (h0 : Heap) (n0 : Nat) (Z0 : n0 ≤ h0.size) (P_E_a1 : Exa Z h0 a1 nn1_) (P_F_a1_e0 : Fld Z h0 a1 nn1_ "e0" nn9_ (.ref el0)) (P_F_a1_e1 : Fld Z h0 a1 nn1_ "e1" nn9_ (.ref el1)) (P_E_el0 : Exa Z h0 el0 nn3_) (P_F_el0_value : Fld Z h0 el0 nn3_ "value" "[B" (.ref te0)) (P_F_el0_coder : Fld Z h0 el0 nn3_ "coder" "B" (.int 0)) (P_V_te0 : Arv Z h0 te0 ke0 .byte 1 [.int y0] (.int 0)) (P_E_el1 : Exa Z h0 el1 nn3_) (P_F_el1_value : Fld Z h0 el1 nn3_ "value" "[B" (.ref te1)) (P_F_el1_coder : Fld Z h0 el1 nn3_ "coder" "B" (.int 0)) (P_V_te1 : Arv Z h0 te1 ke1 .byte 2 [.int z0, .int z1] (.int 0)) (P_E_ro : Exa Z h0 ro nn3_) (P_F_ro_value : Fld Z h0 ro nn3_ "value" "[B" (.ref tr)) (P_F_ro_coder : Fld Z h0 ro nn3_ "coder" "B" (.int 0)) (P_V_tr : Arv Z h0 tr kr .byte 1 [.int x0] (.int 0)) (ne_ro_el0 : ro ≠ el0) (ne_ro_el1 : ro ≠ el1) (P_S_COMPACT_STRINGS : Sta Z h0 nn3_ nn16_ "Z" (.int cs)) (hcs : ¬ (cs = (0 : Int32))) :
    own_MF l own_y57 (Jvm.Cond.code own_y57 jdk_101_method_5_code 2 (some .boolean)) ws R_own_cont1_12 #[.ref a1, .ref ro] Z h0 (Q_own_cont1_12 Z a1 ro tr kr el0 te0 ke0 el1 te1 ke1 x0 y0 z0 z1 cs h0 n0) := by
  refine own_begin (plainFor_of_name own_pn5) (fun m => ef1 m a1 ro) ?_
  intro p e s m below meth c s₁ hx hby hml hown hnm hlk hret hZ X0 e0
  have N0 := Fr.nil n0
  have K0 := Keep.refl h0 []
  refine own_go (B := s₁.setTop (mkF m 2 #[Sr a1, Sr ro] [.ref a1, .ref ro])) (fun _ k => XS.aloadN X0.here hx rfl (hb hby d54_0) rfl rfl (XS.aloadN X0.here hx rfl (hb hby d54_1) rfl rfl k)) ?_
  refine own_gF X0 hx hZ hown (hw.w 64 rfl) Via.refl e0 P_F_a1_e0 rfl rfl (hb hby d54_2) fun T1 X1 e1 => ?_
  refine own_go (B := T1.setTop (mkF m 5 #[Sr a1, Sr ro] [.ref el0, .ref ro])) (fun _ k => k) ?_
  refine own_cV (own_seq11 l Z a0 hw [] ro el0 tr te0 kr ke0 x0 y0 cs h0 n0 (Nat.le_trans Z0 K0.1) P_E_ro P_F_ro_value P_F_ro_coder P_V_tr P_E_el0 P_F_el0_value P_F_el0_coder P_V_te0 ne_ro_el0 P_S_COMPACT_STRINGS hcs) X1 hx hZ hown (hw.w 347 rfl) (hw.w 348 rfl) (notFace_of_selects (args := #[]) (mvT hZ (hw.w 358 rfl))) (hw.w 350 rfl) (hw.w 351 rfl) (hw.w 2 rfl) (hw.w 352 rfl) P_E_ro e1 rfl rfl (by rw [hml]; rfl) (rest := []) (lenOf own_pd9 rfl) rfl (hb hby d54_5) (W := 0) (show 2 * 0 + _ = _ from rfl) (by decide) (by decide) ?_
  rintro _ T2 L2 X2 ⟨rfl, N2q, e2⟩
  have N2 := Fr.app N0 N2q
  refine own_go (B := T2.setTop (mkF m 8 #[Sr a1, Sr ro] [(.int (own_b (x0 = y0)))])) (fun _ k => k) ?_
  by_cases hc3 : x0 = y0
  · skip
    rw [own_b1 hc3]
    show own_Fin _ _ _ _ _ _ _ (T2.setTop (mkF m 8 #[Sr a1, Sr ro] [.int 1]))
    have hc4 : ¬ ((1 : Int32) = (0 : Int32)) := by decide
    refine own_go (B := T2.setTop (mkF m 27 #[Sr a1, Sr ro] [.int 1])) (fun _ k => XS.ifYes X2.here hx rfl (pc0 := 8) (pc' := 22) rfl (hb hby d54_8) rfl ((if0 _ _).trans (feq hc4).2) (by decide) (by decide) (XS.iconst X2.here hx rfl (hb hby d54_22) (XS.goto X2.here hx rfl (pc0 := 23) (pc' := 27) rfl (hb hby d54_23) (by decide) (by decide) k))) ?_
    exact own_retN X2 hx hlk (t := .boolean) (w := (1 : Int32)) hret (by simp) (hb hby d54_27) e2 rfl ⟨(by rw [own_b1 hc3]), N2, rfl⟩ (by decide) (by decide)
  · skip
    rw [own_b0 hc3]
    show own_Fin _ _ _ _ _ _ _ (T2.setTop (mkF m 8 #[Sr a1, Sr ro] [.int 0]))
    have hc5 : (0 : Int32) = (0 : Int32) := by decide
    refine own_go (B := T2.setTop (mkF m 12 #[Sr a1, Sr ro] [.ref a1])) (fun _ k => XS.ifNo X2.here hx rfl (hb hby d54_8) rfl ((if0 _ _).trans (teq hc5).2) (XS.aloadN X2.here hx rfl (hb hby d54_11) rfl rfl k)) ?_
    refine own_gF X2 hx hZ hown (hw.w 68 rfl) Via.refl e2 P_F_a1_e1 rfl rfl (hb hby d54_12) fun T6 X6 e6 => ?_
    refine own_go (B := T6.setTop (mkF m 16 #[Sr a1, Sr ro] [.ref ro, .ref el1])) (fun _ k => XS.aloadN X6.here hx rfl (hb hby d54_15) rfl rfl k) ?_
    refine own_cV (own_seq21 l Z a0 hw [] el1 ro te1 tr ke1 kr z0 z1 x0 cs h0 n0 (Nat.le_trans Z0 K0.1) P_E_el1 P_F_el1_value P_F_el1_coder P_V_te1 P_E_ro P_F_ro_value P_F_ro_coder P_V_tr (Ne.symm ne_ro_el1) P_S_COMPACT_STRINGS hcs) X6 hx hZ hown (hw.w 347 rfl) (hw.w 348 rfl) (notFace_of_selects (args := #[]) (mvT hZ (hw.w 358 rfl))) (hw.w 350 rfl) (hw.w 351 rfl) (hw.w 2 rfl) (hw.w 352 rfl) P_E_el1 e6 rfl rfl (by rw [hml]; rfl) (rest := []) (lenOf own_pd9 rfl) rfl (hb hby d54_16) (W := 0) (show 2 * 0 + _ = _ from rfl) (by decide) (by decide) ?_
    rintro _ T7 L7 X7 ⟨rfl, N7q, e7⟩
    have N7 := Fr.app N2 N7q
    refine own_go (B := T7.setTop (mkF m 19 #[Sr a1, Sr ro] [.int 0])) (fun _ k => k) ?_
    have hc8 : (0 : Int32) = (0 : Int32) := by decide
    refine own_go (B := T7.setTop (mkF m 27 #[Sr a1, Sr ro] [.int 0])) (fun _ k => XS.ifYes X7.here hx rfl (pc0 := 19) (pc' := 26) rfl (hb hby d54_19) rfl ((if0 _ _).trans (teq hc8).1) (by decide) (by decide) (XS.iconst X7.here hx rfl (hb hby d54_26) k)) ?_
    exact own_retN X7 hx hlk (t := .boolean) (w := (0 : Int32)) hret (by simp) (hb hby d54_27) e7 rfl ⟨(by rw [own_b0 hc3]), N7, rfl⟩ (by decide) (by decide)
abbrev R_own_cont2_1 : Room := ⟨3, 0, 0, 100⟩
def Q_own_cont2_1 (Z : State) (a1 ro tr : Addr) (kr : ClassId) (el0 te0 : Addr) (ke0 : ClassId) (em : Addr) (x0 x1 y0 cs : Int32) (h0 : Heap) (n0 : Nat) (v : Option Value) (h : Heap) (L : List Loc) : Prop := v = some (.int 0) ∧ Fr n0 L ∧ h = h0
theorem own_cont2_1 (l : Launch) (Z : State) (a0 : Array Value) (hw : own_HW a0 Z) (ws : List Jvm.Cond) (a1 ro tr : Addr) (kr : ClassId) (el0 te0 : Addr) (ke0 : ClassId) (em : Addr) (x0 x1 y0 cs : Int32) (h0 : Heap) (n0 : Nat) (Z0 : n0 ≤ h0.size) (P_E_a1 : Exa Z h0 a1 nn1_) (P_F_a1_e0 : Fld Z h0 a1 nn1_ "e0" nn9_ (.ref el0)) (P_F_a1_e1 : Fld Z h0 a1 nn1_ "e1" nn9_ (.ref em)) (P_E_el0 : Exa Z h0 el0 nn3_) (P_F_el0_value : Fld Z h0 el0 nn3_ "value" "[B" (.ref te0)) (P_F_el0_coder : Fld Z h0 el0 nn3_ "coder" "B" (.int 0)) (P_V_te0 : Arv Z h0 te0 ke0 .byte 1 [.int y0] (.int 0)) (P_E_ro : Exa Z h0 ro nn3_) (P_F_ro_value : Fld Z h0 ro nn3_ "value" "[B" (.ref tr)) (P_F_ro_coder : Fld Z h0 ro nn3_ "coder" "B" (.int 0)) (P_V_tr : Arv Z h0 tr kr .byte 2 [.int x0, .int x1] (.int 0)) (P_E_em : Exa Z h0 em nn0_) (ne_ro_el0 : ro ≠ el0) (ne_em_ro : em ≠ ro) (P_S_COMPACT_STRINGS : Sta Z h0 nn3_ nn16_ "Z" (.int cs)) (hcs : ¬ (cs = (0 : Int32))) :
    own_MF l own_y57 (Jvm.Cond.code own_y57 jdk_101_method_5_code 2 (some .boolean)) ws R_own_cont2_1 #[.ref a1, .ref ro] Z h0 (Q_own_cont2_1 Z a1 ro tr kr el0 te0 ke0 em x0 x1 y0 cs h0 n0) := by
  refine own_begin (plainFor_of_name own_pn5) (fun m => ef1 m a1 ro) ?_
  intro p e s m below meth c s₁ hx hby hml hown hnm hlk hret hZ X0 e0
  have N0 := Fr.nil n0
  have K0 := Keep.refl h0 []
  refine own_go (B := s₁.setTop (mkF m 2 #[Sr a1, Sr ro] [.ref a1, .ref ro])) (fun _ k => XS.aloadN X0.here hx rfl (hb hby d54_0) rfl rfl (XS.aloadN X0.here hx rfl (hb hby d54_1) rfl rfl k)) ?_
  refine own_gF X0 hx hZ hown (hw.w 64 rfl) Via.refl e0 P_F_a1_e0 rfl rfl (hb hby d54_2) fun T1 X1 e1 => ?_
  refine own_go (B := T1.setTop (mkF m 5 #[Sr a1, Sr ro] [.ref el0, .ref ro])) (fun _ k => k) ?_
  refine own_cV (own_seq21 l Z a0 hw [] ro el0 tr te0 kr ke0 x0 x1 y0 cs h0 n0 (Nat.le_trans Z0 K0.1) P_E_ro P_F_ro_value P_F_ro_coder P_V_tr P_E_el0 P_F_el0_value P_F_el0_coder P_V_te0 ne_ro_el0 P_S_COMPACT_STRINGS hcs) X1 hx hZ hown (hw.w 347 rfl) (hw.w 348 rfl) (notFace_of_selects (args := #[]) (mvT hZ (hw.w 358 rfl))) (hw.w 350 rfl) (hw.w 351 rfl) (hw.w 2 rfl) (hw.w 352 rfl) P_E_ro e1 rfl rfl (by rw [hml]; rfl) (rest := []) (lenOf own_pd9 rfl) rfl (hb hby d54_5) (W := 0) (show 2 * 0 + _ = _ from rfl) (by decide) (by decide) ?_
  rintro _ T2 L2 X2 ⟨rfl, N2q, e2⟩
  have N2 := Fr.app N0 N2q
  refine own_go (B := T2.setTop (mkF m 8 #[Sr a1, Sr ro] [.int 0])) (fun _ k => k) ?_
  have hc3 : (0 : Int32) = (0 : Int32) := by decide
  refine own_go (B := T2.setTop (mkF m 12 #[Sr a1, Sr ro] [.ref a1])) (fun _ k => XS.ifNo X2.here hx rfl (hb hby d54_8) rfl ((if0 _ _).trans (teq hc3).2) (XS.aloadN X2.here hx rfl (hb hby d54_11) rfl rfl k)) ?_
  refine own_gF X2 hx hZ hown (hw.w 68 rfl) Via.refl e2 P_F_a1_e1 rfl rfl (hb hby d54_12) fun T4 X4 e4 => ?_
  refine own_go (B := T4.setTop (mkF m 16 #[Sr a1, Sr ro] [.ref ro, .ref em])) (fun _ k => XS.aloadN X4.here hx rfl (hb hby d54_15) rfl rfl k) ?_
  obtain ⟨T5, X5, e5, st5⟩ := own_eqO X4 hx hZ hown (hw.w 347 rfl) (hw.w 349 rfl) (hw.w 358 rfl) (hw.w 359 rfl) e4 P_E_em ne_em_ro (g := (mkF m 16 #[Sr a1, Sr ro] [.ref ro, .ref em])) rfl (by rw [hml]; rfl) rfl (hb hby d54_16) (by decide) (W := 0) (by show 2 * 0 + _ ≤ _; exact Nat.le_of_eq rfl) (by decide) (by decide : 0 ≤ _) (by decide : 0 ≤ _)
  refine own_go (B := T5.setTop (mkF m 19 #[Sr a1, Sr ro] [.int 0])) (fun _ k => st5 _ k) ?_
  have hc6 : (0 : Int32) = (0 : Int32) := by decide
  refine own_go (B := T5.setTop (mkF m 27 #[Sr a1, Sr ro] [.int 0])) (fun _ k => XS.ifYes X5.here hx rfl (pc0 := 19) (pc' := 26) rfl (hb hby d54_19) rfl ((if0 _ _).trans (teq hc6).1) (by decide) (by decide) (XS.iconst X5.here hx rfl (hb hby d54_26) k)) ?_
  exact own_retN X5 hx hlk (t := .boolean) (w := (0 : Int32)) hret (by simp) (hb hby d54_27) e5 rfl ⟨rfl, N2, rfl⟩ (by decide) (by decide)
abbrev R_own_cont2_2 : Room := ⟨3, 0, 0, 100⟩
def Q_own_cont2_2 (Z : State) (a1 ro tr : Addr) (kr : ClassId) (el0 te0 : Addr) (ke0 : ClassId) (em : Addr) (x0 x1 y0 y1 cs : Int32) (h0 : Heap) (n0 : Nat) (v : Option Value) (h : Heap) (L : List Loc) : Prop := v = some (.int (own_b (x0 = y0 ∧ x1 = y1))) ∧ Fr n0 L ∧ h = h0
theorem own_cont2_2 (l : Launch) (Z : State) (a0 : Array Value) (hw : own_HW a0 Z) (ws : List Jvm.Cond) (a1 ro tr : Addr) (kr : ClassId) (el0 te0 : Addr) (ke0 : ClassId) (em : Addr) (x0 x1 y0 y1 cs : Int32) (h0 : Heap) (n0 : Nat) (Z0 : n0 ≤ h0.size) (P_E_a1 : Exa Z h0 a1 nn1_) (P_F_a1_e0 : Fld Z h0 a1 nn1_ "e0" nn9_ (.ref el0)) (P_F_a1_e1 : Fld Z h0 a1 nn1_ "e1" nn9_ (.ref em)) (P_E_el0 : Exa Z h0 el0 nn3_) (P_F_el0_value : Fld Z h0 el0 nn3_ "value" "[B" (.ref te0)) (P_F_el0_coder : Fld Z h0 el0 nn3_ "coder" "B" (.int 0)) (P_V_te0 : Arv Z h0 te0 ke0 .byte 2 [.int y0, .int y1] (.int 0)) (P_E_ro : Exa Z h0 ro nn3_) (P_F_ro_value : Fld Z h0 ro nn3_ "value" "[B" (.ref tr)) (P_F_ro_coder : Fld Z h0 ro nn3_ "coder" "B" (.int 0)) (P_V_tr : Arv Z h0 tr kr .byte 2 [.int x0, .int x1] (.int 0)) (P_E_em : Exa Z h0 em nn0_) (ne_ro_el0 : ro ≠ el0) (ne_em_ro : em ≠ ro) (P_S_COMPACT_STRINGS : Sta Z h0 nn3_ nn16_ "Z" (.int cs)) (hcs : ¬ (cs = (0 : Int32))) :
    own_MF l own_y57 (Jvm.Cond.code own_y57 jdk_101_method_5_code 2 (some .boolean)) ws R_own_cont2_2 #[.ref a1, .ref ro] Z h0 (Q_own_cont2_2 Z a1 ro tr kr el0 te0 ke0 em x0 x1 y0 y1 cs h0 n0) := by
  refine own_begin (plainFor_of_name own_pn5) (fun m => ef1 m a1 ro) ?_
  intro p e s m below meth c s₁ hx hby hml hown hnm hlk hret hZ X0 e0
  have N0 := Fr.nil n0
  have K0 := Keep.refl h0 []
  refine own_go (B := s₁.setTop (mkF m 2 #[Sr a1, Sr ro] [.ref a1, .ref ro])) (fun _ k => XS.aloadN X0.here hx rfl (hb hby d54_0) rfl rfl (XS.aloadN X0.here hx rfl (hb hby d54_1) rfl rfl k)) ?_
  refine own_gF X0 hx hZ hown (hw.w 64 rfl) Via.refl e0 P_F_a1_e0 rfl rfl (hb hby d54_2) fun T1 X1 e1 => ?_
  refine own_go (B := T1.setTop (mkF m 5 #[Sr a1, Sr ro] [.ref el0, .ref ro])) (fun _ k => k) ?_
  refine own_cV (own_seq22 l Z a0 hw [] ro el0 tr te0 kr ke0 x0 x1 y0 y1 cs h0 n0 (Nat.le_trans Z0 K0.1) P_E_ro P_F_ro_value P_F_ro_coder P_V_tr P_E_el0 P_F_el0_value P_F_el0_coder P_V_te0 ne_ro_el0 P_S_COMPACT_STRINGS hcs) X1 hx hZ hown (hw.w 347 rfl) (hw.w 348 rfl) (notFace_of_selects (args := #[]) (mvT hZ (hw.w 358 rfl))) (hw.w 350 rfl) (hw.w 351 rfl) (hw.w 2 rfl) (hw.w 352 rfl) P_E_ro e1 rfl rfl (by rw [hml]; rfl) (rest := []) (lenOf own_pd9 rfl) rfl (hb hby d54_5) (W := 0) (show 2 * 0 + _ = _ from rfl) (by decide) (by decide) ?_
  rintro _ T2 L2 X2 ⟨rfl, N2q, e2⟩
  have N2 := Fr.app N0 N2q
  refine own_go (B := T2.setTop (mkF m 8 #[Sr a1, Sr ro] [(.int (own_b (x0 = y0 ∧ x1 = y1)))])) (fun _ k => k) ?_
  by_cases hc3 : x0 = y0 ∧ x1 = y1
  · skip
    rw [own_b1 hc3]
    show own_Fin _ _ _ _ _ _ _ (T2.setTop (mkF m 8 #[Sr a1, Sr ro] [.int 1]))
    have hc4 : ¬ ((1 : Int32) = (0 : Int32)) := by decide
    refine own_go (B := T2.setTop (mkF m 27 #[Sr a1, Sr ro] [.int 1])) (fun _ k => XS.ifYes X2.here hx rfl (pc0 := 8) (pc' := 22) rfl (hb hby d54_8) rfl ((if0 _ _).trans (feq hc4).2) (by decide) (by decide) (XS.iconst X2.here hx rfl (hb hby d54_22) (XS.goto X2.here hx rfl (pc0 := 23) (pc' := 27) rfl (hb hby d54_23) (by decide) (by decide) k))) ?_
    exact own_retN X2 hx hlk (t := .boolean) (w := (1 : Int32)) hret (by simp) (hb hby d54_27) e2 rfl ⟨(by rw [own_b1 hc3]), N2, rfl⟩ (by decide) (by decide)
  · skip
    rw [own_b0 hc3]
    show own_Fin _ _ _ _ _ _ _ (T2.setTop (mkF m 8 #[Sr a1, Sr ro] [.int 0]))
    have hc5 : (0 : Int32) = (0 : Int32) := by decide
    refine own_go (B := T2.setTop (mkF m 12 #[Sr a1, Sr ro] [.ref a1])) (fun _ k => XS.ifNo X2.here hx rfl (hb hby d54_8) rfl ((if0 _ _).trans (teq hc5).2) (XS.aloadN X2.here hx rfl (hb hby d54_11) rfl rfl k)) ?_
    refine own_gF X2 hx hZ hown (hw.w 68 rfl) Via.refl e2 P_F_a1_e1 rfl rfl (hb hby d54_12) fun T6 X6 e6 => ?_
    refine own_go (B := T6.setTop (mkF m 16 #[Sr a1, Sr ro] [.ref ro, .ref em])) (fun _ k => XS.aloadN X6.here hx rfl (hb hby d54_15) rfl rfl k) ?_
    obtain ⟨T7, X7, e7, st7⟩ := own_eqO X6 hx hZ hown (hw.w 347 rfl) (hw.w 349 rfl) (hw.w 358 rfl) (hw.w 359 rfl) e6 P_E_em ne_em_ro (g := (mkF m 16 #[Sr a1, Sr ro] [.ref ro, .ref em])) rfl (by rw [hml]; rfl) rfl (hb hby d54_16) (by decide) (W := 0) (by show 2 * 0 + _ ≤ _; exact Nat.le_of_eq rfl) (by decide) (by decide : 0 ≤ _) (by decide : 0 ≤ _)
    refine own_go (B := T7.setTop (mkF m 19 #[Sr a1, Sr ro] [.int 0])) (fun _ k => st7 _ k) ?_
    have hc8 : (0 : Int32) = (0 : Int32) := by decide
    refine own_go (B := T7.setTop (mkF m 27 #[Sr a1, Sr ro] [.int 0])) (fun _ k => XS.ifYes X7.here hx rfl (pc0 := 19) (pc' := 26) rfl (hb hby d54_19) rfl ((if0 _ _).trans (teq hc8).1) (by decide) (by decide) (XS.iconst X7.here hx rfl (hb hby d54_26) k)) ?_
    exact own_retN X7 hx hlk (t := .boolean) (w := (0 : Int32)) hret (by simp) (hb hby d54_27) e7 rfl ⟨(by rw [own_b0 hc3]), N2, rfl⟩ (by decide) (by decide)
abbrev R_own_cont2_12 : Room := ⟨3, 0, 0, 100⟩
theorem own_pl_cont2_12_1 (x0 x1 z0 z1 : Int32) (hc6 : z0 = x0 ∧ z1 = x1) : x0 = z0 ∧ x1 = z1 := by
  have := rng32 z0
  have := rng32 z1
  have := rng32 x0
  have := rng32 x1
  try simp only [Int32.lt_iff_toInt_lt, Int32.le_iff_toInt_le, ← Int32.toInt_inj, true_and, and_true, true_or, or_true, false_or, or_false, not_true_eq_false, not_false_eq_true, false_and, and_false, ne_eq] at *
  all_goals first | omega | (simp; done)
theorem own_pl_cont2_12_2 (x0 x1 z0 z1 : Int32) (hc6 : ¬ (z0 = x0 ∧ z1 = x1)) : ¬ (x0 = z0 ∧ x1 = z1) := by
  have := rng32 z0
  have := rng32 z1
  have := rng32 x0
  have := rng32 x1
  try simp only [Int32.lt_iff_toInt_lt, Int32.le_iff_toInt_le, ← Int32.toInt_inj, true_and, and_true, true_or, or_true, false_or, or_false, not_true_eq_false, not_false_eq_true, false_and, and_false, ne_eq] at *
  all_goals first | omega | (simp; done)
def Q_own_cont2_12 (Z : State) (a1 ro tr : Addr) (kr : ClassId) (el0 te0 : Addr) (ke0 : ClassId) (el1 te1 : Addr) (ke1 : ClassId) (x0 x1 y0 z0 z1 cs : Int32) (h0 : Heap) (n0 : Nat) (v : Option Value) (h : Heap) (L : List Loc) : Prop := v = some (.int (own_b (x0 = z0 ∧ x1 = z1))) ∧ Fr n0 L ∧ h = h0
theorem own_cont2_12 (l : Launch) (Z : State) (a0 : Array Value) (hw : own_HW a0 Z) (ws : List Jvm.Cond) (a1 ro tr : Addr) (kr : ClassId) (el0 te0 : Addr) (ke0 : ClassId) (el1 te1 : Addr) (ke1 : ClassId) (x0 x1 y0 z0 z1 cs : Int32) (h0 : Heap) (n0 : Nat) (Z0 : n0 ≤ h0.size) (P_E_a1 : Exa Z h0 a1 nn1_) (P_F_a1_e0 : Fld Z h0 a1 nn1_ "e0" nn9_ (.ref el0)) (P_F_a1_e1 : Fld Z h0 a1 nn1_ "e1" nn9_ (.ref el1)) (P_E_el0 : Exa Z h0 el0 nn3_) (P_F_el0_value : Fld Z h0 el0 nn3_ "value" "[B" (.ref te0)) (P_F_el0_coder : Fld Z h0 el0 nn3_ "coder" "B" (.int 0)) (P_V_te0 : Arv Z h0 te0 ke0 .byte 1 [.int y0] (.int 0)) (P_E_el1 : Exa Z h0 el1 nn3_) (P_F_el1_value : Fld Z h0 el1 nn3_ "value" "[B" (.ref te1)) (P_F_el1_coder : Fld Z h0 el1 nn3_ "coder" "B" (.int 0)) (P_V_te1 : Arv Z h0 te1 ke1 .byte 2 [.int z0, .int z1] (.int 0)) (P_E_ro : Exa Z h0 ro nn3_) (P_F_ro_value : Fld Z h0 ro nn3_ "value" "[B" (.ref tr)) (P_F_ro_coder : Fld Z h0 ro nn3_ "coder" "B" (.int 0)) (P_V_tr : Arv Z h0 tr kr .byte 2 [.int x0, .int x1] (.int 0)) (ne_ro_el0 : ro ≠ el0) (ne_ro_el1 : ro ≠ el1) (P_S_COMPACT_STRINGS : Sta Z h0 nn3_ nn16_ "Z" (.int cs)) (hcs : ¬ (cs = (0 : Int32))) :
    own_MF l own_y57 (Jvm.Cond.code own_y57 jdk_101_method_5_code 2 (some .boolean)) ws R_own_cont2_12 #[.ref a1, .ref ro] Z h0 (Q_own_cont2_12 Z a1 ro tr kr el0 te0 ke0 el1 te1 ke1 x0 x1 y0 z0 z1 cs h0 n0) := by
  refine own_begin (plainFor_of_name own_pn5) (fun m => ef1 m a1 ro) ?_
  intro p e s m below meth c s₁ hx hby hml hown hnm hlk hret hZ X0 e0
  have N0 := Fr.nil n0
  have K0 := Keep.refl h0 []
  refine own_go (B := s₁.setTop (mkF m 2 #[Sr a1, Sr ro] [.ref a1, .ref ro])) (fun _ k => XS.aloadN X0.here hx rfl (hb hby d54_0) rfl rfl (XS.aloadN X0.here hx rfl (hb hby d54_1) rfl rfl k)) ?_
  refine own_gF X0 hx hZ hown (hw.w 64 rfl) Via.refl e0 P_F_a1_e0 rfl rfl (hb hby d54_2) fun T1 X1 e1 => ?_
  refine own_go (B := T1.setTop (mkF m 5 #[Sr a1, Sr ro] [.ref el0, .ref ro])) (fun _ k => k) ?_
  refine own_cV (own_seq21 l Z a0 hw [] ro el0 tr te0 kr ke0 x0 x1 y0 cs h0 n0 (Nat.le_trans Z0 K0.1) P_E_ro P_F_ro_value P_F_ro_coder P_V_tr P_E_el0 P_F_el0_value P_F_el0_coder P_V_te0 ne_ro_el0 P_S_COMPACT_STRINGS hcs) X1 hx hZ hown (hw.w 347 rfl) (hw.w 348 rfl) (notFace_of_selects (args := #[]) (mvT hZ (hw.w 358 rfl))) (hw.w 350 rfl) (hw.w 351 rfl) (hw.w 2 rfl) (hw.w 352 rfl) P_E_ro e1 rfl rfl (by rw [hml]; rfl) (rest := []) (lenOf own_pd9 rfl) rfl (hb hby d54_5) (W := 0) (show 2 * 0 + _ = _ from rfl) (by decide) (by decide) ?_
  rintro _ T2 L2 X2 ⟨rfl, N2q, e2⟩
  have N2 := Fr.app N0 N2q
  refine own_go (B := T2.setTop (mkF m 8 #[Sr a1, Sr ro] [.int 0])) (fun _ k => k) ?_
  have hc3 : (0 : Int32) = (0 : Int32) := by decide
  refine own_go (B := T2.setTop (mkF m 12 #[Sr a1, Sr ro] [.ref a1])) (fun _ k => XS.ifNo X2.here hx rfl (hb hby d54_8) rfl ((if0 _ _).trans (teq hc3).2) (XS.aloadN X2.here hx rfl (hb hby d54_11) rfl rfl k)) ?_
  refine own_gF X2 hx hZ hown (hw.w 68 rfl) Via.refl e2 P_F_a1_e1 rfl rfl (hb hby d54_12) fun T4 X4 e4 => ?_
  refine own_go (B := T4.setTop (mkF m 16 #[Sr a1, Sr ro] [.ref ro, .ref el1])) (fun _ k => XS.aloadN X4.here hx rfl (hb hby d54_15) rfl rfl k) ?_
  refine own_cV (own_seq22 l Z a0 hw [] el1 ro te1 tr ke1 kr z0 z1 x0 x1 cs h0 n0 (Nat.le_trans Z0 K0.1) P_E_el1 P_F_el1_value P_F_el1_coder P_V_te1 P_E_ro P_F_ro_value P_F_ro_coder P_V_tr (Ne.symm ne_ro_el1) P_S_COMPACT_STRINGS hcs) X4 hx hZ hown (hw.w 347 rfl) (hw.w 348 rfl) (notFace_of_selects (args := #[]) (mvT hZ (hw.w 358 rfl))) (hw.w 350 rfl) (hw.w 351 rfl) (hw.w 2 rfl) (hw.w 352 rfl) P_E_el1 e4 rfl rfl (by rw [hml]; rfl) (rest := []) (lenOf own_pd9 rfl) rfl (hb hby d54_16) (W := 0) (show 2 * 0 + _ = _ from rfl) (by decide) (by decide) ?_
  rintro _ T5 L5 X5 ⟨rfl, N5q, e5⟩
  have N5 := Fr.app N2 N5q
  refine own_go (B := T5.setTop (mkF m 19 #[Sr a1, Sr ro] [(.int (own_b (z0 = x0 ∧ z1 = x1)))])) (fun _ k => k) ?_
  by_cases hc6 : z0 = x0 ∧ z1 = x1
  · skip
    rw [own_b1 hc6]
    show own_Fin _ _ _ _ _ _ _ (T5.setTop (mkF m 19 #[Sr a1, Sr ro] [.int 1]))
    have hc7 : ¬ ((1 : Int32) = (0 : Int32)) := by decide
    refine own_go (B := T5.setTop (mkF m 27 #[Sr a1, Sr ro] [.int 1])) (fun _ k => XS.ifNo X5.here hx rfl (hb hby d54_19) rfl ((if0 _ _).trans (feq hc7).1) (XS.iconst X5.here hx rfl (hb hby d54_22) (XS.goto X5.here hx rfl (pc0 := 23) (pc' := 27) rfl (hb hby d54_23) (by decide) (by decide) k))) ?_
    exact own_retN X5 hx hlk (t := .boolean) (w := (1 : Int32)) hret (by simp) (hb hby d54_27) e5 rfl ⟨(by rw [own_b1 (own_pl_cont2_12_1 x0 x1 z0 z1 hc6)]), N5, rfl⟩ (by decide) (by decide)
  · skip
    rw [own_b0 hc6]
    show own_Fin _ _ _ _ _ _ _ (T5.setTop (mkF m 19 #[Sr a1, Sr ro] [.int 0]))
    have hc8 : (0 : Int32) = (0 : Int32) := by decide
    refine own_go (B := T5.setTop (mkF m 27 #[Sr a1, Sr ro] [.int 0])) (fun _ k => XS.ifYes X5.here hx rfl (pc0 := 19) (pc' := 26) rfl (hb hby d54_19) rfl ((if0 _ _).trans (teq hc8).1) (by decide) (by decide) (XS.iconst X5.here hx rfl (hb hby d54_26) k)) ?_
    exact own_retN X5 hx hlk (t := .boolean) (w := (0 : Int32)) hret (by simp) (hb hby d54_27) e5 rfl ⟨(by rw [own_b0 (own_pl_cont2_12_2 x0 x1 z0 z1 hc6)]), N5, rfl⟩ (by decide) (by decide)
abbrev R_own_disj12 : Room := ⟨4, 1, 4, 113⟩
theorem d47_102 : own_D cd47 102 (.iconst 0) 1 := by decide +kernel
theorem d47_103 : own_D cd47 103 .ireturn 1 := by decide +kernel
def Q_own_disj12 (Z : State) (a1 ro li em : Addr) (r : Int32) (h0 : Heap) (n0 : Nat) (v : Option Value) (h : Heap) (L : List Loc) : Prop := v = some (.int (own_b (r = (0 : Int32)))) ∧ Fr n0 L ∧ Keep h0 h []
theorem own_disj12 (l : Launch) (Z : State) (a0 : Array Value) (hw : own_HW a0 Z) (ws : List Jvm.Cond) (a1 ro li em : Addr) (r : Int32) (h0 : Heap) (n0 : Nat) (Z0 : n0 ≤ h0.size) (P_E_a1 : Exa Z h0 a1 nn1_) (P_E_li : Exa Z h0 li nn2_) (P_F_li_e0 : Fld Z h0 li nn2_ "e0" nn9_ (.ref ro)) (P_F_li_e1 : Fld Z h0 li nn2_ "e1" nn9_ (.ref em)) (P_S_EMPTY : Sta Z h0 nn15_ "EMPTY" nn9_ (.ref em)) (hCon : ∀ h', Keep h0 h' [] → own_MF l own_y57 (Jvm.Cond.code own_y57 jdk_101_method_5_code 2 (some .boolean)) [] { frames := 3, cells := 0, slots := 0, locals := 100 } #[.ref a1, .ref ro] Z h' (fun v h L => v = some (.int r) ∧ Fr n0 L ∧ h = h')) :
    own_MF l own_y55 (Jvm.Cond.code own_y55 jdk_79_method_83_code 6 (some .boolean)) ws R_own_disj12 #[.ref a1, .ref li] Z h0 (Q_own_disj12 Z a1 ro li em r h0 n0) := by
  refine own_begin (plainFor_of_name own_pn19) (fun m => ef33 m a1 li) ?_
  intro p e s m below meth c s₁ hx hby hml hown hnm hlk hret hZ X0 e0
  have N0 := Fr.nil n0
  have K0 := Keep.refl h0 []
  refine own_go (B := s₁.setTop (mkF m 5 #[Sr a1, Sr li, Sr li, Sr a1, Su, Su] [.ref a1])) (fun _ k => XS.aloadN X0.here hx rfl (hb hby d47_0) rfl rfl (XS.astoreN X0.here hx rfl (hb hby d47_1) rfl rfl (l' := #[Sr a1, Sr li, Sr li, Su, Su, Su]) rfl (XS.aloadN X0.here hx rfl (hb hby d47_2) rfl rfl (XS.astoreN X0.here hx rfl (hb hby d47_3) rfl rfl (l' := #[Sr a1, Sr li, Sr li, Sr a1, Su, Su]) rfl (XS.aloadN X0.here hx rfl (hb hby d47_4) rfl rfl k))))) ?_
  refine own_iY X0 hx hZ hown (hw.w 280 rfl) e0 (Ins.of_exa P_E_a1 (hw.w 94 rfl)) rfl rfl (hb hby d47_5) fun T1 X1 e1 => ?_
  refine own_go (B := T1.setTop (mkF m 8 #[Sr a1, Sr li, Sr li, Sr a1, Su, Su] [.int 1])) (fun _ k => k) ?_
  have hc2 : ¬ ((1 : Int32) = (0 : Int32)) := by decide
  refine own_go (B := T1.setTop (mkF m 65 #[Sr a1, Sr li, Sr a1, Sr li, Su, Su] [.ref li])) (fun _ k => XS.ifNo X1.here hx rfl (hb hby d47_8) rfl ((if0 _ _).trans (feq hc2).1) (XS.aloadN X1.here hx rfl (hb hby d47_11) rfl rfl (XS.astoreN X1.here hx rfl (hb hby d47_12) rfl rfl (l' := #[Sr a1, Sr li, Sr li, Sr li, Su, Su]) rfl (XS.aloadN X1.here hx rfl (hb hby d47_13) rfl rfl (XS.astoreN X1.here hx rfl (hb hby d47_14) rfl rfl (l' := #[Sr a1, Sr li, Sr a1, Sr li, Su, Su]) rfl (XS.goto X1.here hx rfl (pc0 := 15) (pc' := 64) rfl (hb hby d47_15) (by decide) (by decide) (XS.aloadN X1.here hx rfl (hb hby d47_64) rfl rfl k))))))) ?_
  refine own_cI (own_rm48 l Z a0 hw [] li ro em h0 n0 (Nat.le_trans Z0 K0.1) P_E_li P_F_li_e0 P_F_li_e1 P_S_EMPTY) X1 hx hZ hown (hw.w 281 rfl) (hw.w 282 rfl) (mvT hZ (hw.w 283 rfl)) (hw.w 284 rfl) (hw.w 285 rfl) (hw.w 286 rfl) (hw.w 287 rfl) (hw.w 288 rfl) (hw.w 231 rfl) (hw.w 289 rfl) P_E_li e1 rfl rfl (by rw [hml]; rfl) (rest := []) (lenOf own_pd26 rfl) rfl (hb hby d47_65) (W := 0) (show 2 * 0 + _ = _ from rfl) (by decide) (by decide) ?_
  rintro _ T3 L3 X3 ⟨b_3, rfl, N3q, K3q, Q3_0, Q3_1, Q3_2, Q3_3, Q3_4, x3_0⟩
  have N3 := Fr.app N0 N3q
  have ne_li_b_3_5 : li ≠ b_3 := Nat.ne_of_lt (Nat.lt_of_lt_of_le P_E_li.lt x3_0)
  have sz_b_3 : h0.size ≤ b_3 := Nat.le_trans K0.1 x3_0
  have g_b_3 : n0 ≤ b_3 := Nat.le_trans Z0 sz_b_3
  have E_7 := P_E_a1.keep K3q
  have E_8 := P_E_li.keep K3q
  have F_9 := P_F_li_e0.keep K3q nin0
  have K12 : Keep h0 T3.heap [] := K0.trans K3q all0
  refine own_go (B := T3.setTop (mkF m 74 #[Sr a1, Sr li, Sr a1, Sr li, Sr b_3, Su] [.ref b_3])) (fun _ k => XS.astore X3.here hx rfl (hb hby d47_70) rfl rfl (l' := #[Sr a1, Sr li, Sr a1, Sr li, Sr b_3, Su]) rfl (XS.aload X3.here hx rfl (hb hby d47_72) rfl rfl k)) ?_
  refine own_cI (own_hn0 l Z a0 hw [] b_3 T3.heap n0 (Nat.le_trans Z0 K12.1) Q3_2 Q3_3) X3 hx hZ hown (hw.w 312 rfl) (hw.w 313 rfl) (mvT hZ (hw.w 314 rfl)) (hw.w 315 rfl) (hw.w 316 rfl) (hw.w 317 rfl) (hw.w 318 rfl) (hw.w 319 rfl) (hw.w 292 rfl) (hw.w 320 rfl) Q3_0 rfl rfl rfl (by rw [hml]; rfl) (rest := []) (lenOf own_pd21 rfl) rfl (hb hby d47_74) (W := 0) (show 2 * 0 + _ = _ from rfl) (by decide) (by decide) ?_
  rintro _ T13 L13 X13 ⟨rfl, N13q, e13⟩
  have N13 := Fr.app N3 N13q
  refine own_go (B := T13.setTop (mkF m 79 #[Sr a1, Sr li, Sr a1, Sr li, Sr b_3, Su] [.int 1])) (fun _ k => k) ?_
  have hc14 : ¬ ((1 : Int32) = (0 : Int32)) := by decide
  refine own_go (B := T13.setTop (mkF m 84 #[Sr a1, Sr li, Sr a1, Sr li, Sr b_3, Su] [.ref b_3])) (fun _ k => XS.ifNo X13.here hx rfl (hb hby d47_79) rfl ((if0 _ _).trans (feq hc14).1) (XS.aload X13.here hx rfl (hb hby d47_82) rfl rfl k)) ?_
  obtain ⟨cq15, kq15, q15a, q15b, q15c⟩ := isOf hZ e13 Q3_0
  obtain ⟨_, _, ⟨T15, L15, k15, n15⟩, -, X15, ⟨Lc15, hQ15, l15, y15, z15⟩, st15⟩ := X13.interfaceBack hx (xi := own_y54) (y := own_y52) hown (mvT hZ (hw.w 321 rfl)) (mvT hZ (hw.w 322 rfl)) (mvT hZ (hw.w 323 rfl)) (mvT hZ (hw.w 324 rfl)) (mvT hZ (hw.w 325 rfl)) (mvT hZ (hw.w 326 rfl)) (mvT hZ (hw.w 327 rfl)) (mvT hZ (hw.w 319 rfl)) (by decide) (backOfWith (W := 0) (own_rm52 l Z a0 hw [] b_3 li ro T3.heap n0 (Nat.le_trans Z0 K12.1) Q3_0 Q3_1 Q3_2 Q3_3 Q3_4 E_8 F_9 g_b_3 ne_li_b_3_5) hZ (hw.w 328 rfl) (hw.w 292 rfl) (by decide) (by decide)) q15a q15b q15c (g := (mkF m 84 #[Sr a1, Sr li, Sr a1, Sr li, Sr b_3, Su] [.ref b_3])) rfl (by rw [hml]; rfl) (Steps.refl _) (argsL := []) (rest := []) (lenOf own_pd27 rfl) rfl (by show 2 * 0 + _ ≤ _; exact Nat.le_of_eq rfl) (hb hby d47_84) (fun _ _ => ⟨rfl, e13, (by decide : 1 + 0 ≤ _), (by decide : 4 + 0 ≤ _)⟩)
  dsimp only [Pt.U, Pt.locs, Pt.cells, Pt.slots] at X15 l15 y15 z15 st15 hQ15
  subst l15 y15 z15
  obtain ⟨rfl, N15q, K15q, Q15_0, Q15_1, Q15_2⟩ := hQ15
  have N15 := Fr.app N13 N15q
  have E_17 := E_7.keep K15q
  have K27 : Keep h0 T15.heap [] := K12.trans K15q (allS (Or.inr sz_b_3) all0)
  refine own_go (B := T15.setTop (mkF m 94 #[Sr a1, Sr li, Sr a1, Sr li, Sr b_3, Sr ro] [.ref ro, .ref a1])) (fun _ k => st15.trans (XS.astore X15.here hx rfl (hb hby d47_89) rfl rfl (l' := #[Sr a1, Sr li, Sr a1, Sr li, Sr b_3, Sr ro]) rfl (XS.aloadN X15.here hx rfl (hb hby d47_91) rfl rfl (XS.aload X15.here hx rfl (hb hby d47_92) rfl rfl k)))) ?_
  obtain ⟨cq28, kq28, q28a, q28b, q28c⟩ := isOf hZ rfl E_17
  obtain ⟨_, _, ⟨T28, L28, k28, n28⟩, -, X28, ⟨Lc28, hQ28, l28, y28, z28⟩, st28⟩ := X15.interfaceBack hx (xi := own_y58) (y := own_y57) hown (mvT hZ (hw.w 338 rfl)) (mvT hZ (hw.w 339 rfl)) (mvT hZ (hw.w 340 rfl)) (mvT hZ (hw.w 341 rfl)) (mvT hZ (hw.w 342 rfl)) (mvT hZ (hw.w 343 rfl)) (mvT hZ (hw.w 344 rfl)) (mvT hZ (hw.w 345 rfl)) (by decide) (backOf (rm := { frames := 3, cells := 0, slots := 0, locals := 100 }) (Q := fun v h L => v = some (.int r) ∧ Fr n0 L ∧ h = T15.heap) (W := 0) (hCon T15.heap K27) hZ (hw.w 346 rfl) (hw.w 36 rfl) (by decide) (by decide)) q28a q28b q28c (g := (mkF m 94 #[Sr a1, Sr li, Sr a1, Sr li, Sr b_3, Sr ro] [.ref ro, .ref a1])) rfl (by rw [hml]; rfl) (Steps.refl _) (argsL := [.ref ro]) (rest := []) (lenOf own_pd9 rfl) rfl (by show 2 * 0 + _ ≤ _; exact Nat.le_of_eq rfl) (hb hby d47_94) (fun _ _ => ⟨rfl, rfl, (by decide : 1 + 0 ≤ _), (by decide : 4 + 0 ≤ _)⟩)
  dsimp only [Pt.U, Pt.locs, Pt.cells, Pt.slots] at X28 l28 y28 z28 st28 hQ28
  subst l28 y28 z28
  obtain ⟨rfl, N28q, e28⟩ := hQ28
  have N28 := Fr.app N15 N28q
  refine own_go (B := T28.setTop (mkF m 99 #[Sr a1, Sr li, Sr a1, Sr li, Sr b_3, Sr ro] [.int r])) (fun _ k => st28.trans k) ?_
  by_cases hc29 : r = (0 : Int32)
  · skip
    refine own_go (B := T28.setTop (mkF m 74 #[Sr a1, Sr li, Sr a1, Sr li, Sr b_3, Sr ro] [.ref b_3])) (fun _ k => XS.ifYes X28.here hx rfl (pc0 := 99) (pc' := 104) rfl (hb hby d47_99) rfl ((if0 _ _).trans (teq hc29).1) (by decide) (by decide) (XS.goto X28.here hx rfl (pc0 := 104) (pc' := 72) rfl (hb hby d47_104) (by decide) (by decide) (XS.aload X28.here hx rfl (hb hby d47_72) rfl rfl k))) ?_
    refine own_cI (own_hn1 l Z a0 hw [] b_3 T15.heap n0 (Nat.le_trans Z0 K27.1) Q15_1 Q15_2) X28 hx hZ hown (hw.w 312 rfl) (hw.w 313 rfl) (mvT hZ (hw.w 314 rfl)) (hw.w 315 rfl) (hw.w 316 rfl) (hw.w 317 rfl) (hw.w 318 rfl) (hw.w 319 rfl) (hw.w 292 rfl) (hw.w 320 rfl) Q15_0 e28 rfl rfl (by rw [hml]; rfl) (rest := []) (lenOf own_pd21 rfl) rfl (hb hby d47_74) (W := 0) (show 2 * 0 + _ = _ from rfl) (by decide) (by decide) ?_
    rintro _ T30 L30 X30 ⟨rfl, N30q, e30⟩
    have N30 := Fr.app N28 N30q
    refine own_go (B := T30.setTop (mkF m 79 #[Sr a1, Sr li, Sr a1, Sr li, Sr b_3, Sr ro] [.int 0])) (fun _ k => k) ?_
    have hc31 : (0 : Int32) = (0 : Int32) := by decide
    refine own_go (B := T30.setTop (mkF m 108 #[Sr a1, Sr li, Sr a1, Sr li, Sr b_3, Sr ro] [.int 1])) (fun _ k => XS.ifYes X30.here hx rfl (pc0 := 79) (pc' := 107) rfl (hb hby d47_79) rfl ((if0 _ _).trans (teq hc31).1) (by decide) (by decide) (XS.iconst X30.here hx rfl (hb hby d47_107) k)) ?_
    exact own_retN X30 hx hlk (t := .boolean) (w := (1 : Int32)) hret (by simp) (hb hby d47_108) e30 rfl ⟨(by rw [own_b1 hc29]), N30, K27⟩ (by decide) (by decide)
  · skip
    refine own_go (B := T28.setTop (mkF m 103 #[Sr a1, Sr li, Sr a1, Sr li, Sr b_3, Sr ro] [.int 0])) (fun _ k => XS.ifNo X28.here hx rfl (hb hby d47_99) rfl ((if0 _ _).trans (feq hc29).1) (XS.iconst X28.here hx rfl (hb hby d47_102) k)) ?_
    exact own_retN X28 hx hlk (t := .boolean) (w := (0 : Int32)) hret (by simp) (hb hby d47_103) e28 rfl ⟨(by rw [own_b0 hc29]), N28, K27⟩ (by decide) (by decide)
abbrev R_own_lam12 : Room := ⟨5, 1, 4, 130⟩
theorem d45_11 : own_D cd45 11 (.iconst 1) 1 := by decide +kernel
theorem d45_12 : own_D cd45 12 (.goto 4) 3 := by decide +kernel
theorem own_pl_lam12_1 (r : Int32) (hc12 : r = (0 : Int32)) : ¬ (¬ (r = (0 : Int32))) := by
  have := rng32 r
  try simp only [own_i32_0] at *
  have := own_i32_0
  try simp only [Int32.lt_iff_toInt_lt, Int32.le_iff_toInt_le, ← Int32.toInt_inj, true_and, and_true, true_or, or_true, false_or, or_false, not_true_eq_false, not_false_eq_true, false_and, and_false, ne_eq] at *
  all_goals first | omega | (simp; done)
def Q_own_lam12 (Z : State) (a1 ro li em : Addr) (r : Int32) (au : Addr) (h0 : Heap) (n0 : Nat) (v : Option Value) (h : Heap) (L : List Loc) : Prop := v = some (.int (own_b (¬ (r = (0 : Int32))))) ∧ Fr n0 L ∧ Keep h0 h []
theorem own_lam12 (l : Launch) (Z : State) (a0 : Array Value) (hw : own_HW a0 Z) (ws : List Jvm.Cond) (a1 ro li em : Addr) (r : Int32) (au : Addr) (h0 : Heap) (n0 : Nat) (Z0 : n0 ≤ h0.size) (P_E_a1 : Exa Z h0 a1 nn1_) (P_E_li : Exa Z h0 li nn2_) (P_F_li_e0 : Fld Z h0 li nn2_ "e0" nn9_ (.ref ro)) (P_F_li_e1 : Fld Z h0 li nn2_ "e1" nn9_ (.ref em)) (P_S_EMPTY : Sta Z h0 nn15_ "EMPTY" nn9_ (.ref em)) (P_E_au : Exa Z h0 au nn8_) (P_F_au_roles : Fld Z h0 au nn8_ "roles" nn13_ (.ref a1)) (hCon : ∀ h', Keep h0 h' [] → own_MF l own_y57 (Jvm.Cond.code own_y57 jdk_101_method_5_code 2 (some .boolean)) [] { frames := 3, cells := 0, slots := 0, locals := 100 } #[.ref a1, .ref ro] Z h' (fun v h L => v = some (.int r) ∧ Fr n0 L ∧ h = h')) :
    own_MF l own_y56 (Jvm.Cond.code own_y56 prog_8_method_10_code 2 (some .boolean)) ws R_own_lam12 #[.ref li, .ref au] Z h0 (Q_own_lam12 Z a1 ro li em r au h0 n0) := by
  refine own_begin (plainFor_of_name own_pn16) (fun m => ef1 m li au) ?_
  intro p e s m below meth c s₁ hx hby hml hown hnm hlk hret hZ X0 e0
  have N0 := Fr.nil n0
  have K0 := Keep.refl h0 []
  refine own_go (B := s₁.setTop (mkF m 1 #[Sr li, Sr au] [.ref au])) (fun _ k => XS.aloadN X0.here hx rfl (hb hby d45_0) rfl rfl k) ?_
  refine own_cV (own_rm46 l Z a0 hw [] au a1 h0 n0 (Nat.le_trans Z0 K0.1) P_F_au_roles) X0 hx hZ hown (hw.w 271 rfl) (hw.w 272 rfl) (notFace_of_selects (args := #[]) (mvT hZ (hw.w 274 rfl))) (hw.w 274 rfl) (hw.w 273 rfl) (hw.w 72 rfl) (hw.w 275 rfl) P_E_au e0 rfl rfl (by rw [hml]; rfl) (rest := []) (lenOf own_pd28 rfl) rfl (hb hby d45_1) (W := 0) (show 2 * 0 + _ = _ from rfl) (by decide) (by decide) ?_
  rintro _ T1 L1 X1 ⟨rfl, N1q, e1⟩
  have N1 := Fr.app N0 N1q
  refine own_go (B := T1.setTop (mkF m 5 #[Sr li, Sr au] [.ref li, .ref a1])) (fun _ k => XS.aloadN X1.here hx rfl (hb hby d45_4) rfl rfl k) ?_
  refine own_cS (own_disj12 l Z a0 hw [] a1 ro li em r h0 n0 (Nat.le_trans Z0 K0.1) P_E_a1 P_E_li P_F_li_e0 P_F_li_e1 P_S_EMPTY (fun h' K' => hCon h' (K0.trans K' all0))) X1 hx hZ hown (hw.w 276 rfl) (hw.w 277 rfl) (hw.w 278 rfl) (hw.w 279 rfl) e1 rfl rfl (by rw [hml]; rfl) (rest := []) (lenOf own_pd29 rfl) rfl (hb hby d45_5) (W := 0) (show 2 * 0 + _ = _ from rfl) (by decide) (by decide) ?_
  rintro _ T2 L2 X2 ⟨rfl, N2q, K2q⟩
  have N2 := Fr.app N1 N2q
  have K11 : Keep h0 T2.heap [] := K0.trans K2q all0
  refine own_go (B := T2.setTop (mkF m 8 #[Sr li, Sr au] [(.int (own_b (r = (0 : Int32))))])) (fun _ k => k) ?_
  by_cases hc12 : r = (0 : Int32)
  · skip
    rw [own_b1 hc12]
    show own_Fin _ _ _ _ _ _ _ (T2.setTop (mkF m 8 #[Sr li, Sr au] [.int 1]))
    have hc13 : ¬ ((1 : Int32) = (0 : Int32)) := by decide
    refine own_go (B := T2.setTop (mkF m 16 #[Sr li, Sr au] [.int 0])) (fun _ k => XS.ifYes X2.here hx rfl (pc0 := 8) (pc' := 15) rfl (hb hby d45_8) rfl ((if0 _ _).trans (feq hc13).2) (by decide) (by decide) (XS.iconst X2.here hx rfl (hb hby d45_15) k)) ?_
    exact own_retN X2 hx hlk (t := .boolean) (w := (0 : Int32)) hret (by simp) (hb hby d45_16) rfl rfl ⟨(by rw [own_b0 (own_pl_lam12_1 r hc12)]), N2, K11⟩ (by decide) (by decide)
  · skip
    rw [own_b0 hc12]
    show own_Fin _ _ _ _ _ _ _ (T2.setTop (mkF m 8 #[Sr li, Sr au] [.int 0]))
    have hc14 : (0 : Int32) = (0 : Int32) := by decide
    refine own_go (B := T2.setTop (mkF m 16 #[Sr li, Sr au] [.int 1])) (fun _ k => XS.ifNo X2.here hx rfl (hb hby d45_8) rfl ((if0 _ _).trans (teq hc14).2) (XS.iconst X2.here hx rfl (hb hby d45_11) (XS.goto X2.here hx rfl (pc0 := 12) (pc' := 16) rfl (hb hby d45_12) (by decide) (by decide) k))) ?_
    exact own_retN X2 hx hlk (t := .boolean) (w := (1 : Int32)) hret (by simp) (hb hby d45_16) rfl rfl ⟨(by rw [own_b1 hc12]), N2, K11⟩ (by decide) (by decide)
abbrev R_own_rm42 : Room := ⟨0, 1, 1, 3073⟩
theorem d42_0 : own_D cd42 0 (.aload_n 0) 1 := by decide +kernel
theorem d42_1 : own_D cd42 1 (.invokedynamic 93) 5 := by decide +kernel
theorem d42_6 : own_D cd42 6 .areturn 1 := by decide +kernel
def Q_own_rm42 (Z : State) (li : Addr) (h0 : Heap) (n0 : Nat) (v : Option Value) (h : Heap) (L : List Loc) : Prop := ∃ b : Addr, v = some (.ref b) ∧ Fr n0 L ∧ Keep h0 h [] ∧ own_Fn Z h b li ∧ (h0.size ≤ b)
theorem own_rm42 (l : Launch) (Z : State) (a0 : Array Value) (hw : own_HW a0 Z) (ws : List Jvm.Cond) (li : Addr) (h0 : Heap) (n0 : Nat) (Z0 : n0 ≤ h0.size)  :
    MetFree l own_y59 (head1 (Jvm.Cond.code own_y59 prog_8_method_9_code 1 (some (.object "java/util/function/Predicate")) :: ws) R_own_rm42) (fun a U => a = #[.ref li] ∧ Z.Warmed39 U.vm ∧ U.heap = h0) (fun _ _ _ _ _ => True) (fun _ U o U' => ∃ v L, o = .returned v ∧ Q_own_rm42 Z li h0 n0 v U'.heap L ∧ FrameEnd U o U' L R_own_rm42.cells R_own_rm42.slots) := by
  refine MetFree.of_bodySF (plainFor_of_name own_pn16) hisR ?_
  intro p e s m args below meth c s₁ Bd hml0 hP hK
  obtain ⟨rfl, hZ, hh⟩ := hP
  have hx := Bd.exec
  have hby := Bd.bytes
  have hml : c.maxLocals = 1 := hml0
  have hown : s.vm.findClass "com/example/aduana/aduana/core/AccessDecision" = some m.cls := findClass_of_methodNamed Bd.named
  have hnm := (name_of_methodNamed Bd.named Bd.method).1
  have X0 : Stand p l e R_own_rm42 s m #[.ref li] below meth c s₁ [] 0 0 := Stand.of_body Bd
  have e0 : s₁.heap = h0 := by rw [← hh, Bd.state]; rfl
  have N0 := Fr.nil n0
  have K0 : Keep h0 h0 [] := Keep.refl h0 []
  show own_Fin p e below s (Q_own_rm42 Z li h0 n0) R_own_rm42.cells R_own_rm42.slots (s₁.setTop (entryFrame m #[.ref li] 1))
  refine own_go (fun _ k => castTop (ef0 m li) k) ?_
  show own_Fin _ _ _ _ _ _ _ (s₁.setTop (mkF m 0 #[Sr li] []))
  refine own_go (B := s₁.setTop (mkF m 1 #[Sr li] [.ref li])) (fun _ k => XS.aloadN X0.here hx rfl (hb hby d42_0) rfl rfl k) ?_
  obtain ⟨cK, hMd, X1, st1⟩ := own_siteM X0 hx hZ (σ := own_sig) (pc := 1) (index := 93) (fi := 15) Bd.named (hw.w 245 rfl) (by decide) own_cap (hw.w 248 rfl) (g := (mkF m 1 #[Sr li] [.ref li])) rfl rfl (by rw [hml]; rfl) (hb hby d42_1) (vals := [.ref li]) (rest := []) rfl rfl (fun i t v h1 h2 => by cases i with | zero => cases h1; cases h2; exact ⟨rfl, rfl⟩ | succ i => cases h1) (by show 2 * 0 + 1 + 3072 ≤ _; decide) (by decide) (by show 0 + 1 ≤ _; decide)
  obtain ⟨E1, hc1⟩ := own_push e0 (c := { cls := cK, slots := [Value.ref li].toArray, vm := .none })
  obtain ⟨T1, hT1⟩ : ∃ z, z = s₁.pushCell { cls := cK, slots := [Value.ref li].toArray, vm := .none } := ⟨_, rfl⟩
  rw [← hT1] at X1 st1 E1 hc1
  obtain ⟨b1, g1⟩ : ∃ z, z = h0.size := ⟨_, rfl⟩
  rw [e0, ← g1] at st1
  rw [← g1] at hc1
  have sz_b1 : h0.size ≤ b1 := Nat.le_trans K0.1 (Nat.le_of_eq g1.symm)
  have G1 : own_Fn Z T1.heap b1 li := ⟨cK, hMd, hc1⟩
  have X1 : Stand p l e R_own_rm42 s m #[.ref li] below meth c T1 [] 1 1 := X1
  have K3 : Keep h0 T1.heap [] := K0.ext E1
  refine own_go (B := T1.setTop (mkF m 6 #[Sr li] [.ref b1])) (fun _ k => st1 _ k) ?_
  exact own_retA X1 hx Bd.notSynchronized Bd.returns rfl rfl (hb hby d42_6) rfl ⟨b1, rfl, N0, K3, G1, sz_b1⟩ (by decide) (by decide)
abbrev R_own_au312 : Room := ⟨1, 2, 20, 14⟩
theorem d14_0 : own_D cd14 0 (.aload_n 0) 1 := by decide +kernel
theorem d14_1 : own_D cd14 1 (.invokespecial 7) 3 := by decide +kernel
theorem d14_4 : own_D cd14 4 (.aload_n 0) 1 := by decide +kernel
theorem d14_5 : own_D cd14 5 (.aload_n 1) 1 := by decide +kernel
theorem d14_6 : own_D cd14 6 (.ldc 12) 2 := by decide +kernel
theorem d14_8 : own_D cd14 8 (.invokestatic 14) 3 := by decide +kernel
theorem d14_11 : own_D cd14 11 (.checkcast 20) 3 := by decide +kernel
theorem d14_14 : own_D cd14 14 (.putfield 22) 3 := by decide +kernel
theorem d14_17 : own_D cd14 17 (.aload_n 0) 1 := by decide +kernel
theorem d14_18 : own_D cd14 18 (.aload_n 2) 1 := by decide +kernel
theorem d14_19 : own_D cd14 19 (.invokestatic 25) 3 := by decide +kernel
theorem d14_22 : own_D cd14 22 (.putfield 31) 3 := by decide +kernel
theorem d14_25 : own_D cd14 25 (.aload_n 0) 1 := by decide +kernel
theorem d14_26 : own_D cd14 26 (.iload_n 3) 1 := by decide +kernel
theorem d14_27 : own_D cd14 27 (.putfield 35) 3 := by decide +kernel
theorem d14_30 : own_D cd14 30 .return_ 1 := by decide +kernel
theorem ef34 (m : MethodId) (x0 x1 x2 : Addr) : entryFrame m #[(.ref x0), (.ref x1), (.ref x2), (.int 0)] 4 = mkF m 0 #[.val (.ref x0), .val (.ref x1), .val (.ref x2), .val (.int 0)] [] := by first | (simp [entryFrame, mkF, argsToLocals, Value.category]; done) | rfl
def Q_own_au312 (Z : State) (a1 a2 a3 : Addr) (h0 : Heap) (n0 : Nat) (v : Option Value) (h : Heap) (L : List Loc) : Prop := v = none ∧ Fr n0 L ∧ Keep h0 h [a1] ∧ Exa Z h a1 nn8_ ∧ Fld Z h a1 nn8_ "roles" nn13_ (.ref a3)
theorem own_au312 (l : Launch) (Z : State) (a0 : Array Value) (hw : own_HW a0 Z) (ws : List Jvm.Cond) (a1 a2 a3 : Addr) (h0 : Heap) (n0 : Nat) (Z0 : n0 ≤ h0.size) (P_E_a1 : Exa Z h0 a1 nn8_) (P_F_a1_name : Fld Z h0 a1 nn8_ "name" nn11_ .null) (P_F_a1_roles : Fld Z h0 a1 nn8_ "roles" nn13_ .null) (P_F_a1_anonymous : Fld Z h0 a1 nn8_ "anonymous" "Z" (.int 0)) (P_E_a2 : Exa Z h0 a2 nn3_) (P_E_a3 : Exa Z h0 a3 nn1_) (g_a1 : n0 ≤ a1) :
    MetFree l own_y60 (head1 (Jvm.Cond.code own_y60 prog_11_method_2_code 4 none :: ws) R_own_au312) (fun a U => a = #[.ref a1, .ref a2, .ref a3, .int 0] ∧ Z.Warmed39 U.vm ∧ U.heap = h0 ∧ CHv Z own_EL U.vm h0) (fun _ _ _ _ _ => True) (fun _ U o U' => ∃ v L, o = .returned v ∧ Q_own_au312 Z a1 a2 a3 h0 n0 v U'.heap L ∧ CHr Z own_EL U.vm U.heap U'.vm U'.heap ∧ ReturnedEndW U o U' L R_own_au312.cells R_own_au312.slots) := by
  refine MetFree.of_bodySF (plainFor_of_name own_pn12) hisR ?_
  intro p e s m args below meth c s₁ Bd hml0 hP hK
  obtain ⟨rfl, hZ, hh, H0⟩ := hP
  have hx := Bd.exec
  have hby := Bd.bytes
  have hml : c.maxLocals = 4 := hml0
  have hown : s.vm.findClass "com/example/aduana/aduana/core/Authentication" = some m.cls := findClass_of_methodNamed Bd.named
  have hnm := (name_of_methodNamed Bd.named Bd.method).1
  have X0 : Stand p l e R_own_au312 (s.setVm s.vm) m #[.ref a1, .ref a2, .ref a3, .int 0] below meth c s₁ [] 0 0 := Stand.of_body Bd
  have e0 : s₁.heap = h0 := by rw [← hh, Bd.state]; rfl
  have N0 := Fr.nil n0
  have K0 : Keep h0 h0 [a1] := Keep.refl h0 [a1]
  have hEL := own_ELok hw
  have C0 := CHr.refl H0
  have hS : s.Since s.vm h0.size := (State.WarmedH.refl s).since _
  have hk : h0.size ≤ h0.size := Nat.le_refl _
  have hZ : Z.Warmed39 (s.setVm s.vm).vm := hZ
  have hown : (s.setVm s.vm).vm.findClass "com/example/aduana/aduana/core/Authentication" = some m.cls := hown
  have wS : ∀ d ∈ Bundle.stringAtoms, d.before a0 Z = true := fun d hd => hw d (own_strs d hd)
  show own_FinH Z p e below s (Q_own_au312 Z a1 a2 a3 h0 n0) R_own_au312.cells R_own_au312.slots (s₁.setTop (entryFrame m #[.ref a1, .ref a2, .ref a3, .int 0] 4))
  refine own_go (fun _ k => castTop (ef34 m a1 a2 a3) k) ?_
  show own_FinH Z _ _ _ _ _ _ _ (s₁.setTop (mkF m 0 #[Sr a1, Sr a2, Sr a3, Si 0] []))
  refine own_go (B := s₁.setTop (mkF m 1 #[Sr a1, Sr a2, Sr a3, Si 0] [.ref a1])) (fun _ k => XS.aloadN X0.here hx rfl (hb hby d14_0) rfl rfl k) ?_
  refine own_iO X0 hx hZ hown (hw.w 79 rfl) (hw.w 12 rfl) (hw.w 13 rfl) e0 rfl (by rw [hml]; rfl) rfl (hb hby d14_1) (by decide) (W := 0) (by show 2 * 0 + _ ≤ _; exact Nat.le_of_eq rfl) (by decide) fun T1 X1 e1 => ?_
  refine own_go (B := T1.setTop (mkF m 6 #[Sr a1, Sr a2, Sr a3, Si 0] [.ref a2, .ref a1])) (fun _ k => XS.aloadN X1.here hx rfl (hb hby d14_4) rfl rfl (XS.aloadN X1.here hx rfl (hb hby d14_5) rfl rfl k)) ?_
  obtain ⟨as2, T2, h2, kk2, X2, e2, E2, hS, hk, hZ, hown, hC2, -, st2⟩ := ldcOH X1 hx hZ hown (hw.w 80 rfl) wS e1 hS hk hEL C0.1 (g := (mkF m 6 #[Sr a1, Sr a2, Sr a3, Si 0] [.ref a2, .ref a1])) rfl (hb hby d14_6) (n := 16) (by decide +kernel) (by decide) (by decide) (by decide)
  have E_4 := P_E_a1.ext E2
  have F_5 := P_F_a1_name.ext E2
  have F_6 := P_F_a1_roles.ext E2
  have F_7 := P_F_a1_anonymous.ext E2
  have E_8 := P_E_a2.ext E2
  have E_9 := P_E_a3.ext E2
  have C10 := CHr.trans C0 hC2
  have K11 : Keep h0 h2 [a1] := K0.ext E2
  refine own_go (B := T2.setTop (mkF m 8 #[Sr a1, Sr a2, Sr a3, Si 0] [.ref as2, .ref a2, .ref a1])) (fun _ k => st2 _ k) ?_
  refine own_cS (own_rm15 l Z a0 hw [] a2 as2 h2 n0 (Nat.le_trans Z0 K11.1) ) X2 hx hZ hown (hw.w 83 rfl) (hw.w 84 rfl) (hw.w 62 rfl) (hw.w 85 rfl) e2 rfl rfl (by rw [hml]; rfl) (rest := [.ref a1]) (lenOf own_pd30 rfl) rfl (hb hby d14_8) (W := 1) (show 2 * 0 + _ = _ from rfl) (by decide) (by decide) ?_
  rintro _ T12 L12 X12 ⟨rfl, N12q, e12⟩
  have N12 := Fr.app N0 N12q
  refine own_go (B := T12.setTop (mkF m 11 #[Sr a1, Sr a2, Sr a3, Si 0] [.ref a2, .ref a1])) (fun _ k => k) ?_
  refine own_cY X12 hx hZ hown (hw.w 86 rfl) e12 (Ins.self E_8) rfl rfl (hb hby d14_11) fun T13 X13 e13 => ?_
  refine own_go (B := T13.setTop (mkF m 14 #[Sr a1, Sr a2, Sr a3, Si 0] [.ref a2, .ref a1])) (fun _ k => k) ?_
  refine own_pF X13 hx hZ hown (hw.w 87 rfl) Via.refl e13 F_5 E_4 (Or.inr ⟨(hw.w 88 rfl), rfl, hnm⟩) (hw.w 71 rfl) (ty := (.object "java/lang/String")) (v := (.ref a2)) (by decide) rfl rfl rfl rfl (hb hby d14_14) fun T14 h14 X14 e14 W14 => ?_
  have E_16 := E_4.wr W14
  have F_18 := F_6.other W14 (Or.inr (slot_ne (Or.inr (hw.w 96 rfl)) (Or.inr (hw.w 88 rfl)) (by decide) (t := (.object "java/util/Set")) (t' := (.object "java/lang/String")) (by decide) (by decide)))
  have F_19 := F_7.other W14 (Or.inr (slot_ne (Or.inr (hw.w 98 rfl)) (Or.inr (hw.w 88 rfl)) (by decide) (t := .boolean) (t' := (.object "java/lang/String")) (by decide) (by decide)))
  have E_21 := E_9.wr W14
  have hk := Nat.le_trans hk (Keep.of_wr W14).1
  have C22 := CHr.trans C10 (CHr.wr W14 (Safe.exa hZ.alike E_4 (by decide) (by decide)) C10.1)
  have K23 : Keep h0 h14 [a1] := K11.wr W14 (Or.inl (List.mem_of_getElem? (i := 0) rfl))
  have N14 := Fr.snoc X14 N12 g_a1
  refine own_go (B := T14.setTop (mkF m 19 #[Sr a1, Sr a2, Sr a3, Si 0] [.ref a3, .ref a1])) (fun _ k => XS.aloadN X14.here hx rfl (hb hby d14_17) rfl rfl (XS.aloadN X14.here hx rfl (hb hby d14_18) rfl rfl k)) ?_
  refine own_cS (own_copy12 l Z a0 hw [] a3 h14 n0 (Nat.le_trans Z0 K23.1) E_21) X14 hx hZ hown (hw.w 89 rfl) (hw.w 90 rfl) (hw.w 32 rfl) (hw.w 91 rfl) e14 rfl rfl (by rw [hml]; rfl) (rest := [.ref a1]) (lenOf own_pd31 rfl) rfl (hb hby d14_19) (W := 1) (show 2 * 0 + _ = _ from rfl) (by decide) (by decide) ?_
  rintro _ T24 L24 X24 ⟨rfl, N24q, e24⟩
  have N24 := Fr.app N14 N24q
  refine own_go (B := T24.setTop (mkF m 22 #[Sr a1, Sr a2, Sr a3, Si 0] [.ref a3, .ref a1])) (fun _ k => k) ?_
  refine own_pF X24 hx hZ hown (hw.w 95 rfl) Via.refl e24 F_18 E_16 (Or.inr ⟨(hw.w 96 rfl), rfl, hnm⟩) (hw.w 71 rfl) (ty := (.object "java/util/Set")) (v := (.ref a3)) (by decide) rfl rfl rfl rfl (hb hby d14_22) fun T25 h25 X25 e25 W25 => ?_
  have F_w25 : Fld Z h25 a1 nn8_ "roles" nn13_ (.ref a3) := F_18.same W25
  have E_27 := E_16.wr W25
  have F_29 := F_19.other W25 (Or.inr (slot_ne (Or.inr (hw.w 98 rfl)) (Or.inr (hw.w 96 rfl)) (by decide) (t := .boolean) (t' := (.object "java/util/Set")) (by decide) (by decide)))
  have hk := Nat.le_trans hk (Keep.of_wr W25).1
  have C33 := CHr.trans C22 (CHr.wr W25 (Safe.exa hZ.alike E_16 (by decide) (by decide)) C22.1)
  have K34 : Keep h0 h25 [a1] := K23.wr W25 (Or.inl (List.mem_of_getElem? (i := 0) rfl))
  have N25 := Fr.snoc X25 N24 g_a1
  refine own_go (B := T25.setTop (mkF m 27 #[Sr a1, Sr a2, Sr a3, Si 0] [.int 0, .ref a1])) (fun _ k => XS.aloadN X25.here hx rfl (hb hby d14_25) rfl rfl (XS.iloadN X25.here hx rfl (hb hby d14_26) rfl  k)) ?_
  refine own_pN X25 hx hZ hown (hw.w 97 rfl) Via.refl e25 F_29 E_27 (Or.inr ⟨(hw.w 98 rfl), rfl, hnm⟩) (hw.w 71 rfl) (ty := .boolean) (v := (.int 0)) (v' := (.int 0)) (by decide) rfl rfl rfl rfl (hb hby d14_27) fun T35 h35 X35 e35 W35 => ?_
  have E_37 := E_27.wr W35
  have F_42 := F_w25.other W35 (Or.inr (slot_ne (Or.inr (hw.w 96 rfl)) (Or.inr (hw.w 98 rfl)) (by decide) (t := (.object "java/util/Set")) (t' := .boolean) (by decide) (by decide)))
  have hk := Nat.le_trans hk (Keep.of_wr W35).1
  have C43 := CHr.trans C33 (CHr.wr W35 (Safe.exa hZ.alike E_27 (by decide) (by decide)) C33.1)
  have K44 : Keep h0 h35 [a1] := K34.wr W35 (Or.inl (List.mem_of_getElem? (i := 0) rfl))
  have N35 := Fr.snoc X35 N25 g_a1
  refine own_go (B := T35.setTop (mkF m 30 #[Sr a1, Sr a2, Sr a3, Si 0] [])) (fun _ k => k) ?_
  exact own_retVH X35 hx hS Bd.notSynchronized hEL hZ hh C43 Bd.returns (hb hby d14_30) e35 hk ⟨rfl, N35, K44, E_37, F_42⟩ (by decide) (by decide)
abbrev R_own_au212 : Room := ⟨2, 2, 20, 29⟩
theorem d13_0 : own_D cd13 0 (.aload_n 0) 1 := by decide +kernel
theorem d13_1 : own_D cd13 1 (.aload_n 1) 1 := by decide +kernel
theorem d13_2 : own_D cd13 2 (.aload_n 2) 1 := by decide +kernel
theorem d13_3 : own_D cd13 3 (.iconst 0) 1 := by decide +kernel
theorem d13_4 : own_D cd13 4 (.invokespecial 1) 3 := by decide +kernel
theorem d13_7 : own_D cd13 7 .return_ 1 := by decide +kernel
def Q_own_au212 (Z : State) (a1 a2 a3 : Addr) (h0 : Heap) (n0 : Nat) (v : Option Value) (h : Heap) (L : List Loc) : Prop := v = none ∧ Fr n0 L ∧ Keep h0 h [a1] ∧ Exa Z h a1 nn8_ ∧ Fld Z h a1 nn8_ "roles" nn13_ (.ref a3)
theorem own_au212 (l : Launch) (Z : State) (a0 : Array Value) (hw : own_HW a0 Z) (ws : List Jvm.Cond) (a1 a2 a3 : Addr) (h0 : Heap) (n0 : Nat) (Z0 : n0 ≤ h0.size) (P_E_a1 : Exa Z h0 a1 nn8_) (P_F_a1_name : Fld Z h0 a1 nn8_ "name" nn11_ .null) (P_F_a1_roles : Fld Z h0 a1 nn8_ "roles" nn13_ .null) (P_F_a1_anonymous : Fld Z h0 a1 nn8_ "anonymous" "Z" (.int 0)) (P_E_a2 : Exa Z h0 a2 nn3_) (P_E_a3 : Exa Z h0 a3 nn1_) (g_a1 : n0 ≤ a1) :
    MetFree l own_y61 (head1 (Jvm.Cond.code own_y61 prog_11_method_1_code 3 none :: ws) R_own_au212) (fun a U => a = #[.ref a1, .ref a2, .ref a3] ∧ Z.Warmed39 U.vm ∧ U.heap = h0 ∧ CHv Z own_EL U.vm h0) (fun _ _ _ _ _ => True) (fun _ U o U' => ∃ v L, o = .returned v ∧ Q_own_au212 Z a1 a2 a3 h0 n0 v U'.heap L ∧ CHr Z own_EL U.vm U.heap U'.vm U'.heap ∧ ReturnedEndW U o U' L R_own_au212.cells R_own_au212.slots) := by
  refine MetFree.of_bodySF (plainFor_of_name own_pn12) hisR ?_
  intro p e s m args below meth c s₁ Bd hml0 hP hK
  obtain ⟨rfl, hZ, hh, H0⟩ := hP
  have hx := Bd.exec
  have hby := Bd.bytes
  have hml : c.maxLocals = 3 := hml0
  have hown : s.vm.findClass "com/example/aduana/aduana/core/Authentication" = some m.cls := findClass_of_methodNamed Bd.named
  have hnm := (name_of_methodNamed Bd.named Bd.method).1
  have X0 : Stand p l e R_own_au212 (s.setVm s.vm) m #[.ref a1, .ref a2, .ref a3] below meth c s₁ [] 0 0 := Stand.of_body Bd
  have e0 : s₁.heap = h0 := by rw [← hh, Bd.state]; rfl
  have N0 := Fr.nil n0
  have K0 : Keep h0 h0 [a1] := Keep.refl h0 [a1]
  have hEL := own_ELok hw
  have C0 := CHr.refl H0
  have hS : s.Since s.vm h0.size := (State.WarmedH.refl s).since _
  have hk : h0.size ≤ h0.size := Nat.le_refl _
  have hZ : Z.Warmed39 (s.setVm s.vm).vm := hZ
  have hown : (s.setVm s.vm).vm.findClass "com/example/aduana/aduana/core/Authentication" = some m.cls := hown
  have wS : ∀ d ∈ Bundle.stringAtoms, d.before a0 Z = true := fun d hd => hw d (own_strs d hd)
  show own_FinH Z p e below s (Q_own_au212 Z a1 a2 a3 h0 n0) R_own_au212.cells R_own_au212.slots (s₁.setTop (entryFrame m #[.ref a1, .ref a2, .ref a3] 3))
  refine own_go (fun _ k => castTop (ef11 m a1 a2 a3) k) ?_
  show own_FinH Z _ _ _ _ _ _ _ (s₁.setTop (mkF m 0 #[Sr a1, Sr a2, Sr a3] []))
  refine own_go (B := s₁.setTop (mkF m 4 #[Sr a1, Sr a2, Sr a3] [.int 0, .ref a3, .ref a2, .ref a1])) (fun _ k => XS.aloadN X0.here hx rfl (hb hby d13_0) rfl rfl (XS.aloadN X0.here hx rfl (hb hby d13_1) rfl rfl (XS.aloadN X0.here hx rfl (hb hby d13_2) rfl rfl (XS.iconst X0.here hx rfl (hb hby d13_3) k)))) ?_
  obtain ⟨_, _, ⟨T1, L1, k1, n1⟩, -, X1, hS1, hg1, ⟨Lc1, hQ1, l1, y1, z1, hC1⟩, st1⟩ := X0.specialBackS hx (y := own_y60) rfl hown (mvT hZ (hw.w 76 rfl)) (mvT hZ (hw.w 77 rfl)) (mvT hZ (hw.w 78 rfl)) (by decide) (backOfSH (W := 0) (own_au312 l Z a0 hw [] a1 a2 a3 h0 n0 (Nat.le_trans Z0 K0.1) P_E_a1 P_F_a1_name P_F_a1_roles P_F_a1_anonymous P_E_a2 P_E_a3 g_a1) hZ (hw.w 78 rfl) (hw.w 72 rfl) (by decide) (by decide) hEL C0.1) (g := (mkF m 4 #[Sr a1, Sr a2, Sr a3] [.int 0, .ref a3, .ref a2, .ref a1])) rfl (by rw [hml]; rfl) (Steps.refl _) (a := a1) (argsL := [.ref a2, .ref a3, .int 0]) (rest := []) (lenOf own_pd32 rfl) rfl (by show 2 * 0 + _ ≤ _; exact Nat.le_of_eq rfl) (hb hby d13_4) (fun _ _ => ⟨rfl, e0, (by decide : 0 + 2 ≤ _), (by decide : 0 + 20 ≤ _)⟩)
  dsimp only [Pt.U, Pt.locs, Pt.cells, Pt.slots] at X1 l1 y1 z1 st1 hQ1 hS1 hg1 hC1
  subst l1 y1 z1
  obtain ⟨X1, hS, hZ, hown⟩ := rebS hS (show _ ≤ s₁.heap.size by rw [e0]; exact hk) X1 hS1 hg1 hZ hown
  have hk : T1.heap.size ≤ T1.heap.size := Nat.le_refl _
  obtain ⟨rfl, N1q, K1q, Q1_0, Q1_1⟩ := hQ1
  have N1 := Fr.app N0 N1q
  have C9 := CHr.trans C0 hC1
  have K10 : Keep h0 T1.heap [a1] := K0.trans K1q (allS (Or.inl (List.mem_of_getElem? (i := 0) rfl)) all0)
  refine own_go (B := T1.setTop (mkF m 7 #[Sr a1, Sr a2, Sr a3] [])) (fun _ k => st1.trans k) ?_
  exact own_retVH X1 hx hS Bd.notSynchronized hEL hZ hh C9 Bd.returns (hb hby d13_7) rfl hk ⟨rfl, N1, K10, Q1_0, Q1_1⟩ (by decide) (by decide)
abbrev R_own_au3N : Room := ⟨1, 2, 20, 14⟩
def Q_own_au3N (Z : State) (a1 a2 a3 : Addr) (h0 : Heap) (n0 : Nat) (v : Option Value) (h : Heap) (L : List Loc) : Prop := v = none ∧ Fr n0 L ∧ Keep h0 h [a1] ∧ Exa Z h a1 nn8_ ∧ Fld Z h a1 nn8_ "roles" nn13_ (.ref a3)
theorem own_au3N (l : Launch) (Z : State) (a0 : Array Value) (hw : own_HW a0 Z) (ws : List Jvm.Cond) (a1 a2 a3 : Addr) (h0 : Heap) (n0 : Nat) (Z0 : n0 ≤ h0.size) (P_E_a1 : Exa Z h0 a1 nn8_) (P_F_a1_name : Fld Z h0 a1 nn8_ "name" nn11_ .null) (P_F_a1_roles : Fld Z h0 a1 nn8_ "roles" nn13_ .null) (P_F_a1_anonymous : Fld Z h0 a1 nn8_ "anonymous" "Z" (.int 0)) (P_E_a2 : Exa Z h0 a2 nn3_) (P_E_a3 : Exa Z h0 a3 nn4_) (g_a1 : n0 ≤ a1) :
    MetFree l own_y60 (head1 (Jvm.Cond.code own_y60 prog_11_method_2_code 4 none :: ws) R_own_au3N) (fun a U => a = #[.ref a1, .ref a2, .ref a3, .int 0] ∧ Z.Warmed39 U.vm ∧ U.heap = h0 ∧ CHv Z own_EL U.vm h0) (fun _ _ _ _ _ => True) (fun _ U o U' => ∃ v L, o = .returned v ∧ Q_own_au3N Z a1 a2 a3 h0 n0 v U'.heap L ∧ CHr Z own_EL U.vm U.heap U'.vm U'.heap ∧ ReturnedEndW U o U' L R_own_au3N.cells R_own_au3N.slots) := by
  refine MetFree.of_bodySF (plainFor_of_name own_pn12) hisR ?_
  intro p e s m args below meth c s₁ Bd hml0 hP hK
  obtain ⟨rfl, hZ, hh, H0⟩ := hP
  have hx := Bd.exec
  have hby := Bd.bytes
  have hml : c.maxLocals = 4 := hml0
  have hown : s.vm.findClass "com/example/aduana/aduana/core/Authentication" = some m.cls := findClass_of_methodNamed Bd.named
  have hnm := (name_of_methodNamed Bd.named Bd.method).1
  have X0 : Stand p l e R_own_au3N (s.setVm s.vm) m #[.ref a1, .ref a2, .ref a3, .int 0] below meth c s₁ [] 0 0 := Stand.of_body Bd
  have e0 : s₁.heap = h0 := by rw [← hh, Bd.state]; rfl
  have N0 := Fr.nil n0
  have K0 : Keep h0 h0 [a1] := Keep.refl h0 [a1]
  have hEL := own_ELok hw
  have C0 := CHr.refl H0
  have hS : s.Since s.vm h0.size := (State.WarmedH.refl s).since _
  have hk : h0.size ≤ h0.size := Nat.le_refl _
  have hZ : Z.Warmed39 (s.setVm s.vm).vm := hZ
  have hown : (s.setVm s.vm).vm.findClass "com/example/aduana/aduana/core/Authentication" = some m.cls := hown
  have wS : ∀ d ∈ Bundle.stringAtoms, d.before a0 Z = true := fun d hd => hw d (own_strs d hd)
  show own_FinH Z p e below s (Q_own_au3N Z a1 a2 a3 h0 n0) R_own_au3N.cells R_own_au3N.slots (s₁.setTop (entryFrame m #[.ref a1, .ref a2, .ref a3, .int 0] 4))
  refine own_go (fun _ k => castTop (ef34 m a1 a2 a3) k) ?_
  show own_FinH Z _ _ _ _ _ _ _ (s₁.setTop (mkF m 0 #[Sr a1, Sr a2, Sr a3, Si 0] []))
  refine own_go (B := s₁.setTop (mkF m 1 #[Sr a1, Sr a2, Sr a3, Si 0] [.ref a1])) (fun _ k => XS.aloadN X0.here hx rfl (hb hby d14_0) rfl rfl k) ?_
  refine own_iO X0 hx hZ hown (hw.w 79 rfl) (hw.w 12 rfl) (hw.w 13 rfl) e0 rfl (by rw [hml]; rfl) rfl (hb hby d14_1) (by decide) (W := 0) (by show 2 * 0 + _ ≤ _; exact Nat.le_of_eq rfl) (by decide) fun T1 X1 e1 => ?_
  refine own_go (B := T1.setTop (mkF m 6 #[Sr a1, Sr a2, Sr a3, Si 0] [.ref a2, .ref a1])) (fun _ k => XS.aloadN X1.here hx rfl (hb hby d14_4) rfl rfl (XS.aloadN X1.here hx rfl (hb hby d14_5) rfl rfl k)) ?_
  obtain ⟨as2, T2, h2, kk2, X2, e2, E2, hS, hk, hZ, hown, hC2, -, st2⟩ := ldcOH X1 hx hZ hown (hw.w 80 rfl) wS e1 hS hk hEL C0.1 (g := (mkF m 6 #[Sr a1, Sr a2, Sr a3, Si 0] [.ref a2, .ref a1])) rfl (hb hby d14_6) (n := 16) (by decide +kernel) (by decide) (by decide) (by decide)
  have E_4 := P_E_a1.ext E2
  have F_5 := P_F_a1_name.ext E2
  have F_6 := P_F_a1_roles.ext E2
  have F_7 := P_F_a1_anonymous.ext E2
  have E_8 := P_E_a2.ext E2
  have E_9 := P_E_a3.ext E2
  have C10 := CHr.trans C0 hC2
  have K11 : Keep h0 h2 [a1] := K0.ext E2
  refine own_go (B := T2.setTop (mkF m 8 #[Sr a1, Sr a2, Sr a3, Si 0] [.ref as2, .ref a2, .ref a1])) (fun _ k => st2 _ k) ?_
  refine own_cS (own_rm15 l Z a0 hw [] a2 as2 h2 n0 (Nat.le_trans Z0 K11.1) ) X2 hx hZ hown (hw.w 83 rfl) (hw.w 84 rfl) (hw.w 62 rfl) (hw.w 85 rfl) e2 rfl rfl (by rw [hml]; rfl) (rest := [.ref a1]) (lenOf own_pd30 rfl) rfl (hb hby d14_8) (W := 1) (show 2 * 0 + _ = _ from rfl) (by decide) (by decide) ?_
  rintro _ T12 L12 X12 ⟨rfl, N12q, e12⟩
  have N12 := Fr.app N0 N12q
  refine own_go (B := T12.setTop (mkF m 11 #[Sr a1, Sr a2, Sr a3, Si 0] [.ref a2, .ref a1])) (fun _ k => k) ?_
  refine own_cY X12 hx hZ hown (hw.w 86 rfl) e12 (Ins.self E_8) rfl rfl (hb hby d14_11) fun T13 X13 e13 => ?_
  refine own_go (B := T13.setTop (mkF m 14 #[Sr a1, Sr a2, Sr a3, Si 0] [.ref a2, .ref a1])) (fun _ k => k) ?_
  refine own_pF X13 hx hZ hown (hw.w 87 rfl) Via.refl e13 F_5 E_4 (Or.inr ⟨(hw.w 88 rfl), rfl, hnm⟩) (hw.w 71 rfl) (ty := (.object "java/lang/String")) (v := (.ref a2)) (by decide) rfl rfl rfl rfl (hb hby d14_14) fun T14 h14 X14 e14 W14 => ?_
  have E_16 := E_4.wr W14
  have F_18 := F_6.other W14 (Or.inr (slot_ne (Or.inr (hw.w 96 rfl)) (Or.inr (hw.w 88 rfl)) (by decide) (t := (.object "java/util/Set")) (t' := (.object "java/lang/String")) (by decide) (by decide)))
  have F_19 := F_7.other W14 (Or.inr (slot_ne (Or.inr (hw.w 98 rfl)) (Or.inr (hw.w 88 rfl)) (by decide) (t := .boolean) (t' := (.object "java/lang/String")) (by decide) (by decide)))
  have E_21 := E_9.wr W14
  have hk := Nat.le_trans hk (Keep.of_wr W14).1
  have C22 := CHr.trans C10 (CHr.wr W14 (Safe.exa hZ.alike E_4 (by decide) (by decide)) C10.1)
  have K23 : Keep h0 h14 [a1] := K11.wr W14 (Or.inl (List.mem_of_getElem? (i := 0) rfl))
  have N14 := Fr.snoc X14 N12 g_a1
  refine own_go (B := T14.setTop (mkF m 19 #[Sr a1, Sr a2, Sr a3, Si 0] [.ref a3, .ref a1])) (fun _ k => XS.aloadN X14.here hx rfl (hb hby d14_17) rfl rfl (XS.aloadN X14.here hx rfl (hb hby d14_18) rfl rfl k)) ?_
  refine own_cS (own_copyN l Z a0 hw [] a3 h14 n0 (Nat.le_trans Z0 K23.1) E_21) X14 hx hZ hown (hw.w 89 rfl) (hw.w 90 rfl) (hw.w 32 rfl) (hw.w 91 rfl) e14 rfl rfl (by rw [hml]; rfl) (rest := [.ref a1]) (lenOf own_pd31 rfl) rfl (hb hby d14_19) (W := 1) (show 2 * 0 + _ = _ from rfl) (by decide) (by decide) ?_
  rintro _ T24 L24 X24 ⟨rfl, N24q, e24⟩
  have N24 := Fr.app N14 N24q
  refine own_go (B := T24.setTop (mkF m 22 #[Sr a1, Sr a2, Sr a3, Si 0] [.ref a3, .ref a1])) (fun _ k => k) ?_
  refine own_pF X24 hx hZ hown (hw.w 95 rfl) Via.refl e24 F_18 E_16 (Or.inr ⟨(hw.w 96 rfl), rfl, hnm⟩) (hw.w 71 rfl) (ty := (.object "java/util/Set")) (v := (.ref a3)) (by decide) rfl rfl rfl rfl (hb hby d14_22) fun T25 h25 X25 e25 W25 => ?_
  have F_w25 : Fld Z h25 a1 nn8_ "roles" nn13_ (.ref a3) := F_18.same W25
  have E_27 := E_16.wr W25
  have F_29 := F_19.other W25 (Or.inr (slot_ne (Or.inr (hw.w 98 rfl)) (Or.inr (hw.w 96 rfl)) (by decide) (t := .boolean) (t' := (.object "java/util/Set")) (by decide) (by decide)))
  have hk := Nat.le_trans hk (Keep.of_wr W25).1
  have C33 := CHr.trans C22 (CHr.wr W25 (Safe.exa hZ.alike E_16 (by decide) (by decide)) C22.1)
  have K34 : Keep h0 h25 [a1] := K23.wr W25 (Or.inl (List.mem_of_getElem? (i := 0) rfl))
  have N25 := Fr.snoc X25 N24 g_a1
  refine own_go (B := T25.setTop (mkF m 27 #[Sr a1, Sr a2, Sr a3, Si 0] [.int 0, .ref a1])) (fun _ k => XS.aloadN X25.here hx rfl (hb hby d14_25) rfl rfl (XS.iloadN X25.here hx rfl (hb hby d14_26) rfl  k)) ?_
  refine own_pN X25 hx hZ hown (hw.w 97 rfl) Via.refl e25 F_29 E_27 (Or.inr ⟨(hw.w 98 rfl), rfl, hnm⟩) (hw.w 71 rfl) (ty := .boolean) (v := (.int 0)) (v' := (.int 0)) (by decide) rfl rfl rfl rfl (hb hby d14_27) fun T35 h35 X35 e35 W35 => ?_
  have E_37 := E_27.wr W35
  have F_42 := F_w25.other W35 (Or.inr (slot_ne (Or.inr (hw.w 96 rfl)) (Or.inr (hw.w 98 rfl)) (by decide) (t := (.object "java/util/Set")) (t' := .boolean) (by decide) (by decide)))
  have hk := Nat.le_trans hk (Keep.of_wr W35).1
  have C43 := CHr.trans C33 (CHr.wr W35 (Safe.exa hZ.alike E_27 (by decide) (by decide)) C33.1)
  have K44 : Keep h0 h35 [a1] := K34.wr W35 (Or.inl (List.mem_of_getElem? (i := 0) rfl))
  have N35 := Fr.snoc X35 N25 g_a1
  refine own_go (B := T35.setTop (mkF m 30 #[Sr a1, Sr a2, Sr a3, Si 0] [])) (fun _ k => k) ?_
  exact own_retVH X35 hx hS Bd.notSynchronized hEL hZ hh C43 Bd.returns (hb hby d14_30) e35 hk ⟨rfl, N35, K44, E_37, F_42⟩ (by decide) (by decide)
abbrev R_own_au2N : Room := ⟨2, 2, 20, 29⟩
def Q_own_au2N (Z : State) (a1 a2 a3 : Addr) (h0 : Heap) (n0 : Nat) (v : Option Value) (h : Heap) (L : List Loc) : Prop := v = none ∧ Fr n0 L ∧ Keep h0 h [a1] ∧ Exa Z h a1 nn8_ ∧ Fld Z h a1 nn8_ "roles" nn13_ (.ref a3)
theorem own_au2N (l : Launch) (Z : State) (a0 : Array Value) (hw : own_HW a0 Z) (ws : List Jvm.Cond) (a1 a2 a3 : Addr) (h0 : Heap) (n0 : Nat) (Z0 : n0 ≤ h0.size) (P_E_a1 : Exa Z h0 a1 nn8_) (P_F_a1_name : Fld Z h0 a1 nn8_ "name" nn11_ .null) (P_F_a1_roles : Fld Z h0 a1 nn8_ "roles" nn13_ .null) (P_F_a1_anonymous : Fld Z h0 a1 nn8_ "anonymous" "Z" (.int 0)) (P_E_a2 : Exa Z h0 a2 nn3_) (P_E_a3 : Exa Z h0 a3 nn4_) (g_a1 : n0 ≤ a1) :
    MetFree l own_y61 (head1 (Jvm.Cond.code own_y61 prog_11_method_1_code 3 none :: ws) R_own_au2N) (fun a U => a = #[.ref a1, .ref a2, .ref a3] ∧ Z.Warmed39 U.vm ∧ U.heap = h0 ∧ CHv Z own_EL U.vm h0) (fun _ _ _ _ _ => True) (fun _ U o U' => ∃ v L, o = .returned v ∧ Q_own_au2N Z a1 a2 a3 h0 n0 v U'.heap L ∧ CHr Z own_EL U.vm U.heap U'.vm U'.heap ∧ ReturnedEndW U o U' L R_own_au2N.cells R_own_au2N.slots) := by
  refine MetFree.of_bodySF (plainFor_of_name own_pn12) hisR ?_
  intro p e s m args below meth c s₁ Bd hml0 hP hK
  obtain ⟨rfl, hZ, hh, H0⟩ := hP
  have hx := Bd.exec
  have hby := Bd.bytes
  have hml : c.maxLocals = 3 := hml0
  have hown : s.vm.findClass "com/example/aduana/aduana/core/Authentication" = some m.cls := findClass_of_methodNamed Bd.named
  have hnm := (name_of_methodNamed Bd.named Bd.method).1
  have X0 : Stand p l e R_own_au2N (s.setVm s.vm) m #[.ref a1, .ref a2, .ref a3] below meth c s₁ [] 0 0 := Stand.of_body Bd
  have e0 : s₁.heap = h0 := by rw [← hh, Bd.state]; rfl
  have N0 := Fr.nil n0
  have K0 : Keep h0 h0 [a1] := Keep.refl h0 [a1]
  have hEL := own_ELok hw
  have C0 := CHr.refl H0
  have hS : s.Since s.vm h0.size := (State.WarmedH.refl s).since _
  have hk : h0.size ≤ h0.size := Nat.le_refl _
  have hZ : Z.Warmed39 (s.setVm s.vm).vm := hZ
  have hown : (s.setVm s.vm).vm.findClass "com/example/aduana/aduana/core/Authentication" = some m.cls := hown
  have wS : ∀ d ∈ Bundle.stringAtoms, d.before a0 Z = true := fun d hd => hw d (own_strs d hd)
  show own_FinH Z p e below s (Q_own_au2N Z a1 a2 a3 h0 n0) R_own_au2N.cells R_own_au2N.slots (s₁.setTop (entryFrame m #[.ref a1, .ref a2, .ref a3] 3))
  refine own_go (fun _ k => castTop (ef11 m a1 a2 a3) k) ?_
  show own_FinH Z _ _ _ _ _ _ _ (s₁.setTop (mkF m 0 #[Sr a1, Sr a2, Sr a3] []))
  refine own_go (B := s₁.setTop (mkF m 4 #[Sr a1, Sr a2, Sr a3] [.int 0, .ref a3, .ref a2, .ref a1])) (fun _ k => XS.aloadN X0.here hx rfl (hb hby d13_0) rfl rfl (XS.aloadN X0.here hx rfl (hb hby d13_1) rfl rfl (XS.aloadN X0.here hx rfl (hb hby d13_2) rfl rfl (XS.iconst X0.here hx rfl (hb hby d13_3) k)))) ?_
  obtain ⟨_, _, ⟨T1, L1, k1, n1⟩, -, X1, hS1, hg1, ⟨Lc1, hQ1, l1, y1, z1, hC1⟩, st1⟩ := X0.specialBackS hx (y := own_y60) rfl hown (mvT hZ (hw.w 76 rfl)) (mvT hZ (hw.w 77 rfl)) (mvT hZ (hw.w 78 rfl)) (by decide) (backOfSH (W := 0) (own_au3N l Z a0 hw [] a1 a2 a3 h0 n0 (Nat.le_trans Z0 K0.1) P_E_a1 P_F_a1_name P_F_a1_roles P_F_a1_anonymous P_E_a2 P_E_a3 g_a1) hZ (hw.w 78 rfl) (hw.w 72 rfl) (by decide) (by decide) hEL C0.1) (g := (mkF m 4 #[Sr a1, Sr a2, Sr a3] [.int 0, .ref a3, .ref a2, .ref a1])) rfl (by rw [hml]; rfl) (Steps.refl _) (a := a1) (argsL := [.ref a2, .ref a3, .int 0]) (rest := []) (lenOf own_pd32 rfl) rfl (by show 2 * 0 + _ ≤ _; exact Nat.le_of_eq rfl) (hb hby d13_4) (fun _ _ => ⟨rfl, e0, (by decide : 0 + 2 ≤ _), (by decide : 0 + 20 ≤ _)⟩)
  dsimp only [Pt.U, Pt.locs, Pt.cells, Pt.slots] at X1 l1 y1 z1 st1 hQ1 hS1 hg1 hC1
  subst l1 y1 z1
  obtain ⟨X1, hS, hZ, hown⟩ := rebS hS (show _ ≤ s₁.heap.size by rw [e0]; exact hk) X1 hS1 hg1 hZ hown
  have hk : T1.heap.size ≤ T1.heap.size := Nat.le_refl _
  obtain ⟨rfl, N1q, K1q, Q1_0, Q1_1⟩ := hQ1
  have N1 := Fr.app N0 N1q
  have C9 := CHr.trans C0 hC1
  have K10 : Keep h0 T1.heap [a1] := K0.trans K1q (allS (Or.inl (List.mem_of_getElem? (i := 0) rfl)) all0)
  refine own_go (B := T1.setTop (mkF m 7 #[Sr a1, Sr a2, Sr a3] [])) (fun _ k => st1.trans k) ?_
  exact own_retVH X1 hx hS Bd.notSynchronized hEL hZ hh C9 Bd.returns (hb hby d13_7) rfl hk ⟨rfl, N1, K10, Q1_0, Q1_1⟩ (by decide) (by decide)
abbrev R_own_has1 : Room := ⟨6, 9, 79, 3088⟩
theorem d17_0 : own_D cd17 0 (.new 8) 3 := by decide +kernel
theorem d17_3 : own_D cd17 3 .dup 1 := by decide +kernel
theorem d17_4 : own_D cd17 4 (.new 27) 3 := by decide +kernel
theorem d17_7 : own_D cd17 7 .dup 1 := by decide +kernel
theorem d17_8 : own_D cd17 8 (.invokespecial 29) 3 := by decide +kernel
theorem d17_11 : own_D cd17 11 (.ldc 30) 2 := by decide +kernel
theorem d17_13 : own_D cd17 13 (.invokevirtual 32) 3 := by decide +kernel
theorem d17_16 : own_D cd17 16 (.aload_n 0) 1 := by decide +kernel
theorem d17_17 : own_D cd17 17 (.invokevirtual 32) 3 := by decide +kernel
theorem d17_20 : own_D cd17 20 (.invokevirtual 36) 3 := by decide +kernel
theorem d17_23 : own_D cd17 23 (.aload_n 0) 1 := by decide +kernel
theorem d17_24 : own_D cd17 24 (.invokestatic 40) 3 := by decide +kernel
theorem d17_27 : own_D cd17 27 (.invokestatic 46) 3 := by decide +kernel
theorem d17_30 : own_D cd17 30 (.invokespecial 50) 3 := by decide +kernel
theorem d17_33 : own_D cd17 33 .areturn 1 := by decide +kernel
def Q_own_has1 (Z : State) (ro tr : Addr) (kr : ClassId) (x0 cs : Int32) (em : Addr) (h0 : Heap) (n0 : Nat) (v : Option Value) (h : Heap) (L : List Loc) : Prop := ∃ b : Addr, ∃ d : Addr, ∃ td : Addr, ∃ kd : ClassId, ∃ q : Addr, ∃ li : Addr, v = some (.ref b) ∧ Fr n0 L ∧ Keep h0 h [] ∧ Exa Z h b nn6_ ∧ Fld Z h b nn6_ "description" nn11_ (.ref d) ∧ Fld Z h b nn6_ "grants" nn12_ (.ref q) ∧ Exa Z h d nn3_ ∧ Fld Z h d nn3_ "value" "[B" (.ref td) ∧ Fld Z h d nn3_ "coder" "B" (.int 0) ∧ Arv Z h td kd .byte 10 [.int 104, .int 97, .int 115, .int 32, .int 114, .int 111, .int 108, .int 101, .int 32, .int x0] (.int 0) ∧ own_Fn Z h q li ∧ Exa Z h li nn2_ ∧ Fld Z h li nn2_ "e0" nn9_ (.ref ro) ∧ Fld Z h li nn2_ "e1" nn9_ (.ref em) ∧ (h0.size ≤ b) ∧ (h0.size ≤ d) ∧ (h0.size ≤ td) ∧ (h0.size ≤ q) ∧ (h0.size ≤ li)
theorem own_has1 (l : Launch) (Z : State) (a0 : Array Value) (hw : own_HW a0 Z) (ws : List Jvm.Cond) (ro tr : Addr) (kr : ClassId) (x0 cs : Int32) (em : Addr) (h0 : Heap) (n0 : Nat) (Z0 : n0 ≤ h0.size) (P_E_ro : Exa Z h0 ro nn3_) (P_F_ro_value : Fld Z h0 ro nn3_ "value" "[B" (.ref tr)) (P_F_ro_coder : Fld Z h0 ro nn3_ "coder" "B" (.int 0)) (P_V_tr : Arv Z h0 tr kr .byte 1 [.int x0] (.int 0)) (P_S_EMPTY : Sta Z h0 nn15_ "EMPTY" nn9_ (.ref em)) (P_S_COMPACT_STRINGS : Sta Z h0 nn3_ nn16_ "Z" (.int cs)) (hcs : ¬ (cs = (0 : Int32))) :
    MetFree l own_y62 (head1 (Jvm.Cond.code own_y62 prog_8_method_5_code 1 (some (.object "com/example/aduana/aduana/core/AccessDecision")) :: ws) R_own_has1) (fun a U => a = #[.ref ro] ∧ Z.Warmed39 U.vm ∧ U.heap = h0 ∧ CHv Z own_EL U.vm h0) (fun _ _ _ _ _ => True) (fun _ U o U' => ∃ v L, o = .returned v ∧ Q_own_has1 Z ro tr kr x0 cs em h0 n0 v U'.heap L ∧ CHr Z own_EL U.vm U.heap U'.vm U'.heap ∧ ReturnedEndW U o U' L R_own_has1.cells R_own_has1.slots) := by
  refine MetFree.of_bodySF (plainFor_of_name own_pn16) hisR ?_
  intro p e s m args below meth c s₁ Bd hml0 hP hK
  obtain ⟨rfl, hZ, hh, H0⟩ := hP
  have hx := Bd.exec
  have hby := Bd.bytes
  have hml : c.maxLocals = 1 := hml0
  have hown : s.vm.findClass "com/example/aduana/aduana/core/AccessDecision" = some m.cls := findClass_of_methodNamed Bd.named
  have hnm := (name_of_methodNamed Bd.named Bd.method).1
  have X0 : Stand p l e R_own_has1 (s.setVm s.vm) m #[.ref ro] below meth c s₁ [] 0 0 := Stand.of_body Bd
  have e0 : s₁.heap = h0 := by rw [← hh, Bd.state]; rfl
  have N0 := Fr.nil n0
  have K0 : Keep h0 h0 [] := Keep.refl h0 []
  have hEL := own_ELok hw
  have C0 := CHr.refl H0
  have hS : s.Since s.vm h0.size := (State.WarmedH.refl s).since _
  have hk : h0.size ≤ h0.size := Nat.le_refl _
  have hZ : Z.Warmed39 (s.setVm s.vm).vm := hZ
  have hown : (s.setVm s.vm).vm.findClass "com/example/aduana/aduana/core/AccessDecision" = some m.cls := hown
  have wS : ∀ d ∈ Bundle.stringAtoms, d.before a0 Z = true := fun d hd => hw d (own_strs d hd)
  show own_FinH Z p e below s (Q_own_has1 Z ro tr kr x0 cs em h0 n0) R_own_has1.cells R_own_has1.slots (s₁.setTop (entryFrame m #[.ref ro] 1))
  refine own_go (fun _ k => castTop (ef0 m ro) k) ?_
  show own_FinH Z _ _ _ _ _ _ _ (s₁.setTop (mkF m 0 #[Sr ro] []))
  obtain ⟨T1, h1, X1, e1, E1, A1, D1, -, st1⟩ := newO X0 hx hZ hown (hw.w 103 rfl) (hw.w 104 rfl) (hw.w 101 rfl) e0 (g := (mkF m 0 #[Sr ro] [])) rfl (hb hby d17_0) (by decide) (by decide)
  obtain ⟨b1, g1⟩ : ∃ z, z = h0.size := ⟨_, rfl⟩
  rw [← g1] at A1 D1 st1
  have sz_b1 : h0.size ≤ b1 := Nat.le_trans K0.1 (Nat.le_of_eq g1.symm)
  have g_b1 : n0 ≤ b1 := Nat.le_trans Z0 sz_b1
  have Y_b1 : Safe Z own_EL s.vm h0 b1 := Safe.new (Nat.le_of_eq g1.symm)
  have E_5 := P_E_ro.ext E1
  have F_6 := P_F_ro_value.ext E1
  have F_7 := P_F_ro_coder.ext E1
  have V_8 := P_V_tr.ext E1
  have S_9 := P_S_COMPACT_STRINGS.ext E1
  have S_10 := P_S_EMPTY.ext E1
  have Y_11 := Safe.ext E1 C0.1 Y_b1
  have F_description_b1 : Fld Z h1 b1 nn6_ "description" nn11_ .null := D1 (Or.inr (hw.w 254 rfl)) (ty := (.object "java/lang/String")) (by decide)
  have F_grants_b1 : Fld Z h1 b1 nn6_ "grants" nn12_ .null := D1 (Or.inr (hw.w 256 rfl)) (ty := (.object "java/util/function/Predicate")) (by decide)
  have hk := Nat.le_trans hk E1.1
  have C12 := CHr.trans C0 (CHr.ext E1 C0.1)
  have K13 : Keep h0 h1 [] := K0.ext E1
  refine own_go (B := T1.setTop (mkF m 4 #[Sr ro] [.ref b1, .ref b1])) (fun _ k => st1 _ (XS.dup X1.here hx rfl (hb hby d17_3) rfl rfl k)) ?_
  obtain ⟨T14, h14, X14, e14, E14, A14, D14, -, st14⟩ := newO X1 hx hZ hown (hw.w 105 rfl) (hw.w 106 rfl) (hw.w 107 rfl) e1 (g := (mkF m 4 #[Sr ro] [.ref b1, .ref b1])) rfl (hb hby d17_4) (by decide) (by decide)
  obtain ⟨b14, g14⟩ : ∃ z, z = h1.size := ⟨_, rfl⟩
  rw [← g14] at A14 D14 st14
  have ne_ro_b14_15 : ro ≠ b14 := Nat.ne_of_lt (Nat.lt_of_lt_of_le E_5.lt (Nat.le_of_eq g14.symm))
  have ne_tr_b14_16 : tr ≠ b14 := Nat.ne_of_lt (Nat.lt_of_lt_of_le V_8.lt (Nat.le_of_eq g14.symm))
  have ne_b1_b14_17 : b1 ≠ b14 := Nat.ne_of_lt (Nat.lt_of_lt_of_le A1.lt (Nat.le_of_eq g14.symm))
  have sz_b14 : h0.size ≤ b14 := Nat.le_trans K13.1 (Nat.le_of_eq g14.symm)
  have g_b14 : n0 ≤ b14 := Nat.le_trans Z0 sz_b14
  have Y_b14 : Safe Z own_EL s.vm h1 b14 := Safe.new (Nat.le_of_eq g14.symm)
  have E_19 := E_5.ext E14
  have F_20 := F_6.ext E14
  have F_21 := F_7.ext E14
  have V_22 := V_8.ext E14
  have S_23 := S_9.ext E14
  have S_24 := S_10.ext E14
  have Y_25 := Safe.ext E14 C12.1 Y_11
  have E_26 := A1.ext E14
  have F_27 := F_description_b1.ext E14
  have F_28 := F_grants_b1.ext E14
  have Y_29 := Safe.ext E14 C12.1 Y_b14
  have F_value_b14 : Fld Z h14 b14 nn10_ "value" "[B" .null := D14 (Or.inl (hw.w 120 rfl)) (ty := (.array .byte)) (by decide)
  have F_coder_b14 : Fld Z h14 b14 nn10_ "coder" "B" (.int 0) := D14 (Or.inl (hw.w 122 rfl)) (ty := .byte) (by decide)
  have F_count_b14 : Fld Z h14 b14 nn10_ "count" "I" (.int 0) := D14 (Or.inl (hw.w 145 rfl)) (ty := .int) (by decide)
  have hk := Nat.le_trans hk E14.1
  have C30 := CHr.trans C12 (CHr.ext E14 C12.1)
  have K31 : Keep h0 h14 [] := K13.ext E14
  refine own_go (B := T14.setTop (mkF m 8 #[Sr ro] [.ref b14, .ref b14, .ref b1, .ref b1])) (fun _ k => st14 _ (XS.dup X14.here hx rfl (hb hby d17_7) rfl rfl k)) ?_
  refine own_cN (own_rm18 l Z a0 hw [] b14 cs h14 n0 (Nat.le_trans Z0 K31.1) A14 F_value_b14 F_coder_b14 F_count_b14 g_b14 S_23 hcs) X14 hx hZ hown (hw.w 108 rfl) (hw.w 109 rfl) (hw.w 107 rfl) (hw.w 110 rfl) e14 rfl rfl (by rw [hml]; rfl) (rest := [.ref b14, .ref b1, .ref b1]) (lenOf own_pd0 rfl) rfl (hb hby d17_8) (W := 3) (show 2 * 0 + _ = _ from rfl) (by decide) (by decide) rfl ?_
  rintro _ T32 L32 X32 ⟨vb_32, kb_32, rfl, N32q, K32q, Q32_0, Q32_1, Q32_2, Q32_3, Q32_4, x32_0⟩
  have N32 := Fr.app N0 N32q
  have hk := Nat.le_trans hk K32q.1
  have ne_ro_vb_32_33 : ro ≠ vb_32 := Nat.ne_of_lt (Nat.lt_of_lt_of_le E_19.lt x32_0)
  have ne_tr_vb_32_34 : tr ≠ vb_32 := Nat.ne_of_lt (Nat.lt_of_lt_of_le V_22.lt x32_0)
  have ne_b1_vb_32_35 : b1 ≠ vb_32 := Nat.ne_of_lt (Nat.lt_of_lt_of_le E_26.lt x32_0)
  have ne_b14_vb_32_36 : b14 ≠ vb_32 := Nat.ne_of_lt (Nat.lt_of_lt_of_le A14.lt x32_0)
  have sz_vb_32 : h0.size ≤ vb_32 := Nat.le_trans K31.1 x32_0
  have g_vb_32 : n0 ≤ vb_32 := Nat.le_trans Z0 sz_vb_32
  have E_38 := E_19.keep K32q
  have F_39 := F_20.keep K32q (ninS ne_ro_b14_15 nin0)
  have F_40 := F_21.keep K32q (ninS ne_ro_b14_15 nin0)
  have V_41 := V_22.keep K32q (ninS ne_tr_b14_16 nin0)
  have S_42 := own_Sta_keep S_23 K32q (allS (own_plain A14) all0)
  have S_43 := own_Sta_keep S_24 K32q (allS (own_plain A14) all0)
  have Y_44 := Safe.keep K32q (allS Y_29 all0) C30.1 Y_25
  have E_45 := E_26.keep K32q
  have F_46 := F_27.keep K32q (ninS ne_b1_b14_17 nin0)
  have F_47 := F_28.keep K32q (ninS ne_b1_b14_17 nin0)
  have Y_48 := Safe.keep K32q (allS Y_29 all0) C30.1 Y_29
  have Y_53 := Safe.keep K32q (allS Y_29 all0) C30.1 (Safe.new x32_0)
  have C54 := CHr.trans C30 (CHr.keep K32q (allS Y_29 all0) C30.1)
  have K55 : Keep h0 T32.heap [] := K31.trans K32q (allS (Or.inr sz_b14) all0)
  refine own_go (B := T32.setTop (mkF m 11 #[Sr ro] [.ref b14, .ref b1, .ref b1])) (fun _ k => k) ?_
  obtain ⟨as56, T56, h56, kk56, bs56, ks56, X56, e56, E56, hS, hk, hZ, hown, Q56_e, Q56_c, Q56_v, Q56_a, -, -, hC56, -, hsf56, st56⟩ := ldcCH X32 hx hZ hown (hw.w 123 rfl) wS rfl hS hk hEL (List.mem_of_getElem? (i := 0) rfl) C54.1 (vs := [.int 104, .int 97, .int 115, .int 32, .int 114, .int 111, .int 108, .int 101, .int 32]) (z := (9 : Int32)) ⟨by decide, rfl⟩ (by decide) rfl (g := (mkF m 11 #[Sr ro] [.ref b14, .ref b1, .ref b1])) rfl (hb hby d17_11) (n := 36) (by decide +kernel) (by decide) (by decide) (by decide)
  have E_58 := E_38.ext E56
  have F_59 := F_39.ext E56
  have F_60 := F_40.ext E56
  have V_61 := V_41.ext E56
  have S_62 := S_42.ext E56
  have S_63 := S_43.ext E56
  have Y_64 := CHr.safe hC56 E_45.lt Y_44
  have E_65 := E_45.ext E56
  have F_66 := F_46.ext E56
  have F_67 := F_47.ext E56
  have Y_68 := CHr.safe hC56 Q32_0.lt Y_48
  have E_69 := Q32_0.ext E56
  have F_70 := Q32_1.ext E56
  have F_71 := Q32_2.ext E56
  have F_72 := Q32_3.ext E56
  have V_73 := Q32_4.ext E56
  have Y_74 := CHr.safe hC56 Q32_4.lt Y_53
  have C75 := CHr.trans C54 hC56
  have K76 : Keep h0 h56 [] := K55.ext E56
  have ne_b14_as56_79 : b14 ≠ as56 := (hsf56 _ Y_68).1
  have ne_b14_bs56_80 : b14 ≠ bs56 := (hsf56 _ Y_68).2
  have ne_vb_32_as56_81 : vb_32 ≠ as56 := (hsf56 _ Y_74).1
  have ne_vb_32_bs56_82 : vb_32 ≠ bs56 := (hsf56 _ Y_74).2
  refine own_go (B := T56.setTop (mkF m 13 #[Sr ro] [.ref as56, .ref b14, .ref b1, .ref b1])) (fun _ k => st56 _ k) ?_
  refine own_cV (own_ap0_9 l Z a0 hw [] b14 as56 vb_32 bs56 ks56 kb_32 (104 : Int32) (97 : Int32) (115 : Int32) (32 : Int32) (114 : Int32) (111 : Int32) (108 : Int32) (101 : Int32) (32 : Int32) cs h56 n0 (Nat.le_trans Z0 K76.1) E_69 F_70 F_71 F_72 Q56_e Q56_v Q56_c Q56_a V_73 g_vb_32 ne_b14_vb_32_36 (Ne.symm ne_vb_32_as56_81) (Ne.symm ne_vb_32_bs56_82) S_62 hcs (Ne.symm ne_b14_as56_79) (Ne.symm ne_b14_bs56_80) g_b14) X56 hx hZ hown (hw.w 124 rfl) (hw.w 125 rfl) (notFace_of_selects (args := #[]) (mvT hZ (hw.w 127 rfl))) (hw.w 127 rfl) (hw.w 126 rfl) (hw.w 107 rfl) (hw.w 128 rfl) E_69 e56 rfl rfl (by rw [hml]; rfl) (rest := [.ref b1, .ref b1]) (lenOf own_pd33 rfl) rfl (hb hby d17_13) (W := 2) (show 2 * 0 + _ = _ from rfl) (by decide) (by decide) ?_
  rintro _ T83 L83 X83 ⟨rfl, N83q, K83q, Q83_0, Q83_1, Q83_2, Q83_3, Q83_4⟩
  have N83 := Fr.app N32 N83q
  have hk := Nat.le_trans hk K83q.1
  have E_85 := E_58.keep K83q
  have F_86 := F_59.keep K83q (ninS ne_ro_b14_15 (ninS ne_ro_vb_32_33 nin0))
  have F_87 := F_60.keep K83q (ninS ne_ro_b14_15 (ninS ne_ro_vb_32_33 nin0))
  have V_88 := V_61.keep K83q (ninS ne_tr_b14_16 (ninS ne_tr_vb_32_34 nin0))
  have S_89 := own_Sta_keep S_62 K83q (allS (own_plain E_69) (allS (own_plainV V_73) all0))
  have S_90 := own_Sta_keep S_63 K83q (allS (own_plain E_69) (allS (own_plainV V_73) all0))
  have Y_91 := Safe.keep K83q (allS Y_68 (allS Y_74 all0)) C75.1 Y_64
  have E_92 := E_65.keep K83q
  have F_93 := F_66.keep K83q (ninS ne_b1_b14_17 (ninS ne_b1_vb_32_35 nin0))
  have F_94 := F_67.keep K83q (ninS ne_b1_b14_17 (ninS ne_b1_vb_32_35 nin0))
  have Y_95 := Safe.keep K83q (allS Y_68 (allS Y_74 all0)) C75.1 Y_68
  have Y_101 := Safe.keep K83q (allS Y_68 (allS Y_74 all0)) C75.1 Y_74
  have C106 := CHr.trans C75 (CHr.keep K83q (allS Y_68 (allS Y_74 all0)) C75.1)
  have K107 : Keep h0 T83.heap [] := K76.trans K83q (allS (Or.inr sz_b14) (allS (Or.inr sz_vb_32) all0))
  refine own_go (B := T83.setTop (mkF m 17 #[Sr ro] [.ref ro, .ref b14, .ref b1, .ref b1])) (fun _ k => XS.aloadN X83.here hx rfl (hb hby d17_16) rfl rfl k) ?_
  refine own_cV (own_ap9_1 l Z a0 hw [] b14 ro vb_32 tr kr kb_32 x0 (104 : Int32) (97 : Int32) (115 : Int32) (32 : Int32) (114 : Int32) (111 : Int32) (108 : Int32) (101 : Int32) (32 : Int32) cs T83.heap n0 (Nat.le_trans Z0 K107.1) Q83_0 Q83_1 Q83_2 Q83_3 E_85 F_86 F_87 V_88 Q83_4 g_vb_32 ne_b14_vb_32_36 ne_ro_vb_32_33 ne_tr_vb_32_34 S_89 hcs ne_ro_b14_15 ne_tr_b14_16 g_b14) X83 hx hZ hown (hw.w 124 rfl) (hw.w 125 rfl) (notFace_of_selects (args := #[]) (mvT hZ (hw.w 127 rfl))) (hw.w 127 rfl) (hw.w 126 rfl) (hw.w 107 rfl) (hw.w 128 rfl) Q83_0 rfl rfl rfl (by rw [hml]; rfl) (rest := [.ref b1, .ref b1]) (lenOf own_pd33 rfl) rfl (hb hby d17_17) (W := 2) (show 2 * 0 + _ = _ from rfl) (by decide) (by decide) ?_
  rintro _ T108 L108 X108 ⟨rfl, N108q, K108q, Q108_0, Q108_1, Q108_2, Q108_3, Q108_4⟩
  have N108 := Fr.app N83 N108q
  have hk := Nat.le_trans hk K108q.1
  have S_114 := own_Sta_keep S_89 K108q (allS (own_plain Q83_0) (allS (own_plainV Q83_4) all0))
  have S_115 := own_Sta_keep S_90 K108q (allS (own_plain Q83_0) (allS (own_plainV Q83_4) all0))
  have Y_116 := Safe.keep K108q (allS Y_95 (allS Y_101 all0)) C106.1 Y_91
  have E_117 := E_92.keep K108q
  have F_118 := F_93.keep K108q (ninS ne_b1_b14_17 (ninS ne_b1_vb_32_35 nin0))
  have F_119 := F_94.keep K108q (ninS ne_b1_b14_17 (ninS ne_b1_vb_32_35 nin0))
  have C131 := CHr.trans C106 (CHr.keep K108q (allS Y_95 (allS Y_101 all0)) C106.1)
  have K132 : Keep h0 T108.heap [] := K107.trans K108q (allS (Or.inr sz_b14) (allS (Or.inr sz_vb_32) all0))
  refine own_go (B := T108.setTop (mkF m 20 #[Sr ro] [.ref b14, .ref b1, .ref b1])) (fun _ k => k) ?_
  refine own_cV (own_tos10 l Z a0 hw [] b14 vb_32 kb_32 (104 : Int32) (97 : Int32) (115 : Int32) (32 : Int32) (114 : Int32) (111 : Int32) (108 : Int32) (101 : Int32) (32 : Int32) x0 cs T108.heap n0 (Nat.le_trans Z0 K132.1) Q108_0 Q108_1 Q108_2 Q108_3 Q108_4 S_114 hcs) X108 hx hZ hown (hw.w 171 rfl) (hw.w 172 rfl) (notFace_of_selects (args := #[]) (mvT hZ (hw.w 174 rfl))) (hw.w 174 rfl) (hw.w 173 rfl) (hw.w 107 rfl) (hw.w 175 rfl) Q108_0 rfl rfl rfl (by rw [hml]; rfl) (rest := [.ref b1, .ref b1]) (lenOf own_pd34 rfl) rfl (hb hby d17_20) (W := 2) (show 2 * 0 + _ = _ from rfl) (by decide) (by decide) ?_
  rintro _ T133 L133 X133 ⟨b_133, t_133, kt_133, rfl, N133q, K133q, Q133_0, Q133_1, Q133_2, Q133_3, x133_0, x133_1⟩
  have N133 := Fr.app N108 N133q
  have hk := Nat.le_trans hk K133q.1
  have ne_b1_b_133_136 : b1 ≠ b_133 := Nat.ne_of_lt (Nat.lt_of_lt_of_le E_117.lt x133_0)
  have sz_b_133 : h0.size ≤ b_133 := Nat.le_trans K132.1 x133_0
  have ne_b1_t_133_143 : b1 ≠ t_133 := Nat.ne_of_lt (Nat.lt_of_lt_of_le E_117.lt x133_1)
  have sz_t_133 : h0.size ≤ t_133 := Nat.le_trans K132.1 x133_1
  have S_154 := own_Sta_keep S_115 K133q all0
  have Y_155 := Safe.keep K133q all0 C131.1 Y_116
  have E_156 := E_117.keep K133q
  have F_157 := F_118.keep K133q nin0
  have F_158 := F_119.keep K133q nin0
  have C172 := CHr.trans C131 (CHr.keep K133q all0 C131.1)
  have K173 : Keep h0 T133.heap [] := K132.trans K133q all0
  refine own_go (B := T133.setTop (mkF m 24 #[Sr ro] [.ref ro, .ref b_133, .ref b1, .ref b1])) (fun _ k => XS.aloadN X133.here hx rfl (hb hby d17_23) rfl rfl k) ?_
  refine own_cS (own_rm39 l Z a0 hw [] ro em T133.heap n0 (Nat.le_trans Z0 K173.1) S_154) X133 hx hZ hown (hw.w 216 rfl) (hw.w 217 rfl) (hw.w 218 rfl) (hw.w 219 rfl) rfl rfl rfl (by rw [hml]; rfl) (rest := [.ref b_133, .ref b1, .ref b1]) (lenOf own_pd35 rfl) rfl (hb hby d17_24) (W := 3) (show 2 * 0 + _ = _ from rfl) (by decide) (by decide) ?_
  rintro _ T174 L174 X174 ⟨b_174, rfl, N174q, K174q, Q174_0, Q174_1, Q174_2, x174_0⟩
  have N174 := Fr.app N133 N174q
  have hk := Nat.le_trans hk K174q.1
  have ne_b1_b_174_177 : b1 ≠ b_174 := Nat.ne_of_lt (Nat.lt_of_lt_of_le E_156.lt x174_0)
  have sz_b_174 : h0.size ≤ b_174 := Nat.le_trans K173.1 x174_0
  have Y_191 := Safe.keep K174q all0 C172.1 Y_155
  have E_192 := E_156.keep K174q
  have F_193 := F_157.keep K174q nin0
  have F_194 := F_158.keep K174q nin0
  have E_206 := Q133_0.keep K174q
  have F_207 := Q133_1.keep K174q nin0
  have F_208 := Q133_2.keep K174q nin0
  have V_209 := Q133_3.keep K174q nin0
  have C213 := CHr.trans C172 (CHr.keep K174q all0 C172.1)
  have K214 : Keep h0 T174.heap [] := K173.trans K174q all0
  refine own_go (B := T174.setTop (mkF m 27 #[Sr ro] [.ref b_174, .ref b_133, .ref b1, .ref b1])) (fun _ k => k) ?_
  refine own_cS (own_rm42 l Z a0 hw [] b_174 T174.heap n0 (Nat.le_trans Z0 K214.1) ) X174 hx hZ hown (hw.w 242 rfl) (hw.w 243 rfl) (hw.w 101 rfl) (hw.w 244 rfl) rfl rfl rfl (by rw [hml]; rfl) (rest := [.ref b_133, .ref b1, .ref b1]) (lenOf own_pd36 rfl) rfl (hb hby d17_27) (W := 3) (show 2 * 0 + _ = _ from rfl) (by decide) (by decide) ?_
  rintro _ T215 L215 X215 ⟨b_215, rfl, N215q, K215q, Q215_0, x215_0⟩
  have N215 := Fr.app N174 N215q
  have hk := Nat.le_trans hk K215q.1
  have ne_b1_b_215_218 : b1 ≠ b_215 := Nat.ne_of_lt (Nat.lt_of_lt_of_le E_192.lt x215_0)
  have sz_b_215 : h0.size ≤ b_215 := Nat.le_trans K214.1 x215_0
  have Y_233 := Safe.keep K215q all0 C213.1 Y_191
  have E_234 := E_192.keep K215q
  have F_235 := F_193.keep K215q nin0
  have F_236 := F_194.keep K215q nin0
  have E_248 := E_206.keep K215q
  have F_249 := F_207.keep K215q nin0
  have F_250 := F_208.keep K215q nin0
  have V_251 := V_209.keep K215q nin0
  have E_254 := Q174_0.keep K215q
  have F_255 := Q174_1.keep K215q nin0
  have F_256 := Q174_2.keep K215q nin0
  have C259 := CHr.trans C213 (CHr.keep K215q all0 C213.1)
  have K260 : Keep h0 T215.heap [] := K214.trans K215q all0
  refine own_go (B := T215.setTop (mkF m 30 #[Sr ro] [.ref b_215, .ref b_133, .ref b1, .ref b1])) (fun _ k => k) ?_
  refine own_cN (own_rm43 l Z a0 hw [] b1 b_133 b_215 T215.heap n0 (Nat.le_trans Z0 K260.1) E_234 F_235 F_236 g_b1) X215 hx hZ hown (hw.w 249 rfl) (hw.w 250 rfl) (hw.w 101 rfl) (hw.w 251 rfl) rfl rfl rfl (by rw [hml]; rfl) (rest := [.ref b1]) (lenOf own_pd37 rfl) rfl (hb hby d17_30) (W := 1) (show 2 * 0 + _ = _ from rfl) (by decide) (by decide) rfl ?_
  rintro _ T261 L261 X261 ⟨rfl, N261q, K261q, Q261_0, Q261_1, Q261_2⟩
  have N261 := Fr.app N215 N261q
  have hk := Nat.le_trans hk K261q.1
  have E_284 := E_248.keep K261q
  have F_285 := F_249.keep K261q (ninS (Ne.symm ne_b1_b_133_136) nin0)
  have F_286 := F_250.keep K261q (ninS (Ne.symm ne_b1_b_133_136) nin0)
  have V_287 := V_251.keep K261q (ninS (Ne.symm ne_b1_t_133_143) nin0)
  have E_290 := E_254.keep K261q
  have F_291 := F_255.keep K261q (ninS (Ne.symm ne_b1_b_174_177) nin0)
  have F_292 := F_256.keep K261q (ninS (Ne.symm ne_b1_b_174_177) nin0)
  have G_294 := Q215_0.keep K261q (ninS (Ne.symm ne_b1_b_215_218) nin0)
  have C296 := CHr.trans C259 (CHr.keep K261q (allS Y_233 all0) C259.1)
  have K297 : Keep h0 T261.heap [] := K260.trans K261q (allS (Or.inr sz_b1) all0)
  refine own_go (B := T261.setTop (mkF m 33 #[Sr ro] [.ref b1])) (fun _ k => k) ?_
  exact own_retOH X261 hx hS Bd.notSynchronized hEL hZ hh C296 Bd.returns rfl (Or.inr (Or.inr (Or.inr (Or.inr ⟨rfl, rfl, rfl⟩)))) (hb hby d17_33) rfl hk ⟨b1, b_133, t_133, kt_133, b_215, b_174, rfl, N261, K297, Q261_0, Q261_1, Q261_2, E_284, F_285, F_286, V_287, G_294, E_290, F_291, F_292, sz_b1, sz_b_133, sz_t_133, sz_b_215, sz_b_174⟩ (by decide) (by decide)
abbrev R_own_has2 : Room := ⟨6, 9, 80, 3088⟩
def Q_own_has2 (Z : State) (ro tr : Addr) (kr : ClassId) (x0 x1 cs : Int32) (em : Addr) (h0 : Heap) (n0 : Nat) (v : Option Value) (h : Heap) (L : List Loc) : Prop := ∃ b : Addr, ∃ d : Addr, ∃ td : Addr, ∃ kd : ClassId, ∃ q : Addr, ∃ li : Addr, v = some (.ref b) ∧ Fr n0 L ∧ Keep h0 h [] ∧ Exa Z h b nn6_ ∧ Fld Z h b nn6_ "description" nn11_ (.ref d) ∧ Fld Z h b nn6_ "grants" nn12_ (.ref q) ∧ Exa Z h d nn3_ ∧ Fld Z h d nn3_ "value" "[B" (.ref td) ∧ Fld Z h d nn3_ "coder" "B" (.int 0) ∧ Arv Z h td kd .byte 11 [.int 104, .int 97, .int 115, .int 32, .int 114, .int 111, .int 108, .int 101, .int 32, .int x0, .int x1] (.int 0) ∧ own_Fn Z h q li ∧ Exa Z h li nn2_ ∧ Fld Z h li nn2_ "e0" nn9_ (.ref ro) ∧ Fld Z h li nn2_ "e1" nn9_ (.ref em) ∧ (h0.size ≤ b) ∧ (h0.size ≤ d) ∧ (h0.size ≤ td) ∧ (h0.size ≤ q) ∧ (h0.size ≤ li)
theorem own_has2 (l : Launch) (Z : State) (a0 : Array Value) (hw : own_HW a0 Z) (ws : List Jvm.Cond) (ro tr : Addr) (kr : ClassId) (x0 x1 cs : Int32) (em : Addr) (h0 : Heap) (n0 : Nat) (Z0 : n0 ≤ h0.size) (P_E_ro : Exa Z h0 ro nn3_) (P_F_ro_value : Fld Z h0 ro nn3_ "value" "[B" (.ref tr)) (P_F_ro_coder : Fld Z h0 ro nn3_ "coder" "B" (.int 0)) (P_V_tr : Arv Z h0 tr kr .byte 2 [.int x0, .int x1] (.int 0)) (P_S_EMPTY : Sta Z h0 nn15_ "EMPTY" nn9_ (.ref em)) (P_S_COMPACT_STRINGS : Sta Z h0 nn3_ nn16_ "Z" (.int cs)) (hcs : ¬ (cs = (0 : Int32))) :
    MetFree l own_y62 (head1 (Jvm.Cond.code own_y62 prog_8_method_5_code 1 (some (.object "com/example/aduana/aduana/core/AccessDecision")) :: ws) R_own_has2) (fun a U => a = #[.ref ro] ∧ Z.Warmed39 U.vm ∧ U.heap = h0 ∧ CHv Z own_EL U.vm h0) (fun _ _ _ _ _ => True) (fun _ U o U' => ∃ v L, o = .returned v ∧ Q_own_has2 Z ro tr kr x0 x1 cs em h0 n0 v U'.heap L ∧ CHr Z own_EL U.vm U.heap U'.vm U'.heap ∧ ReturnedEndW U o U' L R_own_has2.cells R_own_has2.slots) := by
  refine MetFree.of_bodySF (plainFor_of_name own_pn16) hisR ?_
  intro p e s m args below meth c s₁ Bd hml0 hP hK
  obtain ⟨rfl, hZ, hh, H0⟩ := hP
  have hx := Bd.exec
  have hby := Bd.bytes
  have hml : c.maxLocals = 1 := hml0
  have hown : s.vm.findClass "com/example/aduana/aduana/core/AccessDecision" = some m.cls := findClass_of_methodNamed Bd.named
  have hnm := (name_of_methodNamed Bd.named Bd.method).1
  have X0 : Stand p l e R_own_has2 (s.setVm s.vm) m #[.ref ro] below meth c s₁ [] 0 0 := Stand.of_body Bd
  have e0 : s₁.heap = h0 := by rw [← hh, Bd.state]; rfl
  have N0 := Fr.nil n0
  have K0 : Keep h0 h0 [] := Keep.refl h0 []
  have hEL := own_ELok hw
  have C0 := CHr.refl H0
  have hS : s.Since s.vm h0.size := (State.WarmedH.refl s).since _
  have hk : h0.size ≤ h0.size := Nat.le_refl _
  have hZ : Z.Warmed39 (s.setVm s.vm).vm := hZ
  have hown : (s.setVm s.vm).vm.findClass "com/example/aduana/aduana/core/AccessDecision" = some m.cls := hown
  have wS : ∀ d ∈ Bundle.stringAtoms, d.before a0 Z = true := fun d hd => hw d (own_strs d hd)
  show own_FinH Z p e below s (Q_own_has2 Z ro tr kr x0 x1 cs em h0 n0) R_own_has2.cells R_own_has2.slots (s₁.setTop (entryFrame m #[.ref ro] 1))
  refine own_go (fun _ k => castTop (ef0 m ro) k) ?_
  show own_FinH Z _ _ _ _ _ _ _ (s₁.setTop (mkF m 0 #[Sr ro] []))
  obtain ⟨T1, h1, X1, e1, E1, A1, D1, -, st1⟩ := newO X0 hx hZ hown (hw.w 103 rfl) (hw.w 104 rfl) (hw.w 101 rfl) e0 (g := (mkF m 0 #[Sr ro] [])) rfl (hb hby d17_0) (by decide) (by decide)
  obtain ⟨b1, g1⟩ : ∃ z, z = h0.size := ⟨_, rfl⟩
  rw [← g1] at A1 D1 st1
  have sz_b1 : h0.size ≤ b1 := Nat.le_trans K0.1 (Nat.le_of_eq g1.symm)
  have g_b1 : n0 ≤ b1 := Nat.le_trans Z0 sz_b1
  have Y_b1 : Safe Z own_EL s.vm h0 b1 := Safe.new (Nat.le_of_eq g1.symm)
  have E_5 := P_E_ro.ext E1
  have F_6 := P_F_ro_value.ext E1
  have F_7 := P_F_ro_coder.ext E1
  have V_8 := P_V_tr.ext E1
  have S_9 := P_S_COMPACT_STRINGS.ext E1
  have S_10 := P_S_EMPTY.ext E1
  have Y_11 := Safe.ext E1 C0.1 Y_b1
  have F_description_b1 : Fld Z h1 b1 nn6_ "description" nn11_ .null := D1 (Or.inr (hw.w 254 rfl)) (ty := (.object "java/lang/String")) (by decide)
  have F_grants_b1 : Fld Z h1 b1 nn6_ "grants" nn12_ .null := D1 (Or.inr (hw.w 256 rfl)) (ty := (.object "java/util/function/Predicate")) (by decide)
  have hk := Nat.le_trans hk E1.1
  have C12 := CHr.trans C0 (CHr.ext E1 C0.1)
  have K13 : Keep h0 h1 [] := K0.ext E1
  refine own_go (B := T1.setTop (mkF m 4 #[Sr ro] [.ref b1, .ref b1])) (fun _ k => st1 _ (XS.dup X1.here hx rfl (hb hby d17_3) rfl rfl k)) ?_
  obtain ⟨T14, h14, X14, e14, E14, A14, D14, -, st14⟩ := newO X1 hx hZ hown (hw.w 105 rfl) (hw.w 106 rfl) (hw.w 107 rfl) e1 (g := (mkF m 4 #[Sr ro] [.ref b1, .ref b1])) rfl (hb hby d17_4) (by decide) (by decide)
  obtain ⟨b14, g14⟩ : ∃ z, z = h1.size := ⟨_, rfl⟩
  rw [← g14] at A14 D14 st14
  have ne_ro_b14_15 : ro ≠ b14 := Nat.ne_of_lt (Nat.lt_of_lt_of_le E_5.lt (Nat.le_of_eq g14.symm))
  have ne_tr_b14_16 : tr ≠ b14 := Nat.ne_of_lt (Nat.lt_of_lt_of_le V_8.lt (Nat.le_of_eq g14.symm))
  have ne_b1_b14_17 : b1 ≠ b14 := Nat.ne_of_lt (Nat.lt_of_lt_of_le A1.lt (Nat.le_of_eq g14.symm))
  have sz_b14 : h0.size ≤ b14 := Nat.le_trans K13.1 (Nat.le_of_eq g14.symm)
  have g_b14 : n0 ≤ b14 := Nat.le_trans Z0 sz_b14
  have Y_b14 : Safe Z own_EL s.vm h1 b14 := Safe.new (Nat.le_of_eq g14.symm)
  have E_19 := E_5.ext E14
  have F_20 := F_6.ext E14
  have F_21 := F_7.ext E14
  have V_22 := V_8.ext E14
  have S_23 := S_9.ext E14
  have S_24 := S_10.ext E14
  have Y_25 := Safe.ext E14 C12.1 Y_11
  have E_26 := A1.ext E14
  have F_27 := F_description_b1.ext E14
  have F_28 := F_grants_b1.ext E14
  have Y_29 := Safe.ext E14 C12.1 Y_b14
  have F_value_b14 : Fld Z h14 b14 nn10_ "value" "[B" .null := D14 (Or.inl (hw.w 120 rfl)) (ty := (.array .byte)) (by decide)
  have F_coder_b14 : Fld Z h14 b14 nn10_ "coder" "B" (.int 0) := D14 (Or.inl (hw.w 122 rfl)) (ty := .byte) (by decide)
  have F_count_b14 : Fld Z h14 b14 nn10_ "count" "I" (.int 0) := D14 (Or.inl (hw.w 145 rfl)) (ty := .int) (by decide)
  have hk := Nat.le_trans hk E14.1
  have C30 := CHr.trans C12 (CHr.ext E14 C12.1)
  have K31 : Keep h0 h14 [] := K13.ext E14
  refine own_go (B := T14.setTop (mkF m 8 #[Sr ro] [.ref b14, .ref b14, .ref b1, .ref b1])) (fun _ k => st14 _ (XS.dup X14.here hx rfl (hb hby d17_7) rfl rfl k)) ?_
  refine own_cN (own_rm18 l Z a0 hw [] b14 cs h14 n0 (Nat.le_trans Z0 K31.1) A14 F_value_b14 F_coder_b14 F_count_b14 g_b14 S_23 hcs) X14 hx hZ hown (hw.w 108 rfl) (hw.w 109 rfl) (hw.w 107 rfl) (hw.w 110 rfl) e14 rfl rfl (by rw [hml]; rfl) (rest := [.ref b14, .ref b1, .ref b1]) (lenOf own_pd0 rfl) rfl (hb hby d17_8) (W := 3) (show 2 * 0 + _ = _ from rfl) (by decide) (by decide) rfl ?_
  rintro _ T32 L32 X32 ⟨vb_32, kb_32, rfl, N32q, K32q, Q32_0, Q32_1, Q32_2, Q32_3, Q32_4, x32_0⟩
  have N32 := Fr.app N0 N32q
  have hk := Nat.le_trans hk K32q.1
  have ne_ro_vb_32_33 : ro ≠ vb_32 := Nat.ne_of_lt (Nat.lt_of_lt_of_le E_19.lt x32_0)
  have ne_tr_vb_32_34 : tr ≠ vb_32 := Nat.ne_of_lt (Nat.lt_of_lt_of_le V_22.lt x32_0)
  have ne_b1_vb_32_35 : b1 ≠ vb_32 := Nat.ne_of_lt (Nat.lt_of_lt_of_le E_26.lt x32_0)
  have ne_b14_vb_32_36 : b14 ≠ vb_32 := Nat.ne_of_lt (Nat.lt_of_lt_of_le A14.lt x32_0)
  have sz_vb_32 : h0.size ≤ vb_32 := Nat.le_trans K31.1 x32_0
  have g_vb_32 : n0 ≤ vb_32 := Nat.le_trans Z0 sz_vb_32
  have E_38 := E_19.keep K32q
  have F_39 := F_20.keep K32q (ninS ne_ro_b14_15 nin0)
  have F_40 := F_21.keep K32q (ninS ne_ro_b14_15 nin0)
  have V_41 := V_22.keep K32q (ninS ne_tr_b14_16 nin0)
  have S_42 := own_Sta_keep S_23 K32q (allS (own_plain A14) all0)
  have S_43 := own_Sta_keep S_24 K32q (allS (own_plain A14) all0)
  have Y_44 := Safe.keep K32q (allS Y_29 all0) C30.1 Y_25
  have E_45 := E_26.keep K32q
  have F_46 := F_27.keep K32q (ninS ne_b1_b14_17 nin0)
  have F_47 := F_28.keep K32q (ninS ne_b1_b14_17 nin0)
  have Y_48 := Safe.keep K32q (allS Y_29 all0) C30.1 Y_29
  have Y_53 := Safe.keep K32q (allS Y_29 all0) C30.1 (Safe.new x32_0)
  have C54 := CHr.trans C30 (CHr.keep K32q (allS Y_29 all0) C30.1)
  have K55 : Keep h0 T32.heap [] := K31.trans K32q (allS (Or.inr sz_b14) all0)
  refine own_go (B := T32.setTop (mkF m 11 #[Sr ro] [.ref b14, .ref b1, .ref b1])) (fun _ k => k) ?_
  obtain ⟨as56, T56, h56, kk56, bs56, ks56, X56, e56, E56, hS, hk, hZ, hown, Q56_e, Q56_c, Q56_v, Q56_a, -, -, hC56, -, hsf56, st56⟩ := ldcCH X32 hx hZ hown (hw.w 123 rfl) wS rfl hS hk hEL (List.mem_of_getElem? (i := 0) rfl) C54.1 (vs := [.int 104, .int 97, .int 115, .int 32, .int 114, .int 111, .int 108, .int 101, .int 32]) (z := (9 : Int32)) ⟨by decide, rfl⟩ (by decide) rfl (g := (mkF m 11 #[Sr ro] [.ref b14, .ref b1, .ref b1])) rfl (hb hby d17_11) (n := 36) (by decide +kernel) (by decide) (by decide) (by decide)
  have E_58 := E_38.ext E56
  have F_59 := F_39.ext E56
  have F_60 := F_40.ext E56
  have V_61 := V_41.ext E56
  have S_62 := S_42.ext E56
  have S_63 := S_43.ext E56
  have Y_64 := CHr.safe hC56 E_45.lt Y_44
  have E_65 := E_45.ext E56
  have F_66 := F_46.ext E56
  have F_67 := F_47.ext E56
  have Y_68 := CHr.safe hC56 Q32_0.lt Y_48
  have E_69 := Q32_0.ext E56
  have F_70 := Q32_1.ext E56
  have F_71 := Q32_2.ext E56
  have F_72 := Q32_3.ext E56
  have V_73 := Q32_4.ext E56
  have Y_74 := CHr.safe hC56 Q32_4.lt Y_53
  have C75 := CHr.trans C54 hC56
  have K76 : Keep h0 h56 [] := K55.ext E56
  have ne_b14_as56_79 : b14 ≠ as56 := (hsf56 _ Y_68).1
  have ne_b14_bs56_80 : b14 ≠ bs56 := (hsf56 _ Y_68).2
  have ne_vb_32_as56_81 : vb_32 ≠ as56 := (hsf56 _ Y_74).1
  have ne_vb_32_bs56_82 : vb_32 ≠ bs56 := (hsf56 _ Y_74).2
  refine own_go (B := T56.setTop (mkF m 13 #[Sr ro] [.ref as56, .ref b14, .ref b1, .ref b1])) (fun _ k => st56 _ k) ?_
  refine own_cV (own_ap0_9 l Z a0 hw [] b14 as56 vb_32 bs56 ks56 kb_32 (104 : Int32) (97 : Int32) (115 : Int32) (32 : Int32) (114 : Int32) (111 : Int32) (108 : Int32) (101 : Int32) (32 : Int32) cs h56 n0 (Nat.le_trans Z0 K76.1) E_69 F_70 F_71 F_72 Q56_e Q56_v Q56_c Q56_a V_73 g_vb_32 ne_b14_vb_32_36 (Ne.symm ne_vb_32_as56_81) (Ne.symm ne_vb_32_bs56_82) S_62 hcs (Ne.symm ne_b14_as56_79) (Ne.symm ne_b14_bs56_80) g_b14) X56 hx hZ hown (hw.w 124 rfl) (hw.w 125 rfl) (notFace_of_selects (args := #[]) (mvT hZ (hw.w 127 rfl))) (hw.w 127 rfl) (hw.w 126 rfl) (hw.w 107 rfl) (hw.w 128 rfl) E_69 e56 rfl rfl (by rw [hml]; rfl) (rest := [.ref b1, .ref b1]) (lenOf own_pd33 rfl) rfl (hb hby d17_13) (W := 2) (show 2 * 0 + _ = _ from rfl) (by decide) (by decide) ?_
  rintro _ T83 L83 X83 ⟨rfl, N83q, K83q, Q83_0, Q83_1, Q83_2, Q83_3, Q83_4⟩
  have N83 := Fr.app N32 N83q
  have hk := Nat.le_trans hk K83q.1
  have E_85 := E_58.keep K83q
  have F_86 := F_59.keep K83q (ninS ne_ro_b14_15 (ninS ne_ro_vb_32_33 nin0))
  have F_87 := F_60.keep K83q (ninS ne_ro_b14_15 (ninS ne_ro_vb_32_33 nin0))
  have V_88 := V_61.keep K83q (ninS ne_tr_b14_16 (ninS ne_tr_vb_32_34 nin0))
  have S_89 := own_Sta_keep S_62 K83q (allS (own_plain E_69) (allS (own_plainV V_73) all0))
  have S_90 := own_Sta_keep S_63 K83q (allS (own_plain E_69) (allS (own_plainV V_73) all0))
  have Y_91 := Safe.keep K83q (allS Y_68 (allS Y_74 all0)) C75.1 Y_64
  have E_92 := E_65.keep K83q
  have F_93 := F_66.keep K83q (ninS ne_b1_b14_17 (ninS ne_b1_vb_32_35 nin0))
  have F_94 := F_67.keep K83q (ninS ne_b1_b14_17 (ninS ne_b1_vb_32_35 nin0))
  have Y_95 := Safe.keep K83q (allS Y_68 (allS Y_74 all0)) C75.1 Y_68
  have Y_101 := Safe.keep K83q (allS Y_68 (allS Y_74 all0)) C75.1 Y_74
  have C106 := CHr.trans C75 (CHr.keep K83q (allS Y_68 (allS Y_74 all0)) C75.1)
  have K107 : Keep h0 T83.heap [] := K76.trans K83q (allS (Or.inr sz_b14) (allS (Or.inr sz_vb_32) all0))
  refine own_go (B := T83.setTop (mkF m 17 #[Sr ro] [.ref ro, .ref b14, .ref b1, .ref b1])) (fun _ k => XS.aloadN X83.here hx rfl (hb hby d17_16) rfl rfl k) ?_
  refine own_cV (own_ap9_2 l Z a0 hw [] b14 ro vb_32 tr kr kb_32 x0 x1 (104 : Int32) (97 : Int32) (115 : Int32) (32 : Int32) (114 : Int32) (111 : Int32) (108 : Int32) (101 : Int32) (32 : Int32) cs T83.heap n0 (Nat.le_trans Z0 K107.1) Q83_0 Q83_1 Q83_2 Q83_3 E_85 F_86 F_87 V_88 Q83_4 g_vb_32 ne_b14_vb_32_36 ne_ro_vb_32_33 ne_tr_vb_32_34 S_89 hcs ne_ro_b14_15 ne_tr_b14_16 g_b14) X83 hx hZ hown (hw.w 124 rfl) (hw.w 125 rfl) (notFace_of_selects (args := #[]) (mvT hZ (hw.w 127 rfl))) (hw.w 127 rfl) (hw.w 126 rfl) (hw.w 107 rfl) (hw.w 128 rfl) Q83_0 rfl rfl rfl (by rw [hml]; rfl) (rest := [.ref b1, .ref b1]) (lenOf own_pd33 rfl) rfl (hb hby d17_17) (W := 2) (show 2 * 0 + _ = _ from rfl) (by decide) (by decide) ?_
  rintro _ T108 L108 X108 ⟨rfl, N108q, K108q, Q108_0, Q108_1, Q108_2, Q108_3, Q108_4⟩
  have N108 := Fr.app N83 N108q
  have hk := Nat.le_trans hk K108q.1
  have S_114 := own_Sta_keep S_89 K108q (allS (own_plain Q83_0) (allS (own_plainV Q83_4) all0))
  have S_115 := own_Sta_keep S_90 K108q (allS (own_plain Q83_0) (allS (own_plainV Q83_4) all0))
  have Y_116 := Safe.keep K108q (allS Y_95 (allS Y_101 all0)) C106.1 Y_91
  have E_117 := E_92.keep K108q
  have F_118 := F_93.keep K108q (ninS ne_b1_b14_17 (ninS ne_b1_vb_32_35 nin0))
  have F_119 := F_94.keep K108q (ninS ne_b1_b14_17 (ninS ne_b1_vb_32_35 nin0))
  have C131 := CHr.trans C106 (CHr.keep K108q (allS Y_95 (allS Y_101 all0)) C106.1)
  have K132 : Keep h0 T108.heap [] := K107.trans K108q (allS (Or.inr sz_b14) (allS (Or.inr sz_vb_32) all0))
  refine own_go (B := T108.setTop (mkF m 20 #[Sr ro] [.ref b14, .ref b1, .ref b1])) (fun _ k => k) ?_
  refine own_cV (own_tos11 l Z a0 hw [] b14 vb_32 kb_32 (104 : Int32) (97 : Int32) (115 : Int32) (32 : Int32) (114 : Int32) (111 : Int32) (108 : Int32) (101 : Int32) (32 : Int32) x0 x1 cs T108.heap n0 (Nat.le_trans Z0 K132.1) Q108_0 Q108_1 Q108_2 Q108_3 Q108_4 S_114 hcs) X108 hx hZ hown (hw.w 171 rfl) (hw.w 172 rfl) (notFace_of_selects (args := #[]) (mvT hZ (hw.w 174 rfl))) (hw.w 174 rfl) (hw.w 173 rfl) (hw.w 107 rfl) (hw.w 175 rfl) Q108_0 rfl rfl rfl (by rw [hml]; rfl) (rest := [.ref b1, .ref b1]) (lenOf own_pd34 rfl) rfl (hb hby d17_20) (W := 2) (show 2 * 0 + _ = _ from rfl) (by decide) (by decide) ?_
  rintro _ T133 L133 X133 ⟨b_133, t_133, kt_133, rfl, N133q, K133q, Q133_0, Q133_1, Q133_2, Q133_3, x133_0, x133_1⟩
  have N133 := Fr.app N108 N133q
  have hk := Nat.le_trans hk K133q.1
  have ne_b1_b_133_136 : b1 ≠ b_133 := Nat.ne_of_lt (Nat.lt_of_lt_of_le E_117.lt x133_0)
  have sz_b_133 : h0.size ≤ b_133 := Nat.le_trans K132.1 x133_0
  have ne_b1_t_133_143 : b1 ≠ t_133 := Nat.ne_of_lt (Nat.lt_of_lt_of_le E_117.lt x133_1)
  have sz_t_133 : h0.size ≤ t_133 := Nat.le_trans K132.1 x133_1
  have S_154 := own_Sta_keep S_115 K133q all0
  have Y_155 := Safe.keep K133q all0 C131.1 Y_116
  have E_156 := E_117.keep K133q
  have F_157 := F_118.keep K133q nin0
  have F_158 := F_119.keep K133q nin0
  have C172 := CHr.trans C131 (CHr.keep K133q all0 C131.1)
  have K173 : Keep h0 T133.heap [] := K132.trans K133q all0
  refine own_go (B := T133.setTop (mkF m 24 #[Sr ro] [.ref ro, .ref b_133, .ref b1, .ref b1])) (fun _ k => XS.aloadN X133.here hx rfl (hb hby d17_23) rfl rfl k) ?_
  refine own_cS (own_rm39 l Z a0 hw [] ro em T133.heap n0 (Nat.le_trans Z0 K173.1) S_154) X133 hx hZ hown (hw.w 216 rfl) (hw.w 217 rfl) (hw.w 218 rfl) (hw.w 219 rfl) rfl rfl rfl (by rw [hml]; rfl) (rest := [.ref b_133, .ref b1, .ref b1]) (lenOf own_pd35 rfl) rfl (hb hby d17_24) (W := 3) (show 2 * 0 + _ = _ from rfl) (by decide) (by decide) ?_
  rintro _ T174 L174 X174 ⟨b_174, rfl, N174q, K174q, Q174_0, Q174_1, Q174_2, x174_0⟩
  have N174 := Fr.app N133 N174q
  have hk := Nat.le_trans hk K174q.1
  have ne_b1_b_174_177 : b1 ≠ b_174 := Nat.ne_of_lt (Nat.lt_of_lt_of_le E_156.lt x174_0)
  have sz_b_174 : h0.size ≤ b_174 := Nat.le_trans K173.1 x174_0
  have Y_191 := Safe.keep K174q all0 C172.1 Y_155
  have E_192 := E_156.keep K174q
  have F_193 := F_157.keep K174q nin0
  have F_194 := F_158.keep K174q nin0
  have E_206 := Q133_0.keep K174q
  have F_207 := Q133_1.keep K174q nin0
  have F_208 := Q133_2.keep K174q nin0
  have V_209 := Q133_3.keep K174q nin0
  have C213 := CHr.trans C172 (CHr.keep K174q all0 C172.1)
  have K214 : Keep h0 T174.heap [] := K173.trans K174q all0
  refine own_go (B := T174.setTop (mkF m 27 #[Sr ro] [.ref b_174, .ref b_133, .ref b1, .ref b1])) (fun _ k => k) ?_
  refine own_cS (own_rm42 l Z a0 hw [] b_174 T174.heap n0 (Nat.le_trans Z0 K214.1) ) X174 hx hZ hown (hw.w 242 rfl) (hw.w 243 rfl) (hw.w 101 rfl) (hw.w 244 rfl) rfl rfl rfl (by rw [hml]; rfl) (rest := [.ref b_133, .ref b1, .ref b1]) (lenOf own_pd36 rfl) rfl (hb hby d17_27) (W := 3) (show 2 * 0 + _ = _ from rfl) (by decide) (by decide) ?_
  rintro _ T215 L215 X215 ⟨b_215, rfl, N215q, K215q, Q215_0, x215_0⟩
  have N215 := Fr.app N174 N215q
  have hk := Nat.le_trans hk K215q.1
  have ne_b1_b_215_218 : b1 ≠ b_215 := Nat.ne_of_lt (Nat.lt_of_lt_of_le E_192.lt x215_0)
  have sz_b_215 : h0.size ≤ b_215 := Nat.le_trans K214.1 x215_0
  have Y_233 := Safe.keep K215q all0 C213.1 Y_191
  have E_234 := E_192.keep K215q
  have F_235 := F_193.keep K215q nin0
  have F_236 := F_194.keep K215q nin0
  have E_248 := E_206.keep K215q
  have F_249 := F_207.keep K215q nin0
  have F_250 := F_208.keep K215q nin0
  have V_251 := V_209.keep K215q nin0
  have E_254 := Q174_0.keep K215q
  have F_255 := Q174_1.keep K215q nin0
  have F_256 := Q174_2.keep K215q nin0
  have C259 := CHr.trans C213 (CHr.keep K215q all0 C213.1)
  have K260 : Keep h0 T215.heap [] := K214.trans K215q all0
  refine own_go (B := T215.setTop (mkF m 30 #[Sr ro] [.ref b_215, .ref b_133, .ref b1, .ref b1])) (fun _ k => k) ?_
  refine own_cN (own_rm43 l Z a0 hw [] b1 b_133 b_215 T215.heap n0 (Nat.le_trans Z0 K260.1) E_234 F_235 F_236 g_b1) X215 hx hZ hown (hw.w 249 rfl) (hw.w 250 rfl) (hw.w 101 rfl) (hw.w 251 rfl) rfl rfl rfl (by rw [hml]; rfl) (rest := [.ref b1]) (lenOf own_pd37 rfl) rfl (hb hby d17_30) (W := 1) (show 2 * 0 + _ = _ from rfl) (by decide) (by decide) rfl ?_
  rintro _ T261 L261 X261 ⟨rfl, N261q, K261q, Q261_0, Q261_1, Q261_2⟩
  have N261 := Fr.app N215 N261q
  have hk := Nat.le_trans hk K261q.1
  have E_284 := E_248.keep K261q
  have F_285 := F_249.keep K261q (ninS (Ne.symm ne_b1_b_133_136) nin0)
  have F_286 := F_250.keep K261q (ninS (Ne.symm ne_b1_b_133_136) nin0)
  have V_287 := V_251.keep K261q (ninS (Ne.symm ne_b1_t_133_143) nin0)
  have E_290 := E_254.keep K261q
  have F_291 := F_255.keep K261q (ninS (Ne.symm ne_b1_b_174_177) nin0)
  have F_292 := F_256.keep K261q (ninS (Ne.symm ne_b1_b_174_177) nin0)
  have G_294 := Q215_0.keep K261q (ninS (Ne.symm ne_b1_b_215_218) nin0)
  have C296 := CHr.trans C259 (CHr.keep K261q (allS Y_233 all0) C259.1)
  have K297 : Keep h0 T261.heap [] := K260.trans K261q (allS (Or.inr sz_b1) all0)
  refine own_go (B := T261.setTop (mkF m 33 #[Sr ro] [.ref b1])) (fun _ k => k) ?_
  exact own_retOH X261 hx hS Bd.notSynchronized hEL hZ hh C296 Bd.returns rfl (Or.inr (Or.inr (Or.inr (Or.inr ⟨rfl, rfl, rfl⟩)))) (hb hby d17_33) rfl hk ⟨b1, b_133, t_133, kt_133, b_215, b_174, rfl, N261, K297, Q261_0, Q261_1, Q261_2, E_284, F_285, F_286, V_287, G_294, E_290, F_291, F_292, sz_b1, sz_b_133, sz_t_133, sz_b_215, sz_b_174⟩ (by decide) (by decide)
abbrev R_own_gr12 : Room := ⟨7, 3, 32, 156⟩
theorem d44_0 : own_D cd44 0 (.aload_n 0) 1 := by decide +kernel
theorem d44_1 : own_D cd44 1 (.getfield 13) 3 := by decide +kernel
theorem d44_4 : own_D cd44 4 (.aload_n 1) 1 := by decide +kernel
theorem d44_5 : own_D cd44 5 (.ldc 77) 2 := by decide +kernel
theorem d44_7 : own_D cd44 7 (.invokestatic 79) 3 := by decide +kernel
theorem d44_10 : own_D cd44 10 (.checkcast 85) 3 := by decide +kernel
theorem d44_13 : own_D cd44 13 (.invokeinterface 87 2) 5 := by decide +kernel
theorem d44_18 : own_D cd44 18 .ireturn 1 := by decide +kernel
def Q_own_gr12 (Z : State) (a1 ro li em : Addr) (r : Int32) (au de q : Addr) (h0 : Heap) (n0 : Nat) (v : Option Value) (h : Heap) (L : List Loc) : Prop := v = some (.int (own_b (¬ (r = (0 : Int32))))) ∧ Fr n0 L ∧ Keep h0 h []
theorem own_gr12 (l : Launch) (Z : State) (a0 : Array Value) (hw : own_HW a0 Z) (ws : List Jvm.Cond) (a1 ro li em : Addr) (r : Int32) (au de q : Addr) (h0 : Heap) (n0 : Nat) (Z0 : n0 ≤ h0.size) (P_E_a1 : Exa Z h0 a1 nn1_) (P_E_li : Exa Z h0 li nn2_) (P_F_li_e0 : Fld Z h0 li nn2_ "e0" nn9_ (.ref ro)) (P_F_li_e1 : Fld Z h0 li nn2_ "e1" nn9_ (.ref em)) (P_S_EMPTY : Sta Z h0 nn15_ "EMPTY" nn9_ (.ref em)) (P_E_au : Exa Z h0 au nn8_) (P_F_au_roles : Fld Z h0 au nn8_ "roles" nn13_ (.ref a1)) (P_F_de_grants : Fld Z h0 de nn6_ "grants" nn12_ (.ref q)) (P_G_q_fn : own_Fn Z h0 q li) (hCon : ∀ h', Keep h0 h' [] → own_MF l own_y57 (Jvm.Cond.code own_y57 jdk_101_method_5_code 2 (some .boolean)) [] { frames := 3, cells := 0, slots := 0, locals := 100 } #[.ref a1, .ref ro] Z h' (fun v h L => v = some (.int r) ∧ Fr n0 L ∧ h = h')) :
    MetFree l own_y63 (head1 (Jvm.Cond.code own_y63 prog_8_method_7_code 2 (some .boolean) :: ws) R_own_gr12) (fun a U => a = #[.ref de, .ref au] ∧ Z.Warmed39 U.vm ∧ U.heap = h0 ∧ CHv Z own_EL U.vm h0) (fun _ _ _ _ _ => True) (fun _ U o U' => ∃ v L, o = .returned v ∧ Q_own_gr12 Z a1 ro li em r au de q h0 n0 v U'.heap L ∧ CHr Z own_EL U.vm U.heap U'.vm U'.heap ∧ ReturnedEndW U o U' L R_own_gr12.cells R_own_gr12.slots) := by
  refine MetFree.of_bodySF (plainFor_of_name own_pn16) hisR ?_
  intro p e s m args below meth c s₁ Bd hml0 hP hK
  obtain ⟨rfl, hZ, hh, H0⟩ := hP
  have hx := Bd.exec
  have hby := Bd.bytes
  have hml : c.maxLocals = 2 := hml0
  have hown : s.vm.findClass "com/example/aduana/aduana/core/AccessDecision" = some m.cls := findClass_of_methodNamed Bd.named
  have hnm := (name_of_methodNamed Bd.named Bd.method).1
  have X0 : Stand p l e R_own_gr12 (s.setVm s.vm) m #[.ref de, .ref au] below meth c s₁ [] 0 0 := Stand.of_body Bd
  have e0 : s₁.heap = h0 := by rw [← hh, Bd.state]; rfl
  have N0 := Fr.nil n0
  have K0 : Keep h0 h0 [] := Keep.refl h0 []
  have hEL := own_ELok hw
  have C0 := CHr.refl H0
  have hS : s.Since s.vm h0.size := (State.WarmedH.refl s).since _
  have hk : h0.size ≤ h0.size := Nat.le_refl _
  have hZ : Z.Warmed39 (s.setVm s.vm).vm := hZ
  have hown : (s.setVm s.vm).vm.findClass "com/example/aduana/aduana/core/AccessDecision" = some m.cls := hown
  have wS : ∀ d ∈ Bundle.stringAtoms, d.before a0 Z = true := fun d hd => hw d (own_strs d hd)
  show own_FinH Z p e below s (Q_own_gr12 Z a1 ro li em r au de q h0 n0) R_own_gr12.cells R_own_gr12.slots (s₁.setTop (entryFrame m #[.ref de, .ref au] 2))
  refine own_go (fun _ k => castTop (ef1 m de au) k) ?_
  show own_FinH Z _ _ _ _ _ _ _ (s₁.setTop (mkF m 0 #[Sr de, Sr au] []))
  refine own_go (B := s₁.setTop (mkF m 1 #[Sr de, Sr au] [.ref de])) (fun _ k => XS.aloadN X0.here hx rfl (hb hby d44_0) rfl rfl k) ?_
  refine own_gF X0 hx hZ hown (hw.w 255 rfl) Via.refl e0 P_F_de_grants rfl rfl (hb hby d44_1) fun T1 X1 e1 => ?_
  refine own_go (B := T1.setTop (mkF m 5 #[Sr de, Sr au] [.ref au, .ref q])) (fun _ k => XS.aloadN X1.here hx rfl (hb hby d44_4) rfl rfl k) ?_
  obtain ⟨as2, T2, h2, kk2, X2, e2, E2, hS, hk, hZ, hown, hC2, -, st2⟩ := ldcOH X1 hx hZ hown (hw.w 262 rfl) wS e1 hS hk hEL C0.1 (g := (mkF m 5 #[Sr de, Sr au] [.ref au, .ref q])) rfl (hb hby d44_5) (n := 24) (by decide +kernel) (by decide) (by decide) (by decide)
  have E_4 := P_E_a1.ext E2
  have E_5 := P_E_li.ext E2
  have F_6 := P_F_li_e0.ext E2
  have F_7 := P_F_li_e1.ext E2
  have S_8 := P_S_EMPTY.ext E2
  have E_9 := P_E_au.ext E2
  have F_10 := P_F_au_roles.ext E2
  have G_12 := P_G_q_fn.ext E2
  have C13 := CHr.trans C0 hC2
  have K14 : Keep h0 h2 [] := K0.ext E2
  refine own_go (B := T2.setTop (mkF m 7 #[Sr de, Sr au] [.ref as2, .ref au, .ref q])) (fun _ k => st2 _ k) ?_
  refine own_cS (own_rm15 l Z a0 hw [] au as2 h2 n0 (Nat.le_trans Z0 K14.1) ) X2 hx hZ hown (hw.w 263 rfl) (hw.w 84 rfl) (hw.w 62 rfl) (hw.w 85 rfl) e2 rfl rfl (by rw [hml]; rfl) (rest := [.ref q]) (lenOf own_pd30 rfl) rfl (hb hby d44_7) (W := 1) (show 2 * 0 + _ = _ from rfl) (by decide) (by decide) ?_
  rintro _ T15 L15 X15 ⟨rfl, N15q, e15⟩
  have N15 := Fr.app N0 N15q
  refine own_go (B := T15.setTop (mkF m 10 #[Sr de, Sr au] [.ref au, .ref q])) (fun _ k => k) ?_
  refine own_cY X15 hx hZ hown (hw.w 264 rfl) e15 (Ins.self E_9) rfl rfl (hb hby d44_10) fun T16 X16 e16 => ?_
  refine own_go (B := T16.setTop (mkF m 13 #[Sr de, Sr au] [.ref au, .ref q])) (fun _ k => k) ?_
  obtain ⟨cK17, hmd17, hcl17⟩ := id G_12
  obtain ⟨v17, sa17, tb17, T17, Lq17, X17, hL17, eh17, -, hq17, st17⟩ := LamKit.callLamS X16 hx (own := own_AD) (host := own_AD) (index := 87) (count := 2) (xi := own_xi) (y := own_y56) (σ := own_sig) (own_met (own_lam12 l Z a0 hw [] a1 ro li em r au h2 n0 (Nat.le_trans Z0 K14.1) E_4 E_5 F_6 F_7 S_8 E_9 F_10 (fun h' K' => hCon h' (K14.trans K' all0))) (fun v h L q => q.2.1)) (fun _ _ _ _ h => h) rfl rfl (fun w hw' a' U hU => by rw [List.mem_singleton.mp hw']; exact mv (wtrans hZ hU) (hw.w 270 rfl)) (List.mem_singleton.mpr rfl) hown (mvT hZ (hw.w 266 rfl)) (mvT hZ (hw.w 267 rfl)) (mvT hZ (hw.w 268 rfl)) (mvT hZ (hw.w 270 rfl)) (mvT hZ (hw.w 269 rfl)) (mvT hZ (hw.w 101 rfl)) (by decide +kernel) (by decide +kernel) (by decide) (own_made39 hZ hmd17) ⟨_, own_hc e16 hcl17, rfl, rfl⟩ own_fwd own_f8 own_f11 (g := (mkF m 13 #[Sr de, Sr au] [.ref au, .ref q])) rfl (by rw [hml]; rfl) (argsL := [.ref au]) (argsT := [.ref li, .ref au]) (rest := []) (L0 := #[Sr q, Sr au]) (lenOf own_pd9 rfl) (lenOf own_pd38 rfl) rfl (hb hby d44_13) (fun _ => rfl) rfl (fun U ck bl target hU hck hh' hW' k => XS.aloadN hU hx rfl (hb hck own_f0) rfl rfl (LamKit.getCap hx hU hW' (own_made39 hZ hmd17) own_cap (mvT (args := #[]) hZ (hw.w 248 rfl)) (own_hc (hh'.trans e16) hcl17) rfl (v := .ref li) rfl rfl rfl (hb hck own_f1) (XS.aloadN hU hx rfl (hb hck own_f4) rfl rfl (own_ckc hx hU (wtrans hZ hW') hmd17 (own_insH (hh'.trans e16) (Ins.self E_9)) rfl rfl (hb hck own_f5) k)))) (fun sa w tb h => by obtain ⟨v, L, h1, h2⟩ := h; cases h1; obtain ⟨rfl, -⟩ := h2; exact Or.inl ⟨.boolean, _, rfl, Or.inr (Or.inl rfl), own_narbool _, rfl, rfl⟩) (by decide) (by show 2 * 0 + 0 + (2 + 11) + ((2 + 11) + _) ≤ _; decide) (by decide) (by decide) (fun U hU hh' => ⟨rfl, wtrans hZ hU, hh'.trans e16⟩)
  obtain ⟨v2, L2, hv17, hQ17⟩ := hq17
  cases hv17
  obtain ⟨rfl, -, Kq17⟩ := hQ17
  rw [← eh17] at Kq17
  have N17 : Fr n0 _ := Fr.app N15 (fun y hy => hL17 y hy)
  have hk := Nat.le_trans hk Kq17.1
  have C28 := CHr.trans C13 (CHr.keep Kq17 all0 C13.1)
  have K29 : Keep h0 T17.heap [] := K14.trans Kq17 all0
  refine own_go (B := T17.setTop (mkF m 18 #[Sr de, Sr au] [(.int (own_b (¬ (r = (0 : Int32)))))])) (fun _ k => st17 _ k) ?_
  exact own_retNH X17 hx hS Bd.notSynchronized hEL hZ hh C28 (t := .boolean) (w := (own_b (¬ (r = (0 : Int32))))) Bd.returns (by simp) (hb hby d44_18) rfl hk (own_narB _) ⟨rfl, N17, K29⟩ (by decide) (by decide)
abbrev R_own_grN : Room := ⟨6, 3, 32, 82⟩
def Q_own_grN (Z : State) (a1 ro li lem au de q : Addr) (h0 : Heap) (n0 : Nat) (v : Option Value) (h : Heap) (L : List Loc) : Prop := v = some (.int 0) ∧ Fr n0 L ∧ Keep h0 h []
theorem own_grN (l : Launch) (Z : State) (a0 : Array Value) (hw : own_HW a0 Z) (ws : List Jvm.Cond) (a1 ro li lem au de q : Addr) (h0 : Heap) (n0 : Nat) (Z0 : n0 ≤ h0.size) (P_E_a1 : Exa Z h0 a1 nn4_) (P_F_a1_size : Fld Z h0 a1 nn4_ "size" "I" (.int 0)) (P_E_li : Exa Z h0 li nn2_) (P_F_li_e0 : Fld Z h0 li nn2_ "e0" nn9_ (.ref ro)) (P_F_li_e1 : Fld Z h0 li nn2_ "e1" nn9_ (.ref lem)) (P_S_EMPTY : Sta Z h0 nn15_ "EMPTY" nn9_ (.ref lem)) (P_E_au : Exa Z h0 au nn8_) (P_F_au_roles : Fld Z h0 au nn8_ "roles" nn13_ (.ref a1)) (P_F_de_grants : Fld Z h0 de nn6_ "grants" nn12_ (.ref q)) (P_G_q_fn : own_Fn Z h0 q li) :
    MetFree l own_y63 (head1 (Jvm.Cond.code own_y63 prog_8_method_7_code 2 (some .boolean) :: ws) R_own_grN) (fun a U => a = #[.ref de, .ref au] ∧ Z.Warmed39 U.vm ∧ U.heap = h0 ∧ CHv Z own_EL U.vm h0) (fun _ _ _ _ _ => True) (fun _ U o U' => ∃ v L, o = .returned v ∧ Q_own_grN Z a1 ro li lem au de q h0 n0 v U'.heap L ∧ CHr Z own_EL U.vm U.heap U'.vm U'.heap ∧ ReturnedEndW U o U' L R_own_grN.cells R_own_grN.slots) := by
  refine MetFree.of_bodySF (plainFor_of_name own_pn16) hisR ?_
  intro p e s m args below meth c s₁ Bd hml0 hP hK
  obtain ⟨rfl, hZ, hh, H0⟩ := hP
  have hx := Bd.exec
  have hby := Bd.bytes
  have hml : c.maxLocals = 2 := hml0
  have hown : s.vm.findClass "com/example/aduana/aduana/core/AccessDecision" = some m.cls := findClass_of_methodNamed Bd.named
  have hnm := (name_of_methodNamed Bd.named Bd.method).1
  have X0 : Stand p l e R_own_grN (s.setVm s.vm) m #[.ref de, .ref au] below meth c s₁ [] 0 0 := Stand.of_body Bd
  have e0 : s₁.heap = h0 := by rw [← hh, Bd.state]; rfl
  have N0 := Fr.nil n0
  have K0 : Keep h0 h0 [] := Keep.refl h0 []
  have hEL := own_ELok hw
  have C0 := CHr.refl H0
  have hS : s.Since s.vm h0.size := (State.WarmedH.refl s).since _
  have hk : h0.size ≤ h0.size := Nat.le_refl _
  have hZ : Z.Warmed39 (s.setVm s.vm).vm := hZ
  have hown : (s.setVm s.vm).vm.findClass "com/example/aduana/aduana/core/AccessDecision" = some m.cls := hown
  have wS : ∀ d ∈ Bundle.stringAtoms, d.before a0 Z = true := fun d hd => hw d (own_strs d hd)
  show own_FinH Z p e below s (Q_own_grN Z a1 ro li lem au de q h0 n0) R_own_grN.cells R_own_grN.slots (s₁.setTop (entryFrame m #[.ref de, .ref au] 2))
  refine own_go (fun _ k => castTop (ef1 m de au) k) ?_
  show own_FinH Z _ _ _ _ _ _ _ (s₁.setTop (mkF m 0 #[Sr de, Sr au] []))
  refine own_go (B := s₁.setTop (mkF m 1 #[Sr de, Sr au] [.ref de])) (fun _ k => XS.aloadN X0.here hx rfl (hb hby d44_0) rfl rfl k) ?_
  refine own_gF X0 hx hZ hown (hw.w 255 rfl) Via.refl e0 P_F_de_grants rfl rfl (hb hby d44_1) fun T1 X1 e1 => ?_
  refine own_go (B := T1.setTop (mkF m 5 #[Sr de, Sr au] [.ref au, .ref q])) (fun _ k => XS.aloadN X1.here hx rfl (hb hby d44_4) rfl rfl k) ?_
  obtain ⟨as2, T2, h2, kk2, X2, e2, E2, hS, hk, hZ, hown, hC2, -, st2⟩ := ldcOH X1 hx hZ hown (hw.w 262 rfl) wS e1 hS hk hEL C0.1 (g := (mkF m 5 #[Sr de, Sr au] [.ref au, .ref q])) rfl (hb hby d44_5) (n := 24) (by decide +kernel) (by decide) (by decide) (by decide)
  have E_4 := P_E_a1.ext E2
  have F_5 := P_F_a1_size.ext E2
  have E_6 := P_E_li.ext E2
  have F_7 := P_F_li_e0.ext E2
  have F_8 := P_F_li_e1.ext E2
  have S_9 := P_S_EMPTY.ext E2
  have E_10 := P_E_au.ext E2
  have F_11 := P_F_au_roles.ext E2
  have G_13 := P_G_q_fn.ext E2
  have C14 := CHr.trans C0 hC2
  have K15 : Keep h0 h2 [] := K0.ext E2
  refine own_go (B := T2.setTop (mkF m 7 #[Sr de, Sr au] [.ref as2, .ref au, .ref q])) (fun _ k => st2 _ k) ?_
  refine own_cS (own_rm15 l Z a0 hw [] au as2 h2 n0 (Nat.le_trans Z0 K15.1) ) X2 hx hZ hown (hw.w 263 rfl) (hw.w 84 rfl) (hw.w 62 rfl) (hw.w 85 rfl) e2 rfl rfl (by rw [hml]; rfl) (rest := [.ref q]) (lenOf own_pd30 rfl) rfl (hb hby d44_7) (W := 1) (show 2 * 0 + _ = _ from rfl) (by decide) (by decide) ?_
  rintro _ T16 L16 X16 ⟨rfl, N16q, e16⟩
  have N16 := Fr.app N0 N16q
  refine own_go (B := T16.setTop (mkF m 10 #[Sr de, Sr au] [.ref au, .ref q])) (fun _ k => k) ?_
  refine own_cY X16 hx hZ hown (hw.w 264 rfl) e16 (Ins.self E_10) rfl rfl (hb hby d44_10) fun T17 X17 e17 => ?_
  refine own_go (B := T17.setTop (mkF m 13 #[Sr de, Sr au] [.ref au, .ref q])) (fun _ k => k) ?_
  obtain ⟨cK18, hmd18, hcl18⟩ := id G_13
  obtain ⟨v18, sa18, tb18, T18, Lq18, X18, hL18, eh18, -, hq18, st18⟩ := LamKit.callLamS X17 hx (own := own_AD) (host := own_AD) (index := 87) (count := 2) (xi := own_xi) (y := own_y56) (σ := own_sig) (own_met (own_lamN l Z a0 hw [] a1 ro li lem au h2 n0 (Nat.le_trans Z0 K15.1) E_4 F_5 E_6 F_7 F_8 S_9 E_10 F_11) (fun v h L q => q.2.1)) (fun _ _ _ _ h => h) rfl rfl (fun w hw' a' U hU => by rw [List.mem_singleton.mp hw']; exact mv (wtrans hZ hU) (hw.w 270 rfl)) (List.mem_singleton.mpr rfl) hown (mvT hZ (hw.w 266 rfl)) (mvT hZ (hw.w 267 rfl)) (mvT hZ (hw.w 268 rfl)) (mvT hZ (hw.w 270 rfl)) (mvT hZ (hw.w 269 rfl)) (mvT hZ (hw.w 101 rfl)) (by decide +kernel) (by decide +kernel) (by decide) (own_made39 hZ hmd18) ⟨_, own_hc e17 hcl18, rfl, rfl⟩ own_fwd own_f8 own_f11 (g := (mkF m 13 #[Sr de, Sr au] [.ref au, .ref q])) rfl (by rw [hml]; rfl) (argsL := [.ref au]) (argsT := [.ref li, .ref au]) (rest := []) (L0 := #[Sr q, Sr au]) (lenOf own_pd9 rfl) (lenOf own_pd38 rfl) rfl (hb hby d44_13) (fun _ => rfl) rfl (fun U ck bl target hU hck hh' hW' k => XS.aloadN hU hx rfl (hb hck own_f0) rfl rfl (LamKit.getCap hx hU hW' (own_made39 hZ hmd18) own_cap (mvT (args := #[]) hZ (hw.w 248 rfl)) (own_hc (hh'.trans e17) hcl18) rfl (v := .ref li) rfl rfl rfl (hb hck own_f1) (XS.aloadN hU hx rfl (hb hck own_f4) rfl rfl (own_ckc hx hU (wtrans hZ hW') hmd18 (own_insH (hh'.trans e17) (Ins.self E_10)) rfl rfl (hb hck own_f5) k)))) (fun sa w tb h => by obtain ⟨v, L, h1, h2⟩ := h; cases h1; obtain ⟨rfl, -⟩ := h2; exact Or.inl ⟨.boolean, _, rfl, Or.inr (Or.inl rfl), rfl, rfl, rfl⟩) (by decide) (by show 2 * 0 + 0 + (2 + 11) + ((2 + 11) + _) ≤ _; decide) (by decide) (by decide) (fun U hU hh' => ⟨rfl, wtrans hZ hU, hh'.trans e17⟩)
  obtain ⟨v2, L2, hv18, hQ18⟩ := hq18
  cases hv18
  obtain ⟨rfl, -, Kq18⟩ := hQ18
  rw [← eh18] at Kq18
  have N18 : Fr n0 _ := Fr.app N16 (fun y hy => hL18 y hy)
  have hk := Nat.le_trans hk Kq18.1
  have C30 := CHr.trans C14 (CHr.keep Kq18 all0 C14.1)
  have K31 : Keep h0 T18.heap [] := K15.trans Kq18 all0
  refine own_go (B := T18.setTop (mkF m 18 #[Sr de, Sr au] [.int 0])) (fun _ k => st18 _ k) ?_
  exact own_retNH X18 hx hS Bd.notSynchronized hEL hZ hh C30 (t := .boolean) (w := (0 : Int32)) Bd.returns (by simp) (hb hby d44_18) rfl hk rfl ⟨rfl, N18, K31⟩ (by decide) (by decide)
abbrev R_own_rm63r : Room := ⟨0, 0, 0, 0⟩
theorem d63_0 : own_D cd63 0 (.iload_n 0) 1 := by decide +kernel
theorem d63_1 : own_D cd63 1 (.ifCond .lt 8) 3 := by decide +kernel
theorem d63_4 : own_D cd63 4 (.iload_n 0) 1 := by decide +kernel
theorem d63_5 : own_D cd63 5 (.iload_n 1) 1 := by decide +kernel
theorem d63_6 : own_D cd63 6 (.if_icmp .lt 10) 3 := by decide +kernel
theorem d63_16 : own_D cd63 16 (.iload_n 0) 1 := by decide +kernel
theorem d63_17 : own_D cd63 17 .ireturn 1 := by decide +kernel
theorem own_pn20 : plainName "jdk/internal/util/Preconditions" = true := by first | (simp [plainName, overriddenIn]; done) | decide +kernel
theorem ef35 (m : MethodId) (x0 x1 : Int32) (x2 : Addr) : entryFrame m #[(.int x0), (.int x1), (.ref x2)] 3 = mkF m 0 #[.val (.int x0), .val (.int x1), .val (.ref x2)] [] := by first | (simp [entryFrame, mkF, argsToLocals, Value.category]; done) | rfl
theorem own_pl_rm63r_1 (j n : Int32) (hj0 : 0 ≤ j.toInt) (hj1 : j.toInt < n.toInt) : ¬ (j < (0 : Int32)) := by
  have := rng32 j
  have := rng32 n
  try simp only [own_i32_0] at *
  have := own_i32_0
  try simp only [Int32.lt_iff_toInt_lt, Int32.le_iff_toInt_le, ← Int32.toInt_inj, true_and, and_true, true_or, or_true, false_or, or_false, not_true_eq_false, not_false_eq_true, false_and, and_false, ne_eq] at *
  all_goals first | omega | (simp; done)
theorem own_pl_rm63r_2 (j n : Int32) (hj0 : 0 ≤ j.toInt) (hj1 : j.toInt < n.toInt) (hc1 : ¬ (j < (0 : Int32))) : j < n := by
  have := rng32 j
  have := rng32 n
  try simp only [own_i32_0] at *
  have := own_i32_0
  try simp only [Int32.lt_iff_toInt_lt, Int32.le_iff_toInt_le, ← Int32.toInt_inj, true_and, and_true, true_or, or_true, false_or, or_false, not_true_eq_false, not_false_eq_true, false_and, and_false, ne_eq] at *
  all_goals first | omega | (simp; done)
def Q_own_rm63r (Z : State) (j n : Int32) (sf : Addr) (h0 : Heap) (n0 : Nat) (v : Option Value) (h : Heap) (L : List Loc) : Prop := v = some (.int j) ∧ Fr n0 L ∧ h = h0
theorem own_rm63r (l : Launch) (Z : State) (a0 : Array Value) (hw : own_HW a0 Z) (ws : List Jvm.Cond) (j n : Int32) (sf : Addr) (h0 : Heap) (n0 : Nat) (Z0 : n0 ≤ h0.size) (hj0 : 0 ≤ j.toInt) (hj1 : j.toInt < n.toInt) :
    own_MF l own_y64 (Jvm.Cond.code own_y64 jdk_41_method_11_code 3 (some .int)) ws R_own_rm63r #[.int j, .int n, .ref sf] Z h0 (Q_own_rm63r Z j n sf h0 n0) := by
  refine own_begin (plainFor_of_name own_pn20) (fun m => ef35 m j n sf) ?_
  intro p e s m below meth c s₁ hx hby hml hown hnm hlk hret hZ X0 e0
  have N0 := Fr.nil n0
  have K0 := Keep.refl h0 []
  refine own_go (B := s₁.setTop (mkF m 1 #[Si j, Si n, Sr sf] [.int j])) (fun _ k => XS.iloadN X0.here hx rfl (hb hby d63_0) rfl  k) ?_
  have hc1 : ¬ (j < (0 : Int32)) := (own_pl_rm63r_1 j n hj0 hj1)
  refine own_go (B := s₁.setTop (mkF m 6 #[Si j, Si n, Sr sf] [.int n, .int j])) (fun _ k => XS.ifNo X0.here hx rfl (hb hby d63_1) rfl ((if0 _ _).trans (flt hc1).1) (XS.iloadN X0.here hx rfl (hb hby d63_4) rfl (XS.iloadN X0.here hx rfl (hb hby d63_5) rfl  k))) ?_
  have hc2 : j < n := (own_pl_rm63r_2 j n hj0 hj1 hc1)
  refine own_go (B := s₁.setTop (mkF m 17 #[Si j, Si n, Sr sf] [.int j])) (fun _ k => XS.icmpYes X0.here hx rfl (pc0 := 6) (pc' := 16) rfl (hb hby d63_6) rfl (tlt hc2).1 (by decide) (by decide) (XS.iloadN X0.here hx rfl (hb hby d63_16) rfl  k)) ?_
  exact own_retI X0 hx hlk hret (hb hby d63_17) e0 ⟨rfl, N0, rfl⟩ (by decide) (by decide)
abbrev R_own_rm62r : Room := ⟨1, 0, 0, 14⟩
theorem d62_0 : own_D cd62 0 (.iload_n 0) 1 := by decide +kernel
theorem d62_1 : own_D cd62 1 (.iload_n 1) 1 := by decide +kernel
theorem d62_2 : own_D cd62 2 (.getstatic 1053) 3 := by decide +kernel
theorem d62_5 : own_D cd62 5 (.invokestatic 1059) 3 := by decide +kernel
theorem d62_8 : own_D cd62 8 .pop 1 := by decide +kernel
theorem d62_9 : own_D cd62 9 .return_ 1 := by decide +kernel
theorem ef36 (m : MethodId) (x0 x1 : Int32) : entryFrame m #[(.int x0), (.int x1)] 2 = mkF m 0 #[.val (.int x0), .val (.int x1)] [] := by first | (simp [entryFrame, mkF, argsToLocals, Value.category]; done) | rfl
def Q_own_rm62r (Z : State) (j n : Int32) (sf : Addr) (h0 : Heap) (n0 : Nat) (v : Option Value) (h : Heap) (L : List Loc) : Prop := v = none ∧ Fr n0 L ∧ h = h0
theorem own_rm62r (l : Launch) (Z : State) (a0 : Array Value) (hw : own_HW a0 Z) (ws : List Jvm.Cond) (j n : Int32) (sf : Addr) (h0 : Heap) (n0 : Nat) (Z0 : n0 ≤ h0.size) (P_S_SIOOBE_FORMATTER : Sta Z h0 nn21_ nn22_ nn23_ (.ref sf)) (hj0 : 0 ≤ j.toInt) (hj1 : j.toInt < n.toInt) :
    own_MF l own_y65 (Jvm.Cond.code own_y65 jdk_42_method_155_code 2 none) ws R_own_rm62r #[.int j, .int n] Z h0 (Q_own_rm62r Z j n sf h0 n0) := by
  refine own_begin (plainFor_of_name own_pn10) (fun m => ef36 m j n) ?_
  intro p e s m below meth c s₁ hx hby hml hown hnm hlk hret hZ X0 e0
  have N0 := Fr.nil n0
  have K0 := Keep.refl h0 []
  refine own_go (B := s₁.setTop (mkF m 2 #[Si j, Si n] [.int n, .int j])) (fun _ k => XS.iloadN X0.here hx rfl (hb hby d62_0) rfl (XS.iloadN X0.here hx rfl (hb hby d62_1) rfl  k)) ?_
  refine own_gS X0 hx hZ hown (hw.w 383 rfl) Via.refl e0 P_S_SIOOBE_FORMATTER rfl (hb hby d62_2) fun T1 X1 e1 => ?_
  refine own_go (B := T1.setTop (mkF m 5 #[Si j, Si n] [.ref sf, .int n, .int j])) (fun _ k => k) ?_
  refine own_cS (own_rm63r l Z a0 hw [] j n sf h0 n0 (Nat.le_trans Z0 K0.1) hj0 hj1) X1 hx hZ hown (hw.w 385 rfl) (hw.w 386 rfl) (hw.w 384 rfl) (hw.w 387 rfl) e1 rfl rfl (by rw [hml]; rfl) (rest := []) (lenOf own_pd39 rfl) rfl (hb hby d62_5) (W := 0) (show 2 * 0 + _ = _ from rfl) (by decide) (by decide) ?_
  rintro _ T2 L2 X2 ⟨rfl, N2q, e2⟩
  have N2 := Fr.app N0 N2q
  refine own_go (B := T2.setTop (mkF m 9 #[Si j, Si n] [])) (fun _ k => XS.pop X2.here hx rfl (hb hby d62_8) rfl rfl k) ?_
  exact own_retV X2 hx hlk hret (hb hby d62_9) e2 ⟨rfl, N2, rfl⟩ (by decide) (by decide)
abbrev R_own_rm63n : Room := ⟨0, 0, 0, 0⟩
theorem ef37 (m : MethodId) (x0 x1 : Int32) : entryFrame m #[(.int x0), (.int x1), .null] 3 = mkF m 0 #[.val (.int x0), .val (.int x1), .val .null] [] := by first | (simp [entryFrame, mkF, argsToLocals, Value.category]; done) | rfl
theorem own_pl_rm63n_1 (j n : Int32) (hj0 : 0 ≤ j.toInt) (hj1 : j.toInt < n.toInt) : ¬ (j < (0 : Int32)) := by
  have := rng32 j
  have := rng32 n
  try simp only [own_i32_0] at *
  have := own_i32_0
  try simp only [Int32.lt_iff_toInt_lt, Int32.le_iff_toInt_le, ← Int32.toInt_inj, true_and, and_true, true_or, or_true, false_or, or_false, not_true_eq_false, not_false_eq_true, false_and, and_false, ne_eq] at *
  all_goals first | omega | (simp; done)
theorem own_pl_rm63n_2 (j n : Int32) (hj0 : 0 ≤ j.toInt) (hj1 : j.toInt < n.toInt) (hc1 : ¬ (j < (0 : Int32))) : j < n := by
  have := rng32 j
  have := rng32 n
  try simp only [own_i32_0] at *
  have := own_i32_0
  try simp only [Int32.lt_iff_toInt_lt, Int32.le_iff_toInt_le, ← Int32.toInt_inj, true_and, and_true, true_or, or_true, false_or, or_false, not_true_eq_false, not_false_eq_true, false_and, and_false, ne_eq] at *
  all_goals first | omega | (simp; done)
def Q_own_rm63n (Z : State) (j n : Int32) (h0 : Heap) (n0 : Nat) (v : Option Value) (h : Heap) (L : List Loc) : Prop := v = some (.int j) ∧ Fr n0 L ∧ h = h0
theorem own_rm63n (l : Launch) (Z : State) (a0 : Array Value) (hw : own_HW a0 Z) (ws : List Jvm.Cond) (j n : Int32) (h0 : Heap) (n0 : Nat) (Z0 : n0 ≤ h0.size) (hj0 : 0 ≤ j.toInt) (hj1 : j.toInt < n.toInt) :
    own_MF l own_y64 (Jvm.Cond.code own_y64 jdk_41_method_11_code 3 (some .int)) ws R_own_rm63n #[.int j, .int n, .null] Z h0 (Q_own_rm63n Z j n h0 n0) := by
  refine own_begin (plainFor_of_name own_pn20) (fun m => ef37 m j n) ?_
  intro p e s m below meth c s₁ hx hby hml hown hnm hlk hret hZ X0 e0
  have N0 := Fr.nil n0
  have K0 := Keep.refl h0 []
  refine own_go (B := s₁.setTop (mkF m 1 #[Si j, Si n, .val .null] [.int j])) (fun _ k => XS.iloadN X0.here hx rfl (hb hby d63_0) rfl  k) ?_
  have hc1 : ¬ (j < (0 : Int32)) := (own_pl_rm63n_1 j n hj0 hj1)
  refine own_go (B := s₁.setTop (mkF m 6 #[Si j, Si n, .val .null] [.int n, .int j])) (fun _ k => XS.ifNo X0.here hx rfl (hb hby d63_1) rfl ((if0 _ _).trans (flt hc1).1) (XS.iloadN X0.here hx rfl (hb hby d63_4) rfl (XS.iloadN X0.here hx rfl (hb hby d63_5) rfl  k))) ?_
  have hc2 : j < n := (own_pl_rm63n_2 j n hj0 hj1 hc1)
  refine own_go (B := s₁.setTop (mkF m 17 #[Si j, Si n, .val .null] [.int j])) (fun _ k => XS.icmpYes X0.here hx rfl (pc0 := 6) (pc' := 16) rfl (hb hby d63_6) rfl (tlt hc2).1 (by decide) (by decide) (XS.iloadN X0.here hx rfl (hb hby d63_16) rfl  k)) ?_
  exact own_retI X0 hx hlk hret (hb hby d63_17) e0 ⟨rfl, N0, rfl⟩ (by decide) (by decide)
abbrev R_own_rm62n : Room := ⟨1, 0, 0, 14⟩
def Q_own_rm62n (Z : State) (j n : Int32) (h0 : Heap) (n0 : Nat) (v : Option Value) (h : Heap) (L : List Loc) : Prop := v = none ∧ Fr n0 L ∧ h = h0
theorem own_rm62n (l : Launch) (Z : State) (a0 : Array Value) (hw : own_HW a0 Z) (ws : List Jvm.Cond) (j n : Int32) (h0 : Heap) (n0 : Nat) (Z0 : n0 ≤ h0.size) (P_S_SIOOBE_FORMATTER : Sta Z h0 nn21_ nn22_ nn23_ .null) (hj0 : 0 ≤ j.toInt) (hj1 : j.toInt < n.toInt) :
    own_MF l own_y65 (Jvm.Cond.code own_y65 jdk_42_method_155_code 2 none) ws R_own_rm62n #[.int j, .int n] Z h0 (Q_own_rm62n Z j n h0 n0) := by
  refine own_begin (plainFor_of_name own_pn10) (fun m => ef36 m j n) ?_
  intro p e s m below meth c s₁ hx hby hml hown hnm hlk hret hZ X0 e0
  have N0 := Fr.nil n0
  have K0 := Keep.refl h0 []
  refine own_go (B := s₁.setTop (mkF m 2 #[Si j, Si n] [.int n, .int j])) (fun _ k => XS.iloadN X0.here hx rfl (hb hby d62_0) rfl (XS.iloadN X0.here hx rfl (hb hby d62_1) rfl  k)) ?_
  refine own_gS X0 hx hZ hown (hw.w 383 rfl) Via.refl e0 P_S_SIOOBE_FORMATTER rfl (hb hby d62_2) fun T1 X1 e1 => ?_
  refine own_go (B := T1.setTop (mkF m 5 #[Si j, Si n] [.null, .int n, .int j])) (fun _ k => k) ?_
  refine own_cS (own_rm63n l Z a0 hw [] j n h0 n0 (Nat.le_trans Z0 K0.1) hj0 hj1) X1 hx hZ hown (hw.w 385 rfl) (hw.w 386 rfl) (hw.w 384 rfl) (hw.w 387 rfl) e1 rfl rfl (by rw [hml]; rfl) (rest := []) (lenOf own_pd39 rfl) rfl (hb hby d62_5) (W := 0) (show 2 * 0 + _ = _ from rfl) (by decide) (by decide) ?_
  rintro _ T2 L2 X2 ⟨rfl, N2q, e2⟩
  have N2 := Fr.app N0 N2q
  refine own_go (B := T2.setTop (mkF m 9 #[Si j, Si n] [])) (fun _ k => XS.pop X2.here hx rfl (hb hby d62_8) rfl rfl k) ?_
  exact own_retV X2 hx hlk hret (hb hby d62_9) e2 ⟨rfl, N2, rfl⟩ (by decide) (by decide)
theorem own_rm62 (l : Launch) (Z : State) (a0 : Array Value) (hw : own_HW a0 Z) (ws : List Jvm.Cond) (j n : Int32) (sf : Value) (h0 : Heap) (n0 : Nat) (Z0 : n0 ≤ h0.size) (F : Sta Z h0 nn21_ nn22_ nn23_ sf) (hsf : sf.isRef = true) (hj0 : 0 ≤ j.toInt) (hj1 : j.toInt < n.toInt) :
    own_MF l own_y65 (Jvm.Cond.code own_y65 jdk_42_method_155_code 2 none) ws R_own_rm62r #[.int j, .int n] Z h0 (fun v h L => v = none ∧ Fr n0 L ∧ h = h0) := by
  rcases ref_cases hsf with rfl | ⟨a, rfl⟩
  · exact own_rm62n l Z a0 hw ws j n h0 n0 Z0 F hj0 hj1
  · exact own_rm62r l Z a0 hw ws j n a h0 n0 Z0 F hj0 hj1
abbrev R_own_rm60 : Room := ⟨0, 0, 0, 0⟩
theorem d60_0 : own_D cd60 0 (.getstatic 38) 3 := by decide +kernel
theorem d60_3 : own_D cd60 3 (.ifCond .eq 14) 3 := by decide +kernel
theorem d60_6 : own_D cd60 6 (.aload_n 0) 1 := by decide +kernel
theorem d60_7 : own_D cd60 7 (.getfield 15) 3 := by decide +kernel
theorem d60_10 : own_D cd60 10 (.ifCond .ne 7) 3 := by decide +kernel
theorem d60_13 : own_D cd60 13 (.iconst 1) 1 := by decide +kernel
theorem d60_14 : own_D cd60 14 (.goto 4) 3 := by decide +kernel
theorem d60_18 : own_D cd60 18 .ireturn 1 := by decide +kernel
def Q_own_rm60 (Z : State) (a1 : Addr) (cs : Int32) (h0 : Heap) (n0 : Nat) (v : Option Value) (h : Heap) (L : List Loc) : Prop := v = some (.int 1) ∧ Fr n0 L ∧ h = h0
theorem own_rm60 (l : Launch) (Z : State) (a0 : Array Value) (hw : own_HW a0 Z) (ws : List Jvm.Cond) (a1 : Addr) (cs : Int32) (h0 : Heap) (n0 : Nat) (Z0 : n0 ≤ h0.size) (P_F_a1_coder : Fld Z h0 a1 nn3_ "coder" "B" (.int 0)) (P_S_COMPACT_STRINGS : Sta Z h0 nn3_ nn16_ "Z" (.int cs)) (hcs : ¬ (cs = (0 : Int32))) :
    own_MF l own_y66 (Jvm.Cond.code own_y66 jdk_42_method_154_code 1 (some .boolean)) ws R_own_rm60 #[.ref a1] Z h0 (Q_own_rm60 Z a1 cs h0 n0) := by
  refine own_begin (plainFor_of_name own_pn10) (fun m => ef0 m a1) ?_
  intro p e s m below meth c s₁ hx hby hml hown hnm hlk hret hZ X0 e0
  have N0 := Fr.nil n0
  have K0 := Keep.refl h0 []
  refine own_gS X0 hx hZ hown (hw.w 14 rfl) Via.refl e0 P_S_COMPACT_STRINGS rfl (hb hby d60_0) fun T1 X1 e1 => ?_
  refine own_go (B := T1.setTop (mkF m 7 #[Sr a1] [.ref a1])) (fun _ k => XS.ifNo X1.here hx rfl (hb hby d60_3) rfl ((if0 _ _).trans (feq hcs).1) (XS.aloadN X1.here hx rfl (hb hby d60_6) rfl rfl k)) ?_
  refine own_gF X1 hx hZ hown (hw.w 26 rfl) Via.refl e1 P_F_a1_coder rfl rfl (hb hby d60_7) fun T2 X2 e2 => ?_
  refine own_go (B := T2.setTop (mkF m 10 #[Sr a1] [.int 0])) (fun _ k => k) ?_
  have hc3 : (0 : Int32) = (0 : Int32) := by decide
  refine own_go (B := T2.setTop (mkF m 18 #[Sr a1] [.int 1])) (fun _ k => XS.ifNo X2.here hx rfl (hb hby d60_10) rfl ((if0 _ _).trans (teq hc3).2) (XS.iconst X2.here hx rfl (hb hby d60_13) (XS.goto X2.here hx rfl (pc0 := 14) (pc' := 18) rfl (hb hby d60_14) (by decide) (by decide) k))) ?_
  exact own_retN X2 hx hlk (t := .boolean) (w := (1 : Int32)) hret (by simp) (hb hby d60_18) e2 rfl ⟨rfl, N0, rfl⟩ (by decide) (by decide)
abbrev R_own_rm61 : Room := ⟨2, 0, 0, 27⟩
theorem d61_0 : own_D cd61 0 (.iload_n 1) 1 := by decide +kernel
theorem d61_1 : own_D cd61 1 (.aload_n 0) 1 := by decide +kernel
theorem d61_2 : own_D cd61 2 .arraylength 1 := by decide +kernel
theorem d61_3 : own_D cd61 3 (.invokestatic 9) 3 := by decide +kernel
theorem d61_6 : own_D cd61 6 (.aload_n 0) 1 := by decide +kernel
theorem d61_7 : own_D cd61 7 (.iload_n 1) 1 := by decide +kernel
theorem d61_8 : own_D cd61 8 .baload 1 := by decide +kernel
theorem d61_9 : own_D cd61 9 (.sipush 255) 3 := by decide +kernel
theorem d61_12 : own_D cd61 12 .iand 1 := by decide +kernel
theorem d61_13 : own_D cd61 13 .i2c 1 := by decide +kernel
theorem d61_14 : own_D cd61 14 .ireturn 1 := by decide +kernel
theorem ef38 (m : MethodId) (x0 : Addr) (x1 : Int32) : entryFrame m #[(.ref x0), (.int x1)] 2 = mkF m 0 #[.val (.ref x0), .val (.int x1)] [] := by first | (simp [entryFrame, mkF, argsToLocals, Value.category]; done) | rfl
def Q_own_rm61 (Z : State) (t : Addr) (j n bv : Int32) (sf : Value) (h0 : Heap) (n0 : Nat) (v : Option Value) (h : Heap) (L : List Loc) : Prop := v = some (.int ((bv &&& (255 : Int32)).toUInt32.toUInt16.toUInt32.toInt32)) ∧ Fr n0 L ∧ h = h0
theorem own_rm61 (l : Launch) (Z : State) (a0 : Array Value) (hw : own_HW a0 Z) (ws : List Jvm.Cond) (t : Addr) (j n bv : Int32) (sf : Value) (h0 : Heap) (n0 : Nat) (Z0 : n0 ≤ h0.size) (P_G_t_by : own_By Z h0 t n j bv) (P_S_SIOOBE_FORMATTER : Sta Z h0 nn21_ nn22_ nn23_ sf) (hsf : sf.isRef = true) (hj0 : 0 ≤ j.toInt) (hj1 : j.toInt < n.toInt) :
    own_MF l own_y67 (Jvm.Cond.code own_y67 jdk_43_method_2_code 2 (some .char)) ws R_own_rm61 #[.ref t, .int j] Z h0 (Q_own_rm61 Z t j n bv sf h0 n0) := by
  refine own_begin (plainFor_of_name own_pn11) (fun m => ef38 m t j) ?_
  intro p e s m below meth c s₁ hx hby hml hown hnm hlk hret hZ X0 e0
  have N0 := Fr.nil n0
  have K0 := Keep.refl h0 []
  refine own_go (B := s₁.setTop (mkF m 2 #[Sr t, Si j] [.ref t, .int j])) (fun _ k => XS.iloadN X0.here hx rfl (hb hby d61_0) rfl (XS.aloadN X0.here hx rfl (hb hby d61_1) rfl rfl k)) ?_
  obtain ⟨cl1, Ar1, sz1, in1, at1⟩ := id P_G_t_by
  refine own_go (fun _ k => X0.arraylength hx (own_hc e0 Ar1.1) (State.isArrayOf_alike hZ.alike Ar1.2.1) (g := (mkF m 2 #[Sr t, Si j] [.ref t, .int j])) rfl rfl (hb hby d61_2) _ k) ?_
  rw [sz1]
  show own_Fin _ _ _ _ _ _ _ (s₁.setTop (mkF m 3 #[Sr t, Si j] [.int n, .int j]))
  refine own_cS (own_rm62 l Z a0 hw [] j n sf h0 n0 (Nat.le_trans Z0 K0.1) P_S_SIOOBE_FORMATTER hsf hj0 hj1) X0 hx hZ hown (hw.w 380 rfl) (hw.w 381 rfl) (hw.w 2 rfl) (hw.w 382 rfl) e0 rfl rfl (by rw [hml]; rfl) (rest := []) (lenOf own_pd17 rfl) rfl (hb hby d61_3) (W := 0) (show 2 * 0 + _ = _ from rfl) (by decide) (by decide) ?_
  rintro _ T2 L2 X2 ⟨rfl, N2q, e2⟩
  have N2 := Fr.app N0 N2q
  refine own_go (B := T2.setTop (mkF m 14 #[Sr t, Si j] [(.int ((bv &&& (255 : Int32)).toUInt32.toUInt16.toUInt32.toInt32))])) (fun _ k => XS.aloadN X2.here hx rfl (hb hby d61_6) rfl rfl (XS.iloadN X2.here hx rfl (hb hby d61_7) rfl (X2.baloadBytes hx (j := j) (v := .int bv) (own_hc e2 Ar1.1) (State.isArrayOf_alike hZ.alike Ar1.2.1) Ar1.2.2 in1 at1 (g := (mkF m 8 #[Sr t, Si j] [.int j, .ref t])) rfl rfl (hb hby d61_8) _ (XS.sipush X2.here hx rfl (hb hby d61_9) (XS.iand X2.here hx rfl (hb hby d61_12) rfl (XS.i2c X2.here hx rfl (hb hby d61_13) rfl k)))))) ?_
  exact own_retN X2 hx hlk (t := .char) (w := ((bv &&& (255 : Int32)).toUInt32.toUInt16.toUInt32.toInt32)) hret (by simp) (hb hby d61_14) e2 (own_narc _) ⟨rfl, N2, rfl⟩ (by decide) (by decide)
abbrev R_own_rm59 : Room := ⟨3, 0, 0, 40⟩
theorem d59_0 : own_D cd59 0 (.aload_n 0) 1 := by decide +kernel
theorem d59_1 : own_D cd59 1 (.invokevirtual 492) 3 := by decide +kernel
theorem d59_4 : own_D cd59 4 (.ifCond .eq 12) 3 := by decide +kernel
theorem d59_7 : own_D cd59 7 (.aload_n 0) 1 := by decide +kernel
theorem d59_8 : own_D cd59 8 (.getfield 9) 3 := by decide +kernel
theorem d59_11 : own_D cd59 11 (.iload_n 1) 1 := by decide +kernel
theorem d59_12 : own_D cd59 12 (.invokestatic 495) 3 := by decide +kernel
theorem d59_15 : own_D cd59 15 .ireturn 1 := by decide +kernel
def Q_own_rm59 (Z : State) (a1 t : Addr) (j n bv : Int32) (sf : Value) (cs : Int32) (h0 : Heap) (n0 : Nat) (v : Option Value) (h : Heap) (L : List Loc) : Prop := v = some (.int ((bv &&& (255 : Int32)).toUInt32.toUInt16.toUInt32.toInt32)) ∧ Fr n0 L ∧ h = h0
theorem own_rm59 (l : Launch) (Z : State) (a0 : Array Value) (hw : own_HW a0 Z) (ws : List Jvm.Cond) (a1 t : Addr) (j n bv : Int32) (sf : Value) (cs : Int32) (h0 : Heap) (n0 : Nat) (Z0 : n0 ≤ h0.size) (P_E_a1 : Exa Z h0 a1 nn3_) (P_F_a1_value : Fld Z h0 a1 nn3_ "value" "[B" (.ref t)) (P_F_a1_coder : Fld Z h0 a1 nn3_ "coder" "B" (.int 0)) (P_G_t_by : own_By Z h0 t n j bv) (P_S_SIOOBE_FORMATTER : Sta Z h0 nn21_ nn22_ nn23_ sf) (hsf : sf.isRef = true) (P_S_COMPACT_STRINGS : Sta Z h0 nn3_ nn16_ "Z" (.int cs)) (hcs : ¬ (cs = (0 : Int32))) (hj0 : 0 ≤ j.toInt) (hj1 : j.toInt < n.toInt) :
    own_MF l own_y68 (Jvm.Cond.code own_y68 jdk_42_method_56_code 2 (some .char)) ws R_own_rm59 #[.ref a1, .int j] Z h0 (Q_own_rm59 Z a1 t j n bv sf cs h0 n0) := by
  refine own_begin (plainFor_of_name own_pn10) (fun m => ef38 m a1 j) ?_
  intro p e s m below meth c s₁ hx hby hml hown hnm hlk hret hZ X0 e0
  have N0 := Fr.nil n0
  have K0 := Keep.refl h0 []
  refine own_go (B := s₁.setTop (mkF m 1 #[Sr a1, Si j] [.ref a1])) (fun _ k => XS.aloadN X0.here hx rfl (hb hby d59_0) rfl rfl k) ?_
  refine own_cV (own_rm60 l Z a0 hw [] a1 cs h0 n0 (Nat.le_trans Z0 K0.1) P_F_a1_coder P_S_COMPACT_STRINGS hcs) X0 hx hZ hown (hw.w 372 rfl) (hw.w 373 rfl) (notFace_of_selects (args := #[]) (mvT hZ (hw.w 375 rfl))) (hw.w 375 rfl) (hw.w 374 rfl) (hw.w 2 rfl) (hw.w 376 rfl) P_E_a1 e0 rfl rfl (by rw [hml]; rfl) (rest := []) (lenOf own_pd21 rfl) rfl (hb hby d59_1) (W := 0) (show 2 * 0 + _ = _ from rfl) (by decide) (by decide) ?_
  rintro _ T1 L1 X1 ⟨rfl, N1q, e1⟩
  have N1 := Fr.app N0 N1q
  refine own_go (B := T1.setTop (mkF m 4 #[Sr a1, Si j] [.int 1])) (fun _ k => k) ?_
  have hc2 : ¬ ((1 : Int32) = (0 : Int32)) := by decide
  refine own_go (B := T1.setTop (mkF m 8 #[Sr a1, Si j] [.ref a1])) (fun _ k => XS.ifNo X1.here hx rfl (hb hby d59_4) rfl ((if0 _ _).trans (feq hc2).1) (XS.aloadN X1.here hx rfl (hb hby d59_7) rfl rfl k)) ?_
  refine own_gF X1 hx hZ hown (hw.w 28 rfl) Via.refl e1 P_F_a1_value rfl rfl (hb hby d59_8) fun T3 X3 e3 => ?_
  refine own_go (B := T3.setTop (mkF m 12 #[Sr a1, Si j] [.int j, .ref t])) (fun _ k => XS.iloadN X3.here hx rfl (hb hby d59_11) rfl  k) ?_
  refine own_cS (own_rm61 l Z a0 hw [] t j n bv sf h0 n0 (Nat.le_trans Z0 K0.1) P_G_t_by P_S_SIOOBE_FORMATTER hsf hj0 hj1) X3 hx hZ hown (hw.w 377 rfl) (hw.w 378 rfl) (hw.w 356 rfl) (hw.w 379 rfl) e3 rfl rfl (by rw [hml]; rfl) (rest := []) (lenOf own_pd40 rfl) rfl (hb hby d59_12) (W := 0) (show 2 * 0 + _ = _ from rfl) (by decide) (by decide) ?_
  rintro _ T4 L4 X4 ⟨rfl, N4q, e4⟩
  have N4 := Fr.app N1 N4q
  refine own_go (B := T4.setTop (mkF m 15 #[Sr a1, Si j] [(.int ((bv &&& (255 : Int32)).toUInt32.toUInt16.toUInt32.toInt32))])) (fun _ k => k) ?_
  exact own_retN X4 hx hlk (t := .char) (w := ((bv &&& (255 : Int32)).toUInt32.toUInt16.toUInt32.toInt32)) hret (by simp) (hb hby d59_15) e4 (own_narc _) ⟨rfl, N4, rfl⟩ (by decide) (by decide)
abbrev own_QL (hA : Heap) (n0 : Nat) : Option Value → Heap → List Loc → Prop := fun v h L => v = some (.int 1) ∧ Fr n0 L ∧ Keep hA h []
abbrev own_Ctx (l : Launch) (Z : State) (a0 : Array Value) (p : Program) (e : Env) (below : List Frame) (s : State) (m : MethodId) (meth : Method) (c : Code) (A : Array Value) (vm0 : Vm) (k0 : Nat) (hA h0 : Heap) (n0 : Nat) (T0 : State) (lcs : List Loc) (cs ss : Nat) : Prop :=
  own_HW a0 Z ∧ p.tables.exec = Jvm.exec ∧ c.code = code ∧ c.maxLocals = 24 ∧ meth.locks = false ∧ meth.sig.returnType = some .boolean ∧ s.Since vm0 k0 ∧ Stand p l e room_1 (s.setVm vm0) m A below meth c T0 lcs cs ss ∧ T0.heap = h0 ∧ k0 ≤ h0.size ∧ Z.Warmed39 (s.setVm vm0).vm ∧ (s.setVm vm0).vm.findClass "com/example/aduana/aduana/core/AccessDecisionHasRolePinLaw" = some m.cls ∧ EW Z a0 own_EL ∧ CHr Z own_EL s.vm hA vm0 h0 ∧ n0 ≤ h0.size ∧ Fr n0 lcs ∧ Keep hA h0 []
abbrev own_HR (m6 ra rb z : Int32) (vs : List Value) : Prop := (m6 = 0 ∧ z = 1 ∧ vs = [.int (ra.toInt8.toInt32)]) ∨ (m6 = 1 ∧ z = 2 ∧ vs = [.int (ra.toInt8.toInt32), .int (rb.toInt8.toInt32)])
abbrev own_HD (m6 ra rb z : Int32) (vs : List Value) : Prop := (m6 = 0 ∧ z = 10 ∧ vs = [.int 104, .int 97, .int 115, .int 32, .int 114, .int 111, .int 108, .int 101, .int 32, .int (ra.toInt8.toInt32)]) ∨ (m6 = 1 ∧ z = 11 ∧ vs = [.int 104, .int 97, .int 115, .int 32, .int 114, .int 111, .int 108, .int 101, .int 32, .int (ra.toInt8.toInt32), .int (rb.toInt8.toInt32)])
abbrev own_Exp (m6 m14 m15 ra rb ga gb gc r : Int32) : Prop := ¬ (r = 0) ↔ ((¬ m14 = 0 ∧ m6 = 0 ∧ ra = ga) ∨ (¬ m15 = 0 ∧ ¬ m6 = 0 ∧ ra = gb ∧ rb = gc))
theorem own_bne {P : Prop} [Decidable P] : ¬ (own_b P = 0) ↔ P := by
  by_cases h : P
  · rw [own_b1 h]; exact ⟨fun _ => h, fun _ => by decide⟩
  · rw [own_b0 h]; exact ⟨fun q => absurd rfl q, fun q => absurd q h⟩
theorem own_inj {x y : Int32} (a : 0 ≤ x.toInt) (b : x.toInt ≤ 255) (c : 0 ≤ y.toInt) (d : y.toInt ≤ 255) : x.toInt8.toInt32 = y.toInt8.toInt32 ↔ x = y := by
  constructor
  · intro h
    have h1 := own_i2b x
    have h2 := own_i2b y
    rw [h] at h1
    apply Int32.toInt_inj.mp
    omega
  · intro h
    rw [h]
theorem own_ex11 {ra rb ga gb gc m15 : Int32} (a : 0 ≤ ra.toInt) (b : ra.toInt ≤ 255) (c : 0 ≤ ga.toInt) (d : ga.toInt ≤ 255) : own_Exp 0 1 m15 ra rb ga gb gc (own_b (ra.toInt8.toInt32 = ga.toInt8.toInt32)) :=
  own_bne.trans ⟨fun q => Or.inl ⟨by decide, rfl, (own_inj a b c d).mp q⟩, fun q => q.elim (fun q => (own_inj a b c d).mpr q.2.2) (fun q => absurd rfl q.2.1)⟩
theorem own_ex10 {ra rb ga gb gc m15 : Int32} : own_Exp 0 0 m15 ra rb ga gb gc 0 := ⟨fun q => absurd rfl q, fun q => q.elim (fun q => absurd rfl q.1) (fun q => absurd rfl q.2.1)⟩
theorem own_ex21 {ra rb ga gb gc m14 : Int32} (a : 0 ≤ ra.toInt) (b : ra.toInt ≤ 255) (c : 0 ≤ gb.toInt) (d : gb.toInt ≤ 255) (a' : 0 ≤ rb.toInt) (b' : rb.toInt ≤ 255) (c' : 0 ≤ gc.toInt) (d' : gc.toInt ≤ 255) : own_Exp 1 m14 1 ra rb ga gb gc (own_b (ra.toInt8.toInt32 = gb.toInt8.toInt32 ∧ rb.toInt8.toInt32 = gc.toInt8.toInt32)) :=
  own_bne.trans ⟨fun q => Or.inr ⟨by decide, by decide, (own_inj a b c d).mp q.1, (own_inj a' b' c' d').mp q.2⟩, fun q => q.elim (fun q => absurd q.2.1 (by decide)) (fun q => ⟨(own_inj a b c d).mpr q.2.2.1, (own_inj a' b' c' d').mpr q.2.2.2⟩)⟩
theorem own_ex20 {ra rb ga gb gc m14 : Int32} : own_Exp 1 m14 0 ra rb ga gb gc 0 := ⟨fun q => absurd rfl q, fun q => q.elim (fun q => absurd q.2.1 (by decide)) (fun q => absurd rfl q.1)⟩
theorem own_jn {j n : Int32} (h : 8 < n.toInt) (q : j.toInt ≤ 8) : j.toInt < n.toInt := Int.lt_of_le_of_lt q h
theorem own_pre {l : Launch} {Z : State} {a0 : Array Value} {p : Program} {e : Env} {below : List Frame} {s : State} {m : MethodId} {meth : Method} {c : Code} {A : Array Value} {vm0 : Vm} {k0 : Nat} {hA h0 : Heap} {n0 : Nat} {T0 : State} {lcs : List Loc} (H : own_Ctx l Z a0 p e below s m meth c A vm0 k0 hA h0 n0 T0 lcs 60 4300) (s0 s1 s2 s3 s4 s5 s6 s7 s8 s9 s10 s11 s12 s13 s14 s15 s16 s17 s18 : Slot) (ss : Addr) (s20 : Slot) (pp ts : Addr) (nn : Int32) (tp : Addr) (kp : ClassId) (cs : Int32) (sf : Value) (P_E_ss : Exa Z h0 ss nn3_) (P_F_ss_value : Fld Z h0 ss nn3_ "value" "[B" (.ref ts)) (P_F_ss_coder : Fld Z h0 ss nn3_ "coder" "B" (.int 0)) (P_G_ts_by0 : own_By Z h0 ts nn (0 : Int32) (104 : Int32)) (P_G_ts_by1 : own_By Z h0 ts nn (1 : Int32) (97 : Int32)) (P_G_ts_by2 : own_By Z h0 ts nn (2 : Int32) (115 : Int32)) (P_G_ts_by3 : own_By Z h0 ts nn (3 : Int32) (32 : Int32)) (P_G_ts_by4 : own_By Z h0 ts nn (4 : Int32) (114 : Int32)) (P_G_ts_by5 : own_By Z h0 ts nn (5 : Int32) (111 : Int32)) (P_G_ts_by6 : own_By Z h0 ts nn (6 : Int32) (108 : Int32)) (P_G_ts_by7 : own_By Z h0 ts nn (7 : Int32) (101 : Int32)) (P_G_ts_by8 : own_By Z h0 ts nn (8 : Int32) (32 : Int32)) (P_E_pp : Exa Z h0 pp nn3_) (P_F_pp_value : Fld Z h0 pp nn3_ "value" "[B" (.ref tp)) (P_F_pp_coder : Fld Z h0 pp nn3_ "coder" "B" (.int 0)) (P_V_tp : Arv Z h0 tp kp .byte 9 [.int 104, .int 97, .int 115, .int 32, .int 114, .int 111, .int 108, .int 101, .int 32] (.int 0)) (P_S_COMPACT_STRINGS : Sta Z h0 nn3_ nn16_ "Z" (.int cs)) (P_S_SIOOBE_FORMATTER : Sta Z h0 nn21_ nn22_ nn23_ sf) (hn9 : 8 < nn.toInt) (hcs : ¬ (cs = (0 : Int32))) (hsf : sf.isRef = true) (kont : ∀ (T : State) (lc : List Loc), Stand p l e room_1 (s.setVm vm0) m A below meth c T lc 60 4300 → T.heap = h0 → Fr n0 lc → own_FinW p e below s (own_QL hA n0) 64 4352 (T.setTop (mkF m 539 #[s0, s1, s2, s3, s4, s5, s6, s7, s8, s9, s10, s11, s12, s13, s14, s15, s16, s17, s18, Sr ss, s20, Sr pp, Si 1, Su] []))) :
    own_FinW p e below s (own_QL hA n0) 64 4352 (T0.setTop (mkF m 391 #[s0, s1, s2, s3, s4, s5, s6, s7, s8, s9, s10, s11, s12, s13, s14, s15, s16, s17, s18, Sr ss, s20, Sr pp, Su, Su] [])) := by
  obtain ⟨hw, hx, hby, hml, hlk, hret, hS, X0, e0, hk, hZ, hown, hEL, C0, Z0, N0, KA⟩ := H
  have K0 := Keep.refl h0 []
  refine own_go (B := T0.setTop (mkF m 394 #[s0, s1, s2, s3, s4, s5, s6, s7, s8, s9, s10, s11, s12, s13, s14, s15, s16, s17, s18, Sr ss, s20, Sr pp, Su, Su] [.int 0, .ref ss])) (fun _ k => XS.aload X0.here hx rfl (hb hby at_391) rfl rfl (XS.iconst X0.here hx rfl (hb hby at_393) k)) ?_
  refine own_cV (own_rm59 l Z a0 hw [] ss ts (0 : Int32) nn (104 : Int32) sf cs h0 n0 (Nat.le_trans Z0 K0.1) P_E_ss P_F_ss_value P_F_ss_coder P_G_ts_by0 P_S_SIOOBE_FORMATTER hsf P_S_COMPACT_STRINGS hcs (by decide) (own_jn hn9 (by decide))) X0 hx hZ hown (hw.w 367 rfl) (hw.w 368 rfl) (notFace_of_selects (args := #[]) (mvT hZ (hw.w 370 rfl))) (hw.w 370 rfl) (hw.w 369 rfl) (hw.w 2 rfl) (hw.w 371 rfl) P_E_ss e0 rfl rfl (by rw [hml]; rfl) (rest := []) (lenOf own_pd41 rfl) rfl (hb hby at_394) (W := 0) (show 2 * 0 + _ = _ from rfl) (by decide) (by decide) ?_
  rintro _ T1 L1 X1 ⟨rfl, N1q, e1⟩
  have N1 := Fr.app N0 N1q
  refine own_go (B := T1.setTop (mkF m 400 #[s0, s1, s2, s3, s4, s5, s6, s7, s8, s9, s10, s11, s12, s13, s14, s15, s16, s17, s18, Sr ss, s20, Sr pp, Su, Su] [.int 0, .ref pp, (.int (((104 : Int32) &&& (255 : Int32)).toUInt32.toUInt16.toUInt32.toInt32))])) (fun _ k => XS.aload X1.here hx rfl (hb hby at_397) rfl rfl (XS.iconst X1.here hx rfl (hb hby at_399) k)) ?_
  have B2 : own_By Z h0 tp (9 : Int32) (0 : Int32) (104 : Int32) := own_By.of P_V_tp (by decide) (by decide) rfl
  refine own_cV (own_rm59 l Z a0 hw [] pp tp (0 : Int32) (9 : Int32) (104 : Int32) sf cs h0 n0 (Nat.le_trans Z0 K0.1) P_E_pp P_F_pp_value P_F_pp_coder B2 P_S_SIOOBE_FORMATTER hsf P_S_COMPACT_STRINGS hcs (by decide) (by decide)) X1 hx hZ hown (hw.w 367 rfl) (hw.w 368 rfl) (notFace_of_selects (args := #[]) (mvT hZ (hw.w 370 rfl))) (hw.w 370 rfl) (hw.w 369 rfl) (hw.w 2 rfl) (hw.w 371 rfl) P_E_pp e1 rfl rfl (by rw [hml]; rfl) (rest := [(.int (((104 : Int32) &&& (255 : Int32)).toUInt32.toUInt16.toUInt32.toInt32))]) (lenOf own_pd41 rfl) rfl (hb hby at_400) (W := 1) (show 2 * 0 + _ = _ from rfl) (by decide) (by decide) ?_
  rintro _ T3 L3 X3 ⟨rfl, N3q, e3⟩
  have N3 := Fr.app N1 N3q
  refine own_go (B := T3.setTop (mkF m 403 #[s0, s1, s2, s3, s4, s5, s6, s7, s8, s9, s10, s11, s12, s13, s14, s15, s16, s17, s18, Sr ss, s20, Sr pp, Su, Su] [(.int (((104 : Int32) &&& (255 : Int32)).toUInt32.toUInt16.toUInt32.toInt32)), (.int (((104 : Int32) &&& (255 : Int32)).toUInt32.toUInt16.toUInt32.toInt32))])) (fun _ k => k) ?_
  have hc4 : (((104 : Int32) &&& (255 : Int32)).toUInt32.toUInt16.toUInt32.toInt32) = (((104 : Int32) &&& (255 : Int32)).toUInt32.toUInt16.toUInt32.toInt32) := by decide
  refine own_go (B := T3.setTop (mkF m 409 #[s0, s1, s2, s3, s4, s5, s6, s7, s8, s9, s10, s11, s12, s13, s14, s15, s16, s17, s18, Sr ss, s20, Sr pp, Su, Su] [.int 1, .ref ss])) (fun _ k => XS.icmpNo X3.here hx rfl (hb hby at_403) rfl (teq hc4).2 (XS.aload X3.here hx rfl (hb hby at_406) rfl rfl (XS.iconst X3.here hx rfl (hb hby at_408) k))) ?_
  refine own_cV (own_rm59 l Z a0 hw [] ss ts (1 : Int32) nn (97 : Int32) sf cs h0 n0 (Nat.le_trans Z0 K0.1) P_E_ss P_F_ss_value P_F_ss_coder P_G_ts_by1 P_S_SIOOBE_FORMATTER hsf P_S_COMPACT_STRINGS hcs (by decide) (own_jn hn9 (by decide))) X3 hx hZ hown (hw.w 367 rfl) (hw.w 368 rfl) (notFace_of_selects (args := #[]) (mvT hZ (hw.w 370 rfl))) (hw.w 370 rfl) (hw.w 369 rfl) (hw.w 2 rfl) (hw.w 371 rfl) P_E_ss e3 rfl rfl (by rw [hml]; rfl) (rest := []) (lenOf own_pd41 rfl) rfl (hb hby at_409) (W := 0) (show 2 * 0 + _ = _ from rfl) (by decide) (by decide) ?_
  rintro _ T5 L5 X5 ⟨rfl, N5q, e5⟩
  have N5 := Fr.app N3 N5q
  refine own_go (B := T5.setTop (mkF m 415 #[s0, s1, s2, s3, s4, s5, s6, s7, s8, s9, s10, s11, s12, s13, s14, s15, s16, s17, s18, Sr ss, s20, Sr pp, Su, Su] [.int 1, .ref pp, (.int (((97 : Int32) &&& (255 : Int32)).toUInt32.toUInt16.toUInt32.toInt32))])) (fun _ k => XS.aload X5.here hx rfl (hb hby at_412) rfl rfl (XS.iconst X5.here hx rfl (hb hby at_414) k)) ?_
  have B6 : own_By Z h0 tp (9 : Int32) (1 : Int32) (97 : Int32) := own_By.of P_V_tp (by decide) (by decide) rfl
  refine own_cV (own_rm59 l Z a0 hw [] pp tp (1 : Int32) (9 : Int32) (97 : Int32) sf cs h0 n0 (Nat.le_trans Z0 K0.1) P_E_pp P_F_pp_value P_F_pp_coder B6 P_S_SIOOBE_FORMATTER hsf P_S_COMPACT_STRINGS hcs (by decide) (by decide)) X5 hx hZ hown (hw.w 367 rfl) (hw.w 368 rfl) (notFace_of_selects (args := #[]) (mvT hZ (hw.w 370 rfl))) (hw.w 370 rfl) (hw.w 369 rfl) (hw.w 2 rfl) (hw.w 371 rfl) P_E_pp e5 rfl rfl (by rw [hml]; rfl) (rest := [(.int (((97 : Int32) &&& (255 : Int32)).toUInt32.toUInt16.toUInt32.toInt32))]) (lenOf own_pd41 rfl) rfl (hb hby at_415) (W := 1) (show 2 * 0 + _ = _ from rfl) (by decide) (by decide) ?_
  rintro _ T7 L7 X7 ⟨rfl, N7q, e7⟩
  have N7 := Fr.app N5 N7q
  refine own_go (B := T7.setTop (mkF m 418 #[s0, s1, s2, s3, s4, s5, s6, s7, s8, s9, s10, s11, s12, s13, s14, s15, s16, s17, s18, Sr ss, s20, Sr pp, Su, Su] [(.int (((97 : Int32) &&& (255 : Int32)).toUInt32.toUInt16.toUInt32.toInt32)), (.int (((97 : Int32) &&& (255 : Int32)).toUInt32.toUInt16.toUInt32.toInt32))])) (fun _ k => k) ?_
  have hc8 : (((97 : Int32) &&& (255 : Int32)).toUInt32.toUInt16.toUInt32.toInt32) = (((97 : Int32) &&& (255 : Int32)).toUInt32.toUInt16.toUInt32.toInt32) := by decide
  refine own_go (B := T7.setTop (mkF m 424 #[s0, s1, s2, s3, s4, s5, s6, s7, s8, s9, s10, s11, s12, s13, s14, s15, s16, s17, s18, Sr ss, s20, Sr pp, Su, Su] [.int 2, .ref ss])) (fun _ k => XS.icmpNo X7.here hx rfl (hb hby at_418) rfl (teq hc8).2 (XS.aload X7.here hx rfl (hb hby at_421) rfl rfl (XS.iconst X7.here hx rfl (hb hby at_423) k))) ?_
  refine own_cV (own_rm59 l Z a0 hw [] ss ts (2 : Int32) nn (115 : Int32) sf cs h0 n0 (Nat.le_trans Z0 K0.1) P_E_ss P_F_ss_value P_F_ss_coder P_G_ts_by2 P_S_SIOOBE_FORMATTER hsf P_S_COMPACT_STRINGS hcs (by decide) (own_jn hn9 (by decide))) X7 hx hZ hown (hw.w 367 rfl) (hw.w 368 rfl) (notFace_of_selects (args := #[]) (mvT hZ (hw.w 370 rfl))) (hw.w 370 rfl) (hw.w 369 rfl) (hw.w 2 rfl) (hw.w 371 rfl) P_E_ss e7 rfl rfl (by rw [hml]; rfl) (rest := []) (lenOf own_pd41 rfl) rfl (hb hby at_424) (W := 0) (show 2 * 0 + _ = _ from rfl) (by decide) (by decide) ?_
  rintro _ T9 L9 X9 ⟨rfl, N9q, e9⟩
  have N9 := Fr.app N7 N9q
  refine own_go (B := T9.setTop (mkF m 430 #[s0, s1, s2, s3, s4, s5, s6, s7, s8, s9, s10, s11, s12, s13, s14, s15, s16, s17, s18, Sr ss, s20, Sr pp, Su, Su] [.int 2, .ref pp, (.int (((115 : Int32) &&& (255 : Int32)).toUInt32.toUInt16.toUInt32.toInt32))])) (fun _ k => XS.aload X9.here hx rfl (hb hby at_427) rfl rfl (XS.iconst X9.here hx rfl (hb hby at_429) k)) ?_
  have B10 : own_By Z h0 tp (9 : Int32) (2 : Int32) (115 : Int32) := own_By.of P_V_tp (by decide) (by decide) rfl
  refine own_cV (own_rm59 l Z a0 hw [] pp tp (2 : Int32) (9 : Int32) (115 : Int32) sf cs h0 n0 (Nat.le_trans Z0 K0.1) P_E_pp P_F_pp_value P_F_pp_coder B10 P_S_SIOOBE_FORMATTER hsf P_S_COMPACT_STRINGS hcs (by decide) (by decide)) X9 hx hZ hown (hw.w 367 rfl) (hw.w 368 rfl) (notFace_of_selects (args := #[]) (mvT hZ (hw.w 370 rfl))) (hw.w 370 rfl) (hw.w 369 rfl) (hw.w 2 rfl) (hw.w 371 rfl) P_E_pp e9 rfl rfl (by rw [hml]; rfl) (rest := [(.int (((115 : Int32) &&& (255 : Int32)).toUInt32.toUInt16.toUInt32.toInt32))]) (lenOf own_pd41 rfl) rfl (hb hby at_430) (W := 1) (show 2 * 0 + _ = _ from rfl) (by decide) (by decide) ?_
  rintro _ T11 L11 X11 ⟨rfl, N11q, e11⟩
  have N11 := Fr.app N9 N11q
  refine own_go (B := T11.setTop (mkF m 433 #[s0, s1, s2, s3, s4, s5, s6, s7, s8, s9, s10, s11, s12, s13, s14, s15, s16, s17, s18, Sr ss, s20, Sr pp, Su, Su] [(.int (((115 : Int32) &&& (255 : Int32)).toUInt32.toUInt16.toUInt32.toInt32)), (.int (((115 : Int32) &&& (255 : Int32)).toUInt32.toUInt16.toUInt32.toInt32))])) (fun _ k => k) ?_
  have hc12 : (((115 : Int32) &&& (255 : Int32)).toUInt32.toUInt16.toUInt32.toInt32) = (((115 : Int32) &&& (255 : Int32)).toUInt32.toUInt16.toUInt32.toInt32) := by decide
  refine own_go (B := T11.setTop (mkF m 439 #[s0, s1, s2, s3, s4, s5, s6, s7, s8, s9, s10, s11, s12, s13, s14, s15, s16, s17, s18, Sr ss, s20, Sr pp, Su, Su] [.int 3, .ref ss])) (fun _ k => XS.icmpNo X11.here hx rfl (hb hby at_433) rfl (teq hc12).2 (XS.aload X11.here hx rfl (hb hby at_436) rfl rfl (XS.iconst X11.here hx rfl (hb hby at_438) k))) ?_
  refine own_cV (own_rm59 l Z a0 hw [] ss ts (3 : Int32) nn (32 : Int32) sf cs h0 n0 (Nat.le_trans Z0 K0.1) P_E_ss P_F_ss_value P_F_ss_coder P_G_ts_by3 P_S_SIOOBE_FORMATTER hsf P_S_COMPACT_STRINGS hcs (by decide) (own_jn hn9 (by decide))) X11 hx hZ hown (hw.w 367 rfl) (hw.w 368 rfl) (notFace_of_selects (args := #[]) (mvT hZ (hw.w 370 rfl))) (hw.w 370 rfl) (hw.w 369 rfl) (hw.w 2 rfl) (hw.w 371 rfl) P_E_ss e11 rfl rfl (by rw [hml]; rfl) (rest := []) (lenOf own_pd41 rfl) rfl (hb hby at_439) (W := 0) (show 2 * 0 + _ = _ from rfl) (by decide) (by decide) ?_
  rintro _ T13 L13 X13 ⟨rfl, N13q, e13⟩
  have N13 := Fr.app N11 N13q
  refine own_go (B := T13.setTop (mkF m 445 #[s0, s1, s2, s3, s4, s5, s6, s7, s8, s9, s10, s11, s12, s13, s14, s15, s16, s17, s18, Sr ss, s20, Sr pp, Su, Su] [.int 3, .ref pp, (.int (((32 : Int32) &&& (255 : Int32)).toUInt32.toUInt16.toUInt32.toInt32))])) (fun _ k => XS.aload X13.here hx rfl (hb hby at_442) rfl rfl (XS.iconst X13.here hx rfl (hb hby at_444) k)) ?_
  have B14 : own_By Z h0 tp (9 : Int32) (3 : Int32) (32 : Int32) := own_By.of P_V_tp (by decide) (by decide) rfl
  refine own_cV (own_rm59 l Z a0 hw [] pp tp (3 : Int32) (9 : Int32) (32 : Int32) sf cs h0 n0 (Nat.le_trans Z0 K0.1) P_E_pp P_F_pp_value P_F_pp_coder B14 P_S_SIOOBE_FORMATTER hsf P_S_COMPACT_STRINGS hcs (by decide) (by decide)) X13 hx hZ hown (hw.w 367 rfl) (hw.w 368 rfl) (notFace_of_selects (args := #[]) (mvT hZ (hw.w 370 rfl))) (hw.w 370 rfl) (hw.w 369 rfl) (hw.w 2 rfl) (hw.w 371 rfl) P_E_pp e13 rfl rfl (by rw [hml]; rfl) (rest := [(.int (((32 : Int32) &&& (255 : Int32)).toUInt32.toUInt16.toUInt32.toInt32))]) (lenOf own_pd41 rfl) rfl (hb hby at_445) (W := 1) (show 2 * 0 + _ = _ from rfl) (by decide) (by decide) ?_
  rintro _ T15 L15 X15 ⟨rfl, N15q, e15⟩
  have N15 := Fr.app N13 N15q
  refine own_go (B := T15.setTop (mkF m 448 #[s0, s1, s2, s3, s4, s5, s6, s7, s8, s9, s10, s11, s12, s13, s14, s15, s16, s17, s18, Sr ss, s20, Sr pp, Su, Su] [(.int (((32 : Int32) &&& (255 : Int32)).toUInt32.toUInt16.toUInt32.toInt32)), (.int (((32 : Int32) &&& (255 : Int32)).toUInt32.toUInt16.toUInt32.toInt32))])) (fun _ k => k) ?_
  have hc16 : (((32 : Int32) &&& (255 : Int32)).toUInt32.toUInt16.toUInt32.toInt32) = (((32 : Int32) &&& (255 : Int32)).toUInt32.toUInt16.toUInt32.toInt32) := by decide
  refine own_go (B := T15.setTop (mkF m 454 #[s0, s1, s2, s3, s4, s5, s6, s7, s8, s9, s10, s11, s12, s13, s14, s15, s16, s17, s18, Sr ss, s20, Sr pp, Su, Su] [.int 4, .ref ss])) (fun _ k => XS.icmpNo X15.here hx rfl (hb hby at_448) rfl (teq hc16).2 (XS.aload X15.here hx rfl (hb hby at_451) rfl rfl (XS.iconst X15.here hx rfl (hb hby at_453) k))) ?_
  refine own_cV (own_rm59 l Z a0 hw [] ss ts (4 : Int32) nn (114 : Int32) sf cs h0 n0 (Nat.le_trans Z0 K0.1) P_E_ss P_F_ss_value P_F_ss_coder P_G_ts_by4 P_S_SIOOBE_FORMATTER hsf P_S_COMPACT_STRINGS hcs (by decide) (own_jn hn9 (by decide))) X15 hx hZ hown (hw.w 367 rfl) (hw.w 368 rfl) (notFace_of_selects (args := #[]) (mvT hZ (hw.w 370 rfl))) (hw.w 370 rfl) (hw.w 369 rfl) (hw.w 2 rfl) (hw.w 371 rfl) P_E_ss e15 rfl rfl (by rw [hml]; rfl) (rest := []) (lenOf own_pd41 rfl) rfl (hb hby at_454) (W := 0) (show 2 * 0 + _ = _ from rfl) (by decide) (by decide) ?_
  rintro _ T17 L17 X17 ⟨rfl, N17q, e17⟩
  have N17 := Fr.app N15 N17q
  refine own_go (B := T17.setTop (mkF m 460 #[s0, s1, s2, s3, s4, s5, s6, s7, s8, s9, s10, s11, s12, s13, s14, s15, s16, s17, s18, Sr ss, s20, Sr pp, Su, Su] [.int 4, .ref pp, (.int (((114 : Int32) &&& (255 : Int32)).toUInt32.toUInt16.toUInt32.toInt32))])) (fun _ k => XS.aload X17.here hx rfl (hb hby at_457) rfl rfl (XS.iconst X17.here hx rfl (hb hby at_459) k)) ?_
  have B18 : own_By Z h0 tp (9 : Int32) (4 : Int32) (114 : Int32) := own_By.of P_V_tp (by decide) (by decide) rfl
  refine own_cV (own_rm59 l Z a0 hw [] pp tp (4 : Int32) (9 : Int32) (114 : Int32) sf cs h0 n0 (Nat.le_trans Z0 K0.1) P_E_pp P_F_pp_value P_F_pp_coder B18 P_S_SIOOBE_FORMATTER hsf P_S_COMPACT_STRINGS hcs (by decide) (by decide)) X17 hx hZ hown (hw.w 367 rfl) (hw.w 368 rfl) (notFace_of_selects (args := #[]) (mvT hZ (hw.w 370 rfl))) (hw.w 370 rfl) (hw.w 369 rfl) (hw.w 2 rfl) (hw.w 371 rfl) P_E_pp e17 rfl rfl (by rw [hml]; rfl) (rest := [(.int (((114 : Int32) &&& (255 : Int32)).toUInt32.toUInt16.toUInt32.toInt32))]) (lenOf own_pd41 rfl) rfl (hb hby at_460) (W := 1) (show 2 * 0 + _ = _ from rfl) (by decide) (by decide) ?_
  rintro _ T19 L19 X19 ⟨rfl, N19q, e19⟩
  have N19 := Fr.app N17 N19q
  refine own_go (B := T19.setTop (mkF m 463 #[s0, s1, s2, s3, s4, s5, s6, s7, s8, s9, s10, s11, s12, s13, s14, s15, s16, s17, s18, Sr ss, s20, Sr pp, Su, Su] [(.int (((114 : Int32) &&& (255 : Int32)).toUInt32.toUInt16.toUInt32.toInt32)), (.int (((114 : Int32) &&& (255 : Int32)).toUInt32.toUInt16.toUInt32.toInt32))])) (fun _ k => k) ?_
  have hc20 : (((114 : Int32) &&& (255 : Int32)).toUInt32.toUInt16.toUInt32.toInt32) = (((114 : Int32) &&& (255 : Int32)).toUInt32.toUInt16.toUInt32.toInt32) := by decide
  refine own_go (B := T19.setTop (mkF m 469 #[s0, s1, s2, s3, s4, s5, s6, s7, s8, s9, s10, s11, s12, s13, s14, s15, s16, s17, s18, Sr ss, s20, Sr pp, Su, Su] [.int 5, .ref ss])) (fun _ k => XS.icmpNo X19.here hx rfl (hb hby at_463) rfl (teq hc20).2 (XS.aload X19.here hx rfl (hb hby at_466) rfl rfl (XS.iconst X19.here hx rfl (hb hby at_468) k))) ?_
  refine own_cV (own_rm59 l Z a0 hw [] ss ts (5 : Int32) nn (111 : Int32) sf cs h0 n0 (Nat.le_trans Z0 K0.1) P_E_ss P_F_ss_value P_F_ss_coder P_G_ts_by5 P_S_SIOOBE_FORMATTER hsf P_S_COMPACT_STRINGS hcs (by decide) (own_jn hn9 (by decide))) X19 hx hZ hown (hw.w 367 rfl) (hw.w 368 rfl) (notFace_of_selects (args := #[]) (mvT hZ (hw.w 370 rfl))) (hw.w 370 rfl) (hw.w 369 rfl) (hw.w 2 rfl) (hw.w 371 rfl) P_E_ss e19 rfl rfl (by rw [hml]; rfl) (rest := []) (lenOf own_pd41 rfl) rfl (hb hby at_469) (W := 0) (show 2 * 0 + _ = _ from rfl) (by decide) (by decide) ?_
  rintro _ T21 L21 X21 ⟨rfl, N21q, e21⟩
  have N21 := Fr.app N19 N21q
  refine own_go (B := T21.setTop (mkF m 475 #[s0, s1, s2, s3, s4, s5, s6, s7, s8, s9, s10, s11, s12, s13, s14, s15, s16, s17, s18, Sr ss, s20, Sr pp, Su, Su] [.int 5, .ref pp, (.int (((111 : Int32) &&& (255 : Int32)).toUInt32.toUInt16.toUInt32.toInt32))])) (fun _ k => XS.aload X21.here hx rfl (hb hby at_472) rfl rfl (XS.iconst X21.here hx rfl (hb hby at_474) k)) ?_
  have B22 : own_By Z h0 tp (9 : Int32) (5 : Int32) (111 : Int32) := own_By.of P_V_tp (by decide) (by decide) rfl
  refine own_cV (own_rm59 l Z a0 hw [] pp tp (5 : Int32) (9 : Int32) (111 : Int32) sf cs h0 n0 (Nat.le_trans Z0 K0.1) P_E_pp P_F_pp_value P_F_pp_coder B22 P_S_SIOOBE_FORMATTER hsf P_S_COMPACT_STRINGS hcs (by decide) (by decide)) X21 hx hZ hown (hw.w 367 rfl) (hw.w 368 rfl) (notFace_of_selects (args := #[]) (mvT hZ (hw.w 370 rfl))) (hw.w 370 rfl) (hw.w 369 rfl) (hw.w 2 rfl) (hw.w 371 rfl) P_E_pp e21 rfl rfl (by rw [hml]; rfl) (rest := [(.int (((111 : Int32) &&& (255 : Int32)).toUInt32.toUInt16.toUInt32.toInt32))]) (lenOf own_pd41 rfl) rfl (hb hby at_475) (W := 1) (show 2 * 0 + _ = _ from rfl) (by decide) (by decide) ?_
  rintro _ T23 L23 X23 ⟨rfl, N23q, e23⟩
  have N23 := Fr.app N21 N23q
  refine own_go (B := T23.setTop (mkF m 478 #[s0, s1, s2, s3, s4, s5, s6, s7, s8, s9, s10, s11, s12, s13, s14, s15, s16, s17, s18, Sr ss, s20, Sr pp, Su, Su] [(.int (((111 : Int32) &&& (255 : Int32)).toUInt32.toUInt16.toUInt32.toInt32)), (.int (((111 : Int32) &&& (255 : Int32)).toUInt32.toUInt16.toUInt32.toInt32))])) (fun _ k => k) ?_
  have hc24 : (((111 : Int32) &&& (255 : Int32)).toUInt32.toUInt16.toUInt32.toInt32) = (((111 : Int32) &&& (255 : Int32)).toUInt32.toUInt16.toUInt32.toInt32) := by decide
  refine own_go (B := T23.setTop (mkF m 485 #[s0, s1, s2, s3, s4, s5, s6, s7, s8, s9, s10, s11, s12, s13, s14, s15, s16, s17, s18, Sr ss, s20, Sr pp, Su, Su] [.int 6, .ref ss])) (fun _ k => XS.icmpNo X23.here hx rfl (hb hby at_478) rfl (teq hc24).2 (XS.aload X23.here hx rfl (hb hby at_481) rfl rfl (XS.bipush X23.here hx rfl (hb hby at_483) k))) ?_
  refine own_cV (own_rm59 l Z a0 hw [] ss ts (6 : Int32) nn (108 : Int32) sf cs h0 n0 (Nat.le_trans Z0 K0.1) P_E_ss P_F_ss_value P_F_ss_coder P_G_ts_by6 P_S_SIOOBE_FORMATTER hsf P_S_COMPACT_STRINGS hcs (by decide) (own_jn hn9 (by decide))) X23 hx hZ hown (hw.w 367 rfl) (hw.w 368 rfl) (notFace_of_selects (args := #[]) (mvT hZ (hw.w 370 rfl))) (hw.w 370 rfl) (hw.w 369 rfl) (hw.w 2 rfl) (hw.w 371 rfl) P_E_ss e23 rfl rfl (by rw [hml]; rfl) (rest := []) (lenOf own_pd41 rfl) rfl (hb hby at_485) (W := 0) (show 2 * 0 + _ = _ from rfl) (by decide) (by decide) ?_
  rintro _ T25 L25 X25 ⟨rfl, N25q, e25⟩
  have N25 := Fr.app N23 N25q
  refine own_go (B := T25.setTop (mkF m 492 #[s0, s1, s2, s3, s4, s5, s6, s7, s8, s9, s10, s11, s12, s13, s14, s15, s16, s17, s18, Sr ss, s20, Sr pp, Su, Su] [.int 6, .ref pp, (.int (((108 : Int32) &&& (255 : Int32)).toUInt32.toUInt16.toUInt32.toInt32))])) (fun _ k => XS.aload X25.here hx rfl (hb hby at_488) rfl rfl (XS.bipush X25.here hx rfl (hb hby at_490) k)) ?_
  have B26 : own_By Z h0 tp (9 : Int32) (6 : Int32) (108 : Int32) := own_By.of P_V_tp (by decide) (by decide) rfl
  refine own_cV (own_rm59 l Z a0 hw [] pp tp (6 : Int32) (9 : Int32) (108 : Int32) sf cs h0 n0 (Nat.le_trans Z0 K0.1) P_E_pp P_F_pp_value P_F_pp_coder B26 P_S_SIOOBE_FORMATTER hsf P_S_COMPACT_STRINGS hcs (by decide) (by decide)) X25 hx hZ hown (hw.w 367 rfl) (hw.w 368 rfl) (notFace_of_selects (args := #[]) (mvT hZ (hw.w 370 rfl))) (hw.w 370 rfl) (hw.w 369 rfl) (hw.w 2 rfl) (hw.w 371 rfl) P_E_pp e25 rfl rfl (by rw [hml]; rfl) (rest := [(.int (((108 : Int32) &&& (255 : Int32)).toUInt32.toUInt16.toUInt32.toInt32))]) (lenOf own_pd41 rfl) rfl (hb hby at_492) (W := 1) (show 2 * 0 + _ = _ from rfl) (by decide) (by decide) ?_
  rintro _ T27 L27 X27 ⟨rfl, N27q, e27⟩
  have N27 := Fr.app N25 N27q
  refine own_go (B := T27.setTop (mkF m 495 #[s0, s1, s2, s3, s4, s5, s6, s7, s8, s9, s10, s11, s12, s13, s14, s15, s16, s17, s18, Sr ss, s20, Sr pp, Su, Su] [(.int (((108 : Int32) &&& (255 : Int32)).toUInt32.toUInt16.toUInt32.toInt32)), (.int (((108 : Int32) &&& (255 : Int32)).toUInt32.toUInt16.toUInt32.toInt32))])) (fun _ k => k) ?_
  have hc28 : (((108 : Int32) &&& (255 : Int32)).toUInt32.toUInt16.toUInt32.toInt32) = (((108 : Int32) &&& (255 : Int32)).toUInt32.toUInt16.toUInt32.toInt32) := by decide
  refine own_go (B := T27.setTop (mkF m 502 #[s0, s1, s2, s3, s4, s5, s6, s7, s8, s9, s10, s11, s12, s13, s14, s15, s16, s17, s18, Sr ss, s20, Sr pp, Su, Su] [.int 7, .ref ss])) (fun _ k => XS.icmpNo X27.here hx rfl (hb hby at_495) rfl (teq hc28).2 (XS.aload X27.here hx rfl (hb hby at_498) rfl rfl (XS.bipush X27.here hx rfl (hb hby at_500) k))) ?_
  refine own_cV (own_rm59 l Z a0 hw [] ss ts (7 : Int32) nn (101 : Int32) sf cs h0 n0 (Nat.le_trans Z0 K0.1) P_E_ss P_F_ss_value P_F_ss_coder P_G_ts_by7 P_S_SIOOBE_FORMATTER hsf P_S_COMPACT_STRINGS hcs (by decide) (own_jn hn9 (by decide))) X27 hx hZ hown (hw.w 367 rfl) (hw.w 368 rfl) (notFace_of_selects (args := #[]) (mvT hZ (hw.w 370 rfl))) (hw.w 370 rfl) (hw.w 369 rfl) (hw.w 2 rfl) (hw.w 371 rfl) P_E_ss e27 rfl rfl (by rw [hml]; rfl) (rest := []) (lenOf own_pd41 rfl) rfl (hb hby at_502) (W := 0) (show 2 * 0 + _ = _ from rfl) (by decide) (by decide) ?_
  rintro _ T29 L29 X29 ⟨rfl, N29q, e29⟩
  have N29 := Fr.app N27 N29q
  refine own_go (B := T29.setTop (mkF m 509 #[s0, s1, s2, s3, s4, s5, s6, s7, s8, s9, s10, s11, s12, s13, s14, s15, s16, s17, s18, Sr ss, s20, Sr pp, Su, Su] [.int 7, .ref pp, (.int (((101 : Int32) &&& (255 : Int32)).toUInt32.toUInt16.toUInt32.toInt32))])) (fun _ k => XS.aload X29.here hx rfl (hb hby at_505) rfl rfl (XS.bipush X29.here hx rfl (hb hby at_507) k)) ?_
  have B30 : own_By Z h0 tp (9 : Int32) (7 : Int32) (101 : Int32) := own_By.of P_V_tp (by decide) (by decide) rfl
  refine own_cV (own_rm59 l Z a0 hw [] pp tp (7 : Int32) (9 : Int32) (101 : Int32) sf cs h0 n0 (Nat.le_trans Z0 K0.1) P_E_pp P_F_pp_value P_F_pp_coder B30 P_S_SIOOBE_FORMATTER hsf P_S_COMPACT_STRINGS hcs (by decide) (by decide)) X29 hx hZ hown (hw.w 367 rfl) (hw.w 368 rfl) (notFace_of_selects (args := #[]) (mvT hZ (hw.w 370 rfl))) (hw.w 370 rfl) (hw.w 369 rfl) (hw.w 2 rfl) (hw.w 371 rfl) P_E_pp e29 rfl rfl (by rw [hml]; rfl) (rest := [(.int (((101 : Int32) &&& (255 : Int32)).toUInt32.toUInt16.toUInt32.toInt32))]) (lenOf own_pd41 rfl) rfl (hb hby at_509) (W := 1) (show 2 * 0 + _ = _ from rfl) (by decide) (by decide) ?_
  rintro _ T31 L31 X31 ⟨rfl, N31q, e31⟩
  have N31 := Fr.app N29 N31q
  refine own_go (B := T31.setTop (mkF m 512 #[s0, s1, s2, s3, s4, s5, s6, s7, s8, s9, s10, s11, s12, s13, s14, s15, s16, s17, s18, Sr ss, s20, Sr pp, Su, Su] [(.int (((101 : Int32) &&& (255 : Int32)).toUInt32.toUInt16.toUInt32.toInt32)), (.int (((101 : Int32) &&& (255 : Int32)).toUInt32.toUInt16.toUInt32.toInt32))])) (fun _ k => k) ?_
  have hc32 : (((101 : Int32) &&& (255 : Int32)).toUInt32.toUInt16.toUInt32.toInt32) = (((101 : Int32) &&& (255 : Int32)).toUInt32.toUInt16.toUInt32.toInt32) := by decide
  refine own_go (B := T31.setTop (mkF m 519 #[s0, s1, s2, s3, s4, s5, s6, s7, s8, s9, s10, s11, s12, s13, s14, s15, s16, s17, s18, Sr ss, s20, Sr pp, Su, Su] [.int 8, .ref ss])) (fun _ k => XS.icmpNo X31.here hx rfl (hb hby at_512) rfl (teq hc32).2 (XS.aload X31.here hx rfl (hb hby at_515) rfl rfl (XS.bipush X31.here hx rfl (hb hby at_517) k))) ?_
  refine own_cV (own_rm59 l Z a0 hw [] ss ts (8 : Int32) nn (32 : Int32) sf cs h0 n0 (Nat.le_trans Z0 K0.1) P_E_ss P_F_ss_value P_F_ss_coder P_G_ts_by8 P_S_SIOOBE_FORMATTER hsf P_S_COMPACT_STRINGS hcs (by decide) (own_jn hn9 (by decide))) X31 hx hZ hown (hw.w 367 rfl) (hw.w 368 rfl) (notFace_of_selects (args := #[]) (mvT hZ (hw.w 370 rfl))) (hw.w 370 rfl) (hw.w 369 rfl) (hw.w 2 rfl) (hw.w 371 rfl) P_E_ss e31 rfl rfl (by rw [hml]; rfl) (rest := []) (lenOf own_pd41 rfl) rfl (hb hby at_519) (W := 0) (show 2 * 0 + _ = _ from rfl) (by decide) (by decide) ?_
  rintro _ T33 L33 X33 ⟨rfl, N33q, e33⟩
  have N33 := Fr.app N31 N33q
  refine own_go (B := T33.setTop (mkF m 526 #[s0, s1, s2, s3, s4, s5, s6, s7, s8, s9, s10, s11, s12, s13, s14, s15, s16, s17, s18, Sr ss, s20, Sr pp, Su, Su] [.int 8, .ref pp, (.int (((32 : Int32) &&& (255 : Int32)).toUInt32.toUInt16.toUInt32.toInt32))])) (fun _ k => XS.aload X33.here hx rfl (hb hby at_522) rfl rfl (XS.bipush X33.here hx rfl (hb hby at_524) k)) ?_
  have B34 : own_By Z h0 tp (9 : Int32) (8 : Int32) (32 : Int32) := own_By.of P_V_tp (by decide) (by decide) rfl
  refine own_cV (own_rm59 l Z a0 hw [] pp tp (8 : Int32) (9 : Int32) (32 : Int32) sf cs h0 n0 (Nat.le_trans Z0 K0.1) P_E_pp P_F_pp_value P_F_pp_coder B34 P_S_SIOOBE_FORMATTER hsf P_S_COMPACT_STRINGS hcs (by decide) (by decide)) X33 hx hZ hown (hw.w 367 rfl) (hw.w 368 rfl) (notFace_of_selects (args := #[]) (mvT hZ (hw.w 370 rfl))) (hw.w 370 rfl) (hw.w 369 rfl) (hw.w 2 rfl) (hw.w 371 rfl) P_E_pp e33 rfl rfl (by rw [hml]; rfl) (rest := [(.int (((32 : Int32) &&& (255 : Int32)).toUInt32.toUInt16.toUInt32.toInt32))]) (lenOf own_pd41 rfl) rfl (hb hby at_526) (W := 1) (show 2 * 0 + _ = _ from rfl) (by decide) (by decide) ?_
  rintro _ T35 L35 X35 ⟨rfl, N35q, e35⟩
  have N35 := Fr.app N33 N35q
  refine own_go (B := T35.setTop (mkF m 529 #[s0, s1, s2, s3, s4, s5, s6, s7, s8, s9, s10, s11, s12, s13, s14, s15, s16, s17, s18, Sr ss, s20, Sr pp, Su, Su] [(.int (((32 : Int32) &&& (255 : Int32)).toUInt32.toUInt16.toUInt32.toInt32)), (.int (((32 : Int32) &&& (255 : Int32)).toUInt32.toUInt16.toUInt32.toInt32))])) (fun _ k => k) ?_
  have hc36 : (((32 : Int32) &&& (255 : Int32)).toUInt32.toUInt16.toUInt32.toInt32) = (((32 : Int32) &&& (255 : Int32)).toUInt32.toUInt16.toUInt32.toInt32) := by decide
  refine own_go (B := T35.setTop (mkF m 539 #[s0, s1, s2, s3, s4, s5, s6, s7, s8, s9, s10, s11, s12, s13, s14, s15, s16, s17, s18, Sr ss, s20, Sr pp, Si 1, Su] [])) (fun _ k => XS.icmpNo X35.here hx rfl (hb hby at_529) rfl (teq hc36).2 (XS.iconst X35.here hx rfl (hb hby at_532) (XS.goto X35.here hx rfl (pc0 := 533) (pc' := 537) rfl (hb hby at_533) (by decide) (by decide) (XS.istore X35.here hx rfl (hb hby at_537) rfl (l' := #[s0, s1, s2, s3, s4, s5, s6, s7, s8, s9, s10, s11, s12, s13, s14, s15, s16, s17, s18, Sr ss, s20, Sr pp, Si 1, Su]) rfl k)))) ?_
  exact kont T35 _ X35 e35 N35
theorem own_pl_tail1_1 (ra : Int32) (hl_ra : 0 ≤ ra.toInt) (hu_ra : ra.toInt ≤ 255) : (((ra.toInt8.toInt32) &&& (255 : Int32)).toUInt32.toUInt16.toUInt32.toInt32) = ra := by
  have := rng32 ra
  have := rng32 (ra.toInt8.toInt32)
  have := own_i2b ra
  have := rng32 ((ra.toInt8.toInt32) &&& (255 : Int32))
  have := Jvm.Kit.i32_mask (ra.toInt8.toInt32) (255 : Int32) (k := 8) (by decide) (by decide)
  have := rng32 (((ra.toInt8.toInt32) &&& (255 : Int32)).toUInt32.toUInt16.toUInt32.toInt32)
  have := own_i2c ((ra.toInt8.toInt32) &&& (255 : Int32))
  try simp only [own_i32_255] at *
  have := own_i32_255
  try simp only [Int32.lt_iff_toInt_lt, Int32.le_iff_toInt_le, ← Int32.toInt_inj, true_and, and_true, true_or, or_true, false_or, or_false, not_true_eq_false, not_false_eq_true, false_and, and_false, ne_eq] at *
  all_goals first | omega | (simp; done)
theorem own_tail1 {l : Launch} {Z : State} {a0 : Array Value} {p : Program} {e : Env} {below : List Frame} {s : State} {m : MethodId} {meth : Method} {c : Code} {A : Array Value} {vm0 : Vm} {k0 : Nat} {hA h0 : Heap} {n0 : Nat} {T0 : State} {lcs : List Loc} (H : own_Ctx l Z a0 p e below s m meth c A vm0 k0 hA h0 n0 T0 lcs 50 4200) (s0 s1 s2 s3 : Slot) (ra rb : Int32) (s7 s8 s9 s10 s11 s12 s13 s14 s15 s16 : Slot) (de : Addr) (s18 : Slot) (d q td : Addr) (kd : ClassId) (cs : Int32) (sf : Value) (P_E_de : Exa Z h0 de nn6_) (P_F_de_description : Fld Z h0 de nn6_ "description" nn11_ (.ref d)) (P_F_de_grants : Fld Z h0 de nn6_ "grants" nn12_ (.ref q)) (P_E_d : Exa Z h0 d nn3_) (P_F_d_value : Fld Z h0 d nn3_ "value" "[B" (.ref td)) (P_F_d_coder : Fld Z h0 d nn3_ "coder" "B" (.int 0)) (P_V_td : Arv Z h0 td kd .byte 10 [.int 104, .int 97, .int 115, .int 32, .int 114, .int 111, .int 108, .int 101, .int 32, (.int (ra.toInt8.toInt32))] (.int 0)) (P_S_COMPACT_STRINGS : Sta Z h0 nn3_ nn16_ "Z" (.int cs)) (P_S_SIOOBE_FORMATTER : Sta Z h0 nn21_ nn22_ nn23_ sf) (hl_ra : 0 ≤ ra.toInt) (hu_ra : ra.toInt ≤ 255) (hl_rb : 0 ≤ rb.toInt) (hu_rb : rb.toInt ≤ 255) (hcs : ¬ (cs = (0 : Int32))) (hsf : sf.isRef = true) :
    own_FinW p e below s (own_QL hA n0) 64 4352 (T0.setTop (mkF m 354 #[s0, s1, s2, s3, Si ra, Si rb, Si 0, s7, s8, s9, s10, s11, s12, s13, s14, s15, s16, Sr de, s18, Su, Su, Su, Su, Su] [])) := by
  obtain ⟨hw, hx, hby, hml, hlk, hret, hS, X0, e0, hk, hZ, hown, hEL, C0, Z0, N0, KA⟩ := H
  have K0 := Keep.refl h0 []
  have wS : ∀ d ∈ Bundle.stringAtoms, d.before a0 Z = true := fun d hd => hw d (own_strs d hd)
  refine own_go (B := T0.setTop (mkF m 356 #[s0, s1, s2, s3, Si ra, Si rb, Si 0, s7, s8, s9, s10, s11, s12, s13, s14, s15, s16, Sr de, s18, Su, Su, Su, Su, Su] [.ref de])) (fun _ k => XS.aload X0.here hx rfl (hb hby at_354) rfl rfl k) ?_
  refine own_cV (own_rm58 l Z a0 hw [] de d h0 n0 (Nat.le_trans Z0 K0.1) P_F_de_description) X0 hx hZ hown (hw.w 360 rfl) (hw.w 361 rfl) (notFace_of_selects (args := #[]) (mvT hZ (hw.w 363 rfl))) (hw.w 363 rfl) (hw.w 362 rfl) (hw.w 101 rfl) (hw.w 364 rfl) P_E_de e0 rfl rfl (by rw [hml]; rfl) (rest := []) (lenOf own_pd34 rfl) rfl (hb hby at_356) (W := 0) (show 2 * 0 + _ = _ from rfl) (by decide) (by decide) ?_
  rintro _ T1 L1 X1 ⟨rfl, N1q, e1⟩
  have N1 := Fr.app N0 N1q
  refine own_go (B := T1.setTop (mkF m 363 #[s0, s1, s2, s3, Si ra, Si rb, Si 0, s7, s8, s9, s10, s11, s12, s13, s14, s15, s16, Sr de, s18, Sr d, Su, Su, Su, Su] [.int 0])) (fun _ k => XS.astore X1.here hx rfl (hb hby at_359) rfl rfl (l' := #[s0, s1, s2, s3, Si ra, Si rb, Si 0, s7, s8, s9, s10, s11, s12, s13, s14, s15, s16, Sr de, s18, Sr d, Su, Su, Su, Su]) rfl (XS.iload X1.here hx rfl (hb hby at_361) rfl  k)) ?_
  have hc2 : (0 : Int32) = (0 : Int32) := by decide
  refine own_go (B := T1.setTop (mkF m 377 #[s0, s1, s2, s3, Si ra, Si rb, Si 0, s7, s8, s9, s10, s11, s12, s13, s14, s15, s16, Sr de, s18, Sr d, Si 10, Su, Su, Su] [.ref d])) (fun _ k => XS.ifYes X1.here hx rfl (pc0 := 363) (pc' := 371) rfl (hb hby at_363) rfl ((if0 _ _).trans (teq hc2).1) (by decide) (by decide) (XS.bipush X1.here hx rfl (hb hby at_371) (XS.istore X1.here hx rfl (hb hby at_373) rfl (l' := #[s0, s1, s2, s3, Si ra, Si rb, Si 0, s7, s8, s9, s10, s11, s12, s13, s14, s15, s16, Sr de, s18, Sr d, Si 10, Su, Su, Su]) rfl (XS.aload X1.here hx rfl (hb hby at_375) rfl rfl k)))) ?_
  refine own_cV (own_len10_0 l Z a0 hw [] d td kd (104 : Int32) (97 : Int32) (115 : Int32) (32 : Int32) (114 : Int32) (111 : Int32) (108 : Int32) (101 : Int32) (32 : Int32) (ra.toInt8.toInt32) cs h0 n0 (Nat.le_trans Z0 K0.1) P_E_d P_F_d_value P_F_d_coder P_V_td P_S_COMPACT_STRINGS hcs) X1 hx hZ hown (hw.w 365 rfl) (hw.w 135 rfl) (notFace_of_selects (args := #[]) (mvT hZ (hw.w 137 rfl))) (hw.w 137 rfl) (hw.w 136 rfl) (hw.w 2 rfl) (hw.w 138 rfl) P_E_d e1 rfl rfl (by rw [hml]; rfl) (rest := []) (lenOf own_pd14 rfl) rfl (hb hby at_377) (W := 0) (show 2 * 0 + _ = _ from rfl) (by decide) (by decide) ?_
  rintro _ T3 L3 X3 ⟨rfl, N3q, e3⟩
  have N3 := Fr.app N1 N3q
  refine own_go (B := T3.setTop (mkF m 382 #[s0, s1, s2, s3, Si ra, Si rb, Si 0, s7, s8, s9, s10, s11, s12, s13, s14, s15, s16, Sr de, s18, Sr d, Si 10, Su, Su, Su] [.int 10, .int 10])) (fun _ k => XS.iload X3.here hx rfl (hb hby at_380) rfl  k) ?_
  have hc4 : (10 : Int32) = (10 : Int32) := by decide
  refine own_go (B := T3.setTop (mkF m 387 #[s0, s1, s2, s3, Si ra, Si rb, Si 0, s7, s8, s9, s10, s11, s12, s13, s14, s15, s16, Sr de, s18, Sr d, Si 10, Su, Su, Su] [])) (fun _ k => XS.icmpYes X3.here hx rfl (pc0 := 382) (pc' := 387) rfl (hb hby at_382) rfl (teq hc4).1 (by decide) (by decide) k) ?_
  obtain ⟨as5, T5, h5, kk5, bs5, ks5, X5, e5, E5, hS, hk, hZ, hown, Q5_e, Q5_c, Q5_v, Q5_a, -, -, hC5, -, hsf5, st5⟩ := ldcCH X3 hx hZ hown (hw.w 366 rfl) wS e3 hS hk hEL (List.mem_of_getElem? (i := 1) rfl) C0.1 (vs := [.int 104, .int 97, .int 115, .int 32, .int 114, .int 111, .int 108, .int 101, .int 32]) (z := (9 : Int32)) ⟨by decide, rfl⟩ (by decide) rfl (g := (mkF m 387 #[s0, s1, s2, s3, Si ra, Si rb, Si 0, s7, s8, s9, s10, s11, s12, s13, s14, s15, s16, Sr de, s18, Sr d, Si 10, Su, Su, Su] [])) rfl (hb hby at_387) (n := 36) (by decide +kernel) (by decide) (by decide) (by decide)
  have E_10 := P_E_d.ext E5
  have F_11 := P_F_d_value.ext E5
  have F_12 := P_F_d_coder.ext E5
  have V_13 := P_V_td.ext E5
  have S_14 := P_S_COMPACT_STRINGS.ext E5
  have S_15 := P_S_SIOOBE_FORMATTER.ext E5
  have C16 := CHr.trans C0 hC5
  have K17 : Keep h0 h5 [] := K0.ext E5
  refine own_go (B := T5.setTop (mkF m 391 #[s0, s1, s2, s3, Si ra, Si rb, Si 0, s7, s8, s9, s10, s11, s12, s13, s14, s15, s16, Sr de, s18, Sr d, Si 10, Sr as5, Su, Su] [])) (fun _ k => st5 _ (XS.astore X5.here hx rfl (hb hby at_389) rfl rfl (l' := #[s0, s1, s2, s3, Si ra, Si rb, Si 0, s7, s8, s9, s10, s11, s12, s13, s14, s15, s16, Sr de, s18, Sr d, Si 10, Sr as5, Su, Su]) rfl k)) ?_
  have B20 : own_By Z h5 td (10 : Int32) (0 : Int32) (104 : Int32) := own_By.of V_13 (by decide) (by decide) rfl
  have B21 : own_By Z h5 td (10 : Int32) (1 : Int32) (97 : Int32) := own_By.of V_13 (by decide) (by decide) rfl
  have B22 : own_By Z h5 td (10 : Int32) (2 : Int32) (115 : Int32) := own_By.of V_13 (by decide) (by decide) rfl
  have B23 : own_By Z h5 td (10 : Int32) (3 : Int32) (32 : Int32) := own_By.of V_13 (by decide) (by decide) rfl
  have B24 : own_By Z h5 td (10 : Int32) (4 : Int32) (114 : Int32) := own_By.of V_13 (by decide) (by decide) rfl
  have B25 : own_By Z h5 td (10 : Int32) (5 : Int32) (111 : Int32) := own_By.of V_13 (by decide) (by decide) rfl
  have B26 : own_By Z h5 td (10 : Int32) (6 : Int32) (108 : Int32) := own_By.of V_13 (by decide) (by decide) rfl
  have B27 : own_By Z h5 td (10 : Int32) (7 : Int32) (101 : Int32) := own_By.of V_13 (by decide) (by decide) rfl
  have B28 : own_By Z h5 td (10 : Int32) (8 : Int32) (32 : Int32) := own_By.of V_13 (by decide) (by decide) rfl
  refine own_pre ⟨hw, hx, hby, hml, hlk, hret, hS, X5.mono (by decide) (by decide), e5, hk, hZ, hown, hEL, C16, Nat.le_trans Z0 K17.1, N3, KA.trans K17 all0⟩ s0 s1 s2 s3 (Si ra) (Si rb) (Si 0) s7 s8 s9 s10 s11 s12 s13 s14 s15 s16 (Sr de) s18 d (Si 10) as5 td (10 : Int32) bs5 ks5 cs sf E_10 F_11 F_12 B20 B21 B22 B23 B24 B25 B26 B27 B28 Q5_e Q5_v Q5_c Q5_a S_14 S_15 (by decide) hcs hsf (fun T29 l29 X29 e29 N29 => ?_)
  show own_FinW _ _ _ _ _ _ _ (T29.setTop (mkF m 539 #[s0, s1, s2, s3, Si ra, Si rb, Si 0, s7, s8, s9, s10, s11, s12, s13, s14, s15, s16, Sr de, s18, Sr d, Si 10, Sr as5, Si 1, Su] []))
  refine own_go (B := T29.setTop (mkF m 543 #[s0, s1, s2, s3, Si ra, Si rb, Si 0, s7, s8, s9, s10, s11, s12, s13, s14, s15, s16, Sr de, s18, Sr d, Si 10, Sr as5, Si 1, Su] [.int 9, .ref d])) (fun _ k => XS.aload X29.here hx rfl (hb hby at_539) rfl rfl (XS.bipush X29.here hx rfl (hb hby at_541) k)) ?_
  have B30 : own_By Z h5 td (10 : Int32) (9 : Int32) (ra.toInt8.toInt32) := own_By.of V_13 (by decide) (by decide) rfl
  refine own_cV (own_rm59 l Z a0 hw [] d td (9 : Int32) (10 : Int32) (ra.toInt8.toInt32) sf cs h5 n0 (Nat.le_trans Z0 K17.1) E_10 F_11 F_12 B30 S_15 hsf S_14 hcs (by decide) (by decide)) X29 hx hZ hown (hw.w 367 rfl) (hw.w 368 rfl) (notFace_of_selects (args := #[]) (mvT hZ (hw.w 370 rfl))) (hw.w 370 rfl) (hw.w 369 rfl) (hw.w 2 rfl) (hw.w 371 rfl) E_10 e29 rfl rfl (by rw [hml]; rfl) (rest := []) (lenOf own_pd41 rfl) rfl (hb hby at_543) (W := 0) (show 2 * 0 + _ = _ from rfl) (by decide) (by decide) ?_
  rintro _ T31 L31 X31 ⟨rfl, N31q, e31⟩
  have N31 := Fr.app N29 N31q
  refine own_go (B := T31.setTop (mkF m 548 #[s0, s1, s2, s3, Si ra, Si rb, Si 0, s7, s8, s9, s10, s11, s12, s13, s14, s15, s16, Sr de, s18, Sr d, Si 10, Sr as5, Si 1, Su] [.int ra, (.int (((ra.toInt8.toInt32) &&& (255 : Int32)).toUInt32.toUInt16.toUInt32.toInt32))])) (fun _ k => XS.iload X31.here hx rfl (hb hby at_546) rfl  k) ?_
  have hc32 : (((ra.toInt8.toInt32) &&& (255 : Int32)).toUInt32.toUInt16.toUInt32.toInt32) = ra := (own_pl_tail1_1 ra hl_ra hu_ra)
  refine own_go (B := T31.setTop (mkF m 553 #[s0, s1, s2, s3, Si ra, Si rb, Si 0, s7, s8, s9, s10, s11, s12, s13, s14, s15, s16, Sr de, s18, Sr d, Si 10, Sr as5, Si 1, Su] [.int 0])) (fun _ k => XS.icmpNo X31.here hx rfl (hb hby at_548) rfl (teq hc32).2 (XS.iload X31.here hx rfl (hb hby at_551) rfl  k)) ?_
  have hc33 : (0 : Int32) = (0 : Int32) := by decide
  refine own_go (B := T31.setTop (mkF m 577 #[s0, s1, s2, s3, Si ra, Si rb, Si 0, s7, s8, s9, s10, s11, s12, s13, s14, s15, s16, Sr de, s18, Sr d, Si 10, Sr as5, Si 1, Si 1] [.int 1])) (fun _ k => XS.ifYes X31.here hx rfl (pc0 := 553) (pc' := 568) rfl (hb hby at_553) rfl ((if0 _ _).trans (teq hc33).1) (by decide) (by decide) (XS.iconst X31.here hx rfl (hb hby at_568) (XS.goto X31.here hx rfl (pc0 := 569) (pc' := 573) rfl (hb hby at_569) (by decide) (by decide) (XS.istore X31.here hx rfl (hb hby at_573) rfl (l' := #[s0, s1, s2, s3, Si ra, Si rb, Si 0, s7, s8, s9, s10, s11, s12, s13, s14, s15, s16, Sr de, s18, Sr d, Si 10, Sr as5, Si 1, Si 1]) rfl (XS.iload X31.here hx rfl (hb hby at_575) rfl  k))))) ?_
  have hc34 : ¬ ((1 : Int32) = (0 : Int32)) := by decide
  refine own_go (B := T31.setTop (mkF m 582 #[s0, s1, s2, s3, Si ra, Si rb, Si 0, s7, s8, s9, s10, s11, s12, s13, s14, s15, s16, Sr de, s18, Sr d, Si 10, Sr as5, Si 1, Si 1] [.int 1])) (fun _ k => XS.ifNo X31.here hx rfl (hb hby at_577) rfl ((if0 _ _).trans (feq hc34).1) (XS.iload X31.here hx rfl (hb hby at_580) rfl  k)) ?_
  have hc35 : ¬ ((1 : Int32) = (0 : Int32)) := by decide
  refine own_go (B := T31.setTop (mkF m 590 #[s0, s1, s2, s3, Si ra, Si rb, Si 0, s7, s8, s9, s10, s11, s12, s13, s14, s15, s16, Sr de, s18, Sr d, Si 10, Sr as5, Si 1, Si 1] [.int 1])) (fun _ k => XS.ifNo X31.here hx rfl (hb hby at_582) rfl ((if0 _ _).trans (feq hc35).1) (XS.iconst X31.here hx rfl (hb hby at_585) (XS.goto X31.here hx rfl (pc0 := 586) (pc' := 590) rfl (hb hby at_586) (by decide) (by decide) k))) ?_
  exact own_retNW X31 hx hS hlk (t := .boolean) (w := (1 : Int32)) hret (by simp) (hb hby at_590) e31 hk rfl ⟨rfl, N31, (KA.trans K17 all0)⟩ (by decide) (by decide)
theorem own_pl_tail2_1 (ra : Int32) (hl_ra : 0 ≤ ra.toInt) (hu_ra : ra.toInt ≤ 255) : (((ra.toInt8.toInt32) &&& (255 : Int32)).toUInt32.toUInt16.toUInt32.toInt32) = ra := by
  have := rng32 ra
  have := rng32 (ra.toInt8.toInt32)
  have := own_i2b ra
  have := rng32 ((ra.toInt8.toInt32) &&& (255 : Int32))
  have := Jvm.Kit.i32_mask (ra.toInt8.toInt32) (255 : Int32) (k := 8) (by decide) (by decide)
  have := rng32 (((ra.toInt8.toInt32) &&& (255 : Int32)).toUInt32.toUInt16.toUInt32.toInt32)
  have := own_i2c ((ra.toInt8.toInt32) &&& (255 : Int32))
  try simp only [own_i32_255] at *
  have := own_i32_255
  try simp only [Int32.lt_iff_toInt_lt, Int32.le_iff_toInt_le, ← Int32.toInt_inj, true_and, and_true, true_or, or_true, false_or, or_false, not_true_eq_false, not_false_eq_true, false_and, and_false, ne_eq] at *
  all_goals first | omega | (simp; done)
theorem own_pl_tail2_2 (rb : Int32) (hl_rb : 0 ≤ rb.toInt) (hu_rb : rb.toInt ≤ 255) : (((rb.toInt8.toInt32) &&& (255 : Int32)).toUInt32.toUInt16.toUInt32.toInt32) = rb := by
  have := rng32 rb
  have := rng32 (rb.toInt8.toInt32)
  have := own_i2b rb
  have := rng32 ((rb.toInt8.toInt32) &&& (255 : Int32))
  have := Jvm.Kit.i32_mask (rb.toInt8.toInt32) (255 : Int32) (k := 8) (by decide) (by decide)
  have := rng32 (((rb.toInt8.toInt32) &&& (255 : Int32)).toUInt32.toUInt16.toUInt32.toInt32)
  have := own_i2c ((rb.toInt8.toInt32) &&& (255 : Int32))
  try simp only [own_i32_255] at *
  have := own_i32_255
  try simp only [Int32.lt_iff_toInt_lt, Int32.le_iff_toInt_le, ← Int32.toInt_inj, true_and, and_true, true_or, or_true, false_or, or_false, not_true_eq_false, not_false_eq_true, false_and, and_false, ne_eq] at *
  all_goals first | omega | (simp; done)
theorem own_tail2 {l : Launch} {Z : State} {a0 : Array Value} {p : Program} {e : Env} {below : List Frame} {s : State} {m : MethodId} {meth : Method} {c : Code} {A : Array Value} {vm0 : Vm} {k0 : Nat} {hA h0 : Heap} {n0 : Nat} {T0 : State} {lcs : List Loc} (H : own_Ctx l Z a0 p e below s m meth c A vm0 k0 hA h0 n0 T0 lcs 50 4200) (s0 s1 s2 s3 : Slot) (ra rb : Int32) (s7 s8 s9 s10 s11 s12 s13 s14 s15 s16 : Slot) (de : Addr) (s18 : Slot) (d q td : Addr) (kd : ClassId) (cs : Int32) (sf : Value) (P_E_de : Exa Z h0 de nn6_) (P_F_de_description : Fld Z h0 de nn6_ "description" nn11_ (.ref d)) (P_F_de_grants : Fld Z h0 de nn6_ "grants" nn12_ (.ref q)) (P_E_d : Exa Z h0 d nn3_) (P_F_d_value : Fld Z h0 d nn3_ "value" "[B" (.ref td)) (P_F_d_coder : Fld Z h0 d nn3_ "coder" "B" (.int 0)) (P_V_td : Arv Z h0 td kd .byte 11 [.int 104, .int 97, .int 115, .int 32, .int 114, .int 111, .int 108, .int 101, .int 32, (.int (ra.toInt8.toInt32)), (.int (rb.toInt8.toInt32))] (.int 0)) (P_S_COMPACT_STRINGS : Sta Z h0 nn3_ nn16_ "Z" (.int cs)) (P_S_SIOOBE_FORMATTER : Sta Z h0 nn21_ nn22_ nn23_ sf) (hl_ra : 0 ≤ ra.toInt) (hu_ra : ra.toInt ≤ 255) (hl_rb : 0 ≤ rb.toInt) (hu_rb : rb.toInt ≤ 255) (hcs : ¬ (cs = (0 : Int32))) (hsf : sf.isRef = true) :
    own_FinW p e below s (own_QL hA n0) 64 4352 (T0.setTop (mkF m 354 #[s0, s1, s2, s3, Si ra, Si rb, Si 1, s7, s8, s9, s10, s11, s12, s13, s14, s15, s16, Sr de, s18, Su, Su, Su, Su, Su] [])) := by
  obtain ⟨hw, hx, hby, hml, hlk, hret, hS, X0, e0, hk, hZ, hown, hEL, C0, Z0, N0, KA⟩ := H
  have K0 := Keep.refl h0 []
  have wS : ∀ d ∈ Bundle.stringAtoms, d.before a0 Z = true := fun d hd => hw d (own_strs d hd)
  refine own_go (B := T0.setTop (mkF m 356 #[s0, s1, s2, s3, Si ra, Si rb, Si 1, s7, s8, s9, s10, s11, s12, s13, s14, s15, s16, Sr de, s18, Su, Su, Su, Su, Su] [.ref de])) (fun _ k => XS.aload X0.here hx rfl (hb hby at_354) rfl rfl k) ?_
  refine own_cV (own_rm58 l Z a0 hw [] de d h0 n0 (Nat.le_trans Z0 K0.1) P_F_de_description) X0 hx hZ hown (hw.w 360 rfl) (hw.w 361 rfl) (notFace_of_selects (args := #[]) (mvT hZ (hw.w 363 rfl))) (hw.w 363 rfl) (hw.w 362 rfl) (hw.w 101 rfl) (hw.w 364 rfl) P_E_de e0 rfl rfl (by rw [hml]; rfl) (rest := []) (lenOf own_pd34 rfl) rfl (hb hby at_356) (W := 0) (show 2 * 0 + _ = _ from rfl) (by decide) (by decide) ?_
  rintro _ T1 L1 X1 ⟨rfl, N1q, e1⟩
  have N1 := Fr.app N0 N1q
  refine own_go (B := T1.setTop (mkF m 363 #[s0, s1, s2, s3, Si ra, Si rb, Si 1, s7, s8, s9, s10, s11, s12, s13, s14, s15, s16, Sr de, s18, Sr d, Su, Su, Su, Su] [.int 1])) (fun _ k => XS.astore X1.here hx rfl (hb hby at_359) rfl rfl (l' := #[s0, s1, s2, s3, Si ra, Si rb, Si 1, s7, s8, s9, s10, s11, s12, s13, s14, s15, s16, Sr de, s18, Sr d, Su, Su, Su, Su]) rfl (XS.iload X1.here hx rfl (hb hby at_361) rfl  k)) ?_
  have hc2 : ¬ ((1 : Int32) = (0 : Int32)) := by decide
  refine own_go (B := T1.setTop (mkF m 377 #[s0, s1, s2, s3, Si ra, Si rb, Si 1, s7, s8, s9, s10, s11, s12, s13, s14, s15, s16, Sr de, s18, Sr d, Si 11, Su, Su, Su] [.ref d])) (fun _ k => XS.ifNo X1.here hx rfl (hb hby at_363) rfl ((if0 _ _).trans (feq hc2).1) (XS.bipush X1.here hx rfl (hb hby at_366) (XS.goto X1.here hx rfl (pc0 := 368) (pc' := 373) rfl (hb hby at_368) (by decide) (by decide) (XS.istore X1.here hx rfl (hb hby at_373) rfl (l' := #[s0, s1, s2, s3, Si ra, Si rb, Si 1, s7, s8, s9, s10, s11, s12, s13, s14, s15, s16, Sr de, s18, Sr d, Si 11, Su, Su, Su]) rfl (XS.aload X1.here hx rfl (hb hby at_375) rfl rfl k))))) ?_
  refine own_cV (own_len11_0 l Z a0 hw [] d td kd (104 : Int32) (97 : Int32) (115 : Int32) (32 : Int32) (114 : Int32) (111 : Int32) (108 : Int32) (101 : Int32) (32 : Int32) (ra.toInt8.toInt32) (rb.toInt8.toInt32) cs h0 n0 (Nat.le_trans Z0 K0.1) P_E_d P_F_d_value P_F_d_coder P_V_td P_S_COMPACT_STRINGS hcs) X1 hx hZ hown (hw.w 365 rfl) (hw.w 135 rfl) (notFace_of_selects (args := #[]) (mvT hZ (hw.w 137 rfl))) (hw.w 137 rfl) (hw.w 136 rfl) (hw.w 2 rfl) (hw.w 138 rfl) P_E_d e1 rfl rfl (by rw [hml]; rfl) (rest := []) (lenOf own_pd14 rfl) rfl (hb hby at_377) (W := 0) (show 2 * 0 + _ = _ from rfl) (by decide) (by decide) ?_
  rintro _ T3 L3 X3 ⟨rfl, N3q, e3⟩
  have N3 := Fr.app N1 N3q
  refine own_go (B := T3.setTop (mkF m 382 #[s0, s1, s2, s3, Si ra, Si rb, Si 1, s7, s8, s9, s10, s11, s12, s13, s14, s15, s16, Sr de, s18, Sr d, Si 11, Su, Su, Su] [.int 11, .int 11])) (fun _ k => XS.iload X3.here hx rfl (hb hby at_380) rfl  k) ?_
  have hc4 : (11 : Int32) = (11 : Int32) := by decide
  refine own_go (B := T3.setTop (mkF m 387 #[s0, s1, s2, s3, Si ra, Si rb, Si 1, s7, s8, s9, s10, s11, s12, s13, s14, s15, s16, Sr de, s18, Sr d, Si 11, Su, Su, Su] [])) (fun _ k => XS.icmpYes X3.here hx rfl (pc0 := 382) (pc' := 387) rfl (hb hby at_382) rfl (teq hc4).1 (by decide) (by decide) k) ?_
  obtain ⟨as5, T5, h5, kk5, bs5, ks5, X5, e5, E5, hS, hk, hZ, hown, Q5_e, Q5_c, Q5_v, Q5_a, -, -, hC5, -, hsf5, st5⟩ := ldcCH X3 hx hZ hown (hw.w 366 rfl) wS e3 hS hk hEL (List.mem_of_getElem? (i := 1) rfl) C0.1 (vs := [.int 104, .int 97, .int 115, .int 32, .int 114, .int 111, .int 108, .int 101, .int 32]) (z := (9 : Int32)) ⟨by decide, rfl⟩ (by decide) rfl (g := (mkF m 387 #[s0, s1, s2, s3, Si ra, Si rb, Si 1, s7, s8, s9, s10, s11, s12, s13, s14, s15, s16, Sr de, s18, Sr d, Si 11, Su, Su, Su] [])) rfl (hb hby at_387) (n := 36) (by decide +kernel) (by decide) (by decide) (by decide)
  have E_10 := P_E_d.ext E5
  have F_11 := P_F_d_value.ext E5
  have F_12 := P_F_d_coder.ext E5
  have V_13 := P_V_td.ext E5
  have S_14 := P_S_COMPACT_STRINGS.ext E5
  have S_15 := P_S_SIOOBE_FORMATTER.ext E5
  have C16 := CHr.trans C0 hC5
  have K17 : Keep h0 h5 [] := K0.ext E5
  refine own_go (B := T5.setTop (mkF m 391 #[s0, s1, s2, s3, Si ra, Si rb, Si 1, s7, s8, s9, s10, s11, s12, s13, s14, s15, s16, Sr de, s18, Sr d, Si 11, Sr as5, Su, Su] [])) (fun _ k => st5 _ (XS.astore X5.here hx rfl (hb hby at_389) rfl rfl (l' := #[s0, s1, s2, s3, Si ra, Si rb, Si 1, s7, s8, s9, s10, s11, s12, s13, s14, s15, s16, Sr de, s18, Sr d, Si 11, Sr as5, Su, Su]) rfl k)) ?_
  have B20 : own_By Z h5 td (11 : Int32) (0 : Int32) (104 : Int32) := own_By.of V_13 (by decide) (by decide) rfl
  have B21 : own_By Z h5 td (11 : Int32) (1 : Int32) (97 : Int32) := own_By.of V_13 (by decide) (by decide) rfl
  have B22 : own_By Z h5 td (11 : Int32) (2 : Int32) (115 : Int32) := own_By.of V_13 (by decide) (by decide) rfl
  have B23 : own_By Z h5 td (11 : Int32) (3 : Int32) (32 : Int32) := own_By.of V_13 (by decide) (by decide) rfl
  have B24 : own_By Z h5 td (11 : Int32) (4 : Int32) (114 : Int32) := own_By.of V_13 (by decide) (by decide) rfl
  have B25 : own_By Z h5 td (11 : Int32) (5 : Int32) (111 : Int32) := own_By.of V_13 (by decide) (by decide) rfl
  have B26 : own_By Z h5 td (11 : Int32) (6 : Int32) (108 : Int32) := own_By.of V_13 (by decide) (by decide) rfl
  have B27 : own_By Z h5 td (11 : Int32) (7 : Int32) (101 : Int32) := own_By.of V_13 (by decide) (by decide) rfl
  have B28 : own_By Z h5 td (11 : Int32) (8 : Int32) (32 : Int32) := own_By.of V_13 (by decide) (by decide) rfl
  refine own_pre ⟨hw, hx, hby, hml, hlk, hret, hS, X5.mono (by decide) (by decide), e5, hk, hZ, hown, hEL, C16, Nat.le_trans Z0 K17.1, N3, KA.trans K17 all0⟩ s0 s1 s2 s3 (Si ra) (Si rb) (Si 1) s7 s8 s9 s10 s11 s12 s13 s14 s15 s16 (Sr de) s18 d (Si 11) as5 td (11 : Int32) bs5 ks5 cs sf E_10 F_11 F_12 B20 B21 B22 B23 B24 B25 B26 B27 B28 Q5_e Q5_v Q5_c Q5_a S_14 S_15 (by decide) hcs hsf (fun T29 l29 X29 e29 N29 => ?_)
  show own_FinW _ _ _ _ _ _ _ (T29.setTop (mkF m 539 #[s0, s1, s2, s3, Si ra, Si rb, Si 1, s7, s8, s9, s10, s11, s12, s13, s14, s15, s16, Sr de, s18, Sr d, Si 11, Sr as5, Si 1, Su] []))
  refine own_go (B := T29.setTop (mkF m 543 #[s0, s1, s2, s3, Si ra, Si rb, Si 1, s7, s8, s9, s10, s11, s12, s13, s14, s15, s16, Sr de, s18, Sr d, Si 11, Sr as5, Si 1, Su] [.int 9, .ref d])) (fun _ k => XS.aload X29.here hx rfl (hb hby at_539) rfl rfl (XS.bipush X29.here hx rfl (hb hby at_541) k)) ?_
  have B30 : own_By Z h5 td (11 : Int32) (9 : Int32) (ra.toInt8.toInt32) := own_By.of V_13 (by decide) (by decide) rfl
  refine own_cV (own_rm59 l Z a0 hw [] d td (9 : Int32) (11 : Int32) (ra.toInt8.toInt32) sf cs h5 n0 (Nat.le_trans Z0 K17.1) E_10 F_11 F_12 B30 S_15 hsf S_14 hcs (by decide) (by decide)) X29 hx hZ hown (hw.w 367 rfl) (hw.w 368 rfl) (notFace_of_selects (args := #[]) (mvT hZ (hw.w 370 rfl))) (hw.w 370 rfl) (hw.w 369 rfl) (hw.w 2 rfl) (hw.w 371 rfl) E_10 e29 rfl rfl (by rw [hml]; rfl) (rest := []) (lenOf own_pd41 rfl) rfl (hb hby at_543) (W := 0) (show 2 * 0 + _ = _ from rfl) (by decide) (by decide) ?_
  rintro _ T31 L31 X31 ⟨rfl, N31q, e31⟩
  have N31 := Fr.app N29 N31q
  refine own_go (B := T31.setTop (mkF m 548 #[s0, s1, s2, s3, Si ra, Si rb, Si 1, s7, s8, s9, s10, s11, s12, s13, s14, s15, s16, Sr de, s18, Sr d, Si 11, Sr as5, Si 1, Su] [.int ra, (.int (((ra.toInt8.toInt32) &&& (255 : Int32)).toUInt32.toUInt16.toUInt32.toInt32))])) (fun _ k => XS.iload X31.here hx rfl (hb hby at_546) rfl  k) ?_
  have hc32 : (((ra.toInt8.toInt32) &&& (255 : Int32)).toUInt32.toUInt16.toUInt32.toInt32) = ra := (own_pl_tail2_1 ra hl_ra hu_ra)
  refine own_go (B := T31.setTop (mkF m 553 #[s0, s1, s2, s3, Si ra, Si rb, Si 1, s7, s8, s9, s10, s11, s12, s13, s14, s15, s16, Sr de, s18, Sr d, Si 11, Sr as5, Si 1, Su] [.int 1])) (fun _ k => XS.icmpNo X31.here hx rfl (hb hby at_548) rfl (teq hc32).2 (XS.iload X31.here hx rfl (hb hby at_551) rfl  k)) ?_
  have hc33 : ¬ ((1 : Int32) = (0 : Int32)) := by decide
  refine own_go (B := T31.setTop (mkF m 560 #[s0, s1, s2, s3, Si ra, Si rb, Si 1, s7, s8, s9, s10, s11, s12, s13, s14, s15, s16, Sr de, s18, Sr d, Si 11, Sr as5, Si 1, Su] [.int 10, .ref d])) (fun _ k => XS.ifNo X31.here hx rfl (hb hby at_553) rfl ((if0 _ _).trans (feq hc33).1) (XS.aload X31.here hx rfl (hb hby at_556) rfl rfl (XS.bipush X31.here hx rfl (hb hby at_558) k))) ?_
  have B34 : own_By Z h5 td (11 : Int32) (10 : Int32) (rb.toInt8.toInt32) := own_By.of V_13 (by decide) (by decide) rfl
  refine own_cV (own_rm59 l Z a0 hw [] d td (10 : Int32) (11 : Int32) (rb.toInt8.toInt32) sf cs h5 n0 (Nat.le_trans Z0 K17.1) E_10 F_11 F_12 B34 S_15 hsf S_14 hcs (by decide) (by decide)) X31 hx hZ hown (hw.w 367 rfl) (hw.w 368 rfl) (notFace_of_selects (args := #[]) (mvT hZ (hw.w 370 rfl))) (hw.w 370 rfl) (hw.w 369 rfl) (hw.w 2 rfl) (hw.w 371 rfl) E_10 e31 rfl rfl (by rw [hml]; rfl) (rest := []) (lenOf own_pd41 rfl) rfl (hb hby at_560) (W := 0) (show 2 * 0 + _ = _ from rfl) (by decide) (by decide) ?_
  rintro _ T35 L35 X35 ⟨rfl, N35q, e35⟩
  have N35 := Fr.app N31 N35q
  refine own_go (B := T35.setTop (mkF m 565 #[s0, s1, s2, s3, Si ra, Si rb, Si 1, s7, s8, s9, s10, s11, s12, s13, s14, s15, s16, Sr de, s18, Sr d, Si 11, Sr as5, Si 1, Su] [.int rb, (.int (((rb.toInt8.toInt32) &&& (255 : Int32)).toUInt32.toUInt16.toUInt32.toInt32))])) (fun _ k => XS.iload X35.here hx rfl (hb hby at_563) rfl  k) ?_
  have hc36 : (((rb.toInt8.toInt32) &&& (255 : Int32)).toUInt32.toUInt16.toUInt32.toInt32) = rb := (own_pl_tail2_2 rb hl_rb hu_rb)
  refine own_go (B := T35.setTop (mkF m 577 #[s0, s1, s2, s3, Si ra, Si rb, Si 1, s7, s8, s9, s10, s11, s12, s13, s14, s15, s16, Sr de, s18, Sr d, Si 11, Sr as5, Si 1, Si 1] [.int 1])) (fun _ k => XS.icmpNo X35.here hx rfl (hb hby at_565) rfl (teq hc36).2 (XS.iconst X35.here hx rfl (hb hby at_568) (XS.goto X35.here hx rfl (pc0 := 569) (pc' := 573) rfl (hb hby at_569) (by decide) (by decide) (XS.istore X35.here hx rfl (hb hby at_573) rfl (l' := #[s0, s1, s2, s3, Si ra, Si rb, Si 1, s7, s8, s9, s10, s11, s12, s13, s14, s15, s16, Sr de, s18, Sr d, Si 11, Sr as5, Si 1, Si 1]) rfl (XS.iload X35.here hx rfl (hb hby at_575) rfl  k))))) ?_
  have hc37 : ¬ ((1 : Int32) = (0 : Int32)) := by decide
  refine own_go (B := T35.setTop (mkF m 582 #[s0, s1, s2, s3, Si ra, Si rb, Si 1, s7, s8, s9, s10, s11, s12, s13, s14, s15, s16, Sr de, s18, Sr d, Si 11, Sr as5, Si 1, Si 1] [.int 1])) (fun _ k => XS.ifNo X35.here hx rfl (hb hby at_577) rfl ((if0 _ _).trans (feq hc37).1) (XS.iload X35.here hx rfl (hb hby at_580) rfl  k)) ?_
  have hc38 : ¬ ((1 : Int32) = (0 : Int32)) := by decide
  refine own_go (B := T35.setTop (mkF m 590 #[s0, s1, s2, s3, Si ra, Si rb, Si 1, s7, s8, s9, s10, s11, s12, s13, s14, s15, s16, Sr de, s18, Sr d, Si 11, Sr as5, Si 1, Si 1] [.int 1])) (fun _ k => XS.ifNo X35.here hx rfl (hb hby at_582) rfl ((if0 _ _).trans (feq hc38).1) (XS.iconst X35.here hx rfl (hb hby at_585) (XS.goto X35.here hx rfl (pc0 := 586) (pc' := 590) rfl (hb hby at_586) (by decide) (by decide) k))) ?_
  exact own_retNW X35 hx hS hlk (t := .boolean) (w := (1 : Int32)) hret (by simp) (hb hby at_590) e35 hk rfl ⟨rfl, N35, (KA.trans K17 all0)⟩ (by decide) (by decide)
theorem own_xN {l : Launch} {Z : State} {a0 : Array Value} {p : Program} {e : Env} {below : List Frame} {s : State} {m : MethodId} {meth : Method} {c : Code} {A : Array Value} {vm0 : Vm} {k0 : Nat} {hA h0 : Heap} {n0 : Nat} {T0 : State} {lcs : List Loc} (H : own_Ctx l Z a0 p e below s m meth c A vm0 k0 hA h0 n0 T0 lcs 45 4000) (s0 s1 s2 s3 : Slot) (ra rb m6 : Int32) (s7 : Slot) (ga gb gc : Int32) (s11 s12 s13 : Slot) (au de q li ro em a1 d td : Addr) (kd : ClassId) (zd : Int32) (vd : List Value) (cs : Int32) (sf : Value) (P_E_de : Exa Z h0 de nn6_) (P_F_de_description : Fld Z h0 de nn6_ "description" nn11_ (.ref d)) (P_F_de_grants : Fld Z h0 de nn6_ "grants" nn12_ (.ref q)) (P_E_d : Exa Z h0 d nn3_) (P_F_d_value : Fld Z h0 d nn3_ "value" "[B" (.ref td)) (P_F_d_coder : Fld Z h0 d nn3_ "coder" "B" (.int 0)) (P_V_td : Arv Z h0 td kd .byte zd vd (.int 0)) (P_G_q_fn : own_Fn Z h0 q li) (P_E_li : Exa Z h0 li nn2_) (P_F_li_e0 : Fld Z h0 li nn2_ "e0" nn9_ (.ref ro)) (P_F_li_e1 : Fld Z h0 li nn2_ "e1" nn9_ (.ref em)) (P_E_a1 : Exa Z h0 a1 nn4_) (P_F_a1_size : Fld Z h0 a1 nn4_ "size" "I" (.int 0)) (P_E_au : Exa Z h0 au nn8_) (P_F_au_roles : Fld Z h0 au nn8_ "roles" nn13_ (.ref a1)) (P_S_COMPACT_STRINGS : Sta Z h0 nn3_ nn16_ "Z" (.int cs)) (P_S_EMPTY : Sta Z h0 nn15_ "EMPTY" nn9_ (.ref em)) (P_S_SIOOBE_FORMATTER : Sta Z h0 nn21_ nn22_ nn23_ sf) (hl_ra : 0 ≤ ra.toInt) (hu_ra : ra.toInt ≤ 255) (hl_rb : 0 ≤ rb.toInt) (hu_rb : rb.toInt ≤ 255) (hcs : ¬ (cs = (0 : Int32))) (hsf : sf.isRef = true) (hdesc : own_HD m6 ra rb zd vd) :
    own_FinW p e below s (own_QL hA n0) 64 4352 (T0.setTop (mkF m 292 #[s0, s1, s2, s3, Si ra, Si rb, Si m6, s7, Si ga, Si gb, Si gc, s11, s12, s13, Si 0, Si 0, Sr au, Sr de, Su, Su, Su, Su, Su, Su] [])) := by
  obtain ⟨hw, hx, hby, hml, hlk, hret, hS, X0, e0, hk, hZ, hown, hEL, C0, Z0, N0, KA⟩ := H
  have K0 := Keep.refl h0 []
  refine own_go (B := T0.setTop (mkF m 294 #[s0, s1, s2, s3, Si ra, Si rb, Si m6, s7, Si ga, Si gb, Si gc, s11, s12, s13, Si 0, Si 0, Sr au, Sr de, Su, Su, Su, Su, Su, Su] [.int 0])) (fun _ k => XS.iload X0.here hx rfl (hb hby at_292) rfl  k) ?_
  have hc1 : (0 : Int32) = (0 : Int32) := by decide
  refine own_go (B := T0.setTop (mkF m 311 #[s0, s1, s2, s3, Si ra, Si rb, Si m6, s7, Si ga, Si gb, Si gc, s11, s12, s13, Si 0, Si 0, Sr au, Sr de, Su, Su, Su, Su, Su, Su] [.int 0])) (fun _ k => XS.ifYes X0.here hx rfl (pc0 := 294) (pc' := 309) rfl (hb hby at_294) rfl ((if0 _ _).trans (teq hc1).1) (by decide) (by decide) (XS.iload X0.here hx rfl (hb hby at_309) rfl  k)) ?_
  have hc2 : (0 : Int32) = (0 : Int32) := by decide
  refine own_go (B := T0.setTop (mkF m 344 #[s0, s1, s2, s3, Si ra, Si rb, Si m6, s7, Si ga, Si gb, Si gc, s11, s12, s13, Si 0, Si 0, Sr au, Sr de, Si 0, Su, Su, Su, Su, Su] [.ref au, .ref de])) (fun _ k => XS.ifYes X0.here hx rfl (pc0 := 311) (pc' := 337) rfl (hb hby at_311) rfl ((if0 _ _).trans (teq hc2).1) (by decide) (by decide) (XS.iconst X0.here hx rfl (hb hby at_337) (XS.istore X0.here hx rfl (hb hby at_338) rfl (l' := #[s0, s1, s2, s3, Si ra, Si rb, Si m6, s7, Si ga, Si gb, Si gc, s11, s12, s13, Si 0, Si 0, Sr au, Sr de, Si 0, Su, Su, Su, Su, Su]) rfl (XS.aload X0.here hx rfl (hb hby at_340) rfl rfl (XS.aload X0.here hx rfl (hb hby at_342) rfl rfl k))))) ?_
  obtain ⟨cq3, kq3, q3a, q3b, q3c⟩ := isOf hZ e0 P_E_de
  obtain ⟨_, _, ⟨T3, L3, k3, n3⟩, -, X3, hS3, hg3, ⟨Lc3, hQ3, l3, y3, z3, hC3⟩, st3⟩ := X0.virtualBackS hx (y := own_y63) (z := own_y63) hown (mvT hZ (hw.w 257 rfl)) (mvT hZ (hw.w 258 rfl)) (notFace_of_selects (args := #[]) (mvT hZ (hw.w 260 rfl))) (mvT hZ (hw.w 260 rfl)) (mvT hZ (hw.w 259 rfl)) (by decide) (backOfSH (W := 0) (own_grN l Z a0 hw [] a1 ro li em au de q h0 n0 (Nat.le_trans Z0 K0.1) P_E_a1 P_F_a1_size P_E_li P_F_li_e0 P_F_li_e1 P_S_EMPTY P_E_au P_F_au_roles P_F_de_grants P_G_q_fn) hZ (hw.w 261 rfl) (hw.w 101 rfl) (by decide) (by decide) hEL C0.1) q3a q3c (g := (mkF m 344 #[s0, s1, s2, s3, Si ra, Si rb, Si m6, s7, Si ga, Si gb, Si gc, s11, s12, s13, Si 0, Si 0, Sr au, Sr de, Si 0, Su, Su, Su, Su, Su] [.ref au, .ref de])) rfl (by rw [hml]; rfl) (Steps.refl _) (argsL := [.ref au]) (rest := []) (lenOf own_pd42 rfl) rfl (by show 2 * 0 + _ ≤ _; exact Nat.le_of_eq rfl) (hb hby at_344) (fun _ _ => ⟨rfl, e0, (by decide : 45 + 3 ≤ _), (by decide : 4000 + 32 ≤ _)⟩)
  dsimp only [Pt.U, Pt.locs, Pt.cells, Pt.slots] at X3 l3 y3 z3 st3 hQ3 hS3 hg3 hC3
  subst l3 y3 z3
  obtain ⟨X3, hS, hZ, hown⟩ := rebS hS (show _ ≤ T0.heap.size by rw [e0]; exact hk) X3 hS3 hg3 hZ hown
  have hk : T3.heap.size ≤ T3.heap.size := Nat.le_refl _
  obtain ⟨rfl, N3q, K3q⟩ := hQ3
  have N3 := Fr.app N0 N3q
  have E_5 := P_E_de.keep K3q
  have F_6 := P_F_de_description.keep K3q nin0
  have F_7 := P_F_de_grants.keep K3q nin0
  have E_8 := P_E_d.keep K3q
  have F_9 := P_F_d_value.keep K3q nin0
  have F_10 := P_F_d_coder.keep K3q nin0
  have V_11 := P_V_td.keep K3q nin0
  have S_20 := own_Sta_keep P_S_COMPACT_STRINGS K3q all0
  have S_22 := own_Sta_keep P_S_SIOOBE_FORMATTER K3q all0
  have C23 := CHr.trans C0 hC3
  have K24 : Keep h0 T3.heap [] := K0.trans K3q all0
  refine own_go (B := T3.setTop (mkF m 349 #[s0, s1, s2, s3, Si ra, Si rb, Si m6, s7, Si ga, Si gb, Si gc, s11, s12, s13, Si 0, Si 0, Sr au, Sr de, Si 0, Su, Su, Su, Su, Su] [.int 0, .int 0])) (fun _ k => st3.trans (XS.iload X3.here hx rfl (hb hby at_347) rfl  k)) ?_
  have hc25 : (0 : Int32) = (0 : Int32) := by decide
  refine own_go (B := T3.setTop (mkF m 354 #[s0, s1, s2, s3, Si ra, Si rb, Si m6, s7, Si ga, Si gb, Si gc, s11, s12, s13, Si 0, Si 0, Sr au, Sr de, Si 0, Su, Su, Su, Su, Su] [])) (fun _ k => XS.icmpYes X3.here hx rfl (pc0 := 349) (pc' := 354) rfl (hb hby at_349) rfl (teq hc25).1 (by decide) (by decide) k) ?_
  rcases hdesc with ⟨rfl, rfl, rfl⟩ | ⟨rfl, rfl, rfl⟩
  · skip
    exact own_tail1 ⟨hw, hx, hby, hml, hlk, hret, hS, X3.mono (by decide) (by decide), rfl, hk, hZ, hown, hEL, C23, Nat.le_trans Z0 K24.1, N3, KA.trans K24 all0⟩ s0 s1 s2 s3 ra rb s7 (Si ga) (Si gb) (Si gc) s11 s12 s13 (Si 0) (Si 0) (Sr au) de (Si 0) d q td kd cs sf E_5 F_6 F_7 E_8 F_9 F_10 V_11 S_20 S_22 hl_ra hu_ra hl_rb hu_rb hcs hsf
  · skip
    exact own_tail2 ⟨hw, hx, hby, hml, hlk, hret, hS, X3.mono (by decide) (by decide), rfl, hk, hZ, hown, hEL, C23, Nat.le_trans Z0 K24.1, N3, KA.trans K24 all0⟩ s0 s1 s2 s3 ra rb s7 (Si ga) (Si gb) (Si gc) s11 s12 s13 (Si 0) (Si 0) (Sr au) de (Si 0) d q td kd cs sf E_5 F_6 F_7 E_8 F_9 F_10 V_11 S_20 S_22 hl_ra hu_ra hl_rb hu_rb hcs hsf
theorem own_mN {l : Launch} {Z : State} {a0 : Array Value} {p : Program} {e : Env} {below : List Frame} {s : State} {m : MethodId} {meth : Method} {c : Code} {A : Array Value} {vm0 : Vm} {k0 : Nat} {hA h0 : Heap} {n0 : Nat} {T0 : State} {lcs : List Loc} (H : own_Ctx l Z a0 p e below s m meth c A vm0 k0 hA h0 n0 T0 lcs 26 150) (s0 s1 s2 s3 : Slot) (ra rb m6 : Int32) (ro : Addr) (ga gb gc : Int32) (s11 s12 s13 : Slot) (au a1 tr : Addr) (kr : ClassId) (zr : Int32) (vr : List Value) (em : Addr) (cs : Int32) (sf : Value) (P_E_ro : Exa Z h0 ro nn3_) (P_F_ro_value : Fld Z h0 ro nn3_ "value" "[B" (.ref tr)) (P_F_ro_coder : Fld Z h0 ro nn3_ "coder" "B" (.int 0)) (P_V_tr : Arv Z h0 tr kr .byte zr vr (.int 0)) (P_E_a1 : Exa Z h0 a1 nn4_) (P_F_a1_size : Fld Z h0 a1 nn4_ "size" "I" (.int 0)) (P_E_au : Exa Z h0 au nn8_) (P_F_au_roles : Fld Z h0 au nn8_ "roles" nn13_ (.ref a1)) (P_S_COMPACT_STRINGS : Sta Z h0 nn3_ nn16_ "Z" (.int cs)) (P_S_EMPTY : Sta Z h0 nn15_ "EMPTY" nn9_ (.ref em)) (P_S_SIOOBE_FORMATTER : Sta Z h0 nn21_ nn22_ nn23_ sf) (hl_ra : 0 ≤ ra.toInt) (hu_ra : ra.toInt ≤ 255) (hl_rb : 0 ≤ rb.toInt) (hu_rb : rb.toInt ≤ 255) (hcs : ¬ (cs = (0 : Int32))) (hsf : sf.isRef = true) (hrole : own_HR m6 ra rb zr vr) :
    own_FinW p e below s (own_QL hA n0) 64 4352 (T0.setTop (mkF m 285 #[s0, s1, s2, s3, Si ra, Si rb, Si m6, Sr ro, Si ga, Si gb, Si gc, s11, s12, s13, Si 0, Si 0, Sr au, Sr a1, Su, Su, Su, Su, Su, Su] [])) := by
  obtain ⟨hw, hx, hby, hml, hlk, hret, hS, X0, e0, hk, hZ, hown, hEL, C0, Z0, N0, KA⟩ := H
  have K0 := Keep.refl h0 []
  rcases hrole with ⟨rfl, rfl, rfl⟩ | ⟨rfl, rfl, rfl⟩
  · skip
    refine own_go (B := T0.setTop (mkF m 287 #[s0, s1, s2, s3, Si ra, Si rb, Si 0, Sr ro, Si ga, Si gb, Si gc, s11, s12, s13, Si 0, Si 0, Sr au, Sr a1, Su, Su, Su, Su, Su, Su] [.ref ro])) (fun _ k => XS.aload X0.here hx rfl (hb hby at_285) rfl rfl k) ?_
    obtain ⟨_, _, ⟨T1, L1, k1, n1⟩, -, X1, hS1, hg1, ⟨Lc1, hQ1, l1, y1, z1, hC1⟩, st1⟩ := callSS X0 hx (y := own_y62) hown (mvT hZ (hw.w 99 rfl)) (mvT hZ (hw.w 100 rfl)) (mvT hZ (hw.w 101 rfl)) (mvT hZ (hw.w 102 rfl)) (by decide) (backOfSH (W := 0) (own_has1 l Z a0 hw [] ro tr kr (ra.toInt8.toInt32) cs em h0 n0 (Nat.le_trans Z0 K0.1) P_E_ro P_F_ro_value P_F_ro_coder P_V_tr P_S_EMPTY P_S_COMPACT_STRINGS hcs) hZ (hw.w 102 rfl) (hw.w 101 rfl) (by decide) (by decide) hEL C0.1) (g := (mkF m 287 #[s0, s1, s2, s3, Si ra, Si rb, Si 0, Sr ro, Si ga, Si gb, Si gc, s11, s12, s13, Si 0, Si 0, Sr au, Sr a1, Su, Su, Su, Su, Su, Su] [.ref ro])) rfl (by rw [hml]; rfl) (argsL := [.ref ro]) (rest := []) (lenOf own_pd43 rfl) rfl (by show 2 * 0 + _ ≤ _; exact Nat.le_of_eq rfl) (hb hby at_287) (fun _ _ => ⟨rfl, e0, (by decide : 26 + 9 ≤ _), (by decide : 150 + 79 ≤ _)⟩)
    dsimp only [Pt.U, Pt.locs, Pt.cells, Pt.slots] at X1 l1 y1 z1 st1 hQ1 hS1 hg1 hC1
    subst l1 y1 z1
    obtain ⟨X1, hS, hZ, hown⟩ := rebS hS (show _ ≤ T0.heap.size by rw [e0]; exact hk) X1 hS1 hg1 hZ hown
    have hk : T1.heap.size ≤ T1.heap.size := Nat.le_refl _
    obtain ⟨b_1, d_1, td_1, kd_1, q_1, li_1, rfl, N1q, K1q, Q1_0, Q1_1, Q1_2, Q1_3, Q1_4, Q1_5, Q1_6, Q1_7, Q1_8, Q1_9, Q1_10, x1_0, x1_1, x1_2, x1_3, x1_4⟩ := hQ1
    have N1 := Fr.app N0 N1q
    have E_27 := P_E_a1.keep K1q
    have F_28 := P_F_a1_size.keep K1q nin0
    have E_29 := P_E_au.keep K1q
    have F_30 := P_F_au_roles.keep K1q nin0
    have S_31 := own_Sta_keep P_S_COMPACT_STRINGS K1q all0
    have S_32 := own_Sta_keep P_S_EMPTY K1q all0
    have S_33 := own_Sta_keep P_S_SIOOBE_FORMATTER K1q all0
    have C34 := CHr.trans C0 hC1
    have K35 : Keep h0 T1.heap [] := K0.trans K1q all0
    refine own_go (B := T1.setTop (mkF m 292 #[s0, s1, s2, s3, Si ra, Si rb, Si 0, Sr ro, Si ga, Si gb, Si gc, s11, s12, s13, Si 0, Si 0, Sr au, Sr b_1, Su, Su, Su, Su, Su, Su] [])) (fun _ k => st1.trans (XS.astore X1.here hx rfl (hb hby at_290) rfl rfl (l' := #[s0, s1, s2, s3, Si ra, Si rb, Si 0, Sr ro, Si ga, Si gb, Si gc, s11, s12, s13, Si 0, Si 0, Sr au, Sr b_1, Su, Su, Su, Su, Su, Su]) rfl k)) ?_
    exact own_xN ⟨hw, hx, hby, hml, hlk, hret, hS, X1.mono (by decide) (by decide), rfl, hk, hZ, hown, hEL, C34, Nat.le_trans Z0 K35.1, N1, KA.trans K35 all0⟩ s0 s1 s2 s3 ra rb (0 : Int32) (Sr ro) ga gb gc s11 s12 s13 au b_1 q_1 li_1 ro em a1 d_1 td_1 kd_1 (10 : Int32) ([.int 104, .int 97, .int 115, .int 32, .int 114, .int 111, .int 108, .int 101, .int 32, (.int (ra.toInt8.toInt32))]) cs sf Q1_0 Q1_1 Q1_2 Q1_3 Q1_4 Q1_5 Q1_6 Q1_7 Q1_8 Q1_9 Q1_10 E_27 F_28 E_29 F_30 S_31 S_32 S_33 hl_ra hu_ra hl_rb hu_rb hcs hsf (Or.inl ⟨rfl, rfl, rfl⟩)
  · skip
    refine own_go (B := T0.setTop (mkF m 287 #[s0, s1, s2, s3, Si ra, Si rb, Si 1, Sr ro, Si ga, Si gb, Si gc, s11, s12, s13, Si 0, Si 0, Sr au, Sr a1, Su, Su, Su, Su, Su, Su] [.ref ro])) (fun _ k => XS.aload X0.here hx rfl (hb hby at_285) rfl rfl k) ?_
    obtain ⟨_, _, ⟨T36, L36, k36, n36⟩, -, X36, hS36, hg36, ⟨Lc36, hQ36, l36, y36, z36, hC36⟩, st36⟩ := callSS X0 hx (y := own_y62) hown (mvT hZ (hw.w 99 rfl)) (mvT hZ (hw.w 100 rfl)) (mvT hZ (hw.w 101 rfl)) (mvT hZ (hw.w 102 rfl)) (by decide) (backOfSH (W := 0) (own_has2 l Z a0 hw [] ro tr kr (ra.toInt8.toInt32) (rb.toInt8.toInt32) cs em h0 n0 (Nat.le_trans Z0 K0.1) P_E_ro P_F_ro_value P_F_ro_coder P_V_tr P_S_EMPTY P_S_COMPACT_STRINGS hcs) hZ (hw.w 102 rfl) (hw.w 101 rfl) (by decide) (by decide) hEL C0.1) (g := (mkF m 287 #[s0, s1, s2, s3, Si ra, Si rb, Si 1, Sr ro, Si ga, Si gb, Si gc, s11, s12, s13, Si 0, Si 0, Sr au, Sr a1, Su, Su, Su, Su, Su, Su] [.ref ro])) rfl (by rw [hml]; rfl) (argsL := [.ref ro]) (rest := []) (lenOf own_pd43 rfl) rfl (by show 2 * 0 + _ ≤ _; exact Nat.le_of_eq rfl) (hb hby at_287) (fun _ _ => ⟨rfl, e0, (by decide : 26 + 9 ≤ _), (by decide : 150 + 80 ≤ _)⟩)
    dsimp only [Pt.U, Pt.locs, Pt.cells, Pt.slots] at X36 l36 y36 z36 st36 hQ36 hS36 hg36 hC36
    subst l36 y36 z36
    obtain ⟨X36, hS, hZ, hown⟩ := rebS hS (show _ ≤ T0.heap.size by rw [e0]; exact hk) X36 hS36 hg36 hZ hown
    have hk : T36.heap.size ≤ T36.heap.size := Nat.le_refl _
    obtain ⟨b_36, d_36, td_36, kd_36, q_36, li_36, rfl, N36q, K36q, Q36_0, Q36_1, Q36_2, Q36_3, Q36_4, Q36_5, Q36_6, Q36_7, Q36_8, Q36_9, Q36_10, x36_0, x36_1, x36_2, x36_3, x36_4⟩ := hQ36
    have N36 := Fr.app N0 N36q
    have E_62 := P_E_a1.keep K36q
    have F_63 := P_F_a1_size.keep K36q nin0
    have E_64 := P_E_au.keep K36q
    have F_65 := P_F_au_roles.keep K36q nin0
    have S_66 := own_Sta_keep P_S_COMPACT_STRINGS K36q all0
    have S_67 := own_Sta_keep P_S_EMPTY K36q all0
    have S_68 := own_Sta_keep P_S_SIOOBE_FORMATTER K36q all0
    have C69 := CHr.trans C0 hC36
    have K70 : Keep h0 T36.heap [] := K0.trans K36q all0
    refine own_go (B := T36.setTop (mkF m 292 #[s0, s1, s2, s3, Si ra, Si rb, Si 1, Sr ro, Si ga, Si gb, Si gc, s11, s12, s13, Si 0, Si 0, Sr au, Sr b_36, Su, Su, Su, Su, Su, Su] [])) (fun _ k => st36.trans (XS.astore X36.here hx rfl (hb hby at_290) rfl rfl (l' := #[s0, s1, s2, s3, Si ra, Si rb, Si 1, Sr ro, Si ga, Si gb, Si gc, s11, s12, s13, Si 0, Si 0, Sr au, Sr b_36, Su, Su, Su, Su, Su, Su]) rfl k)) ?_
    exact own_xN ⟨hw, hx, hby, hml, hlk, hret, hS, X36.mono (by decide) (by decide), rfl, hk, hZ, hown, hEL, C69, Nat.le_trans Z0 K70.1, N36, KA.trans K70 all0⟩ s0 s1 s2 s3 ra rb (1 : Int32) (Sr ro) ga gb gc s11 s12 s13 au b_36 q_36 li_36 ro em a1 d_36 td_36 kd_36 (11 : Int32) ([.int 104, .int 97, .int 115, .int 32, .int 114, .int 111, .int 108, .int 101, .int 32, (.int (ra.toInt8.toInt32)), (.int (rb.toInt8.toInt32))]) cs sf Q36_0 Q36_1 Q36_2 Q36_3 Q36_4 Q36_5 Q36_6 Q36_7 Q36_8 Q36_9 Q36_10 E_62 F_63 E_64 F_65 S_66 S_67 S_68 hl_ra hu_ra hl_rb hu_rb hcs hsf (Or.inr ⟨rfl, rfl, rfl⟩)
theorem own_pl_kN_1 (p4 : Int32) : ((p4 &&& (255 : Int32)).toUInt32.toUInt16.toUInt32.toInt32).toInt ≤ 255 := by
  have := rng32 p4
  have := rng32 (p4 &&& (255 : Int32))
  have := Jvm.Kit.i32_mask p4 (255 : Int32) (k := 8) (by decide) (by decide)
  have := rng32 ((p4 &&& (255 : Int32)).toUInt32.toUInt16.toUInt32.toInt32)
  have := own_i2c (p4 &&& (255 : Int32))
  try simp only [own_i32_255] at *
  have := own_i32_255
  try simp only [Int32.lt_iff_toInt_lt, Int32.le_iff_toInt_le, ← Int32.toInt_inj, true_and, and_true, true_or, or_true, false_or, or_false, not_true_eq_false, not_false_eq_true, false_and, and_false, ne_eq] at *
  all_goals first | omega | (simp; done)
theorem own_kN {l : Launch} {Z : State} {a0 : Array Value} {p : Program} {e : Env} {below : List Frame} {s : State} {m : MethodId} {meth : Method} {c : Code} {A : Array Value} {vm0 : Vm} {k0 : Nat} {hA h0 : Heap} {n0 : Nat} {T0 : State} {lcs : List Loc} (H : own_Ctx l Z a0 p e below s m meth c A vm0 k0 hA h0 n0 T0 lcs 18 60) (s0 s1 s2 : Slot) (p4 ra rb m6 : Int32) (ro : Addr) (ga gb gc : Int32) (s11 s12 s13 : Slot) (a1 tr : Addr) (kr : ClassId) (zr : Int32) (vr : List Value) (em : Addr) (cs : Int32) (sf : Value) (P_E_ro : Exa Z h0 ro nn3_) (P_F_ro_value : Fld Z h0 ro nn3_ "value" "[B" (.ref tr)) (P_F_ro_coder : Fld Z h0 ro nn3_ "coder" "B" (.int 0)) (P_V_tr : Arv Z h0 tr kr .byte zr vr (.int 0)) (P_E_a1 : Exa Z h0 a1 nn4_) (P_F_a1_size : Fld Z h0 a1 nn4_ "size" "I" (.int 0)) (P_S_COMPACT_STRINGS : Sta Z h0 nn3_ nn16_ "Z" (.int cs)) (P_S_EMPTY : Sta Z h0 nn15_ "EMPTY" nn9_ (.ref em)) (P_S_SIOOBE_FORMATTER : Sta Z h0 nn21_ nn22_ nn23_ sf) (hl_ra : 0 ≤ ra.toInt) (hu_ra : ra.toInt ≤ 255) (hl_rb : 0 ≤ rb.toInt) (hu_rb : rb.toInt ≤ 255) (hcs : ¬ (cs = (0 : Int32))) (hsf : sf.isRef = true) (hrole : own_HR m6 ra rb zr vr) :
    own_FinW p e below s (own_QL hA n0) 64 4352 (T0.setTop (mkF m 255 #[s0, s1, s2, Si p4, Si ra, Si rb, Si m6, Sr ro, Si ga, Si gb, Si gc, s11, s12, s13, Si 0, Si 0, Su, Sr a1, Su, Su, Su, Su, Su, Su] [])) := by
  obtain ⟨hw, hx, hby, hml, hlk, hret, hS, X0, e0, hk, hZ, hown, hEL, C0, Z0, N0, KA⟩ := H
  have K0 := Keep.refl h0 []
  obtain ⟨T1, h1, X1, e1, E1, A1, D1, -, st1⟩ := newO X0 hx hZ hown (hw.w 70 rfl) (hw.w 71 rfl) (hw.w 72 rfl) e0 (g := (mkF m 255 #[s0, s1, s2, Si p4, Si ra, Si rb, Si m6, Sr ro, Si ga, Si gb, Si gc, s11, s12, s13, Si 0, Si 0, Su, Sr a1, Su, Su, Su, Su, Su, Su] [])) rfl (hb hby at_255) (by decide) (by decide)
  obtain ⟨b1, g1⟩ : ∃ z, z = h0.size := ⟨_, rfl⟩
  rw [← g1] at A1 D1 st1
  have ne_ro_b1_2 : ro ≠ b1 := Nat.ne_of_lt (Nat.lt_of_lt_of_le P_E_ro.lt (Nat.le_of_eq g1.symm))
  have ne_tr_b1_3 : tr ≠ b1 := Nat.ne_of_lt (Nat.lt_of_lt_of_le P_V_tr.lt (Nat.le_of_eq g1.symm))
  have ne_a1_b1_4 : a1 ≠ b1 := Nat.ne_of_lt (Nat.lt_of_lt_of_le P_E_a1.lt (Nat.le_of_eq g1.symm))
  have sz_b1 : h0.size ≤ b1 := Nat.le_trans K0.1 (Nat.le_of_eq g1.symm)
  have g_b1 : n0 ≤ b1 := Nat.le_trans Z0 sz_b1
  have E_6 := P_E_ro.ext E1
  have F_7 := P_F_ro_value.ext E1
  have F_8 := P_F_ro_coder.ext E1
  have V_9 := P_V_tr.ext E1
  have E_10 := P_E_a1.ext E1
  have F_11 := P_F_a1_size.ext E1
  have S_12 := P_S_COMPACT_STRINGS.ext E1
  have S_13 := P_S_EMPTY.ext E1
  have S_14 := P_S_SIOOBE_FORMATTER.ext E1
  have F_name_b1 : Fld Z h1 b1 nn8_ "name" nn11_ .null := D1 (Or.inr (hw.w 88 rfl)) (ty := (.object "java/lang/String")) (by decide)
  have F_roles_b1 : Fld Z h1 b1 nn8_ "roles" nn13_ .null := D1 (Or.inr (hw.w 96 rfl)) (ty := (.object "java/util/Set")) (by decide)
  have F_anonymous_b1 : Fld Z h1 b1 nn8_ "anonymous" "Z" (.int 0) := D1 (Or.inr (hw.w 98 rfl)) (ty := .boolean) (by decide)
  have hk := Nat.le_trans hk E1.1
  have C16 := CHr.trans C0 (CHr.ext E1 C0.1)
  have K17 : Keep h0 h1 [] := K0.ext E1
  refine own_go (B := T1.setTop (mkF m 259 #[s0, s1, s2, Si p4, Si ra, Si rb, Si m6, Sr ro, Si ga, Si gb, Si gc, s11, s12, s13, Si 0, Si 0, Su, Sr a1, Su, Su, Su, Su, Su, Su] [.ref b1, .ref b1])) (fun _ k => st1 _ (XS.dup X1.here hx rfl (hb hby at_258) rfl rfl k)) ?_
  obtain ⟨T18, h18, X18, e18, E18, A18, D18, -, st18⟩ := newO X1 hx hZ hown (hw.w 0 rfl) (hw.w 1 rfl) (hw.w 2 rfl) e1 (g := (mkF m 259 #[s0, s1, s2, Si p4, Si ra, Si rb, Si m6, Sr ro, Si ga, Si gb, Si gc, s11, s12, s13, Si 0, Si 0, Su, Sr a1, Su, Su, Su, Su, Su, Su] [.ref b1, .ref b1])) rfl (hb hby at_259) (by decide) (by decide)
  obtain ⟨b18, g18⟩ : ∃ z, z = h1.size := ⟨_, rfl⟩
  rw [← g18] at A18 D18 st18
  have ne_ro_b18_19 : ro ≠ b18 := Nat.ne_of_lt (Nat.lt_of_lt_of_le E_6.lt (Nat.le_of_eq g18.symm))
  have ne_tr_b18_20 : tr ≠ b18 := Nat.ne_of_lt (Nat.lt_of_lt_of_le V_9.lt (Nat.le_of_eq g18.symm))
  have ne_a1_b18_21 : a1 ≠ b18 := Nat.ne_of_lt (Nat.lt_of_lt_of_le E_10.lt (Nat.le_of_eq g18.symm))
  have ne_b1_b18_22 : b1 ≠ b18 := Nat.ne_of_lt (Nat.lt_of_lt_of_le A1.lt (Nat.le_of_eq g18.symm))
  have sz_b18 : h0.size ≤ b18 := Nat.le_trans K17.1 (Nat.le_of_eq g18.symm)
  have g_b18 : n0 ≤ b18 := Nat.le_trans Z0 sz_b18
  have Y_b18 : Safe Z own_EL vm0 h1 b18 := Safe.new (Nat.le_of_eq g18.symm)
  have E_24 := E_6.ext E18
  have F_25 := F_7.ext E18
  have F_26 := F_8.ext E18
  have V_27 := V_9.ext E18
  have E_28 := E_10.ext E18
  have F_29 := F_11.ext E18
  have S_30 := S_12.ext E18
  have S_31 := S_13.ext E18
  have S_32 := S_14.ext E18
  have E_34 := A1.ext E18
  have F_35 := F_name_b1.ext E18
  have F_36 := F_roles_b1.ext E18
  have F_37 := F_anonymous_b1.ext E18
  have Y_38 := Safe.ext E18 C16.1 Y_b18
  have F_coder_b18 : Fld Z h18 b18 nn3_ "coder" "B" (.int 0) := D18 (Or.inr (hw.w 27 rfl)) (ty := .byte) (by decide)
  have F_value_b18 : Fld Z h18 b18 nn3_ "value" "[B" .null := D18 (Or.inr (hw.w 29 rfl)) (ty := (.array .byte)) (by decide)
  have hk := Nat.le_trans hk E18.1
  have C39 := CHr.trans C16 (CHr.ext E18 C16.1)
  have K40 : Keep h0 h18 [] := K17.ext E18
  refine own_go (B := T18.setTop (mkF m 264 #[s0, s1, s2, Si p4, Si ra, Si rb, Si m6, Sr ro, Si ga, Si gb, Si gc, s11, s12, s13, Si 0, Si 0, Su, Sr a1, Su, Su, Su, Su, Su, Su] [.int 1, .ref b18, .ref b18, .ref b1, .ref b1])) (fun _ k => st18 _ (XS.dup X18.here hx rfl (hb hby at_262) rfl rfl (XS.iconst X18.here hx rfl (hb hby at_263) k))) ?_
  obtain ⟨T41, h41, kc41, X41, e41, E41, A41, st41⟩ := newP X18 hx hZ (hw.w 3 rfl) e18 (g := (mkF m 264 #[s0, s1, s2, Si p4, Si ra, Si rb, Si m6, Sr ro, Si ga, Si gb, Si gc, s11, s12, s13, Si 0, Si 0, Su, Sr a1, Su, Su, Su, Su, Su, Su] [.int 1, .ref b18, .ref b18, .ref b1, .ref b1])) rfl (hb hby at_264) rfl (by decide) (cap := 1) (by decide) (by decide) (by decide) (by decide)
  obtain ⟨b41, g41⟩ : ∃ z, z = h18.size := ⟨_, rfl⟩
  rw [← g41] at A41 st41
  have ne_ro_b41_42 : ro ≠ b41 := Nat.ne_of_lt (Nat.lt_of_lt_of_le E_24.lt (Nat.le_of_eq g41.symm))
  have ne_tr_b41_43 : tr ≠ b41 := Nat.ne_of_lt (Nat.lt_of_lt_of_le V_27.lt (Nat.le_of_eq g41.symm))
  have ne_a1_b41_44 : a1 ≠ b41 := Nat.ne_of_lt (Nat.lt_of_lt_of_le E_28.lt (Nat.le_of_eq g41.symm))
  have ne_b1_b41_45 : b1 ≠ b41 := Nat.ne_of_lt (Nat.lt_of_lt_of_le E_34.lt (Nat.le_of_eq g41.symm))
  have ne_b18_b41_46 : b18 ≠ b41 := Nat.ne_of_lt (Nat.lt_of_lt_of_le A18.lt (Nat.le_of_eq g41.symm))
  have sz_b41 : h0.size ≤ b41 := Nat.le_trans K40.1 (Nat.le_of_eq g41.symm)
  have g_b41 : n0 ≤ b41 := Nat.le_trans Z0 sz_b41
  have Y_b41 : Safe Z own_EL vm0 h18 b41 := Safe.new (Nat.le_of_eq g41.symm)
  have E_48 := E_24.ext E41
  have F_49 := F_25.ext E41
  have F_50 := F_26.ext E41
  have V_51 := V_27.ext E41
  have E_52 := E_28.ext E41
  have F_53 := F_29.ext E41
  have S_54 := S_30.ext E41
  have S_55 := S_31.ext E41
  have S_56 := S_32.ext E41
  have E_58 := E_34.ext E41
  have F_59 := F_35.ext E41
  have F_60 := F_36.ext E41
  have F_61 := F_37.ext E41
  have Y_62 := Safe.ext E41 C39.1 Y_38
  have E_63 := A18.ext E41
  have F_64 := F_coder_b18.ext E41
  have F_65 := F_value_b18.ext E41
  have Y_66 := Safe.ext E41 C39.1 Y_b41
  have V_b41 : Arv Z h41 b41 kc41 .char 1 [.int 0] (.int 0) := (Arv.new A41 (by decide)).pad (pad_rep [] (.int 0) 1)
  have hk := Nat.le_trans hk E41.1
  have C67 := CHr.trans C39 (CHr.ext E41 C39.1)
  have K68 : Keep h0 h41 [] := K40.ext E41
  refine own_go (B := T41.setTop (mkF m 274 #[s0, s1, s2, Si p4, Si ra, Si rb, Si m6, Sr ro, Si ga, Si gb, Si gc, s11, s12, s13, Si 0, Si 0, Su, Sr a1, Su, Su, Su, Su, Su, Su] [(.int ((p4 &&& (255 : Int32)).toUInt32.toUInt16.toUInt32.toInt32)), .int 0, .ref b41, .ref b41, .ref b18, .ref b18, .ref b1, .ref b1])) (fun _ k => st41 _ (XS.dup X41.here hx rfl (hb hby at_266) rfl rfl (XS.iconst X41.here hx rfl (hb hby at_267) (XS.iloadN X41.here hx rfl (hb hby at_268) rfl (XS.sipush X41.here hx rfl (hb hby at_269) (XS.iand X41.here hx rfl (hb hby at_272) rfl (XS.i2c X41.here hx rfl (hb hby at_273) rfl k))))))) ?_
  obtain ⟨cl69, Ar69, q69, S69, N69n, H69, G69⟩ := id V_b41
  have hin70 : ¬ ((0 : Int32) < 0 ∨ cl69.slots.size ≤ ((0 : Int32)).toNatClampNeg) := inb_of S69 ⟨by decide, by decide⟩
  obtain ⟨T70, h70, X70, e70, W70, st70⟩ := stC X41 hx hZ e41 Ar69 (j := (0 : Int32)) hin70 (g := (mkF m 274 #[s0, s1, s2, Si p4, Si ra, Si rb, Si m6, Sr ro, Si ga, Si gb, Si gc, s11, s12, s13, Si 0, Si 0, Su, Sr a1, Su, Su, Su, Su, Su, Su] [(.int ((p4 &&& (255 : Int32)).toUInt32.toUInt16.toUInt32.toInt32)), .int 0, .ref b41, .ref b41, .ref b18, .ref b18, .ref b1, .ref b1])) rfl rfl (hb hby at_274)
  rw [own_narc] at W70
  have V_b41_70 : Arv Z h70 b41 kc41 .char 1 [(.int ((p4 &&& (255 : Int32)).toUInt32.toUInt16.toUInt32.toInt32))] (.int 0) := Arv.set Ar69 q69 S69 N69n H69 G69 (fits_nar_char _) W70 0 rfl (Nat.le_of_ble_eq_true rfl)
  have E_72 := E_48.wr W70
  have F_73 := F_49.other W70 (Or.inl ne_ro_b41_42)
  have F_74 := F_50.other W70 (Or.inl ne_ro_b41_42)
  have V_75 := V_51.other W70 ne_tr_b41_43
  have E_76 := E_52.wr W70
  have F_77 := F_53.other W70 (Or.inl ne_a1_b41_44)
  have S_78 := S_54.wr W70
  have S_79 := S_55.wr W70
  have S_80 := S_56.wr W70
  have E_82 := E_58.wr W70
  have F_83 := F_59.other W70 (Or.inl ne_b1_b41_45)
  have F_84 := F_60.other W70 (Or.inl ne_b1_b41_45)
  have F_85 := F_61.other W70 (Or.inl ne_b1_b41_45)
  have Y_86 := Safe.wr W70 Y_66 C67.1 Y_62
  have E_87 := E_63.wr W70
  have F_88 := F_64.other W70 (Or.inl ne_b18_b41_46)
  have F_89 := F_65.other W70 (Or.inl ne_b18_b41_46)
  have hk := Nat.le_trans hk (Keep.of_wr W70).1
  have C92 := CHr.trans C67 (CHr.wr W70 Y_66 C67.1)
  have K93 : Keep h0 h70 [] := K68.wr W70 (Or.inr sz_b41)
  have N70 := Fr.snoc X70 N0 g_b41
  refine own_go (B := T70.setTop (mkF m 275 #[s0, s1, s2, Si p4, Si ra, Si rb, Si m6, Sr ro, Si ga, Si gb, Si gc, s11, s12, s13, Si 0, Si 0, Su, Sr a1, Su, Su, Su, Su, Su, Su] [.ref b41, .ref b18, .ref b18, .ref b1, .ref b1])) (fun _ k => st70 _ k) ?_
  refine own_cN (own_str1 l Z a0 hw [] b18 b41 kc41 ((p4 &&& (255 : Int32)).toUInt32.toUInt16.toUInt32.toInt32) cs h70 n0 (Nat.le_trans Z0 K93.1) E_87 F_89 F_88 V_b41_70 g_b18 ne_b18_b41_46 S_78 hcs (own_pl_kN_1 p4)) X70 hx hZ hown (hw.w 4 rfl) (hw.w 5 rfl) (hw.w 2 rfl) (hw.w 6 rfl) e70 rfl rfl (by rw [hml]; rfl) (rest := [.ref b18, .ref b1, .ref b1]) (lenOf own_pd44 rfl) rfl (hb hby at_275) (W := 3) (show 2 * 0 + _ = _ from rfl) (by decide) (by decide) rfl ?_
  rintro _ T94 L94 X94 ⟨t_94, kt_94, rfl, N94q, K94q, Q94_0, Q94_1, Q94_2, Q94_3, x94_0⟩
  have N94 := Fr.app N70 N94q
  have hk := Nat.le_trans hk K94q.1
  have E_102 := E_72.keep K94q
  have F_103 := F_73.keep K94q (ninS ne_ro_b18_19 nin0)
  have F_104 := F_74.keep K94q (ninS ne_ro_b18_19 nin0)
  have V_105 := V_75.keep K94q (ninS ne_tr_b18_20 nin0)
  have E_106 := E_76.keep K94q
  have F_107 := F_77.keep K94q (ninS ne_a1_b18_21 nin0)
  have S_108 := own_Sta_keep S_78 K94q (allS (own_plain E_87) all0)
  have S_109 := own_Sta_keep S_79 K94q (allS (own_plain E_87) all0)
  have S_110 := own_Sta_keep S_80 K94q (allS (own_plain E_87) all0)
  have E_112 := E_82.keep K94q
  have F_113 := F_83.keep K94q (ninS ne_b1_b18_22 nin0)
  have F_114 := F_84.keep K94q (ninS ne_b1_b18_22 nin0)
  have F_115 := F_85.keep K94q (ninS ne_b1_b18_22 nin0)
  have C123 := CHr.trans C92 (CHr.keep K94q (allS Y_86 all0) C92.1)
  have K124 : Keep h0 T94.heap [] := K93.trans K94q (allS (Or.inr sz_b18) all0)
  refine own_go (B := T94.setTop (mkF m 280 #[s0, s1, s2, Si p4, Si ra, Si rb, Si m6, Sr ro, Si ga, Si gb, Si gc, s11, s12, s13, Si 0, Si 0, Su, Sr a1, Su, Su, Su, Su, Su, Su] [.ref a1, .ref b18, .ref b1, .ref b1])) (fun _ k => XS.aload X94.here hx rfl (hb hby at_278) rfl rfl k) ?_
  obtain ⟨_, _, ⟨T125, L125, k125, n125⟩, -, X125, hS125, hg125, ⟨Lc125, hQ125, l125, y125, z125, hC125⟩, st125⟩ := X94.specialBackS hx (y := own_y61) rfl hown (mvT hZ (hw.w 73 rfl)) (mvT hZ (hw.w 74 rfl)) (mvT hZ (hw.w 75 rfl)) (by decide) (backOfSH (W := 1) (own_au2N l Z a0 hw [] b1 b18 a1 T94.heap n0 (Nat.le_trans Z0 K124.1) E_112 F_113 F_114 F_115 Q94_0 E_106 g_b1) hZ (hw.w 75 rfl) (hw.w 72 rfl) (by decide) (by decide) hEL C123.1) (g := (mkF m 280 #[s0, s1, s2, Si p4, Si ra, Si rb, Si m6, Sr ro, Si ga, Si gb, Si gc, s11, s12, s13, Si 0, Si 0, Su, Sr a1, Su, Su, Su, Su, Su, Su] [.ref a1, .ref b18, .ref b1, .ref b1])) rfl (by rw [hml]; rfl) (Steps.refl _) (a := b1) (argsL := [.ref b18, .ref a1]) (rest := [.ref b1]) (lenOf own_pd45 rfl) rfl (by show 2 * 0 + _ ≤ _; exact Nat.le_of_eq rfl) (hb hby at_280) (fun _ _ => ⟨rfl, rfl, (by decide : 22 + 2 ≤ _), (by decide : 69 + 20 ≤ _)⟩)
  dsimp only [Pt.U, Pt.locs, Pt.cells, Pt.slots] at X125 l125 y125 z125 st125 hQ125 hS125 hg125 hC125
  subst l125 y125 z125
  obtain ⟨X125, hS, hZ, hown⟩ := rebS hS (show _ ≤ T94.heap.size by rw [show T94.heap = T94.heap from rfl]; exact hk) X125 hS125 hg125 hZ hown
  have hk : T125.heap.size ≤ T125.heap.size := Nat.le_refl _
  obtain ⟨rfl, N125q, K125q, Q125_0, Q125_1⟩ := hQ125
  have N125 := Fr.app N94 N125q
  have E_127 := E_102.keep K125q
  have F_128 := F_103.keep K125q (ninS ne_ro_b1_2 nin0)
  have F_129 := F_104.keep K125q (ninS ne_ro_b1_2 nin0)
  have V_130 := V_105.keep K125q (ninS ne_tr_b1_3 nin0)
  have E_131 := E_106.keep K125q
  have F_132 := F_107.keep K125q (ninS ne_a1_b1_4 nin0)
  have S_133 := own_Sta_keep S_108 K125q (allS (own_plain E_112) all0)
  have S_134 := own_Sta_keep S_109 K125q (allS (own_plain E_112) all0)
  have S_135 := own_Sta_keep S_110 K125q (allS (own_plain E_112) all0)
  have C147 := CHr.trans C123 hC125
  have K148 : Keep h0 T125.heap [] := K124.trans K125q (allS (Or.inr sz_b1) all0)
  refine own_go (B := T125.setTop (mkF m 285 #[s0, s1, s2, Si p4, Si ra, Si rb, Si m6, Sr ro, Si ga, Si gb, Si gc, s11, s12, s13, Si 0, Si 0, Sr b1, Sr a1, Su, Su, Su, Su, Su, Su] [])) (fun _ k => st125.trans (XS.astore X125.here hx rfl (hb hby at_283) rfl rfl (l' := #[s0, s1, s2, Si p4, Si ra, Si rb, Si m6, Sr ro, Si ga, Si gb, Si gc, s11, s12, s13, Si 0, Si 0, Sr b1, Sr a1, Su, Su, Su, Su, Su, Su]) rfl k)) ?_
  exact own_mN ⟨hw, hx, hby, hml, hlk, hret, hS, X125.mono (by decide) (by decide), rfl, hk, hZ, hown, hEL, C147, Nat.le_trans Z0 K148.1, N125, KA.trans K148 all0⟩ s0 s1 s2 (Si p4) ra rb m6 ro ga gb gc s11 s12 s13 b1 a1 tr kr zr vr em cs sf E_127 F_128 F_129 V_130 E_131 F_132 Q125_0 Q125_1 S_133 S_134 S_135 hl_ra hu_ra hl_rb hu_rb hcs hsf hrole
theorem own_pl_x12_1 (ra rb m6 ga gb gc m14 m15 r : Int32) (hl_ra : 0 ≤ ra.toInt) (hu_ra : ra.toInt ≤ 255) (hl_rb : 0 ≤ rb.toInt) (hu_rb : rb.toInt ≤ 255) (hEx : own_Exp m6 m14 m15 ra rb ga gb gc r) (hc2 : m14 = (0 : Int32)) (hc3 : m15 = (0 : Int32)) : (0 : Int32) = own_b (¬ (r = (0 : Int32))) := by
  first | exact (own_b1 (hEx.mpr (by clear hEx; simp_all))).symm | exact (own_b0 (fun q => by have := hEx.mp q; clear hEx; simp_all)).symm
theorem own_pl_x12_2 (ra rb m6 ga gb gc m14 m15 r : Int32) (hl_ra : 0 ≤ ra.toInt) (hu_ra : ra.toInt ≤ 255) (hl_rb : 0 ≤ rb.toInt) (hu_rb : rb.toInt ≤ 255) (hEx : own_Exp m6 m14 m15 ra rb ga gb gc r) (hc2 : m14 = (0 : Int32)) (hc3 : ¬ (m15 = (0 : Int32))) (hc4 : m6 = (0 : Int32)) : (0 : Int32) = own_b (¬ (r = (0 : Int32))) := by
  first | exact (own_b1 (hEx.mpr (by clear hEx; simp_all))).symm | exact (own_b0 (fun q => by have := hEx.mp q; clear hEx; simp_all)).symm
theorem own_pl_x12_3 (ra rb m6 ga gb gc m14 m15 r : Int32) (hl_ra : 0 ≤ ra.toInt) (hu_ra : ra.toInt ≤ 255) (hl_rb : 0 ≤ rb.toInt) (hu_rb : rb.toInt ≤ 255) (hEx : own_Exp m6 m14 m15 ra rb ga gb gc r) (hc2 : m14 = (0 : Int32)) (hc3 : ¬ (m15 = (0 : Int32))) (hc4 : ¬ (m6 = (0 : Int32))) (hc5 : ra = gb) (hc6 : rb = gc) : (1 : Int32) = own_b (¬ (r = (0 : Int32))) := by
  first | exact (own_b1 (hEx.mpr (by clear hEx; simp_all))).symm | exact (own_b0 (fun q => by have := hEx.mp q; clear hEx; simp_all)).symm
theorem own_pl_x12_4 (ra rb m6 ga gb gc m14 m15 r : Int32) (hl_ra : 0 ≤ ra.toInt) (hu_ra : ra.toInt ≤ 255) (hl_rb : 0 ≤ rb.toInt) (hu_rb : rb.toInt ≤ 255) (hEx : own_Exp m6 m14 m15 ra rb ga gb gc r) (hc2 : m14 = (0 : Int32)) (hc3 : ¬ (m15 = (0 : Int32))) (hc4 : ¬ (m6 = (0 : Int32))) (hc5 : ra = gb) (hc6 : ¬ (rb = gc)) : (0 : Int32) = own_b (¬ (r = (0 : Int32))) := by
  first | exact (own_b1 (hEx.mpr (by clear hEx; simp_all))).symm | exact (own_b0 (fun q => by have := hEx.mp q; clear hEx; simp_all)).symm
theorem own_pl_x12_5 (ra rb m6 ga gb gc m14 m15 r : Int32) (hl_ra : 0 ≤ ra.toInt) (hu_ra : ra.toInt ≤ 255) (hl_rb : 0 ≤ rb.toInt) (hu_rb : rb.toInt ≤ 255) (hEx : own_Exp m6 m14 m15 ra rb ga gb gc r) (hc2 : m14 = (0 : Int32)) (hc3 : ¬ (m15 = (0 : Int32))) (hc4 : ¬ (m6 = (0 : Int32))) (hc5 : ¬ (ra = gb)) : (0 : Int32) = own_b (¬ (r = (0 : Int32))) := by
  first | exact (own_b1 (hEx.mpr (by clear hEx; simp_all))).symm | exact (own_b0 (fun q => by have := hEx.mp q; clear hEx; simp_all)).symm
theorem own_pl_x12_6 (ra rb m6 ga gb gc m14 m15 r : Int32) (hl_ra : 0 ≤ ra.toInt) (hu_ra : ra.toInt ≤ 255) (hl_rb : 0 ≤ rb.toInt) (hu_rb : rb.toInt ≤ 255) (hEx : own_Exp m6 m14 m15 ra rb ga gb gc r) (hc2 : ¬ (m14 = (0 : Int32))) (hc7 : m6 = (0 : Int32)) (hc8 : ra = ga) : (1 : Int32) = own_b (¬ (r = (0 : Int32))) := by
  first | exact (own_b1 (hEx.mpr (by clear hEx; simp_all))).symm | exact (own_b0 (fun q => by have := hEx.mp q; clear hEx; simp_all)).symm
theorem own_pl_x12_7 (ra rb m6 ga gb gc m14 m15 r : Int32) (hl_ra : 0 ≤ ra.toInt) (hu_ra : ra.toInt ≤ 255) (hl_rb : 0 ≤ rb.toInt) (hu_rb : rb.toInt ≤ 255) (hEx : own_Exp m6 m14 m15 ra rb ga gb gc r) (hc2 : ¬ (m14 = (0 : Int32))) (hc7 : m6 = (0 : Int32)) (hc8 : ¬ (ra = ga)) (hc9 : m15 = (0 : Int32)) : (0 : Int32) = own_b (¬ (r = (0 : Int32))) := by
  first | exact (own_b1 (hEx.mpr (by clear hEx; simp_all))).symm | exact (own_b0 (fun q => by have := hEx.mp q; clear hEx; simp_all)).symm
theorem own_pl_x12_8 (ra rb m6 ga gb gc m14 m15 r : Int32) (hl_ra : 0 ≤ ra.toInt) (hu_ra : ra.toInt ≤ 255) (hl_rb : 0 ≤ rb.toInt) (hu_rb : rb.toInt ≤ 255) (hEx : own_Exp m6 m14 m15 ra rb ga gb gc r) (hc2 : ¬ (m14 = (0 : Int32))) (hc7 : m6 = (0 : Int32)) (hc8 : ¬ (ra = ga)) (hc9 : ¬ (m15 = (0 : Int32))) : (0 : Int32) = own_b (¬ (r = (0 : Int32))) := by
  first | exact (own_b1 (hEx.mpr (by clear hEx; simp_all))).symm | exact (own_b0 (fun q => by have := hEx.mp q; clear hEx; simp_all)).symm
theorem own_pl_x12_9 (ra rb m6 ga gb gc m14 m15 r : Int32) (hl_ra : 0 ≤ ra.toInt) (hu_ra : ra.toInt ≤ 255) (hl_rb : 0 ≤ rb.toInt) (hu_rb : rb.toInt ≤ 255) (hEx : own_Exp m6 m14 m15 ra rb ga gb gc r) (hc2 : ¬ (m14 = (0 : Int32))) (hc7 : ¬ (m6 = (0 : Int32))) (hc10 : m15 = (0 : Int32)) : (0 : Int32) = own_b (¬ (r = (0 : Int32))) := by
  first | exact (own_b1 (hEx.mpr (by clear hEx; simp_all))).symm | exact (own_b0 (fun q => by have := hEx.mp q; clear hEx; simp_all)).symm
theorem own_pl_x12_10 (ra rb m6 ga gb gc m14 m15 r : Int32) (hl_ra : 0 ≤ ra.toInt) (hu_ra : ra.toInt ≤ 255) (hl_rb : 0 ≤ rb.toInt) (hu_rb : rb.toInt ≤ 255) (hEx : own_Exp m6 m14 m15 ra rb ga gb gc r) (hc2 : ¬ (m14 = (0 : Int32))) (hc7 : ¬ (m6 = (0 : Int32))) (hc10 : ¬ (m15 = (0 : Int32))) (hc11 : ra = gb) (hc12 : rb = gc) : (1 : Int32) = own_b (¬ (r = (0 : Int32))) := by
  first | exact (own_b1 (hEx.mpr (by clear hEx; simp_all))).symm | exact (own_b0 (fun q => by have := hEx.mp q; clear hEx; simp_all)).symm
theorem own_pl_x12_11 (ra rb m6 ga gb gc m14 m15 r : Int32) (hl_ra : 0 ≤ ra.toInt) (hu_ra : ra.toInt ≤ 255) (hl_rb : 0 ≤ rb.toInt) (hu_rb : rb.toInt ≤ 255) (hEx : own_Exp m6 m14 m15 ra rb ga gb gc r) (hc2 : ¬ (m14 = (0 : Int32))) (hc7 : ¬ (m6 = (0 : Int32))) (hc10 : ¬ (m15 = (0 : Int32))) (hc11 : ra = gb) (hc12 : ¬ (rb = gc)) : (0 : Int32) = own_b (¬ (r = (0 : Int32))) := by
  first | exact (own_b1 (hEx.mpr (by clear hEx; simp_all))).symm | exact (own_b0 (fun q => by have := hEx.mp q; clear hEx; simp_all)).symm
theorem own_pl_x12_12 (ra rb m6 ga gb gc m14 m15 r : Int32) (hl_ra : 0 ≤ ra.toInt) (hu_ra : ra.toInt ≤ 255) (hl_rb : 0 ≤ rb.toInt) (hu_rb : rb.toInt ≤ 255) (hEx : own_Exp m6 m14 m15 ra rb ga gb gc r) (hc2 : ¬ (m14 = (0 : Int32))) (hc7 : ¬ (m6 = (0 : Int32))) (hc10 : ¬ (m15 = (0 : Int32))) (hc11 : ¬ (ra = gb)) : (0 : Int32) = own_b (¬ (r = (0 : Int32))) := by
  first | exact (own_b1 (hEx.mpr (by clear hEx; simp_all))).symm | exact (own_b0 (fun q => by have := hEx.mp q; clear hEx; simp_all)).symm
theorem own_pl_x12_13 (ra rb m6 ga gb gc m14 m15 r ex : Int32) (hl_ra : 0 ≤ ra.toInt) (hu_ra : ra.toInt ≤ 255) (hl_rb : 0 ≤ rb.toInt) (hu_rb : rb.toInt ≤ 255) (hEx : own_Exp m6 m14 m15 ra rb ga gb gc r) (hex : ex = own_b (¬ (r = (0 : Int32)))) (hc34 : ¬ (r = (0 : Int32))) : (1 : Int32) = ex := by
  first | exact (hex.trans (own_b1 (by assumption))).symm | exact (hex.trans (own_b0 (by assumption))).symm
theorem own_pl_x12_14 (ra rb m6 ga gb gc m14 m15 r ex : Int32) (hl_ra : 0 ≤ ra.toInt) (hu_ra : ra.toInt ≤ 255) (hl_rb : 0 ≤ rb.toInt) (hu_rb : rb.toInt ≤ 255) (hEx : own_Exp m6 m14 m15 ra rb ga gb gc r) (hex : ex = own_b (¬ (r = (0 : Int32)))) (hc34 : ¬ (¬ (r = (0 : Int32)))) : (0 : Int32) = ex := by
  first | exact (hex.trans (own_b1 (by assumption))).symm | exact (hex.trans (own_b0 (by assumption))).symm
theorem own_x12 {l : Launch} {Z : State} {a0 : Array Value} {p : Program} {e : Env} {below : List Frame} {s : State} {m : MethodId} {meth : Method} {c : Code} {A : Array Value} {vm0 : Vm} {k0 : Nat} {hA h0 : Heap} {n0 : Nat} {T0 : State} {lcs : List Loc} (H : own_Ctx l Z a0 p e below s m meth c A vm0 k0 hA h0 n0 T0 lcs 45 4000) (s0 s1 s2 s3 : Slot) (ra rb m6 : Int32) (s7 : Slot) (ga gb gc : Int32) (s11 s12 s13 : Slot) (m14 m15 : Int32) (au de q li ro em a1 d td : Addr) (kd : ClassId) (zd : Int32) (vd : List Value) (cs : Int32) (sf : Value) (r : Int32) (P_E_de : Exa Z h0 de nn6_) (P_F_de_description : Fld Z h0 de nn6_ "description" nn11_ (.ref d)) (P_F_de_grants : Fld Z h0 de nn6_ "grants" nn12_ (.ref q)) (P_E_d : Exa Z h0 d nn3_) (P_F_d_value : Fld Z h0 d nn3_ "value" "[B" (.ref td)) (P_F_d_coder : Fld Z h0 d nn3_ "coder" "B" (.int 0)) (P_V_td : Arv Z h0 td kd .byte zd vd (.int 0)) (P_G_q_fn : own_Fn Z h0 q li) (P_E_li : Exa Z h0 li nn2_) (P_F_li_e0 : Fld Z h0 li nn2_ "e0" nn9_ (.ref ro)) (P_F_li_e1 : Fld Z h0 li nn2_ "e1" nn9_ (.ref em)) (P_E_a1 : Exa Z h0 a1 nn1_) (P_E_au : Exa Z h0 au nn8_) (P_F_au_roles : Fld Z h0 au nn8_ "roles" nn13_ (.ref a1)) (P_S_COMPACT_STRINGS : Sta Z h0 nn3_ nn16_ "Z" (.int cs)) (P_S_EMPTY : Sta Z h0 nn15_ "EMPTY" nn9_ (.ref em)) (P_S_SIOOBE_FORMATTER : Sta Z h0 nn21_ nn22_ nn23_ sf) (hCon : ∀ h', Keep h0 h' [] → own_MF l own_y57 (Jvm.Cond.code own_y57 jdk_101_method_5_code 2 (some .boolean)) [] { frames := 3, cells := 0, slots := 0, locals := 100 } #[.ref a1, .ref ro] Z h' (fun v h L => v = some (.int r) ∧ Fr n0 L ∧ h = h')) (hl_ra : 0 ≤ ra.toInt) (hu_ra : ra.toInt ≤ 255) (hl_rb : 0 ≤ rb.toInt) (hu_rb : rb.toInt ≤ 255) (hcs : ¬ (cs = (0 : Int32))) (hsf : sf.isRef = true) (hEx : own_Exp m6 m14 m15 ra rb ga gb gc r) (hdesc : own_HD m6 ra rb zd vd) :
    own_FinW p e below s (own_QL hA n0) 64 4352 (T0.setTop (mkF m 292 #[s0, s1, s2, s3, Si ra, Si rb, Si m6, s7, Si ga, Si gb, Si gc, s11, s12, s13, Si m14, Si m15, Sr au, Sr de, Su, Su, Su, Su, Su, Su] [])) := by
  obtain ⟨hw, hx, hby, hml, hlk, hret, hS, X0, e0, hk, hZ, hown, hEL, C0, Z0, N0, KA⟩ := H
  have K0 := Keep.refl h0 []
  have J1 : ∀ (ex : Int32) (hex : ex = own_b (¬ (r = (0 : Int32)))), own_FinW p e below s (own_QL hA n0) 64 4352 (T0.setTop (mkF m 340 #[s0, s1, s2, s3, Si ra, Si rb, Si m6, s7, Si ga, Si gb, Si gc, s11, s12, s13, Si m14, Si m15, Sr au, Sr de, Si ex, Su, Su, Su, Su, Su] [])) := by
    intro ex hex
    refine own_go (B := T0.setTop (mkF m 344 #[s0, s1, s2, s3, Si ra, Si rb, Si m6, s7, Si ga, Si gb, Si gc, s11, s12, s13, Si m14, Si m15, Sr au, Sr de, Si ex, Su, Su, Su, Su, Su] [.ref au, .ref de])) (fun _ k => XS.aload X0.here hx rfl (hb hby at_340) rfl rfl (XS.aload X0.here hx rfl (hb hby at_342) rfl rfl k)) ?_
    obtain ⟨cq13, kq13, q13a, q13b, q13c⟩ := isOf hZ e0 P_E_de
    obtain ⟨_, _, ⟨T13, L13, k13, n13⟩, -, X13, hS13, hg13, ⟨Lc13, hQ13, l13, y13, z13, hC13⟩, st13⟩ := X0.virtualBackS hx (y := own_y63) (z := own_y63) hown (mvT hZ (hw.w 257 rfl)) (mvT hZ (hw.w 258 rfl)) (notFace_of_selects (args := #[]) (mvT hZ (hw.w 260 rfl))) (mvT hZ (hw.w 260 rfl)) (mvT hZ (hw.w 259 rfl)) (by decide) (backOfSH (W := 0) (own_gr12 l Z a0 hw [] a1 ro li em r au de q h0 n0 (Nat.le_trans Z0 K0.1) P_E_a1 P_E_li P_F_li_e0 P_F_li_e1 P_S_EMPTY P_E_au P_F_au_roles P_F_de_grants P_G_q_fn (fun h' K' => hCon h' (K0.trans K' all0))) hZ (hw.w 261 rfl) (hw.w 101 rfl) (by decide) (by decide) hEL C0.1) q13a q13c (g := (mkF m 344 #[s0, s1, s2, s3, Si ra, Si rb, Si m6, s7, Si ga, Si gb, Si gc, s11, s12, s13, Si m14, Si m15, Sr au, Sr de, Si ex, Su, Su, Su, Su, Su] [.ref au, .ref de])) rfl (by rw [hml]; rfl) (Steps.refl _) (argsL := [.ref au]) (rest := []) (lenOf own_pd42 rfl) rfl (by show 2 * 0 + _ ≤ _; exact Nat.le_of_eq rfl) (hb hby at_344) (fun _ _ => ⟨rfl, e0, (by decide : 45 + 3 ≤ _), (by decide : 4000 + 32 ≤ _)⟩)
    dsimp only [Pt.U, Pt.locs, Pt.cells, Pt.slots] at X13 l13 y13 z13 st13 hQ13 hS13 hg13 hC13
    subst l13 y13 z13
    obtain ⟨X13, hS, hZ, hown⟩ := rebS hS (show _ ≤ T0.heap.size by rw [e0]; exact hk) X13 hS13 hg13 hZ hown
    have hk : T13.heap.size ≤ T13.heap.size := Nat.le_refl _
    obtain ⟨rfl, N13q, K13q⟩ := hQ13
    have N13 := Fr.app N0 N13q
    have E_15 := P_E_de.keep K13q
    have F_16 := P_F_de_description.keep K13q nin0
    have F_17 := P_F_de_grants.keep K13q nin0
    have E_18 := P_E_d.keep K13q
    have F_19 := P_F_d_value.keep K13q nin0
    have F_20 := P_F_d_coder.keep K13q nin0
    have V_21 := P_V_td.keep K13q nin0
    have S_29 := own_Sta_keep P_S_COMPACT_STRINGS K13q all0
    have S_31 := own_Sta_keep P_S_SIOOBE_FORMATTER K13q all0
    have C32 := CHr.trans C0 hC13
    have K33 : Keep h0 T13.heap [] := K0.trans K13q all0
    refine own_go (B := T13.setTop (mkF m 347 #[s0, s1, s2, s3, Si ra, Si rb, Si m6, s7, Si ga, Si gb, Si gc, s11, s12, s13, Si m14, Si m15, Sr au, Sr de, Si ex, Su, Su, Su, Su, Su] [(.int (own_b (¬ (r = (0 : Int32)))))])) (fun _ k => st13.trans k) ?_
    by_cases hc34 : ¬ (r = (0 : Int32))
    · skip
      rw [own_b1 hc34]
      show own_FinW _ _ _ _ _ _ _ (T13.setTop (mkF m 347 #[s0, s1, s2, s3, Si ra, Si rb, Si m6, s7, Si ga, Si gb, Si gc, s11, s12, s13, Si m14, Si m15, Sr au, Sr de, Si ex, Su, Su, Su, Su, Su] [.int 1]))
      refine own_go (B := T13.setTop (mkF m 349 #[s0, s1, s2, s3, Si ra, Si rb, Si m6, s7, Si ga, Si gb, Si gc, s11, s12, s13, Si m14, Si m15, Sr au, Sr de, Si ex, Su, Su, Su, Su, Su] [.int ex, .int 1])) (fun _ k => XS.iload X13.here hx rfl (hb hby at_347) rfl  k) ?_
      have hc35 : (1 : Int32) = ex := (own_pl_x12_13 ra rb m6 ga gb gc m14 m15 r ex hl_ra hu_ra hl_rb hu_rb hEx hex hc34)
      refine own_go (B := T13.setTop (mkF m 354 #[s0, s1, s2, s3, Si ra, Si rb, Si m6, s7, Si ga, Si gb, Si gc, s11, s12, s13, Si m14, Si m15, Sr au, Sr de, Si ex, Su, Su, Su, Su, Su] [])) (fun _ k => XS.icmpYes X13.here hx rfl (pc0 := 349) (pc' := 354) rfl (hb hby at_349) rfl (teq hc35).1 (by decide) (by decide) k) ?_
      rcases hdesc with ⟨rfl, rfl, rfl⟩ | ⟨rfl, rfl, rfl⟩
      · skip
        exact own_tail1 ⟨hw, hx, hby, hml, hlk, hret, hS, X13.mono (by decide) (by decide), rfl, hk, hZ, hown, hEL, C32, Nat.le_trans Z0 K33.1, N13, KA.trans K33 all0⟩ s0 s1 s2 s3 ra rb s7 (Si ga) (Si gb) (Si gc) s11 s12 s13 (Si m14) (Si m15) (Sr au) de (Si ex) d q td kd cs sf E_15 F_16 F_17 E_18 F_19 F_20 V_21 S_29 S_31 hl_ra hu_ra hl_rb hu_rb hcs hsf
      · skip
        exact own_tail2 ⟨hw, hx, hby, hml, hlk, hret, hS, X13.mono (by decide) (by decide), rfl, hk, hZ, hown, hEL, C32, Nat.le_trans Z0 K33.1, N13, KA.trans K33 all0⟩ s0 s1 s2 s3 ra rb s7 (Si ga) (Si gb) (Si gc) s11 s12 s13 (Si m14) (Si m15) (Sr au) de (Si ex) d q td kd cs sf E_15 F_16 F_17 E_18 F_19 F_20 V_21 S_29 S_31 hl_ra hu_ra hl_rb hu_rb hcs hsf
    · skip
      rw [own_b0 hc34]
      show own_FinW _ _ _ _ _ _ _ (T13.setTop (mkF m 347 #[s0, s1, s2, s3, Si ra, Si rb, Si m6, s7, Si ga, Si gb, Si gc, s11, s12, s13, Si m14, Si m15, Sr au, Sr de, Si ex, Su, Su, Su, Su, Su] [.int 0]))
      refine own_go (B := T13.setTop (mkF m 349 #[s0, s1, s2, s3, Si ra, Si rb, Si m6, s7, Si ga, Si gb, Si gc, s11, s12, s13, Si m14, Si m15, Sr au, Sr de, Si ex, Su, Su, Su, Su, Su] [.int ex, .int 0])) (fun _ k => XS.iload X13.here hx rfl (hb hby at_347) rfl  k) ?_
      have hc36 : (0 : Int32) = ex := (own_pl_x12_14 ra rb m6 ga gb gc m14 m15 r ex hl_ra hu_ra hl_rb hu_rb hEx hex hc34)
      refine own_go (B := T13.setTop (mkF m 354 #[s0, s1, s2, s3, Si ra, Si rb, Si m6, s7, Si ga, Si gb, Si gc, s11, s12, s13, Si m14, Si m15, Sr au, Sr de, Si ex, Su, Su, Su, Su, Su] [])) (fun _ k => XS.icmpYes X13.here hx rfl (pc0 := 349) (pc' := 354) rfl (hb hby at_349) rfl (teq hc36).1 (by decide) (by decide) k) ?_
      rcases hdesc with ⟨rfl, rfl, rfl⟩ | ⟨rfl, rfl, rfl⟩
      · skip
        exact own_tail1 ⟨hw, hx, hby, hml, hlk, hret, hS, X13.mono (by decide) (by decide), rfl, hk, hZ, hown, hEL, C32, Nat.le_trans Z0 K33.1, N13, KA.trans K33 all0⟩ s0 s1 s2 s3 ra rb s7 (Si ga) (Si gb) (Si gc) s11 s12 s13 (Si m14) (Si m15) (Sr au) de (Si ex) d q td kd cs sf E_15 F_16 F_17 E_18 F_19 F_20 V_21 S_29 S_31 hl_ra hu_ra hl_rb hu_rb hcs hsf
      · skip
        exact own_tail2 ⟨hw, hx, hby, hml, hlk, hret, hS, X13.mono (by decide) (by decide), rfl, hk, hZ, hown, hEL, C32, Nat.le_trans Z0 K33.1, N13, KA.trans K33 all0⟩ s0 s1 s2 s3 ra rb s7 (Si ga) (Si gb) (Si gc) s11 s12 s13 (Si m14) (Si m15) (Sr au) de (Si ex) d q td kd cs sf E_15 F_16 F_17 E_18 F_19 F_20 V_21 S_29 S_31 hl_ra hu_ra hl_rb hu_rb hcs hsf
  refine own_go (B := T0.setTop (mkF m 294 #[s0, s1, s2, s3, Si ra, Si rb, Si m6, s7, Si ga, Si gb, Si gc, s11, s12, s13, Si m14, Si m15, Sr au, Sr de, Su, Su, Su, Su, Su, Su] [.int m14])) (fun _ k => XS.iload X0.here hx rfl (hb hby at_292) rfl  k) ?_
  by_cases hc2 : m14 = (0 : Int32)
  · skip
    refine own_go (B := T0.setTop (mkF m 311 #[s0, s1, s2, s3, Si ra, Si rb, Si m6, s7, Si ga, Si gb, Si gc, s11, s12, s13, Si m14, Si m15, Sr au, Sr de, Su, Su, Su, Su, Su, Su] [.int m15])) (fun _ k => XS.ifYes X0.here hx rfl (pc0 := 294) (pc' := 309) rfl (hb hby at_294) rfl ((if0 _ _).trans (teq hc2).1) (by decide) (by decide) (XS.iload X0.here hx rfl (hb hby at_309) rfl  k)) ?_
    by_cases hc3 : m15 = (0 : Int32)
    · skip
      refine own_go (B := T0.setTop (mkF m 340 #[s0, s1, s2, s3, Si ra, Si rb, Si m6, s7, Si ga, Si gb, Si gc, s11, s12, s13, Si m14, Si m15, Sr au, Sr de, Si 0, Su, Su, Su, Su, Su] [])) (fun _ k => XS.ifYes X0.here hx rfl (pc0 := 311) (pc' := 337) rfl (hb hby at_311) rfl ((if0 _ _).trans (teq hc3).1) (by decide) (by decide) (XS.iconst X0.here hx rfl (hb hby at_337) (XS.istore X0.here hx rfl (hb hby at_338) rfl (l' := #[s0, s1, s2, s3, Si ra, Si rb, Si m6, s7, Si ga, Si gb, Si gc, s11, s12, s13, Si m14, Si m15, Sr au, Sr de, Si 0, Su, Su, Su, Su, Su]) rfl k))) ?_
      exact J1 (0 : Int32) (own_pl_x12_1 ra rb m6 ga gb gc m14 m15 r hl_ra hu_ra hl_rb hu_rb hEx hc2 hc3)
    · skip
      refine own_go (B := T0.setTop (mkF m 316 #[s0, s1, s2, s3, Si ra, Si rb, Si m6, s7, Si ga, Si gb, Si gc, s11, s12, s13, Si m14, Si m15, Sr au, Sr de, Su, Su, Su, Su, Su, Su] [.int m6])) (fun _ k => XS.ifNo X0.here hx rfl (hb hby at_311) rfl ((if0 _ _).trans (feq hc3).1) (XS.iload X0.here hx rfl (hb hby at_314) rfl  k)) ?_
      by_cases hc4 : m6 = (0 : Int32)
      · skip
        refine own_go (B := T0.setTop (mkF m 340 #[s0, s1, s2, s3, Si ra, Si rb, Si m6, s7, Si ga, Si gb, Si gc, s11, s12, s13, Si m14, Si m15, Sr au, Sr de, Si 0, Su, Su, Su, Su, Su] [])) (fun _ k => XS.ifYes X0.here hx rfl (pc0 := 316) (pc' := 337) rfl (hb hby at_316) rfl ((if0 _ _).trans (teq hc4).1) (by decide) (by decide) (XS.iconst X0.here hx rfl (hb hby at_337) (XS.istore X0.here hx rfl (hb hby at_338) rfl (l' := #[s0, s1, s2, s3, Si ra, Si rb, Si m6, s7, Si ga, Si gb, Si gc, s11, s12, s13, Si m14, Si m15, Sr au, Sr de, Si 0, Su, Su, Su, Su, Su]) rfl k))) ?_
        exact J1 (0 : Int32) (own_pl_x12_2 ra rb m6 ga gb gc m14 m15 r hl_ra hu_ra hl_rb hu_rb hEx hc2 hc3 hc4)
      · skip
        refine own_go (B := T0.setTop (mkF m 323 #[s0, s1, s2, s3, Si ra, Si rb, Si m6, s7, Si ga, Si gb, Si gc, s11, s12, s13, Si m14, Si m15, Sr au, Sr de, Su, Su, Su, Su, Su, Su] [.int gb, .int ra])) (fun _ k => XS.ifNo X0.here hx rfl (hb hby at_316) rfl ((if0 _ _).trans (feq hc4).1) (XS.iload X0.here hx rfl (hb hby at_319) rfl (XS.iload X0.here hx rfl (hb hby at_321) rfl  k))) ?_
        by_cases hc5 : ra = gb
        · skip
          refine own_go (B := T0.setTop (mkF m 330 #[s0, s1, s2, s3, Si ra, Si rb, Si m6, s7, Si ga, Si gb, Si gc, s11, s12, s13, Si m14, Si m15, Sr au, Sr de, Su, Su, Su, Su, Su, Su] [.int gc, .int rb])) (fun _ k => XS.icmpNo X0.here hx rfl (hb hby at_323) rfl (teq hc5).2 (XS.iload X0.here hx rfl (hb hby at_326) rfl (XS.iload X0.here hx rfl (hb hby at_328) rfl  k))) ?_
          by_cases hc6 : rb = gc
          · skip
            refine own_go (B := T0.setTop (mkF m 340 #[s0, s1, s2, s3, Si ra, Si rb, Si m6, s7, Si ga, Si gb, Si gc, s11, s12, s13, Si m14, Si m15, Sr au, Sr de, Si 1, Su, Su, Su, Su, Su] [])) (fun _ k => XS.icmpNo X0.here hx rfl (hb hby at_330) rfl (teq hc6).2 (XS.iconst X0.here hx rfl (hb hby at_333) (XS.goto X0.here hx rfl (pc0 := 334) (pc' := 338) rfl (hb hby at_334) (by decide) (by decide) (XS.istore X0.here hx rfl (hb hby at_338) rfl (l' := #[s0, s1, s2, s3, Si ra, Si rb, Si m6, s7, Si ga, Si gb, Si gc, s11, s12, s13, Si m14, Si m15, Sr au, Sr de, Si 1, Su, Su, Su, Su, Su]) rfl k)))) ?_
            exact J1 (1 : Int32) (own_pl_x12_3 ra rb m6 ga gb gc m14 m15 r hl_ra hu_ra hl_rb hu_rb hEx hc2 hc3 hc4 hc5 hc6)
          · skip
            refine own_go (B := T0.setTop (mkF m 340 #[s0, s1, s2, s3, Si ra, Si rb, Si m6, s7, Si ga, Si gb, Si gc, s11, s12, s13, Si m14, Si m15, Sr au, Sr de, Si 0, Su, Su, Su, Su, Su] [])) (fun _ k => XS.icmpYes X0.here hx rfl (pc0 := 330) (pc' := 337) rfl (hb hby at_330) rfl (feq hc6).2 (by decide) (by decide) (XS.iconst X0.here hx rfl (hb hby at_337) (XS.istore X0.here hx rfl (hb hby at_338) rfl (l' := #[s0, s1, s2, s3, Si ra, Si rb, Si m6, s7, Si ga, Si gb, Si gc, s11, s12, s13, Si m14, Si m15, Sr au, Sr de, Si 0, Su, Su, Su, Su, Su]) rfl k))) ?_
            exact J1 (0 : Int32) (own_pl_x12_4 ra rb m6 ga gb gc m14 m15 r hl_ra hu_ra hl_rb hu_rb hEx hc2 hc3 hc4 hc5 hc6)
        · skip
          refine own_go (B := T0.setTop (mkF m 340 #[s0, s1, s2, s3, Si ra, Si rb, Si m6, s7, Si ga, Si gb, Si gc, s11, s12, s13, Si m14, Si m15, Sr au, Sr de, Si 0, Su, Su, Su, Su, Su] [])) (fun _ k => XS.icmpYes X0.here hx rfl (pc0 := 323) (pc' := 337) rfl (hb hby at_323) rfl (feq hc5).2 (by decide) (by decide) (XS.iconst X0.here hx rfl (hb hby at_337) (XS.istore X0.here hx rfl (hb hby at_338) rfl (l' := #[s0, s1, s2, s3, Si ra, Si rb, Si m6, s7, Si ga, Si gb, Si gc, s11, s12, s13, Si m14, Si m15, Sr au, Sr de, Si 0, Su, Su, Su, Su, Su]) rfl k))) ?_
          exact J1 (0 : Int32) (own_pl_x12_5 ra rb m6 ga gb gc m14 m15 r hl_ra hu_ra hl_rb hu_rb hEx hc2 hc3 hc4 hc5)
  · skip
    refine own_go (B := T0.setTop (mkF m 299 #[s0, s1, s2, s3, Si ra, Si rb, Si m6, s7, Si ga, Si gb, Si gc, s11, s12, s13, Si m14, Si m15, Sr au, Sr de, Su, Su, Su, Su, Su, Su] [.int m6])) (fun _ k => XS.ifNo X0.here hx rfl (hb hby at_294) rfl ((if0 _ _).trans (feq hc2).1) (XS.iload X0.here hx rfl (hb hby at_297) rfl  k)) ?_
    by_cases hc7 : m6 = (0 : Int32)
    · skip
      refine own_go (B := T0.setTop (mkF m 306 #[s0, s1, s2, s3, Si ra, Si rb, Si m6, s7, Si ga, Si gb, Si gc, s11, s12, s13, Si m14, Si m15, Sr au, Sr de, Su, Su, Su, Su, Su, Su] [.int ga, .int ra])) (fun _ k => XS.ifNo X0.here hx rfl (hb hby at_299) rfl ((if0 _ _).trans (teq hc7).2) (XS.iload X0.here hx rfl (hb hby at_302) rfl (XS.iload X0.here hx rfl (hb hby at_304) rfl  k))) ?_
      by_cases hc8 : ra = ga
      · skip
        refine own_go (B := T0.setTop (mkF m 340 #[s0, s1, s2, s3, Si ra, Si rb, Si m6, s7, Si ga, Si gb, Si gc, s11, s12, s13, Si m14, Si m15, Sr au, Sr de, Si 1, Su, Su, Su, Su, Su] [])) (fun _ k => XS.icmpYes X0.here hx rfl (pc0 := 306) (pc' := 333) rfl (hb hby at_306) rfl (teq hc8).1 (by decide) (by decide) (XS.iconst X0.here hx rfl (hb hby at_333) (XS.goto X0.here hx rfl (pc0 := 334) (pc' := 338) rfl (hb hby at_334) (by decide) (by decide) (XS.istore X0.here hx rfl (hb hby at_338) rfl (l' := #[s0, s1, s2, s3, Si ra, Si rb, Si m6, s7, Si ga, Si gb, Si gc, s11, s12, s13, Si m14, Si m15, Sr au, Sr de, Si 1, Su, Su, Su, Su, Su]) rfl k)))) ?_
        exact J1 (1 : Int32) (own_pl_x12_6 ra rb m6 ga gb gc m14 m15 r hl_ra hu_ra hl_rb hu_rb hEx hc2 hc7 hc8)
      · skip
        refine own_go (B := T0.setTop (mkF m 311 #[s0, s1, s2, s3, Si ra, Si rb, Si m6, s7, Si ga, Si gb, Si gc, s11, s12, s13, Si m14, Si m15, Sr au, Sr de, Su, Su, Su, Su, Su, Su] [.int m15])) (fun _ k => XS.icmpNo X0.here hx rfl (hb hby at_306) rfl (feq hc8).1 (XS.iload X0.here hx rfl (hb hby at_309) rfl  k)) ?_
        by_cases hc9 : m15 = (0 : Int32)
        · skip
          refine own_go (B := T0.setTop (mkF m 340 #[s0, s1, s2, s3, Si ra, Si rb, Si m6, s7, Si ga, Si gb, Si gc, s11, s12, s13, Si m14, Si m15, Sr au, Sr de, Si 0, Su, Su, Su, Su, Su] [])) (fun _ k => XS.ifYes X0.here hx rfl (pc0 := 311) (pc' := 337) rfl (hb hby at_311) rfl ((if0 _ _).trans (teq hc9).1) (by decide) (by decide) (XS.iconst X0.here hx rfl (hb hby at_337) (XS.istore X0.here hx rfl (hb hby at_338) rfl (l' := #[s0, s1, s2, s3, Si ra, Si rb, Si m6, s7, Si ga, Si gb, Si gc, s11, s12, s13, Si m14, Si m15, Sr au, Sr de, Si 0, Su, Su, Su, Su, Su]) rfl k))) ?_
          exact J1 (0 : Int32) (own_pl_x12_7 ra rb m6 ga gb gc m14 m15 r hl_ra hu_ra hl_rb hu_rb hEx hc2 hc7 hc8 hc9)
        · skip
          refine own_go (B := T0.setTop (mkF m 340 #[s0, s1, s2, s3, Si ra, Si rb, Si m6, s7, Si ga, Si gb, Si gc, s11, s12, s13, Si m14, Si m15, Sr au, Sr de, Si 0, Su, Su, Su, Su, Su] [])) (fun _ k => XS.ifNo X0.here hx rfl (hb hby at_311) rfl ((if0 _ _).trans (feq hc9).1) (XS.iload X0.here hx rfl (hb hby at_314) rfl (XS.ifYes X0.here hx rfl (pc0 := 316) (pc' := 337) rfl (hb hby at_316) rfl ((if0 _ _).trans (teq hc7).1) (by decide) (by decide) (XS.iconst X0.here hx rfl (hb hby at_337) (XS.istore X0.here hx rfl (hb hby at_338) rfl (l' := #[s0, s1, s2, s3, Si ra, Si rb, Si m6, s7, Si ga, Si gb, Si gc, s11, s12, s13, Si m14, Si m15, Sr au, Sr de, Si 0, Su, Su, Su, Su, Su]) rfl k))))) ?_
          exact J1 (0 : Int32) (own_pl_x12_8 ra rb m6 ga gb gc m14 m15 r hl_ra hu_ra hl_rb hu_rb hEx hc2 hc7 hc8 hc9)
    · skip
      refine own_go (B := T0.setTop (mkF m 311 #[s0, s1, s2, s3, Si ra, Si rb, Si m6, s7, Si ga, Si gb, Si gc, s11, s12, s13, Si m14, Si m15, Sr au, Sr de, Su, Su, Su, Su, Su, Su] [.int m15])) (fun _ k => XS.ifYes X0.here hx rfl (pc0 := 299) (pc' := 309) rfl (hb hby at_299) rfl ((if0 _ _).trans (feq hc7).2) (by decide) (by decide) (XS.iload X0.here hx rfl (hb hby at_309) rfl  k)) ?_
      by_cases hc10 : m15 = (0 : Int32)
      · skip
        refine own_go (B := T0.setTop (mkF m 340 #[s0, s1, s2, s3, Si ra, Si rb, Si m6, s7, Si ga, Si gb, Si gc, s11, s12, s13, Si m14, Si m15, Sr au, Sr de, Si 0, Su, Su, Su, Su, Su] [])) (fun _ k => XS.ifYes X0.here hx rfl (pc0 := 311) (pc' := 337) rfl (hb hby at_311) rfl ((if0 _ _).trans (teq hc10).1) (by decide) (by decide) (XS.iconst X0.here hx rfl (hb hby at_337) (XS.istore X0.here hx rfl (hb hby at_338) rfl (l' := #[s0, s1, s2, s3, Si ra, Si rb, Si m6, s7, Si ga, Si gb, Si gc, s11, s12, s13, Si m14, Si m15, Sr au, Sr de, Si 0, Su, Su, Su, Su, Su]) rfl k))) ?_
        exact J1 (0 : Int32) (own_pl_x12_9 ra rb m6 ga gb gc m14 m15 r hl_ra hu_ra hl_rb hu_rb hEx hc2 hc7 hc10)
      · skip
        refine own_go (B := T0.setTop (mkF m 323 #[s0, s1, s2, s3, Si ra, Si rb, Si m6, s7, Si ga, Si gb, Si gc, s11, s12, s13, Si m14, Si m15, Sr au, Sr de, Su, Su, Su, Su, Su, Su] [.int gb, .int ra])) (fun _ k => XS.ifNo X0.here hx rfl (hb hby at_311) rfl ((if0 _ _).trans (feq hc10).1) (XS.iload X0.here hx rfl (hb hby at_314) rfl (XS.ifNo X0.here hx rfl (hb hby at_316) rfl ((if0 _ _).trans (feq hc7).1) (XS.iload X0.here hx rfl (hb hby at_319) rfl (XS.iload X0.here hx rfl (hb hby at_321) rfl  k))))) ?_
        by_cases hc11 : ra = gb
        · skip
          refine own_go (B := T0.setTop (mkF m 330 #[s0, s1, s2, s3, Si ra, Si rb, Si m6, s7, Si ga, Si gb, Si gc, s11, s12, s13, Si m14, Si m15, Sr au, Sr de, Su, Su, Su, Su, Su, Su] [.int gc, .int rb])) (fun _ k => XS.icmpNo X0.here hx rfl (hb hby at_323) rfl (teq hc11).2 (XS.iload X0.here hx rfl (hb hby at_326) rfl (XS.iload X0.here hx rfl (hb hby at_328) rfl  k))) ?_
          by_cases hc12 : rb = gc
          · skip
            refine own_go (B := T0.setTop (mkF m 340 #[s0, s1, s2, s3, Si ra, Si rb, Si m6, s7, Si ga, Si gb, Si gc, s11, s12, s13, Si m14, Si m15, Sr au, Sr de, Si 1, Su, Su, Su, Su, Su] [])) (fun _ k => XS.icmpNo X0.here hx rfl (hb hby at_330) rfl (teq hc12).2 (XS.iconst X0.here hx rfl (hb hby at_333) (XS.goto X0.here hx rfl (pc0 := 334) (pc' := 338) rfl (hb hby at_334) (by decide) (by decide) (XS.istore X0.here hx rfl (hb hby at_338) rfl (l' := #[s0, s1, s2, s3, Si ra, Si rb, Si m6, s7, Si ga, Si gb, Si gc, s11, s12, s13, Si m14, Si m15, Sr au, Sr de, Si 1, Su, Su, Su, Su, Su]) rfl k)))) ?_
            exact J1 (1 : Int32) (own_pl_x12_10 ra rb m6 ga gb gc m14 m15 r hl_ra hu_ra hl_rb hu_rb hEx hc2 hc7 hc10 hc11 hc12)
          · skip
            refine own_go (B := T0.setTop (mkF m 340 #[s0, s1, s2, s3, Si ra, Si rb, Si m6, s7, Si ga, Si gb, Si gc, s11, s12, s13, Si m14, Si m15, Sr au, Sr de, Si 0, Su, Su, Su, Su, Su] [])) (fun _ k => XS.icmpYes X0.here hx rfl (pc0 := 330) (pc' := 337) rfl (hb hby at_330) rfl (feq hc12).2 (by decide) (by decide) (XS.iconst X0.here hx rfl (hb hby at_337) (XS.istore X0.here hx rfl (hb hby at_338) rfl (l' := #[s0, s1, s2, s3, Si ra, Si rb, Si m6, s7, Si ga, Si gb, Si gc, s11, s12, s13, Si m14, Si m15, Sr au, Sr de, Si 0, Su, Su, Su, Su, Su]) rfl k))) ?_
            exact J1 (0 : Int32) (own_pl_x12_11 ra rb m6 ga gb gc m14 m15 r hl_ra hu_ra hl_rb hu_rb hEx hc2 hc7 hc10 hc11 hc12)
        · skip
          refine own_go (B := T0.setTop (mkF m 340 #[s0, s1, s2, s3, Si ra, Si rb, Si m6, s7, Si ga, Si gb, Si gc, s11, s12, s13, Si m14, Si m15, Sr au, Sr de, Si 0, Su, Su, Su, Su, Su] [])) (fun _ k => XS.icmpYes X0.here hx rfl (pc0 := 323) (pc' := 337) rfl (hb hby at_323) rfl (feq hc11).2 (by decide) (by decide) (XS.iconst X0.here hx rfl (hb hby at_337) (XS.istore X0.here hx rfl (hb hby at_338) rfl (l' := #[s0, s1, s2, s3, Si ra, Si rb, Si m6, s7, Si ga, Si gb, Si gc, s11, s12, s13, Si m14, Si m15, Sr au, Sr de, Si 0, Su, Su, Su, Su, Su]) rfl k))) ?_
          exact J1 (0 : Int32) (own_pl_x12_12 ra rb m6 ga gb gc m14 m15 r hl_ra hu_ra hl_rb hu_rb hEx hc2 hc7 hc10 hc11)
theorem own_m12 {l : Launch} {Z : State} {a0 : Array Value} {p : Program} {e : Env} {below : List Frame} {s : State} {m : MethodId} {meth : Method} {c : Code} {A : Array Value} {vm0 : Vm} {k0 : Nat} {hA h0 : Heap} {n0 : Nat} {T0 : State} {lcs : List Loc} (H : own_Ctx l Z a0 p e below s m meth c A vm0 k0 hA h0 n0 T0 lcs 26 150) (s0 s1 s2 s3 : Slot) (ra rb m6 : Int32) (ro : Addr) (ga gb gc : Int32) (s11 s12 s13 : Slot) (m14 m15 : Int32) (au a1 tr : Addr) (kr : ClassId) (zr : Int32) (vr : List Value) (em : Addr) (cs : Int32) (sf : Value) (r : Int32) (P_E_ro : Exa Z h0 ro nn3_) (P_F_ro_value : Fld Z h0 ro nn3_ "value" "[B" (.ref tr)) (P_F_ro_coder : Fld Z h0 ro nn3_ "coder" "B" (.int 0)) (P_V_tr : Arv Z h0 tr kr .byte zr vr (.int 0)) (P_E_a1 : Exa Z h0 a1 nn1_) (P_E_au : Exa Z h0 au nn8_) (P_F_au_roles : Fld Z h0 au nn8_ "roles" nn13_ (.ref a1)) (P_S_COMPACT_STRINGS : Sta Z h0 nn3_ nn16_ "Z" (.int cs)) (P_S_EMPTY : Sta Z h0 nn15_ "EMPTY" nn9_ (.ref em)) (P_S_SIOOBE_FORMATTER : Sta Z h0 nn21_ nn22_ nn23_ sf) (hCon : ∀ h', Keep h0 h' [] → own_MF l own_y57 (Jvm.Cond.code own_y57 jdk_101_method_5_code 2 (some .boolean)) [] { frames := 3, cells := 0, slots := 0, locals := 100 } #[.ref a1, .ref ro] Z h' (fun v h L => v = some (.int r) ∧ Fr n0 L ∧ h = h')) (hl_ra : 0 ≤ ra.toInt) (hu_ra : ra.toInt ≤ 255) (hl_rb : 0 ≤ rb.toInt) (hu_rb : rb.toInt ≤ 255) (hcs : ¬ (cs = (0 : Int32))) (hsf : sf.isRef = true) (hEx : own_Exp m6 m14 m15 ra rb ga gb gc r) (hrole : own_HR m6 ra rb zr vr) :
    own_FinW p e below s (own_QL hA n0) 64 4352 (T0.setTop (mkF m 285 #[s0, s1, s2, s3, Si ra, Si rb, Si m6, Sr ro, Si ga, Si gb, Si gc, s11, s12, s13, Si m14, Si m15, Sr au, Sr a1, Su, Su, Su, Su, Su, Su] [])) := by
  obtain ⟨hw, hx, hby, hml, hlk, hret, hS, X0, e0, hk, hZ, hown, hEL, C0, Z0, N0, KA⟩ := H
  have K0 := Keep.refl h0 []
  rcases hrole with ⟨rfl, rfl, rfl⟩ | ⟨rfl, rfl, rfl⟩
  · skip
    refine own_go (B := T0.setTop (mkF m 287 #[s0, s1, s2, s3, Si ra, Si rb, Si 0, Sr ro, Si ga, Si gb, Si gc, s11, s12, s13, Si m14, Si m15, Sr au, Sr a1, Su, Su, Su, Su, Su, Su] [.ref ro])) (fun _ k => XS.aload X0.here hx rfl (hb hby at_285) rfl rfl k) ?_
    obtain ⟨_, _, ⟨T1, L1, k1, n1⟩, -, X1, hS1, hg1, ⟨Lc1, hQ1, l1, y1, z1, hC1⟩, st1⟩ := callSS X0 hx (y := own_y62) hown (mvT hZ (hw.w 99 rfl)) (mvT hZ (hw.w 100 rfl)) (mvT hZ (hw.w 101 rfl)) (mvT hZ (hw.w 102 rfl)) (by decide) (backOfSH (W := 0) (own_has1 l Z a0 hw [] ro tr kr (ra.toInt8.toInt32) cs em h0 n0 (Nat.le_trans Z0 K0.1) P_E_ro P_F_ro_value P_F_ro_coder P_V_tr P_S_EMPTY P_S_COMPACT_STRINGS hcs) hZ (hw.w 102 rfl) (hw.w 101 rfl) (by decide) (by decide) hEL C0.1) (g := (mkF m 287 #[s0, s1, s2, s3, Si ra, Si rb, Si 0, Sr ro, Si ga, Si gb, Si gc, s11, s12, s13, Si m14, Si m15, Sr au, Sr a1, Su, Su, Su, Su, Su, Su] [.ref ro])) rfl (by rw [hml]; rfl) (argsL := [.ref ro]) (rest := []) (lenOf own_pd43 rfl) rfl (by show 2 * 0 + _ ≤ _; exact Nat.le_of_eq rfl) (hb hby at_287) (fun _ _ => ⟨rfl, e0, (by decide : 26 + 9 ≤ _), (by decide : 150 + 79 ≤ _)⟩)
    dsimp only [Pt.U, Pt.locs, Pt.cells, Pt.slots] at X1 l1 y1 z1 st1 hQ1 hS1 hg1 hC1
    subst l1 y1 z1
    obtain ⟨X1, hS, hZ, hown⟩ := rebS hS (show _ ≤ T0.heap.size by rw [e0]; exact hk) X1 hS1 hg1 hZ hown
    have hk : T1.heap.size ≤ T1.heap.size := Nat.le_refl _
    obtain ⟨b_1, d_1, td_1, kd_1, q_1, li_1, rfl, N1q, K1q, Q1_0, Q1_1, Q1_2, Q1_3, Q1_4, Q1_5, Q1_6, Q1_7, Q1_8, Q1_9, Q1_10, x1_0, x1_1, x1_2, x1_3, x1_4⟩ := hQ1
    have N1 := Fr.app N0 N1q
    have E_27 := P_E_a1.keep K1q
    have E_28 := P_E_au.keep K1q
    have F_29 := P_F_au_roles.keep K1q nin0
    have S_30 := own_Sta_keep P_S_COMPACT_STRINGS K1q all0
    have S_31 := own_Sta_keep P_S_EMPTY K1q all0
    have S_32 := own_Sta_keep P_S_SIOOBE_FORMATTER K1q all0
    have C33 := CHr.trans C0 hC1
    have K34 : Keep h0 T1.heap [] := K0.trans K1q all0
    refine own_go (B := T1.setTop (mkF m 292 #[s0, s1, s2, s3, Si ra, Si rb, Si 0, Sr ro, Si ga, Si gb, Si gc, s11, s12, s13, Si m14, Si m15, Sr au, Sr b_1, Su, Su, Su, Su, Su, Su] [])) (fun _ k => st1.trans (XS.astore X1.here hx rfl (hb hby at_290) rfl rfl (l' := #[s0, s1, s2, s3, Si ra, Si rb, Si 0, Sr ro, Si ga, Si gb, Si gc, s11, s12, s13, Si m14, Si m15, Sr au, Sr b_1, Su, Su, Su, Su, Su, Su]) rfl k)) ?_
    exact own_x12 ⟨hw, hx, hby, hml, hlk, hret, hS, X1.mono (by decide) (by decide), rfl, hk, hZ, hown, hEL, C33, Nat.le_trans Z0 K34.1, N1, KA.trans K34 all0⟩ s0 s1 s2 s3 ra rb (0 : Int32) (Sr ro) ga gb gc s11 s12 s13 m14 m15 au b_1 q_1 li_1 ro em a1 d_1 td_1 kd_1 (10 : Int32) ([.int 104, .int 97, .int 115, .int 32, .int 114, .int 111, .int 108, .int 101, .int 32, (.int (ra.toInt8.toInt32))]) cs sf r Q1_0 Q1_1 Q1_2 Q1_3 Q1_4 Q1_5 Q1_6 Q1_7 Q1_8 Q1_9 Q1_10 E_27 E_28 F_29 S_30 S_31 S_32 (fun h' K' => hCon h' (K34.trans K' all0)) hl_ra hu_ra hl_rb hu_rb hcs hsf hEx (Or.inl ⟨rfl, rfl, rfl⟩)
  · skip
    refine own_go (B := T0.setTop (mkF m 287 #[s0, s1, s2, s3, Si ra, Si rb, Si 1, Sr ro, Si ga, Si gb, Si gc, s11, s12, s13, Si m14, Si m15, Sr au, Sr a1, Su, Su, Su, Su, Su, Su] [.ref ro])) (fun _ k => XS.aload X0.here hx rfl (hb hby at_285) rfl rfl k) ?_
    obtain ⟨_, _, ⟨T35, L35, k35, n35⟩, -, X35, hS35, hg35, ⟨Lc35, hQ35, l35, y35, z35, hC35⟩, st35⟩ := callSS X0 hx (y := own_y62) hown (mvT hZ (hw.w 99 rfl)) (mvT hZ (hw.w 100 rfl)) (mvT hZ (hw.w 101 rfl)) (mvT hZ (hw.w 102 rfl)) (by decide) (backOfSH (W := 0) (own_has2 l Z a0 hw [] ro tr kr (ra.toInt8.toInt32) (rb.toInt8.toInt32) cs em h0 n0 (Nat.le_trans Z0 K0.1) P_E_ro P_F_ro_value P_F_ro_coder P_V_tr P_S_EMPTY P_S_COMPACT_STRINGS hcs) hZ (hw.w 102 rfl) (hw.w 101 rfl) (by decide) (by decide) hEL C0.1) (g := (mkF m 287 #[s0, s1, s2, s3, Si ra, Si rb, Si 1, Sr ro, Si ga, Si gb, Si gc, s11, s12, s13, Si m14, Si m15, Sr au, Sr a1, Su, Su, Su, Su, Su, Su] [.ref ro])) rfl (by rw [hml]; rfl) (argsL := [.ref ro]) (rest := []) (lenOf own_pd43 rfl) rfl (by show 2 * 0 + _ ≤ _; exact Nat.le_of_eq rfl) (hb hby at_287) (fun _ _ => ⟨rfl, e0, (by decide : 26 + 9 ≤ _), (by decide : 150 + 80 ≤ _)⟩)
    dsimp only [Pt.U, Pt.locs, Pt.cells, Pt.slots] at X35 l35 y35 z35 st35 hQ35 hS35 hg35 hC35
    subst l35 y35 z35
    obtain ⟨X35, hS, hZ, hown⟩ := rebS hS (show _ ≤ T0.heap.size by rw [e0]; exact hk) X35 hS35 hg35 hZ hown
    have hk : T35.heap.size ≤ T35.heap.size := Nat.le_refl _
    obtain ⟨b_35, d_35, td_35, kd_35, q_35, li_35, rfl, N35q, K35q, Q35_0, Q35_1, Q35_2, Q35_3, Q35_4, Q35_5, Q35_6, Q35_7, Q35_8, Q35_9, Q35_10, x35_0, x35_1, x35_2, x35_3, x35_4⟩ := hQ35
    have N35 := Fr.app N0 N35q
    have E_61 := P_E_a1.keep K35q
    have E_62 := P_E_au.keep K35q
    have F_63 := P_F_au_roles.keep K35q nin0
    have S_64 := own_Sta_keep P_S_COMPACT_STRINGS K35q all0
    have S_65 := own_Sta_keep P_S_EMPTY K35q all0
    have S_66 := own_Sta_keep P_S_SIOOBE_FORMATTER K35q all0
    have C67 := CHr.trans C0 hC35
    have K68 : Keep h0 T35.heap [] := K0.trans K35q all0
    refine own_go (B := T35.setTop (mkF m 292 #[s0, s1, s2, s3, Si ra, Si rb, Si 1, Sr ro, Si ga, Si gb, Si gc, s11, s12, s13, Si m14, Si m15, Sr au, Sr b_35, Su, Su, Su, Su, Su, Su] [])) (fun _ k => st35.trans (XS.astore X35.here hx rfl (hb hby at_290) rfl rfl (l' := #[s0, s1, s2, s3, Si ra, Si rb, Si 1, Sr ro, Si ga, Si gb, Si gc, s11, s12, s13, Si m14, Si m15, Sr au, Sr b_35, Su, Su, Su, Su, Su, Su]) rfl k)) ?_
    exact own_x12 ⟨hw, hx, hby, hml, hlk, hret, hS, X35.mono (by decide) (by decide), rfl, hk, hZ, hown, hEL, C67, Nat.le_trans Z0 K68.1, N35, KA.trans K68 all0⟩ s0 s1 s2 s3 ra rb (1 : Int32) (Sr ro) ga gb gc s11 s12 s13 m14 m15 au b_35 q_35 li_35 ro em a1 d_35 td_35 kd_35 (11 : Int32) ([.int 104, .int 97, .int 115, .int 32, .int 114, .int 111, .int 108, .int 101, .int 32, (.int (ra.toInt8.toInt32)), (.int (rb.toInt8.toInt32))]) cs sf r Q35_0 Q35_1 Q35_2 Q35_3 Q35_4 Q35_5 Q35_6 Q35_7 Q35_8 Q35_9 Q35_10 E_61 E_62 F_63 S_64 S_65 S_66 (fun h' K' => hCon h' (K68.trans K' all0)) hl_ra hu_ra hl_rb hu_rb hcs hsf hEx (Or.inr ⟨rfl, rfl, rfl⟩)
theorem own_pl_k12_1 (p4 : Int32) : ((p4 &&& (255 : Int32)).toUInt32.toUInt16.toUInt32.toInt32).toInt ≤ 255 := by
  have := rng32 p4
  have := rng32 (p4 &&& (255 : Int32))
  have := Jvm.Kit.i32_mask p4 (255 : Int32) (k := 8) (by decide) (by decide)
  have := rng32 ((p4 &&& (255 : Int32)).toUInt32.toUInt16.toUInt32.toInt32)
  have := own_i2c (p4 &&& (255 : Int32))
  try simp only [own_i32_255] at *
  have := own_i32_255
  try simp only [Int32.lt_iff_toInt_lt, Int32.le_iff_toInt_le, ← Int32.toInt_inj, true_and, and_true, true_or, or_true, false_or, or_false, not_true_eq_false, not_false_eq_true, false_and, and_false, ne_eq] at *
  all_goals first | omega | (simp; done)
theorem own_k12 {l : Launch} {Z : State} {a0 : Array Value} {p : Program} {e : Env} {below : List Frame} {s : State} {m : MethodId} {meth : Method} {c : Code} {A : Array Value} {vm0 : Vm} {k0 : Nat} {hA h0 : Heap} {n0 : Nat} {T0 : State} {lcs : List Loc} (H : own_Ctx l Z a0 p e below s m meth c A vm0 k0 hA h0 n0 T0 lcs 18 60) (s0 s1 s2 : Slot) (p4 ra rb m6 : Int32) (ro : Addr) (ga gb gc : Int32) (s11 s12 s13 : Slot) (m14 m15 : Int32) (a1 tr : Addr) (kr : ClassId) (zr : Int32) (vr : List Value) (em : Addr) (cs : Int32) (sf : Value) (r : Int32) (P_E_ro : Exa Z h0 ro nn3_) (P_F_ro_value : Fld Z h0 ro nn3_ "value" "[B" (.ref tr)) (P_F_ro_coder : Fld Z h0 ro nn3_ "coder" "B" (.int 0)) (P_V_tr : Arv Z h0 tr kr .byte zr vr (.int 0)) (P_E_a1 : Exa Z h0 a1 nn1_) (P_S_COMPACT_STRINGS : Sta Z h0 nn3_ nn16_ "Z" (.int cs)) (P_S_EMPTY : Sta Z h0 nn15_ "EMPTY" nn9_ (.ref em)) (P_S_SIOOBE_FORMATTER : Sta Z h0 nn21_ nn22_ nn23_ sf) (hCon : ∀ h', Keep h0 h' [] → own_MF l own_y57 (Jvm.Cond.code own_y57 jdk_101_method_5_code 2 (some .boolean)) [] { frames := 3, cells := 0, slots := 0, locals := 100 } #[.ref a1, .ref ro] Z h' (fun v h L => v = some (.int r) ∧ Fr n0 L ∧ h = h')) (hl_ra : 0 ≤ ra.toInt) (hu_ra : ra.toInt ≤ 255) (hl_rb : 0 ≤ rb.toInt) (hu_rb : rb.toInt ≤ 255) (hcs : ¬ (cs = (0 : Int32))) (hsf : sf.isRef = true) (hEx : own_Exp m6 m14 m15 ra rb ga gb gc r) (hrole : own_HR m6 ra rb zr vr) :
    own_FinW p e below s (own_QL hA n0) 64 4352 (T0.setTop (mkF m 255 #[s0, s1, s2, Si p4, Si ra, Si rb, Si m6, Sr ro, Si ga, Si gb, Si gc, s11, s12, s13, Si m14, Si m15, Su, Sr a1, Su, Su, Su, Su, Su, Su] [])) := by
  obtain ⟨hw, hx, hby, hml, hlk, hret, hS, X0, e0, hk, hZ, hown, hEL, C0, Z0, N0, KA⟩ := H
  have K0 := Keep.refl h0 []
  obtain ⟨T1, h1, X1, e1, E1, A1, D1, -, st1⟩ := newO X0 hx hZ hown (hw.w 70 rfl) (hw.w 71 rfl) (hw.w 72 rfl) e0 (g := (mkF m 255 #[s0, s1, s2, Si p4, Si ra, Si rb, Si m6, Sr ro, Si ga, Si gb, Si gc, s11, s12, s13, Si m14, Si m15, Su, Sr a1, Su, Su, Su, Su, Su, Su] [])) rfl (hb hby at_255) (by decide) (by decide)
  obtain ⟨b1, g1⟩ : ∃ z, z = h0.size := ⟨_, rfl⟩
  rw [← g1] at A1 D1 st1
  have ne_ro_b1_2 : ro ≠ b1 := Nat.ne_of_lt (Nat.lt_of_lt_of_le P_E_ro.lt (Nat.le_of_eq g1.symm))
  have ne_tr_b1_3 : tr ≠ b1 := Nat.ne_of_lt (Nat.lt_of_lt_of_le P_V_tr.lt (Nat.le_of_eq g1.symm))
  have sz_b1 : h0.size ≤ b1 := Nat.le_trans K0.1 (Nat.le_of_eq g1.symm)
  have g_b1 : n0 ≤ b1 := Nat.le_trans Z0 sz_b1
  have E_6 := P_E_ro.ext E1
  have F_7 := P_F_ro_value.ext E1
  have F_8 := P_F_ro_coder.ext E1
  have V_9 := P_V_tr.ext E1
  have E_10 := P_E_a1.ext E1
  have S_11 := P_S_COMPACT_STRINGS.ext E1
  have S_12 := P_S_EMPTY.ext E1
  have S_13 := P_S_SIOOBE_FORMATTER.ext E1
  have F_name_b1 : Fld Z h1 b1 nn8_ "name" nn11_ .null := D1 (Or.inr (hw.w 88 rfl)) (ty := (.object "java/lang/String")) (by decide)
  have F_roles_b1 : Fld Z h1 b1 nn8_ "roles" nn13_ .null := D1 (Or.inr (hw.w 96 rfl)) (ty := (.object "java/util/Set")) (by decide)
  have F_anonymous_b1 : Fld Z h1 b1 nn8_ "anonymous" "Z" (.int 0) := D1 (Or.inr (hw.w 98 rfl)) (ty := .boolean) (by decide)
  have hk := Nat.le_trans hk E1.1
  have C15 := CHr.trans C0 (CHr.ext E1 C0.1)
  have K16 : Keep h0 h1 [] := K0.ext E1
  refine own_go (B := T1.setTop (mkF m 259 #[s0, s1, s2, Si p4, Si ra, Si rb, Si m6, Sr ro, Si ga, Si gb, Si gc, s11, s12, s13, Si m14, Si m15, Su, Sr a1, Su, Su, Su, Su, Su, Su] [.ref b1, .ref b1])) (fun _ k => st1 _ (XS.dup X1.here hx rfl (hb hby at_258) rfl rfl k)) ?_
  obtain ⟨T17, h17, X17, e17, E17, A17, D17, -, st17⟩ := newO X1 hx hZ hown (hw.w 0 rfl) (hw.w 1 rfl) (hw.w 2 rfl) e1 (g := (mkF m 259 #[s0, s1, s2, Si p4, Si ra, Si rb, Si m6, Sr ro, Si ga, Si gb, Si gc, s11, s12, s13, Si m14, Si m15, Su, Sr a1, Su, Su, Su, Su, Su, Su] [.ref b1, .ref b1])) rfl (hb hby at_259) (by decide) (by decide)
  obtain ⟨b17, g17⟩ : ∃ z, z = h1.size := ⟨_, rfl⟩
  rw [← g17] at A17 D17 st17
  have ne_ro_b17_18 : ro ≠ b17 := Nat.ne_of_lt (Nat.lt_of_lt_of_le E_6.lt (Nat.le_of_eq g17.symm))
  have ne_tr_b17_19 : tr ≠ b17 := Nat.ne_of_lt (Nat.lt_of_lt_of_le V_9.lt (Nat.le_of_eq g17.symm))
  have ne_b1_b17_21 : b1 ≠ b17 := Nat.ne_of_lt (Nat.lt_of_lt_of_le A1.lt (Nat.le_of_eq g17.symm))
  have sz_b17 : h0.size ≤ b17 := Nat.le_trans K16.1 (Nat.le_of_eq g17.symm)
  have g_b17 : n0 ≤ b17 := Nat.le_trans Z0 sz_b17
  have Y_b17 : Safe Z own_EL vm0 h1 b17 := Safe.new (Nat.le_of_eq g17.symm)
  have E_23 := E_6.ext E17
  have F_24 := F_7.ext E17
  have F_25 := F_8.ext E17
  have V_26 := V_9.ext E17
  have E_27 := E_10.ext E17
  have S_28 := S_11.ext E17
  have S_29 := S_12.ext E17
  have S_30 := S_13.ext E17
  have E_32 := A1.ext E17
  have F_33 := F_name_b1.ext E17
  have F_34 := F_roles_b1.ext E17
  have F_35 := F_anonymous_b1.ext E17
  have Y_36 := Safe.ext E17 C15.1 Y_b17
  have F_coder_b17 : Fld Z h17 b17 nn3_ "coder" "B" (.int 0) := D17 (Or.inr (hw.w 27 rfl)) (ty := .byte) (by decide)
  have F_value_b17 : Fld Z h17 b17 nn3_ "value" "[B" .null := D17 (Or.inr (hw.w 29 rfl)) (ty := (.array .byte)) (by decide)
  have hk := Nat.le_trans hk E17.1
  have C37 := CHr.trans C15 (CHr.ext E17 C15.1)
  have K38 : Keep h0 h17 [] := K16.ext E17
  refine own_go (B := T17.setTop (mkF m 264 #[s0, s1, s2, Si p4, Si ra, Si rb, Si m6, Sr ro, Si ga, Si gb, Si gc, s11, s12, s13, Si m14, Si m15, Su, Sr a1, Su, Su, Su, Su, Su, Su] [.int 1, .ref b17, .ref b17, .ref b1, .ref b1])) (fun _ k => st17 _ (XS.dup X17.here hx rfl (hb hby at_262) rfl rfl (XS.iconst X17.here hx rfl (hb hby at_263) k))) ?_
  obtain ⟨T39, h39, kc39, X39, e39, E39, A39, st39⟩ := newP X17 hx hZ (hw.w 3 rfl) e17 (g := (mkF m 264 #[s0, s1, s2, Si p4, Si ra, Si rb, Si m6, Sr ro, Si ga, Si gb, Si gc, s11, s12, s13, Si m14, Si m15, Su, Sr a1, Su, Su, Su, Su, Su, Su] [.int 1, .ref b17, .ref b17, .ref b1, .ref b1])) rfl (hb hby at_264) rfl (by decide) (cap := 1) (by decide) (by decide) (by decide) (by decide)
  obtain ⟨b39, g39⟩ : ∃ z, z = h17.size := ⟨_, rfl⟩
  rw [← g39] at A39 st39
  have ne_ro_b39_40 : ro ≠ b39 := Nat.ne_of_lt (Nat.lt_of_lt_of_le E_23.lt (Nat.le_of_eq g39.symm))
  have ne_tr_b39_41 : tr ≠ b39 := Nat.ne_of_lt (Nat.lt_of_lt_of_le V_26.lt (Nat.le_of_eq g39.symm))
  have ne_b1_b39_43 : b1 ≠ b39 := Nat.ne_of_lt (Nat.lt_of_lt_of_le E_32.lt (Nat.le_of_eq g39.symm))
  have ne_b17_b39_44 : b17 ≠ b39 := Nat.ne_of_lt (Nat.lt_of_lt_of_le A17.lt (Nat.le_of_eq g39.symm))
  have sz_b39 : h0.size ≤ b39 := Nat.le_trans K38.1 (Nat.le_of_eq g39.symm)
  have g_b39 : n0 ≤ b39 := Nat.le_trans Z0 sz_b39
  have Y_b39 : Safe Z own_EL vm0 h17 b39 := Safe.new (Nat.le_of_eq g39.symm)
  have E_46 := E_23.ext E39
  have F_47 := F_24.ext E39
  have F_48 := F_25.ext E39
  have V_49 := V_26.ext E39
  have E_50 := E_27.ext E39
  have S_51 := S_28.ext E39
  have S_52 := S_29.ext E39
  have S_53 := S_30.ext E39
  have E_55 := E_32.ext E39
  have F_56 := F_33.ext E39
  have F_57 := F_34.ext E39
  have F_58 := F_35.ext E39
  have Y_59 := Safe.ext E39 C37.1 Y_36
  have E_60 := A17.ext E39
  have F_61 := F_coder_b17.ext E39
  have F_62 := F_value_b17.ext E39
  have Y_63 := Safe.ext E39 C37.1 Y_b39
  have V_b39 : Arv Z h39 b39 kc39 .char 1 [.int 0] (.int 0) := (Arv.new A39 (by decide)).pad (pad_rep [] (.int 0) 1)
  have hk := Nat.le_trans hk E39.1
  have C64 := CHr.trans C37 (CHr.ext E39 C37.1)
  have K65 : Keep h0 h39 [] := K38.ext E39
  refine own_go (B := T39.setTop (mkF m 274 #[s0, s1, s2, Si p4, Si ra, Si rb, Si m6, Sr ro, Si ga, Si gb, Si gc, s11, s12, s13, Si m14, Si m15, Su, Sr a1, Su, Su, Su, Su, Su, Su] [(.int ((p4 &&& (255 : Int32)).toUInt32.toUInt16.toUInt32.toInt32)), .int 0, .ref b39, .ref b39, .ref b17, .ref b17, .ref b1, .ref b1])) (fun _ k => st39 _ (XS.dup X39.here hx rfl (hb hby at_266) rfl rfl (XS.iconst X39.here hx rfl (hb hby at_267) (XS.iloadN X39.here hx rfl (hb hby at_268) rfl (XS.sipush X39.here hx rfl (hb hby at_269) (XS.iand X39.here hx rfl (hb hby at_272) rfl (XS.i2c X39.here hx rfl (hb hby at_273) rfl k))))))) ?_
  obtain ⟨cl66, Ar66, q66, S66, N66n, H66, G66⟩ := id V_b39
  have hin67 : ¬ ((0 : Int32) < 0 ∨ cl66.slots.size ≤ ((0 : Int32)).toNatClampNeg) := inb_of S66 ⟨by decide, by decide⟩
  obtain ⟨T67, h67, X67, e67, W67, st67⟩ := stC X39 hx hZ e39 Ar66 (j := (0 : Int32)) hin67 (g := (mkF m 274 #[s0, s1, s2, Si p4, Si ra, Si rb, Si m6, Sr ro, Si ga, Si gb, Si gc, s11, s12, s13, Si m14, Si m15, Su, Sr a1, Su, Su, Su, Su, Su, Su] [(.int ((p4 &&& (255 : Int32)).toUInt32.toUInt16.toUInt32.toInt32)), .int 0, .ref b39, .ref b39, .ref b17, .ref b17, .ref b1, .ref b1])) rfl rfl (hb hby at_274)
  rw [own_narc] at W67
  have V_b39_67 : Arv Z h67 b39 kc39 .char 1 [(.int ((p4 &&& (255 : Int32)).toUInt32.toUInt16.toUInt32.toInt32))] (.int 0) := Arv.set Ar66 q66 S66 N66n H66 G66 (fits_nar_char _) W67 0 rfl (Nat.le_of_ble_eq_true rfl)
  have E_69 := E_46.wr W67
  have F_70 := F_47.other W67 (Or.inl ne_ro_b39_40)
  have F_71 := F_48.other W67 (Or.inl ne_ro_b39_40)
  have V_72 := V_49.other W67 ne_tr_b39_41
  have E_73 := E_50.wr W67
  have S_74 := S_51.wr W67
  have S_75 := S_52.wr W67
  have S_76 := S_53.wr W67
  have E_78 := E_55.wr W67
  have F_79 := F_56.other W67 (Or.inl ne_b1_b39_43)
  have F_80 := F_57.other W67 (Or.inl ne_b1_b39_43)
  have F_81 := F_58.other W67 (Or.inl ne_b1_b39_43)
  have Y_82 := Safe.wr W67 Y_63 C64.1 Y_59
  have E_83 := E_60.wr W67
  have F_84 := F_61.other W67 (Or.inl ne_b17_b39_44)
  have F_85 := F_62.other W67 (Or.inl ne_b17_b39_44)
  have hk := Nat.le_trans hk (Keep.of_wr W67).1
  have C88 := CHr.trans C64 (CHr.wr W67 Y_63 C64.1)
  have K89 : Keep h0 h67 [] := K65.wr W67 (Or.inr sz_b39)
  have N67 := Fr.snoc X67 N0 g_b39
  refine own_go (B := T67.setTop (mkF m 275 #[s0, s1, s2, Si p4, Si ra, Si rb, Si m6, Sr ro, Si ga, Si gb, Si gc, s11, s12, s13, Si m14, Si m15, Su, Sr a1, Su, Su, Su, Su, Su, Su] [.ref b39, .ref b17, .ref b17, .ref b1, .ref b1])) (fun _ k => st67 _ k) ?_
  refine own_cN (own_str1 l Z a0 hw [] b17 b39 kc39 ((p4 &&& (255 : Int32)).toUInt32.toUInt16.toUInt32.toInt32) cs h67 n0 (Nat.le_trans Z0 K89.1) E_83 F_85 F_84 V_b39_67 g_b17 ne_b17_b39_44 S_74 hcs (own_pl_k12_1 p4)) X67 hx hZ hown (hw.w 4 rfl) (hw.w 5 rfl) (hw.w 2 rfl) (hw.w 6 rfl) e67 rfl rfl (by rw [hml]; rfl) (rest := [.ref b17, .ref b1, .ref b1]) (lenOf own_pd44 rfl) rfl (hb hby at_275) (W := 3) (show 2 * 0 + _ = _ from rfl) (by decide) (by decide) rfl ?_
  rintro _ T90 L90 X90 ⟨t_90, kt_90, rfl, N90q, K90q, Q90_0, Q90_1, Q90_2, Q90_3, x90_0⟩
  have N90 := Fr.app N67 N90q
  have hk := Nat.le_trans hk K90q.1
  have E_98 := E_69.keep K90q
  have F_99 := F_70.keep K90q (ninS ne_ro_b17_18 nin0)
  have F_100 := F_71.keep K90q (ninS ne_ro_b17_18 nin0)
  have V_101 := V_72.keep K90q (ninS ne_tr_b17_19 nin0)
  have E_102 := E_73.keep K90q
  have S_103 := own_Sta_keep S_74 K90q (allS (own_plain E_83) all0)
  have S_104 := own_Sta_keep S_75 K90q (allS (own_plain E_83) all0)
  have S_105 := own_Sta_keep S_76 K90q (allS (own_plain E_83) all0)
  have E_107 := E_78.keep K90q
  have F_108 := F_79.keep K90q (ninS ne_b1_b17_21 nin0)
  have F_109 := F_80.keep K90q (ninS ne_b1_b17_21 nin0)
  have F_110 := F_81.keep K90q (ninS ne_b1_b17_21 nin0)
  have C118 := CHr.trans C88 (CHr.keep K90q (allS Y_82 all0) C88.1)
  have K119 : Keep h0 T90.heap [] := K89.trans K90q (allS (Or.inr sz_b17) all0)
  refine own_go (B := T90.setTop (mkF m 280 #[s0, s1, s2, Si p4, Si ra, Si rb, Si m6, Sr ro, Si ga, Si gb, Si gc, s11, s12, s13, Si m14, Si m15, Su, Sr a1, Su, Su, Su, Su, Su, Su] [.ref a1, .ref b17, .ref b1, .ref b1])) (fun _ k => XS.aload X90.here hx rfl (hb hby at_278) rfl rfl k) ?_
  obtain ⟨_, _, ⟨T120, L120, k120, n120⟩, -, X120, hS120, hg120, ⟨Lc120, hQ120, l120, y120, z120, hC120⟩, st120⟩ := X90.specialBackS hx (y := own_y61) rfl hown (mvT hZ (hw.w 73 rfl)) (mvT hZ (hw.w 74 rfl)) (mvT hZ (hw.w 75 rfl)) (by decide) (backOfSH (W := 1) (own_au212 l Z a0 hw [] b1 b17 a1 T90.heap n0 (Nat.le_trans Z0 K119.1) E_107 F_108 F_109 F_110 Q90_0 E_102 g_b1) hZ (hw.w 75 rfl) (hw.w 72 rfl) (by decide) (by decide) hEL C118.1) (g := (mkF m 280 #[s0, s1, s2, Si p4, Si ra, Si rb, Si m6, Sr ro, Si ga, Si gb, Si gc, s11, s12, s13, Si m14, Si m15, Su, Sr a1, Su, Su, Su, Su, Su, Su] [.ref a1, .ref b17, .ref b1, .ref b1])) rfl (by rw [hml]; rfl) (Steps.refl _) (a := b1) (argsL := [.ref b17, .ref a1]) (rest := [.ref b1]) (lenOf own_pd45 rfl) rfl (by show 2 * 0 + _ ≤ _; exact Nat.le_of_eq rfl) (hb hby at_280) (fun _ _ => ⟨rfl, rfl, (by decide : 22 + 2 ≤ _), (by decide : 69 + 20 ≤ _)⟩)
  dsimp only [Pt.U, Pt.locs, Pt.cells, Pt.slots] at X120 l120 y120 z120 st120 hQ120 hS120 hg120 hC120
  subst l120 y120 z120
  obtain ⟨X120, hS, hZ, hown⟩ := rebS hS (show _ ≤ T90.heap.size by rw [show T90.heap = T90.heap from rfl]; exact hk) X120 hS120 hg120 hZ hown
  have hk : T120.heap.size ≤ T120.heap.size := Nat.le_refl _
  obtain ⟨rfl, N120q, K120q, Q120_0, Q120_1⟩ := hQ120
  have N120 := Fr.app N90 N120q
  have E_122 := E_98.keep K120q
  have F_123 := F_99.keep K120q (ninS ne_ro_b1_2 nin0)
  have F_124 := F_100.keep K120q (ninS ne_ro_b1_2 nin0)
  have V_125 := V_101.keep K120q (ninS ne_tr_b1_3 nin0)
  have E_126 := E_102.keep K120q
  have S_127 := own_Sta_keep S_103 K120q (allS (own_plain E_107) all0)
  have S_128 := own_Sta_keep S_104 K120q (allS (own_plain E_107) all0)
  have S_129 := own_Sta_keep S_105 K120q (allS (own_plain E_107) all0)
  have C141 := CHr.trans C118 hC120
  have K142 : Keep h0 T120.heap [] := K119.trans K120q (allS (Or.inr sz_b1) all0)
  refine own_go (B := T120.setTop (mkF m 285 #[s0, s1, s2, Si p4, Si ra, Si rb, Si m6, Sr ro, Si ga, Si gb, Si gc, s11, s12, s13, Si m14, Si m15, Sr b1, Sr a1, Su, Su, Su, Su, Su, Su] [])) (fun _ k => st120.trans (XS.astore X120.here hx rfl (hb hby at_283) rfl rfl (l' := #[s0, s1, s2, Si p4, Si ra, Si rb, Si m6, Sr ro, Si ga, Si gb, Si gc, s11, s12, s13, Si m14, Si m15, Sr b1, Sr a1, Su, Su, Su, Su, Su, Su]) rfl k)) ?_
  exact own_m12 ⟨hw, hx, hby, hml, hlk, hret, hS, X120.mono (by decide) (by decide), rfl, hk, hZ, hown, hEL, C141, Nat.le_trans Z0 K142.1, N120, KA.trans K142 all0⟩ s0 s1 s2 (Si p4) ra rb m6 ro ga gb gc s11 s12 s13 m14 m15 b1 a1 tr kr zr vr em cs sf r E_122 F_123 F_124 V_125 E_126 Q120_0 Q120_1 S_127 S_128 S_129 (fun h' K' => hCon h' (K142.trans K' all0)) hl_ra hu_ra hl_rb hu_rb hcs hsf hEx hrole
theorem own_m0 {l : Launch} {Z : State} {a0 : Array Value} {p : Program} {e : Env} {below : List Frame} {s : State} {m : MethodId} {meth : Method} {c : Code} {A : Array Value} {vm0 : Vm} {k0 : Nat} {hA h0 : Heap} {n0 : Nat} {T0 : State} {lcs : List Loc} (H : own_Ctx l Z a0 p e below s m meth c A vm0 k0 hA h0 n0 T0 lcs 26 150) (s0 s1 s2 s3 : Slot) (ra rb m6 : Int32) (ro : Addr) (ga gb gc : Int32) (s11 s12 s13 : Slot) (au tr : Addr) (kr : ClassId) (zr : Int32) (vr : List Value) (em a1 : Addr) (cs : Int32) (sf : Value) (P_E_ro : Exa Z h0 ro nn3_) (P_F_ro_value : Fld Z h0 ro nn3_ "value" "[B" (.ref tr)) (P_F_ro_coder : Fld Z h0 ro nn3_ "coder" "B" (.int 0)) (P_V_tr : Arv Z h0 tr kr .byte zr vr (.int 0)) (P_E_a1 : Exa Z h0 a1 nn4_) (P_F_a1_size : Fld Z h0 a1 nn4_ "size" "I" (.int 0)) (P_E_au : Exa Z h0 au nn8_) (P_F_au_roles : Fld Z h0 au nn8_ "roles" nn13_ (.ref a1)) (P_S_COMPACT_STRINGS : Sta Z h0 nn3_ nn16_ "Z" (.int cs)) (P_S_EMPTY : Sta Z h0 nn15_ "EMPTY" nn9_ (.ref em)) (P_S_SIOOBE_FORMATTER : Sta Z h0 nn21_ nn22_ nn23_ sf) (hl_ra : 0 ≤ ra.toInt) (hu_ra : ra.toInt ≤ 255) (hl_rb : 0 ≤ rb.toInt) (hu_rb : rb.toInt ≤ 255) (hcs : ¬ (cs = (0 : Int32))) (hsf : sf.isRef = true) (hrole : own_HR m6 ra rb zr vr) :
    own_FinW p e below s (own_QL hA n0) 64 4352 (T0.setTop (mkF m 285 #[s0, s1, s2, s3, Si ra, Si rb, Si m6, Sr ro, Si ga, Si gb, Si gc, s11, s12, s13, Si 0, Si 0, Sr au, Su, Su, Su, Su, Su, Su, Su] [])) := by
  obtain ⟨hw, hx, hby, hml, hlk, hret, hS, X0, e0, hk, hZ, hown, hEL, C0, Z0, N0, KA⟩ := H
  have K0 := Keep.refl h0 []
  rcases hrole with ⟨rfl, rfl, rfl⟩ | ⟨rfl, rfl, rfl⟩
  · skip
    refine own_go (B := T0.setTop (mkF m 287 #[s0, s1, s2, s3, Si ra, Si rb, Si 0, Sr ro, Si ga, Si gb, Si gc, s11, s12, s13, Si 0, Si 0, Sr au, Su, Su, Su, Su, Su, Su, Su] [.ref ro])) (fun _ k => XS.aload X0.here hx rfl (hb hby at_285) rfl rfl k) ?_
    obtain ⟨_, _, ⟨T1, L1, k1, n1⟩, -, X1, hS1, hg1, ⟨Lc1, hQ1, l1, y1, z1, hC1⟩, st1⟩ := callSS X0 hx (y := own_y62) hown (mvT hZ (hw.w 99 rfl)) (mvT hZ (hw.w 100 rfl)) (mvT hZ (hw.w 101 rfl)) (mvT hZ (hw.w 102 rfl)) (by decide) (backOfSH (W := 0) (own_has1 l Z a0 hw [] ro tr kr (ra.toInt8.toInt32) cs em h0 n0 (Nat.le_trans Z0 K0.1) P_E_ro P_F_ro_value P_F_ro_coder P_V_tr P_S_EMPTY P_S_COMPACT_STRINGS hcs) hZ (hw.w 102 rfl) (hw.w 101 rfl) (by decide) (by decide) hEL C0.1) (g := (mkF m 287 #[s0, s1, s2, s3, Si ra, Si rb, Si 0, Sr ro, Si ga, Si gb, Si gc, s11, s12, s13, Si 0, Si 0, Sr au, Su, Su, Su, Su, Su, Su, Su] [.ref ro])) rfl (by rw [hml]; rfl) (argsL := [.ref ro]) (rest := []) (lenOf own_pd43 rfl) rfl (by show 2 * 0 + _ ≤ _; exact Nat.le_of_eq rfl) (hb hby at_287) (fun _ _ => ⟨rfl, e0, (by decide : 26 + 9 ≤ _), (by decide : 150 + 79 ≤ _)⟩)
    dsimp only [Pt.U, Pt.locs, Pt.cells, Pt.slots] at X1 l1 y1 z1 st1 hQ1 hS1 hg1 hC1
    subst l1 y1 z1
    obtain ⟨X1, hS, hZ, hown⟩ := rebS hS (show _ ≤ T0.heap.size by rw [e0]; exact hk) X1 hS1 hg1 hZ hown
    have hk : T1.heap.size ≤ T1.heap.size := Nat.le_refl _
    obtain ⟨b_1, d_1, td_1, kd_1, q_1, li_1, rfl, N1q, K1q, Q1_0, Q1_1, Q1_2, Q1_3, Q1_4, Q1_5, Q1_6, Q1_7, Q1_8, Q1_9, Q1_10, x1_0, x1_1, x1_2, x1_3, x1_4⟩ := hQ1
    have N1 := Fr.app N0 N1q
    have E_27 := P_E_a1.keep K1q
    have F_28 := P_F_a1_size.keep K1q nin0
    have E_29 := P_E_au.keep K1q
    have F_30 := P_F_au_roles.keep K1q nin0
    have S_31 := own_Sta_keep P_S_COMPACT_STRINGS K1q all0
    have S_32 := own_Sta_keep P_S_EMPTY K1q all0
    have S_33 := own_Sta_keep P_S_SIOOBE_FORMATTER K1q all0
    have C34 := CHr.trans C0 hC1
    have K35 : Keep h0 T1.heap [] := K0.trans K1q all0
    refine own_go (B := T1.setTop (mkF m 292 #[s0, s1, s2, s3, Si ra, Si rb, Si 0, Sr ro, Si ga, Si gb, Si gc, s11, s12, s13, Si 0, Si 0, Sr au, Sr b_1, Su, Su, Su, Su, Su, Su] [])) (fun _ k => st1.trans (XS.astore X1.here hx rfl (hb hby at_290) rfl rfl (l' := #[s0, s1, s2, s3, Si ra, Si rb, Si 0, Sr ro, Si ga, Si gb, Si gc, s11, s12, s13, Si 0, Si 0, Sr au, Sr b_1, Su, Su, Su, Su, Su, Su]) rfl k)) ?_
    exact own_xN ⟨hw, hx, hby, hml, hlk, hret, hS, X1.mono (by decide) (by decide), rfl, hk, hZ, hown, hEL, C34, Nat.le_trans Z0 K35.1, N1, KA.trans K35 all0⟩ s0 s1 s2 s3 ra rb (0 : Int32) (Sr ro) ga gb gc s11 s12 s13 au b_1 q_1 li_1 ro em a1 d_1 td_1 kd_1 (10 : Int32) ([.int 104, .int 97, .int 115, .int 32, .int 114, .int 111, .int 108, .int 101, .int 32, (.int (ra.toInt8.toInt32))]) cs sf Q1_0 Q1_1 Q1_2 Q1_3 Q1_4 Q1_5 Q1_6 Q1_7 Q1_8 Q1_9 Q1_10 E_27 F_28 E_29 F_30 S_31 S_32 S_33 hl_ra hu_ra hl_rb hu_rb hcs hsf (Or.inl ⟨rfl, rfl, rfl⟩)
  · skip
    refine own_go (B := T0.setTop (mkF m 287 #[s0, s1, s2, s3, Si ra, Si rb, Si 1, Sr ro, Si ga, Si gb, Si gc, s11, s12, s13, Si 0, Si 0, Sr au, Su, Su, Su, Su, Su, Su, Su] [.ref ro])) (fun _ k => XS.aload X0.here hx rfl (hb hby at_285) rfl rfl k) ?_
    obtain ⟨_, _, ⟨T36, L36, k36, n36⟩, -, X36, hS36, hg36, ⟨Lc36, hQ36, l36, y36, z36, hC36⟩, st36⟩ := callSS X0 hx (y := own_y62) hown (mvT hZ (hw.w 99 rfl)) (mvT hZ (hw.w 100 rfl)) (mvT hZ (hw.w 101 rfl)) (mvT hZ (hw.w 102 rfl)) (by decide) (backOfSH (W := 0) (own_has2 l Z a0 hw [] ro tr kr (ra.toInt8.toInt32) (rb.toInt8.toInt32) cs em h0 n0 (Nat.le_trans Z0 K0.1) P_E_ro P_F_ro_value P_F_ro_coder P_V_tr P_S_EMPTY P_S_COMPACT_STRINGS hcs) hZ (hw.w 102 rfl) (hw.w 101 rfl) (by decide) (by decide) hEL C0.1) (g := (mkF m 287 #[s0, s1, s2, s3, Si ra, Si rb, Si 1, Sr ro, Si ga, Si gb, Si gc, s11, s12, s13, Si 0, Si 0, Sr au, Su, Su, Su, Su, Su, Su, Su] [.ref ro])) rfl (by rw [hml]; rfl) (argsL := [.ref ro]) (rest := []) (lenOf own_pd43 rfl) rfl (by show 2 * 0 + _ ≤ _; exact Nat.le_of_eq rfl) (hb hby at_287) (fun _ _ => ⟨rfl, e0, (by decide : 26 + 9 ≤ _), (by decide : 150 + 80 ≤ _)⟩)
    dsimp only [Pt.U, Pt.locs, Pt.cells, Pt.slots] at X36 l36 y36 z36 st36 hQ36 hS36 hg36 hC36
    subst l36 y36 z36
    obtain ⟨X36, hS, hZ, hown⟩ := rebS hS (show _ ≤ T0.heap.size by rw [e0]; exact hk) X36 hS36 hg36 hZ hown
    have hk : T36.heap.size ≤ T36.heap.size := Nat.le_refl _
    obtain ⟨b_36, d_36, td_36, kd_36, q_36, li_36, rfl, N36q, K36q, Q36_0, Q36_1, Q36_2, Q36_3, Q36_4, Q36_5, Q36_6, Q36_7, Q36_8, Q36_9, Q36_10, x36_0, x36_1, x36_2, x36_3, x36_4⟩ := hQ36
    have N36 := Fr.app N0 N36q
    have E_62 := P_E_a1.keep K36q
    have F_63 := P_F_a1_size.keep K36q nin0
    have E_64 := P_E_au.keep K36q
    have F_65 := P_F_au_roles.keep K36q nin0
    have S_66 := own_Sta_keep P_S_COMPACT_STRINGS K36q all0
    have S_67 := own_Sta_keep P_S_EMPTY K36q all0
    have S_68 := own_Sta_keep P_S_SIOOBE_FORMATTER K36q all0
    have C69 := CHr.trans C0 hC36
    have K70 : Keep h0 T36.heap [] := K0.trans K36q all0
    refine own_go (B := T36.setTop (mkF m 292 #[s0, s1, s2, s3, Si ra, Si rb, Si 1, Sr ro, Si ga, Si gb, Si gc, s11, s12, s13, Si 0, Si 0, Sr au, Sr b_36, Su, Su, Su, Su, Su, Su] [])) (fun _ k => st36.trans (XS.astore X36.here hx rfl (hb hby at_290) rfl rfl (l' := #[s0, s1, s2, s3, Si ra, Si rb, Si 1, Sr ro, Si ga, Si gb, Si gc, s11, s12, s13, Si 0, Si 0, Sr au, Sr b_36, Su, Su, Su, Su, Su, Su]) rfl k)) ?_
    exact own_xN ⟨hw, hx, hby, hml, hlk, hret, hS, X36.mono (by decide) (by decide), rfl, hk, hZ, hown, hEL, C69, Nat.le_trans Z0 K70.1, N36, KA.trans K70 all0⟩ s0 s1 s2 s3 ra rb (1 : Int32) (Sr ro) ga gb gc s11 s12 s13 au b_36 q_36 li_36 ro em a1 d_36 td_36 kd_36 (11 : Int32) ([.int 104, .int 97, .int 115, .int 32, .int 114, .int 111, .int 108, .int 101, .int 32, (.int (ra.toInt8.toInt32)), (.int (rb.toInt8.toInt32))]) cs sf Q36_0 Q36_1 Q36_2 Q36_3 Q36_4 Q36_5 Q36_6 Q36_7 Q36_8 Q36_9 Q36_10 E_62 F_63 E_64 F_65 S_66 S_67 S_68 hl_ra hu_ra hl_rb hu_rb hcs hsf (Or.inr ⟨rfl, rfl, rfl⟩)
theorem own_pl_s80_1 (p2 : Int32) : 0 ≤ ((p2 &&& (255 : Int32)).toUInt32.toUInt16.toUInt32.toInt32).toInt := by
  have := rng32 p2
  have := rng32 (p2 &&& (255 : Int32))
  have := Jvm.Kit.i32_mask p2 (255 : Int32) (k := 8) (by decide) (by decide)
  have := rng32 ((p2 &&& (255 : Int32)).toUInt32.toUInt16.toUInt32.toInt32)
  have := own_i2c (p2 &&& (255 : Int32))
  have := rng32 ((p2.toUInt32 >>> ((8 : Int32) &&& 31).toUInt32).toInt32)
  have := own_iushr p2 (n := ((8 : Int32) &&& 31).toUInt32) (k := 8) (by decide) (by decide) (by decide)
  have := rng32 (((p2.toUInt32 >>> ((8 : Int32) &&& 31).toUInt32).toInt32) &&& (255 : Int32))
  have := Jvm.Kit.i32_mask ((p2.toUInt32 >>> ((8 : Int32) &&& 31).toUInt32).toInt32) (255 : Int32) (k := 8) (by decide) (by decide)
  have := rng32 ((((p2.toUInt32 >>> ((8 : Int32) &&& 31).toUInt32).toInt32) &&& (255 : Int32)).toUInt32.toUInt16.toUInt32.toInt32)
  have := own_i2c (((p2.toUInt32 >>> ((8 : Int32) &&& 31).toUInt32).toInt32) &&& (255 : Int32))
  have := rng32 ((p2.toUInt32 >>> ((16 : Int32) &&& 31).toUInt32).toInt32)
  have := own_iushr p2 (n := ((16 : Int32) &&& 31).toUInt32) (k := 16) (by decide) (by decide) (by decide)
  have := rng32 (((p2.toUInt32 >>> ((16 : Int32) &&& 31).toUInt32).toInt32) &&& (255 : Int32))
  have := Jvm.Kit.i32_mask ((p2.toUInt32 >>> ((16 : Int32) &&& 31).toUInt32).toInt32) (255 : Int32) (k := 8) (by decide) (by decide)
  have := rng32 ((((p2.toUInt32 >>> ((16 : Int32) &&& 31).toUInt32).toInt32) &&& (255 : Int32)).toUInt32.toUInt16.toUInt32.toInt32)
  have := own_i2c (((p2.toUInt32 >>> ((16 : Int32) &&& 31).toUInt32).toInt32) &&& (255 : Int32))
  try simp only [own_i32_8, own_i32_16, own_i32_255] at *
  have := own_i32_8
  have := own_i32_16
  have := own_i32_255
  try simp only [Int32.lt_iff_toInt_lt, Int32.le_iff_toInt_le, ← Int32.toInt_inj, true_and, and_true, true_or, or_true, false_or, or_false, not_true_eq_false, not_false_eq_true, false_and, and_false, ne_eq] at *
  all_goals first | omega | (simp; done)
theorem own_pl_s80_2 (p2 : Int32) : ((p2 &&& (255 : Int32)).toUInt32.toUInt16.toUInt32.toInt32).toInt ≤ 255 := by
  have := rng32 p2
  have := rng32 (p2 &&& (255 : Int32))
  have := Jvm.Kit.i32_mask p2 (255 : Int32) (k := 8) (by decide) (by decide)
  have := rng32 ((p2 &&& (255 : Int32)).toUInt32.toUInt16.toUInt32.toInt32)
  have := own_i2c (p2 &&& (255 : Int32))
  have := rng32 ((p2.toUInt32 >>> ((8 : Int32) &&& 31).toUInt32).toInt32)
  have := own_iushr p2 (n := ((8 : Int32) &&& 31).toUInt32) (k := 8) (by decide) (by decide) (by decide)
  have := rng32 (((p2.toUInt32 >>> ((8 : Int32) &&& 31).toUInt32).toInt32) &&& (255 : Int32))
  have := Jvm.Kit.i32_mask ((p2.toUInt32 >>> ((8 : Int32) &&& 31).toUInt32).toInt32) (255 : Int32) (k := 8) (by decide) (by decide)
  have := rng32 ((((p2.toUInt32 >>> ((8 : Int32) &&& 31).toUInt32).toInt32) &&& (255 : Int32)).toUInt32.toUInt16.toUInt32.toInt32)
  have := own_i2c (((p2.toUInt32 >>> ((8 : Int32) &&& 31).toUInt32).toInt32) &&& (255 : Int32))
  have := rng32 ((p2.toUInt32 >>> ((16 : Int32) &&& 31).toUInt32).toInt32)
  have := own_iushr p2 (n := ((16 : Int32) &&& 31).toUInt32) (k := 16) (by decide) (by decide) (by decide)
  have := rng32 (((p2.toUInt32 >>> ((16 : Int32) &&& 31).toUInt32).toInt32) &&& (255 : Int32))
  have := Jvm.Kit.i32_mask ((p2.toUInt32 >>> ((16 : Int32) &&& 31).toUInt32).toInt32) (255 : Int32) (k := 8) (by decide) (by decide)
  have := rng32 ((((p2.toUInt32 >>> ((16 : Int32) &&& 31).toUInt32).toInt32) &&& (255 : Int32)).toUInt32.toUInt16.toUInt32.toInt32)
  have := own_i2c (((p2.toUInt32 >>> ((16 : Int32) &&& 31).toUInt32).toInt32) &&& (255 : Int32))
  try simp only [own_i32_8, own_i32_16, own_i32_255] at *
  have := own_i32_8
  have := own_i32_16
  have := own_i32_255
  try simp only [Int32.lt_iff_toInt_lt, Int32.le_iff_toInt_le, ← Int32.toInt_inj, true_and, and_true, true_or, or_true, false_or, or_false, not_true_eq_false, not_false_eq_true, false_and, and_false, ne_eq] at *
  all_goals first | omega | (simp; done)
theorem own_pl_s80_3 (p2 : Int32) : 0 ≤ ((((p2.toUInt32 >>> ((8 : Int32) &&& 31).toUInt32).toInt32) &&& (255 : Int32)).toUInt32.toUInt16.toUInt32.toInt32).toInt := by
  have := rng32 p2
  have := rng32 (p2 &&& (255 : Int32))
  have := Jvm.Kit.i32_mask p2 (255 : Int32) (k := 8) (by decide) (by decide)
  have := rng32 ((p2 &&& (255 : Int32)).toUInt32.toUInt16.toUInt32.toInt32)
  have := own_i2c (p2 &&& (255 : Int32))
  have := rng32 ((p2.toUInt32 >>> ((8 : Int32) &&& 31).toUInt32).toInt32)
  have := own_iushr p2 (n := ((8 : Int32) &&& 31).toUInt32) (k := 8) (by decide) (by decide) (by decide)
  have := rng32 (((p2.toUInt32 >>> ((8 : Int32) &&& 31).toUInt32).toInt32) &&& (255 : Int32))
  have := Jvm.Kit.i32_mask ((p2.toUInt32 >>> ((8 : Int32) &&& 31).toUInt32).toInt32) (255 : Int32) (k := 8) (by decide) (by decide)
  have := rng32 ((((p2.toUInt32 >>> ((8 : Int32) &&& 31).toUInt32).toInt32) &&& (255 : Int32)).toUInt32.toUInt16.toUInt32.toInt32)
  have := own_i2c (((p2.toUInt32 >>> ((8 : Int32) &&& 31).toUInt32).toInt32) &&& (255 : Int32))
  have := rng32 ((p2.toUInt32 >>> ((16 : Int32) &&& 31).toUInt32).toInt32)
  have := own_iushr p2 (n := ((16 : Int32) &&& 31).toUInt32) (k := 16) (by decide) (by decide) (by decide)
  have := rng32 (((p2.toUInt32 >>> ((16 : Int32) &&& 31).toUInt32).toInt32) &&& (255 : Int32))
  have := Jvm.Kit.i32_mask ((p2.toUInt32 >>> ((16 : Int32) &&& 31).toUInt32).toInt32) (255 : Int32) (k := 8) (by decide) (by decide)
  have := rng32 ((((p2.toUInt32 >>> ((16 : Int32) &&& 31).toUInt32).toInt32) &&& (255 : Int32)).toUInt32.toUInt16.toUInt32.toInt32)
  have := own_i2c (((p2.toUInt32 >>> ((16 : Int32) &&& 31).toUInt32).toInt32) &&& (255 : Int32))
  try simp only [own_i32_8, own_i32_16, own_i32_255] at *
  have := own_i32_8
  have := own_i32_16
  have := own_i32_255
  try simp only [Int32.lt_iff_toInt_lt, Int32.le_iff_toInt_le, ← Int32.toInt_inj, true_and, and_true, true_or, or_true, false_or, or_false, not_true_eq_false, not_false_eq_true, false_and, and_false, ne_eq] at *
  all_goals first | omega | (simp; done)
theorem own_pl_s80_4 (p2 : Int32) : ((((p2.toUInt32 >>> ((8 : Int32) &&& 31).toUInt32).toInt32) &&& (255 : Int32)).toUInt32.toUInt16.toUInt32.toInt32).toInt ≤ 255 := by
  have := rng32 p2
  have := rng32 (p2 &&& (255 : Int32))
  have := Jvm.Kit.i32_mask p2 (255 : Int32) (k := 8) (by decide) (by decide)
  have := rng32 ((p2 &&& (255 : Int32)).toUInt32.toUInt16.toUInt32.toInt32)
  have := own_i2c (p2 &&& (255 : Int32))
  have := rng32 ((p2.toUInt32 >>> ((8 : Int32) &&& 31).toUInt32).toInt32)
  have := own_iushr p2 (n := ((8 : Int32) &&& 31).toUInt32) (k := 8) (by decide) (by decide) (by decide)
  have := rng32 (((p2.toUInt32 >>> ((8 : Int32) &&& 31).toUInt32).toInt32) &&& (255 : Int32))
  have := Jvm.Kit.i32_mask ((p2.toUInt32 >>> ((8 : Int32) &&& 31).toUInt32).toInt32) (255 : Int32) (k := 8) (by decide) (by decide)
  have := rng32 ((((p2.toUInt32 >>> ((8 : Int32) &&& 31).toUInt32).toInt32) &&& (255 : Int32)).toUInt32.toUInt16.toUInt32.toInt32)
  have := own_i2c (((p2.toUInt32 >>> ((8 : Int32) &&& 31).toUInt32).toInt32) &&& (255 : Int32))
  have := rng32 ((p2.toUInt32 >>> ((16 : Int32) &&& 31).toUInt32).toInt32)
  have := own_iushr p2 (n := ((16 : Int32) &&& 31).toUInt32) (k := 16) (by decide) (by decide) (by decide)
  have := rng32 (((p2.toUInt32 >>> ((16 : Int32) &&& 31).toUInt32).toInt32) &&& (255 : Int32))
  have := Jvm.Kit.i32_mask ((p2.toUInt32 >>> ((16 : Int32) &&& 31).toUInt32).toInt32) (255 : Int32) (k := 8) (by decide) (by decide)
  have := rng32 ((((p2.toUInt32 >>> ((16 : Int32) &&& 31).toUInt32).toInt32) &&& (255 : Int32)).toUInt32.toUInt16.toUInt32.toInt32)
  have := own_i2c (((p2.toUInt32 >>> ((16 : Int32) &&& 31).toUInt32).toInt32) &&& (255 : Int32))
  try simp only [own_i32_8, own_i32_16, own_i32_255] at *
  have := own_i32_8
  have := own_i32_16
  have := own_i32_255
  try simp only [Int32.lt_iff_toInt_lt, Int32.le_iff_toInt_le, ← Int32.toInt_inj, true_and, and_true, true_or, or_true, false_or, or_false, not_true_eq_false, not_false_eq_true, false_and, and_false, ne_eq] at *
  all_goals first | omega | (simp; done)
theorem own_pl_s80_5 (p2 : Int32) : 0 ≤ ((((p2.toUInt32 >>> ((16 : Int32) &&& 31).toUInt32).toInt32) &&& (255 : Int32)).toUInt32.toUInt16.toUInt32.toInt32).toInt := by
  have := rng32 p2
  have := rng32 (p2 &&& (255 : Int32))
  have := Jvm.Kit.i32_mask p2 (255 : Int32) (k := 8) (by decide) (by decide)
  have := rng32 ((p2 &&& (255 : Int32)).toUInt32.toUInt16.toUInt32.toInt32)
  have := own_i2c (p2 &&& (255 : Int32))
  have := rng32 ((p2.toUInt32 >>> ((8 : Int32) &&& 31).toUInt32).toInt32)
  have := own_iushr p2 (n := ((8 : Int32) &&& 31).toUInt32) (k := 8) (by decide) (by decide) (by decide)
  have := rng32 (((p2.toUInt32 >>> ((8 : Int32) &&& 31).toUInt32).toInt32) &&& (255 : Int32))
  have := Jvm.Kit.i32_mask ((p2.toUInt32 >>> ((8 : Int32) &&& 31).toUInt32).toInt32) (255 : Int32) (k := 8) (by decide) (by decide)
  have := rng32 ((((p2.toUInt32 >>> ((8 : Int32) &&& 31).toUInt32).toInt32) &&& (255 : Int32)).toUInt32.toUInt16.toUInt32.toInt32)
  have := own_i2c (((p2.toUInt32 >>> ((8 : Int32) &&& 31).toUInt32).toInt32) &&& (255 : Int32))
  have := rng32 ((p2.toUInt32 >>> ((16 : Int32) &&& 31).toUInt32).toInt32)
  have := own_iushr p2 (n := ((16 : Int32) &&& 31).toUInt32) (k := 16) (by decide) (by decide) (by decide)
  have := rng32 (((p2.toUInt32 >>> ((16 : Int32) &&& 31).toUInt32).toInt32) &&& (255 : Int32))
  have := Jvm.Kit.i32_mask ((p2.toUInt32 >>> ((16 : Int32) &&& 31).toUInt32).toInt32) (255 : Int32) (k := 8) (by decide) (by decide)
  have := rng32 ((((p2.toUInt32 >>> ((16 : Int32) &&& 31).toUInt32).toInt32) &&& (255 : Int32)).toUInt32.toUInt16.toUInt32.toInt32)
  have := own_i2c (((p2.toUInt32 >>> ((16 : Int32) &&& 31).toUInt32).toInt32) &&& (255 : Int32))
  try simp only [own_i32_8, own_i32_16, own_i32_255] at *
  have := own_i32_8
  have := own_i32_16
  have := own_i32_255
  try simp only [Int32.lt_iff_toInt_lt, Int32.le_iff_toInt_le, ← Int32.toInt_inj, true_and, and_true, true_or, or_true, false_or, or_false, not_true_eq_false, not_false_eq_true, false_and, and_false, ne_eq] at *
  all_goals first | omega | (simp; done)
theorem own_pl_s80_6 (p2 : Int32) : ((((p2.toUInt32 >>> ((16 : Int32) &&& 31).toUInt32).toInt32) &&& (255 : Int32)).toUInt32.toUInt16.toUInt32.toInt32).toInt ≤ 255 := by
  have := rng32 p2
  have := rng32 (p2 &&& (255 : Int32))
  have := Jvm.Kit.i32_mask p2 (255 : Int32) (k := 8) (by decide) (by decide)
  have := rng32 ((p2 &&& (255 : Int32)).toUInt32.toUInt16.toUInt32.toInt32)
  have := own_i2c (p2 &&& (255 : Int32))
  have := rng32 ((p2.toUInt32 >>> ((8 : Int32) &&& 31).toUInt32).toInt32)
  have := own_iushr p2 (n := ((8 : Int32) &&& 31).toUInt32) (k := 8) (by decide) (by decide) (by decide)
  have := rng32 (((p2.toUInt32 >>> ((8 : Int32) &&& 31).toUInt32).toInt32) &&& (255 : Int32))
  have := Jvm.Kit.i32_mask ((p2.toUInt32 >>> ((8 : Int32) &&& 31).toUInt32).toInt32) (255 : Int32) (k := 8) (by decide) (by decide)
  have := rng32 ((((p2.toUInt32 >>> ((8 : Int32) &&& 31).toUInt32).toInt32) &&& (255 : Int32)).toUInt32.toUInt16.toUInt32.toInt32)
  have := own_i2c (((p2.toUInt32 >>> ((8 : Int32) &&& 31).toUInt32).toInt32) &&& (255 : Int32))
  have := rng32 ((p2.toUInt32 >>> ((16 : Int32) &&& 31).toUInt32).toInt32)
  have := own_iushr p2 (n := ((16 : Int32) &&& 31).toUInt32) (k := 16) (by decide) (by decide) (by decide)
  have := rng32 (((p2.toUInt32 >>> ((16 : Int32) &&& 31).toUInt32).toInt32) &&& (255 : Int32))
  have := Jvm.Kit.i32_mask ((p2.toUInt32 >>> ((16 : Int32) &&& 31).toUInt32).toInt32) (255 : Int32) (k := 8) (by decide) (by decide)
  have := rng32 ((((p2.toUInt32 >>> ((16 : Int32) &&& 31).toUInt32).toInt32) &&& (255 : Int32)).toUInt32.toUInt16.toUInt32.toInt32)
  have := own_i2c (((p2.toUInt32 >>> ((16 : Int32) &&& 31).toUInt32).toInt32) &&& (255 : Int32))
  try simp only [own_i32_8, own_i32_16, own_i32_255] at *
  have := own_i32_8
  have := own_i32_16
  have := own_i32_255
  try simp only [Int32.lt_iff_toInt_lt, Int32.le_iff_toInt_le, ← Int32.toInt_inj, true_and, and_true, true_or, or_true, false_or, or_false, not_true_eq_false, not_false_eq_true, false_and, and_false, ne_eq] at *
  all_goals first | omega | (simp; done)
theorem own_pl_s80_7 (p3 : Int32) (hc317 : (p3 &&& (7 : Int32)) = (2 : Int32)) : (p3 &&& (7 : Int32)) < (3 : Int32) := by
  have := rng32 p3
  have := rng32 (p3 &&& (7 : Int32))
  have := Jvm.Kit.i32_mask p3 (7 : Int32) (k := 3) (by decide) (by decide)
  try simp only [own_i32_2, own_i32_3, own_i32_7] at *
  have := own_i32_2
  have := own_i32_3
  have := own_i32_7
  try simp only [Int32.lt_iff_toInt_lt, Int32.le_iff_toInt_le, ← Int32.toInt_inj, true_and, and_true, true_or, or_true, false_or, or_false, not_true_eq_false, not_false_eq_true, false_and, and_false, ne_eq] at *
  all_goals first | omega | (simp; done)
theorem own_pl_s80_8 (p3 : Int32) (hc317 : (p3 &&& (7 : Int32)) = (2 : Int32)) (hc318 : (p3 &&& (7 : Int32)) < (3 : Int32)) : ¬ ((p3 &&& (7 : Int32)) = (0 : Int32)) := by
  have := rng32 p3
  have := rng32 (p3 &&& (7 : Int32))
  have := Jvm.Kit.i32_mask p3 (7 : Int32) (k := 3) (by decide) (by decide)
  try simp only [own_i32_0, own_i32_2, own_i32_3, own_i32_7] at *
  have := own_i32_0
  have := own_i32_2
  have := own_i32_3
  have := own_i32_7
  try simp only [Int32.lt_iff_toInt_lt, Int32.le_iff_toInt_le, ← Int32.toInt_inj, true_and, and_true, true_or, or_true, false_or, or_false, not_true_eq_false, not_false_eq_true, false_and, and_false, ne_eq] at *
  all_goals first | omega | (simp; done)
theorem own_pl_s80_9 (p3 : Int32) (hc317 : (p3 &&& (7 : Int32)) = (2 : Int32)) (hc318 : (p3 &&& (7 : Int32)) < (3 : Int32)) (hc319 : ¬ ((p3 &&& (7 : Int32)) = (0 : Int32))) : ¬ ((p3 &&& (7 : Int32)) = (1 : Int32)) := by
  have := rng32 p3
  have := rng32 (p3 &&& (7 : Int32))
  have := Jvm.Kit.i32_mask p3 (7 : Int32) (k := 3) (by decide) (by decide)
  try simp only [own_i32_0, own_i32_1, own_i32_2, own_i32_3, own_i32_7] at *
  have := own_i32_0
  have := own_i32_1
  have := own_i32_2
  have := own_i32_3
  have := own_i32_7
  try simp only [Int32.lt_iff_toInt_lt, Int32.le_iff_toInt_le, ← Int32.toInt_inj, true_and, and_true, true_or, or_true, false_or, or_false, not_true_eq_false, not_false_eq_true, false_and, and_false, ne_eq] at *
  all_goals first | omega | (simp; done)
theorem own_pl_s80_10 (p3 : Int32) (hc317 : ¬ ((p3 &&& (7 : Int32)) = (2 : Int32))) (hc364 : (p3 &&& (7 : Int32)) < (4 : Int32)) (hc365 : (p3 &&& (7 : Int32)) < (3 : Int32)) (hc366 : ¬ ((p3 &&& (7 : Int32)) = (0 : Int32))) : (p3 &&& (7 : Int32)) = (1 : Int32) := by
  have := rng32 p3
  have := rng32 (p3 &&& (7 : Int32))
  have := Jvm.Kit.i32_mask p3 (7 : Int32) (k := 3) (by decide) (by decide)
  try simp only [own_i32_0, own_i32_1, own_i32_2, own_i32_3, own_i32_4, own_i32_7] at *
  have := own_i32_0
  have := own_i32_1
  have := own_i32_2
  have := own_i32_3
  have := own_i32_4
  have := own_i32_7
  try simp only [Int32.lt_iff_toInt_lt, Int32.le_iff_toInt_le, ← Int32.toInt_inj, true_and, and_true, true_or, or_true, false_or, or_false, not_true_eq_false, not_false_eq_true, false_and, and_false, ne_eq] at *
  all_goals first | omega | (simp; done)
theorem own_pl_s80_11 (p3 : Int32) (hc317 : ¬ ((p3 &&& (7 : Int32)) = (2 : Int32))) (hc364 : (p3 &&& (7 : Int32)) < (4 : Int32)) (hc365 : ¬ ((p3 &&& (7 : Int32)) < (3 : Int32))) : ¬ ((p3 &&& (7 : Int32)) = (0 : Int32)) := by
  have := rng32 p3
  have := rng32 (p3 &&& (7 : Int32))
  have := Jvm.Kit.i32_mask p3 (7 : Int32) (k := 3) (by decide) (by decide)
  try simp only [own_i32_0, own_i32_2, own_i32_3, own_i32_4, own_i32_7] at *
  have := own_i32_0
  have := own_i32_2
  have := own_i32_3
  have := own_i32_4
  have := own_i32_7
  try simp only [Int32.lt_iff_toInt_lt, Int32.le_iff_toInt_le, ← Int32.toInt_inj, true_and, and_true, true_or, or_true, false_or, or_false, not_true_eq_false, not_false_eq_true, false_and, and_false, ne_eq] at *
  all_goals first | omega | (simp; done)
theorem own_pl_s80_12 (p3 : Int32) (hc317 : ¬ ((p3 &&& (7 : Int32)) = (2 : Int32))) (hc364 : (p3 &&& (7 : Int32)) < (4 : Int32)) (hc365 : ¬ ((p3 &&& (7 : Int32)) < (3 : Int32))) (hc370 : ¬ ((p3 &&& (7 : Int32)) = (0 : Int32))) : ¬ ((p3 &&& (7 : Int32)) = (1 : Int32)) := by
  have := rng32 p3
  have := rng32 (p3 &&& (7 : Int32))
  have := Jvm.Kit.i32_mask p3 (7 : Int32) (k := 3) (by decide) (by decide)
  try simp only [own_i32_0, own_i32_1, own_i32_2, own_i32_3, own_i32_4, own_i32_7] at *
  have := own_i32_0
  have := own_i32_1
  have := own_i32_2
  have := own_i32_3
  have := own_i32_4
  have := own_i32_7
  try simp only [Int32.lt_iff_toInt_lt, Int32.le_iff_toInt_le, ← Int32.toInt_inj, true_and, and_true, true_or, or_true, false_or, or_false, not_true_eq_false, not_false_eq_true, false_and, and_false, ne_eq] at *
  all_goals first | omega | (simp; done)
theorem own_pl_s80_13 (p3 : Int32) (hc317 : ¬ ((p3 &&& (7 : Int32)) = (2 : Int32))) (hc364 : (p3 &&& (7 : Int32)) < (4 : Int32)) (hc365 : ¬ ((p3 &&& (7 : Int32)) < (3 : Int32))) (hc370 : ¬ ((p3 &&& (7 : Int32)) = (0 : Int32))) (hc371 : ¬ ((p3 &&& (7 : Int32)) = (1 : Int32))) : (p3 &&& (7 : Int32)) = (3 : Int32) := by
  have := rng32 p3
  have := rng32 (p3 &&& (7 : Int32))
  have := Jvm.Kit.i32_mask p3 (7 : Int32) (k := 3) (by decide) (by decide)
  try simp only [own_i32_0, own_i32_1, own_i32_2, own_i32_3, own_i32_4, own_i32_7] at *
  have := own_i32_0
  have := own_i32_1
  have := own_i32_2
  have := own_i32_3
  have := own_i32_4
  have := own_i32_7
  try simp only [Int32.lt_iff_toInt_lt, Int32.le_iff_toInt_le, ← Int32.toInt_inj, true_and, and_true, true_or, or_true, false_or, or_false, not_true_eq_false, not_false_eq_true, false_and, and_false, ne_eq] at *
  all_goals first | omega | (simp; done)
theorem own_pl_s80_14 (p3 : Int32) (hc317 : ¬ ((p3 &&& (7 : Int32)) = (2 : Int32))) (hc364 : ¬ ((p3 &&& (7 : Int32)) < (4 : Int32))) : ¬ ((p3 &&& (7 : Int32)) < (3 : Int32)) := by
  have := rng32 p3
  have := rng32 (p3 &&& (7 : Int32))
  have := Jvm.Kit.i32_mask p3 (7 : Int32) (k := 3) (by decide) (by decide)
  try simp only [own_i32_2, own_i32_3, own_i32_4, own_i32_7] at *
  have := own_i32_2
  have := own_i32_3
  have := own_i32_4
  have := own_i32_7
  try simp only [Int32.lt_iff_toInt_lt, Int32.le_iff_toInt_le, ← Int32.toInt_inj, true_and, and_true, true_or, or_true, false_or, or_false, not_true_eq_false, not_false_eq_true, false_and, and_false, ne_eq] at *
  all_goals first | omega | (simp; done)
theorem own_pl_s80_15 (p3 : Int32) (hc317 : ¬ ((p3 &&& (7 : Int32)) = (2 : Int32))) (hc364 : ¬ ((p3 &&& (7 : Int32)) < (4 : Int32))) (hc416 : ¬ ((p3 &&& (7 : Int32)) < (3 : Int32))) : ¬ ((p3 &&& (7 : Int32)) = (0 : Int32)) := by
  have := rng32 p3
  have := rng32 (p3 &&& (7 : Int32))
  have := Jvm.Kit.i32_mask p3 (7 : Int32) (k := 3) (by decide) (by decide)
  try simp only [own_i32_0, own_i32_2, own_i32_3, own_i32_4, own_i32_7] at *
  have := own_i32_0
  have := own_i32_2
  have := own_i32_3
  have := own_i32_4
  have := own_i32_7
  try simp only [Int32.lt_iff_toInt_lt, Int32.le_iff_toInt_le, ← Int32.toInt_inj, true_and, and_true, true_or, or_true, false_or, or_false, not_true_eq_false, not_false_eq_true, false_and, and_false, ne_eq] at *
  all_goals first | omega | (simp; done)
theorem own_pl_s80_16 (p3 : Int32) (hc317 : ¬ ((p3 &&& (7 : Int32)) = (2 : Int32))) (hc364 : ¬ ((p3 &&& (7 : Int32)) < (4 : Int32))) (hc416 : ¬ ((p3 &&& (7 : Int32)) < (3 : Int32))) (hc417 : ¬ ((p3 &&& (7 : Int32)) = (0 : Int32))) : ¬ ((p3 &&& (7 : Int32)) = (1 : Int32)) := by
  have := rng32 p3
  have := rng32 (p3 &&& (7 : Int32))
  have := Jvm.Kit.i32_mask p3 (7 : Int32) (k := 3) (by decide) (by decide)
  try simp only [own_i32_0, own_i32_1, own_i32_2, own_i32_3, own_i32_4, own_i32_7] at *
  have := own_i32_0
  have := own_i32_1
  have := own_i32_2
  have := own_i32_3
  have := own_i32_4
  have := own_i32_7
  try simp only [Int32.lt_iff_toInt_lt, Int32.le_iff_toInt_le, ← Int32.toInt_inj, true_and, and_true, true_or, or_true, false_or, or_false, not_true_eq_false, not_false_eq_true, false_and, and_false, ne_eq] at *
  all_goals first | omega | (simp; done)
theorem own_pl_s80_17 (p3 : Int32) (hc317 : ¬ ((p3 &&& (7 : Int32)) = (2 : Int32))) (hc364 : ¬ ((p3 &&& (7 : Int32)) < (4 : Int32))) (hc416 : ¬ ((p3 &&& (7 : Int32)) < (3 : Int32))) (hc417 : ¬ ((p3 &&& (7 : Int32)) = (0 : Int32))) (hc418 : ¬ ((p3 &&& (7 : Int32)) = (1 : Int32))) : ¬ ((p3 &&& (7 : Int32)) = (3 : Int32)) := by
  have := rng32 p3
  have := rng32 (p3 &&& (7 : Int32))
  have := Jvm.Kit.i32_mask p3 (7 : Int32) (k := 3) (by decide) (by decide)
  try simp only [own_i32_0, own_i32_1, own_i32_2, own_i32_3, own_i32_4, own_i32_7] at *
  have := own_i32_0
  have := own_i32_1
  have := own_i32_2
  have := own_i32_3
  have := own_i32_4
  have := own_i32_7
  try simp only [Int32.lt_iff_toInt_lt, Int32.le_iff_toInt_le, ← Int32.toInt_inj, true_and, and_true, true_or, or_true, false_or, or_false, not_true_eq_false, not_false_eq_true, false_and, and_false, ne_eq] at *
  all_goals first | omega | (simp; done)
theorem own_s80 {l : Launch} {Z : State} {a0 : Array Value} {p : Program} {e : Env} {below : List Frame} {s : State} {m : MethodId} {meth : Method} {c : Code} {A : Array Value} {vm0 : Vm} {k0 : Nat} {hA h0 : Heap} {n0 : Nat} {T0 : State} {lcs : List Loc} (H : own_Ctx l Z a0 p e below s m meth c A vm0 k0 hA h0 n0 T0 lcs 6 30) (s0 : Slot) (p2 p3 p4 ra rb m6 : Int32) (ro tr : Addr) (kr : ClassId) (zr : Int32) (vr : List Value) (cs : Int32) (em es an ar : Addr) (sf : Value) (P_E_ro : Exa Z h0 ro nn3_) (P_F_ro_value : Fld Z h0 ro nn3_ "value" "[B" (.ref tr)) (P_F_ro_coder : Fld Z h0 ro nn3_ "coder" "B" (.int 0)) (P_V_tr : Arv Z h0 tr kr .byte zr vr (.int 0)) (P_S_COMPACT_STRINGS : Sta Z h0 nn3_ nn16_ "Z" (.int cs)) (P_S_EMPTY : Sta Z h0 nn15_ "EMPTY" nn9_ (.ref em)) (P_S_EMPTY_SET : Sta Z h0 nn15_ nn17_ nn18_ (.ref es)) (P_E_es : Exa Z h0 es nn4_) (P_F_es_size : Fld Z h0 es nn4_ "size" "I" (.int 0)) (P_S_ANONYMOUS : Sta Z h0 nn8_ nn19_ nn20_ (.ref an)) (P_E_an : Exa Z h0 an nn8_) (P_F_an_roles : Fld Z h0 an nn8_ "roles" nn13_ (.ref ar)) (P_E_ar : Exa Z h0 ar nn4_) (P_F_ar_size : Fld Z h0 ar nn4_ "size" "I" (.int 0)) (P_E_em : Exa Z h0 em nn0_) (P_S_SIOOBE_FORMATTER : Sta Z h0 nn21_ nn22_ nn23_ sf) (ne_em_ro : em ≠ ro) (hl_ra : 0 ≤ ra.toInt) (hu_ra : ra.toInt ≤ 255) (hl_rb : 0 ≤ rb.toInt) (hu_rb : rb.toInt ≤ 255) (hcs : ¬ (cs = (0 : Int32))) (hsf : sf.isRef = true) (hrole : own_HR m6 ra rb zr vr) :
    own_FinW p e below s (own_QL hA n0) 64 4352 (T0.setTop (mkF m 80 #[s0, Si p2, Si p3, Si p4, Si ra, Si rb, Si m6, Sr ro, Su, Su, Su, Su, Su, Su, Su, Su, Su, Su, Su, Su, Su, Su, Su, Su] [])) := by
  obtain ⟨hw, hx, hby, hml, hlk, hret, hS, X0, e0, hk, hZ, hown, hEL, C0, Z0, N0, KA⟩ := H
  have K0 := Keep.refl h0 []
  have J1 : ∀ (ga : Int32) (gb : Int32) (gc : Int32) (hl_ga : 0 ≤ ga.toInt) (hu_ga : ga.toInt ≤ 255) (hl_gb : 0 ≤ gb.toInt) (hu_gb : gb.toInt ≤ 255) (hl_gc : 0 ≤ gc.toInt) (hu_gc : gc.toInt ≤ 255), own_FinW p e below s (own_QL hA n0) 64 4352 (T0.setTop (mkF m 110 #[s0, Si p2, Si p3, Si p4, Si ra, Si rb, Si m6, Sr ro, Si ga, Si gb, Si gc, Su, Su, Su, Su, Su, Su, Su, Su, Su, Su, Su, Su, Su] [])) := by
    intro ga gb gc hl_ga hu_ga hl_gb hu_gb hl_gc hu_gc
    obtain ⟨T2, h2, X2, e2, E2, A2, D2, -, st2⟩ := newO X0 hx hZ hown (hw.w 0 rfl) (hw.w 1 rfl) (hw.w 2 rfl) e0 (g := (mkF m 110 #[s0, Si p2, Si p3, Si p4, Si ra, Si rb, Si m6, Sr ro, Si ga, Si gb, Si gc, Su, Su, Su, Su, Su, Su, Su, Su, Su, Su, Su, Su, Su] [])) rfl (hb hby at_110) (by decide) (by decide)
    obtain ⟨b2, g2⟩ : ∃ z, z = h0.size := ⟨_, rfl⟩
    rw [← g2] at A2 D2 st2
    have ne_ro_b2_3 : ro ≠ b2 := Nat.ne_of_lt (Nat.lt_of_lt_of_le P_E_ro.lt (Nat.le_of_eq g2.symm))
    have ne_tr_b2_4 : tr ≠ b2 := Nat.ne_of_lt (Nat.lt_of_lt_of_le P_V_tr.lt (Nat.le_of_eq g2.symm))
    have ne_es_b2_5 : es ≠ b2 := Nat.ne_of_lt (Nat.lt_of_lt_of_le P_E_es.lt (Nat.le_of_eq g2.symm))
    have ne_an_b2_6 : an ≠ b2 := Nat.ne_of_lt (Nat.lt_of_lt_of_le P_E_an.lt (Nat.le_of_eq g2.symm))
    have ne_ar_b2_7 : ar ≠ b2 := Nat.ne_of_lt (Nat.lt_of_lt_of_le P_E_ar.lt (Nat.le_of_eq g2.symm))
    have sz_b2 : h0.size ≤ b2 := Nat.le_trans K0.1 (Nat.le_of_eq g2.symm)
    have g_b2 : n0 ≤ b2 := Nat.le_trans Z0 sz_b2
    have Y_b2 : Safe Z own_EL vm0 h0 b2 := Safe.new (Nat.le_of_eq g2.symm)
    have E_10 := P_E_ro.ext E2
    have F_11 := P_F_ro_value.ext E2
    have F_12 := P_F_ro_coder.ext E2
    have V_13 := P_V_tr.ext E2
    have S_14 := P_S_COMPACT_STRINGS.ext E2
    have S_15 := P_S_EMPTY.ext E2
    have S_16 := P_S_EMPTY_SET.ext E2
    have E_17 := P_E_es.ext E2
    have F_18 := P_F_es_size.ext E2
    have S_19 := P_S_ANONYMOUS.ext E2
    have E_20 := P_E_an.ext E2
    have F_21 := P_F_an_roles.ext E2
    have E_22 := P_E_ar.ext E2
    have F_23 := P_F_ar_size.ext E2
    have E_24 := P_E_em.ext E2
    have S_25 := P_S_SIOOBE_FORMATTER.ext E2
    have Y_26 := Safe.ext E2 C0.1 Y_b2
    have F_coder_b2 : Fld Z h2 b2 nn3_ "coder" "B" (.int 0) := D2 (Or.inr (hw.w 27 rfl)) (ty := .byte) (by decide)
    have F_value_b2 : Fld Z h2 b2 nn3_ "value" "[B" .null := D2 (Or.inr (hw.w 29 rfl)) (ty := (.array .byte)) (by decide)
    have hk := Nat.le_trans hk E2.1
    have C27 := CHr.trans C0 (CHr.ext E2 C0.1)
    have K28 : Keep h0 h2 [] := K0.ext E2
    refine own_go (B := T2.setTop (mkF m 115 #[s0, Si p2, Si p3, Si p4, Si ra, Si rb, Si m6, Sr ro, Si ga, Si gb, Si gc, Su, Su, Su, Su, Su, Su, Su, Su, Su, Su, Su, Su, Su] [.int 1, .ref b2, .ref b2])) (fun _ k => st2 _ (XS.dup X2.here hx rfl (hb hby at_113) rfl rfl (XS.iconst X2.here hx rfl (hb hby at_114) k))) ?_
    obtain ⟨T29, h29, kc29, X29, e29, E29, A29, st29⟩ := newP X2 hx hZ (hw.w 3 rfl) e2 (g := (mkF m 115 #[s0, Si p2, Si p3, Si p4, Si ra, Si rb, Si m6, Sr ro, Si ga, Si gb, Si gc, Su, Su, Su, Su, Su, Su, Su, Su, Su, Su, Su, Su, Su] [.int 1, .ref b2, .ref b2])) rfl (hb hby at_115) rfl (by decide) (cap := 1) (by decide) (by decide) (by decide) (by decide)
    obtain ⟨b29, g29⟩ : ∃ z, z = h2.size := ⟨_, rfl⟩
    rw [← g29] at A29 st29
    have ne_ro_b29_30 : ro ≠ b29 := Nat.ne_of_lt (Nat.lt_of_lt_of_le E_10.lt (Nat.le_of_eq g29.symm))
    have ne_tr_b29_31 : tr ≠ b29 := Nat.ne_of_lt (Nat.lt_of_lt_of_le V_13.lt (Nat.le_of_eq g29.symm))
    have ne_es_b29_32 : es ≠ b29 := Nat.ne_of_lt (Nat.lt_of_lt_of_le E_17.lt (Nat.le_of_eq g29.symm))
    have ne_an_b29_33 : an ≠ b29 := Nat.ne_of_lt (Nat.lt_of_lt_of_le E_20.lt (Nat.le_of_eq g29.symm))
    have ne_ar_b29_34 : ar ≠ b29 := Nat.ne_of_lt (Nat.lt_of_lt_of_le E_22.lt (Nat.le_of_eq g29.symm))
    have ne_b2_b29_36 : b2 ≠ b29 := Nat.ne_of_lt (Nat.lt_of_lt_of_le A2.lt (Nat.le_of_eq g29.symm))
    have sz_b29 : h0.size ≤ b29 := Nat.le_trans K28.1 (Nat.le_of_eq g29.symm)
    have g_b29 : n0 ≤ b29 := Nat.le_trans Z0 sz_b29
    have Y_b29 : Safe Z own_EL vm0 h2 b29 := Safe.new (Nat.le_of_eq g29.symm)
    have E_38 := E_10.ext E29
    have F_39 := F_11.ext E29
    have F_40 := F_12.ext E29
    have V_41 := V_13.ext E29
    have S_42 := S_14.ext E29
    have S_43 := S_15.ext E29
    have S_44 := S_16.ext E29
    have E_45 := E_17.ext E29
    have F_46 := F_18.ext E29
    have S_47 := S_19.ext E29
    have E_48 := E_20.ext E29
    have F_49 := F_21.ext E29
    have E_50 := E_22.ext E29
    have F_51 := F_23.ext E29
    have E_52 := E_24.ext E29
    have S_53 := S_25.ext E29
    have Y_54 := Safe.ext E29 C27.1 Y_26
    have E_55 := A2.ext E29
    have F_56 := F_coder_b2.ext E29
    have F_57 := F_value_b2.ext E29
    have Y_58 := Safe.ext E29 C27.1 Y_b29
    have V_b29 : Arv Z h29 b29 kc29 .char 1 [.int 0] (.int 0) := (Arv.new A29 (by decide)).pad (pad_rep [] (.int 0) 1)
    have hk := Nat.le_trans hk E29.1
    have C59 := CHr.trans C27 (CHr.ext E29 C27.1)
    have K60 : Keep h0 h29 [] := K28.ext E29
    refine own_go (B := T29.setTop (mkF m 121 #[s0, Si p2, Si p3, Si p4, Si ra, Si rb, Si m6, Sr ro, Si ga, Si gb, Si gc, Su, Su, Su, Su, Su, Su, Su, Su, Su, Su, Su, Su, Su] [.int ga, .int 0, .ref b29, .ref b29, .ref b2, .ref b2])) (fun _ k => st29 _ (XS.dup X29.here hx rfl (hb hby at_117) rfl rfl (XS.iconst X29.here hx rfl (hb hby at_118) (XS.iload X29.here hx rfl (hb hby at_119) rfl  k)))) ?_
    obtain ⟨cl61, Ar61, q61, S61, N61n, H61, G61⟩ := id V_b29
    have hin62 : ¬ ((0 : Int32) < 0 ∨ cl61.slots.size ≤ ((0 : Int32)).toNatClampNeg) := inb_of S61 ⟨by decide, by decide⟩
    obtain ⟨T62, h62, X62, e62, W62, st62⟩ := stC X29 hx hZ e29 Ar61 (j := (0 : Int32)) hin62 (g := (mkF m 121 #[s0, Si p2, Si p3, Si p4, Si ra, Si rb, Si m6, Sr ro, Si ga, Si gb, Si gc, Su, Su, Su, Su, Su, Su, Su, Su, Su, Su, Su, Su, Su] [.int ga, .int 0, .ref b29, .ref b29, .ref b2, .ref b2])) rfl rfl (hb hby at_121)
    rw [own_narcid hl_ga (Int.le_trans hu_ga (by decide))] at W62
    have V_b29_62 : Arv Z h62 b29 kc29 .char 1 [.int ga] (.int 0) := Arv.set Ar61 q61 S61 N61n H61 G61 (own_fitsc hl_ga (Int.le_trans hu_ga (by decide))) W62 0 rfl (Nat.le_of_ble_eq_true rfl)
    have E_64 := E_38.wr W62
    have F_65 := F_39.other W62 (Or.inl ne_ro_b29_30)
    have F_66 := F_40.other W62 (Or.inl ne_ro_b29_30)
    have V_67 := V_41.other W62 ne_tr_b29_31
    have S_68 := S_42.wr W62
    have S_69 := S_43.wr W62
    have S_70 := S_44.wr W62
    have E_71 := E_45.wr W62
    have F_72 := F_46.other W62 (Or.inl ne_es_b29_32)
    have S_73 := S_47.wr W62
    have E_74 := E_48.wr W62
    have F_75 := F_49.other W62 (Or.inl ne_an_b29_33)
    have E_76 := E_50.wr W62
    have F_77 := F_51.other W62 (Or.inl ne_ar_b29_34)
    have E_78 := E_52.wr W62
    have S_79 := S_53.wr W62
    have Y_80 := Safe.wr W62 Y_58 C59.1 Y_54
    have E_81 := E_55.wr W62
    have F_82 := F_56.other W62 (Or.inl ne_b2_b29_36)
    have F_83 := F_57.other W62 (Or.inl ne_b2_b29_36)
    have hk := Nat.le_trans hk (Keep.of_wr W62).1
    have C86 := CHr.trans C59 (CHr.wr W62 Y_58 C59.1)
    have K87 : Keep h0 h62 [] := K60.wr W62 (Or.inr sz_b29)
    have N62 := Fr.snoc X62 N0 g_b29
    refine own_go (B := T62.setTop (mkF m 122 #[s0, Si p2, Si p3, Si p4, Si ra, Si rb, Si m6, Sr ro, Si ga, Si gb, Si gc, Su, Su, Su, Su, Su, Su, Su, Su, Su, Su, Su, Su, Su] [.ref b29, .ref b2, .ref b2])) (fun _ k => st62 _ k) ?_
    refine own_cN (own_str1 l Z a0 hw [] b2 b29 kc29 ga cs h62 n0 (Nat.le_trans Z0 K87.1) E_81 F_83 F_82 V_b29_62 g_b2 ne_b2_b29_36 S_68 hcs hu_ga) X62 hx hZ hown (hw.w 4 rfl) (hw.w 5 rfl) (hw.w 2 rfl) (hw.w 6 rfl) e62 rfl rfl (by rw [hml]; rfl) (rest := [.ref b2]) (lenOf own_pd44 rfl) rfl (hb hby at_122) (W := 1) (show 2 * 0 + _ = _ from rfl) (by decide) (by decide) rfl ?_
    rintro _ T88 L88 X88 ⟨t_88, kt_88, rfl, N88q, K88q, Q88_0, Q88_1, Q88_2, Q88_3, x88_0⟩
    have N88 := Fr.app N62 N88q
    have hk := Nat.le_trans hk K88q.1
    have E_98 := E_64.keep K88q
    have F_99 := F_65.keep K88q (ninS ne_ro_b2_3 nin0)
    have F_100 := F_66.keep K88q (ninS ne_ro_b2_3 nin0)
    have V_101 := V_67.keep K88q (ninS ne_tr_b2_4 nin0)
    have S_102 := own_Sta_keep S_68 K88q (allS (own_plain E_81) all0)
    have S_103 := own_Sta_keep S_69 K88q (allS (own_plain E_81) all0)
    have S_104 := own_Sta_keep S_70 K88q (allS (own_plain E_81) all0)
    have E_105 := E_71.keep K88q
    have F_106 := F_72.keep K88q (ninS ne_es_b2_5 nin0)
    have S_107 := own_Sta_keep S_73 K88q (allS (own_plain E_81) all0)
    have E_108 := E_74.keep K88q
    have F_109 := F_75.keep K88q (ninS ne_an_b2_6 nin0)
    have E_110 := E_76.keep K88q
    have F_111 := F_77.keep K88q (ninS ne_ar_b2_7 nin0)
    have E_112 := E_78.keep K88q
    have S_113 := own_Sta_keep S_79 K88q (allS (own_plain E_81) all0)
    have C121 := CHr.trans C86 (CHr.keep K88q (allS Y_80 all0) C86.1)
    have K122 : Keep h0 T88.heap [] := K87.trans K88q (allS (Or.inr sz_b2) all0)
    refine own_go (B := T88.setTop (mkF m 127 #[s0, Si p2, Si p3, Si p4, Si ra, Si rb, Si m6, Sr ro, Si ga, Si gb, Si gc, Sr b2, Su, Su, Su, Su, Su, Su, Su, Su, Su, Su, Su, Su] [])) (fun _ k => XS.astore X88.here hx rfl (hb hby at_125) rfl rfl (l' := #[s0, Si p2, Si p3, Si p4, Si ra, Si rb, Si m6, Sr ro, Si ga, Si gb, Si gc, Sr b2, Su, Su, Su, Su, Su, Su, Su, Su, Su, Su, Su, Su]) rfl k) ?_
    obtain ⟨T123, h123, X123, e123, E123, A123, D123, -, st123⟩ := newO X88 hx hZ hown (hw.w 0 rfl) (hw.w 1 rfl) (hw.w 2 rfl) rfl (g := (mkF m 127 #[s0, Si p2, Si p3, Si p4, Si ra, Si rb, Si m6, Sr ro, Si ga, Si gb, Si gc, Sr b2, Su, Su, Su, Su, Su, Su, Su, Su, Su, Su, Su, Su] [])) rfl (hb hby at_127) (by decide) (by decide)
    obtain ⟨b123, g123⟩ : ∃ z, z = T88.heap.size := ⟨_, rfl⟩
    rw [← g123] at A123 D123 st123
    have ne_ro_b123_124 : ro ≠ b123 := Nat.ne_of_lt (Nat.lt_of_lt_of_le E_98.lt (Nat.le_of_eq g123.symm))
    have ne_tr_b123_125 : tr ≠ b123 := Nat.ne_of_lt (Nat.lt_of_lt_of_le V_101.lt (Nat.le_of_eq g123.symm))
    have ne_es_b123_126 : es ≠ b123 := Nat.ne_of_lt (Nat.lt_of_lt_of_le E_105.lt (Nat.le_of_eq g123.symm))
    have ne_an_b123_127 : an ≠ b123 := Nat.ne_of_lt (Nat.lt_of_lt_of_le E_108.lt (Nat.le_of_eq g123.symm))
    have ne_ar_b123_128 : ar ≠ b123 := Nat.ne_of_lt (Nat.lt_of_lt_of_le E_110.lt (Nat.le_of_eq g123.symm))
    have ne_b2_b123_131 : b2 ≠ b123 := Nat.ne_of_lt (Nat.lt_of_lt_of_le Q88_0.lt (Nat.le_of_eq g123.symm))
    have ne_t_88_b123_132 : t_88 ≠ b123 := Nat.ne_of_lt (Nat.lt_of_lt_of_le Q88_3.lt (Nat.le_of_eq g123.symm))
    have sz_b123 : h0.size ≤ b123 := Nat.le_trans K122.1 (Nat.le_of_eq g123.symm)
    have g_b123 : n0 ≤ b123 := Nat.le_trans Z0 sz_b123
    have Y_b123 : Safe Z own_EL vm0 T88.heap b123 := Safe.new (Nat.le_of_eq g123.symm)
    have E_134 := E_98.ext E123
    have F_135 := F_99.ext E123
    have F_136 := F_100.ext E123
    have V_137 := V_101.ext E123
    have S_138 := S_102.ext E123
    have S_139 := S_103.ext E123
    have S_140 := S_104.ext E123
    have E_141 := E_105.ext E123
    have F_142 := F_106.ext E123
    have S_143 := S_107.ext E123
    have E_144 := E_108.ext E123
    have F_145 := F_109.ext E123
    have E_146 := E_110.ext E123
    have F_147 := F_111.ext E123
    have E_148 := E_112.ext E123
    have S_149 := S_113.ext E123
    have E_153 := Q88_0.ext E123
    have F_154 := Q88_1.ext E123
    have F_155 := Q88_2.ext E123
    have V_156 := Q88_3.ext E123
    have Y_158 := Safe.ext E123 C121.1 Y_b123
    have F_coder_b123 : Fld Z h123 b123 nn3_ "coder" "B" (.int 0) := D123 (Or.inr (hw.w 27 rfl)) (ty := .byte) (by decide)
    have F_value_b123 : Fld Z h123 b123 nn3_ "value" "[B" .null := D123 (Or.inr (hw.w 29 rfl)) (ty := (.array .byte)) (by decide)
    have hk := Nat.le_trans hk E123.1
    have C159 := CHr.trans C121 (CHr.ext E123 C121.1)
    have K160 : Keep h0 h123 [] := K122.ext E123
    refine own_go (B := T123.setTop (mkF m 132 #[s0, Si p2, Si p3, Si p4, Si ra, Si rb, Si m6, Sr ro, Si ga, Si gb, Si gc, Sr b2, Su, Su, Su, Su, Su, Su, Su, Su, Su, Su, Su, Su] [.int 2, .ref b123, .ref b123])) (fun _ k => st123 _ (XS.dup X123.here hx rfl (hb hby at_130) rfl rfl (XS.iconst X123.here hx rfl (hb hby at_131) k))) ?_
    obtain ⟨T161, h161, kc161, X161, e161, E161, A161, st161⟩ := newP X123 hx hZ (hw.w 3 rfl) e123 (g := (mkF m 132 #[s0, Si p2, Si p3, Si p4, Si ra, Si rb, Si m6, Sr ro, Si ga, Si gb, Si gc, Sr b2, Su, Su, Su, Su, Su, Su, Su, Su, Su, Su, Su, Su] [.int 2, .ref b123, .ref b123])) rfl (hb hby at_132) rfl (by decide) (cap := 2) (by decide) (by decide) (by decide) (by decide)
    obtain ⟨b161, g161⟩ : ∃ z, z = h123.size := ⟨_, rfl⟩
    rw [← g161] at A161 st161
    have ne_ro_b161_162 : ro ≠ b161 := Nat.ne_of_lt (Nat.lt_of_lt_of_le E_134.lt (Nat.le_of_eq g161.symm))
    have ne_tr_b161_163 : tr ≠ b161 := Nat.ne_of_lt (Nat.lt_of_lt_of_le V_137.lt (Nat.le_of_eq g161.symm))
    have ne_es_b161_164 : es ≠ b161 := Nat.ne_of_lt (Nat.lt_of_lt_of_le E_141.lt (Nat.le_of_eq g161.symm))
    have ne_an_b161_165 : an ≠ b161 := Nat.ne_of_lt (Nat.lt_of_lt_of_le E_144.lt (Nat.le_of_eq g161.symm))
    have ne_ar_b161_166 : ar ≠ b161 := Nat.ne_of_lt (Nat.lt_of_lt_of_le E_146.lt (Nat.le_of_eq g161.symm))
    have ne_b2_b161_169 : b2 ≠ b161 := Nat.ne_of_lt (Nat.lt_of_lt_of_le E_153.lt (Nat.le_of_eq g161.symm))
    have ne_t_88_b161_170 : t_88 ≠ b161 := Nat.ne_of_lt (Nat.lt_of_lt_of_le V_156.lt (Nat.le_of_eq g161.symm))
    have ne_b123_b161_171 : b123 ≠ b161 := Nat.ne_of_lt (Nat.lt_of_lt_of_le A123.lt (Nat.le_of_eq g161.symm))
    have sz_b161 : h0.size ≤ b161 := Nat.le_trans K160.1 (Nat.le_of_eq g161.symm)
    have g_b161 : n0 ≤ b161 := Nat.le_trans Z0 sz_b161
    have Y_b161 : Safe Z own_EL vm0 h123 b161 := Safe.new (Nat.le_of_eq g161.symm)
    have E_173 := E_134.ext E161
    have F_174 := F_135.ext E161
    have F_175 := F_136.ext E161
    have V_176 := V_137.ext E161
    have S_177 := S_138.ext E161
    have S_178 := S_139.ext E161
    have S_179 := S_140.ext E161
    have E_180 := E_141.ext E161
    have F_181 := F_142.ext E161
    have S_182 := S_143.ext E161
    have E_183 := E_144.ext E161
    have F_184 := F_145.ext E161
    have E_185 := E_146.ext E161
    have F_186 := F_147.ext E161
    have E_187 := E_148.ext E161
    have S_188 := S_149.ext E161
    have E_192 := E_153.ext E161
    have F_193 := F_154.ext E161
    have F_194 := F_155.ext E161
    have V_195 := V_156.ext E161
    have Y_197 := Safe.ext E161 C159.1 Y_158
    have E_198 := A123.ext E161
    have F_199 := F_coder_b123.ext E161
    have F_200 := F_value_b123.ext E161
    have Y_201 := Safe.ext E161 C159.1 Y_b161
    have V_b161 : Arv Z h161 b161 kc161 .char 2 [.int 0, .int 0] (.int 0) := (Arv.new A161 (by decide)).pad (pad_rep [] (.int 0) 2)
    have hk := Nat.le_trans hk E161.1
    have C202 := CHr.trans C159 (CHr.ext E161 C159.1)
    have K203 : Keep h0 h161 [] := K160.ext E161
    refine own_go (B := T161.setTop (mkF m 138 #[s0, Si p2, Si p3, Si p4, Si ra, Si rb, Si m6, Sr ro, Si ga, Si gb, Si gc, Sr b2, Su, Su, Su, Su, Su, Su, Su, Su, Su, Su, Su, Su] [.int gb, .int 0, .ref b161, .ref b161, .ref b123, .ref b123])) (fun _ k => st161 _ (XS.dup X161.here hx rfl (hb hby at_134) rfl rfl (XS.iconst X161.here hx rfl (hb hby at_135) (XS.iload X161.here hx rfl (hb hby at_136) rfl  k)))) ?_
    obtain ⟨cl204, Ar204, q204, S204, N204n, H204, G204⟩ := id V_b161
    have hin205 : ¬ ((0 : Int32) < 0 ∨ cl204.slots.size ≤ ((0 : Int32)).toNatClampNeg) := inb_of S204 ⟨by decide, by decide⟩
    obtain ⟨T205, h205, X205, e205, W205, st205⟩ := stC X161 hx hZ e161 Ar204 (j := (0 : Int32)) hin205 (g := (mkF m 138 #[s0, Si p2, Si p3, Si p4, Si ra, Si rb, Si m6, Sr ro, Si ga, Si gb, Si gc, Sr b2, Su, Su, Su, Su, Su, Su, Su, Su, Su, Su, Su, Su] [.int gb, .int 0, .ref b161, .ref b161, .ref b123, .ref b123])) rfl rfl (hb hby at_138)
    rw [own_narcid hl_gb (Int.le_trans hu_gb (by decide))] at W205
    have V_b161_205 : Arv Z h205 b161 kc161 .char 2 [.int gb, .int 0] (.int 0) := Arv.set Ar204 q204 S204 N204n H204 G204 (own_fitsc hl_gb (Int.le_trans hu_gb (by decide))) W205 0 rfl (Nat.le_of_ble_eq_true rfl)
    have E_207 := E_173.wr W205
    have F_208 := F_174.other W205 (Or.inl ne_ro_b161_162)
    have F_209 := F_175.other W205 (Or.inl ne_ro_b161_162)
    have V_210 := V_176.other W205 ne_tr_b161_163
    have S_211 := S_177.wr W205
    have S_212 := S_178.wr W205
    have S_213 := S_179.wr W205
    have E_214 := E_180.wr W205
    have F_215 := F_181.other W205 (Or.inl ne_es_b161_164)
    have S_216 := S_182.wr W205
    have E_217 := E_183.wr W205
    have F_218 := F_184.other W205 (Or.inl ne_an_b161_165)
    have E_219 := E_185.wr W205
    have F_220 := F_186.other W205 (Or.inl ne_ar_b161_166)
    have E_221 := E_187.wr W205
    have S_222 := S_188.wr W205
    have E_226 := E_192.wr W205
    have F_227 := F_193.other W205 (Or.inl ne_b2_b161_169)
    have F_228 := F_194.other W205 (Or.inl ne_b2_b161_169)
    have V_229 := V_195.other W205 ne_t_88_b161_170
    have Y_231 := Safe.wr W205 Y_201 C202.1 Y_197
    have E_232 := E_198.wr W205
    have F_233 := F_199.other W205 (Or.inl ne_b123_b161_171)
    have F_234 := F_200.other W205 (Or.inl ne_b123_b161_171)
    have Y_235 := Safe.wr W205 Y_201 C202.1 Y_201
    have hk := Nat.le_trans hk (Keep.of_wr W205).1
    have C237 := CHr.trans C202 (CHr.wr W205 Y_201 C202.1)
    have K238 : Keep h0 h205 [] := K203.wr W205 (Or.inr sz_b161)
    have N205 := Fr.snoc X205 N88 g_b161
    refine own_go (B := T205.setTop (mkF m 143 #[s0, Si p2, Si p3, Si p4, Si ra, Si rb, Si m6, Sr ro, Si ga, Si gb, Si gc, Sr b2, Su, Su, Su, Su, Su, Su, Su, Su, Su, Su, Su, Su] [.int gc, .int 1, .ref b161, .ref b161, .ref b123, .ref b123])) (fun _ k => st205 _ (XS.dup X205.here hx rfl (hb hby at_139) rfl rfl (XS.iconst X205.here hx rfl (hb hby at_140) (XS.iload X205.here hx rfl (hb hby at_141) rfl  k)))) ?_
    obtain ⟨cl239, Ar239, q239, S239, N239n, H239, G239⟩ := id V_b161_205
    have hin240 : ¬ ((1 : Int32) < 0 ∨ cl239.slots.size ≤ ((1 : Int32)).toNatClampNeg) := inb_of S239 ⟨by decide, by decide⟩
    obtain ⟨T240, h240, X240, e240, W240, st240⟩ := stC X205 hx hZ e205 Ar239 (j := (1 : Int32)) hin240 (g := (mkF m 143 #[s0, Si p2, Si p3, Si p4, Si ra, Si rb, Si m6, Sr ro, Si ga, Si gb, Si gc, Sr b2, Su, Su, Su, Su, Su, Su, Su, Su, Su, Su, Su, Su] [.int gc, .int 1, .ref b161, .ref b161, .ref b123, .ref b123])) rfl rfl (hb hby at_143)
    rw [own_narcid hl_gc (Int.le_trans hu_gc (by decide))] at W240
    have V_b161_240 : Arv Z h240 b161 kc161 .char 2 [.int gb, .int gc] (.int 0) := Arv.set Ar239 q239 S239 N239n H239 G239 (own_fitsc hl_gc (Int.le_trans hu_gc (by decide))) W240 1 rfl (Nat.le_of_ble_eq_true rfl)
    have E_242 := E_207.wr W240
    have F_243 := F_208.other W240 (Or.inl ne_ro_b161_162)
    have F_244 := F_209.other W240 (Or.inl ne_ro_b161_162)
    have V_245 := V_210.other W240 ne_tr_b161_163
    have S_246 := S_211.wr W240
    have S_247 := S_212.wr W240
    have S_248 := S_213.wr W240
    have E_249 := E_214.wr W240
    have F_250 := F_215.other W240 (Or.inl ne_es_b161_164)
    have S_251 := S_216.wr W240
    have E_252 := E_217.wr W240
    have F_253 := F_218.other W240 (Or.inl ne_an_b161_165)
    have E_254 := E_219.wr W240
    have F_255 := F_220.other W240 (Or.inl ne_ar_b161_166)
    have E_256 := E_221.wr W240
    have S_257 := S_222.wr W240
    have E_261 := E_226.wr W240
    have F_262 := F_227.other W240 (Or.inl ne_b2_b161_169)
    have F_263 := F_228.other W240 (Or.inl ne_b2_b161_169)
    have V_264 := V_229.other W240 ne_t_88_b161_170
    have Y_266 := Safe.wr W240 Y_235 C237.1 Y_231
    have E_267 := E_232.wr W240
    have F_268 := F_233.other W240 (Or.inl ne_b123_b161_171)
    have F_269 := F_234.other W240 (Or.inl ne_b123_b161_171)
    have hk := Nat.le_trans hk (Keep.of_wr W240).1
    have C272 := CHr.trans C237 (CHr.wr W240 Y_235 C237.1)
    have K273 : Keep h0 h240 [] := K238.wr W240 (Or.inr sz_b161)
    have N240 := Fr.snoc X240 N205 g_b161
    refine own_go (B := T240.setTop (mkF m 144 #[s0, Si p2, Si p3, Si p4, Si ra, Si rb, Si m6, Sr ro, Si ga, Si gb, Si gc, Sr b2, Su, Su, Su, Su, Su, Su, Su, Su, Su, Su, Su, Su] [.ref b161, .ref b123, .ref b123])) (fun _ k => st240 _ k) ?_
    refine own_cN (own_str2 l Z a0 hw [] b123 b161 kc161 gb gc cs h240 n0 (Nat.le_trans Z0 K273.1) E_267 F_269 F_268 V_b161_240 g_b123 ne_b123_b161_171 S_246 hcs hu_gb hu_gc) X240 hx hZ hown (hw.w 4 rfl) (hw.w 5 rfl) (hw.w 2 rfl) (hw.w 6 rfl) e240 rfl rfl (by rw [hml]; rfl) (rest := [.ref b123]) (lenOf own_pd44 rfl) rfl (hb hby at_144) (W := 1) (show 2 * 0 + _ = _ from rfl) (by decide) (by decide) rfl ?_
    rintro _ T274 L274 X274 ⟨t_274, kt_274, rfl, N274q, K274q, Q274_0, Q274_1, Q274_2, Q274_3, x274_0⟩
    have N274 := Fr.app N240 N274q
    have hk := Nat.le_trans hk K274q.1
    have E_286 := E_242.keep K274q
    have F_287 := F_243.keep K274q (ninS ne_ro_b123_124 nin0)
    have F_288 := F_244.keep K274q (ninS ne_ro_b123_124 nin0)
    have V_289 := V_245.keep K274q (ninS ne_tr_b123_125 nin0)
    have S_290 := own_Sta_keep S_246 K274q (allS (own_plain E_267) all0)
    have S_291 := own_Sta_keep S_247 K274q (allS (own_plain E_267) all0)
    have S_292 := own_Sta_keep S_248 K274q (allS (own_plain E_267) all0)
    have E_293 := E_249.keep K274q
    have F_294 := F_250.keep K274q (ninS ne_es_b123_126 nin0)
    have S_295 := own_Sta_keep S_251 K274q (allS (own_plain E_267) all0)
    have E_296 := E_252.keep K274q
    have F_297 := F_253.keep K274q (ninS ne_an_b123_127 nin0)
    have E_298 := E_254.keep K274q
    have F_299 := F_255.keep K274q (ninS ne_ar_b123_128 nin0)
    have E_300 := E_256.keep K274q
    have S_301 := own_Sta_keep S_257 K274q (allS (own_plain E_267) all0)
    have E_303 := E_261.keep K274q
    have F_304 := F_262.keep K274q (ninS ne_b2_b123_131 nin0)
    have F_305 := F_263.keep K274q (ninS ne_b2_b123_131 nin0)
    have V_306 := V_264.keep K274q (ninS ne_t_88_b123_132 nin0)
    have C315 := CHr.trans C272 (CHr.keep K274q (allS Y_266 all0) C272.1)
    have K316 : Keep h0 T274.heap [] := K273.trans K274q (allS (Or.inr sz_b123) all0)
    refine own_go (B := T274.setTop (mkF m 158 #[s0, Si p2, Si p3, Si p4, Si ra, Si rb, Si m6, Sr ro, Si ga, Si gb, Si gc, Sr b2, Sr b123, Si (p3 &&& (7 : Int32)), Su, Su, Su, Su, Su, Su, Su, Su, Su, Su] [.int 2, (.int (p3 &&& (7 : Int32)))])) (fun _ k => XS.astore X274.here hx rfl (hb hby at_147) rfl rfl (l' := #[s0, Si p2, Si p3, Si p4, Si ra, Si rb, Si m6, Sr ro, Si ga, Si gb, Si gc, Sr b2, Sr b123, Su, Su, Su, Su, Su, Su, Su, Su, Su, Su, Su]) rfl (XS.iloadN X274.here hx rfl (hb hby at_149) rfl (XS.bipush X274.here hx rfl (hb hby at_150) (XS.iand X274.here hx rfl (hb hby at_152) rfl (XS.istore X274.here hx rfl (hb hby at_153) rfl (l' := #[s0, Si p2, Si p3, Si p4, Si ra, Si rb, Si m6, Sr ro, Si ga, Si gb, Si gc, Sr b2, Sr b123, Si (p3 &&& (7 : Int32)), Su, Su, Su, Su, Su, Su, Su, Su, Su, Su]) rfl (XS.iload X274.here hx rfl (hb hby at_155) rfl (XS.iconst X274.here hx rfl (hb hby at_157) k))))))) ?_
    by_cases hc317 : (p3 &&& (7 : Int32)) = (2 : Int32)
    · skip
      refine own_go (B := T274.setTop (mkF m 177 #[s0, Si p2, Si p3, Si p4, Si ra, Si rb, Si m6, Sr ro, Si ga, Si gb, Si gc, Sr b2, Sr b123, Si (p3 &&& (7 : Int32)), Si 1, Su, Su, Su, Su, Su, Su, Su, Su, Su] [.int 3, (.int (p3 &&& (7 : Int32)))])) (fun _ k => XS.icmpYes X274.here hx rfl (pc0 := 158) (pc' := 167) rfl (hb hby at_158) rfl (teq hc317).1 (by decide) (by decide) (XS.iconst X274.here hx rfl (hb hby at_167) (XS.goto X274.here hx rfl (pc0 := 168) (pc' := 172) rfl (hb hby at_168) (by decide) (by decide) (XS.istore X274.here hx rfl (hb hby at_172) rfl (l' := #[s0, Si p2, Si p3, Si p4, Si ra, Si rb, Si m6, Sr ro, Si ga, Si gb, Si gc, Sr b2, Sr b123, Si (p3 &&& (7 : Int32)), Si 1, Su, Su, Su, Su, Su, Su, Su, Su, Su]) rfl (XS.iload X274.here hx rfl (hb hby at_174) rfl (XS.iconst X274.here hx rfl (hb hby at_176) k)))))) ?_
      have hc318 : (p3 &&& (7 : Int32)) < (3 : Int32) := (own_pl_s80_7 p3 hc317)
      refine own_go (B := T274.setTop (mkF m 189 #[s0, Si p2, Si p3, Si p4, Si ra, Si rb, Si m6, Sr ro, Si ga, Si gb, Si gc, Sr b2, Sr b123, Si (p3 &&& (7 : Int32)), Si 1, Si 0, Su, Su, Su, Su, Su, Su, Su, Su] [(.int (p3 &&& (7 : Int32)))])) (fun _ k => XS.icmpYes X274.here hx rfl (pc0 := 177) (pc' := 184) rfl (hb hby at_177) rfl (tlt hc318).1 (by decide) (by decide) (XS.iconst X274.here hx rfl (hb hby at_184) (XS.istore X274.here hx rfl (hb hby at_185) rfl (l' := #[s0, Si p2, Si p3, Si p4, Si ra, Si rb, Si m6, Sr ro, Si ga, Si gb, Si gc, Sr b2, Sr b123, Si (p3 &&& (7 : Int32)), Si 1, Si 0, Su, Su, Su, Su, Su, Su, Su, Su]) rfl (XS.iload X274.here hx rfl (hb hby at_187) rfl  k)))) ?_
      have hc319 : ¬ ((p3 &&& (7 : Int32)) = (0 : Int32)) := (own_pl_s80_8 p3 hc317 hc318)
      refine own_go (B := T274.setTop (mkF m 203 #[s0, Si p2, Si p3, Si p4, Si ra, Si rb, Si m6, Sr ro, Si ga, Si gb, Si gc, Sr b2, Sr b123, Si (p3 &&& (7 : Int32)), Si 1, Si 0, Su, Su, Su, Su, Su, Su, Su, Su] [.int 1, (.int (p3 &&& (7 : Int32)))])) (fun _ k => XS.ifYes X274.here hx rfl (pc0 := 189) (pc' := 200) rfl (hb hby at_189) rfl ((if0 _ _).trans (feq hc319).2) (by decide) (by decide) (XS.iload X274.here hx rfl (hb hby at_200) rfl (XS.iconst X274.here hx rfl (hb hby at_202) k))) ?_
      have hc320 : ¬ ((p3 &&& (7 : Int32)) = (1 : Int32)) := (own_pl_s80_9 p3 hc317 hc318 hc319)
      refine own_go (B := T274.setTop (mkF m 222 #[s0, Si p2, Si p3, Si p4, Si ra, Si rb, Si m6, Sr ro, Si ga, Si gb, Si gc, Sr b2, Sr b123, Si (p3 &&& (7 : Int32)), Si 1, Si 0, Su, Su, Su, Su, Su, Su, Su, Su] [.ref b2])) (fun _ k => XS.icmpYes X274.here hx rfl (pc0 := 203) (pc' := 214) rfl (hb hby at_203) rfl (feq hc320).2 (by decide) (by decide) (XS.iload X274.here hx rfl (hb hby at_214) rfl (XS.iconst X274.here hx rfl (hb hby at_216) (XS.icmpNo X274.here hx rfl (hb hby at_217) rfl (teq hc317).2 (XS.aload X274.here hx rfl (hb hby at_220) rfl rfl k))))) ?_
      refine own_cS (own_rm7 l Z a0 hw [] b2 em T274.heap n0 (Nat.le_trans Z0 K316.1) S_291) X274 hx hZ hown (hw.w 30 rfl) (hw.w 31 rfl) (hw.w 32 rfl) (hw.w 33 rfl) rfl rfl rfl (by rw [hml]; rfl) (rest := []) (lenOf own_pd46 rfl) rfl (hb hby at_222) (W := 0) (show 2 * 0 + _ = _ from rfl) (by decide) (by decide) ?_
      rintro _ T321 L321 X321 ⟨b_321, rfl, N321q, K321q, Q321_0, Q321_1, Q321_2, x321_0⟩
      have N321 := Fr.app N274 N321q
      have hk := Nat.le_trans hk K321q.1
      have E_333 := E_286.keep K321q
      have F_334 := F_287.keep K321q nin0
      have F_335 := F_288.keep K321q nin0
      have V_336 := V_289.keep K321q nin0
      have S_337 := own_Sta_keep S_290 K321q all0
      have S_338 := own_Sta_keep S_291 K321q all0
      have E_347 := E_300.keep K321q
      have S_348 := own_Sta_keep S_301 K321q all0
      have E_350 := E_303.keep K321q
      have F_351 := F_304.keep K321q nin0
      have F_352 := F_305.keep K321q nin0
      have V_353 := V_306.keep K321q nin0
      have C362 := CHr.trans C315 (CHr.keep K321q all0 C315.1)
      have K363 : Keep h0 T321.heap [] := K316.trans K321q all0
      refine own_go (B := T321.setTop (mkF m 255 #[s0, Si p2, Si p3, Si p4, Si ra, Si rb, Si m6, Sr ro, Si ga, Si gb, Si gc, Sr b2, Sr b123, Si (p3 &&& (7 : Int32)), Si 1, Si 0, Su, Sr b_321, Su, Su, Su, Su, Su, Su] [])) (fun _ k => XS.astore X321.here hx rfl (hb hby at_225) rfl rfl (l' := #[s0, Si p2, Si p3, Si p4, Si ra, Si rb, Si m6, Sr ro, Si ga, Si gb, Si gc, Sr b2, Sr b123, Si (p3 &&& (7 : Int32)), Si 1, Si 0, Su, Sr b_321, Su, Su, Su, Su, Su, Su]) rfl (XS.goto X321.here hx rfl (pc0 := 227) (pc' := 255) rfl (hb hby at_227) (by decide) (by decide) k)) ?_
      obtain ⟨r, hCon, hEx⟩ : ∃ r : Int32, (∀ h', Keep T321.heap h' [] → own_MF l own_y57 (Jvm.Cond.code own_y57 jdk_101_method_5_code 2 (some .boolean)) [] { frames := 3, cells := 0, slots := 0, locals := 100 } #[.ref b_321, .ref ro] Z h' (fun v h L => v = some (.int r) ∧ Fr n0 L ∧ h = h')) ∧ own_Exp m6 (1 : Int32) (0 : Int32) ra rb ga gb gc r := by
        rcases hrole with ⟨rfl, rfl, rfl⟩ | ⟨rfl, rfl, rfl⟩
        · skip
          exact ⟨own_b ((ra.toInt8.toInt32) = (ga.toInt8.toInt32)), fun h' K' => own_cont1_1 l Z a0 hw [] b_321 ro tr kr b2 t_88 kt_88 em (ra.toInt8.toInt32) (ga.toInt8.toInt32) cs h' n0 (Nat.le_trans Z0 (Nat.le_trans K363.1 K'.1)) (Q321_0.keep K') (Q321_1.keep K' nin0) (Q321_2.keep K' nin0) (E_350.keep K') (F_351.keep K' nin0) (F_352.keep K' nin0) (V_353.keep K' nin0) (E_333.keep K') (F_334.keep K' nin0) (F_335.keep K' nin0) (V_336.keep K' nin0) (E_347.keep K') ne_ro_b2_3 ne_em_ro (own_Sta_keep S_337 K' all0) hcs, own_ex11 hl_ra hu_ra hl_ga hu_ga⟩
        · skip
          exact ⟨0, fun h' K' => own_cont2_1 l Z a0 hw [] b_321 ro tr kr b2 t_88 kt_88 em (ra.toInt8.toInt32) (rb.toInt8.toInt32) (ga.toInt8.toInt32) cs h' n0 (Nat.le_trans Z0 (Nat.le_trans K363.1 K'.1)) (Q321_0.keep K') (Q321_1.keep K' nin0) (Q321_2.keep K' nin0) (E_350.keep K') (F_351.keep K' nin0) (F_352.keep K' nin0) (V_353.keep K' nin0) (E_333.keep K') (F_334.keep K' nin0) (F_335.keep K' nin0) (V_336.keep K' nin0) (E_347.keep K') ne_ro_b2_3 ne_em_ro (own_Sta_keep S_337 K' all0) hcs, own_ex20⟩
      exact own_k12 ⟨hw, hx, hby, hml, hlk, hret, hS, X321.mono (by decide) (by decide), rfl, hk, hZ, hown, hEL, C362, Nat.le_trans Z0 K363.1, N321, KA.trans K363 all0⟩ s0 (Si p2) (Si p3) p4 ra rb m6 ro ga gb gc (Sr b2) (Sr b123) (Si (p3 &&& (7 : Int32))) (1 : Int32) (0 : Int32) b_321 tr kr zr vr em cs sf r E_333 F_334 F_335 V_336 Q321_0 S_337 S_338 S_348 hCon hl_ra hu_ra hl_rb hu_rb hcs hsf hEx hrole
    · skip
      refine own_go (B := T274.setTop (mkF m 164 #[s0, Si p2, Si p3, Si p4, Si ra, Si rb, Si m6, Sr ro, Si ga, Si gb, Si gc, Sr b2, Sr b123, Si (p3 &&& (7 : Int32)), Su, Su, Su, Su, Su, Su, Su, Su, Su, Su] [.int 4, (.int (p3 &&& (7 : Int32)))])) (fun _ k => XS.icmpNo X274.here hx rfl (hb hby at_158) rfl (feq hc317).1 (XS.iload X274.here hx rfl (hb hby at_161) rfl (XS.iconst X274.here hx rfl (hb hby at_163) k))) ?_
      by_cases hc364 : (p3 &&& (7 : Int32)) < (4 : Int32)
      · skip
        refine own_go (B := T274.setTop (mkF m 177 #[s0, Si p2, Si p3, Si p4, Si ra, Si rb, Si m6, Sr ro, Si ga, Si gb, Si gc, Sr b2, Sr b123, Si (p3 &&& (7 : Int32)), Si 0, Su, Su, Su, Su, Su, Su, Su, Su, Su] [.int 3, (.int (p3 &&& (7 : Int32)))])) (fun _ k => XS.icmpYes X274.here hx rfl (pc0 := 164) (pc' := 171) rfl (hb hby at_164) rfl (tlt hc364).1 (by decide) (by decide) (XS.iconst X274.here hx rfl (hb hby at_171) (XS.istore X274.here hx rfl (hb hby at_172) rfl (l' := #[s0, Si p2, Si p3, Si p4, Si ra, Si rb, Si m6, Sr ro, Si ga, Si gb, Si gc, Sr b2, Sr b123, Si (p3 &&& (7 : Int32)), Si 0, Su, Su, Su, Su, Su, Su, Su, Su, Su]) rfl (XS.iload X274.here hx rfl (hb hby at_174) rfl (XS.iconst X274.here hx rfl (hb hby at_176) k))))) ?_
        by_cases hc365 : (p3 &&& (7 : Int32)) < (3 : Int32)
        · skip
          refine own_go (B := T274.setTop (mkF m 189 #[s0, Si p2, Si p3, Si p4, Si ra, Si rb, Si m6, Sr ro, Si ga, Si gb, Si gc, Sr b2, Sr b123, Si (p3 &&& (7 : Int32)), Si 0, Si 0, Su, Su, Su, Su, Su, Su, Su, Su] [(.int (p3 &&& (7 : Int32)))])) (fun _ k => XS.icmpYes X274.here hx rfl (pc0 := 177) (pc' := 184) rfl (hb hby at_177) rfl (tlt hc365).1 (by decide) (by decide) (XS.iconst X274.here hx rfl (hb hby at_184) (XS.istore X274.here hx rfl (hb hby at_185) rfl (l' := #[s0, Si p2, Si p3, Si p4, Si ra, Si rb, Si m6, Sr ro, Si ga, Si gb, Si gc, Sr b2, Sr b123, Si (p3 &&& (7 : Int32)), Si 0, Si 0, Su, Su, Su, Su, Su, Su, Su, Su]) rfl (XS.iload X274.here hx rfl (hb hby at_187) rfl  k)))) ?_
          by_cases hc366 : (p3 &&& (7 : Int32)) = (0 : Int32)
          · skip
            refine own_go (B := T274.setTop (mkF m 192 #[s0, Si p2, Si p3, Si p4, Si ra, Si rb, Si m6, Sr ro, Si ga, Si gb, Si gc, Sr b2, Sr b123, Si (p3 &&& (7 : Int32)), Si 0, Si 0, Su, Su, Su, Su, Su, Su, Su, Su] [])) (fun _ k => XS.ifNo X274.here hx rfl (hb hby at_189) rfl ((if0 _ _).trans (teq hc366).2) k) ?_
            refine own_cS (own_rm66 l Z a0 hw [] an T274.heap n0 (Nat.le_trans Z0 K316.1) S_295) X274 hx hZ hown (hw.w 394 rfl) (hw.w 395 rfl) (hw.w 72 rfl) (hw.w 396 rfl) rfl rfl rfl (by rw [hml]; rfl) (rest := []) (lenOf own_pd47 rfl) rfl (hb hby at_192) (W := 0) (show 2 * 0 + _ = _ from rfl) (by decide) (by decide) ?_
            rintro _ T367 L367 X367 ⟨rfl, N367q, e367⟩
            have N367 := Fr.app N274 N367q
            refine own_go (B := T367.setTop (mkF m 285 #[s0, Si p2, Si p3, Si p4, Si ra, Si rb, Si m6, Sr ro, Si ga, Si gb, Si gc, Sr b2, Sr b123, Si (p3 &&& (7 : Int32)), Si 0, Si 0, Sr an, Su, Su, Su, Su, Su, Su, Su] [])) (fun _ k => XS.astore X367.here hx rfl (hb hby at_195) rfl rfl (l' := #[s0, Si p2, Si p3, Si p4, Si ra, Si rb, Si m6, Sr ro, Si ga, Si gb, Si gc, Sr b2, Sr b123, Si (p3 &&& (7 : Int32)), Si 0, Si 0, Sr an, Su, Su, Su, Su, Su, Su, Su]) rfl (XS.goto X367.here hx rfl (pc0 := 197) (pc' := 285) rfl (hb hby at_197) (by decide) (by decide) k)) ?_
            exact own_m0 ⟨hw, hx, hby, hml, hlk, hret, hS, X367.mono (by decide) (by decide), e367, hk, hZ, hown, hEL, C315, Nat.le_trans Z0 K316.1, N367, KA.trans K316 all0⟩ s0 (Si p2) (Si p3) (Si p4) ra rb m6 ro ga gb gc (Sr b2) (Sr b123) (Si (p3 &&& (7 : Int32))) an tr kr zr vr em ar cs sf E_286 F_287 F_288 V_289 E_298 F_299 E_296 F_297 S_290 S_291 S_301 hl_ra hu_ra hl_rb hu_rb hcs hsf hrole
          · skip
            refine own_go (B := T274.setTop (mkF m 203 #[s0, Si p2, Si p3, Si p4, Si ra, Si rb, Si m6, Sr ro, Si ga, Si gb, Si gc, Sr b2, Sr b123, Si (p3 &&& (7 : Int32)), Si 0, Si 0, Su, Su, Su, Su, Su, Su, Su, Su] [.int 1, (.int (p3 &&& (7 : Int32)))])) (fun _ k => XS.ifYes X274.here hx rfl (pc0 := 189) (pc' := 200) rfl (hb hby at_189) rfl ((if0 _ _).trans (feq hc366).2) (by decide) (by decide) (XS.iload X274.here hx rfl (hb hby at_200) rfl (XS.iconst X274.here hx rfl (hb hby at_202) k))) ?_
            have hc368 : (p3 &&& (7 : Int32)) = (1 : Int32) := (own_pl_s80_10 p3 hc317 hc364 hc365 hc366)
            refine own_go (B := T274.setTop (mkF m 206 #[s0, Si p2, Si p3, Si p4, Si ra, Si rb, Si m6, Sr ro, Si ga, Si gb, Si gc, Sr b2, Sr b123, Si (p3 &&& (7 : Int32)), Si 0, Si 0, Su, Su, Su, Su, Su, Su, Su, Su] [])) (fun _ k => XS.icmpNo X274.here hx rfl (hb hby at_203) rfl (teq hc368).2 k) ?_
            refine own_cS (own_rm68 l Z a0 hw [] es T274.heap n0 (Nat.le_trans Z0 K316.1) S_292) X274 hx hZ hown (hw.w 410 rfl) (hw.w 411 rfl) (hw.w 32 rfl) (hw.w 412 rfl) rfl rfl rfl (by rw [hml]; rfl) (rest := []) (lenOf own_pd28 rfl) rfl (hb hby at_206) (W := 0) (show 2 * 0 + _ = _ from rfl) (by decide) (by decide) ?_
            rintro _ T369 L369 X369 ⟨rfl, N369q, e369⟩
            have N369 := Fr.app N274 N369q
            refine own_go (B := T369.setTop (mkF m 255 #[s0, Si p2, Si p3, Si p4, Si ra, Si rb, Si m6, Sr ro, Si ga, Si gb, Si gc, Sr b2, Sr b123, Si (p3 &&& (7 : Int32)), Si 0, Si 0, Su, Sr es, Su, Su, Su, Su, Su, Su] [])) (fun _ k => XS.astore X369.here hx rfl (hb hby at_209) rfl rfl (l' := #[s0, Si p2, Si p3, Si p4, Si ra, Si rb, Si m6, Sr ro, Si ga, Si gb, Si gc, Sr b2, Sr b123, Si (p3 &&& (7 : Int32)), Si 0, Si 0, Su, Sr es, Su, Su, Su, Su, Su, Su]) rfl (XS.goto X369.here hx rfl (pc0 := 211) (pc' := 255) rfl (hb hby at_211) (by decide) (by decide) k)) ?_
            exact own_kN ⟨hw, hx, hby, hml, hlk, hret, hS, X369.mono (by decide) (by decide), e369, hk, hZ, hown, hEL, C315, Nat.le_trans Z0 K316.1, N369, KA.trans K316 all0⟩ s0 (Si p2) (Si p3) p4 ra rb m6 ro ga gb gc (Sr b2) (Sr b123) (Si (p3 &&& (7 : Int32))) es tr kr zr vr em cs sf E_286 F_287 F_288 V_289 E_293 F_294 S_290 S_291 S_301 hl_ra hu_ra hl_rb hu_rb hcs hsf hrole
        · skip
          refine own_go (B := T274.setTop (mkF m 189 #[s0, Si p2, Si p3, Si p4, Si ra, Si rb, Si m6, Sr ro, Si ga, Si gb, Si gc, Sr b2, Sr b123, Si (p3 &&& (7 : Int32)), Si 0, Si 1, Su, Su, Su, Su, Su, Su, Su, Su] [(.int (p3 &&& (7 : Int32)))])) (fun _ k => XS.icmpNo X274.here hx rfl (hb hby at_177) rfl (flt hc365).1 (XS.iconst X274.here hx rfl (hb hby at_180) (XS.goto X274.here hx rfl (pc0 := 181) (pc' := 185) rfl (hb hby at_181) (by decide) (by decide) (XS.istore X274.here hx rfl (hb hby at_185) rfl (l' := #[s0, Si p2, Si p3, Si p4, Si ra, Si rb, Si m6, Sr ro, Si ga, Si gb, Si gc, Sr b2, Sr b123, Si (p3 &&& (7 : Int32)), Si 0, Si 1, Su, Su, Su, Su, Su, Su, Su, Su]) rfl (XS.iload X274.here hx rfl (hb hby at_187) rfl  k))))) ?_
          have hc370 : ¬ ((p3 &&& (7 : Int32)) = (0 : Int32)) := (own_pl_s80_11 p3 hc317 hc364 hc365)
          refine own_go (B := T274.setTop (mkF m 203 #[s0, Si p2, Si p3, Si p4, Si ra, Si rb, Si m6, Sr ro, Si ga, Si gb, Si gc, Sr b2, Sr b123, Si (p3 &&& (7 : Int32)), Si 0, Si 1, Su, Su, Su, Su, Su, Su, Su, Su] [.int 1, (.int (p3 &&& (7 : Int32)))])) (fun _ k => XS.ifYes X274.here hx rfl (pc0 := 189) (pc' := 200) rfl (hb hby at_189) rfl ((if0 _ _).trans (feq hc370).2) (by decide) (by decide) (XS.iload X274.here hx rfl (hb hby at_200) rfl (XS.iconst X274.here hx rfl (hb hby at_202) k))) ?_
          have hc371 : ¬ ((p3 &&& (7 : Int32)) = (1 : Int32)) := (own_pl_s80_12 p3 hc317 hc364 hc365 hc370)
          refine own_go (B := T274.setTop (mkF m 233 #[s0, Si p2, Si p3, Si p4, Si ra, Si rb, Si m6, Sr ro, Si ga, Si gb, Si gc, Sr b2, Sr b123, Si (p3 &&& (7 : Int32)), Si 0, Si 1, Su, Su, Su, Su, Su, Su, Su, Su] [.int 3, (.int (p3 &&& (7 : Int32)))])) (fun _ k => XS.icmpYes X274.here hx rfl (pc0 := 203) (pc' := 214) rfl (hb hby at_203) rfl (feq hc371).2 (by decide) (by decide) (XS.iload X274.here hx rfl (hb hby at_214) rfl (XS.iconst X274.here hx rfl (hb hby at_216) (XS.icmpYes X274.here hx rfl (pc0 := 217) (pc' := 230) rfl (hb hby at_217) rfl (feq hc317).2 (by decide) (by decide) (XS.iload X274.here hx rfl (hb hby at_230) rfl (XS.iconst X274.here hx rfl (hb hby at_232) k)))))) ?_
          have hc372 : (p3 &&& (7 : Int32)) = (3 : Int32) := (own_pl_s80_13 p3 hc317 hc364 hc365 hc370 hc371)
          refine own_go (B := T274.setTop (mkF m 238 #[s0, Si p2, Si p3, Si p4, Si ra, Si rb, Si m6, Sr ro, Si ga, Si gb, Si gc, Sr b2, Sr b123, Si (p3 &&& (7 : Int32)), Si 0, Si 1, Su, Su, Su, Su, Su, Su, Su, Su] [.ref b123])) (fun _ k => XS.icmpNo X274.here hx rfl (hb hby at_233) rfl (teq hc372).2 (XS.aload X274.here hx rfl (hb hby at_236) rfl rfl k)) ?_
          refine own_cS (own_rm7 l Z a0 hw [] b123 em T274.heap n0 (Nat.le_trans Z0 K316.1) S_291) X274 hx hZ hown (hw.w 30 rfl) (hw.w 31 rfl) (hw.w 32 rfl) (hw.w 33 rfl) rfl rfl rfl (by rw [hml]; rfl) (rest := []) (lenOf own_pd46 rfl) rfl (hb hby at_238) (W := 0) (show 2 * 0 + _ = _ from rfl) (by decide) (by decide) ?_
          rintro _ T373 L373 X373 ⟨b_373, rfl, N373q, K373q, Q373_0, Q373_1, Q373_2, x373_0⟩
          have N373 := Fr.app N274 N373q
          have hk := Nat.le_trans hk K373q.1
          have E_385 := E_286.keep K373q
          have F_386 := F_287.keep K373q nin0
          have F_387 := F_288.keep K373q nin0
          have V_388 := V_289.keep K373q nin0
          have S_389 := own_Sta_keep S_290 K373q all0
          have S_390 := own_Sta_keep S_291 K373q all0
          have E_399 := E_300.keep K373q
          have S_400 := own_Sta_keep S_301 K373q all0
          have E_408 := Q274_0.keep K373q
          have F_409 := Q274_1.keep K373q nin0
          have F_410 := Q274_2.keep K373q nin0
          have V_411 := Q274_3.keep K373q nin0
          have C414 := CHr.trans C315 (CHr.keep K373q all0 C315.1)
          have K415 : Keep h0 T373.heap [] := K316.trans K373q all0
          refine own_go (B := T373.setTop (mkF m 255 #[s0, Si p2, Si p3, Si p4, Si ra, Si rb, Si m6, Sr ro, Si ga, Si gb, Si gc, Sr b2, Sr b123, Si (p3 &&& (7 : Int32)), Si 0, Si 1, Su, Sr b_373, Su, Su, Su, Su, Su, Su] [])) (fun _ k => XS.astore X373.here hx rfl (hb hby at_241) rfl rfl (l' := #[s0, Si p2, Si p3, Si p4, Si ra, Si rb, Si m6, Sr ro, Si ga, Si gb, Si gc, Sr b2, Sr b123, Si (p3 &&& (7 : Int32)), Si 0, Si 1, Su, Sr b_373, Su, Su, Su, Su, Su, Su]) rfl (XS.goto X373.here hx rfl (pc0 := 243) (pc' := 255) rfl (hb hby at_243) (by decide) (by decide) k)) ?_
          obtain ⟨r, hCon, hEx⟩ : ∃ r : Int32, (∀ h', Keep T373.heap h' [] → own_MF l own_y57 (Jvm.Cond.code own_y57 jdk_101_method_5_code 2 (some .boolean)) [] { frames := 3, cells := 0, slots := 0, locals := 100 } #[.ref b_373, .ref ro] Z h' (fun v h L => v = some (.int r) ∧ Fr n0 L ∧ h = h')) ∧ own_Exp m6 (0 : Int32) (1 : Int32) ra rb ga gb gc r := by
            rcases hrole with ⟨rfl, rfl, rfl⟩ | ⟨rfl, rfl, rfl⟩
            · skip
              exact ⟨0, fun h' K' => own_cont1_2 l Z a0 hw [] b_373 ro tr kr b123 t_274 kt_274 em (ra.toInt8.toInt32) (gb.toInt8.toInt32) (gc.toInt8.toInt32) cs h' n0 (Nat.le_trans Z0 (Nat.le_trans K415.1 K'.1)) (Q373_0.keep K') (Q373_1.keep K' nin0) (Q373_2.keep K' nin0) (E_408.keep K') (F_409.keep K' nin0) (F_410.keep K' nin0) (V_411.keep K' nin0) (E_385.keep K') (F_386.keep K' nin0) (F_387.keep K' nin0) (V_388.keep K' nin0) (E_399.keep K') ne_ro_b123_124 ne_em_ro (own_Sta_keep S_389 K' all0) hcs, own_ex10⟩
            · skip
              exact ⟨own_b ((ra.toInt8.toInt32) = (gb.toInt8.toInt32) ∧ (rb.toInt8.toInt32) = (gc.toInt8.toInt32)), fun h' K' => own_cont2_2 l Z a0 hw [] b_373 ro tr kr b123 t_274 kt_274 em (ra.toInt8.toInt32) (rb.toInt8.toInt32) (gb.toInt8.toInt32) (gc.toInt8.toInt32) cs h' n0 (Nat.le_trans Z0 (Nat.le_trans K415.1 K'.1)) (Q373_0.keep K') (Q373_1.keep K' nin0) (Q373_2.keep K' nin0) (E_408.keep K') (F_409.keep K' nin0) (F_410.keep K' nin0) (V_411.keep K' nin0) (E_385.keep K') (F_386.keep K' nin0) (F_387.keep K' nin0) (V_388.keep K' nin0) (E_399.keep K') ne_ro_b123_124 ne_em_ro (own_Sta_keep S_389 K' all0) hcs, own_ex21 hl_ra hu_ra hl_gb hu_gb hl_rb hu_rb hl_gc hu_gc⟩
          exact own_k12 ⟨hw, hx, hby, hml, hlk, hret, hS, X373.mono (by decide) (by decide), rfl, hk, hZ, hown, hEL, C414, Nat.le_trans Z0 K415.1, N373, KA.trans K415 all0⟩ s0 (Si p2) (Si p3) p4 ra rb m6 ro ga gb gc (Sr b2) (Sr b123) (Si (p3 &&& (7 : Int32))) (0 : Int32) (1 : Int32) b_373 tr kr zr vr em cs sf r E_385 F_386 F_387 V_388 Q373_0 S_389 S_390 S_400 hCon hl_ra hu_ra hl_rb hu_rb hcs hsf hEx hrole
      · skip
        refine own_go (B := T274.setTop (mkF m 177 #[s0, Si p2, Si p3, Si p4, Si ra, Si rb, Si m6, Sr ro, Si ga, Si gb, Si gc, Sr b2, Sr b123, Si (p3 &&& (7 : Int32)), Si 1, Su, Su, Su, Su, Su, Su, Su, Su, Su] [.int 3, (.int (p3 &&& (7 : Int32)))])) (fun _ k => XS.icmpNo X274.here hx rfl (hb hby at_164) rfl (flt hc364).1 (XS.iconst X274.here hx rfl (hb hby at_167) (XS.goto X274.here hx rfl (pc0 := 168) (pc' := 172) rfl (hb hby at_168) (by decide) (by decide) (XS.istore X274.here hx rfl (hb hby at_172) rfl (l' := #[s0, Si p2, Si p3, Si p4, Si ra, Si rb, Si m6, Sr ro, Si ga, Si gb, Si gc, Sr b2, Sr b123, Si (p3 &&& (7 : Int32)), Si 1, Su, Su, Su, Su, Su, Su, Su, Su, Su]) rfl (XS.iload X274.here hx rfl (hb hby at_174) rfl (XS.iconst X274.here hx rfl (hb hby at_176) k)))))) ?_
        have hc416 : ¬ ((p3 &&& (7 : Int32)) < (3 : Int32)) := (own_pl_s80_14 p3 hc317 hc364)
        refine own_go (B := T274.setTop (mkF m 189 #[s0, Si p2, Si p3, Si p4, Si ra, Si rb, Si m6, Sr ro, Si ga, Si gb, Si gc, Sr b2, Sr b123, Si (p3 &&& (7 : Int32)), Si 1, Si 1, Su, Su, Su, Su, Su, Su, Su, Su] [(.int (p3 &&& (7 : Int32)))])) (fun _ k => XS.icmpNo X274.here hx rfl (hb hby at_177) rfl (flt hc416).1 (XS.iconst X274.here hx rfl (hb hby at_180) (XS.goto X274.here hx rfl (pc0 := 181) (pc' := 185) rfl (hb hby at_181) (by decide) (by decide) (XS.istore X274.here hx rfl (hb hby at_185) rfl (l' := #[s0, Si p2, Si p3, Si p4, Si ra, Si rb, Si m6, Sr ro, Si ga, Si gb, Si gc, Sr b2, Sr b123, Si (p3 &&& (7 : Int32)), Si 1, Si 1, Su, Su, Su, Su, Su, Su, Su, Su]) rfl (XS.iload X274.here hx rfl (hb hby at_187) rfl  k))))) ?_
        have hc417 : ¬ ((p3 &&& (7 : Int32)) = (0 : Int32)) := (own_pl_s80_15 p3 hc317 hc364 hc416)
        refine own_go (B := T274.setTop (mkF m 203 #[s0, Si p2, Si p3, Si p4, Si ra, Si rb, Si m6, Sr ro, Si ga, Si gb, Si gc, Sr b2, Sr b123, Si (p3 &&& (7 : Int32)), Si 1, Si 1, Su, Su, Su, Su, Su, Su, Su, Su] [.int 1, (.int (p3 &&& (7 : Int32)))])) (fun _ k => XS.ifYes X274.here hx rfl (pc0 := 189) (pc' := 200) rfl (hb hby at_189) rfl ((if0 _ _).trans (feq hc417).2) (by decide) (by decide) (XS.iload X274.here hx rfl (hb hby at_200) rfl (XS.iconst X274.here hx rfl (hb hby at_202) k))) ?_
        have hc418 : ¬ ((p3 &&& (7 : Int32)) = (1 : Int32)) := (own_pl_s80_16 p3 hc317 hc364 hc416 hc417)
        refine own_go (B := T274.setTop (mkF m 233 #[s0, Si p2, Si p3, Si p4, Si ra, Si rb, Si m6, Sr ro, Si ga, Si gb, Si gc, Sr b2, Sr b123, Si (p3 &&& (7 : Int32)), Si 1, Si 1, Su, Su, Su, Su, Su, Su, Su, Su] [.int 3, (.int (p3 &&& (7 : Int32)))])) (fun _ k => XS.icmpYes X274.here hx rfl (pc0 := 203) (pc' := 214) rfl (hb hby at_203) rfl (feq hc418).2 (by decide) (by decide) (XS.iload X274.here hx rfl (hb hby at_214) rfl (XS.iconst X274.here hx rfl (hb hby at_216) (XS.icmpYes X274.here hx rfl (pc0 := 217) (pc' := 230) rfl (hb hby at_217) rfl (feq hc317).2 (by decide) (by decide) (XS.iload X274.here hx rfl (hb hby at_230) rfl (XS.iconst X274.here hx rfl (hb hby at_232) k)))))) ?_
        have hc419 : ¬ ((p3 &&& (7 : Int32)) = (3 : Int32)) := (own_pl_s80_17 p3 hc317 hc364 hc416 hc417 hc418)
        refine own_go (B := T274.setTop (mkF m 250 #[s0, Si p2, Si p3, Si p4, Si ra, Si rb, Si m6, Sr ro, Si ga, Si gb, Si gc, Sr b2, Sr b123, Si (p3 &&& (7 : Int32)), Si 1, Si 1, Su, Su, Su, Su, Su, Su, Su, Su] [.ref b123, .ref b2])) (fun _ k => XS.icmpYes X274.here hx rfl (pc0 := 233) (pc' := 246) rfl (hb hby at_233) rfl (feq hc419).2 (by decide) (by decide) (XS.aload X274.here hx rfl (hb hby at_246) rfl rfl (XS.aload X274.here hx rfl (hb hby at_248) rfl rfl k))) ?_
        refine own_cS (own_rm64 l Z a0 hw [] b2 b123 t_88 t_274 kt_88 kt_274 (ga.toInt8.toInt32) (gb.toInt8.toInt32) (gc.toInt8.toInt32) cs T274.heap n0 (Nat.le_trans Z0 K316.1) E_303 F_304 F_305 V_306 Q274_0 Q274_1 Q274_2 Q274_3 ne_b2_b123_131 S_290 hcs) X274 hx hZ hown (hw.w 388 rfl) (hw.w 389 rfl) (hw.w 32 rfl) (hw.w 390 rfl) rfl rfl rfl (by rw [hml]; rfl) (rest := []) (lenOf own_pd48 rfl) rfl (hb hby at_250) (W := 0) (show 2 * 0 + _ = _ from rfl) (by decide) (by decide) ?_
        rintro _ T420 L420 X420 ⟨b_420, rfl, N420q, K420q, Q420_0, Q420_1, Q420_2, x420_0⟩
        have N420 := Fr.app N274 N420q
        have hk := Nat.le_trans hk K420q.1
        have E_432 := E_286.keep K420q
        have F_433 := F_287.keep K420q nin0
        have F_434 := F_288.keep K420q nin0
        have V_435 := V_289.keep K420q nin0
        have S_436 := own_Sta_keep S_290 K420q all0
        have S_437 := own_Sta_keep S_291 K420q all0
        have S_447 := own_Sta_keep S_301 K420q all0
        have E_449 := E_303.keep K420q
        have F_450 := F_304.keep K420q nin0
        have F_451 := F_305.keep K420q nin0
        have V_452 := V_306.keep K420q nin0
        have E_455 := Q274_0.keep K420q
        have F_456 := Q274_1.keep K420q nin0
        have F_457 := Q274_2.keep K420q nin0
        have V_458 := Q274_3.keep K420q nin0
        have C461 := CHr.trans C315 (CHr.keep K420q all0 C315.1)
        have K462 : Keep h0 T420.heap [] := K316.trans K420q all0
        refine own_go (B := T420.setTop (mkF m 255 #[s0, Si p2, Si p3, Si p4, Si ra, Si rb, Si m6, Sr ro, Si ga, Si gb, Si gc, Sr b2, Sr b123, Si (p3 &&& (7 : Int32)), Si 1, Si 1, Su, Sr b_420, Su, Su, Su, Su, Su, Su] [])) (fun _ k => XS.astore X420.here hx rfl (hb hby at_253) rfl rfl (l' := #[s0, Si p2, Si p3, Si p4, Si ra, Si rb, Si m6, Sr ro, Si ga, Si gb, Si gc, Sr b2, Sr b123, Si (p3 &&& (7 : Int32)), Si 1, Si 1, Su, Sr b_420, Su, Su, Su, Su, Su, Su]) rfl k) ?_
        obtain ⟨r, hCon, hEx⟩ : ∃ r : Int32, (∀ h', Keep T420.heap h' [] → own_MF l own_y57 (Jvm.Cond.code own_y57 jdk_101_method_5_code 2 (some .boolean)) [] { frames := 3, cells := 0, slots := 0, locals := 100 } #[.ref b_420, .ref ro] Z h' (fun v h L => v = some (.int r) ∧ Fr n0 L ∧ h = h')) ∧ own_Exp m6 (1 : Int32) (1 : Int32) ra rb ga gb gc r := by
          rcases hrole with ⟨rfl, rfl, rfl⟩ | ⟨rfl, rfl, rfl⟩
          · skip
            exact ⟨own_b ((ra.toInt8.toInt32) = (ga.toInt8.toInt32)), fun h' K' => own_cont1_12 l Z a0 hw [] b_420 ro tr kr b2 t_88 kt_88 b123 t_274 kt_274 (ra.toInt8.toInt32) (ga.toInt8.toInt32) (gb.toInt8.toInt32) (gc.toInt8.toInt32) cs h' n0 (Nat.le_trans Z0 (Nat.le_trans K462.1 K'.1)) (Q420_0.keep K') (Q420_1.keep K' nin0) (Q420_2.keep K' nin0) (E_449.keep K') (F_450.keep K' nin0) (F_451.keep K' nin0) (V_452.keep K' nin0) (E_455.keep K') (F_456.keep K' nin0) (F_457.keep K' nin0) (V_458.keep K' nin0) (E_432.keep K') (F_433.keep K' nin0) (F_434.keep K' nin0) (V_435.keep K' nin0) ne_ro_b2_3 ne_ro_b123_124 (own_Sta_keep S_436 K' all0) hcs, own_ex11 hl_ra hu_ra hl_ga hu_ga⟩
          · skip
            exact ⟨own_b ((ra.toInt8.toInt32) = (gb.toInt8.toInt32) ∧ (rb.toInt8.toInt32) = (gc.toInt8.toInt32)), fun h' K' => own_cont2_12 l Z a0 hw [] b_420 ro tr kr b2 t_88 kt_88 b123 t_274 kt_274 (ra.toInt8.toInt32) (rb.toInt8.toInt32) (ga.toInt8.toInt32) (gb.toInt8.toInt32) (gc.toInt8.toInt32) cs h' n0 (Nat.le_trans Z0 (Nat.le_trans K462.1 K'.1)) (Q420_0.keep K') (Q420_1.keep K' nin0) (Q420_2.keep K' nin0) (E_449.keep K') (F_450.keep K' nin0) (F_451.keep K' nin0) (V_452.keep K' nin0) (E_455.keep K') (F_456.keep K' nin0) (F_457.keep K' nin0) (V_458.keep K' nin0) (E_432.keep K') (F_433.keep K' nin0) (F_434.keep K' nin0) (V_435.keep K' nin0) ne_ro_b2_3 ne_ro_b123_124 (own_Sta_keep S_436 K' all0) hcs, own_ex21 hl_ra hu_ra hl_gb hu_gb hl_rb hu_rb hl_gc hu_gc⟩
        exact own_k12 ⟨hw, hx, hby, hml, hlk, hret, hS, X420.mono (by decide) (by decide), rfl, hk, hZ, hown, hEL, C461, Nat.le_trans Z0 K462.1, N420, KA.trans K462 all0⟩ s0 (Si p2) (Si p3) p4 ra rb m6 ro ga gb gc (Sr b2) (Sr b123) (Si (p3 &&& (7 : Int32))) (1 : Int32) (1 : Int32) b_420 tr kr zr vr em cs sf r E_432 F_433 F_434 V_435 Q420_0 S_436 S_437 S_447 hCon hl_ra hu_ra hl_rb hu_rb hcs hsf hEx hrole
  refine own_go (B := T0.setTop (mkF m 106 #[s0, Si p2, Si p3, Si p4, Si ra, Si rb, Si m6, Sr ro, Si ((p2 &&& (255 : Int32)).toUInt32.toUInt16.toUInt32.toInt32), Si ((((p2.toUInt32 >>> ((8 : Int32) &&& 31).toUInt32).toInt32) &&& (255 : Int32)).toUInt32.toUInt16.toUInt32.toInt32), Su, Su, Su, Su, Su, Su, Su, Su, Su, Su, Su, Su, Su, Su] [.int 255, (.int ((p2.toUInt32 >>> ((16 : Int32) &&& 31).toUInt32).toInt32))])) (fun _ k => XS.iloadN X0.here hx rfl (hb hby at_80) rfl (XS.sipush X0.here hx rfl (hb hby at_81) (XS.iand X0.here hx rfl (hb hby at_84) rfl (XS.i2c X0.here hx rfl (hb hby at_85) rfl (XS.istore X0.here hx rfl (hb hby at_86) rfl (l' := #[s0, Si p2, Si p3, Si p4, Si ra, Si rb, Si m6, Sr ro, Si ((p2 &&& (255 : Int32)).toUInt32.toUInt16.toUInt32.toInt32), Su, Su, Su, Su, Su, Su, Su, Su, Su, Su, Su, Su, Su, Su, Su]) rfl (XS.iloadN X0.here hx rfl (hb hby at_88) rfl (XS.bipush X0.here hx rfl (hb hby at_89) (XS.iushr X0.here hx rfl (hb hby at_91) rfl (XS.sipush X0.here hx rfl (hb hby at_92) (XS.iand X0.here hx rfl (hb hby at_95) rfl (XS.i2c X0.here hx rfl (hb hby at_96) rfl (XS.istore X0.here hx rfl (hb hby at_97) rfl (l' := #[s0, Si p2, Si p3, Si p4, Si ra, Si rb, Si m6, Sr ro, Si ((p2 &&& (255 : Int32)).toUInt32.toUInt16.toUInt32.toInt32), Si ((((p2.toUInt32 >>> ((8 : Int32) &&& 31).toUInt32).toInt32) &&& (255 : Int32)).toUInt32.toUInt16.toUInt32.toInt32), Su, Su, Su, Su, Su, Su, Su, Su, Su, Su, Su, Su, Su, Su]) rfl (XS.iloadN X0.here hx rfl (hb hby at_99) rfl (XS.bipush X0.here hx rfl (hb hby at_100) (XS.iushr X0.here hx rfl (hb hby at_102) rfl (XS.sipush X0.here hx rfl (hb hby at_103) k)))))))))))))))) ?_
  refine own_go (B := T0.setTop (mkF m 110 #[s0, Si p2, Si p3, Si p4, Si ra, Si rb, Si m6, Sr ro, Si ((p2 &&& (255 : Int32)).toUInt32.toUInt16.toUInt32.toInt32), Si ((((p2.toUInt32 >>> ((8 : Int32) &&& 31).toUInt32).toInt32) &&& (255 : Int32)).toUInt32.toUInt16.toUInt32.toInt32), Si ((((p2.toUInt32 >>> ((16 : Int32) &&& 31).toUInt32).toInt32) &&& (255 : Int32)).toUInt32.toUInt16.toUInt32.toInt32), Su, Su, Su, Su, Su, Su, Su, Su, Su, Su, Su, Su, Su] [])) (fun _ k => XS.iand X0.here hx rfl (hb hby at_106) rfl (XS.i2c X0.here hx rfl (hb hby at_107) rfl (XS.istore X0.here hx rfl (hb hby at_108) rfl (l' := #[s0, Si p2, Si p3, Si p4, Si ra, Si rb, Si m6, Sr ro, Si ((p2 &&& (255 : Int32)).toUInt32.toUInt16.toUInt32.toInt32), Si ((((p2.toUInt32 >>> ((8 : Int32) &&& 31).toUInt32).toInt32) &&& (255 : Int32)).toUInt32.toUInt16.toUInt32.toInt32), Si ((((p2.toUInt32 >>> ((16 : Int32) &&& 31).toUInt32).toInt32) &&& (255 : Int32)).toUInt32.toUInt16.toUInt32.toInt32), Su, Su, Su, Su, Su, Su, Su, Su, Su, Su, Su, Su, Su]) rfl k))) ?_
  exact J1 ((p2 &&& (255 : Int32)).toUInt32.toUInt16.toUInt32.toInt32) ((((p2.toUInt32 >>> ((8 : Int32) &&& 31).toUInt32).toInt32) &&& (255 : Int32)).toUInt32.toUInt16.toUInt32.toInt32) ((((p2.toUInt32 >>> ((16 : Int32) &&& 31).toUInt32).toInt32) &&& (255 : Int32)).toUInt32.toUInt16.toUInt32.toInt32) (own_pl_s80_1 p2) (own_pl_s80_2 p2) (own_pl_s80_3 p2) (own_pl_s80_4 p2) (own_pl_s80_5 p2) (own_pl_s80_6 p2)
theorem own_pn21 : plainName "com/example/aduana/aduana/core/AccessDecisionHasRolePinLaw" = true := by first | (simp [plainName, overriddenIn]; done) | decide +kernel
theorem ef_own_rm0 (m : MethodId) (x0 x1 x2 x3 : Int32) : entryFrame m #[(.int x0), (.int x1), (.int x2), (.int x3)] maxLocals = mkF m 0 #[.val (.int x0), .val (.int x1), .val (.int x2), .val (.int x3), .unset, .unset, .unset, .unset, .unset, .unset, .unset, .unset, .unset, .unset, .unset, .unset, .unset, .unset, .unset, .unset, .unset, .unset, .unset, .unset] [] := by first | (simp [entryFrame, mkF, argsToLocals, Value.category, maxLocals]; done) | rfl
theorem own_pl_rm0_1 (p1 : Int32) : 0 ≤ ((p1 &&& (255 : Int32)).toUInt32.toUInt16.toUInt32.toInt32).toInt := by
  have := rng32 p1
  have := rng32 (p1 &&& (255 : Int32))
  have := Jvm.Kit.i32_mask p1 (255 : Int32) (k := 8) (by decide) (by decide)
  have := rng32 ((p1 &&& (255 : Int32)).toUInt32.toUInt16.toUInt32.toInt32)
  have := own_i2c (p1 &&& (255 : Int32))
  have := rng32 ((p1.toUInt32 >>> ((8 : Int32) &&& 31).toUInt32).toInt32)
  have := own_iushr p1 (n := ((8 : Int32) &&& 31).toUInt32) (k := 8) (by decide) (by decide) (by decide)
  have := rng32 (((p1.toUInt32 >>> ((8 : Int32) &&& 31).toUInt32).toInt32) &&& (255 : Int32))
  have := Jvm.Kit.i32_mask ((p1.toUInt32 >>> ((8 : Int32) &&& 31).toUInt32).toInt32) (255 : Int32) (k := 8) (by decide) (by decide)
  have := rng32 ((((p1.toUInt32 >>> ((8 : Int32) &&& 31).toUInt32).toInt32) &&& (255 : Int32)).toUInt32.toUInt16.toUInt32.toInt32)
  have := own_i2c (((p1.toUInt32 >>> ((8 : Int32) &&& 31).toUInt32).toInt32) &&& (255 : Int32))
  try simp only [own_i32_8, own_i32_255] at *
  have := own_i32_8
  have := own_i32_255
  try simp only [Int32.lt_iff_toInt_lt, Int32.le_iff_toInt_le, ← Int32.toInt_inj, true_and, and_true, true_or, or_true, false_or, or_false, not_true_eq_false, not_false_eq_true, false_and, and_false, ne_eq] at *
  all_goals first | omega | (simp; done)
theorem own_pl_rm0_2 (p1 : Int32) : ((p1 &&& (255 : Int32)).toUInt32.toUInt16.toUInt32.toInt32).toInt ≤ 255 := by
  have := rng32 p1
  have := rng32 (p1 &&& (255 : Int32))
  have := Jvm.Kit.i32_mask p1 (255 : Int32) (k := 8) (by decide) (by decide)
  have := rng32 ((p1 &&& (255 : Int32)).toUInt32.toUInt16.toUInt32.toInt32)
  have := own_i2c (p1 &&& (255 : Int32))
  have := rng32 ((p1.toUInt32 >>> ((8 : Int32) &&& 31).toUInt32).toInt32)
  have := own_iushr p1 (n := ((8 : Int32) &&& 31).toUInt32) (k := 8) (by decide) (by decide) (by decide)
  have := rng32 (((p1.toUInt32 >>> ((8 : Int32) &&& 31).toUInt32).toInt32) &&& (255 : Int32))
  have := Jvm.Kit.i32_mask ((p1.toUInt32 >>> ((8 : Int32) &&& 31).toUInt32).toInt32) (255 : Int32) (k := 8) (by decide) (by decide)
  have := rng32 ((((p1.toUInt32 >>> ((8 : Int32) &&& 31).toUInt32).toInt32) &&& (255 : Int32)).toUInt32.toUInt16.toUInt32.toInt32)
  have := own_i2c (((p1.toUInt32 >>> ((8 : Int32) &&& 31).toUInt32).toInt32) &&& (255 : Int32))
  try simp only [own_i32_8, own_i32_255] at *
  have := own_i32_8
  have := own_i32_255
  try simp only [Int32.lt_iff_toInt_lt, Int32.le_iff_toInt_le, ← Int32.toInt_inj, true_and, and_true, true_or, or_true, false_or, or_false, not_true_eq_false, not_false_eq_true, false_and, and_false, ne_eq] at *
  all_goals first | omega | (simp; done)
theorem own_pl_rm0_3 (p1 : Int32) : 0 ≤ ((((p1.toUInt32 >>> ((8 : Int32) &&& 31).toUInt32).toInt32) &&& (255 : Int32)).toUInt32.toUInt16.toUInt32.toInt32).toInt := by
  have := rng32 p1
  have := rng32 (p1 &&& (255 : Int32))
  have := Jvm.Kit.i32_mask p1 (255 : Int32) (k := 8) (by decide) (by decide)
  have := rng32 ((p1 &&& (255 : Int32)).toUInt32.toUInt16.toUInt32.toInt32)
  have := own_i2c (p1 &&& (255 : Int32))
  have := rng32 ((p1.toUInt32 >>> ((8 : Int32) &&& 31).toUInt32).toInt32)
  have := own_iushr p1 (n := ((8 : Int32) &&& 31).toUInt32) (k := 8) (by decide) (by decide) (by decide)
  have := rng32 (((p1.toUInt32 >>> ((8 : Int32) &&& 31).toUInt32).toInt32) &&& (255 : Int32))
  have := Jvm.Kit.i32_mask ((p1.toUInt32 >>> ((8 : Int32) &&& 31).toUInt32).toInt32) (255 : Int32) (k := 8) (by decide) (by decide)
  have := rng32 ((((p1.toUInt32 >>> ((8 : Int32) &&& 31).toUInt32).toInt32) &&& (255 : Int32)).toUInt32.toUInt16.toUInt32.toInt32)
  have := own_i2c (((p1.toUInt32 >>> ((8 : Int32) &&& 31).toUInt32).toInt32) &&& (255 : Int32))
  try simp only [own_i32_8, own_i32_255] at *
  have := own_i32_8
  have := own_i32_255
  try simp only [Int32.lt_iff_toInt_lt, Int32.le_iff_toInt_le, ← Int32.toInt_inj, true_and, and_true, true_or, or_true, false_or, or_false, not_true_eq_false, not_false_eq_true, false_and, and_false, ne_eq] at *
  all_goals first | omega | (simp; done)
theorem own_pl_rm0_4 (p1 : Int32) : ((((p1.toUInt32 >>> ((8 : Int32) &&& 31).toUInt32).toInt32) &&& (255 : Int32)).toUInt32.toUInt16.toUInt32.toInt32).toInt ≤ 255 := by
  have := rng32 p1
  have := rng32 (p1 &&& (255 : Int32))
  have := Jvm.Kit.i32_mask p1 (255 : Int32) (k := 8) (by decide) (by decide)
  have := rng32 ((p1 &&& (255 : Int32)).toUInt32.toUInt16.toUInt32.toInt32)
  have := own_i2c (p1 &&& (255 : Int32))
  have := rng32 ((p1.toUInt32 >>> ((8 : Int32) &&& 31).toUInt32).toInt32)
  have := own_iushr p1 (n := ((8 : Int32) &&& 31).toUInt32) (k := 8) (by decide) (by decide) (by decide)
  have := rng32 (((p1.toUInt32 >>> ((8 : Int32) &&& 31).toUInt32).toInt32) &&& (255 : Int32))
  have := Jvm.Kit.i32_mask ((p1.toUInt32 >>> ((8 : Int32) &&& 31).toUInt32).toInt32) (255 : Int32) (k := 8) (by decide) (by decide)
  have := rng32 ((((p1.toUInt32 >>> ((8 : Int32) &&& 31).toUInt32).toInt32) &&& (255 : Int32)).toUInt32.toUInt16.toUInt32.toInt32)
  have := own_i2c (((p1.toUInt32 >>> ((8 : Int32) &&& 31).toUInt32).toInt32) &&& (255 : Int32))
  try simp only [own_i32_8, own_i32_255] at *
  have := own_i32_8
  have := own_i32_255
  try simp only [Int32.lt_iff_toInt_lt, Int32.le_iff_toInt_le, ← Int32.toInt_inj, true_and, and_true, true_or, or_true, false_or, or_false, not_true_eq_false, not_false_eq_true, false_and, and_false, ne_eq] at *
  all_goals first | omega | (simp; done)
def Q_own_rm0 (Z : State) (p1 p2 p3 p4 cs : Int32) (em es an ar : Addr) (sf : Value) (h0 : Heap) (n0 : Nat) (v : Option Value) (h : Heap) (L : List Loc) : Prop := v = some (.int 1) ∧ Fr n0 L ∧ Keep h0 h []
theorem own_rm0 (l : Launch) (Z : State) (a0 : Array Value) (hw : own_HW a0 Z) (ws : List Jvm.Cond) (p1 p2 p3 p4 cs : Int32) (em es an ar : Addr) (sf : Value) (h0 : Heap) (n0 : Nat) (Z0 : n0 ≤ h0.size) (P_S_EMPTY : Sta Z h0 nn15_ "EMPTY" nn9_ (.ref em)) (P_S_EMPTY_SET : Sta Z h0 nn15_ nn17_ nn18_ (.ref es)) (P_E_es : Exa Z h0 es nn4_) (P_F_es_size : Fld Z h0 es nn4_ "size" "I" (.int 0)) (P_S_ANONYMOUS : Sta Z h0 nn8_ nn19_ nn20_ (.ref an)) (P_E_an : Exa Z h0 an nn8_) (P_F_an_roles : Fld Z h0 an nn8_ "roles" nn13_ (.ref ar)) (P_E_ar : Exa Z h0 ar nn4_) (P_F_ar_size : Fld Z h0 ar nn4_ "size" "I" (.int 0)) (P_E_em : Exa Z h0 em nn0_) (P_S_SIOOBE_FORMATTER : Sta Z h0 nn21_ nn22_ nn23_ sf) (P_S_COMPACT_STRINGS : Sta Z h0 nn3_ nn16_ "Z" (.int cs)) (hcs : ¬ (cs = (0 : Int32))) (hsf : sf.isRef = true) :
    MetFree l x (head1 (Jvm.Cond.code x code maxLocals ret :: ws) room_1) (fun a U => a = #[.int p1, .int p2, .int p3, .int p4] ∧ Z.Warmed39 U.vm ∧ U.heap = h0 ∧ CHv Z own_EL U.vm h0) (fun _ _ _ _ _ => True) (fun _ U o U' => ∃ v L, o = .returned v ∧ Q_own_rm0 Z p1 p2 p3 p4 cs em es an ar sf h0 n0 v U'.heap L ∧ ReturnedEndW U o U' L 64 4352) := by
  refine MetFree.of_bodySF (plainFor_of_name own_pn21) hisR ?_
  intro p e s m args below meth c s₁ Bd hml0 hP hK
  obtain ⟨rfl, hZ, hh, H0⟩ := hP
  have hx := Bd.exec
  have hby := Bd.bytes
  have hml : c.maxLocals = 24 := hml0
  have hown : s.vm.findClass "com/example/aduana/aduana/core/AccessDecisionHasRolePinLaw" = some m.cls := findClass_of_methodNamed Bd.named
  have hnm := (name_of_methodNamed Bd.named Bd.method).1
  have X0 : Stand p l e room_1 (s.setVm s.vm) m #[.int p1, .int p2, .int p3, .int p4] below meth c s₁ [] 0 0 := Stand.of_body Bd
  have e0 : s₁.heap = h0 := by rw [← hh, Bd.state]; rfl
  have N0 := Fr.nil n0
  have K0 : Keep h0 h0 [] := Keep.refl h0 []
  have hEL := own_ELok hw
  have C0 := CHr.refl H0
  have hS : s.Since s.vm h0.size := (State.WarmedH.refl s).since _
  have hk : h0.size ≤ h0.size := Nat.le_refl _
  have hZ : Z.Warmed39 (s.setVm s.vm).vm := hZ
  have hown : (s.setVm s.vm).vm.findClass "com/example/aduana/aduana/core/AccessDecisionHasRolePinLaw" = some m.cls := hown
  have wS : ∀ d ∈ Bundle.stringAtoms, d.before a0 Z = true := fun d hd => hw d (own_strs d hd)
  show own_FinW p e below s (Q_own_rm0 Z p1 p2 p3 p4 cs em es an ar sf h0 n0) 64 4352 (s₁.setTop (entryFrame m #[.int p1, .int p2, .int p3, .int p4] maxLocals))
  refine own_go (fun _ k => castTop (ef_own_rm0 m p1 p2 p3 p4) k) ?_
  show own_FinW _ _ _ _ _ _ _ (s₁.setTop (mkF m 0 #[Si p1, Si p2, Si p3, Si p4, Su, Su, Su, Su, Su, Su, Su, Su, Su, Su, Su, Su, Su, Su, Su, Su, Su, Su, Su, Su] []))
  have J1 : ∀ (ra : Int32) (rb : Int32) (hl_ra : 0 ≤ ra.toInt) (hu_ra : ra.toInt ≤ 255) (hl_rb : 0 ≤ rb.toInt) (hu_rb : rb.toInt ≤ 255), own_FinW p e below s (Q_own_rm0 Z p1 p2 p3 p4 cs em es an ar sf h0 n0) 64 4352 (s₁.setTop (mkF m 19 #[Si p1, Si p2, Si p3, Si p4, Si ra, Si rb, Su, Su, Su, Su, Su, Su, Su, Su, Su, Su, Su, Su, Su, Su, Su, Su, Su, Su] [])) := by
    intro ra rb hl_ra hu_ra hl_rb hu_rb
    refine own_go (B := s₁.setTop (mkF m 25 #[Si p1, Si p2, Si p3, Si p4, Si ra, Si rb, Su, Su, Su, Su, Su, Su, Su, Su, Su, Su, Su, Su, Su, Su, Su, Su, Su, Su] [(.int (((p1.toUInt32 >>> ((16 : Int32) &&& 31).toUInt32).toInt32) &&& (1 : Int32)))])) (fun _ k => XS.iloadN X0.here hx rfl (hb hby at_19) rfl (XS.bipush X0.here hx rfl (hb hby at_20) (XS.iushr X0.here hx rfl (hb hby at_22) rfl (XS.iconst X0.here hx rfl (hb hby at_23) (XS.iand X0.here hx rfl (hb hby at_24) rfl k))))) ?_
    by_cases hc2 : (((p1.toUInt32 >>> ((16 : Int32) &&& 31).toUInt32).toInt32) &&& (1 : Int32)) = (0 : Int32)
    · skip
      refine own_go (B := s₁.setTop (mkF m 37 #[Si p1, Si p2, Si p3, Si p4, Si ra, Si rb, Si 0, Su, Su, Su, Su, Su, Su, Su, Su, Su, Su, Su, Su, Su, Su, Su, Su, Su] [.int 0])) (fun _ k => XS.ifYes X0.here hx rfl (pc0 := 25) (pc' := 32) rfl (hb hby at_25) rfl ((if0 _ _).trans (teq hc2).1) (by decide) (by decide) (XS.iconst X0.here hx rfl (hb hby at_32) (XS.istore X0.here hx rfl (hb hby at_33) rfl (l' := #[Si p1, Si p2, Si p3, Si p4, Si ra, Si rb, Si 0, Su, Su, Su, Su, Su, Su, Su, Su, Su, Su, Su, Su, Su, Su, Su, Su, Su]) rfl (XS.iload X0.here hx rfl (hb hby at_35) rfl  k)))) ?_
      have hc3 : (0 : Int32) = (0 : Int32) := by decide
      refine own_go (B := s₁.setTop (mkF m 63 #[Si p1, Si p2, Si p3, Si p4, Si ra, Si rb, Si 0, Su, Su, Su, Su, Su, Su, Su, Su, Su, Su, Su, Su, Su, Su, Su, Su, Su] [])) (fun _ k => XS.ifYes X0.here hx rfl (pc0 := 37) (pc' := 63) rfl (hb hby at_37) rfl ((if0 _ _).trans (teq hc3).1) (by decide) (by decide) k) ?_
      obtain ⟨T4, h4, X4, e4, E4, A4, D4, -, st4⟩ := newO X0 hx hZ hown (hw.w 0 rfl) (hw.w 1 rfl) (hw.w 2 rfl) e0 (g := (mkF m 63 #[Si p1, Si p2, Si p3, Si p4, Si ra, Si rb, Si 0, Su, Su, Su, Su, Su, Su, Su, Su, Su, Su, Su, Su, Su, Su, Su, Su, Su] [])) rfl (hb hby at_63) (by decide) (by decide)
      obtain ⟨b4, g4⟩ : ∃ z, z = h0.size := ⟨_, rfl⟩
      rw [← g4] at A4 D4 st4
      have ne_es_b4_5 : es ≠ b4 := Nat.ne_of_lt (Nat.lt_of_lt_of_le P_E_es.lt (Nat.le_of_eq g4.symm))
      have ne_an_b4_6 : an ≠ b4 := Nat.ne_of_lt (Nat.lt_of_lt_of_le P_E_an.lt (Nat.le_of_eq g4.symm))
      have ne_ar_b4_7 : ar ≠ b4 := Nat.ne_of_lt (Nat.lt_of_lt_of_le P_E_ar.lt (Nat.le_of_eq g4.symm))
      have ne_em_b4_8 : em ≠ b4 := Nat.ne_of_lt (Nat.lt_of_lt_of_le P_E_em.lt (Nat.le_of_eq g4.symm))
      have sz_b4 : h0.size ≤ b4 := Nat.le_trans K0.1 (Nat.le_of_eq g4.symm)
      have g_b4 : n0 ≤ b4 := Nat.le_trans Z0 sz_b4
      have Y_b4 : Safe Z own_EL s.vm h0 b4 := Safe.new (Nat.le_of_eq g4.symm)
      have S_10 := P_S_COMPACT_STRINGS.ext E4
      have S_11 := P_S_EMPTY.ext E4
      have S_12 := P_S_EMPTY_SET.ext E4
      have E_13 := P_E_es.ext E4
      have F_14 := P_F_es_size.ext E4
      have S_15 := P_S_ANONYMOUS.ext E4
      have E_16 := P_E_an.ext E4
      have F_17 := P_F_an_roles.ext E4
      have E_18 := P_E_ar.ext E4
      have F_19 := P_F_ar_size.ext E4
      have E_20 := P_E_em.ext E4
      have S_21 := P_S_SIOOBE_FORMATTER.ext E4
      have Y_22 := Safe.ext E4 C0.1 Y_b4
      have F_coder_b4 : Fld Z h4 b4 nn3_ "coder" "B" (.int 0) := D4 (Or.inr (hw.w 27 rfl)) (ty := .byte) (by decide)
      have F_value_b4 : Fld Z h4 b4 nn3_ "value" "[B" .null := D4 (Or.inr (hw.w 29 rfl)) (ty := (.array .byte)) (by decide)
      have hk := Nat.le_trans hk E4.1
      have C23 := CHr.trans C0 (CHr.ext E4 C0.1)
      have K24 : Keep h0 h4 [] := K0.ext E4
      refine own_go (B := T4.setTop (mkF m 68 #[Si p1, Si p2, Si p3, Si p4, Si ra, Si rb, Si 0, Su, Su, Su, Su, Su, Su, Su, Su, Su, Su, Su, Su, Su, Su, Su, Su, Su] [.int 1, .ref b4, .ref b4])) (fun _ k => st4 _ (XS.dup X4.here hx rfl (hb hby at_66) rfl rfl (XS.iconst X4.here hx rfl (hb hby at_67) k))) ?_
      obtain ⟨T25, h25, kc25, X25, e25, E25, A25, st25⟩ := newP X4 hx hZ (hw.w 3 rfl) e4 (g := (mkF m 68 #[Si p1, Si p2, Si p3, Si p4, Si ra, Si rb, Si 0, Su, Su, Su, Su, Su, Su, Su, Su, Su, Su, Su, Su, Su, Su, Su, Su, Su] [.int 1, .ref b4, .ref b4])) rfl (hb hby at_68) rfl (by decide) (cap := 1) (by decide) (by decide) (by decide) (by decide)
      obtain ⟨b25, g25⟩ : ∃ z, z = h4.size := ⟨_, rfl⟩
      rw [← g25] at A25 st25
      have ne_es_b25_26 : es ≠ b25 := Nat.ne_of_lt (Nat.lt_of_lt_of_le E_13.lt (Nat.le_of_eq g25.symm))
      have ne_an_b25_27 : an ≠ b25 := Nat.ne_of_lt (Nat.lt_of_lt_of_le E_16.lt (Nat.le_of_eq g25.symm))
      have ne_ar_b25_28 : ar ≠ b25 := Nat.ne_of_lt (Nat.lt_of_lt_of_le E_18.lt (Nat.le_of_eq g25.symm))
      have ne_b4_b25_30 : b4 ≠ b25 := Nat.ne_of_lt (Nat.lt_of_lt_of_le A4.lt (Nat.le_of_eq g25.symm))
      have sz_b25 : h0.size ≤ b25 := Nat.le_trans K24.1 (Nat.le_of_eq g25.symm)
      have g_b25 : n0 ≤ b25 := Nat.le_trans Z0 sz_b25
      have Y_b25 : Safe Z own_EL s.vm h4 b25 := Safe.new (Nat.le_of_eq g25.symm)
      have S_32 := S_10.ext E25
      have S_33 := S_11.ext E25
      have S_34 := S_12.ext E25
      have E_35 := E_13.ext E25
      have F_36 := F_14.ext E25
      have S_37 := S_15.ext E25
      have E_38 := E_16.ext E25
      have F_39 := F_17.ext E25
      have E_40 := E_18.ext E25
      have F_41 := F_19.ext E25
      have E_42 := E_20.ext E25
      have S_43 := S_21.ext E25
      have Y_44 := Safe.ext E25 C23.1 Y_22
      have E_45 := A4.ext E25
      have F_46 := F_coder_b4.ext E25
      have F_47 := F_value_b4.ext E25
      have Y_48 := Safe.ext E25 C23.1 Y_b25
      have V_b25 : Arv Z h25 b25 kc25 .char 1 [.int 0] (.int 0) := (Arv.new A25 (by decide)).pad (pad_rep [] (.int 0) 1)
      have hk := Nat.le_trans hk E25.1
      have C49 := CHr.trans C23 (CHr.ext E25 C23.1)
      have K50 : Keep h0 h25 [] := K24.ext E25
      refine own_go (B := T25.setTop (mkF m 74 #[Si p1, Si p2, Si p3, Si p4, Si ra, Si rb, Si 0, Su, Su, Su, Su, Su, Su, Su, Su, Su, Su, Su, Su, Su, Su, Su, Su, Su] [.int ra, .int 0, .ref b25, .ref b25, .ref b4, .ref b4])) (fun _ k => st25 _ (XS.dup X25.here hx rfl (hb hby at_70) rfl rfl (XS.iconst X25.here hx rfl (hb hby at_71) (XS.iload X25.here hx rfl (hb hby at_72) rfl  k)))) ?_
      obtain ⟨cl51, Ar51, q51, S51, N51n, H51, G51⟩ := id V_b25
      have hin52 : ¬ ((0 : Int32) < 0 ∨ cl51.slots.size ≤ ((0 : Int32)).toNatClampNeg) := inb_of S51 ⟨by decide, by decide⟩
      obtain ⟨T52, h52, X52, e52, W52, st52⟩ := stC X25 hx hZ e25 Ar51 (j := (0 : Int32)) hin52 (g := (mkF m 74 #[Si p1, Si p2, Si p3, Si p4, Si ra, Si rb, Si 0, Su, Su, Su, Su, Su, Su, Su, Su, Su, Su, Su, Su, Su, Su, Su, Su, Su] [.int ra, .int 0, .ref b25, .ref b25, .ref b4, .ref b4])) rfl rfl (hb hby at_74)
      rw [own_narcid hl_ra (Int.le_trans hu_ra (by decide))] at W52
      have V_b25_52 : Arv Z h52 b25 kc25 .char 1 [.int ra] (.int 0) := Arv.set Ar51 q51 S51 N51n H51 G51 (own_fitsc hl_ra (Int.le_trans hu_ra (by decide))) W52 0 rfl (Nat.le_of_ble_eq_true rfl)
      have S_54 := S_32.wr W52
      have S_55 := S_33.wr W52
      have S_56 := S_34.wr W52
      have E_57 := E_35.wr W52
      have F_58 := F_36.other W52 (Or.inl ne_es_b25_26)
      have S_59 := S_37.wr W52
      have E_60 := E_38.wr W52
      have F_61 := F_39.other W52 (Or.inl ne_an_b25_27)
      have E_62 := E_40.wr W52
      have F_63 := F_41.other W52 (Or.inl ne_ar_b25_28)
      have E_64 := E_42.wr W52
      have S_65 := S_43.wr W52
      have Y_66 := Safe.wr W52 Y_48 C49.1 Y_44
      have E_67 := E_45.wr W52
      have F_68 := F_46.other W52 (Or.inl ne_b4_b25_30)
      have F_69 := F_47.other W52 (Or.inl ne_b4_b25_30)
      have hk := Nat.le_trans hk (Keep.of_wr W52).1
      have C72 := CHr.trans C49 (CHr.wr W52 Y_48 C49.1)
      have K73 : Keep h0 h52 [] := K50.wr W52 (Or.inr sz_b25)
      have N52 := Fr.snoc X52 N0 g_b25
      refine own_go (B := T52.setTop (mkF m 75 #[Si p1, Si p2, Si p3, Si p4, Si ra, Si rb, Si 0, Su, Su, Su, Su, Su, Su, Su, Su, Su, Su, Su, Su, Su, Su, Su, Su, Su] [.ref b25, .ref b4, .ref b4])) (fun _ k => st52 _ k) ?_
      refine own_cN (own_str1 l Z a0 hw [] b4 b25 kc25 ra cs h52 n0 (Nat.le_trans Z0 K73.1) E_67 F_69 F_68 V_b25_52 g_b4 ne_b4_b25_30 S_54 hcs hu_ra) X52 hx hZ hown (hw.w 4 rfl) (hw.w 5 rfl) (hw.w 2 rfl) (hw.w 6 rfl) e52 rfl rfl (by rw [hml]; rfl) (rest := [.ref b4]) (lenOf own_pd44 rfl) rfl (hb hby at_75) (W := 1) (show 2 * 0 + _ = _ from rfl) (by decide) (by decide) rfl ?_
      rintro _ T74 L74 X74 ⟨t_74, kt_74, rfl, N74q, K74q, Q74_0, Q74_1, Q74_2, Q74_3, x74_0⟩
      have N74 := Fr.app N52 N74q
      have hk := Nat.le_trans hk K74q.1
      have S_82 := own_Sta_keep S_54 K74q (allS (own_plain E_67) all0)
      have S_83 := own_Sta_keep S_55 K74q (allS (own_plain E_67) all0)
      have S_84 := own_Sta_keep S_56 K74q (allS (own_plain E_67) all0)
      have E_85 := E_57.keep K74q
      have F_86 := F_58.keep K74q (ninS ne_es_b4_5 nin0)
      have S_87 := own_Sta_keep S_59 K74q (allS (own_plain E_67) all0)
      have E_88 := E_60.keep K74q
      have F_89 := F_61.keep K74q (ninS ne_an_b4_6 nin0)
      have E_90 := E_62.keep K74q
      have F_91 := F_63.keep K74q (ninS ne_ar_b4_7 nin0)
      have E_92 := E_64.keep K74q
      have S_93 := own_Sta_keep S_65 K74q (allS (own_plain E_67) all0)
      have C101 := CHr.trans C72 (CHr.keep K74q (allS Y_66 all0) C72.1)
      have K102 : Keep h0 T74.heap [] := K73.trans K74q (allS (Or.inr sz_b4) all0)
      refine own_go (B := T74.setTop (mkF m 80 #[Si p1, Si p2, Si p3, Si p4, Si ra, Si rb, Si 0, Sr b4, Su, Su, Su, Su, Su, Su, Su, Su, Su, Su, Su, Su, Su, Su, Su, Su] [])) (fun _ k => XS.astore X74.here hx rfl (hb hby at_78) rfl rfl (l' := #[Si p1, Si p2, Si p3, Si p4, Si ra, Si rb, Si 0, Sr b4, Su, Su, Su, Su, Su, Su, Su, Su, Su, Su, Su, Su, Su, Su, Su, Su]) rfl k) ?_
      exact own_s80 ⟨hw, hx, hby, hml, Bd.notSynchronized, Bd.returns, hS, X74.mono (by decide) (by decide), rfl, hk, hZ, hown, hEL, C101, Nat.le_trans Z0 K102.1, N74, K102⟩ (Si p1) p2 p3 p4 ra rb (0 : Int32) b4 t_74 kt_74 (1 : Int32) ([(.int (ra.toInt8.toInt32))]) cs em es an ar sf Q74_0 Q74_1 Q74_2 Q74_3 S_82 S_83 S_84 E_85 F_86 S_87 E_88 F_89 E_90 F_91 E_92 S_93 ne_em_b4_8 hl_ra hu_ra hl_rb hu_rb hcs hsf (Or.inl ⟨rfl, rfl, rfl⟩)
    · skip
      refine own_go (B := s₁.setTop (mkF m 37 #[Si p1, Si p2, Si p3, Si p4, Si ra, Si rb, Si 1, Su, Su, Su, Su, Su, Su, Su, Su, Su, Su, Su, Su, Su, Su, Su, Su, Su] [.int 1])) (fun _ k => XS.ifNo X0.here hx rfl (hb hby at_25) rfl ((if0 _ _).trans (feq hc2).1) (XS.iconst X0.here hx rfl (hb hby at_28) (XS.goto X0.here hx rfl (pc0 := 29) (pc' := 33) rfl (hb hby at_29) (by decide) (by decide) (XS.istore X0.here hx rfl (hb hby at_33) rfl (l' := #[Si p1, Si p2, Si p3, Si p4, Si ra, Si rb, Si 1, Su, Su, Su, Su, Su, Su, Su, Su, Su, Su, Su, Su, Su, Su, Su, Su, Su]) rfl (XS.iload X0.here hx rfl (hb hby at_35) rfl  k))))) ?_
      have hc103 : ¬ ((1 : Int32) = (0 : Int32)) := by decide
      refine own_go (B := s₁.setTop (mkF m 40 #[Si p1, Si p2, Si p3, Si p4, Si ra, Si rb, Si 1, Su, Su, Su, Su, Su, Su, Su, Su, Su, Su, Su, Su, Su, Su, Su, Su, Su] [])) (fun _ k => XS.ifNo X0.here hx rfl (hb hby at_37) rfl ((if0 _ _).trans (feq hc103).1) k) ?_
      obtain ⟨T104, h104, X104, e104, E104, A104, D104, -, st104⟩ := newO X0 hx hZ hown (hw.w 0 rfl) (hw.w 1 rfl) (hw.w 2 rfl) e0 (g := (mkF m 40 #[Si p1, Si p2, Si p3, Si p4, Si ra, Si rb, Si 1, Su, Su, Su, Su, Su, Su, Su, Su, Su, Su, Su, Su, Su, Su, Su, Su, Su] [])) rfl (hb hby at_40) (by decide) (by decide)
      obtain ⟨b104, g104⟩ : ∃ z, z = h0.size := ⟨_, rfl⟩
      rw [← g104] at A104 D104 st104
      have ne_es_b104_105 : es ≠ b104 := Nat.ne_of_lt (Nat.lt_of_lt_of_le P_E_es.lt (Nat.le_of_eq g104.symm))
      have ne_an_b104_106 : an ≠ b104 := Nat.ne_of_lt (Nat.lt_of_lt_of_le P_E_an.lt (Nat.le_of_eq g104.symm))
      have ne_ar_b104_107 : ar ≠ b104 := Nat.ne_of_lt (Nat.lt_of_lt_of_le P_E_ar.lt (Nat.le_of_eq g104.symm))
      have ne_em_b104_108 : em ≠ b104 := Nat.ne_of_lt (Nat.lt_of_lt_of_le P_E_em.lt (Nat.le_of_eq g104.symm))
      have sz_b104 : h0.size ≤ b104 := Nat.le_trans K0.1 (Nat.le_of_eq g104.symm)
      have g_b104 : n0 ≤ b104 := Nat.le_trans Z0 sz_b104
      have Y_b104 : Safe Z own_EL s.vm h0 b104 := Safe.new (Nat.le_of_eq g104.symm)
      have S_110 := P_S_COMPACT_STRINGS.ext E104
      have S_111 := P_S_EMPTY.ext E104
      have S_112 := P_S_EMPTY_SET.ext E104
      have E_113 := P_E_es.ext E104
      have F_114 := P_F_es_size.ext E104
      have S_115 := P_S_ANONYMOUS.ext E104
      have E_116 := P_E_an.ext E104
      have F_117 := P_F_an_roles.ext E104
      have E_118 := P_E_ar.ext E104
      have F_119 := P_F_ar_size.ext E104
      have E_120 := P_E_em.ext E104
      have S_121 := P_S_SIOOBE_FORMATTER.ext E104
      have Y_122 := Safe.ext E104 C0.1 Y_b104
      have F_coder_b104 : Fld Z h104 b104 nn3_ "coder" "B" (.int 0) := D104 (Or.inr (hw.w 27 rfl)) (ty := .byte) (by decide)
      have F_value_b104 : Fld Z h104 b104 nn3_ "value" "[B" .null := D104 (Or.inr (hw.w 29 rfl)) (ty := (.array .byte)) (by decide)
      have hk := Nat.le_trans hk E104.1
      have C123 := CHr.trans C0 (CHr.ext E104 C0.1)
      have K124 : Keep h0 h104 [] := K0.ext E104
      refine own_go (B := T104.setTop (mkF m 45 #[Si p1, Si p2, Si p3, Si p4, Si ra, Si rb, Si 1, Su, Su, Su, Su, Su, Su, Su, Su, Su, Su, Su, Su, Su, Su, Su, Su, Su] [.int 2, .ref b104, .ref b104])) (fun _ k => st104 _ (XS.dup X104.here hx rfl (hb hby at_43) rfl rfl (XS.iconst X104.here hx rfl (hb hby at_44) k))) ?_
      obtain ⟨T125, h125, kc125, X125, e125, E125, A125, st125⟩ := newP X104 hx hZ (hw.w 3 rfl) e104 (g := (mkF m 45 #[Si p1, Si p2, Si p3, Si p4, Si ra, Si rb, Si 1, Su, Su, Su, Su, Su, Su, Su, Su, Su, Su, Su, Su, Su, Su, Su, Su, Su] [.int 2, .ref b104, .ref b104])) rfl (hb hby at_45) rfl (by decide) (cap := 2) (by decide) (by decide) (by decide) (by decide)
      obtain ⟨b125, g125⟩ : ∃ z, z = h104.size := ⟨_, rfl⟩
      rw [← g125] at A125 st125
      have ne_es_b125_126 : es ≠ b125 := Nat.ne_of_lt (Nat.lt_of_lt_of_le E_113.lt (Nat.le_of_eq g125.symm))
      have ne_an_b125_127 : an ≠ b125 := Nat.ne_of_lt (Nat.lt_of_lt_of_le E_116.lt (Nat.le_of_eq g125.symm))
      have ne_ar_b125_128 : ar ≠ b125 := Nat.ne_of_lt (Nat.lt_of_lt_of_le E_118.lt (Nat.le_of_eq g125.symm))
      have ne_b104_b125_130 : b104 ≠ b125 := Nat.ne_of_lt (Nat.lt_of_lt_of_le A104.lt (Nat.le_of_eq g125.symm))
      have sz_b125 : h0.size ≤ b125 := Nat.le_trans K124.1 (Nat.le_of_eq g125.symm)
      have g_b125 : n0 ≤ b125 := Nat.le_trans Z0 sz_b125
      have Y_b125 : Safe Z own_EL s.vm h104 b125 := Safe.new (Nat.le_of_eq g125.symm)
      have S_132 := S_110.ext E125
      have S_133 := S_111.ext E125
      have S_134 := S_112.ext E125
      have E_135 := E_113.ext E125
      have F_136 := F_114.ext E125
      have S_137 := S_115.ext E125
      have E_138 := E_116.ext E125
      have F_139 := F_117.ext E125
      have E_140 := E_118.ext E125
      have F_141 := F_119.ext E125
      have E_142 := E_120.ext E125
      have S_143 := S_121.ext E125
      have Y_144 := Safe.ext E125 C123.1 Y_122
      have E_145 := A104.ext E125
      have F_146 := F_coder_b104.ext E125
      have F_147 := F_value_b104.ext E125
      have Y_148 := Safe.ext E125 C123.1 Y_b125
      have V_b125 : Arv Z h125 b125 kc125 .char 2 [.int 0, .int 0] (.int 0) := (Arv.new A125 (by decide)).pad (pad_rep [] (.int 0) 2)
      have hk := Nat.le_trans hk E125.1
      have C149 := CHr.trans C123 (CHr.ext E125 C123.1)
      have K150 : Keep h0 h125 [] := K124.ext E125
      refine own_go (B := T125.setTop (mkF m 51 #[Si p1, Si p2, Si p3, Si p4, Si ra, Si rb, Si 1, Su, Su, Su, Su, Su, Su, Su, Su, Su, Su, Su, Su, Su, Su, Su, Su, Su] [.int ra, .int 0, .ref b125, .ref b125, .ref b104, .ref b104])) (fun _ k => st125 _ (XS.dup X125.here hx rfl (hb hby at_47) rfl rfl (XS.iconst X125.here hx rfl (hb hby at_48) (XS.iload X125.here hx rfl (hb hby at_49) rfl  k)))) ?_
      obtain ⟨cl151, Ar151, q151, S151, N151n, H151, G151⟩ := id V_b125
      have hin152 : ¬ ((0 : Int32) < 0 ∨ cl151.slots.size ≤ ((0 : Int32)).toNatClampNeg) := inb_of S151 ⟨by decide, by decide⟩
      obtain ⟨T152, h152, X152, e152, W152, st152⟩ := stC X125 hx hZ e125 Ar151 (j := (0 : Int32)) hin152 (g := (mkF m 51 #[Si p1, Si p2, Si p3, Si p4, Si ra, Si rb, Si 1, Su, Su, Su, Su, Su, Su, Su, Su, Su, Su, Su, Su, Su, Su, Su, Su, Su] [.int ra, .int 0, .ref b125, .ref b125, .ref b104, .ref b104])) rfl rfl (hb hby at_51)
      rw [own_narcid hl_ra (Int.le_trans hu_ra (by decide))] at W152
      have V_b125_152 : Arv Z h152 b125 kc125 .char 2 [.int ra, .int 0] (.int 0) := Arv.set Ar151 q151 S151 N151n H151 G151 (own_fitsc hl_ra (Int.le_trans hu_ra (by decide))) W152 0 rfl (Nat.le_of_ble_eq_true rfl)
      have S_154 := S_132.wr W152
      have S_155 := S_133.wr W152
      have S_156 := S_134.wr W152
      have E_157 := E_135.wr W152
      have F_158 := F_136.other W152 (Or.inl ne_es_b125_126)
      have S_159 := S_137.wr W152
      have E_160 := E_138.wr W152
      have F_161 := F_139.other W152 (Or.inl ne_an_b125_127)
      have E_162 := E_140.wr W152
      have F_163 := F_141.other W152 (Or.inl ne_ar_b125_128)
      have E_164 := E_142.wr W152
      have S_165 := S_143.wr W152
      have Y_166 := Safe.wr W152 Y_148 C149.1 Y_144
      have E_167 := E_145.wr W152
      have F_168 := F_146.other W152 (Or.inl ne_b104_b125_130)
      have F_169 := F_147.other W152 (Or.inl ne_b104_b125_130)
      have Y_170 := Safe.wr W152 Y_148 C149.1 Y_148
      have hk := Nat.le_trans hk (Keep.of_wr W152).1
      have C172 := CHr.trans C149 (CHr.wr W152 Y_148 C149.1)
      have K173 : Keep h0 h152 [] := K150.wr W152 (Or.inr sz_b125)
      have N152 := Fr.snoc X152 N0 g_b125
      refine own_go (B := T152.setTop (mkF m 56 #[Si p1, Si p2, Si p3, Si p4, Si ra, Si rb, Si 1, Su, Su, Su, Su, Su, Su, Su, Su, Su, Su, Su, Su, Su, Su, Su, Su, Su] [.int rb, .int 1, .ref b125, .ref b125, .ref b104, .ref b104])) (fun _ k => st152 _ (XS.dup X152.here hx rfl (hb hby at_52) rfl rfl (XS.iconst X152.here hx rfl (hb hby at_53) (XS.iload X152.here hx rfl (hb hby at_54) rfl  k)))) ?_
      obtain ⟨cl174, Ar174, q174, S174, N174n, H174, G174⟩ := id V_b125_152
      have hin175 : ¬ ((1 : Int32) < 0 ∨ cl174.slots.size ≤ ((1 : Int32)).toNatClampNeg) := inb_of S174 ⟨by decide, by decide⟩
      obtain ⟨T175, h175, X175, e175, W175, st175⟩ := stC X152 hx hZ e152 Ar174 (j := (1 : Int32)) hin175 (g := (mkF m 56 #[Si p1, Si p2, Si p3, Si p4, Si ra, Si rb, Si 1, Su, Su, Su, Su, Su, Su, Su, Su, Su, Su, Su, Su, Su, Su, Su, Su, Su] [.int rb, .int 1, .ref b125, .ref b125, .ref b104, .ref b104])) rfl rfl (hb hby at_56)
      rw [own_narcid hl_rb (Int.le_trans hu_rb (by decide))] at W175
      have V_b125_175 : Arv Z h175 b125 kc125 .char 2 [.int ra, .int rb] (.int 0) := Arv.set Ar174 q174 S174 N174n H174 G174 (own_fitsc hl_rb (Int.le_trans hu_rb (by decide))) W175 1 rfl (Nat.le_of_ble_eq_true rfl)
      have S_177 := S_154.wr W175
      have S_178 := S_155.wr W175
      have S_179 := S_156.wr W175
      have E_180 := E_157.wr W175
      have F_181 := F_158.other W175 (Or.inl ne_es_b125_126)
      have S_182 := S_159.wr W175
      have E_183 := E_160.wr W175
      have F_184 := F_161.other W175 (Or.inl ne_an_b125_127)
      have E_185 := E_162.wr W175
      have F_186 := F_163.other W175 (Or.inl ne_ar_b125_128)
      have E_187 := E_164.wr W175
      have S_188 := S_165.wr W175
      have Y_189 := Safe.wr W175 Y_170 C172.1 Y_166
      have E_190 := E_167.wr W175
      have F_191 := F_168.other W175 (Or.inl ne_b104_b125_130)
      have F_192 := F_169.other W175 (Or.inl ne_b104_b125_130)
      have hk := Nat.le_trans hk (Keep.of_wr W175).1
      have C195 := CHr.trans C172 (CHr.wr W175 Y_170 C172.1)
      have K196 : Keep h0 h175 [] := K173.wr W175 (Or.inr sz_b125)
      have N175 := Fr.snoc X175 N152 g_b125
      refine own_go (B := T175.setTop (mkF m 57 #[Si p1, Si p2, Si p3, Si p4, Si ra, Si rb, Si 1, Su, Su, Su, Su, Su, Su, Su, Su, Su, Su, Su, Su, Su, Su, Su, Su, Su] [.ref b125, .ref b104, .ref b104])) (fun _ k => st175 _ k) ?_
      refine own_cN (own_str2 l Z a0 hw [] b104 b125 kc125 ra rb cs h175 n0 (Nat.le_trans Z0 K196.1) E_190 F_192 F_191 V_b125_175 g_b104 ne_b104_b125_130 S_177 hcs hu_ra hu_rb) X175 hx hZ hown (hw.w 4 rfl) (hw.w 5 rfl) (hw.w 2 rfl) (hw.w 6 rfl) e175 rfl rfl (by rw [hml]; rfl) (rest := [.ref b104]) (lenOf own_pd44 rfl) rfl (hb hby at_57) (W := 1) (show 2 * 0 + _ = _ from rfl) (by decide) (by decide) rfl ?_
      rintro _ T197 L197 X197 ⟨t_197, kt_197, rfl, N197q, K197q, Q197_0, Q197_1, Q197_2, Q197_3, x197_0⟩
      have N197 := Fr.app N175 N197q
      have hk := Nat.le_trans hk K197q.1
      have S_205 := own_Sta_keep S_177 K197q (allS (own_plain E_190) all0)
      have S_206 := own_Sta_keep S_178 K197q (allS (own_plain E_190) all0)
      have S_207 := own_Sta_keep S_179 K197q (allS (own_plain E_190) all0)
      have E_208 := E_180.keep K197q
      have F_209 := F_181.keep K197q (ninS ne_es_b104_105 nin0)
      have S_210 := own_Sta_keep S_182 K197q (allS (own_plain E_190) all0)
      have E_211 := E_183.keep K197q
      have F_212 := F_184.keep K197q (ninS ne_an_b104_106 nin0)
      have E_213 := E_185.keep K197q
      have F_214 := F_186.keep K197q (ninS ne_ar_b104_107 nin0)
      have E_215 := E_187.keep K197q
      have S_216 := own_Sta_keep S_188 K197q (allS (own_plain E_190) all0)
      have C224 := CHr.trans C195 (CHr.keep K197q (allS Y_189 all0) C195.1)
      have K225 : Keep h0 T197.heap [] := K196.trans K197q (allS (Or.inr sz_b104) all0)
      refine own_go (B := T197.setTop (mkF m 80 #[Si p1, Si p2, Si p3, Si p4, Si ra, Si rb, Si 1, Sr b104, Su, Su, Su, Su, Su, Su, Su, Su, Su, Su, Su, Su, Su, Su, Su, Su] [])) (fun _ k => XS.goto X197.here hx rfl (pc0 := 60) (pc' := 78) rfl (hb hby at_60) (by decide) (by decide) (XS.astore X197.here hx rfl (hb hby at_78) rfl rfl (l' := #[Si p1, Si p2, Si p3, Si p4, Si ra, Si rb, Si 1, Sr b104, Su, Su, Su, Su, Su, Su, Su, Su, Su, Su, Su, Su, Su, Su, Su, Su]) rfl k)) ?_
      exact own_s80 ⟨hw, hx, hby, hml, Bd.notSynchronized, Bd.returns, hS, X197.mono (by decide) (by decide), rfl, hk, hZ, hown, hEL, C224, Nat.le_trans Z0 K225.1, N197, K225⟩ (Si p1) p2 p3 p4 ra rb (1 : Int32) b104 t_197 kt_197 (2 : Int32) ([(.int (ra.toInt8.toInt32)), (.int (rb.toInt8.toInt32))]) cs em es an ar sf Q197_0 Q197_1 Q197_2 Q197_3 S_205 S_206 S_207 E_208 F_209 S_210 E_211 F_212 E_213 F_214 E_215 S_216 ne_em_b104_108 hl_ra hu_ra hl_rb hu_rb hcs hsf (Or.inr ⟨rfl, rfl, rfl⟩)
  refine own_go (B := s₁.setTop (mkF m 19 #[Si p1, Si p2, Si p3, Si p4, Si ((p1 &&& (255 : Int32)).toUInt32.toUInt16.toUInt32.toInt32), Si ((((p1.toUInt32 >>> ((8 : Int32) &&& 31).toUInt32).toInt32) &&& (255 : Int32)).toUInt32.toUInt16.toUInt32.toInt32), Su, Su, Su, Su, Su, Su, Su, Su, Su, Su, Su, Su, Su, Su, Su, Su, Su, Su] [])) (fun _ k => XS.iloadN X0.here hx rfl (hb hby at_0) rfl (XS.sipush X0.here hx rfl (hb hby at_1) (XS.iand X0.here hx rfl (hb hby at_4) rfl (XS.i2c X0.here hx rfl (hb hby at_5) rfl (XS.istore X0.here hx rfl (hb hby at_6) rfl (l' := #[Si p1, Si p2, Si p3, Si p4, Si ((p1 &&& (255 : Int32)).toUInt32.toUInt16.toUInt32.toInt32), Su, Su, Su, Su, Su, Su, Su, Su, Su, Su, Su, Su, Su, Su, Su, Su, Su, Su, Su]) rfl (XS.iloadN X0.here hx rfl (hb hby at_8) rfl (XS.bipush X0.here hx rfl (hb hby at_9) (XS.iushr X0.here hx rfl (hb hby at_11) rfl (XS.sipush X0.here hx rfl (hb hby at_12) (XS.iand X0.here hx rfl (hb hby at_15) rfl (XS.i2c X0.here hx rfl (hb hby at_16) rfl (XS.istore X0.here hx rfl (hb hby at_17) rfl (l' := #[Si p1, Si p2, Si p3, Si p4, Si ((p1 &&& (255 : Int32)).toUInt32.toUInt16.toUInt32.toInt32), Si ((((p1.toUInt32 >>> ((8 : Int32) &&& 31).toUInt32).toInt32) &&& (255 : Int32)).toUInt32.toUInt16.toUInt32.toInt32), Su, Su, Su, Su, Su, Su, Su, Su, Su, Su, Su, Su, Su, Su, Su, Su, Su, Su]) rfl k)))))))))))) ?_
  exact J1 ((p1 &&& (255 : Int32)).toUInt32.toUInt16.toUInt32.toInt32) ((((p1.toUInt32 >>> ((8 : Int32) &&& 31).toUInt32).toInt32) &&& (255 : Int32)).toUInt32.toUInt16.toUInt32.toInt32) (own_pl_rm0_1 p1) (own_pl_rm0_2 p1) (own_pl_rm0_3 p1) (own_pl_rm0_4 p1)
theorem own_stx {args : Array Value} {s : State} {C f d K : String} (hex : (Cond.exactly (Term.static C f d) K).value args s none s [] = some true) (hi : (Cond.initializedFor C f d).before args s = true ∨ ((Cond.initialized C).before args s = true ∧ (Cond.laysStatic C f d).before args s = true)) : ∃ a, Sta s s.heap C f d (.ref a) ∧ Exa s s.heap a K ∧ (Term.static C f d).eval args s none [] s = some (.ref a) := by
  obtain ⟨a, c, cell, k, e1, -⟩ := Cond.exactly_spec (Cond.before_iff.mpr hex)
  exact ⟨a, Sta.start e1 hi, Exa.start e1 hex, e1⟩
theorem own_fev {args : Array Value} {s : State} {t : Term} {C n d : String} {a : Addr} (e1 : t.eval args s none [] s = some (.ref a)) : (Term.field t C n d).eval args s none [] s = s.fieldOf? a C n d := by
  show (do let v ← t.eval args s none [] s; _) = _
  rw [e1]; rfl
theorem own_fldx {args : Array Value} {s : State} {t : Term} {C n d K : String} {a : Addr} (e1 : t.eval args s none [] s = some (.ref a)) (hex : (Cond.exactly (Term.field t C n d) K).value args s none s [] = some true) : ∃ b, Fld s s.heap a C n d (.ref b) ∧ Exa s s.heap b K ∧ (Term.field t C n d).eval args s none [] s = some (.ref b) := by
  obtain ⟨b, c, cell, k, e2, -⟩ := Cond.exactly_spec (Cond.before_iff.mpr hex)
  exact ⟨b, Fld.start ((own_fev e1).symm.trans e2), Exa.start e2 hex, e2⟩
theorem own_fldI {args : Array Value} {s : State} {t : Term} {C n d : String} {a : Addr} {z : Int32} (e1 : t.eval args s none [] s = some (.ref a)) (h : (Cond.eq (Term.field t C n d) (Term.int z)).value args s none s [] = some true) : Fld s s.heap a C n d (.int z) := by
  have e2 := own_fev (C := C) (n := n) (d := d) e1
  refine Fld.start ?_
  simp only [Cond.value, e2] at h
  cases hq : s.fieldOf? a C n d with
  | none => rw [hq] at h; cases h
  | some v =>
    rw [hq] at h
    cases v <;> simp [Term.eval] at h
    rw [h]
theorem own_sub : ∀ q ∈ own_EL, q ∈ consts_1 := fun q hq => by
  rcases List.mem_cons.mp hq with rfl | hq
  · exact List.mem_of_getElem? (i := 0) rfl
  rcases List.mem_cons.mp hq with rfl | hq
  · exact List.mem_of_getElem? (i := 2) rfl
  cases hq
set_option maxRecDepth 65536 in
set_option maxHeartbeats 40000000 in
theorem comes_1 {Post : Tables → Env → Array Value → State → Outcome → State → Prop} (hpost : ∀ tb e args s v u, (limb_1_1.after args s (.returned v) u = true ∧ limb_1_2.after args s (.returned v) u = true ∧ True) → ReturnedEndW s (.returned v) u (Jvm.fieldLocs frame_1_writes args s ++ Jvm.arrayLocs frame_1_arrays args s ++ Jvm.staticLocs frame_1_statics s) 64 4352 → Post tb e args s (.returned v) u) :
    ArmFor flags0 classFile x code maxLocals ret World_1 tables_1 room_1 Calls_1 rest_1 Pre_1 Post := by
  intro l hfl _ _ p e ha hc hk s m args below hf hA hF happ hP
  obtain ⟨hcalls, hrest, hpre⟩ := hP
  obtain ⟨-, -, -, hnamed, -, -, -, hat⟩ := (Spec.applies_iff hf).mp happ
  obtain ⟨hg, hn⟩ := and_e (Cond.before_iff.mp (show (Jvm.Cond.and given_1 narrow_1).before args s = true from hpre))
  obtain ⟨gg1, gg2⟩ := and_e hg
  obtain ⟨gg3, gg4⟩ := and_e gg2
  obtain ⟨gg5, gg6⟩ := and_e gg4
  obtain ⟨gg7, gg8⟩ := and_e gg6
  obtain ⟨w0, w1, w2, w3, rfl⟩ : ∃ w0 w1 w2 w3 : Value, args = #[w0, w1, w2, w3] := by
    have hs : args.size = 4 := by simpa [Cond.value, given_1] using gg1
    obtain ⟨L⟩ := args
    match L, hs with
    | [w0, w1, w2, w3], _ => exact ⟨w0, w1, w2, w3, rfl⟩
  have hw := fun d (hd : d ∈ tables_1) => atoms_spec (ws := Jvm.Cond.code x code maxLocals ret :: tables_1) hat d (List.mem_cons_of_mem _ hd)
  have hfit : Fit s := fun {y c} hc i hi => by
    obtain ⟨ha, rfl⟩ := Array.getElem?_eq_some_iff.mp hc
    have q := List.all_eq_true.mp ((Array.all_eq_true_iff_forall_mem.mp hF) _ (Array.getElem_mem ha)) i (List.mem_range.mpr hi)
    simpa [Array.getElem?_eq_getElem hi] using q
  obtain ⟨hsets, hown0⟩ := atoms_of _ (rest_1_c_eq ▸ (show rest_1_c.before _ s = true from hrest))
  have hr0 := Cond.before_iff.mp hown0
  obtain ⟨i0, ei0⟩ := is_v gg3
  obtain rfl : w0 = (.int i0) := Option.some.inj ei0
  obtain ⟨i1, ei1⟩ := is_v gg5
  obtain rfl : w1 = (.int i1) := Option.some.inj ei1
  obtain ⟨i2, ei2⟩ := is_v gg7
  obtain rfl : w2 = (.int i2) := Option.some.inj ei2
  obtain ⟨i3, ei3⟩ := is_v gg8
  obtain rfl : w3 = (.int i3) := Option.some.inj ei3
  have hw : own_HW _ s := hw
  obtain ⟨cs, Scs, hcs⟩ := own_cs (hsets _ (List.mem_of_getElem? (i := 0) rfl)) (hsets _ (List.mem_of_getElem? (i := 1) rfl)) (hsets _ (List.mem_of_getElem? (i := 2) rfl))
  obtain ⟨em, Sem, Eem, -⟩ := own_stx (Cond.before_iff.mp (hsets _ (List.mem_of_getElem? (i := 11) rfl))) (Or.inl (hsets _ (List.mem_of_getElem? (i := 10) rfl)))
  obtain ⟨es, Ses, Ees, ees⟩ := own_stx (Cond.before_iff.mp (hsets _ (List.mem_of_getElem? (i := 20) rfl))) (Or.inl (hsets _ (List.mem_of_getElem? (i := 19) rfl)))
  have Fes := own_fldI ees (Cond.before_iff.mp (hsets _ (List.mem_of_getElem? (i := 24) rfl)))
  obtain ⟨n1, n23⟩ := and_e hn
  obtain ⟨n2, n3⟩ := and_e n23
  obtain ⟨an, San, Ean, ean⟩ := own_stx n1 (Or.inr ⟨(hw.w 72 rfl), (hw.w 398 rfl)⟩)
  obtain ⟨ar, Far, Ear, ear⟩ := own_fldx ean n2
  have Fas := own_fldI ear n3
  obtain ⟨sf, esf, hsf⟩ := Cond.isRef_spec (show (Cond.isRef (Term.static "jdk/internal/util/Preconditions" "SIOOBE_FORMATTER" "Ljava/util/function/BiFunction;")).holds _ s none s [] = true from (hsets _ (List.mem_of_getElem? (i := 8) rfl)))
  have Ssf := Sta.start esf (Or.inl (hsets _ (List.mem_of_getElem? (i := 7) rfl)))
  have hCH : CHv s own_EL s.vm s.heap := CHv.start (own_ELok hw) (fun q hq => hcalls.1 q (own_sub q hq)) (hsets _ (List.mem_of_getElem? (i := 2) rfl)) (hw.w 19 rfl) (hw.w 1 rfl)
  obtain ⟨n, o, h1, h2, h3, _, L, rfl, ⟨rfl, N, _⟩, hq⟩ := own_rm0 l s _ hw tables_1 i0 i1 i2 i3 cs em es an ar sf s.heap s.heap.size (Nat.le_refl _) Sem Ses Ees Fes San Ean Far Ear Fas Eem Ssf Scs hcs hsf p e ha hc hk s m _ below hf ((Spec.applies_iff_loose hf).mp happ).1 ⟨rfl, State.Warmed39.refl s, rfl, hCH⟩ trivial
  refine ⟨n, _, h1, h2, h3, hpost _ _ _ _ _ _ ⟨Cond.after_iff.mpr rfl, Cond.after_iff.mpr (eq_i res_at (Term.int_eval (1)) rfl), trivial⟩ ⟨hq.1, hq.2.1, hq.2.2.1, (hq.2.2.2.sift fun y hy => Or.inr (N y hy)).mono (by decide) (by decide)⟩⟩
theorem main_1_1 : Claimed_1_1 := comes_1 fun _ _ _ _ _ _ h hF => ⟨h.1, hF⟩
theorem main_1_2 : Claimed_1_2 := comes_1 fun _ _ _ _ _ _ h hF => ⟨h.2.1, hF⟩
end Jvm.Pilot.@@N@@
namespace Jvm.Pilot.@@N@@
open Jvm Jvm.ClassFile Sem Op Lib Jvm.Free Jvm.Stand Jvm.Pilot.@@N@@.Jvm.D
/-! MADE BY PROGRAM (witnessworld.py) out of the Statement's table words and the real class files: 51 classes; the members and pool entries that the words name. The judged class is class 1, her method 1. -/
namespace start1
set_option maxRecDepth 65536
open Jvm.ClassFile
def u (s : String) : CpInfo := .utf8 (stringToUtf16 s)
/-- a pool by its gaps: so many unusable entries, then the entry; so many at the end -/
def gap : Nat → List CpInfo → List CpInfo
  | 0, r => r
  | n + 1, r => .unusable :: gap n r
def poolList (es : List (Nat × CpInfo)) (last : Nat) : List CpInfo := es.foldr (fun e r => gap e.1 (e.2 :: r)) (gap last [])
def pool (es : List (Nat × CpInfo)) (last : Nat) : Array CpInfo := ⟨poolList es last⟩
def fileOf (pool : Array CpInfo) (this : Nat) (attrs : Array Attribute := #[]) (ms : Array MethodInfo := #[]) (fl : Nat := 33) (sup : Nat := 0) (ifs : Array Nat := #[]) (fds : Array FieldInfo := #[]) : ClassFile where
  minorVersion := 0
  majorVersion := 65
  constantPool := pool
  accessFlags := fl
  thisClass := this
  superClass := sup
  interfaces := ifs
  fields := fds
  methods := ms
  attributes := attrs
def plain (name : String) (sup : Option ClassId) : Class where
  name := name
  kind := .ordinary
  loader := none
  accessFlags := 33
  super := sup
  interfaces := #[]
  cf := none
  fields := #[]
  methods := #[]
  instanceTypes := #[]
  staticTypes := #[]
  resolved := #[]
  callSites := []
  init := .initialized
  statics := none
  mirror := none
def pool0 : Array CpInfo := pool [(5, u "<init>"), (0, u "()V"), (1, .class_ 10), (1, u "java/lang/Object"), (81, u "equals"), (0, u "(Ljava/lang/Object;)Z")] 30
def k0c0 : Code := .mk 0 1 object_method_1_code #[] #[]
def k0m0 : Method := .mk "<init>" "()V" ⟨[], none⟩ 1 (some k0c0)
def k0c1 : Code := .mk 2 2 object_method_4_code #[] #[]
def k0m1 : Method := .mk "equals" "(Ljava/lang/Object;)Z" ⟨[(.object "java/lang/Object")], some .boolean⟩ 1 (some k0c1)
/-- java/lang/Object -/
def k0 : Class := { plain "java/lang/Object" none with
  accessFlags := 33
  interfaces := #[]
  cf := some (fileOf pool0 8 #[] #[.mk 1 5 6 #[], .mk 1 92 93 #[]] 33 0 #[] #[])
  fields := #[]
  methods := #[k0m0, k0m1]
  instanceTypes := #[]
  staticTypes := #[]
  resolved := Array.replicate 124 none
  statics := none }
def pool1 : Array CpInfo := pool [(2, .class_ 4), (1, u "java/lang/Object"), (0, u "<init>"), (0, u "()V"), (0, .class_ 8), (0, u "java/lang/String"), (0, .methodref 7 10), (0, .nameAndType 5 11), (0, u "([C)V"), (0, .methodref 13 14), (0, .class_ 15), (0, .nameAndType 16 17), (0, u "com/example/aduana/aduana/core/Authentication"), (0, u "anonymous"), (0, u "()Lcom/example/aduana/aduana/core/Authentication;"), (0, .interfaceMethodref 19 20), (0, .class_ 21), (0, .nameAndType 22 23), (0, u "java/util/Set"), (0, u "of"), (0, u "()Ljava/util/Set;"), (0, .interfaceMethodref 19 25), (0, .nameAndType 22 26), (0, u "(Ljava/lang/Object;)Ljava/util/Set;"), (0, .interfaceMethodref 19 28), (0, .nameAndType 22 29), (0, u "(Ljava/lang/Object;Ljava/lang/Object;)Ljava/util/Set;"), (0, .methodref 13 31), (0, .nameAndType 5 32), (0, u "(Ljava/lang/String;Ljava/util/Set;)V"), (0, .methodref 34 35), (0, .class_ 36), (0, .nameAndType 37 38), (0, u "com/example/aduana/aduana/core/AccessDecision"), (0, u "hasRole"), (0, u "(Ljava/lang/String;)Lcom/example/aduana/aduana/core/AccessDecision;"), (0, .methodref 34 40), (0, .nameAndType 41 42), (0, u "isGranted"), (0, u "(Lcom/example/aduana/aduana/core/Authentication;)Z"), (0, .methodref 34 44), (0, .nameAndType 45 46), (0, u "toString"), (0, u "()Ljava/lang/String;"), (0, .methodref 7 48), (0, .nameAndType 49 50), (0, u "length"), (0, u "()I"), (0, .string 52), (0, u "has role "), (0, .methodref 7 54), (0, .nameAndType 55 56), (0, u "charAt"), (0, u "(I)C"), (0, .class_ 58), (0, u "com/example/aduana/aduana/core/AccessDecisionHasRolePinLaw"), (2, u "law"), (0, u "(IIII)Z")] 3
def k1m0 : Method := .mk "<init>" "()V" ⟨[], none⟩ 1 none
def k1c1 : Code := .mk 9 24 code #[] #[]
def k1m1 : Method := .mk "law" "(IIII)Z" ⟨[.int, .int, .int, .int], some .boolean⟩ 9 (some k1c1)
/-- com/example/aduana/aduana/core/AccessDecisionHasRolePinLaw -/
def k1 : Class := { plain "com/example/aduana/aduana/core/AccessDecisionHasRolePinLaw" (some 0) with
  accessFlags := 49
  interfaces := #[]
  cf := some (fileOf pool1 57 #[] #[.mk 1 5 6 #[], .mk 9 61 62 #[]] 49 2 #[] #[])
  fields := #[]
  methods := #[k1m0, k1m1]
  instanceTypes := #[]
  staticTypes := #[]
  resolved := Array.replicate 66 none
  statics := none }
def pool2 : Array CpInfo := pool [(1, .class_ 2), (0, u "java/io/Serializable"), (0, .class_ 4), (0, u "java/lang/Object")] 2
/-- java/io/Serializable -/
def k2 : Class := { plain "java/io/Serializable" (some 0) with
  accessFlags := 1537
  interfaces := #[]
  cf := some (fileOf pool2 1 #[] #[] 1537 3 #[] #[])
  fields := #[]
  methods := #[]
  instanceTypes := #[]
  staticTypes := #[]
  resolved := Array.replicate 7 none
  statics := none }
def pool3 : Array CpInfo := pool [(1, .class_ 2), (0, u "java/lang/Comparable"), (0, .class_ 4), (0, u "java/lang/Object")] 7
/-- java/lang/Comparable -/
def k3 : Class := { plain "java/lang/Comparable" (some 0) with
  accessFlags := 1537
  interfaces := #[]
  cf := some (fileOf pool3 1 #[] #[] 1537 3 #[] #[])
  fields := #[]
  methods := #[]
  instanceTypes := #[]
  staticTypes := #[]
  resolved := Array.replicate 12 none
  statics := none }
def pool4 : Array CpInfo := pool [(2, .class_ 4), (1, u "java/lang/CharSequence"), (42, .class_ 48), (0, u "java/lang/CharSequence$1CodePointIterator"), (10, .class_ 60), (0, u "java/lang/CharSequence$1CharIterator"), (5, .class_ 67), (0, u "java/lang/Object")] 63
/-- java/lang/CharSequence -/
def k4 : Class := { plain "java/lang/CharSequence" (some 0) with
  accessFlags := 1537
  interfaces := #[]
  cf := some (fileOf pool4 2 #[.nestMembers #[47, 59]] #[] 1537 66 #[] #[])
  fields := #[]
  methods := #[]
  instanceTypes := #[]
  staticTypes := #[]
  resolved := Array.replicate 131 none
  statics := none }
def pool5 : Array CpInfo := pool [(1, .class_ 2), (0, u "java/lang/constant/Constable"), (0, .class_ 4), (0, u "java/lang/Object")] 6
/-- java/lang/constant/Constable -/
def k5 : Class := { plain "java/lang/constant/Constable" (some 0) with
  accessFlags := 1537
  interfaces := #[]
  cf := some (fileOf pool5 1 #[] #[] 1537 3 #[] #[])
  fields := #[]
  methods := #[]
  instanceTypes := #[]
  staticTypes := #[]
  resolved := Array.replicate 11 none
  statics := none }
def pool6 : Array CpInfo := pool [(1, .class_ 2), (0, u "java/lang/constant/ConstantDesc"), (0, .class_ 4), (0, u "java/lang/Object")] 32
/-- java/lang/constant/ConstantDesc -/
def k6 : Class := { plain "java/lang/constant/ConstantDesc" (some 0) with
  accessFlags := 1537
  interfaces := #[]
  cf := some (fileOf pool6 1 #[] #[] 1537 3 #[] #[])
  fields := #[]
  methods := #[]
  instanceTypes := #[]
  staticTypes := #[]
  resolved := Array.replicate 37 none
  statics := none }
def pool7 : Array CpInfo := pool [(1, .methodref 2 3), (0, .class_ 4), (0, .nameAndType 5 6), (0, u "java/lang/Object"), (0, u "<init>"), (0, u "()V"), (2, .fieldref 10 11), (0, .class_ 12), (0, .nameAndType 13 14), (0, u "java/lang/String"), (0, u "value"), (0, u "[B"), (0, .fieldref 10 16), (0, .nameAndType 17 18), (0, u "coder"), (0, u "B"), (2, u "hash"), (0, u "I"), (2, u "hashIsZero"), (0, u "Z"), (0, .methodref 10 28), (0, .nameAndType 5 29), (0, u "([CIILjava/lang/Void;)V"), (8, .fieldref 10 39), (0, .nameAndType 40 26), (0, u "COMPACT_STRINGS"), (1, .class_ 44), (1, u "java/lang/StringUTF16"), (0, u "compress"), (1, .methodref 42 48), (0, .nameAndType 49 50), (0, u "coderFromArrayLen"), (0, u "([BI)B"), (3, .methodref 55 56), (0, .class_ 57), (0, .nameAndType 58 59), (0, u "java/util/Arrays"), (0, u "copyOfRange"), (0, u "([BII)[B"), (47, .class_ 109), (1, u "java/lang/StringLatin1"), (32, u "()Z"), (34, .methodref 42 178), (0, .nameAndType 45 179), (0, u "([CII)[B"), (13, .class_ 195), (1, u "java/lang/System"), (16, .methodref 193 213), (0, .nameAndType 214 215), (0, u "arraycopy"), (0, u "(Ljava/lang/Object;ILjava/lang/Object;II)V"), (118, u "()I"), (0, .methodref 10 336), (0, .nameAndType 17 337), (0, u "()B"), (2, u "()[B"), (22, u "([BI)C"), (27, u "(II)V"), (35, u "(I)C"), (61, .methodref 10 490), (0, .nameAndType 5 491), (0, u "(Ljava/lang/AbstractStringBuilder;Ljava/lang/Void;)V"), (0, .methodref 10 493), (0, .nameAndType 494 142), (0, u "isLatin1"), (0, .methodref 107 496), (0, .nameAndType 497 363), (0, u "charAt"), (3, u "checkIndex"), (4, .nameAndType 507 334), (0, u "length"), (24, u "getBytes"), (8, .methodref 107 542), (0, .nameAndType 543 544), (0, u "equals"), (0, u "([B[B)Z"), (4, .methodref 550 506), (0, .class_ 551), (0, u "java/lang/AbstractStringBuilder"), (0, .methodref 550 553), (0, .nameAndType 554 340), (0, u "getValue"), (18, u "(Ljava/lang/Object;)Z"), (1, .class_ 576), (0, u "java/lang/CharSequence"), (22, u "CASE_INSENSITIVE_ORDER"), (0, u "Ljava/util/Comparator;"), (220, u "([BIB)V"), (188, u "([C)V"), (36, .methodref 550 493), (5, .fieldref 1054 1055), (0, .class_ 1056), (0, .nameAndType 1057 1058), (0, u "jdk/internal/util/Preconditions"), (0, u "SIOOBE_FORMATTER"), (0, u "Ljava/util/function/BiFunction;"), (0, .methodref 1054 1060), (0, .nameAndType 501 1061), (0, u "(IILjava/util/function/BiFunction;)I"), (39, u "serialPersistentFields"), (0, u "[Ljava/io/ObjectStreamField;"), (0, .class_ 1104), (0, u "java/lang/String$CaseInsensitiveComparator"), (1, .class_ 1107), (0, u "java/io/Serializable"), (0, .class_ 1109), (0, u "java/lang/Comparable"), (0, .class_ 1111), (0, u "java/lang/constant/Constable"), (0, .class_ 1113), (0, u "java/lang/constant/ConstantDesc"), (2, u "serialVersionUID"), (0, u "J"), (3, u "REPL"), (0, u "C"), (2, u "LATIN1"), (1, u "UTF16"), (105, u "(Ljava/lang/StringBuilder;)V")] 217
def k7m0 : Method := .mk "<init>" "()V" ⟨[], none⟩ 1 none
def k7c1 : Code := .mk 5 2 jdk_42_method_3_code #[] #[]
def k7m1 : Method := .mk "<init>" "([C)V" ⟨[(.array .char)], none⟩ 1 (some k7c1)
def k7c2 : Code := .mk 3 2 jdk_42_method_53_code #[] #[]
def k7m2 : Method := .mk "<init>" "(Ljava/lang/StringBuilder;)V" ⟨[(.object "java/lang/StringBuilder")], none⟩ 1 (some k7c2)
def k7c3 : Code := .mk 2 1 jdk_42_method_54_code #[] #[]
def k7m3 : Method := .mk "length" "()I" ⟨[], some .int⟩ 1 (some k7c3)
def k7c4 : Code := .mk 2 2 jdk_42_method_56_code #[] #[]
def k7m4 : Method := .mk "charAt" "(I)C" ⟨[.int], some .char⟩ 1 (some k7c4)
def k7c5 : Code := .mk 2 3 jdk_42_method_66_code #[] #[]
def k7m5 : Method := .mk "equals" "(Ljava/lang/Object;)Z" ⟨[(.object "java/lang/Object")], some .boolean⟩ 1 (some k7c5)
def k7c6 : Code := .mk 5 4 jdk_42_method_147_code #[] #[]
def k7m6 : Method := .mk "getBytes" "([BIB)V" ⟨[(.array .byte), .int, .byte], none⟩ 0 (some k7c6)
def k7c7 : Code := .mk 4 6 jdk_42_method_149_code #[] #[]
def k7m7 : Method := .mk "<init>" "([CIILjava/lang/Void;)V" ⟨[(.array .char), .int, .int, (.object "java/lang/Void")], none⟩ 2 (some k7c7)
def k7c8 : Code := .mk 5 5 jdk_42_method_150_code #[] #[]
def k7m8 : Method := .mk "<init>" "(Ljava/lang/AbstractStringBuilder;Ljava/lang/Void;)V" ⟨[(.object "java/lang/AbstractStringBuilder"), (.object "java/lang/Void")], none⟩ 0 (some k7c8)
def k7c9 : Code := .mk 1 1 jdk_42_method_152_code #[] #[]
def k7m9 : Method := .mk "coder" "()B" ⟨[], some .byte⟩ 0 (some k7c9)
def k7c10 : Code := .mk 1 1 jdk_42_method_154_code #[] #[]
def k7m10 : Method := .mk "isLatin1" "()Z" ⟨[], some .boolean⟩ 0 (some k7c10)
def k7c11 : Code := .mk 3 2 jdk_42_method_155_code #[] #[]
def k7m11 : Method := .mk "checkIndex" "(II)V" ⟨[.int, .int], none⟩ 8 (some k7c11)
/-- java/lang/String -/
def k7 : Class := { plain "java/lang/String" (some 0) with
  accessFlags := 49
  interfaces := #[2, 3, 4, 5, 6]
  cf := some (fileOf pool7 10 #[.nestMembers #[1103]] #[.mk 1 5 6 #[], .mk 1 5 1010 #[], .mk 1 5 1233 #[], .mk 1 507 334 #[], .mk 1 497 427 #[], .mk 1 543 573 #[], .mk 0 532 821 #[], .mk 2 5 29 #[], .mk 0 5 491 #[], .mk 0 17 337 #[], .mk 0 494 142 #[], .mk 8 501 391 #[]] 49 2 #[1106, 1108, 575, 1110, 1112] #[.mk 18 13 14 #[], .mk 18 17 18 #[], .mk 2 21 22 #[], .mk 2 25 26 #[], .mk 26 1116 1117 #[], .mk 24 40 26 #[], .mk 26 1101 1102 #[], .mk 26 1121 1122 #[], .mk 25 599 600 #[], .mk 24 1125 18 #[], .mk 24 1127 18 #[]])
  fields := #[.mk "value" (.array .byte) 18 0 0, .mk "coder" .byte 18 1 0, .mk "hash" .int 2 2 0, .mk "hashIsZero" .boolean 2 3 0, .mk "serialVersionUID" .long 26 0 0, .mk "COMPACT_STRINGS" .boolean 24 1 0, .mk "serialPersistentFields" (.array (.object "java/io/ObjectStreamField")) 26 2 0, .mk "REPL" .char 26 3 0, .mk "CASE_INSENSITIVE_ORDER" (.object "java/util/Comparator") 25 4 0, .mk "LATIN1" .byte 24 5 0, .mk "UTF16" .byte 24 6 0]
  methods := #[k7m0, k7m1, k7m2, k7m3, k7m4, k7m5, k7m6, k7m7, k7m8, k7m9, k7m10, k7m11]
  instanceTypes := #[(.array .byte), .byte, .int, .boolean]
  staticTypes := #[.long, .boolean, (.array (.object "java/io/ObjectStreamField")), .char, (.object "java/util/Comparator"), .byte, .byte]
  resolved := Array.replicate 1451 none
  statics := some 0 }
def pool8 : Array CpInfo := pool [(6, .class_ 8), (1, u "java/lang/Object"), (0, u "<init>"), (0, u "()V"), (1, .class_ 14), (1, u "java/lang/StringUTF16"), (31, u "$assertionsDisabled"), (0, u "Z"), (13, u "HI_BYTE_SHIFT"), (0, u "I"), (2, u "LO_BYTE_SHIFT"), (49, .methodref 12 116), (0, .nameAndType 117 118), (0, u "compress"), (0, u "([CI[BII)I"), (3, u "([CII)[B"), (138, u "coderFromArrayLen"), (0, u "([BI)B"), (106, .class_ 371), (1, u "java/lang/StringUTF16$LinesSpliterator"), (58, u "MAX_LENGTH"), (196, .class_ 628), (0, u "java/lang/StringUTF16$CodePointsSpliterator"), (0, .class_ 630), (0, u "java/lang/StringUTF16$CharsSpliterator")] 4
def k8m0 : Method := .mk "<init>" "()V" ⟨[], none⟩ 0 none
def k8c1 : Code := .mk 2 2 jdk_52_method_15_code #[] #[]
def k8m1 : Method := .mk "coderFromArrayLen" "([BI)B" ⟨[(.array .byte), .int], some .byte⟩ 8 (some k8c1)
def k8c2 : Code := .mk 5 6 jdk_52_method_16_code #[] #[]
def k8m2 : Method := .mk "compress" "([CII)[B" ⟨[(.array .char), .int, .int], some (.array .byte)⟩ 9 (some k8c2)
def k8c3 : Code := .mk 3 7 jdk_52_method_21_code #[] #[]
def k8m3 : Method := .mk "compress" "([CI[BII)I" ⟨[(.array .char), .int, (.array .byte), .int, .int], some .int⟩ 9 (some k8c3)
/-- java/lang/StringUTF16 -/
def k8 : Class := { plain "java/lang/StringUTF16" (some 0) with
  accessFlags := 48
  interfaces := #[]
  cf := some (fileOf pool8 12 #[.nestMembers #[627, 629, 369]] #[.mk 0 9 10 #[], .mk 8 261 262 #[], .mk 9 117 122 #[], .mk 9 117 118 #[]] 48 6 #[] #[.mk 26 61 62 #[], .mk 26 65 62 #[], .mk 24 430 62 #[], .mk 4120 46 47 #[]])
  fields := #[.mk "HI_BYTE_SHIFT" .int 26 0 0, .mk "LO_BYTE_SHIFT" .int 26 1 0, .mk "MAX_LENGTH" .int 24 2 0, .mk "$assertionsDisabled" .boolean 4120 3 0]
  methods := #[k8m0, k8m1, k8m2, k8m3]
  instanceTypes := #[]
  staticTypes := #[.int, .int, .int, .boolean]
  resolved := Array.replicate 635 none
  statics := none }
def pool9 : Array CpInfo := pool [(8, .class_ 10), (1, u "java/lang/Iterable"), (24, .class_ 36), (0, u "java/lang/Object")] 25
/-- java/lang/Iterable -/
def k9 : Class := { plain "java/lang/Iterable" (some 0) with
  accessFlags := 1537
  interfaces := #[]
  cf := some (fileOf pool9 8 #[] #[] 1537 35 #[] #[])
  fields := #[]
  methods := #[]
  instanceTypes := #[]
  staticTypes := #[]
  resolved := Array.replicate 62 none
  statics := none }
def pool10 : Array CpInfo := pool [(10, .class_ 12), (1, u "java/util/Collection"), (10, u "iterator"), (0, u "()Ljava/util/Iterator;"), (15, u "(Ljava/lang/Object;)Z"), (19, .class_ 61), (0, u "java/lang/Object"), (0, .class_ 63), (0, u "java/lang/Iterable"), (3, u "contains")] 47
def k10m0 : Method := .mk "contains" "(Ljava/lang/Object;)Z" ⟨[(.object "java/lang/Object")], some .boolean⟩ 1025 none
def k10m1 : Method := .mk "iterator" "()Ljava/util/Iterator;" ⟨[], some (.object "java/util/Iterator")⟩ 1025 none
/-- java/util/Collection -/
def k10 : Class := { plain "java/util/Collection" (some 0) with
  accessFlags := 1537
  interfaces := #[9]
  cf := some (fileOf pool10 10 #[] #[.mk 1025 67 40 #[], .mk 1025 23 24 #[]] 1537 60 #[62] #[])
  fields := #[]
  methods := #[k10m0, k10m1]
  instanceTypes := #[]
  staticTypes := #[]
  resolved := Array.replicate 115 none
  statics := none }
def pool11 : Array CpInfo := pool [(9, .fieldref 10 11), (0, .class_ 12), (0, .nameAndType 13 14), (0, u "java/util/ImmutableCollections"), (0, u "EMPTY_SET"), (0, u "Ljava/util/ImmutableCollections$SetN;"), (0, .class_ 16), (0, u "java/util/ImmutableCollections$Set12"), (0, .methodref 15 18), (0, .nameAndType 19 20), (0, u "<init>"), (0, u "(Ljava/lang/Object;)V"), (0, .methodref 15 22), (0, .nameAndType 19 23), (0, u "(Ljava/lang/Object;Ljava/lang/Object;)V"), (2, .class_ 27), (0, u "java/lang/Object"), (3, .class_ 32), (0, u "java/util/ImmutableCollections$AbstractImmutableSet"), (0, .class_ 34), (0, u "java/util/Set"), (1, .class_ 38), (1, u "java/util/Collection"), (4, u "of"), (0, u "()Ljava/util/Set;"), (46, u "(Ljava/lang/Object;)Ljava/util/Set;"), (4, u "(Ljava/lang/Object;Ljava/lang/Object;)Ljava/util/Set;"), (34, u "copyOf"), (0, u "(Ljava/util/Collection;)Ljava/util/Set;")] 11
def k11c0 : Code := .mk 1 0 jdk_96_method_17_code #[] #[]
def k11m0 : Method := .mk "of" "()Ljava/util/Set;" ⟨[], some (.object "java/util/Set")⟩ 9 (some k11c0)
def k11c1 : Code := .mk 3 1 jdk_96_method_18_code #[] #[]
def k11m1 : Method := .mk "of" "(Ljava/lang/Object;)Ljava/util/Set;" ⟨[(.object "java/lang/Object")], some (.object "java/util/Set")⟩ 9 (some k11c1)
def k11c2 : Code := .mk 4 2 jdk_96_method_19_code #[] #[]
def k11m2 : Method := .mk "of" "(Ljava/lang/Object;Ljava/lang/Object;)Ljava/util/Set;" ⟨[(.object "java/lang/Object"), (.object "java/lang/Object")], some (.object "java/util/Set")⟩ 9 (some k11c2)
def k11c3 : Code := .mk 3 1 jdk_96_method_29_code #[] #[]
def k11m3 : Method := .mk "copyOf" "(Ljava/util/Collection;)Ljava/util/Set;" ⟨[(.object "java/util/Collection")], some (.object "java/util/Set")⟩ 9 (some k11c3)
/-- java/util/Set -/
def k11 : Class := { plain "java/util/Set" (some 0) with
  accessFlags := 1537
  interfaces := #[10]
  cf := some (fileOf pool11 33 #[] #[.mk 9 43 44 #[], .mk 9 43 91 #[], .mk 9 43 96 #[], .mk 9 131 132 #[]] 1537 26 #[36] #[])
  fields := #[]
  methods := #[k11m0, k11m1, k11m2, k11m3]
  instanceTypes := #[]
  staticTypes := #[]
  resolved := Array.replicate 144 none
  statics := none }
def pool12 : Array CpInfo := pool [(1, .methodref 2 3), (0, .class_ 4), (0, .nameAndType 5 6), (0, u "java/lang/Object"), (0, u "<init>"), (0, u "()V"), (1, .class_ 10), (1, u "java/util/AbstractCollection"), (0, u "size"), (0, u "()I"), (64, .class_ 78), (0, u "java/util/Collection")] 81
def k12c0 : Code := .mk 1 1 jdk_22_method_1_code #[] #[]
def k12m0 : Method := .mk "<init>" "()V" ⟨[], none⟩ 4 (some k12c0)
def k12m1 : Method := .mk "size" "()I" ⟨[], some .int⟩ 1025 none
/-- java/util/AbstractCollection -/
def k12 : Class := { plain "java/util/AbstractCollection" (some 0) with
  accessFlags := 1057
  interfaces := #[10]
  cf := some (fileOf pool12 8 #[] #[.mk 4 5 6 #[], .mk 1025 11 12 #[]] 1057 2 #[77] #[])
  fields := #[]
  methods := #[k12m0, k12m1]
  instanceTypes := #[]
  staticTypes := #[]
  resolved := Array.replicate 160 none
  statics := none }
def pool13 : Array CpInfo := pool [(1, .methodref 2 3), (0, .class_ 4), (0, .nameAndType 5 6), (0, u "java/util/AbstractCollection"), (0, u "<init>"), (0, u "()V"), (1, .class_ 10), (1, u "java/util/ImmutableCollections"), (2, .class_ 14), (0, u "java/util/ImmutableCollections$AbstractImmutableCollection")] 41
def k13c0 : Code := .mk 1 1 jdk_47_method_1_code #[] #[]
def k13m0 : Method := .mk "<init>" "()V" ⟨[], none⟩ 0 (some k13c0)
/-- java/util/ImmutableCollections$AbstractImmutableCollection -/
def k13 : Class := { plain "java/util/ImmutableCollections$AbstractImmutableCollection" (some 12) with
  accessFlags := 1056
  interfaces := #[]
  cf := some (fileOf pool13 13 #[.nestHost 8] #[.mk 0 5 6 #[]] 1056 2 #[] #[])
  fields := #[]
  methods := #[k13m0]
  instanceTypes := #[]
  staticTypes := #[]
  resolved := Array.replicate 56 none
  statics := none }
def pool14 : Array CpInfo := pool [(1, .methodref 2 3), (0, .class_ 4), (0, .nameAndType 5 6), (0, u "java/util/ImmutableCollections$AbstractImmutableCollection"), (0, u "<init>"), (0, u "()V"), (0, .class_ 8), (0, u "java/util/Set"), (7, .class_ 17), (0, u "java/util/ImmutableCollections$AbstractImmutableSet"), (43, .class_ 62), (0, u "java/util/ImmutableCollections")] 3
def k14c0 : Code := .mk 1 1 jdk_100_method_1_code #[] #[]
def k14m0 : Method := .mk "<init>" "()V" ⟨[], none⟩ 0 (some k14c0)
/-- java/util/ImmutableCollections$AbstractImmutableSet -/
def k14 : Class := { plain "java/util/ImmutableCollections$AbstractImmutableSet" (some 13) with
  accessFlags := 1056
  interfaces := #[11]
  cf := some (fileOf pool14 16 #[.nestHost 61] #[.mk 0 5 6 #[]] 1056 2 #[7] #[])
  fields := #[]
  methods := #[k14m0]
  instanceTypes := #[]
  staticTypes := #[]
  resolved := Array.replicate 66 none
  statics := none }
def pool15 : Array CpInfo := pool [(1, .methodref 2 3), (0, .class_ 4), (0, .nameAndType 5 6), (0, u "java/util/ImmutableCollections$AbstractImmutableSet"), (0, u "<init>"), (0, u "()V"), (0, .methodref 8 9), (0, .class_ 10), (0, .nameAndType 11 12), (0, u "java/util/Objects"), (0, u "requireNonNull"), (0, u "(Ljava/lang/Object;)Ljava/lang/Object;"), (0, .fieldref 14 15), (0, .class_ 16), (0, .nameAndType 17 18), (0, u "java/util/ImmutableCollections$Set12"), (0, u "e0"), (0, u "Ljava/lang/Object;"), (0, .fieldref 20 21), (0, .class_ 22), (0, .nameAndType 23 18), (0, u "java/util/ImmutableCollections"), (0, u "EMPTY"), (0, .fieldref 14 25), (0, .nameAndType 26 18), (0, u "e1"), (0, .methodref 28 29), (0, .class_ 30), (0, .nameAndType 31 32), (0, u "java/lang/Object"), (0, u "equals"), (0, u "(Ljava/lang/Object;)Z"), (64, .class_ 98), (0, u "java/io/Serializable"), (4, u "(Ljava/lang/Object;)V"), (8, u "(Ljava/lang/Object;Ljava/lang/Object;)V"), (4, u "contains")] 31
def k15c0 : Code := .mk 2 2 jdk_101_method_1_code #[] #[]
def k15m0 : Method := .mk "<init>" "(Ljava/lang/Object;)V" ⟨[(.object "java/lang/Object")], none⟩ 0 (some k15c0)
def k15c1 : Code := .mk 4 3 jdk_101_method_2_code #[] #[]
def k15m1 : Method := .mk "<init>" "(Ljava/lang/Object;Ljava/lang/Object;)V" ⟨[(.object "java/lang/Object"), (.object "java/lang/Object")], none⟩ 0 (some k15c1)
def k15c2 : Code := .mk 2 2 jdk_101_method_5_code #[] #[]
def k15m2 : Method := .mk "contains" "(Ljava/lang/Object;)Z" ⟨[(.object "java/lang/Object")], some .boolean⟩ 1 (some k15c2)
/-- java/util/ImmutableCollections$Set12 -/
def k15 : Class := { plain "java/util/ImmutableCollections$Set12" (some 14) with
  accessFlags := 48
  interfaces := #[2]
  cf := some (fileOf pool15 14 #[.nestHost 20] #[.mk 0 5 103 #[], .mk 0 5 112 #[], .mk 1 117 32 #[]] 48 2 #[97] #[.mk 18 17 18 #[], .mk 18 26 18 #[]])
  fields := #[.mk "e0" (.object "java/lang/Object") 18 0 0, .mk "e1" (.object "java/lang/Object") 18 1 0]
  methods := #[k15m0, k15m1, k15m2]
  instanceTypes := #[(.object "java/lang/Object"), (.object "java/lang/Object")]
  staticTypes := #[]
  resolved := Array.replicate 149 none
  statics := none }
def pool16 : Array CpInfo := pool [(2, .class_ 4), (1, u "java/lang/Object"), (0, u "<init>"), (0, u "()V"), (35, .class_ 44), (1, u "java/util/Objects"), (0, u "requireNonNull"), (0, u "(Ljava/lang/Object;)Ljava/lang/Object;"), (47, u "(Ljava/lang/Object;Ljava/lang/String;)Ljava/lang/Object;")] 89
def k16m0 : Method := .mk "<init>" "()V" ⟨[], none⟩ 2 none
def k16c1 : Code := .mk 2 1 jdk_31_method_10_code #[] #[]
def k16m1 : Method := .mk "requireNonNull" "(Ljava/lang/Object;)Ljava/lang/Object;" ⟨[(.object "java/lang/Object")], some (.object "java/lang/Object")⟩ 9 (some k16c1)
def k16c2 : Code := .mk 3 2 jdk_31_method_11_code #[] #[]
def k16m2 : Method := .mk "requireNonNull" "(Ljava/lang/Object;Ljava/lang/String;)Ljava/lang/Object;" ⟨[(.object "java/lang/Object"), (.object "java/lang/String")], some (.object "java/lang/Object")⟩ 9 (some k16c2)
/-- java/util/Objects -/
def k16 : Class := { plain "java/util/Objects" (some 0) with
  accessFlags := 49
  interfaces := #[]
  cf := some (fileOf pool16 42 #[] #[.mk 2 5 6 #[], .mk 9 45 46 #[], .mk 9 45 94 #[]] 49 2 #[] #[])
  fields := #[]
  methods := #[k16m0, k16m1, k16m2]
  instanceTypes := #[]
  staticTypes := #[]
  resolved := Array.replicate 184 none
  statics := none }
def pool17 : Array CpInfo := pool [(2, .class_ 4), (1, u "java/lang/Object"), (0, u "<init>"), (0, u "()V"), (3, .class_ 11), (0, u "java/util/ImmutableCollections$List12"), (0, .class_ 13), (0, u "java/util/ImmutableCollections$ListN"), (3, u "Z"), (29, .class_ 49), (1, u "java/util/ImmutableCollections"), (0, u "$assertionsDisabled"), (5, u "[Ljava/lang/Object;"), (5, u "EMPTY_LIST"), (0, u "Ljava/util/ImmutableCollections$ListN;"), (8, u "EMPTY_LIST_NULLS"), (22, u "SALT32L"), (0, u "J"), (2, u "REVERSE"), (6, u "archivedObjects"), (2, u "EMPTY"), (0, u "Ljava/lang/Object;"), (0, .class_ 112), (0, u "java/util/ImmutableCollections$SetN"), (5, u "EMPTY_SET"), (0, u "Ljava/util/ImmutableCollections$SetN;"), (0, .class_ 121), (0, u "java/util/ImmutableCollections$MapN"), (3, u "EMPTY_MAP"), (0, u "Ljava/util/ImmutableCollections$MapN;"), (4, u "EXPAND_FACTOR"), (0, u "I"), (36, .class_ 170), (0, u "java/util/ImmutableCollections$MapN$MapNIterator"), (0, .class_ 172), (0, u "java/util/ImmutableCollections$MapN$1"), (0, .class_ 174), (0, u "java/util/ImmutableCollections$Map1"), (0, .class_ 176), (0, u "java/util/ImmutableCollections$AbstractImmutableMap"), (0, .class_ 178), (0, u "java/util/ImmutableCollections$SetN$SetNIterator"), (0, .class_ 180), (0, u "java/util/ImmutableCollections$Set12"), (0, .class_ 182), (0, u "java/util/ImmutableCollections$Set12$1"), (0, .class_ 184), (0, u "java/util/ImmutableCollections$AbstractImmutableSet"), (0, .class_ 186), (0, u "java/util/ImmutableCollections$SubList"), (0, .class_ 188), (0, u "java/util/ImmutableCollections$ListItr"), (0, .class_ 190), (0, u "java/util/ImmutableCollections$AbstractImmutableList"), (0, .class_ 192), (0, u "java/util/ImmutableCollections$AbstractImmutableCollection"), (0, .class_ 194), (0, u "java/util/ImmutableCollections$Access"), (0, .class_ 196), (0, u "java/util/ImmutableCollections$Access$1")] 16
def k17m0 : Method := .mk "<init>" "()V" ⟨[], none⟩ 2 none
/-- java/util/ImmutableCollections -/
def k17 : Class := { plain "java/util/ImmutableCollections" (some 0) with
  accessFlags := 32
  interfaces := #[]
  cf := some (fileOf pool17 47 #[.nestMembers #[120, 169, 171, 173, 175, 111, 177, 179, 181, 183, 12, 10, 185, 187, 189, 191, 193, 195]] #[.mk 2 5 6 #[]] 32 2 #[] #[.mk 26 95 96 #[], .mk 26 99 17 #[], .mk 10 106 56 #[], .mk 26 109 110 #[], .mk 24 62 63 #[], .mk 24 72 63 #[], .mk 24 118 119 #[], .mk 24 125 126 #[], .mk 24 131 132 #[], .mk 4120 50 17 #[]])
  fields := #[.mk "SALT32L" .long 26 0 0, .mk "REVERSE" .boolean 26 1 0, .mk "archivedObjects" (.array (.object "java/lang/Object")) 10 2 0, .mk "EMPTY" (.object "java/lang/Object") 26 3 0, .mk "EMPTY_LIST" (.object "java/util/ImmutableCollections$ListN") 24 4 0, .mk "EMPTY_LIST_NULLS" (.object "java/util/ImmutableCollections$ListN") 24 5 0, .mk "EMPTY_SET" (.object "java/util/ImmutableCollections$SetN") 24 6 0, .mk "EMPTY_MAP" (.object "java/util/ImmutableCollections$MapN") 24 7 0, .mk "EXPAND_FACTOR" .int 24 8 0, .mk "$assertionsDisabled" .boolean 4120 9 0]
  methods := #[k17m0]
  instanceTypes := #[]
  staticTypes := #[.long, .boolean, (.array (.object "java/lang/Object")), (.object "java/lang/Object"), (.object "java/util/ImmutableCollections$ListN"), (.object "java/util/ImmutableCollections$ListN"), (.object "java/util/ImmutableCollections$SetN"), (.object "java/util/ImmutableCollections$MapN"), .int, .boolean]
  resolved := Array.replicate 213 none
  statics := some 1 }
def pool18 : Array CpInfo := pool [(13, .class_ 14), (0, u "java/security/Principal"), (0, .class_ 16), (0, u "java/lang/Object")] 18
/-- java/security/Principal -/
def k18 : Class := { plain "java/security/Principal" (some 0) with
  accessFlags := 1537
  interfaces := #[]
  cf := some (fileOf pool18 13 #[] #[] 1537 15 #[] #[])
  fields := #[]
  methods := #[]
  instanceTypes := #[]
  staticTypes := #[]
  resolved := Array.replicate 35 none
  statics := none }
def pool19 : Array CpInfo := pool [(1, .methodref 2 3), (0, .class_ 4), (0, .nameAndType 5 6), (0, u "com/example/aduana/aduana/core/Authentication"), (0, u "<init>"), (0, u "(Ljava/lang/String;Ljava/util/Set;Z)V"), (0, .methodref 8 9), (0, .class_ 10), (0, .nameAndType 5 11), (0, u "java/lang/Object"), (0, u "()V"), (0, .string 13), (0, u "name"), (0, .methodref 15 16), (0, .class_ 17), (0, .nameAndType 18 19), (0, u "java/util/Objects"), (0, u "requireNonNull"), (0, u "(Ljava/lang/Object;Ljava/lang/String;)Ljava/lang/Object;"), (0, .class_ 21), (0, u "java/lang/String"), (0, .fieldref 2 23), (0, .nameAndType 13 24), (0, u "Ljava/lang/String;"), (0, .interfaceMethodref 26 27), (0, .class_ 28), (0, .nameAndType 29 30), (0, u "java/util/Set"), (0, u "copyOf"), (0, u "(Ljava/util/Collection;)Ljava/util/Set;"), (0, .fieldref 2 32), (0, .nameAndType 33 34), (0, u "roles"), (0, u "Ljava/util/Set;"), (0, .fieldref 2 36), (0, .nameAndType 37 38), (0, u "anonymous"), (0, u "Z"), (0, .fieldref 2 40), (0, .nameAndType 41 42), (0, u "ANONYMOUS"), (0, u "Lcom/example/aduana/aduana/core/Authentication;"), (4, u "()Ljava/util/Set;"), (0, .class_ 49), (0, u "java/security/Principal"), (0, .class_ 51), (0, u "java/io/Serializable"), (0, u "serialVersionUID"), (0, u "J"), (5, u "(Ljava/lang/String;Ljava/util/Set;)V"), (4, u "()Lcom/example/aduana/aduana/core/Authentication;"), (2, u "getRoles")] 6
def k19c0 : Code := .mk 4 3 prog_11_method_1_code #[] #[]
def k19m0 : Method := .mk "<init>" "(Ljava/lang/String;Ljava/util/Set;)V" ⟨[(.object "java/lang/String"), (.object "java/util/Set")], none⟩ 1 (some k19c0)
def k19c1 : Code := .mk 3 4 prog_11_method_2_code #[] #[]
def k19m1 : Method := .mk "<init>" "(Ljava/lang/String;Ljava/util/Set;Z)V" ⟨[(.object "java/lang/String"), (.object "java/util/Set"), .boolean], none⟩ 2 (some k19c1)
def k19c2 : Code := .mk 1 0 prog_11_method_3_code #[] #[]
def k19m2 : Method := .mk "anonymous" "()Lcom/example/aduana/aduana/core/Authentication;" ⟨[], some (.object "com/example/aduana/aduana/core/Authentication")⟩ 9 (some k19c2)
def k19c3 : Code := .mk 1 1 prog_11_method_5_code #[] #[]
def k19m3 : Method := .mk "getRoles" "()Ljava/util/Set;" ⟨[], some (.object "java/util/Set")⟩ 1 (some k19c3)
/-- com/example/aduana/aduana/core/Authentication -/
def k19 : Class := { plain "com/example/aduana/aduana/core/Authentication" (some 0) with
  accessFlags := 49
  interfaces := #[18, 2]
  cf := some (fileOf pool19 2 #[] #[.mk 1 5 59 #[], .mk 2 5 6 #[], .mk 9 37 64 #[], .mk 1 67 47 #[]] 49 8 #[48, 50] #[.mk 26 52 53 #[], .mk 26 41 42 #[], .mk 18 13 24 #[], .mk 18 33 34 #[], .mk 18 37 38 #[]])
  fields := #[.mk "serialVersionUID" .long 26 0 0, .mk "ANONYMOUS" (.object "com/example/aduana/aduana/core/Authentication") 26 1 0, .mk "name" (.object "java/lang/String") 18 0 0, .mk "roles" (.object "java/util/Set") 18 1 0, .mk "anonymous" .boolean 18 2 0]
  methods := #[k19m0, k19m1, k19m2, k19m3]
  instanceTypes := #[(.object "java/lang/String"), (.object "java/util/Set"), .boolean]
  staticTypes := #[.long, (.object "com/example/aduana/aduana/core/Authentication")]
  resolved := Array.replicate 74 none
  statics := some 2 }
def pool20 : Array CpInfo := pool [(1, .methodref 2 3), (0, .class_ 4), (0, .nameAndType 5 6), (0, u "java/lang/Object"), (0, u "<init>"), (0, u "()V"), (0, .fieldref 8 9), (0, .class_ 10), (0, .nameAndType 11 12), (0, u "com/example/aduana/aduana/core/AccessDecision"), (0, u "description"), (0, u "Ljava/lang/String;"), (0, .fieldref 8 14), (0, .nameAndType 15 16), (0, u "grants"), (0, u "Ljava/util/function/Predicate;"), (2, u "PERMIT_ALL"), (0, u "Lcom/example/aduana/aduana/core/AccessDecision;"), (2, u "DENY_ALL"), (2, u "AUTHENTICATED"), (0, .class_ 28), (0, u "java/lang/StringBuilder"), (0, .methodref 27 3), (0, .string 31), (0, u "has role "), (0, .methodref 27 33), (0, .nameAndType 34 35), (0, u "append"), (0, u "(Ljava/lang/String;)Ljava/lang/StringBuilder;"), (0, .methodref 27 37), (0, .nameAndType 38 39), (0, u "toString"), (0, u "()Ljava/lang/String;"), (0, .interfaceMethodref 41 42), (0, .class_ 43), (0, .nameAndType 44 45), (0, u "java/util/List"), (0, u "of"), (0, u "(Ljava/lang/Object;)Ljava/util/List;"), (0, .methodref 8 47), (0, .nameAndType 48 49), (0, u "holdsAnyOf"), (0, u "(Ljava/util/List;)Ljava/util/function/Predicate;"), (0, .methodref 8 51), (0, .nameAndType 5 52), (0, u "(Ljava/lang/String;Ljava/util/function/Predicate;)V"), (24, .string 78), (0, u "caller"), (0, .methodref 80 81), (0, .class_ 82), (0, .nameAndType 83 84), (0, u "java/util/Objects"), (0, u "requireNonNull"), (0, u "(Ljava/lang/Object;Ljava/lang/String;)Ljava/lang/Object;"), (0, .class_ 86), (0, u "com/example/aduana/aduana/core/Authentication"), (0, .interfaceMethodref 88 89), (0, .class_ 90), (0, .nameAndType 91 92), (0, u "java/util/function/Predicate"), (0, u "test"), (0, u "(Ljava/lang/Object;)Z"), (0, .invokeDynamic 0 94), (0, .nameAndType 91 49), (0, .methodref 85 96), (0, .nameAndType 97 98), (0, u "getRoles"), (0, u "()Ljava/util/Set;"), (0, .methodref 100 101), (0, .class_ 102), (0, .nameAndType 103 104), (0, u "java/util/Collections"), (0, u "disjoint"), (0, u "(Ljava/util/Collection;Ljava/util/Collection;)Z"), (22, u "hasRole"), (0, u "(Ljava/lang/String;)Lcom/example/aduana/aduana/core/AccessDecision;"), (3, u "isGranted"), (0, u "(Lcom/example/aduana/aduana/core/Authentication;)Z"), (1, u "lambda$holdsAnyOf$3"), (0, u "(Ljava/util/List;Lcom/example/aduana/aduana/core/Authentication;)Z"), (7, .methodType 92), (0, .methodHandle 6 146), (0, .methodref 8 147), (0, .nameAndType 135 136), (0, .methodType 133), (9, .methodHandle 6 159), (0, .methodref 160 161), (0, .class_ 162), (0, .nameAndType 163 164), (0, u "java/lang/invoke/LambdaMetafactory"), (0, u "metafactory"), (0, u "(Ljava/lang/invoke/MethodHandles$Lookup;Ljava/lang/String;Ljava/lang/invoke/MethodType;Ljava/lang/invoke/MethodType;Ljava/lang/invoke/MethodHandle;Ljava/lang/invoke/MethodType;)Ljava/lang/invoke/CallSite;")] 6
def k20c0 : Code := .mk 2 3 prog_8_method_1_code #[] #[]
def k20m0 : Method := .mk "<init>" "(Ljava/lang/String;Ljava/util/function/Predicate;)V" ⟨[(.object "java/lang/String"), (.object "java/util/function/Predicate")], none⟩ 2 (some k20c0)
def k20c1 : Code := .mk 4 1 prog_8_method_5_code #[] #[]
def k20m1 : Method := .mk "hasRole" "(Ljava/lang/String;)Lcom/example/aduana/aduana/core/AccessDecision;" ⟨[(.object "java/lang/String")], some (.object "com/example/aduana/aduana/core/AccessDecision")⟩ 9 (some k20c1)
def k20c2 : Code := .mk 3 2 prog_8_method_7_code #[] #[]
def k20m2 : Method := .mk "isGranted" "(Lcom/example/aduana/aduana/core/Authentication;)Z" ⟨[(.object "com/example/aduana/aduana/core/Authentication")], some .boolean⟩ 1 (some k20c2)
def k20c3 : Code := .mk 1 1 prog_8_method_8_code #[] #[]
def k20m3 : Method := .mk "toString" "()Ljava/lang/String;" ⟨[], some (.object "java/lang/String")⟩ 1 (some k20c3)
def k20c4 : Code := .mk 1 1 prog_8_method_9_code #[] #[]
def k20m4 : Method := .mk "holdsAnyOf" "(Ljava/util/List;)Ljava/util/function/Predicate;" ⟨[(.object "java/util/List")], some (.object "java/util/function/Predicate")⟩ 10 (some k20c4)
def k20c5 : Code := .mk 2 2 prog_8_method_10_code #[] #[]
def k20m5 : Method := .mk "lambda$holdsAnyOf$3" "(Ljava/util/List;Lcom/example/aduana/aduana/core/Authentication;)Z" ⟨[(.object "java/util/List"), (.object "com/example/aduana/aduana/core/Authentication")], some .boolean⟩ 4106 (some k20c5)
/-- com/example/aduana/aduana/core/AccessDecision -/
def k20 : Class := { plain "com/example/aduana/aduana/core/AccessDecision" (some 0) with
  accessFlags := 49
  interfaces := #[]
  cf := some (fileOf pool20 8 #[.bootstrapMethods #[⟨158, #[144, 145, 148]⟩, ⟨0, #[]⟩, ⟨0, #[]⟩, ⟨0, #[]⟩]] #[.mk 2 5 52 #[], .mk 9 127 128 #[], .mk 1 132 133 #[], .mk 1 38 39 #[], .mk 10 48 49 #[], .mk 4106 135 136 #[]] 49 2 #[] #[.mk 26 19 20 #[], .mk 26 23 20 #[], .mk 26 26 20 #[], .mk 18 11 12 #[], .mk 18 15 16 #[]])
  fields := #[.mk "PERMIT_ALL" (.object "com/example/aduana/aduana/core/AccessDecision") 26 0 0, .mk "DENY_ALL" (.object "com/example/aduana/aduana/core/AccessDecision") 26 1 0, .mk "AUTHENTICATED" (.object "com/example/aduana/aduana/core/AccessDecision") 26 2 0, .mk "description" (.object "java/lang/String") 18 0 0, .mk "grants" (.object "java/util/function/Predicate") 18 1 0]
  methods := #[k20m0, k20m1, k20m2, k20m3, k20m4, k20m5]
  instanceTypes := #[(.object "java/lang/String"), (.object "java/util/function/Predicate")]
  staticTypes := #[(.object "com/example/aduana/aduana/core/AccessDecision"), (.object "com/example/aduana/aduana/core/AccessDecision"), (.object "com/example/aduana/aduana/core/AccessDecision")]
  resolved := Array.replicate 171 none
  callSites := [(4, 1, .makes 50)]
  statics := none }
def pool21 : Array CpInfo := pool [(1, .class_ 2), (0, u "java/lang/Appendable"), (0, .class_ 4), (0, u "java/lang/Object")] 9
/-- java/lang/Appendable -/
def k21 : Class := { plain "java/lang/Appendable" (some 0) with
  accessFlags := 1537
  interfaces := #[]
  cf := some (fileOf pool21 1 #[] #[] 1537 3 #[] #[])
  fields := #[]
  methods := #[]
  instanceTypes := #[]
  staticTypes := #[]
  resolved := Array.replicate 14 none
  statics := none }
def pool22 : Array CpInfo := pool [(1, .class_ 2), (0, u "java/lang/String"), (0, .methodref 4 5), (0, .class_ 6), (0, .nameAndType 7 8), (0, u "java/lang/Object"), (0, u "<init>"), (0, u "()V"), (1, .class_ 12), (1, u "java/lang/AbstractStringBuilder"), (0, u "EMPTYVALUE"), (0, u "[B"), (0, .fieldref 10 16), (0, .nameAndType 17 14), (0, u "value"), (0, .fieldref 1 19), (0, .nameAndType 20 21), (0, u "COMPACT_STRINGS"), (0, u "Z"), (0, .fieldref 10 23), (0, .nameAndType 24 25), (0, u "coder"), (0, u "B"), (6, .methodref 1 33), (0, .nameAndType 34 35), (0, u "length"), (0, u "()I"), (4, .methodref 1 41), (0, .nameAndType 24 42), (0, u "()B"), (2, u "append"), (0, u "(Ljava/lang/String;)Ljava/lang/AbstractStringBuilder;"), (1, .class_ 49), (0, u "java/lang/CharSequence"), (19, u "(Ljava/lang/String;)V"), (5, u "maybeLatin1"), (3, .fieldref 10 80), (0, .nameAndType 81 82), (0, u "count"), (0, u "I"), (2, u "isLatin1"), (0, u "()Z"), (13, .methodref 10 101), (0, .nameAndType 102 103), (0, u "ensureCapacityInternal"), (0, u "(I)V"), (104, .methodref 10 209), (0, .nameAndType 210 211), (0, u "putStringAt"), (0, u "(ILjava/lang/String;)V"), (5, u "inflateIfNeededFor"), (2, .nameAndType 221 222), (0, u "getBytes"), (0, u "([BIB)V"), (174, .methodref 10 398), (0, .nameAndType 217 69), (0, .methodref 1 220), (3, u "()[B"), (40, .class_ 445), (0, u "java/lang/Appendable"), (106, u "getValue")] 56
def k22m0 : Method := .mk "<init>" "()V" ⟨[], none⟩ 0 none
def k22c1 : Code := .mk 2 2 jdk_68_method_2_code #[] #[]
def k22m1 : Method := .mk "<init>" "(I)V" ⟨[.int], none⟩ 0 (some k22c1)
def k22c2 : Code := .mk 1 1 jdk_68_method_6_code #[] #[]
def k22m2 : Method := .mk "length" "()I" ⟨[], some .int⟩ 1 (some k22c2)
def k22c3 : Code := .mk 4 3 jdk_68_method_9_code #[] #[]
def k22m3 : Method := .mk "ensureCapacityInternal" "(I)V" ⟨[.int], none⟩ 2 (some k22c3)
def k22c4 : Code := .mk 3 3 jdk_68_method_22_code #[] #[]
def k22m4 : Method := .mk "append" "(Ljava/lang/String;)Ljava/lang/AbstractStringBuilder;" ⟨[(.object "java/lang/String")], some (.object "java/lang/AbstractStringBuilder")⟩ 1 (some k22c4)
def k22c5 : Code := .mk 1 1 jdk_68_method_64_code #[] #[]
def k22m5 : Method := .mk "getValue" "()[B" ⟨[], some (.array .byte)⟩ 16 (some k22c5)
def k22c6 : Code := .mk 1 1 jdk_68_method_68_code #[] #[]
def k22m6 : Method := .mk "isLatin1" "()Z" ⟨[], some .boolean⟩ 16 (some k22c6)
def k22c7 : Code := .mk 2 2 jdk_68_method_71_code #[] #[]
def k22m7 : Method := .mk "inflateIfNeededFor" "(Ljava/lang/String;)V" ⟨[(.object "java/lang/String")], none⟩ 2 (some k22c7)
def k22c8 : Code := .mk 4 3 jdk_68_method_73_code #[] #[]
def k22m8 : Method := .mk "putStringAt" "(ILjava/lang/String;)V" ⟨[.int, (.object "java/lang/String")], none⟩ 2 (some k22c8)
/-- java/lang/AbstractStringBuilder -/
def k22 : Class := { plain "java/lang/AbstractStringBuilder" (some 0) with
  accessFlags := 1056
  interfaces := #[21, 4]
  cf := some (fileOf pool22 10 #[] #[.mk 0 7 8 #[], .mk 0 7 103 #[], .mk 1 34 35 #[], .mk 2 102 103 #[], .mk 1 45 46 #[], .mk 16 552 403 #[], .mk 16 85 86 #[], .mk 2 217 69 #[], .mk 2 210 211 #[]] 1056 4 #[444, 48] #[.mk 0 17 14 #[], .mk 0 24 25 #[], .mk 0 75 21 #[], .mk 0 81 82 #[], .mk 26 13 14 #[]])
  fields := #[.mk "value" (.array .byte) 0 0 0, .mk "coder" .byte 0 1 0, .mk "maybeLatin1" .boolean 0 2 0, .mk "count" .int 0 3 0, .mk "EMPTYVALUE" (.array .byte) 26 0 0]
  methods := #[k22m0, k22m1, k22m2, k22m3, k22m4, k22m5, k22m6, k22m7, k22m8]
  instanceTypes := #[(.array .byte), .byte, .boolean, .int]
  staticTypes := #[(.array .byte)]
  resolved := Array.replicate 609 none
  statics := none }
def pool23 : Array CpInfo := pool [(1, .methodref 2 3), (0, .class_ 4), (0, .nameAndType 5 6), (0, u "java/lang/AbstractStringBuilder"), (0, u "<init>"), (0, u "(I)V"), (11, .class_ 20), (1, u "java/lang/String"), (3, .class_ 26), (1, u "java/lang/StringBuilder"), (0, u "append"), (0, u "(Ljava/lang/String;)Ljava/lang/StringBuilder;"), (0, .methodref 2 30), (0, .nameAndType 27 31), (0, u "(Ljava/lang/String;)Ljava/lang/AbstractStringBuilder;"), (105, .methodref 18 138), (0, .nameAndType 5 139), (0, u "(Ljava/lang/StringBuilder;)V"), (5, u "()V"), (10, u "()I"), (186, .methodref 2 344), (0, .nameAndType 345 156), (0, u "length"), (3, .class_ 350), (0, u "java/lang/Appendable"), (0, .class_ 352), (0, u "java/io/Serializable"), (0, .class_ 354), (0, u "java/lang/Comparable"), (0, .class_ 356), (0, u "java/lang/CharSequence"), (0, u "serialVersionUID"), (0, u "J"), (40, u "toString"), (0, u "()Ljava/lang/String;")] 21
def k23c0 : Code := .mk 2 1 jdk_67_method_1_code #[] #[]
def k23m0 : Method := .mk "<init>" "()V" ⟨[], none⟩ 1 (some k23c0)
def k23c1 : Code := .mk 2 2 jdk_67_method_7_code #[] #[]
def k23m1 : Method := .mk "append" "(Ljava/lang/String;)Ljava/lang/StringBuilder;" ⟨[(.object "java/lang/String")], some (.object "java/lang/StringBuilder")⟩ 1 (some k23c1)
def k23c2 : Code := .mk 3 1 jdk_67_method_42_code #[] #[]
def k23m2 : Method := .mk "toString" "()Ljava/lang/String;" ⟨[], some (.object "java/lang/String")⟩ 1 (some k23c2)
def k23c3 : Code := .mk 1 1 jdk_67_method_93_code #[] #[]
def k23m3 : Method := .mk "length" "()I" ⟨[], some .int⟩ 4161 (some k23c3)
/-- java/lang/StringBuilder -/
def k23 : Class := { plain "java/lang/StringBuilder" (some 22) with
  accessFlags := 49
  interfaces := #[21, 2, 3, 4]
  cf := some (fileOf pool23 24 #[] #[.mk 1 5 145 #[], .mk 1 27 28 #[], .mk 1 399 400 #[], .mk 4161 345 156 #[]] 49 2 #[349, 351, 353, 355] #[.mk 24 357 358 #[]])
  fields := #[.mk "serialVersionUID" .long 24 0 0]
  methods := #[k23m0, k23m1, k23m2, k23m3]
  instanceTypes := #[(.array .byte), .byte, .boolean, .int]
  staticTypes := #[.long]
  resolved := Array.replicate 422 none
  statics := none }
def pool24 : Array CpInfo := pool [(2, .class_ 4), (1, u "java/lang/Object"), (0, u "<init>"), (0, u "()V"), (1, .class_ 10), (1, u "java/lang/System"), (0, u "allowSecurityManager"), (0, u "I"), (16, u "cons"), (0, u "Ljava/io/Console;"), (77, .class_ 110), (1, u "java/lang/System$CallersHolder"), (43, u "initialErrStream"), (0, u "Ljava/io/PrintStream;"), (19, u "security"), (0, u "Ljava/lang/SecurityManager;"), (31, .class_ 209), (0, u "java/lang/System$1"), (7, u "props"), (0, u "Ljava/util/Properties;"), (2, u "lineSeparator"), (0, u "Ljava/lang/String;"), (96, .class_ 321), (1, u "java/lang/System$LoggerFinder"), (5, .class_ 328), (0, u "java/lang/System$Logger"), (67, u "err"), (2, u "out"), (91, u "notSupportedJnuEncoding"), (15, u "in"), (17, u "initialIn"), (0, u "Ljava/io/InputStream;"), (35, u "bootLayer"), (0, u "Ljava/lang/ModuleLayer;"), (99, .class_ 664), (0, u "java/lang/System$2"), (9, u "NEVER"), (2, u "MAYBE"), (49, u "arraycopy"), (0, u "(Ljava/lang/Object;ILjava/lang/Object;II)V"), (72, .class_ 802), (0, u "java/lang/System$Logger$Level")] 31
def k24m0 : Method := .mk "<init>" "()V" ⟨[], none⟩ 2 none
def k24m1 : Method := .mk "arraycopy" "(Ljava/lang/Object;ILjava/lang/Object;II)V" ⟨[(.object "java/lang/Object"), .int, (.object "java/lang/Object"), .int, .int], none⟩ 265 none
/-- java/lang/System -/
def k24 : Class := { plain "java/lang/System" (some 0) with
  accessFlags := 49
  interfaces := #[]
  cf := some (fileOf pool24 8 #[.nestMembers #[319, 327, 801, 108, 663, 208]] #[.mk 2 5 6 #[], .mk 265 727 728 #[]] 49 2 #[] #[.mk 25 507 526 #[], .mk 25 399 155 #[], .mk 25 396 155 #[], .mk 10 525 526 #[], .mk 26 674 12 #[], .mk 26 677 12 #[], .mk 10 11 12 #[], .mk 74 175 176 #[], .mk 10 491 222 #[], .mk 74 29 30 #[], .mk 74 154 155 #[], .mk 10 217 218 #[], .mk 10 221 222 #[], .mk 8 562 563 #[]])
  fields := #[.mk "in" (.object "java/io/InputStream") 25 0 0, .mk "out" (.object "java/io/PrintStream") 25 1 0, .mk "err" (.object "java/io/PrintStream") 25 2 0, .mk "initialIn" (.object "java/io/InputStream") 10 3 0, .mk "NEVER" .int 26 4 0, .mk "MAYBE" .int 26 5 0, .mk "allowSecurityManager" .int 10 6 0, .mk "security" (.object "java/lang/SecurityManager") 74 7 0, .mk "notSupportedJnuEncoding" (.object "java/lang/String") 10 8 0, .mk "cons" (.object "java/io/Console") 74 9 0, .mk "initialErrStream" (.object "java/io/PrintStream") 74 10 0, .mk "props" (.object "java/util/Properties") 10 11 0, .mk "lineSeparator" (.object "java/lang/String") 10 12 0, .mk "bootLayer" (.object "java/lang/ModuleLayer") 8 13 0]
  methods := #[k24m0, k24m1]
  instanceTypes := #[]
  staticTypes := #[(.object "java/io/InputStream"), (.object "java/io/PrintStream"), (.object "java/io/PrintStream"), (.object "java/io/InputStream"), .int, .int, .int, (.object "java/lang/SecurityManager"), (.object "java/lang/String"), (.object "java/io/Console"), (.object "java/io/PrintStream"), (.object "java/util/Properties"), (.object "java/lang/String"), (.object "java/lang/ModuleLayer")]
  resolved := Array.replicate 834 none
  statics := none }
def pool25 : Array CpInfo := pool [(2, .class_ 4), (1, u "java/lang/Object"), (0, u "<init>"), (0, u "()V"), (7, .class_ 16), (1, u "java/util/Arrays"), (57, .class_ 76), (1, u "java/util/Arrays$NaturalOrder"), (36, .class_ 115), (1, u "java/util/Arrays$LegacyMergeSort"), (1, u "Z"), (21, u "copyOfRange"), (10, .methodref 151 152), (0, .class_ 153), (0, .nameAndType 154 155), (0, u "java/lang/System"), (0, u "arraycopy"), (0, u "(Ljava/lang/Object;ILjava/lang/Object;II)V"), (148, .methodref 305 306), (0, .class_ 307), (0, .nameAndType 308 309), (0, u "java/lang/Math"), (0, u "min"), (0, u "(II)I"), (29, .methodref 14 340), (0, .nameAndType 341 342), (0, u "copyOfRangeByte"), (0, u "([BII)[B"), (0, .methodref 14 344), (0, .nameAndType 345 346), (0, u "checkLength"), (0, u "(II)V"), (28, .class_ 376), (0, u "java/util/Arrays$ArrayList"), (68, u "$assertionsDisabled"), (269, u "MIN_ARRAY_SORT_GRAN"), (0, u "I"), (2, u "INSERTIONSORT_THRESHOLD"), (255, .class_ 976), (0, u "java/util/Arrays$ArrayItr")] 52
def k25m0 : Method := .mk "<init>" "()V" ⟨[], none⟩ 2 none
def k25c1 : Code := .mk 4 2 jdk_65_method_131_code #[] #[]
def k25m1 : Method := .mk "checkLength" "(II)V" ⟨[.int, .int], none⟩ 10 (some k25c1)
def k25c2 : Code := .mk 3 3 jdk_65_method_132_code #[] #[]
def k25m2 : Method := .mk "copyOfRange" "([BII)[B" ⟨[(.array .byte), .int, .int], some (.array .byte)⟩ 9 (some k25c2)
def k25c3 : Code := .mk 6 5 jdk_65_method_133_code #[] #[]
def k25m3 : Method := .mk "copyOfRangeByte" "([BII)[B" ⟨[(.array .byte), .int, .int], some (.array .byte)⟩ 10 (some k25c3)
/-- java/util/Arrays -/
def k25 : Class := { plain "java/util/Arrays" (some 0) with
  accessFlags := 49
  interfaces := #[]
  cf := some (fileOf pool25 14 #[.nestMembers #[975, 375, 113, 74]] #[.mk 2 5 6 #[], .mk 10 345 346 #[], .mk 9 139 342 #[], .mk 10 341 342 #[]] 49 2 #[] #[.mk 26 715 716 #[], .mk 26 719 716 #[], .mk 4120 445 117 #[]])
  fields := #[.mk "MIN_ARRAY_SORT_GRAN" .int 26 0 0, .mk "INSERTIONSORT_THRESHOLD" .int 26 1 0, .mk "$assertionsDisabled" .boolean 4120 2 0]
  methods := #[k25m0, k25m1, k25m2, k25m3]
  instanceTypes := #[]
  staticTypes := #[.int, .int, .boolean]
  resolved := Array.replicate 1029 none
  statics := none }
def pool26 : Array CpInfo := pool [(1, .class_ 2), (0, u "java/lang/Math"), (1, .class_ 6), (1, u "java/lang/Object"), (0, u "<init>"), (0, u "()V"), (89, .class_ 100), (1, u "java/lang/Math$RandomNumberGeneratorHolder"), (71, u "negativeZeroFloatBits"), (0, u "J"), (2, u "negativeZeroDoubleBits"), (24, u "min"), (43, u "$assertionsDisabled"), (0, u "Z"), (88, u "(II)I"), (2, u "twoToTheDoubleScaleDown"), (0, u "D"), (4, u "twoToTheDoubleScaleUp"), (9, u "E"), (3, u "PI"), (2, u "TAU"), (2, u "DEGREES_TO_RADIANS"), (0, u "RADIANS_TO_DEGREES")] 94
def k26m0 : Method := .mk "<init>" "()V" ⟨[], none⟩ 2 none
def k26c1 : Code := .mk 2 2 jdk_29_method_69_code #[] #[]
def k26m1 : Method := .mk "min" "(II)I" ⟨[.int, .int], some .int⟩ 9 (some k26c1)
/-- java/lang/Math -/
def k26 : Class := { plain "java/lang/Math" (some 0) with
  accessFlags := 49
  interfaces := #[]
  cf := some (fileOf pool26 1 #[.nestMembers #[98]] #[.mk 2 7 8 #[], .mk 9 201 335 #[]] 49 4 #[] #[.mk 25 354 339 #[], .mk 25 358 339 #[], .mk 25 361 339 #[], .mk 26 364 339 #[], .mk 26 365 339 #[], .mk 26 172 173 #[], .mk 26 176 173 #[], .mk 8 344 339 #[], .mk 8 338 339 #[], .mk 4120 245 246 #[]])
  fields := #[.mk "E" .double 25 0 0, .mk "PI" .double 25 1 0, .mk "TAU" .double 25 2 0, .mk "DEGREES_TO_RADIANS" .double 26 3 0, .mk "RADIANS_TO_DEGREES" .double 26 4 0, .mk "negativeZeroFloatBits" .long 26 5 0, .mk "negativeZeroDoubleBits" .long 26 6 0, .mk "twoToTheDoubleScaleUp" .double 8 7 0, .mk "twoToTheDoubleScaleDown" .double 8 8 0, .mk "$assertionsDisabled" .boolean 4120 9 0]
  methods := #[k26m0, k26m1]
  instanceTypes := #[]
  staticTypes := #[.double, .double, .double, .double, .double, .long, .long, .double, .double, .boolean]
  resolved := Array.replicate 460 none
  statics := none }
def pool27 : Array CpInfo := pool [(8, .class_ 10), (1, u "java/util/SequencedCollection"), (15, .class_ 27), (0, u "java/lang/Object"), (0, .class_ 29), (0, u "java/util/Collection")] 27
/-- java/util/SequencedCollection -/
def k27 : Class := { plain "java/util/SequencedCollection" (some 0) with
  accessFlags := 1537
  interfaces := #[10]
  cf := some (fileOf pool27 8 #[] #[] 1537 26 #[28] #[])
  fields := #[]
  methods := #[]
  instanceTypes := #[]
  staticTypes := #[]
  resolved := Array.replicate 57 none
  statics := none }
def pool28 : Array CpInfo := pool [(8, .class_ 10), (1, u "java/util/List"), (20, u "(Ljava/lang/Object;)V"), (16, u "<init>"), (26, u "get"), (0, u "(I)Ljava/lang/Object;"), (11, u "of"), (7, .class_ 97), (0, u "java/util/ImmutableCollections$List12"), (0, .methodref 96 99), (0, .nameAndType 48 31), (3, .class_ 104), (0, u "java/lang/Object"), (15, .class_ 121), (0, u "java/util/SequencedCollection"), (76, u "(Ljava/lang/Object;)Ljava/util/List;")] 52
def k28m0 : Method := .mk "get" "(I)Ljava/lang/Object;" ⟨[.int], some (.object "java/lang/Object")⟩ 1025 none
def k28c1 : Code := .mk 3 1 jdk_40_method_37_code #[] #[]
def k28m1 : Method := .mk "of" "(Ljava/lang/Object;)Ljava/util/List;" ⟨[(.object "java/lang/Object")], some (.object "java/util/List")⟩ 9 (some k28c1)
/-- java/util/List -/
def k28 : Class := { plain "java/util/List" (some 0) with
  accessFlags := 1537
  interfaces := #[27]
  cf := some (fileOf pool28 8 #[] #[.mk 1025 75 76 #[], .mk 9 88 198 #[]] 1537 103 #[120] #[])
  fields := #[]
  methods := #[k28m0, k28m1]
  instanceTypes := #[]
  staticTypes := #[]
  resolved := Array.replicate 251 none
  statics := none }
def pool29 : Array CpInfo := pool [(1, .class_ 2), (0, u "java/util/RandomAccess"), (0, .class_ 4), (0, u "java/lang/Object")] 2
/-- java/util/RandomAccess -/
def k29 : Class := { plain "java/util/RandomAccess" (some 0) with
  accessFlags := 1537
  interfaces := #[]
  cf := some (fileOf pool29 1 #[] #[] 1537 3 #[] #[])
  fields := #[]
  methods := #[]
  instanceTypes := #[]
  staticTypes := #[]
  resolved := Array.replicate 7 none
  statics := none }
def pool30 : Array CpInfo := pool [(1, .methodref 2 3), (0, .class_ 4), (0, .nameAndType 5 6), (0, u "java/util/ImmutableCollections$AbstractImmutableCollection"), (0, u "<init>"), (0, u "()V"), (1, .class_ 10), (1, u "java/util/ImmutableCollections"), (2, .methodref 14 15), (0, .class_ 16), (0, .nameAndType 17 18), (0, u "java/util/ImmutableCollections$AbstractImmutableList"), (0, u "size"), (0, u "()I"), (42, .class_ 62), (0, u "java/util/ImmutableCollections$ListItr"), (0, .methodref 61 64), (0, .nameAndType 5 65), (0, u "(Ljava/util/List;I)V"), (11, .class_ 78), (0, u "java/util/List"), (2, u "iterator"), (0, u "()Ljava/util/Iterator;"), (41, .class_ 125), (0, u "java/util/RandomAccess")] 70
def k30c0 : Code := .mk 1 1 jdk_46_method_1_code #[] #[]
def k30m0 : Method := .mk "<init>" "()V" ⟨[], none⟩ 0 (some k30c0)
def k30c1 : Code := .mk 4 1 jdk_46_method_10_code #[] #[]
def k30m1 : Method := .mk "iterator" "()Ljava/util/Iterator;" ⟨[], some (.object "java/util/Iterator")⟩ 1 (some k30c1)
/-- java/util/ImmutableCollections$AbstractImmutableList -/
def k30 : Class := { plain "java/util/ImmutableCollections$AbstractImmutableList" (some 13) with
  accessFlags := 1056
  interfaces := #[28, 29]
  cf := some (fileOf pool30 14 #[.nestHost 8] #[.mk 0 5 6 #[], .mk 1 81 82 #[]] 1056 2 #[77, 124] #[])
  fields := #[]
  methods := #[k30m0, k30m1]
  instanceTypes := #[]
  staticTypes := #[]
  resolved := Array.replicate 196 none
  statics := none }
def pool31 : Array CpInfo := pool [(1, .methodref 2 3), (0, .class_ 4), (0, .nameAndType 5 6), (0, u "java/util/ImmutableCollections$AbstractImmutableList"), (0, u "<init>"), (0, u "()V"), (0, .methodref 8 9), (0, .class_ 10), (0, .nameAndType 11 12), (0, u "java/util/Objects"), (0, u "requireNonNull"), (0, u "(Ljava/lang/Object;)Ljava/lang/Object;"), (0, .fieldref 14 15), (0, .class_ 16), (0, .nameAndType 17 18), (0, u "java/util/ImmutableCollections$List12"), (0, u "e0"), (0, u "Ljava/lang/Object;"), (0, .fieldref 20 21), (0, .class_ 22), (0, .nameAndType 23 18), (0, u "java/util/ImmutableCollections"), (0, u "EMPTY"), (0, .fieldref 14 25), (0, .nameAndType 26 18), (0, u "e1"), (24, u "size"), (0, u "()I"), (17, .class_ 71), (0, u "java/io/Serializable"), (4, u "(Ljava/lang/Object;)V"), (13, u "get"), (0, u "(I)Ljava/lang/Object;")] 33
def k31c0 : Code := .mk 2 2 jdk_44_method_1_code #[] #[]
def k31m0 : Method := .mk "<init>" "(Ljava/lang/Object;)V" ⟨[(.object "java/lang/Object")], none⟩ 0 (some k31c0)
def k31c1 : Code := .mk 2 1 jdk_44_method_3_code #[] #[]
def k31m1 : Method := .mk "size" "()I" ⟨[], some .int⟩ 1 (some k31c1)
def k31c2 : Code := .mk 2 2 jdk_44_method_5_code #[] #[]
def k31m2 : Method := .mk "get" "(I)Ljava/lang/Object;" ⟨[.int], some (.object "java/lang/Object")⟩ 1 (some k31c2)
/-- java/util/ImmutableCollections$List12 -/
def k31 : Class := { plain "java/util/ImmutableCollections$List12" (some 30) with
  accessFlags := 48
  interfaces := #[2]
  cf := some (fileOf pool31 14 #[.nestHost 20] #[.mk 0 5 76 #[], .mk 1 51 52 #[], .mk 1 90 91 #[]] 48 2 #[70] #[.mk 18 17 18 #[], .mk 18 26 18 #[]])
  fields := #[.mk "e0" (.object "java/lang/Object") 18 0 0, .mk "e1" (.object "java/lang/Object") 18 1 0]
  methods := #[k31m0, k31m1, k31m2]
  instanceTypes := #[(.object "java/lang/Object"), (.object "java/lang/Object")]
  staticTypes := #[]
  resolved := Array.replicate 125 none
  statics := none }
def pool32 : Array CpInfo := pool [(9, u "test"), (12, .class_ 24), (1, u "java/util/function/Predicate"), (2, .class_ 29), (1, u "java/lang/Object"), (1, u "(Ljava/lang/Object;)Z")] 69
def k32m0 : Method := .mk "test" "(Ljava/lang/Object;)Z" ⟨[(.object "java/lang/Object")], some .boolean⟩ 1025 none
/-- java/util/function/Predicate -/
def k32 : Class := { plain "java/util/function/Predicate" (some 0) with
  accessFlags := 1537
  interfaces := #[]
  cf := some (fileOf pool32 22 #[] #[.mk 1025 9 31 #[]] 1537 27 #[] #[])
  fields := #[]
  methods := #[k32m0]
  instanceTypes := #[]
  staticTypes := #[]
  resolved := Array.replicate 101 none
  statics := none }
def pool33 : Array CpInfo := pool [(2, .class_ 4), (1, u "java/lang/Object"), (0, u "<init>"), (0, u "()V"), (12, .class_ 20), (0, u "java/util/Collections"), (30, .nameAndType 52 53), (0, u "next"), (0, u "()Ljava/lang/Object;"), (30, u "r"), (0, u "Ljava/util/Random;"), (33, .interfaceMethodref 120 121), (0, .class_ 122), (0, .nameAndType 123 124), (0, u "java/util/Collection"), (0, u "iterator"), (0, u "()Ljava/util/Iterator;"), (0, .interfaceMethodref 126 51), (0, .class_ 127), (0, u "java/util/Iterator"), (0, .interfaceMethodref 126 129), (0, .nameAndType 130 131), (0, u "hasNext"), (0, u "()Z"), (25, u "(Ljava/lang/Object;)Z"), (8, .class_ 167), (0, u "java/util/Collections$UnmodifiableCollection"), (6, .class_ 175), (0, u "java/util/Collections$UnmodifiableSequencedCollection"), (4, .class_ 181), (0, u "java/util/Set"), (0, .class_ 183), (0, u "java/util/Collections$UnmodifiableSet"), (6, .class_ 191), (0, u "java/util/Collections$UnmodifiableSequencedSet"), (6, .class_ 199), (0, u "java/util/Collections$UnmodifiableSortedSet"), (6, .class_ 207), (0, u "java/util/Collections$UnmodifiableNavigableSet"), (4, .class_ 213), (0, u "java/util/Collections$UnmodifiableList"), (1, .class_ 216), (0, u "java/util/Collections$UnmodifiableRandomAccessList"), (6, .class_ 224), (0, u "java/util/Collections$UnmodifiableMap"), (6, .class_ 232), (0, u "java/util/Collections$UnmodifiableSequencedMap"), (4, .class_ 238), (0, u "java/util/Collections$UnmodifiableSortedMap"), (6, .class_ 246), (0, u "java/util/Collections$UnmodifiableNavigableMap"), (3, .class_ 251), (0, u "java/util/Collections$SynchronizedCollection"), (4, .class_ 257), (0, u "java/util/Collections$SynchronizedSet"), (4, .class_ 263), (0, u "java/util/Collections$SynchronizedSortedSet"), (1, .class_ 266), (0, u "java/util/Collections$SynchronizedNavigableSet"), (1, .class_ 269), (0, u "java/util/Collections$SynchronizedRandomAccessList"), (1, .class_ 272), (0, u "java/util/Collections$SynchronizedList"), (5, .class_ 279), (0, u "java/util/Collections$SynchronizedMap"), (1, .class_ 282), (0, u "java/util/Collections$SynchronizedSortedMap"), (1, .class_ 285), (0, u "java/util/Collections$SynchronizedNavigableMap"), (1, .class_ 288), (0, u "java/util/Collections$CheckedCollection"), (11, .class_ 301), (0, u "java/util/Collections$CheckedQueue"), (3, .class_ 306), (0, u "java/util/Collections$CheckedSet"), (3, .class_ 311), (0, u "java/util/Collections$CheckedSortedSet"), (3, .class_ 316), (0, u "java/util/Collections$CheckedNavigableSet"), (3, .class_ 321), (0, u "java/util/Collections$CheckedRandomAccessList"), (3, .class_ 326), (0, u "java/util/Collections$CheckedList"), (1, .class_ 329), (0, u "java/util/Collections$CheckedMap"), (3, .class_ 334), (0, u "java/util/Collections$CheckedSortedMap"), (3, .class_ 339), (0, u "java/util/Collections$CheckedNavigableMap"), (4, .class_ 346), (1, u "java/util/Collections$EmptyIterator"), (3, .class_ 352), (1, u "java/util/Collections$EmptyListIterator"), (2, .class_ 357), (1, u "java/util/Collections$EmptyEnumeration"), (4, u "EMPTY_SET"), (0, u "Ljava/util/Set;"), (6, u "EMPTY_LIST"), (0, u "Ljava/util/List;"), (2, u "EMPTY_MAP"), (0, u "Ljava/util/Map;"), (4, .class_ 381), (0, u "java/util/Collections$SingletonSet"), (2, .class_ 385), (0, u "java/util/Collections$1"), (1, .class_ 388), (0, u "java/util/Collections$2"), (1, .class_ 391), (0, u "java/util/Collections$SingletonList"), (1, .class_ 394), (0, u "java/util/Collections$SingletonMap"), (22, .class_ 418), (0, u "java/util/Collections$CopiesList"), (4, .class_ 425), (1, u "java/util/Collections$ReverseComparator"), (8, .class_ 435), (0, u "java/util/Collections$ReverseComparator2"), (6, .class_ 443), (0, u "java/util/Collections$3"), (16, .interfaceMethodref 120 461), (0, .nameAndType 462 157), (0, u "contains"), (6, .class_ 470), (0, u "java/util/Collections$SetFromMap"), (2, .class_ 474), (0, u "java/util/Collections$SequencedSetFromMap"), (3, .class_ 479), (0, u "java/util/Collections$AsLIFOQueue"), (11, .class_ 492), (0, u "java/util/Collections$EmptySet"), (1, .class_ 495), (0, u "java/util/Collections$EmptyList"), (1, .class_ 498), (0, u "java/util/Collections$EmptyMap"), (1, u "BINARYSEARCH_THRESHOLD"), (0, u "I"), (2, u "REVERSE_THRESHOLD"), (1, u "SHUFFLE_THRESHOLD"), (1, u "FILL_THRESHOLD"), (1, u "ROTATE_THRESHOLD"), (1, u "COPY_THRESHOLD"), (1, u "REPLACEALL_THRESHOLD"), (1, u "INDEXOFSUBLIST_THRESHOLD"), (298, u "disjoint"), (0, u "(Ljava/util/Collection;Ljava/util/Collection;)Z"), (33, .class_ 851), (0, u "java/util/Collections$CheckedMap$CheckedEntrySet"), (0, .class_ 853), (0, u "java/util/Collections$CheckedMap$CheckedEntrySet$CheckedEntry"), (0, .class_ 855), (0, u "java/util/Collections$CheckedMap$CheckedEntrySet$1"), (0, .class_ 857), (0, u "java/util/Collections$CheckedList$1"), (0, .class_ 859), (0, u "java/util/Collections$CheckedCollection$1"), (0, .class_ 861), (0, u "java/util/Collections$UnmodifiableNavigableMap$EmptyNavigableMap"), (0, .class_ 863), (0, u "java/util/Collections$UnmodifiableMap$UnmodifiableEntrySet"), (0, .class_ 865), (0, u "java/util/Collections$UnmodifiableMap$UnmodifiableEntrySet$UnmodifiableEntry"), (0, .class_ 867), (0, u "java/util/Collections$UnmodifiableMap$UnmodifiableEntrySet$UnmodifiableEntrySetSpliterator"), (0, .class_ 869), (0, u "java/util/Collections$UnmodifiableMap$UnmodifiableEntrySet$1"), (0, .class_ 871), (0, u "java/util/Collections$UnmodifiableList$1"), (0, .class_ 873), (0, u "java/util/Collections$UnmodifiableNavigableSet$EmptyNavigableSet"), (0, .class_ 875), (0, u "java/util/Collections$UnmodifiableCollection$1")] 57
def k33m0 : Method := .mk "<init>" "()V" ⟨[], none⟩ 2 none
def k33c1 : Code := .mk 2 6 jdk_79_method_83_code #[] #[]
def k33m1 : Method := .mk "disjoint" "(Ljava/util/Collection;Ljava/util/Collection;)Z" ⟨[(.object "java/util/Collection"), (.object "java/util/Collection")], some .boolean⟩ 9 (some k33c1)
/-- java/util/Collections -/
def k33 : Class := { plain "java/util/Collections" (some 0) with
  accessFlags := 33
  interfaces := #[]
  cf := some (fileOf pool33 19 #[.nestMembers #[478, 473, 469, 434, 423, 417, 393, 390, 380, 497, 494, 491, 355, 350, 344, 338, 333, 328, 850, 852, 854, 320, 325, 856, 315, 310, 305, 300, 287, 858, 284, 281, 278, 268, 271, 265, 262, 256, 250, 245, 860, 237, 231, 223, 862, 864, 866, 868, 215, 212, 870, 206, 872, 198, 190, 182, 174, 166, 874, 442, 387, 384]] #[.mk 2 5 6 #[], .mk 9 815 816 #[]] 33 2 #[] #[.mk 26 500 501 #[], .mk 26 504 501 #[], .mk 26 506 501 #[], .mk 26 508 501 #[], .mk 26 510 501 #[], .mk 26 512 501 #[], .mk 26 514 501 #[], .mk 26 516 501 #[], .mk 10 84 85 #[], .mk 25 362 363 #[], .mk 25 370 371 #[], .mk 25 374 375 #[]])
  fields := #[.mk "BINARYSEARCH_THRESHOLD" .int 26 0 0, .mk "REVERSE_THRESHOLD" .int 26 1 0, .mk "SHUFFLE_THRESHOLD" .int 26 2 0, .mk "FILL_THRESHOLD" .int 26 3 0, .mk "ROTATE_THRESHOLD" .int 26 4 0, .mk "COPY_THRESHOLD" .int 26 5 0, .mk "REPLACEALL_THRESHOLD" .int 26 6 0, .mk "INDEXOFSUBLIST_THRESHOLD" .int 26 7 0, .mk "r" (.object "java/util/Random") 10 8 0, .mk "EMPTY_SET" (.object "java/util/Set") 25 9 0, .mk "EMPTY_LIST" (.object "java/util/List") 25 10 0, .mk "EMPTY_MAP" (.object "java/util/Map") 25 11 0]
  methods := #[k33m0, k33m1]
  instanceTypes := #[]
  staticTypes := #[.int, .int, .int, .int, .int, .int, .int, .int, (.object "java/util/Random"), (.object "java/util/Set"), (.object "java/util/List"), (.object "java/util/Map")]
  resolved := Array.replicate 933 none
  statics := none }
def pool34 : Array CpInfo := pool [(16, .class_ 18), (1, u "java/util/Iterator"), (0, u "hasNext"), (0, u "()Z"), (2, u "next"), (0, u "()Ljava/lang/Object;"), (6, .class_ 32), (0, u "java/lang/Object")] 20
def k34m0 : Method := .mk "hasNext" "()Z" ⟨[], some .boolean⟩ 1025 none
def k34m1 : Method := .mk "next" "()Ljava/lang/Object;" ⟨[], some (.object "java/lang/Object")⟩ 1025 none
/-- java/util/Iterator -/
def k34 : Class := { plain "java/util/Iterator" (some 0) with
  accessFlags := 1537
  interfaces := #[]
  cf := some (fileOf pool34 16 #[] #[.mk 1025 19 20 #[], .mk 1025 23 24 #[]] 1537 31 #[] #[])
  fields := #[]
  methods := #[k34m0, k34m1]
  instanceTypes := #[]
  staticTypes := #[]
  resolved := Array.replicate 53 none
  statics := none }
def pool35 : Array CpInfo := pool [(1, .class_ 2), (0, u "java/util/ListIterator"), (0, .class_ 4), (0, u "java/lang/Object"), (0, .class_ 6), (0, u "java/util/Iterator")] 20
/-- java/util/ListIterator -/
def k35 : Class := { plain "java/util/ListIterator" (some 0) with
  accessFlags := 1537
  interfaces := #[34]
  cf := some (fileOf pool35 1 #[] #[] 1537 3 #[5] #[])
  fields := #[]
  methods := #[]
  instanceTypes := #[]
  staticTypes := #[]
  resolved := Array.replicate 27 none
  statics := none }
def pool36 : Array CpInfo := pool [(1, .methodref 2 3), (0, .class_ 4), (0, .nameAndType 5 6), (0, u "java/lang/Object"), (0, u "<init>"), (0, u "()V"), (0, .fieldref 8 9), (0, .class_ 10), (0, .nameAndType 11 12), (0, u "java/util/ImmutableCollections$ListItr"), (0, u "list"), (0, u "Ljava/util/List;"), (0, .fieldref 8 14), (0, .nameAndType 15 16), (0, u "size"), (0, u "I"), (0, .fieldref 8 18), (0, .nameAndType 19 16), (0, u "cursor"), (0, .fieldref 8 21), (0, .nameAndType 22 23), (0, u "isListIterator"), (0, u "Z"), (0, .interfaceMethodref 25 26), (0, .class_ 27), (0, .nameAndType 28 29), (0, u "java/util/List"), (0, u "get"), (0, u "(I)Ljava/lang/Object;"), (6, .class_ 38), (1, u "java/util/ImmutableCollections"), (2, .class_ 42), (0, u "java/util/ListIterator"), (4, u "(Ljava/util/List;I)V"), (11, u "hasNext"), (0, u "()Z"), (1, u "next"), (0, u "()Ljava/lang/Object;")] 22
def k36c0 : Code := .mk 2 3 jdk_53_method_1_code #[] #[]
def k36m0 : Method := .mk "<init>" "(Ljava/util/List;I)V" ⟨[(.object "java/util/List"), .int], none⟩ 0 (some k36c0)
def k36c1 : Code := .mk 2 1 jdk_53_method_3_code #[] #[]
def k36m1 : Method := .mk "hasNext" "()Z" ⟨[], some .boolean⟩ 1 (some k36c1)
def k36c2 : Code := { maxStack := 3, maxLocals := 3, code := jdk_53_method_4_code, exceptionTable := #[{ startPc := 0, endPc := 24, handlerPc := 25, catchType := 30 }], attributes := #[] }
def k36m2 : Method := .mk "next" "()Ljava/lang/Object;" ⟨[], some (.object "java/lang/Object")⟩ 1 (some k36c2)
/-- java/util/ImmutableCollections$ListItr -/
def k36 : Class := { plain "java/util/ImmutableCollections$ListItr" (some 0) with
  accessFlags := 48
  interfaces := #[35]
  cf := some (fileOf pool36 8 #[.nestHost 36] #[.mk 0 5 47 #[], .mk 1 59 60 #[], .mk 1 62 63 #[]] 48 2 #[41] #[.mk 18 11 12 #[], .mk 18 15 16 #[], .mk 18 22 23 #[], .mk 2 19 16 #[]])
  fields := #[.mk "list" (.object "java/util/List") 18 0 0, .mk "size" .int 18 1 0, .mk "isListIterator" .boolean 18 2 0, .mk "cursor" .int 2 3 0]
  methods := #[k36m0, k36m1, k36m2]
  instanceTypes := #[(.object "java/util/List"), .int, .boolean, .int]
  staticTypes := #[]
  resolved := Array.replicate 86 none
  statics := none }
def pool37 : Array CpInfo := pool [(1, .class_ 2), (0, u "java/lang/String"), (1, .class_ 6), (1, u "java/lang/Object"), (0, u "<init>"), (0, u "()V"), (0, .methodref 1 10), (0, .nameAndType 11 12), (0, u "checkIndex"), (0, u "(II)V"), (1, .class_ 16), (1, u "java/lang/StringLatin1"), (36, u "([BI)C"), (67, u "$assertionsDisabled"), (0, u "Z"), (98, .class_ 223), (1, u "java/lang/StringLatin1$LinesSpliterator"), (28, u "charAt"), (28, u "equals"), (0, u "([B[B)Z"), (107, .class_ 391), (0, u "java/lang/StringLatin1$CharsSpliterator")] 3
def k37m0 : Method := .mk "<init>" "()V" ⟨[], none⟩ 0 none
def k37c1 : Code := .mk 2 2 jdk_43_method_2_code #[] #[]
def k37m1 : Method := .mk "charAt" "([BI)C" ⟨[(.array .byte), .int], some .char⟩ 9 (some k37c1)
def k37c2 : Code := .mk 3 3 jdk_43_method_13_code #[] #[]
def k37m2 : Method := .mk "equals" "([B[B)Z" ⟨[(.array .byte), (.array .byte)], some .boolean⟩ 9 (some k37c2)
/-- java/lang/StringLatin1 -/
def k37 : Class := { plain "java/lang/StringLatin1" (some 0) with
  accessFlags := 48
  interfaces := #[]
  cf := some (fileOf pool37 14 #[.nestMembers #[390, 221]] #[.mk 0 7 8 #[], .mk 9 252 53 #[], .mk 9 281 282 #[]] 48 4 #[] #[.mk 4120 121 122 #[]])
  fields := #[.mk "$assertionsDisabled" .boolean 4120 0 0]
  methods := #[k37m0, k37m1, k37m2]
  instanceTypes := #[]
  staticTypes := #[.boolean]
  resolved := Array.replicate 395 none
  statics := none }
def pool38 : Array CpInfo := pool [(2, .class_ 4), (1, u "java/lang/Object"), (0, u "<init>"), (0, u "()V"), (17, .class_ 26), (1, u "jdk/internal/util/Preconditions"), (6, u "checkIndex"), (21, .class_ 56), (0, u "jdk/internal/util/Preconditions$4"), (57, .class_ 115), (0, u "jdk/internal/util/Preconditions$1"), (7, u "SIOOBE_FORMATTER"), (0, u "Ljava/util/function/BiFunction;"), (0, .class_ 126), (0, u "jdk/internal/util/Preconditions$2"), (3, u "AIOOBE_FORMATTER"), (0, .class_ 132), (0, u "jdk/internal/util/Preconditions$3"), (3, u "IOOBE_FORMATTER"), (41, u "(IILjava/util/function/BiFunction;)I")] 15
def k38m0 : Method := .mk "<init>" "()V" ⟨[], none⟩ 1 none
def k38c1 : Code := .mk 3 3 jdk_41_method_11_code #[] #[]
def k38m1 : Method := .mk "checkIndex" "(IILjava/util/function/BiFunction;)I" ⟨[.int, .int, (.object "java/util/function/BiFunction")], some .int⟩ 9 (some k38c1)
/-- jdk/internal/util/Preconditions -/
def k38 : Class := { plain "jdk/internal/util/Preconditions" (some 0) with
  accessFlags := 33
  interfaces := #[]
  cf := some (fileOf pool38 24 #[.nestMembers #[55, 131, 125, 114]] #[.mk 1 5 6 #[], .mk 9 33 178 #[]] 33 2 #[] #[.mk 25 123 124 #[], .mk 25 130 124 #[], .mk 25 136 124 #[]])
  fields := #[.mk "SIOOBE_FORMATTER" (.object "java/util/function/BiFunction") 25 0 0, .mk "AIOOBE_FORMATTER" (.object "java/util/function/BiFunction") 25 1 0, .mk "IOOBE_FORMATTER" (.object "java/util/function/BiFunction") 25 2 0]
  methods := #[k38m0, k38m1]
  instanceTypes := #[]
  staticTypes := #[(.object "java/util/function/BiFunction"), (.object "java/util/function/BiFunction"), (.object "java/util/function/BiFunction")]
  resolved := Array.replicate 194 none
  statics := some 3 }
def pool39 : Array CpInfo := pool [(1, .class_ 2), (0, u "java/util/ImmutableCollections"), (1, .class_ 6), (1, u "java/util/ImmutableCollections$AbstractImmutableSet"), (2, .fieldref 10 11), (0, .class_ 12), (0, .nameAndType 13 14), (0, u "java/util/ImmutableCollections$SetN"), (0, u "size"), (0, u "I"), (4, u "elements"), (0, u "[Ljava/lang/Object;"), (25, .methodref 47 48), (0, .class_ 49), (0, .nameAndType 50 51), (0, u "java/util/Objects"), (0, u "requireNonNull"), (0, u "(Ljava/lang/Object;)Ljava/lang/Object;"), (18, u "(Ljava/lang/Object;)Z"), (36, .class_ 108), (0, u "java/io/Serializable"), (23, u "contains")] 35
def k39c0 : Code := .mk 2 2 jdk_132_method_4_code #[] #[]
def k39m0 : Method := .mk "contains" "(Ljava/lang/Object;)Z" ⟨[(.object "java/lang/Object")], some .boolean⟩ 1 (some k39c0)
/-- java/util/ImmutableCollections$SetN -/
def k39 : Class := { plain "java/util/ImmutableCollections$SetN" (some 14) with
  accessFlags := 48
  interfaces := #[2]
  cf := some (fileOf pool39 10 #[.nestHost 1] #[.mk 1 132 70 #[]] 48 4 #[107] #[.mk 16 19 20 #[], .mk 16 13 14 #[]])
  fields := #[.mk "elements" (.array (.object "java/lang/Object")) 16 0 0, .mk "size" .int 16 1 0]
  methods := #[k39m0]
  instanceTypes := #[(.array (.object "java/lang/Object")), .int]
  staticTypes := #[]
  resolved := Array.replicate 168 none
  statics := none }
def pool40 : Array CpInfo := pool [(9, u "<init>"), (6, .class_ 18), (1, u "java/lang/Object"), (0, u "()V"), (1, .class_ 23), (1, u "jdk/internal/util/ArraysSupport"), (0, u "LOG2_ARRAY_LONG_INDEX_SCALE"), (0, u "I"), (2, u "U"), (0, u "Ljdk/internal/misc/Unsafe;"), (8, u "BIG_ENDIAN"), (0, u "Z"), (8, u "LOG2_BYTE_BIT_SIZE"), (4, u "LOG2_ARRAY_INT_INDEX_SCALE"), (54, u "JLA"), (0, u "Ljdk/internal/access/JavaLangAccess;"), (11, u "LOG2_ARRAY_BOOLEAN_INDEX_SCALE"), (9, u "LOG2_ARRAY_BYTE_INDEX_SCALE"), (5, u "LOG2_ARRAY_CHAR_INDEX_SCALE"), (5, u "LOG2_ARRAY_SHORT_INDEX_SCALE"), (18, u "LOG2_ARRAY_FLOAT_INDEX_SCALE"), (24, u "LOG2_ARRAY_DOUBLE_INDEX_SCALE"), (89, u "T_BOOLEAN"), (2, u "T_CHAR"), (1, u "T_FLOAT"), (1, u "T_DOUBLE"), (1, u "T_BYTE"), (1, u "T_SHORT"), (1, u "T_INT"), (1, u "T_LONG"), (1, u "SOFT_MAX_ARRAY_LENGTH")] 83
def k40m0 : Method := .mk "<init>" "()V" ⟨[], none⟩ 2 none
/-- jdk/internal/util/ArraysSupport -/
def k40 : Class := { plain "jdk/internal/util/ArraysSupport" (some 0) with
  accessFlags := 33
  interfaces := #[]
  cf := some (fileOf pool40 21 #[] #[.mk 2 9 19 #[]] 33 16 #[] #[.mk 24 28 29 #[], .mk 26 38 39 #[], .mk 25 121 25 #[], .mk 25 131 25 #[], .mk 25 137 25 #[], .mk 25 143 25 #[], .mk 25 53 25 #[], .mk 25 24 25 #[], .mk 25 162 25 #[], .mk 25 187 25 #[], .mk 26 48 25 #[], .mk 25 277 25 #[], .mk 25 280 25 #[], .mk 25 282 25 #[], .mk 25 284 25 #[], .mk 25 286 25 #[], .mk 25 288 25 #[], .mk 25 290 25 #[], .mk 25 292 25 #[], .mk 26 108 109 #[], .mk 25 294 25 #[]])
  fields := #[.mk "U" (.object "jdk/internal/misc/Unsafe") 24 0 0, .mk "BIG_ENDIAN" .boolean 26 1 0, .mk "LOG2_ARRAY_BOOLEAN_INDEX_SCALE" .int 25 2 0, .mk "LOG2_ARRAY_BYTE_INDEX_SCALE" .int 25 3 0, .mk "LOG2_ARRAY_CHAR_INDEX_SCALE" .int 25 4 0, .mk "LOG2_ARRAY_SHORT_INDEX_SCALE" .int 25 5 0, .mk "LOG2_ARRAY_INT_INDEX_SCALE" .int 25 6 0, .mk "LOG2_ARRAY_LONG_INDEX_SCALE" .int 25 7 0, .mk "LOG2_ARRAY_FLOAT_INDEX_SCALE" .int 25 8 0, .mk "LOG2_ARRAY_DOUBLE_INDEX_SCALE" .int 25 9 0, .mk "LOG2_BYTE_BIT_SIZE" .int 26 10 0, .mk "T_BOOLEAN" .int 25 11 0, .mk "T_CHAR" .int 25 12 0, .mk "T_FLOAT" .int 25 13 0, .mk "T_DOUBLE" .int 25 14 0, .mk "T_BYTE" .int 25 15 0, .mk "T_SHORT" .int 25 16 0, .mk "T_INT" .int 25 17 0, .mk "T_LONG" .int 25 18 0, .mk "JLA" (.object "jdk/internal/access/JavaLangAccess") 26 19 0, .mk "SOFT_MAX_ARRAY_LENGTH" .int 25 20 0]
  methods := #[k40m0]
  instanceTypes := #[]
  staticTypes := #[(.object "jdk/internal/misc/Unsafe"), .boolean, .int, .int, .int, .int, .int, .int, .int, .int, .int, .int, .int, .int, .int, .int, .int, .int, .int, (.object "jdk/internal/access/JavaLangAccess"), .int]
  resolved := Array.replicate 378 none
  statics := none }
def pool41 : Array CpInfo := pool [(2, .class_ 4), (1, u "java/util/ImmutableCollections$AbstractImmutableList"), (3, .class_ 10), (1, u "java/util/ImmutableCollections$ListN"), (0, u "elements"), (0, u "[Ljava/lang/Object;"), (2, u "allowNulls"), (0, u "Z"), (42, .class_ 60), (0, u "java/io/Serializable"), (53, .class_ 115), (0, u "java/util/ImmutableCollections")] 3
/-- java/util/ImmutableCollections$ListN -/
def k41 : Class := { plain "java/util/ImmutableCollections$ListN" (some 30) with
  accessFlags := 48
  interfaces := #[2]
  cf := some (fileOf pool41 8 #[.nestHost 114] #[] 48 2 #[59] #[.mk 18 11 12 #[], .mk 18 15 16 #[]])
  fields := #[.mk "elements" (.array (.object "java/lang/Object")) 18 0 0, .mk "allowNulls" .boolean 18 1 0]
  methods := #[]
  instanceTypes := #[(.array (.object "java/lang/Object")), .boolean]
  staticTypes := #[]
  resolved := Array.replicate 119 none
  statics := none }
def pool42 : Array CpInfo := pool [(1, u "java/lang/Cloneable"), (0, .class_ 1), (0, u "java/lang/Object"), (0, .class_ 3)] 3
/-- java/lang/Cloneable -/
def k42 : Class := { plain "java/lang/Cloneable" (some 0) with
  accessFlags := 1537
  interfaces := #[]
  cf := some (fileOf pool42 2 #[] #[] 1537 4 #[] #[])
  fields := #[]
  methods := #[]
  instanceTypes := #[]
  staticTypes := #[]
  resolved := Array.replicate 8 none
  statics := none }
/-- the primitive byte -/
def k43 : Class := { plain "byte" none with kind := .primitive 'B', accessFlags := 0x411 }
/-- [B -/
def k44 : Class := { plain "[B" (some 0) with kind := .array 43 .byte, interfaces := #[42, 2], accessFlags := 1041 }
/-- the primitive char -/
def k45 : Class := { plain "char" none with kind := .primitive 'C', accessFlags := 0x411 }
/-- [C -/
def k46 : Class := { plain "[C" (some 0) with kind := .array 45 .char, interfaces := #[42, 2], accessFlags := 1041 }
/-- the primitive int -/
def k47 : Class := { plain "int" none with kind := .primitive 'I', accessFlags := 0x411 }
/-- [I -/
def k48 : Class := { plain "[I" (some 0) with kind := .array 47 .int, interfaces := #[42, 2], accessFlags := 1041 }
/-- [Ljava/lang/Object; -/
def k49 : Class := { plain "[Ljava/lang/Object;" (some 0) with kind := .array 0 (.object "java/lang/Object"), interfaces := #[42, 2], accessFlags := 1041 }
def classes0 : Array Class := #[k0, k1, k2, k3, k4, k5, k6, k7, k8, k9, k10, k11, k12, k13, k14, k15, k16, k17, k18, k19, k20, k21, k22, k23, k24, k25, k26, k27, k28, k29, k30, k31, k32, k33, k34, k35, k36, k37, k38, k39, k40, k41, k42, k43, k44, k45, k46, k47, k48, k49]
/-- the class that the rule has made for the site at 1 of com/example/aduana/aduana/core/AccessDecision.holdsAnyOf -/
def k50 : Class := Jvm.LamKit.madeRec { classes := classes0 } "com/example/aduana/aduana/core/AccessDecision" (Jvm.Lambda.Shape.mk "java/util/function/Predicate" "test" (Jvm.ClassFile.MethodDescriptor.mk ([(Jvm.ClassFile.FieldType.object "java/lang/Object")] : List Jvm.ClassFile.FieldType) (Option.some Jvm.ClassFile.FieldType.boolean)) ([(Jvm.ClassFile.FieldType.object "java/util/List")] : List Jvm.ClassFile.FieldType) (6 : Nat) "com/example/aduana/aduana/core/AccessDecision" "lambda$holdsAnyOf$3" (Jvm.ClassFile.MethodDescriptor.mk ([(Jvm.ClassFile.FieldType.object "java/util/List"), (Jvm.ClassFile.FieldType.object "com/example/aduana/aduana/core/Authentication")] : List Jvm.ClassFile.FieldType) (Option.some Jvm.ClassFile.FieldType.boolean)) false (Jvm.ClassFile.MethodDescriptor.mk ([(Jvm.ClassFile.FieldType.object "com/example/aduana/aduana/core/Authentication")] : List Jvm.ClassFile.FieldType) (Option.some Jvm.ClassFile.FieldType.boolean))) 50
def heap : Heap := #[{ cls := 7, slots := #[.long 0, .int 1, .null, .int 0, .null, .int 0, .int 0], vm := .statics 7 },
  { cls := 17, slots := #[.long 0, .int 0, .null, .ref 8, .ref 9, .null, .ref 7, .null, .int 0, .int 1], vm := .statics 17 },
  { cls := 19, slots := #[.long 0, .ref 5], vm := .statics 19 },
  { cls := 38, slots := #[.null, .null, .null], vm := .statics 38 },
  { cls := 49, slots := #[], vm := .none },
  { cls := 19, slots := #[.null, .ref 6, .int 0], vm := .none },
  { cls := 39, slots := #[.null, .int 0], vm := .none },
  { cls := 39, slots := #[.ref 4, .int 0], vm := .none },
  { cls := 0, slots := #[], vm := .none },
  { cls := 41, slots := #[.null, .int 0], vm := .none }]
def classes : Array Class := #[k0, k1, k2, k3, k4, k5, k6, k7, k8, k9, k10, k11, k12, k13, k14, k15, k16, k17, k18, k19, k20, k21, k22, k23, k24, k25, k26, k27, k28, k29, k30, k31, k32, k33, k34, k35, k36, k37, k38, k39, k40, k41, k42, k43, k44, k45, k46, k47, k48, k49, k50]
def interned : List (Array UInt16 × Addr) := []
def slotsUsed : Nat := 31
def theMethod : MethodId := ⟨1, 1⟩
def args0 : Array Value := #[.int 5, .int 5, .int 5, .int 5]
def aboutOver (below : List Frame) : State where
  vm := { classes := classes, interned := interned.toArray }
  heap := heap
  slotsUsed := slotsUsed
  threads := #[{ frames := .invoking theMethod args0 :: below }]
def below0 : List Frame := [.native { method := ⟨0, 0⟩, args := #[] }]
def about1 : State := aboutOver below0
def p0 : Program := .bare "" "" ""
def e0 : Env := launch0.env 0 0 0
theorem w_frames : about1.frames = Frame.invoking theMethod args0 :: below0 := rfl
theorem w_args : argsFit about1.vm theMethod args0 = true := by decide +kernel
theorem w_heap : heapFits about1 = true := by decide +kernel
theorem w_runnable : about1.curStatus? = some .runnable := by decide +kernel
theorem w_alone : about1.alone = true := by decide +kernel
theorem w_named : about1.methodNamed? x = some theMethod := by decide +kernel
theorem w_hears : about1.hears theMethod below0 = true := by decide +kernel
theorem w_ripe : about1.ripe theMethod args0 below0 = true := by decide +kernel
theorem w_running : about1.status = .running := rfl
theorem w_room : about1.hasRoom e0.platform room_1 = true :=
  launch0.hasRoom_least _ room_1 (by decide +kernel) (by decide +kernel) (by decide +kernel) (by decide +kernel) (by decide +kernel) (by decide +kernel)
theorem allAtoms_all (ts : List Jvm.Cond) (a : Array Jvm.Value) (st : Jvm.State) : (allAtoms ts).before a st = ts.all (fun c => c.before a st) := by
  induction ts with
  | nil => rfl
  | cons c t ih =>
    show (Jvm.Cond.and c (allAtoms t)).before a st = _
    rw [Jvm.Cond.before_and, ih, List.all_cons]
def words1 : List Jvm.Cond := Jvm.Cond.code x code maxLocals ret :: tables_1
/-- a 'code' word, met by the world's own term for the bytes: nothing is compared byte by byte -/
theorem code_word {y : MethodName} {bytes : ByteArray} {mx : Nat} {rt : Option FieldType} {a : Array Value} {s : State} {m : MethodId} {meth : Method} {c : Code} (h1 : s.methodNamed? y = some m) (h2 : s.vm.method? m = some meth) (h3 : meth.code = some c) (h4 : c.code = bytes)
    (h5 : (c.maxLocals == mx && c.exceptionTable.isEmpty && decide (c.maxStack ≤ mostOperands) && decide (meth.sig.returnType = rt) && !meth.locks && decide (parseMethodDescriptor y.desc = some meth.sig)) = true) : (Jvm.Cond.code y bytes mx rt).before a s = true := by
  simp only [Bool.and_eq_true, beq_iff_eq, Bool.not_eq_true', decide_eq_true_eq] at h5
  obtain ⟨⟨⟨⟨⟨g1, g2⟩, g3⟩, g4⟩, g5⟩, g6⟩ := h5
  simp [Cond.before, Cond.holds, Cond.value, h1, h2, h3, h4, g1, g2, g3, g4, g5, g6]
def isCode : Jvm.Cond → Bool
  | .code _ _ _ _ => true
  | _ => false
theorem all_split {L : List Jvm.Cond} {P : Jvm.Cond → Bool} (h1 : L.all (fun c => isCode c || P c) = true) (h2 : ∀ c ∈ L.filter isCode, P c = true) : L.all P = true := by
  refine List.all_eq_true.mpr fun c hc => ?_
  have h := List.all_eq_true.mp h1 c hc
  rcases Bool.eq_false_or_eq_true (isCode c) with hi | hi
  · exact h2 c (List.mem_filter.mpr ⟨hc, hi⟩)
  · simpa [hi] using h
abbrev q0 : Jvm.Cond := Jvm.Cond.code x code maxLocals ret
abbrev q1 : Jvm.Cond := Jvm.Cond.code (.mk "java/lang/String" "<init>" "([C)V") jdk_42_method_3_code (2 : Nat) (Option.none : Option Jvm.ClassFile.FieldType)
abbrev q2 : Jvm.Cond := Jvm.Cond.code (.mk "java/lang/String" "<init>" "([CIILjava/lang/Void;)V") jdk_42_method_149_code (6 : Nat) (Option.none : Option Jvm.ClassFile.FieldType)
abbrev q3 : Jvm.Cond := Jvm.Cond.code (.mk "java/lang/Object" "<init>" "()V") object_method_1_code (1 : Nat) (Option.none : Option Jvm.ClassFile.FieldType)
abbrev q4 : Jvm.Cond := Jvm.Cond.code (.mk "java/lang/StringUTF16" "compress" "([CII)[B") jdk_52_method_16_code (6 : Nat) (Option.some (Jvm.ClassFile.FieldType.array Jvm.ClassFile.FieldType.byte))
abbrev q5 : Jvm.Cond := Jvm.Cond.code (.mk "java/lang/StringUTF16" "compress" "([CI[BII)I") jdk_52_method_21_code (7 : Nat) (Option.some Jvm.ClassFile.FieldType.int)
abbrev q6 : Jvm.Cond := Jvm.Cond.code (.mk "java/lang/StringUTF16" "coderFromArrayLen" "([BI)B") jdk_52_method_15_code (2 : Nat) (Option.some Jvm.ClassFile.FieldType.byte)
abbrev q7 : Jvm.Cond := Jvm.Cond.code (.mk "java/util/Set" "of" "(Ljava/lang/Object;)Ljava/util/Set;") jdk_96_method_18_code (1 : Nat) (Option.some (Jvm.ClassFile.FieldType.object "java/util/Set"))
abbrev q8 : Jvm.Cond := Jvm.Cond.code (.mk "java/util/ImmutableCollections$Set12" "<init>" "(Ljava/lang/Object;)V") jdk_101_method_1_code (2 : Nat) (Option.none : Option Jvm.ClassFile.FieldType)
abbrev q9 : Jvm.Cond := Jvm.Cond.code (.mk "java/util/ImmutableCollections$AbstractImmutableSet" "<init>" "()V") jdk_100_method_1_code (1 : Nat) (Option.none : Option Jvm.ClassFile.FieldType)
abbrev q10 : Jvm.Cond := Jvm.Cond.code (.mk "java/util/ImmutableCollections$AbstractImmutableCollection" "<init>" "()V") jdk_47_method_1_code (1 : Nat) (Option.none : Option Jvm.ClassFile.FieldType)
abbrev q11 : Jvm.Cond := Jvm.Cond.code (.mk "java/util/AbstractCollection" "<init>" "()V") jdk_22_method_1_code (1 : Nat) (Option.none : Option Jvm.ClassFile.FieldType)
abbrev q12 : Jvm.Cond := Jvm.Cond.code (.mk "java/util/Objects" "requireNonNull" "(Ljava/lang/Object;)Ljava/lang/Object;") jdk_31_method_10_code (1 : Nat) (Option.some (Jvm.ClassFile.FieldType.object "java/lang/Object"))
abbrev q13 : Jvm.Cond := Jvm.Cond.code (.mk "com/example/aduana/aduana/core/Authentication" "<init>" "(Ljava/lang/String;Ljava/util/Set;)V") prog_11_method_1_code (3 : Nat) (Option.none : Option Jvm.ClassFile.FieldType)
abbrev q14 : Jvm.Cond := Jvm.Cond.code (.mk "com/example/aduana/aduana/core/Authentication" "<init>" "(Ljava/lang/String;Ljava/util/Set;Z)V") prog_11_method_2_code (4 : Nat) (Option.none : Option Jvm.ClassFile.FieldType)
abbrev q15 : Jvm.Cond := Jvm.Cond.code (.mk "java/util/Objects" "requireNonNull" "(Ljava/lang/Object;Ljava/lang/String;)Ljava/lang/Object;") jdk_31_method_11_code (2 : Nat) (Option.some (Jvm.ClassFile.FieldType.object "java/lang/Object"))
abbrev q16 : Jvm.Cond := Jvm.Cond.code (.mk "java/util/Set" "copyOf" "(Ljava/util/Collection;)Ljava/util/Set;") jdk_96_method_29_code (1 : Nat) (Option.some (Jvm.ClassFile.FieldType.object "java/util/Set"))
abbrev q17 : Jvm.Cond := Jvm.Cond.code (.mk "com/example/aduana/aduana/core/AccessDecision" "hasRole" "(Ljava/lang/String;)Lcom/example/aduana/aduana/core/AccessDecision;") prog_8_method_5_code (1 : Nat) (Option.some (Jvm.ClassFile.FieldType.object "com/example/aduana/aduana/core/AccessDecision"))
abbrev q18 : Jvm.Cond := Jvm.Cond.code (.mk "java/lang/StringBuilder" "<init>" "()V") jdk_67_method_1_code (1 : Nat) (Option.none : Option Jvm.ClassFile.FieldType)
abbrev q19 : Jvm.Cond := Jvm.Cond.code (.mk "java/lang/AbstractStringBuilder" "<init>" "(I)V") jdk_68_method_2_code (2 : Nat) (Option.none : Option Jvm.ClassFile.FieldType)
abbrev q20 : Jvm.Cond := Jvm.Cond.code (.mk "java/lang/StringBuilder" "append" "(Ljava/lang/String;)Ljava/lang/StringBuilder;") jdk_67_method_7_code (2 : Nat) (Option.some (Jvm.ClassFile.FieldType.object "java/lang/StringBuilder"))
abbrev q21 : Jvm.Cond := Jvm.Cond.code (.mk "java/lang/AbstractStringBuilder" "append" "(Ljava/lang/String;)Ljava/lang/AbstractStringBuilder;") jdk_68_method_22_code (3 : Nat) (Option.some (Jvm.ClassFile.FieldType.object "java/lang/AbstractStringBuilder"))
abbrev q22 : Jvm.Cond := Jvm.Cond.code (.mk "java/lang/String" "length" "()I") jdk_42_method_54_code (1 : Nat) (Option.some Jvm.ClassFile.FieldType.int)
abbrev q23 : Jvm.Cond := Jvm.Cond.code (.mk "java/lang/String" "coder" "()B") jdk_42_method_152_code (1 : Nat) (Option.some Jvm.ClassFile.FieldType.byte)
abbrev q24 : Jvm.Cond := Jvm.Cond.code (.mk "java/lang/AbstractStringBuilder" "ensureCapacityInternal" "(I)V") jdk_68_method_9_code (3 : Nat) (Option.none : Option Jvm.ClassFile.FieldType)
abbrev q25 : Jvm.Cond := Jvm.Cond.code (.mk "java/lang/AbstractStringBuilder" "putStringAt" "(ILjava/lang/String;)V") jdk_68_method_73_code (3 : Nat) (Option.none : Option Jvm.ClassFile.FieldType)
abbrev q26 : Jvm.Cond := Jvm.Cond.code (.mk "java/lang/AbstractStringBuilder" "inflateIfNeededFor" "(Ljava/lang/String;)V") jdk_68_method_71_code (2 : Nat) (Option.none : Option Jvm.ClassFile.FieldType)
abbrev q27 : Jvm.Cond := Jvm.Cond.code (.mk "java/lang/String" "getBytes" "([BIB)V") jdk_42_method_147_code (4 : Nat) (Option.none : Option Jvm.ClassFile.FieldType)
abbrev q28 : Jvm.Cond := Jvm.Cond.code (.mk "java/lang/StringBuilder" "toString" "()Ljava/lang/String;") jdk_67_method_42_code (1 : Nat) (Option.some (Jvm.ClassFile.FieldType.object "java/lang/String"))
abbrev q29 : Jvm.Cond := Jvm.Cond.code (.mk "java/lang/String" "<init>" "(Ljava/lang/StringBuilder;)V") jdk_42_method_53_code (2 : Nat) (Option.none : Option Jvm.ClassFile.FieldType)
abbrev q30 : Jvm.Cond := Jvm.Cond.code (.mk "java/lang/String" "<init>" "(Ljava/lang/AbstractStringBuilder;Ljava/lang/Void;)V") jdk_42_method_150_code (5 : Nat) (Option.none : Option Jvm.ClassFile.FieldType)
abbrev q31 : Jvm.Cond := Jvm.Cond.code (.mk "java/lang/AbstractStringBuilder" "getValue" "()[B") jdk_68_method_64_code (1 : Nat) (Option.some (Jvm.ClassFile.FieldType.array Jvm.ClassFile.FieldType.byte))
abbrev q32 : Jvm.Cond := Jvm.Cond.code (.mk "java/lang/StringBuilder" "length" "()I") jdk_67_method_93_code (1 : Nat) (Option.some Jvm.ClassFile.FieldType.int)
abbrev q33 : Jvm.Cond := Jvm.Cond.code (.mk "java/lang/AbstractStringBuilder" "length" "()I") jdk_68_method_6_code (1 : Nat) (Option.some Jvm.ClassFile.FieldType.int)
abbrev q34 : Jvm.Cond := Jvm.Cond.code (.mk "java/lang/AbstractStringBuilder" "isLatin1" "()Z") jdk_68_method_68_code (1 : Nat) (Option.some Jvm.ClassFile.FieldType.boolean)
abbrev q35 : Jvm.Cond := Jvm.Cond.code (.mk "java/util/Arrays" "copyOfRange" "([BII)[B") jdk_65_method_132_code (3 : Nat) (Option.some (Jvm.ClassFile.FieldType.array Jvm.ClassFile.FieldType.byte))
abbrev q36 : Jvm.Cond := Jvm.Cond.code (.mk "java/util/Arrays" "copyOfRangeByte" "([BII)[B") jdk_65_method_133_code (5 : Nat) (Option.some (Jvm.ClassFile.FieldType.array Jvm.ClassFile.FieldType.byte))
abbrev q37 : Jvm.Cond := Jvm.Cond.code (.mk "java/util/Arrays" "checkLength" "(II)V") jdk_65_method_131_code (2 : Nat) (Option.none : Option Jvm.ClassFile.FieldType)
abbrev q38 : Jvm.Cond := Jvm.Cond.code (.mk "java/lang/Math" "min" "(II)I") jdk_29_method_69_code (2 : Nat) (Option.some Jvm.ClassFile.FieldType.int)
abbrev q39 : Jvm.Cond := Jvm.Cond.code (.mk "java/util/List" "of" "(Ljava/lang/Object;)Ljava/util/List;") jdk_40_method_37_code (1 : Nat) (Option.some (Jvm.ClassFile.FieldType.object "java/util/List"))
abbrev q40 : Jvm.Cond := Jvm.Cond.code (.mk "java/util/ImmutableCollections$List12" "<init>" "(Ljava/lang/Object;)V") jdk_44_method_1_code (2 : Nat) (Option.none : Option Jvm.ClassFile.FieldType)
abbrev q41 : Jvm.Cond := Jvm.Cond.code (.mk "java/util/ImmutableCollections$AbstractImmutableList" "<init>" "()V") jdk_46_method_1_code (1 : Nat) (Option.none : Option Jvm.ClassFile.FieldType)
abbrev q42 : Jvm.Cond := Jvm.Cond.code (.mk "com/example/aduana/aduana/core/AccessDecision" "holdsAnyOf" "(Ljava/util/List;)Ljava/util/function/Predicate;") prog_8_method_9_code (1 : Nat) (Option.some (Jvm.ClassFile.FieldType.object "java/util/function/Predicate"))
abbrev q43 : Jvm.Cond := Jvm.Cond.code (.mk "com/example/aduana/aduana/core/AccessDecision" "<init>" "(Ljava/lang/String;Ljava/util/function/Predicate;)V") prog_8_method_1_code (3 : Nat) (Option.none : Option Jvm.ClassFile.FieldType)
abbrev q44 : Jvm.Cond := Jvm.Cond.code (.mk "com/example/aduana/aduana/core/AccessDecision" "isGranted" "(Lcom/example/aduana/aduana/core/Authentication;)Z") prog_8_method_7_code (2 : Nat) (Option.some Jvm.ClassFile.FieldType.boolean)
abbrev q45 : Jvm.Cond := Jvm.Cond.code (.mk "com/example/aduana/aduana/core/AccessDecision" "lambda$holdsAnyOf$3" "(Ljava/util/List;Lcom/example/aduana/aduana/core/Authentication;)Z") prog_8_method_10_code (2 : Nat) (Option.some Jvm.ClassFile.FieldType.boolean)
abbrev q46 : Jvm.Cond := Jvm.Cond.code (.mk "com/example/aduana/aduana/core/Authentication" "getRoles" "()Ljava/util/Set;") prog_11_method_5_code (1 : Nat) (Option.some (Jvm.ClassFile.FieldType.object "java/util/Set"))
abbrev q47 : Jvm.Cond := Jvm.Cond.code (.mk "java/util/Collections" "disjoint" "(Ljava/util/Collection;Ljava/util/Collection;)Z") jdk_79_method_83_code (6 : Nat) (Option.some Jvm.ClassFile.FieldType.boolean)
abbrev q48 : Jvm.Cond := Jvm.Cond.code (.mk "java/util/ImmutableCollections$AbstractImmutableList" "iterator" "()Ljava/util/Iterator;") jdk_46_method_10_code (1 : Nat) (Option.some (Jvm.ClassFile.FieldType.object "java/util/Iterator"))
abbrev q49 : Jvm.Cond := Jvm.Cond.code (.mk "java/util/ImmutableCollections$List12" "size" "()I") jdk_44_method_3_code (1 : Nat) (Option.some Jvm.ClassFile.FieldType.int)
abbrev q50 : Jvm.Cond := Jvm.Cond.code (.mk "java/util/ImmutableCollections$ListItr" "<init>" "(Ljava/util/List;I)V") jdk_53_method_1_code (3 : Nat) (Option.none : Option Jvm.ClassFile.FieldType)
abbrev q51 : Jvm.Cond := Jvm.Cond.code (.mk "java/util/ImmutableCollections$ListItr" "hasNext" "()Z") jdk_53_method_3_code (1 : Nat) (Option.some Jvm.ClassFile.FieldType.boolean)
abbrev q52 : Jvm.Cond := Jvm.Cond.code (.mk "java/util/ImmutableCollections$List12" "get" "(I)Ljava/lang/Object;") jdk_44_method_5_code (2 : Nat) (Option.some (Jvm.ClassFile.FieldType.object "java/lang/Object"))
abbrev q53 : Jvm.Cond := Jvm.Cond.code (.mk "java/util/ImmutableCollections$Set12" "contains" "(Ljava/lang/Object;)Z") jdk_101_method_5_code (2 : Nat) (Option.some Jvm.ClassFile.FieldType.boolean)
abbrev q54 : Jvm.Cond := Jvm.Cond.code (.mk "java/lang/String" "equals" "(Ljava/lang/Object;)Z") jdk_42_method_66_code (3 : Nat) (Option.some Jvm.ClassFile.FieldType.boolean)
abbrev q55 : Jvm.Cond := Jvm.Cond.code (.mk "java/lang/StringLatin1" "equals" "([B[B)Z") jdk_43_method_13_code (3 : Nat) (Option.some Jvm.ClassFile.FieldType.boolean)
abbrev q56 : Jvm.Cond := Jvm.Cond.code (.mk "java/lang/Object" "equals" "(Ljava/lang/Object;)Z") object_method_4_code (2 : Nat) (Option.some Jvm.ClassFile.FieldType.boolean)
abbrev q57 : Jvm.Cond := Jvm.Cond.code (.mk "com/example/aduana/aduana/core/AccessDecision" "toString" "()Ljava/lang/String;") prog_8_method_8_code (1 : Nat) (Option.some (Jvm.ClassFile.FieldType.object "java/lang/String"))
abbrev q58 : Jvm.Cond := Jvm.Cond.code (.mk "java/lang/String" "charAt" "(I)C") jdk_42_method_56_code (2 : Nat) (Option.some Jvm.ClassFile.FieldType.char)
abbrev q59 : Jvm.Cond := Jvm.Cond.code (.mk "java/lang/String" "isLatin1" "()Z") jdk_42_method_154_code (1 : Nat) (Option.some Jvm.ClassFile.FieldType.boolean)
abbrev q60 : Jvm.Cond := Jvm.Cond.code (.mk "java/lang/StringLatin1" "charAt" "([BI)C") jdk_43_method_2_code (2 : Nat) (Option.some Jvm.ClassFile.FieldType.char)
abbrev q61 : Jvm.Cond := Jvm.Cond.code (.mk "java/lang/String" "checkIndex" "(II)V") jdk_42_method_155_code (2 : Nat) (Option.none : Option Jvm.ClassFile.FieldType)
abbrev q62 : Jvm.Cond := Jvm.Cond.code (.mk "jdk/internal/util/Preconditions" "checkIndex" "(IILjava/util/function/BiFunction;)I") jdk_41_method_11_code (3 : Nat) (Option.some Jvm.ClassFile.FieldType.int)
abbrev q63 : Jvm.Cond := Jvm.Cond.code (.mk "java/util/Set" "of" "(Ljava/lang/Object;Ljava/lang/Object;)Ljava/util/Set;") jdk_96_method_19_code (2 : Nat) (Option.some (Jvm.ClassFile.FieldType.object "java/util/Set"))
abbrev q64 : Jvm.Cond := Jvm.Cond.code (.mk "java/util/ImmutableCollections$Set12" "<init>" "(Ljava/lang/Object;Ljava/lang/Object;)V") jdk_101_method_2_code (3 : Nat) (Option.none : Option Jvm.ClassFile.FieldType)
abbrev q65 : Jvm.Cond := Jvm.Cond.code (.mk "com/example/aduana/aduana/core/Authentication" "anonymous" "()Lcom/example/aduana/aduana/core/Authentication;") prog_11_method_3_code (0 : Nat) (Option.some (Jvm.ClassFile.FieldType.object "com/example/aduana/aduana/core/Authentication"))
abbrev q66 : Jvm.Cond := Jvm.Cond.code (.mk "java/util/ImmutableCollections$SetN" "contains" "(Ljava/lang/Object;)Z") jdk_132_method_4_code (2 : Nat) (Option.some Jvm.ClassFile.FieldType.boolean)
abbrev q67 : Jvm.Cond := Jvm.Cond.code (.mk "java/util/Set" "of" "()Ljava/util/Set;") jdk_96_method_17_code (0 : Nat) (Option.some (Jvm.ClassFile.FieldType.object "java/util/Set"))
theorem w_c0 : q0.before args0 about1 = true := code_word (m := ⟨1, 1⟩) (meth := k1m1) (c := k1c1) (by decide +kernel) rfl rfl rfl (by decide +kernel)
theorem w_c1 : q1.before args0 about1 = true := code_word (m := ⟨7, 1⟩) (meth := k7m1) (c := k7c1) (by decide +kernel) rfl rfl rfl (by decide +kernel)
theorem w_c2 : q2.before args0 about1 = true := code_word (m := ⟨7, 7⟩) (meth := k7m7) (c := k7c7) (by decide +kernel) rfl rfl rfl (by decide +kernel)
theorem w_c3 : q3.before args0 about1 = true := code_word (m := ⟨0, 0⟩) (meth := k0m0) (c := k0c0) (by decide +kernel) rfl rfl rfl (by decide +kernel)
theorem w_c4 : q4.before args0 about1 = true := code_word (m := ⟨8, 2⟩) (meth := k8m2) (c := k8c2) (by decide +kernel) rfl rfl rfl (by decide +kernel)
theorem w_c5 : q5.before args0 about1 = true := code_word (m := ⟨8, 3⟩) (meth := k8m3) (c := k8c3) (by decide +kernel) rfl rfl rfl (by decide +kernel)
theorem w_c6 : q6.before args0 about1 = true := code_word (m := ⟨8, 1⟩) (meth := k8m1) (c := k8c1) (by decide +kernel) rfl rfl rfl (by decide +kernel)
theorem w_c7 : q7.before args0 about1 = true := code_word (m := ⟨11, 1⟩) (meth := k11m1) (c := k11c1) (by decide +kernel) rfl rfl rfl (by decide +kernel)
theorem w_c8 : q8.before args0 about1 = true := code_word (m := ⟨15, 0⟩) (meth := k15m0) (c := k15c0) (by decide +kernel) rfl rfl rfl (by decide +kernel)
theorem w_c9 : q9.before args0 about1 = true := code_word (m := ⟨14, 0⟩) (meth := k14m0) (c := k14c0) (by decide +kernel) rfl rfl rfl (by decide +kernel)
theorem w_c10 : q10.before args0 about1 = true := code_word (m := ⟨13, 0⟩) (meth := k13m0) (c := k13c0) (by decide +kernel) rfl rfl rfl (by decide +kernel)
theorem w_c11 : q11.before args0 about1 = true := code_word (m := ⟨12, 0⟩) (meth := k12m0) (c := k12c0) (by decide +kernel) rfl rfl rfl (by decide +kernel)
theorem w_c12 : q12.before args0 about1 = true := code_word (m := ⟨16, 1⟩) (meth := k16m1) (c := k16c1) (by decide +kernel) rfl rfl rfl (by decide +kernel)
theorem w_c13 : q13.before args0 about1 = true := code_word (m := ⟨19, 0⟩) (meth := k19m0) (c := k19c0) (by decide +kernel) rfl rfl rfl (by decide +kernel)
theorem w_c14 : q14.before args0 about1 = true := code_word (m := ⟨19, 1⟩) (meth := k19m1) (c := k19c1) (by decide +kernel) rfl rfl rfl (by decide +kernel)
theorem w_c15 : q15.before args0 about1 = true := code_word (m := ⟨16, 2⟩) (meth := k16m2) (c := k16c2) (by decide +kernel) rfl rfl rfl (by decide +kernel)
theorem w_c16 : q16.before args0 about1 = true := code_word (m := ⟨11, 3⟩) (meth := k11m3) (c := k11c3) (by decide +kernel) rfl rfl rfl (by decide +kernel)
theorem w_c17 : q17.before args0 about1 = true := code_word (m := ⟨20, 1⟩) (meth := k20m1) (c := k20c1) (by decide +kernel) rfl rfl rfl (by decide +kernel)
theorem w_c18 : q18.before args0 about1 = true := code_word (m := ⟨23, 0⟩) (meth := k23m0) (c := k23c0) (by decide +kernel) rfl rfl rfl (by decide +kernel)
theorem w_c19 : q19.before args0 about1 = true := code_word (m := ⟨22, 1⟩) (meth := k22m1) (c := k22c1) (by decide +kernel) rfl rfl rfl (by decide +kernel)
theorem w_c20 : q20.before args0 about1 = true := code_word (m := ⟨23, 1⟩) (meth := k23m1) (c := k23c1) (by decide +kernel) rfl rfl rfl (by decide +kernel)
theorem w_c21 : q21.before args0 about1 = true := code_word (m := ⟨22, 4⟩) (meth := k22m4) (c := k22c4) (by decide +kernel) rfl rfl rfl (by decide +kernel)
theorem w_c22 : q22.before args0 about1 = true := code_word (m := ⟨7, 3⟩) (meth := k7m3) (c := k7c3) (by decide +kernel) rfl rfl rfl (by decide +kernel)
theorem w_c23 : q23.before args0 about1 = true := code_word (m := ⟨7, 9⟩) (meth := k7m9) (c := k7c9) (by decide +kernel) rfl rfl rfl (by decide +kernel)
theorem w_c24 : q24.before args0 about1 = true := code_word (m := ⟨22, 3⟩) (meth := k22m3) (c := k22c3) (by decide +kernel) rfl rfl rfl (by decide +kernel)
theorem w_c25 : q25.before args0 about1 = true := code_word (m := ⟨22, 8⟩) (meth := k22m8) (c := k22c8) (by decide +kernel) rfl rfl rfl (by decide +kernel)
theorem w_c26 : q26.before args0 about1 = true := code_word (m := ⟨22, 7⟩) (meth := k22m7) (c := k22c7) (by decide +kernel) rfl rfl rfl (by decide +kernel)
theorem w_c27 : q27.before args0 about1 = true := code_word (m := ⟨7, 6⟩) (meth := k7m6) (c := k7c6) (by decide +kernel) rfl rfl rfl (by decide +kernel)
theorem w_c28 : q28.before args0 about1 = true := code_word (m := ⟨23, 2⟩) (meth := k23m2) (c := k23c2) (by decide +kernel) rfl rfl rfl (by decide +kernel)
theorem w_c29 : q29.before args0 about1 = true := code_word (m := ⟨7, 2⟩) (meth := k7m2) (c := k7c2) (by decide +kernel) rfl rfl rfl (by decide +kernel)
theorem w_c30 : q30.before args0 about1 = true := code_word (m := ⟨7, 8⟩) (meth := k7m8) (c := k7c8) (by decide +kernel) rfl rfl rfl (by decide +kernel)
theorem w_c31 : q31.before args0 about1 = true := code_word (m := ⟨22, 5⟩) (meth := k22m5) (c := k22c5) (by decide +kernel) rfl rfl rfl (by decide +kernel)
theorem w_c32 : q32.before args0 about1 = true := code_word (m := ⟨23, 3⟩) (meth := k23m3) (c := k23c3) (by decide +kernel) rfl rfl rfl (by decide +kernel)
theorem w_c33 : q33.before args0 about1 = true := code_word (m := ⟨22, 2⟩) (meth := k22m2) (c := k22c2) (by decide +kernel) rfl rfl rfl (by decide +kernel)
theorem w_c34 : q34.before args0 about1 = true := code_word (m := ⟨22, 6⟩) (meth := k22m6) (c := k22c6) (by decide +kernel) rfl rfl rfl (by decide +kernel)
theorem w_c35 : q35.before args0 about1 = true := code_word (m := ⟨25, 2⟩) (meth := k25m2) (c := k25c2) (by decide +kernel) rfl rfl rfl (by decide +kernel)
theorem w_c36 : q36.before args0 about1 = true := code_word (m := ⟨25, 3⟩) (meth := k25m3) (c := k25c3) (by decide +kernel) rfl rfl rfl (by decide +kernel)
theorem w_c37 : q37.before args0 about1 = true := code_word (m := ⟨25, 1⟩) (meth := k25m1) (c := k25c1) (by decide +kernel) rfl rfl rfl (by decide +kernel)
theorem w_c38 : q38.before args0 about1 = true := code_word (m := ⟨26, 1⟩) (meth := k26m1) (c := k26c1) (by decide +kernel) rfl rfl rfl (by decide +kernel)
theorem w_c39 : q39.before args0 about1 = true := code_word (m := ⟨28, 1⟩) (meth := k28m1) (c := k28c1) (by decide +kernel) rfl rfl rfl (by decide +kernel)
theorem w_c40 : q40.before args0 about1 = true := code_word (m := ⟨31, 0⟩) (meth := k31m0) (c := k31c0) (by decide +kernel) rfl rfl rfl (by decide +kernel)
theorem w_c41 : q41.before args0 about1 = true := code_word (m := ⟨30, 0⟩) (meth := k30m0) (c := k30c0) (by decide +kernel) rfl rfl rfl (by decide +kernel)
theorem w_c42 : q42.before args0 about1 = true := code_word (m := ⟨20, 4⟩) (meth := k20m4) (c := k20c4) (by decide +kernel) rfl rfl rfl (by decide +kernel)
theorem w_c43 : q43.before args0 about1 = true := code_word (m := ⟨20, 0⟩) (meth := k20m0) (c := k20c0) (by decide +kernel) rfl rfl rfl (by decide +kernel)
theorem w_c44 : q44.before args0 about1 = true := code_word (m := ⟨20, 2⟩) (meth := k20m2) (c := k20c2) (by decide +kernel) rfl rfl rfl (by decide +kernel)
theorem w_c45 : q45.before args0 about1 = true := code_word (m := ⟨20, 5⟩) (meth := k20m5) (c := k20c5) (by decide +kernel) rfl rfl rfl (by decide +kernel)
theorem w_c46 : q46.before args0 about1 = true := code_word (m := ⟨19, 3⟩) (meth := k19m3) (c := k19c3) (by decide +kernel) rfl rfl rfl (by decide +kernel)
theorem w_c47 : q47.before args0 about1 = true := code_word (m := ⟨33, 1⟩) (meth := k33m1) (c := k33c1) (by decide +kernel) rfl rfl rfl (by decide +kernel)
theorem w_c48 : q48.before args0 about1 = true := code_word (m := ⟨30, 1⟩) (meth := k30m1) (c := k30c1) (by decide +kernel) rfl rfl rfl (by decide +kernel)
theorem w_c49 : q49.before args0 about1 = true := code_word (m := ⟨31, 1⟩) (meth := k31m1) (c := k31c1) (by decide +kernel) rfl rfl rfl (by decide +kernel)
theorem w_c50 : q50.before args0 about1 = true := code_word (m := ⟨36, 0⟩) (meth := k36m0) (c := k36c0) (by decide +kernel) rfl rfl rfl (by decide +kernel)
theorem w_c51 : q51.before args0 about1 = true := code_word (m := ⟨36, 1⟩) (meth := k36m1) (c := k36c1) (by decide +kernel) rfl rfl rfl (by decide +kernel)
theorem w_c52 : q52.before args0 about1 = true := code_word (m := ⟨31, 2⟩) (meth := k31m2) (c := k31c2) (by decide +kernel) rfl rfl rfl (by decide +kernel)
theorem w_c53 : q53.before args0 about1 = true := code_word (m := ⟨15, 2⟩) (meth := k15m2) (c := k15c2) (by decide +kernel) rfl rfl rfl (by decide +kernel)
theorem w_c54 : q54.before args0 about1 = true := code_word (m := ⟨7, 5⟩) (meth := k7m5) (c := k7c5) (by decide +kernel) rfl rfl rfl (by decide +kernel)
theorem w_c55 : q55.before args0 about1 = true := code_word (m := ⟨37, 2⟩) (meth := k37m2) (c := k37c2) (by decide +kernel) rfl rfl rfl (by decide +kernel)
theorem w_c56 : q56.before args0 about1 = true := code_word (m := ⟨0, 1⟩) (meth := k0m1) (c := k0c1) (by decide +kernel) rfl rfl rfl (by decide +kernel)
theorem w_c57 : q57.before args0 about1 = true := code_word (m := ⟨20, 3⟩) (meth := k20m3) (c := k20c3) (by decide +kernel) rfl rfl rfl (by decide +kernel)
theorem w_c58 : q58.before args0 about1 = true := code_word (m := ⟨7, 4⟩) (meth := k7m4) (c := k7c4) (by decide +kernel) rfl rfl rfl (by decide +kernel)
theorem w_c59 : q59.before args0 about1 = true := code_word (m := ⟨7, 10⟩) (meth := k7m10) (c := k7c10) (by decide +kernel) rfl rfl rfl (by decide +kernel)
theorem w_c60 : q60.before args0 about1 = true := code_word (m := ⟨37, 1⟩) (meth := k37m1) (c := k37c1) (by decide +kernel) rfl rfl rfl (by decide +kernel)
theorem w_c61 : q61.before args0 about1 = true := code_word (m := ⟨7, 11⟩) (meth := k7m11) (c := k7c11) (by decide +kernel) rfl rfl rfl (by decide +kernel)
theorem w_c62 : q62.before args0 about1 = true := code_word (m := ⟨38, 1⟩) (meth := k38m1) (c := k38c1) (by decide +kernel) rfl rfl rfl (by decide +kernel)
theorem w_c63 : q63.before args0 about1 = true := code_word (m := ⟨11, 2⟩) (meth := k11m2) (c := k11c2) (by decide +kernel) rfl rfl rfl (by decide +kernel)
theorem w_c64 : q64.before args0 about1 = true := code_word (m := ⟨15, 1⟩) (meth := k15m1) (c := k15c1) (by decide +kernel) rfl rfl rfl (by decide +kernel)
theorem w_c65 : q65.before args0 about1 = true := code_word (m := ⟨19, 2⟩) (meth := k19m2) (c := k19c2) (by decide +kernel) rfl rfl rfl (by decide +kernel)
theorem w_c66 : q66.before args0 about1 = true := code_word (m := ⟨39, 0⟩) (meth := k39m0) (c := k39c0) (by decide +kernel) rfl rfl rfl (by decide +kernel)
theorem w_c67 : q67.before args0 about1 = true := code_word (m := ⟨11, 0⟩) (meth := k11m0) (c := k11c0) (by decide +kernel) rfl rfl rfl (by decide +kernel)
def codes1 : List Jvm.Cond := [q0, q1, q2, q3, q4, q5, q6, q7, q8, q9, q10, q11, q12, q13, q14, q15, q16, q17, q18, q19, q20, q21, q22, q23, q24, q25, q26, q27, q28, q29, q30, q31, q32, q33, q34, q35, q36, q37, q38, q39, q40, q41, q42, q43, q44, q45, q46, q47, q48, q49, q50, q51, q52, q53, q54, q55, q56, q57, q58, q59, q60, q61, q62, q63, q64, q65, q66, q67]
theorem codes_eq : words1.filter isCode = codes1 := rfl
theorem w_codes : ∀ c ∈ words1.filter isCode, c.before args0 about1 = true := by
  rw [codes_eq]
  intro c hc
  simp only [codes1, List.mem_cons, List.not_mem_nil, or_false] at hc
  rcases hc with rfl | rfl | rfl | rfl | rfl | rfl | rfl | rfl | rfl | rfl | rfl | rfl | rfl | rfl | rfl | rfl | rfl | rfl | rfl | rfl | rfl | rfl | rfl | rfl | rfl | rfl | rfl | rfl | rfl | rfl | rfl | rfl | rfl | rfl | rfl | rfl | rfl | rfl | rfl | rfl | rfl | rfl | rfl | rfl | rfl | rfl | rfl | rfl | rfl | rfl | rfl | rfl | rfl | rfl | rfl | rfl | rfl | rfl | rfl | rfl | rfl | rfl | rfl | rfl | rfl | rfl | rfl | rfl
  · exact w_c0
  · exact w_c1
  · exact w_c2
  · exact w_c3
  · exact w_c4
  · exact w_c5
  · exact w_c6
  · exact w_c7
  · exact w_c8
  · exact w_c9
  · exact w_c10
  · exact w_c11
  · exact w_c12
  · exact w_c13
  · exact w_c14
  · exact w_c15
  · exact w_c16
  · exact w_c17
  · exact w_c18
  · exact w_c19
  · exact w_c20
  · exact w_c21
  · exact w_c22
  · exact w_c23
  · exact w_c24
  · exact w_c25
  · exact w_c26
  · exact w_c27
  · exact w_c28
  · exact w_c29
  · exact w_c30
  · exact w_c31
  · exact w_c32
  · exact w_c33
  · exact w_c34
  · exact w_c35
  · exact w_c36
  · exact w_c37
  · exact w_c38
  · exact w_c39
  · exact w_c40
  · exact w_c41
  · exact w_c42
  · exact w_c43
  · exact w_c44
  · exact w_c45
  · exact w_c46
  · exact w_c47
  · exact w_c48
  · exact w_c49
  · exact w_c50
  · exact w_c51
  · exact w_c52
  · exact w_c53
  · exact w_c54
  · exact w_c55
  · exact w_c56
  · exact w_c57
  · exact w_c58
  · exact w_c59
  · exact w_c60
  · exact w_c61
  · exact w_c62
  · exact w_c63
  · exact w_c64
  · exact w_c65
  · exact w_c66
  · exact w_c67
theorem w_t1 : (words1.take 24).all (fun c => isCode c || c.before args0 about1) = true := by decide +kernel
theorem w_t2 : ((words1.drop 24).take 24).all (fun c => isCode c || c.before args0 about1) = true := by decide +kernel
theorem w_t3 : (((words1.drop 24).drop 24).take 24).all (fun c => isCode c || c.before args0 about1) = true := by decide +kernel
theorem w_t4 : ((((words1.drop 24).drop 24).drop 24).take 24).all (fun c => isCode c || c.before args0 about1) = true := by decide +kernel
theorem w_t5 : (((((words1.drop 24).drop 24).drop 24).drop 24).take 24).all (fun c => isCode c || c.before args0 about1) = true := by decide +kernel
theorem w_t6 : ((((((words1.drop 24).drop 24).drop 24).drop 24).drop 24).take 24).all (fun c => isCode c || c.before args0 about1) = true := by decide +kernel
theorem w_t7 : (((((((words1.drop 24).drop 24).drop 24).drop 24).drop 24).drop 24).take 24).all (fun c => isCode c || c.before args0 about1) = true := by decide +kernel
theorem w_t8 : ((((((((words1.drop 24).drop 24).drop 24).drop 24).drop 24).drop 24).drop 24).take 24).all (fun c => isCode c || c.before args0 about1) = true := by decide +kernel
theorem w_t9 : (((((((((words1.drop 24).drop 24).drop 24).drop 24).drop 24).drop 24).drop 24).drop 24).take 24).all (fun c => isCode c || c.before args0 about1) = true := by decide +kernel
theorem w_t10 : ((((((((((words1.drop 24).drop 24).drop 24).drop 24).drop 24).drop 24).drop 24).drop 24).drop 24).take 24).all (fun c => isCode c || c.before args0 about1) = true := by decide +kernel
theorem w_t11 : (((((((((((words1.drop 24).drop 24).drop 24).drop 24).drop 24).drop 24).drop 24).drop 24).drop 24).drop 24).take 24).all (fun c => isCode c || c.before args0 about1) = true := by decide +kernel
theorem w_t12 : ((((((((((((words1.drop 24).drop 24).drop 24).drop 24).drop 24).drop 24).drop 24).drop 24).drop 24).drop 24).drop 24).take 24).all (fun c => isCode c || c.before args0 about1) = true := by decide +kernel
theorem w_t13 : (((((((((((((words1.drop 24).drop 24).drop 24).drop 24).drop 24).drop 24).drop 24).drop 24).drop 24).drop 24).drop 24).drop 24).take 24).all (fun c => isCode c || c.before args0 about1) = true := by decide +kernel
theorem w_t14 : ((((((((((((((words1.drop 24).drop 24).drop 24).drop 24).drop 24).drop 24).drop 24).drop 24).drop 24).drop 24).drop 24).drop 24).drop 24).take 24).all (fun c => isCode c || c.before args0 about1) = true := by decide +kernel
theorem w_t15 : (((((((((((((((words1.drop 24).drop 24).drop 24).drop 24).drop 24).drop 24).drop 24).drop 24).drop 24).drop 24).drop 24).drop 24).drop 24).drop 24).take 24).all (fun c => isCode c || c.before args0 about1) = true := by decide +kernel
theorem w_t16 : ((((((((((((((((words1.drop 24).drop 24).drop 24).drop 24).drop 24).drop 24).drop 24).drop 24).drop 24).drop 24).drop 24).drop 24).drop 24).drop 24).drop 24).take 24).all (fun c => isCode c || c.before args0 about1) = true := by decide +kernel
theorem w_t17 : (((((((((((((((((words1.drop 24).drop 24).drop 24).drop 24).drop 24).drop 24).drop 24).drop 24).drop 24).drop 24).drop 24).drop 24).drop 24).drop 24).drop 24).drop 24).take 24).all (fun c => isCode c || c.before args0 about1) = true := by decide +kernel
theorem w_t18 : (((((((((((((((((words1.drop 24).drop 24).drop 24).drop 24).drop 24).drop 24).drop 24).drop 24).drop 24).drop 24).drop 24).drop 24).drop 24).drop 24).drop 24).drop 24).drop 24).all (fun c => isCode c || c.before args0 about1) = true := by decide +kernel
theorem w_tables : (allAtoms (Jvm.Cond.code x code maxLocals ret :: tables_1)).before args0 about1 = true := by
  rw [allAtoms_all]
  show words1.all (fun c => c.before args0 about1) = true
  refine all_split ?_ w_codes
  rw [← List.take_append_drop 24 words1, List.all_append, w_t1, ← List.take_append_drop 24 (words1.drop 24), List.all_append, w_t2, ← List.take_append_drop 24 ((words1.drop 24).drop 24), List.all_append, w_t3, ← List.take_append_drop 24 (((words1.drop 24).drop 24).drop 24), List.all_append, w_t4, ← List.take_append_drop 24 ((((words1.drop 24).drop 24).drop 24).drop 24), List.all_append, w_t5, ← List.take_append_drop 24 (((((words1.drop 24).drop 24).drop 24).drop 24).drop 24), List.all_append, w_t6, ← List.take_append_drop 24 ((((((words1.drop 24).drop 24).drop 24).drop 24).drop 24).drop 24), List.all_append, w_t7, ← List.take_append_drop 24 (((((((words1.drop 24).drop 24).drop 24).drop 24).drop 24).drop 24).drop 24), List.all_append, w_t8, ← List.take_append_drop 24 ((((((((words1.drop 24).drop 24).drop 24).drop 24).drop 24).drop 24).drop 24).drop 24), List.all_append, w_t9, ← List.take_append_drop 24 (((((((((words1.drop 24).drop 24).drop 24).drop 24).drop 24).drop 24).drop 24).drop 24).drop 24), List.all_append, w_t10, ← List.take_append_drop 24 ((((((((((words1.drop 24).drop 24).drop 24).drop 24).drop 24).drop 24).drop 24).drop 24).drop 24).drop 24), List.all_append, w_t11, ← List.take_append_drop 24 (((((((((((words1.drop 24).drop 24).drop 24).drop 24).drop 24).drop 24).drop 24).drop 24).drop 24).drop 24).drop 24), List.all_append, w_t12, ← List.take_append_drop 24 ((((((((((((words1.drop 24).drop 24).drop 24).drop 24).drop 24).drop 24).drop 24).drop 24).drop 24).drop 24).drop 24).drop 24), List.all_append, w_t13, ← List.take_append_drop 24 (((((((((((((words1.drop 24).drop 24).drop 24).drop 24).drop 24).drop 24).drop 24).drop 24).drop 24).drop 24).drop 24).drop 24).drop 24), List.all_append, w_t14, ← List.take_append_drop 24 ((((((((((((((words1.drop 24).drop 24).drop 24).drop 24).drop 24).drop 24).drop 24).drop 24).drop 24).drop 24).drop 24).drop 24).drop 24).drop 24), List.all_append, w_t15, ← List.take_append_drop 24 (((((((((((((((words1.drop 24).drop 24).drop 24).drop 24).drop 24).drop 24).drop 24).drop 24).drop 24).drop 24).drop 24).drop 24).drop 24).drop 24).drop 24), List.all_append, w_t16, ← List.take_append_drop 24 ((((((((((((((((words1.drop 24).drop 24).drop 24).drop 24).drop 24).drop 24).drop 24).drop 24).drop 24).drop 24).drop 24).drop 24).drop 24).drop 24).drop 24).drop 24), List.all_append, w_t17, w_t18]
  rfl
theorem w_rest : rest_1_c.before args0 about1 = true := by decide +kernel
theorem w_case : (Jvm.Cond.and given_1 narrow_1).before args0 about1 = true := by decide +kernel
theorem w_consts : constsHeld consts_1 about1 := Jvm.Lit.constsHeldB_iff.mp (by decide +kernel)
theorem w_applies : (headSpec (Jvm.Cond.code x code maxLocals ret :: tables_1) room_1).applies x e0.platform about1 = true :=
  (Spec.applies_iff w_frames).mpr ⟨w_running, w_runnable, w_alone, w_named, w_hears, w_ripe, w_room, w_tables⟩
theorem atStart : AtStart classFile x code maxLocals ret World_1 tables_1 room_1 Calls_1 rest_1 Pre_1 launch0 p0 e0 about1 theMethod args0 below0 :=
  ⟨lists_1, trivial, launch0.admits_env _ _ _, launch0.least_env, fairChoices_fair.cas, fairChoices_fair.clock, w_frames, w_args, w_heap, w_applies, ⟨w_consts, trivial⟩, w_rest, w_case⟩
end start1
theorem witness_1 : WitnessClaimed_1 := ⟨start1.p0, start1.e0, start1.about1, start1.theMethod, start1.args0, start1.below0, start1.atStart⟩
end Jvm.Pilot.@@N@@
