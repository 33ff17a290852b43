import JvmDerived
import JvmDerived.Pilot.@@N@@Statement
import JvmDerived.Pilot.@@N@@Code
set_option linter.unusedVariables false
set_option linter.unusedSimpArgs false
@@BLOCK:NumsL.lean.txt@@
namespace Jvm.Pilot.@@N@@
open Jvm Jvm.ClassFile Sem Op Lib Jvm.Free Jvm.Stand Jvm.LawKit Jvm.RoadKit Bundle Jvm.Pilot.@@N@@.Jvm.D
section OwnKit
theorem own_w {Z : State} {a0 : Array Value} (hw : ∀ d ∈ tables_1, d.before a0 Z = true) {d : Jvm.Cond} (i : Nat) (h : tables_1[i]? = some d) : d.before a0 Z = true := hw d (List.mem_of_getElem? h)
theorem own_narb (x : Int32) : nar .byte (x.toInt8.toInt32) = x.toInt8.toInt32 := by
  show (x.toInt8.toInt32).toInt8.toInt32 = x.toInt8.toInt32
  rw [Int8.toInt8_toInt32]
theorem own_narc (x : Int32) : nar .char (x.toUInt32.toUInt16.toUInt32.toInt32) = x.toUInt32.toUInt16.toUInt32.toInt32 := by
  show (x.toUInt32.toUInt16.toUInt32.toInt32).toUInt32.toUInt16.toUInt32.toInt32 = _
  have : (x.toUInt32.toUInt16.toUInt32.toInt32).toUInt32 = x.toUInt32.toUInt16.toUInt32 := rfl
  rw [this]
  have : x.toUInt32.toUInt16.toUInt32.toUInt16 = x.toUInt32.toUInt16 := by rw [← UInt16.toNat_inj]; simp
  rw [this]
theorem own_plain {Z : State} {h : Heap} {a : Addr} {C : String} (F : Exa Z h a C) : ∃ c : Cell, h[a]? = some c ∧ c.vm.isStatics = false := by
  obtain ⟨c, _, h1, -, -, h4, -⟩ := F; exact ⟨c, h1, h4⟩
theorem own_plainV {Z : State} {h : Heap} {a : Addr} {k : ClassId} {ty : FieldType} {z : Int32} {vs : List Value} {d : Value} (F : Arv Z h a k ty z vs d) : ∃ c : Cell, h[a]? = some c ∧ c.vm.isStatics = false := by
  obtain ⟨c, A, -⟩ := F; exact ⟨c, A.1, A.plain⟩
theorem own_Sta_keep {Z : State} {h h' : Heap} {C n d : String} {v : Value} {ws : List Addr} (F : Sta Z h C n d v) (K : Keep h h' ws) (q : ∀ a ∈ ws, ∃ c : Cell, h[a]? = some c ∧ c.vm.isStatics = false) : Sta Z h' C n d v := by
  obtain ⟨cf, i, k, f, st, cell, h1, h2, h3, h4, h5, h6, h7⟩ := F
  have ne : st ∉ ws := fun hm => by
    obtain ⟨c, g1, g2⟩ := q st hm
    cases h5.symm.trans g1
    rw [h6] at g2; cases g2
  exact ⟨cf, i, k, f, st, cell, h1, h2, h3, h4, K.2.1 _ _ h5 ne, h6, h7⟩
theorem own_NSroot {Z : State} {a0 : Array Value} {O K : String} {j : Nat} (w : (Cond.noSuperclass O).before a0 Z = true) (wk : (Cond.instantiable K j).before a0 Z = true) (hn : O ≠ K) : NS Z O K := by
  obtain ⟨c, k, h1, h2, h3, -⟩ := Cond.noSuperclass_spec w
  obtain ⟨t, kt, g1, -⟩ := Cond.instantiable_spec wk
  refine ⟨c, t, h1, g1, fun fuel => ?_⟩
  cases fuel with
  | zero => rfl
  | succ f => simp [Vm.isSubclassAux, ids_ne h1 g1 hn, h2, h3]
theorem own_NSno {Z : State} {a0 : Array Value} {C S K : String} {j : Nat} (w : (Cond.superclass C S).before a0 Z = true) (wk : (Cond.instantiable K j).before a0 Z = true) (q : NS Z C K) (hn : C ≠ K) : ∃ c t, Z.vm.findClass C = some c ∧ Z.vm.findClass K = some t ∧ Z.vm.assignable c t = false := by
  obtain ⟨c, t, h0, g0, n3⟩ := q
  obtain ⟨_, k, _, _, h2, _, _, h5, -⟩ := Cond.superclass_spec h0 w
  obtain ⟨t', kt, g1, g2, g5, g7, -⟩ := Cond.instantiable_spec wk
  cases g0.symm.trans g1
  have g8 : kt.isInterface = false := by simpa using (Bool.or_eq_false_iff.mp g7).1
  refine ⟨c, t, h0, g0, ?_⟩
  show Z.vm.assignableAux (255 + 1) c t = false
  simp [Vm.assignableAux, ids_ne h0 g0 hn, h2, g2, h5, g5, g8, Vm.isSubclass, n3]
def own_b (P : Prop) [Decidable P] : Int32 := if P then 1 else 0
theorem own_b1 {P : Prop} [Decidable P] (h : P) : own_b P = 1 := if_pos h
theorem own_b0 {P : Prop} [Decidable P] (h : ¬ P) : own_b P = 0 := if_neg h
variable {p : Program} {l : Launch} {e : Env} {R : Room} {s : State} {m : MethodId} {args : Array Value} {below : List Frame} {meth : Method} {c : Code} {T : State} {locs : List Loc} {cells slots : Nat}
def own_Fin (p : Program) (e : Env) (below : List Frame) (s : State) (Q : Option Value → Heap → List Loc → Prop) (k n : Nat) (A : State) : Prop := ∃ s₂ o, Steps p.tables e below A s₂ ∧ s₂.status = .running ∧ Ended s₂ below o ∧ ∃ v L, o = .returned v ∧ Q v s₂.heap L ∧ FrameEnd s o s₂ L k n
theorem own_go {Q : Option Value → Heap → List Loc → Prop} {k n : Nat} {A B : State} (h : ∀ t, Steps p.tables e below B t → Steps p.tables e below A t) (q : own_Fin p e below s Q k n B) : own_Fin p e below s Q k n A := by
  obtain ⟨s₂, o, h1, h2⟩ := q
  exact ⟨s₂, o, h _ h1, h2⟩
theorem own_retN {Q : Option Value → Heap → List Loc → Prop} {k n : Nat} (X : Stand p l e R s m args below meth c T locs cells slots) (hx : p.tables.exec = Jvm.exec) (hlk : meth.locks = false) {pc : Nat} {Ls : Array Slot} {z w : Int32} {t : FieldType} {rest : List Value} (hret : meth.sig.returnType = some t) (ht : t = .boolean ∨ t = .byte ∨ t = .char ∨ t = .short)
    (hd : decode c.code pc = .ok (.ireturn, 1)) {h : Heap} (eT : T.heap = h) (hz : nar t z = w) (hQ : Q (some (.int w)) h locs) (hk : cells ≤ k) (hn : slots ≤ n) : own_Fin p e below s Q k n (T.setTop (mkF m pc Ls (.int z :: rest))) := by
  subst hz eT
  obtain ⟨fs, hr, hrun, hended, hW, hsame⟩ := X.leave (v := some (.int (nar t z))) (fun h => by rw [hret] at h; cases h) hlk
  exact ⟨_, _, retN X hx hret ht hd hr, hrun, hended, _, _, rfl, hQ, ⟨_, rfl⟩, hW, hsame.mono hk hn⟩
theorem own_retI {Q : Option Value → Heap → List Loc → Prop} {k n : Nat} (X : Stand p l e R s m args below meth c T locs cells slots) (hx : p.tables.exec = Jvm.exec) (hlk : meth.locks = false) {pc : Nat} {Ls : Array Slot} {z : Int32} {rest : List Value} (hret : meth.sig.returnType = some .int)
    (hd : decode c.code pc = .ok (.ireturn, 1)) {h : Heap} (eT : T.heap = h) (hQ : Q (some (.int z)) h locs) (hk : cells ≤ k) (hn : slots ≤ n) : own_Fin p e below s Q k n (T.setTop (mkF m pc Ls (.int z :: rest))) := by
  subst eT
  obtain ⟨fs, hr, hrun, hended, hW, hsame⟩ := X.leave (v := some (.int z)) (fun h => by rw [hret] at h; cases h) hlk
  exact ⟨_, _, retOut X hx hret rfl (Or.inl ⟨rfl, Or.inl rfl, z, rfl⟩) hd hr, hrun, hended, _, _, rfl, hQ, ⟨_, rfl⟩, hW, hsame.mono hk hn⟩
theorem own_retJ {Q : Option Value → Heap → List Loc → Prop} {k n : Nat} (X : Stand p l e R s m args below meth c T locs cells slots) (hx : p.tables.exec = Jvm.exec) (hlk : meth.locks = false) {pc : Nat} {Ls : Array Slot} {z : Int64} {rest : List Value} (hret : meth.sig.returnType = some .long)
    (hd : decode c.code pc = .ok (.lreturn, 1)) {h : Heap} (eT : T.heap = h) (hQ : Q (some (.long z)) h locs) (hk : cells ≤ k) (hn : slots ≤ n) : own_Fin p e below s Q k n (T.setTop (mkF m pc Ls (.long z :: rest))) := by
  subst eT
  obtain ⟨fs, hr, hrun, hended, hW, hsame⟩ := X.leave (v := some (.long z)) (fun h => by rw [hret] at h; cases h) hlk
  exact ⟨_, _, retOut X hx hret rfl (Or.inr (Or.inl ⟨rfl, rfl, z, rfl⟩)) hd hr, hrun, hended, _, _, rfl, hQ, ⟨_, rfl⟩, hW, hsame.mono hk hn⟩
theorem own_retD {Q : Option Value → Heap → List Loc → Prop} {k n : Nat} (X : Stand p l e R s m args below meth c T locs cells slots) (hx : p.tables.exec = Jvm.exec) (hlk : meth.locks = false) {pc : Nat} {Ls : Array Slot} {z : UInt64} {rest : List Value} (hret : meth.sig.returnType = some .double)
    (hd : decode c.code pc = .ok (.dreturn, 1)) {h : Heap} (eT : T.heap = h) (hQ : Q (some (.double z)) h locs) (hk : cells ≤ k) (hn : slots ≤ n) : own_Fin p e below s Q k n (T.setTop (mkF m pc Ls (.double z :: rest))) := by
  subst eT
  obtain ⟨fs, hr, hrun, hended, hW, hsame⟩ := X.leave (v := some (.double z)) (fun h => by rw [hret] at h; cases h) hlk
  exact ⟨_, _, retOut X hx hret rfl (Or.inr (Or.inr (Or.inl ⟨rfl, rfl, z, rfl⟩))) hd hr, hrun, hended, _, _, rfl, hQ, ⟨_, rfl⟩, hW, hsame.mono hk hn⟩
theorem own_retA {Q : Option Value → Heap → List Loc → Prop} {k n : Nat} (X : Stand p l e R s m args below meth c T locs cells slots) (hx : p.tables.exec = Jvm.exec) (hlk : meth.locks = false) {pc : Nat} {Ls : Array Slot} {w : Value} {t : FieldType} {rest : List Value} (hret : meth.sig.returnType = some t) (ht : t.isReference = true) (hw : w.isRef = true)
    (hd : decode c.code pc = .ok (.areturn, 1)) {h : Heap} (eT : T.heap = h) (hQ : Q (some w) h locs) (hk : cells ≤ k) (hn : slots ≤ n) : own_Fin p e below s Q k n (T.setTop (mkF m pc Ls (w :: rest))) := by
  subst eT
  obtain ⟨fs, hr, hrun, hended, hW, hsame⟩ := X.leave (v := some w) (fun h => by rw [hret] at h; cases h) hlk
  have hnw : narrow t w = w := by
    rcases ref_cases hw with rfl | ⟨z, rfl⟩ <;> cases t <;> first | rfl | (cases ht; done)
  exact ⟨_, _, retOut X hx hret hnw (Or.inr (Or.inr (Or.inr (Or.inr ⟨rfl, ht, hw⟩)))) hd hr, hrun, hended, _, _, rfl, hQ, ⟨_, rfl⟩, hW, hsame.mono hk hn⟩
theorem own_retV {Q : Option Value → Heap → List Loc → Prop} {k n : Nat} (X : Stand p l e R s m args below meth c T locs cells slots) (hx : p.tables.exec = Jvm.exec) (hlk : meth.locks = false) {pc : Nat} {Ls : Array Slot} (hret : meth.sig.returnType = none)
    (hd : decode c.code pc = .ok (.return_, 1)) {h : Heap} (eT : T.heap = h) (hQ : Q none h locs) (hk : cells ≤ k) (hn : slots ≤ n) : own_Fin p e below s Q k n (T.setTop (mkF m pc Ls [])) := by
  subst eT
  obtain ⟨fs, hr, hrun, hended, hW, hsame⟩ := X.leave (v := none) (fun _ => rfl) hlk
  exact ⟨_, _, X.returnOut hx hret hd hr, hrun, hended, _, _, rfl, hQ, ⟨_, rfl⟩, hW, hsame.mono hk hn⟩
end OwnKit
section OwnNums
theorem own_iushr (x : Int32) {n : UInt32} {k : Nat} (hn : n.toNat = k) (h0 : 0 < k) (hk : k < 32) : ((x.toUInt32 >>> n).toInt32).toInt = (x.toInt % 4294967296) / 2 ^ k := by
  have e2 : ((x.toUInt32 >>> n).toInt32).toBitVec.toNat = x.toBitVec.toNat / 2 ^ k := by
    simp only [UInt32.toBitVec_toInt32, UInt32.toBitVec_shiftRight, Int32.toBitVec_toUInt32]
    simp [BitVec.toNat_ushiftRight, Nat.shiftRight_eq_div_pow, hn, Nat.mod_eq_of_lt hk]
  have hb := x.toBitVec.isLt
  have hp : 2 ^ 1 ≤ 2 ^ k := Nat.pow_le_pow_right (by decide) h0
  have hle : x.toBitVec.toNat / 2 ^ k ≤ x.toBitVec.toNat / 2 ^ 1 := Nat.div_le_div_left hp (by decide)
  have e3 : ((x.toUInt32 >>> n).toInt32).toInt = ((x.toBitVec.toNat / 2 ^ k : Nat) : Int) := by
    have : ((x.toUInt32 >>> n).toInt32).toInt = ((x.toUInt32 >>> n).toInt32).toBitVec.toInt := rfl
    rw [this, BitVec.toInt_eq_toNat_cond, e2, if_pos (by omega)]
  have e4 : x.toInt % 4294967296 = (x.toBitVec.toNat : Int) := by
    have : x.toInt = x.toBitVec.toInt := rfl
    rw [this, BitVec.toInt_eq_toNat_cond]
    split <;> omega
  rw [e3, e4, Int.natCast_ediv, Int.natCast_pow]
  rfl
theorem own_lushr (x : Int64) {n : UInt64} {k : Nat} (hn : n.toNat = k) (h0 : 0 < k) (hk : k < 64) : ((x.toUInt64 >>> n).toInt64).toInt = (x.toInt % 18446744073709551616) / 2 ^ k := by
  have e2 : ((x.toUInt64 >>> n).toInt64).toBitVec.toNat = x.toBitVec.toNat / 2 ^ k := by
    simp only [UInt64.toBitVec_toInt64, UInt64.toBitVec_shiftRight, Int64.toBitVec_toUInt64]
    simp [BitVec.toNat_ushiftRight, Nat.shiftRight_eq_div_pow, hn, Nat.mod_eq_of_lt hk]
  have hb := x.toBitVec.isLt
  have hp : 2 ^ 1 ≤ 2 ^ k := Nat.pow_le_pow_right (by decide) h0
  have hle : x.toBitVec.toNat / 2 ^ k ≤ x.toBitVec.toNat / 2 ^ 1 := Nat.div_le_div_left hp (by decide)
  have e3 : ((x.toUInt64 >>> n).toInt64).toInt = ((x.toBitVec.toNat / 2 ^ k : Nat) : Int) := by
    have : ((x.toUInt64 >>> n).toInt64).toInt = ((x.toUInt64 >>> n).toInt64).toBitVec.toInt := rfl
    rw [this, BitVec.toInt_eq_toNat_cond, e2, if_pos (by omega)]
  have e4 : x.toInt % 18446744073709551616 = (x.toBitVec.toNat : Int) := by
    have : x.toInt = x.toBitVec.toInt := rfl
    rw [this, BitVec.toInt_eq_toNat_cond]
    split <;> omega
  rw [e3, e4, Int.natCast_ediv, Int.natCast_pow]
  rfl
theorem own_l2i (x : Int64) : (x.toInt32.toInt - x.toInt) % 4294967296 = 0 := by rw [Int64.toInt_toInt32]; exact bm32 _
theorem own_div32 {x y : Int32} (hx : 0 ≤ x.toInt) (hy : 0 < y.toInt) : (x / y).toInt = x.toInt / y.toInt := by
  rw [Jvm.Kit.i32_div (by omega), Int.tdiv_eq_ediv_of_nonneg hx]
theorem own_div64 {x y : Int64} (hx : 0 ≤ x.toInt) (hy : 0 < y.toInt) : (x / y).toInt = x.toInt / y.toInt := by
  rw [Jvm.Kit.i64_div (by omega), Int.tdiv_eq_ediv_of_nonneg hx]
theorem own_i2c (x : Int32) : (x.toUInt32.toUInt16.toUInt32.toInt32).toInt = x.toInt % 65536 := by
  have e2 : (x.toUInt32.toUInt16.toUInt32.toInt32).toBitVec.toNat = x.toBitVec.toNat % 65536 := by
    show (x.toUInt32.toUInt16.toUInt32).toNat = _
    simp
    rfl
  have hb := x.toBitVec.isLt
  have e3 : (x.toUInt32.toUInt16.toUInt32.toInt32).toInt = (x.toUInt32.toUInt16.toUInt32.toInt32).toBitVec.toInt := rfl
  have e4 : x.toInt = x.toBitVec.toInt := rfl
  rw [e3, e4, BitVec.toInt_eq_toNat_cond, BitVec.toInt_eq_toNat_cond, e2]
  split <;> split <;> omega
theorem own_i2b (x : Int32) : ((x.toInt8.toInt32).toInt - x.toInt) % 256 = 0 ∧ -128 ≤ (x.toInt8.toInt32).toInt ∧ (x.toInt8.toInt32).toInt < 128 := by
  have h1 : (x.toInt8.toInt32).toInt = x.toInt8.toInt := Int8.toInt_toInt32 _
  have h2 := x.toInt8.toInt_lt; have h3 := x.toInt8.le_toInt
  have h4 : x.toInt8.toInt = x.toInt.bmod 256 := Int32.toInt_toInt8 x
  have h5 := Int.bmod_emod (x := x.toInt) (m := 256)
  rw [h1]; omega
end OwnNums
theorem own_pd0 : parseMethodDescriptor "()V" = some ⟨[], none⟩ := by decide +kernel
theorem own_pd1 : parseMethodDescriptor "(JJ)J" = some ⟨[.long, .long], some .long⟩ := by decide +kernel
theorem own_pd2 : parseMethodDescriptor "(II)I" = some ⟨[.int, .int], some .int⟩ := by decide +kernel
theorem own_pd3 : parseMethodDescriptor "(JI)V" = some ⟨[.long, .int], none⟩ := by decide +kernel
theorem own_pd4 : parseMethodDescriptor "(Lcom/example/stackyard/stackyard/records/Resource;)Z" = some ⟨[(.object "com/example/stackyard/stackyard/records/Resource")], some .boolean⟩ := by decide +kernel
abbrev R_own_rm3 : Room := { frames := 1, cells := 0, slots := 0, locals := 12 }
theorem d3_0 : decode jdk_30_method_1_code 0 = .ok (.aload_n 0, 1) := by decide +kernel
theorem d3_1 : decode jdk_30_method_1_code 1 = .ok (.invokespecial 1, 3) := by decide +kernel
theorem d3_4 : decode jdk_30_method_1_code 4 = .ok (.return_, 1) := by decide +kernel
theorem own_pn0 : plainName "java/lang/Record" = true := by first | (simp [plainName, overriddenIn]; done) | decide +kernel
theorem ef_own_rm3 (m : MethodId) (x0 : Addr) : entryFrame m #[(.ref x0)] 1 = mkF m 0 #[.val (.ref x0)] [] := by first | (simp [entryFrame, mkF, argsToLocals, Value.category]; done) | rfl
def Q_own_rm3 (Z : State) (a1 : Addr) (h0 : Heap) (n0 : Nat) (v : Option Value) (h : Heap) (L : List Loc) : Prop := v = none ∧ Fr n0 L ∧ h = h0
set_option maxRecDepth 65536 in
set_option maxHeartbeats 400000000 in
theorem own_rm3 (l : Launch) (Z : State) (a0 : Array Value) (hw : ∀ d ∈ tables_1, d.before a0 Z = true) (ws : List Jvm.Cond) (a1 : Addr) (h0 : Heap) (n0 : Nat) (Z0 : n0 ≤ h0.size)  :
    MetFree l (⟨"java/lang/Record", "<init>", "()V"⟩ : MethodName) (head1 (Jvm.Cond.code (⟨"java/lang/Record", "<init>", "()V"⟩ : MethodName) jdk_30_method_1_code 1 none :: ws) R_own_rm3) (fun a U => a = #[(.ref a1)] ∧ Z.Warmed39 U.vm ∧ U.heap = h0) (fun _ _ _ _ _ => True) (fun _ U o U' => ∃ v L, o = .returned v ∧ Q_own_rm3 Z a1 h0 n0 v U'.heap L ∧ FrameEnd U o U' L R_own_rm3.cells R_own_rm3.slots) := by
  refine MetFree.of_bodySF (plainFor_of_name own_pn0) hisR ?_
  intro p e s m args below meth c s₁ Bd hml0 hP hK
  obtain ⟨rfl, hZ, hh⟩ := hP
  have hx := Bd.exec
  have hby := Bd.bytes
  have hml : c.maxLocals = 1 := hml0
  have hown : s.vm.findClass "java/lang/Record" = some m.cls := findClass_of_methodNamed Bd.named
  have hnm := (name_of_methodNamed Bd.named Bd.method).1
  have X0 : Stand p l e R_own_rm3 s m #[(.ref a1)] below meth c s₁ [] 0 0 := Stand.of_body Bd
  have e0 : s₁.heap = h0 := by rw [← hh, Bd.state]; rfl
  have N0 := Fr.nil n0
  have K0 : Keep h0 h0 [] := Keep.refl h0 []
  show own_Fin p e below s (Q_own_rm3 Z a1 h0 n0) R_own_rm3.cells R_own_rm3.slots (s₁.setTop (entryFrame m #[(.ref a1)] 1))
  refine own_go (fun _ k => castTop (ef_own_rm3 m a1) k) ?_
  show own_Fin _ _ _ _ _ _ _ (s₁.setTop (mkF m 0 #[.val (.ref a1)] []))
  refine own_go (B := s₁.setTop (mkF m 1 #[.val (.ref a1)] [(.ref a1)])) (fun _ k => XS.aloadN X0.here hx rfl (hb hby d3_0) rfl rfl k) ?_
  obtain ⟨T1, X1, e1, st1⟩ := initO X0 hx hZ hown (own_w hw 19 rfl) (own_w hw 20 rfl) (own_w hw 21 rfl) e0 (g := (mkF m 1 #[.val (.ref a1)] [(.ref a1)])) rfl (by rw [hml]; rfl) rfl (hb hby d3_1) (by decide) (W := 0) (by show 2 * 0 + _ ≤ _; exact Nat.le_of_eq rfl) (by decide)
  refine own_go (B := T1.setTop (mkF m 4 #[.val (.ref a1)] [])) st1 ?_
  exact own_retV X1 hx Bd.notSynchronized Bd.returns (hb hby d3_4) e1 ⟨rfl, N0, rfl⟩ (by decide) (by decide)
abbrev R_own_rm1 : Room := { frames := 0, cells := 0, slots := 0, locals := 0 }
theorem d1_0 : decode method_3_code 0 = .ok (.lload_n 2, 1) := by decide +kernel
theorem d1_1 : decode method_3_code 1 = .ok (.ldc2_w 33, 3) := by decide +kernel
theorem d1_4 : decode method_3_code 4 = .ok (.land, 1) := by decide +kernel
theorem d1_5 : decode method_3_code 5 = .ok (.ldc2_w 35, 3) := by decide +kernel
theorem d1_8 : decode method_3_code 8 = .ok (.lrem, 1) := by decide +kernel
theorem d1_9 : decode method_3_code 9 = .ok (.lconst 1, 1) := by decide +kernel
theorem d1_10 : decode method_3_code 10 = .ok (.lsub, 1) := by decide +kernel
theorem d1_11 : decode method_3_code 11 = .ok (.lstore 4, 2) := by decide +kernel
theorem d1_13 : decode method_3_code 13 = .ok (.lload_n 0, 1) := by decide +kernel
theorem d1_14 : decode method_3_code 14 = .ok (.lload 4, 2) := by decide +kernel
theorem d1_16 : decode method_3_code 16 = .ok (.ladd, 1) := by decide +kernel
theorem d1_17 : decode method_3_code 17 = .ok (.lstore 6, 2) := by decide +kernel
theorem d1_19 : decode method_3_code 19 = .ok (.lload 6, 2) := by decide +kernel
theorem d1_21 : decode method_3_code 21 = .ok (.lconst 0, 1) := by decide +kernel
theorem d1_22 : decode method_3_code 22 = .ok (.lcmp, 1) := by decide +kernel
theorem d1_23 : decode method_3_code 23 = .ok (.ifCond .ge 5, 3) := by decide +kernel
theorem d1_26 : decode method_3_code 26 = .ok (.lload_n 0, 1) := by decide +kernel
theorem d1_27 : decode method_3_code 27 = .ok (.lreturn, 1) := by decide +kernel
theorem d1_28 : decode method_3_code 28 = .ok (.lload 6, 2) := by decide +kernel
theorem d1_30 : decode method_3_code 30 = .ok (.lreturn, 1) := by decide +kernel
theorem own_pn1 : plainName "com/example/stackyard/stackyard/records/ResourceFitsInPinLaw" = true := by first | (simp [plainName, overriddenIn]; done) | decide +kernel
theorem ef_own_rm1 (m : MethodId) (x0 : Int64) (x1 : Int64) : entryFrame m #[(.long x0), (.long x1)] 8 = mkF m 0 #[.val (.long x0), .second, .val (.long x1), .second, .unset, .unset, .unset, .unset] [] := by first | (simp [entryFrame, mkF, argsToLocals, Value.category]; done) | rfl
set_option maxHeartbeats 2000000 in
theorem own_pl_rm1_1 (q1 : Int64) (q2 : Int64) (hq : 0 ≤ q1.toInt) (hc2 : ¬ ((q1 + (((q2 &&& (2147483647 : Int64)) - ((q2 &&& (2147483647 : Int64)) / (3 : Int64)) * (3 : Int64)) - (1 : Int64))) < (0 : Int64))) : 0 ≤ (q1 + (((q2 &&& (2147483647 : Int64)) - ((q2 &&& (2147483647 : Int64)) / (3 : Int64)) * (3 : Int64)) - (1 : Int64))).toInt := by
  have : (0 : Int64).toInt = 0 := by decide
  have : (1 : Int64).toInt = 1 := by decide
  have : (3 : Int64).toInt = 3 := by decide
  have : (2147483647 : Int64).toInt = 2147483647 := by decide
  have := rng64 q1
  have := rng64 q2
  have := rng64 (q2 &&& (2147483647 : Int64))
  have := Jvm.Kit.i64_mask q2 (2147483647 : Int64) (k := 31) (by decide) (by decide)
  have := rng64 ((q2 &&& (2147483647 : Int64)) - ((q2 &&& (2147483647 : Int64)) / (3 : Int64)) * (3 : Int64))
  have := Jvm.Kit.i64_rem_nonneg (x := (q2 &&& (2147483647 : Int64))) (y := (3 : Int64)) (by omega)
  have := rng64 (((q2 &&& (2147483647 : Int64)) - ((q2 &&& (2147483647 : Int64)) / (3 : Int64)) * (3 : Int64)) - (1 : Int64))
  have := c_lsub ((q2 &&& (2147483647 : Int64)) - ((q2 &&& (2147483647 : Int64)) / (3 : Int64)) * (3 : Int64)) (1 : Int64)
  have := rng64 (q1 + (((q2 &&& (2147483647 : Int64)) - ((q2 &&& (2147483647 : Int64)) / (3 : Int64)) * (3 : Int64)) - (1 : Int64)))
  have := c_ladd q1 (((q2 &&& (2147483647 : Int64)) - ((q2 &&& (2147483647 : Int64)) / (3 : Int64)) * (3 : Int64)) - (1 : Int64))
  try simp only [Int32.lt_iff_toInt_lt, Int32.le_iff_toInt_le, Int64.lt_iff_toInt_lt, Int64.le_iff_toInt_le, ← Int32.toInt_inj, ← Int64.toInt_inj] at *
  all_goals omega
def Q_own_rm1 (Z : State) (q1 : Int64) (q2 : Int64) (h0 : Heap) (n0 : Nat) (v : Option Value) (h : Heap) (L : List Loc) : Prop := ∃ r : Int64, v = some (.long r) ∧ Fr n0 L ∧ h = h0 ∧ (0 ≤ r.toInt)
set_option maxRecDepth 65536 in
set_option maxHeartbeats 400000000 in
theorem own_rm1 (l : Launch) (Z : State) (a0 : Array Value) (hw : ∀ d ∈ tables_1, d.before a0 Z = true) (ws : List Jvm.Cond) (q1 : Int64) (q2 : Int64) (h0 : Heap) (n0 : Nat) (Z0 : n0 ≤ h0.size) (hq : 0 ≤ q1.toInt) :
    MetFree l (⟨"com/example/stackyard/stackyard/records/ResourceFitsInPinLaw", "nearLong", "(JJ)J"⟩ : MethodName) (head1 (Jvm.Cond.code (⟨"com/example/stackyard/stackyard/records/ResourceFitsInPinLaw", "nearLong", "(JJ)J"⟩ : MethodName) method_3_code 8 (some .long) :: ws) R_own_rm1) (fun a U => a = #[(.long q1), (.long q2)] ∧ Z.Warmed39 U.vm ∧ U.heap = h0) (fun _ _ _ _ _ => True) (fun _ U o U' => ∃ v L, o = .returned v ∧ Q_own_rm1 Z q1 q2 h0 n0 v U'.heap L ∧ FrameEnd U o U' L R_own_rm1.cells R_own_rm1.slots) := by
  refine MetFree.of_bodySF (plainFor_of_name own_pn1) hisR ?_
  intro p e s m args below meth c s₁ Bd hml0 hP hK
  obtain ⟨rfl, hZ, hh⟩ := hP
  have hx := Bd.exec
  have hby := Bd.bytes
  have hml : c.maxLocals = 8 := hml0
  have hown : s.vm.findClass "com/example/stackyard/stackyard/records/ResourceFitsInPinLaw" = some m.cls := findClass_of_methodNamed Bd.named
  have hnm := (name_of_methodNamed Bd.named Bd.method).1
  have X0 : Stand p l e R_own_rm1 s m #[(.long q1), (.long q2)] below meth c s₁ [] 0 0 := Stand.of_body Bd
  have e0 : s₁.heap = h0 := by rw [← hh, Bd.state]; rfl
  have N0 := Fr.nil n0
  have K0 : Keep h0 h0 [] := Keep.refl h0 []
  show own_Fin p e below s (Q_own_rm1 Z q1 q2 h0 n0) R_own_rm1.cells R_own_rm1.slots (s₁.setTop (entryFrame m #[(.long q1), (.long q2)] 8))
  refine own_go (fun _ k => castTop (ef_own_rm1 m q1 q2) k) ?_
  show own_Fin _ _ _ _ _ _ _ (s₁.setTop (mkF m 0 #[.val (.long q1), .second, .val (.long q2), .second, .unset, .unset, .unset, .unset] []))
  refine own_go (B := s₁.setTop (mkF m 1 #[.val (.long q1), .second, .val (.long q2), .second, .unset, .unset, .unset, .unset] [(.long q2)])) (fun _ k => XS.lloadN X0.here hx rfl (hb hby d1_0) rfl  k) ?_
  refine own_go (B := s₁.setTop (mkF m 4 #[.val (.long q1), .second, .val (.long q2), .second, .unset, .unset, .unset, .unset] [(.long (2147483647 : Int64)), (.long q2)])) (fun _ k => X0.ldc2Long hx hown (mvT hZ (own_w hw 6 rfl)) (g := (mkF m 1 #[.val (.long q1), .second, .val (.long q2), .second, .unset, .unset, .unset, .unset] [(.long q2)])) rfl (hb hby d1_1) _ k) ?_
  refine own_go (B := s₁.setTop (mkF m 5 #[.val (.long q1), .second, .val (.long q2), .second, .unset, .unset, .unset, .unset] [(.long (q2 &&& (2147483647 : Int64)))])) (fun _ k => XS.land X0.here hx rfl (hb hby d1_4) rfl k) ?_
  refine own_go (B := s₁.setTop (mkF m 8 #[.val (.long q1), .second, .val (.long q2), .second, .unset, .unset, .unset, .unset] [(.long (3 : Int64)), (.long (q2 &&& (2147483647 : Int64)))])) (fun _ k => X0.ldc2Long hx hown (mvT hZ (own_w hw 7 rfl)) (g := (mkF m 5 #[.val (.long q1), .second, .val (.long q2), .second, .unset, .unset, .unset, .unset] [(.long (q2 &&& (2147483647 : Int64)))])) rfl (hb hby d1_5) _ k) ?_
  have hnz1 : (3 : Int64) ≠ (0 : Int64) := by decide
  refine own_go (B := s₁.setTop (mkF m 9 #[.val (.long q1), .second, .val (.long q2), .second, .unset, .unset, .unset, .unset] [(.long ((q2 &&& (2147483647 : Int64)) - ((q2 &&& (2147483647 : Int64)) / (3 : Int64)) * (3 : Int64)))])) (fun _ k => XS.lrem X0.here hx rfl (hb hby d1_8) rfl hnz1 k) ?_
  refine own_go (B := s₁.setTop (mkF m 10 #[.val (.long q1), .second, .val (.long q2), .second, .unset, .unset, .unset, .unset] [(.long (1 : Int64)), (.long ((q2 &&& (2147483647 : Int64)) - ((q2 &&& (2147483647 : Int64)) / (3 : Int64)) * (3 : Int64)))])) (fun _ k => XS.lconst X0.here hx rfl (hb hby d1_9) k) ?_
  refine own_go (B := s₁.setTop (mkF m 11 #[.val (.long q1), .second, .val (.long q2), .second, .unset, .unset, .unset, .unset] [(.long (((q2 &&& (2147483647 : Int64)) - ((q2 &&& (2147483647 : Int64)) / (3 : Int64)) * (3 : Int64)) - (1 : Int64)))])) (fun _ k => XS.lsub X0.here hx rfl (hb hby d1_10) rfl k) ?_
  refine own_go (B := s₁.setTop (mkF m 13 #[.val (.long q1), .second, .val (.long q2), .second, .val (.long (((q2 &&& (2147483647 : Int64)) - ((q2 &&& (2147483647 : Int64)) / (3 : Int64)) * (3 : Int64)) - (1 : Int64))), .second, .unset, .unset] [])) (fun _ k => XS.lstore X0.here hx rfl (hb hby d1_11) rfl (l' := #[.val (.long q1), .second, .val (.long q2), .second, .val (.long (((q2 &&& (2147483647 : Int64)) - ((q2 &&& (2147483647 : Int64)) / (3 : Int64)) * (3 : Int64)) - (1 : Int64))), .second, .unset, .unset]) rfl k) ?_
  refine own_go (B := s₁.setTop (mkF m 14 #[.val (.long q1), .second, .val (.long q2), .second, .val (.long (((q2 &&& (2147483647 : Int64)) - ((q2 &&& (2147483647 : Int64)) / (3 : Int64)) * (3 : Int64)) - (1 : Int64))), .second, .unset, .unset] [(.long q1)])) (fun _ k => XS.lloadN X0.here hx rfl (hb hby d1_13) rfl  k) ?_
  refine own_go (B := s₁.setTop (mkF m 16 #[.val (.long q1), .second, .val (.long q2), .second, .val (.long (((q2 &&& (2147483647 : Int64)) - ((q2 &&& (2147483647 : Int64)) / (3 : Int64)) * (3 : Int64)) - (1 : Int64))), .second, .unset, .unset] [(.long (((q2 &&& (2147483647 : Int64)) - ((q2 &&& (2147483647 : Int64)) / (3 : Int64)) * (3 : Int64)) - (1 : Int64))), (.long q1)])) (fun _ k => XS.lload X0.here hx rfl (hb hby d1_14) rfl  k) ?_
  refine own_go (B := s₁.setTop (mkF m 17 #[.val (.long q1), .second, .val (.long q2), .second, .val (.long (((q2 &&& (2147483647 : Int64)) - ((q2 &&& (2147483647 : Int64)) / (3 : Int64)) * (3 : Int64)) - (1 : Int64))), .second, .unset, .unset] [(.long (q1 + (((q2 &&& (2147483647 : Int64)) - ((q2 &&& (2147483647 : Int64)) / (3 : Int64)) * (3 : Int64)) - (1 : Int64))))])) (fun _ k => XS.ladd X0.here hx rfl (hb hby d1_16) rfl k) ?_
  refine own_go (B := s₁.setTop (mkF m 19 #[.val (.long q1), .second, .val (.long q2), .second, .val (.long (((q2 &&& (2147483647 : Int64)) - ((q2 &&& (2147483647 : Int64)) / (3 : Int64)) * (3 : Int64)) - (1 : Int64))), .second, .val (.long (q1 + (((q2 &&& (2147483647 : Int64)) - ((q2 &&& (2147483647 : Int64)) / (3 : Int64)) * (3 : Int64)) - (1 : Int64)))), .second] [])) (fun _ k => XS.lstore X0.here hx rfl (hb hby d1_17) rfl (l' := #[.val (.long q1), .second, .val (.long q2), .second, .val (.long (((q2 &&& (2147483647 : Int64)) - ((q2 &&& (2147483647 : Int64)) / (3 : Int64)) * (3 : Int64)) - (1 : Int64))), .second, .val (.long (q1 + (((q2 &&& (2147483647 : Int64)) - ((q2 &&& (2147483647 : Int64)) / (3 : Int64)) * (3 : Int64)) - (1 : Int64)))), .second]) rfl k) ?_
  refine own_go (B := s₁.setTop (mkF m 21 #[.val (.long q1), .second, .val (.long q2), .second, .val (.long (((q2 &&& (2147483647 : Int64)) - ((q2 &&& (2147483647 : Int64)) / (3 : Int64)) * (3 : Int64)) - (1 : Int64))), .second, .val (.long (q1 + (((q2 &&& (2147483647 : Int64)) - ((q2 &&& (2147483647 : Int64)) / (3 : Int64)) * (3 : Int64)) - (1 : Int64)))), .second] [(.long (q1 + (((q2 &&& (2147483647 : Int64)) - ((q2 &&& (2147483647 : Int64)) / (3 : Int64)) * (3 : Int64)) - (1 : Int64))))])) (fun _ k => XS.lload X0.here hx rfl (hb hby d1_19) rfl  k) ?_
  refine own_go (B := s₁.setTop (mkF m 22 #[.val (.long q1), .second, .val (.long q2), .second, .val (.long (((q2 &&& (2147483647 : Int64)) - ((q2 &&& (2147483647 : Int64)) / (3 : Int64)) * (3 : Int64)) - (1 : Int64))), .second, .val (.long (q1 + (((q2 &&& (2147483647 : Int64)) - ((q2 &&& (2147483647 : Int64)) / (3 : Int64)) * (3 : Int64)) - (1 : Int64)))), .second] [(.long (0 : Int64)), (.long (q1 + (((q2 &&& (2147483647 : Int64)) - ((q2 &&& (2147483647 : Int64)) / (3 : Int64)) * (3 : Int64)) - (1 : Int64))))])) (fun _ k => XS.lconst X0.here hx rfl (hb hby d1_21) k) ?_
  refine own_go (B := s₁.setTop (mkF m 23 #[.val (.long q1), .second, .val (.long q2), .second, .val (.long (((q2 &&& (2147483647 : Int64)) - ((q2 &&& (2147483647 : Int64)) / (3 : Int64)) * (3 : Int64)) - (1 : Int64))), .second, .val (.long (q1 + (((q2 &&& (2147483647 : Int64)) - ((q2 &&& (2147483647 : Int64)) / (3 : Int64)) * (3 : Int64)) - (1 : Int64)))), .second] [(.int (lcmpW (q1 + (((q2 &&& (2147483647 : Int64)) - ((q2 &&& (2147483647 : Int64)) / (3 : Int64)) * (3 : Int64)) - (1 : Int64))) (0 : Int64)))])) (fun _ k => XS.lcmp X0.here hx rfl (hb hby d1_22) rfl k) ?_
  by_cases hc2 : (q1 + (((q2 &&& (2147483647 : Int64)) - ((q2 &&& (2147483647 : Int64)) / (3 : Int64)) * (3 : Int64)) - (1 : Int64))) < (0 : Int64)
  · skip
    refine own_go (B := s₁.setTop (mkF m 26 #[.val (.long q1), .second, .val (.long q2), .second, .val (.long (((q2 &&& (2147483647 : Int64)) - ((q2 &&& (2147483647 : Int64)) / (3 : Int64)) * (3 : Int64)) - (1 : Int64))), .second, .val (.long (q1 + (((q2 &&& (2147483647 : Int64)) - ((q2 &&& (2147483647 : Int64)) / (3 : Int64)) * (3 : Int64)) - (1 : Int64)))), .second] [])) (fun _ k => XS.ifNo X0.here hx rfl (hb hby d1_23) rfl ((if0 _ _).trans (tlt ((lw_lt (q1 + (((q2 &&& (2147483647 : Int64)) - ((q2 &&& (2147483647 : Int64)) / (3 : Int64)) * (3 : Int64)) - (1 : Int64))) (0 : Int64)).mpr hc2)).2.1) k) ?_
    refine own_go (B := s₁.setTop (mkF m 27 #[.val (.long q1), .second, .val (.long q2), .second, .val (.long (((q2 &&& (2147483647 : Int64)) - ((q2 &&& (2147483647 : Int64)) / (3 : Int64)) * (3 : Int64)) - (1 : Int64))), .second, .val (.long (q1 + (((q2 &&& (2147483647 : Int64)) - ((q2 &&& (2147483647 : Int64)) / (3 : Int64)) * (3 : Int64)) - (1 : Int64)))), .second] [(.long q1)])) (fun _ k => XS.lloadN X0.here hx rfl (hb hby d1_26) rfl  k) ?_
    exact own_retJ X0 hx Bd.notSynchronized Bd.returns (hb hby d1_27) e0 ⟨q1, rfl, N0, rfl, hq⟩ (by decide) (by decide)
  · skip
    refine own_go (B := s₁.setTop (mkF m 28 #[.val (.long q1), .second, .val (.long q2), .second, .val (.long (((q2 &&& (2147483647 : Int64)) - ((q2 &&& (2147483647 : Int64)) / (3 : Int64)) * (3 : Int64)) - (1 : Int64))), .second, .val (.long (q1 + (((q2 &&& (2147483647 : Int64)) - ((q2 &&& (2147483647 : Int64)) / (3 : Int64)) * (3 : Int64)) - (1 : Int64)))), .second] [])) (fun _ k => XS.ifYes X0.here hx rfl (pc0 := 23) (pc' := 28) rfl (hb hby d1_23) rfl ((if0 _ _).trans (flt (mt (lw_lt (q1 + (((q2 &&& (2147483647 : Int64)) - ((q2 &&& (2147483647 : Int64)) / (3 : Int64)) * (3 : Int64)) - (1 : Int64))) (0 : Int64)).mp hc2)).2.1) (by decide) (by decide) k) ?_
    refine own_go (B := s₁.setTop (mkF m 30 #[.val (.long q1), .second, .val (.long q2), .second, .val (.long (((q2 &&& (2147483647 : Int64)) - ((q2 &&& (2147483647 : Int64)) / (3 : Int64)) * (3 : Int64)) - (1 : Int64))), .second, .val (.long (q1 + (((q2 &&& (2147483647 : Int64)) - ((q2 &&& (2147483647 : Int64)) / (3 : Int64)) * (3 : Int64)) - (1 : Int64)))), .second] [(.long (q1 + (((q2 &&& (2147483647 : Int64)) - ((q2 &&& (2147483647 : Int64)) / (3 : Int64)) * (3 : Int64)) - (1 : Int64))))])) (fun _ k => XS.lload X0.here hx rfl (hb hby d1_28) rfl  k) ?_
    exact own_retJ X0 hx Bd.notSynchronized Bd.returns (hb hby d1_30) e0 ⟨(q1 + (((q2 &&& (2147483647 : Int64)) - ((q2 &&& (2147483647 : Int64)) / (3 : Int64)) * (3 : Int64)) - (1 : Int64))), rfl, N0, rfl, (own_pl_rm1_1 q1 q2 hq hc2)⟩ (by decide) (by decide)
abbrev R_own_rm6 : Room := { frames := 0, cells := 0, slots := 0, locals := 0 }
theorem d6_0 : decode method_4_code 0 = .ok (.iload_n 1, 1) := by decide +kernel
theorem d6_1 : decode method_4_code 1 = .ok (.ldc 13, 2) := by decide +kernel
theorem d6_3 : decode method_4_code 3 = .ok (.iand, 1) := by decide +kernel
theorem d6_4 : decode method_4_code 4 = .ok (.iconst 3, 1) := by decide +kernel
theorem d6_5 : decode method_4_code 5 = .ok (.irem, 1) := by decide +kernel
theorem d6_6 : decode method_4_code 6 = .ok (.iconst 1, 1) := by decide +kernel
theorem d6_7 : decode method_4_code 7 = .ok (.isub, 1) := by decide +kernel
theorem d6_8 : decode method_4_code 8 = .ok (.istore_n 2, 1) := by decide +kernel
theorem d6_9 : decode method_4_code 9 = .ok (.iload_n 0, 1) := by decide +kernel
theorem d6_10 : decode method_4_code 10 = .ok (.iload_n 2, 1) := by decide +kernel
theorem d6_11 : decode method_4_code 11 = .ok (.iadd, 1) := by decide +kernel
theorem d6_12 : decode method_4_code 12 = .ok (.istore_n 3, 1) := by decide +kernel
theorem d6_13 : decode method_4_code 13 = .ok (.iload_n 3, 1) := by decide +kernel
theorem d6_14 : decode method_4_code 14 = .ok (.ifCond .ge 5, 3) := by decide +kernel
theorem d6_17 : decode method_4_code 17 = .ok (.iload_n 0, 1) := by decide +kernel
theorem d6_18 : decode method_4_code 18 = .ok (.ireturn, 1) := by decide +kernel
theorem d6_19 : decode method_4_code 19 = .ok (.iload_n 3, 1) := by decide +kernel
theorem d6_20 : decode method_4_code 20 = .ok (.ireturn, 1) := by decide +kernel
theorem ef_own_rm6 (m : MethodId) (x0 : Int32) (x1 : Int32) : entryFrame m #[(.int x0), (.int x1)] 4 = mkF m 0 #[.val (.int x0), .val (.int x1), .unset, .unset] [] := by first | (simp [entryFrame, mkF, argsToLocals, Value.category]; done) | rfl
set_option maxHeartbeats 2000000 in
theorem own_pl_rm6_1 (p1 : Int32) (p2 : Int32) (hq : 0 ≤ p1.toInt) (hc2 : ¬ ((p1 + (((p2 &&& (2147483647 : Int32)) % (3 : Int32)) - (1 : Int32))) < (0 : Int32))) : 0 ≤ (p1 + (((p2 &&& (2147483647 : Int32)) % (3 : Int32)) - (1 : Int32))).toInt := by
  have : (0 : Int32).toInt = 0 := by decide
  have : (1 : Int32).toInt = 1 := by decide
  have : (3 : Int32).toInt = 3 := by decide
  have : (2147483647 : Int32).toInt = 2147483647 := by decide
  have := rng32 p1
  have := rng32 p2
  have := rng32 (p2 &&& (2147483647 : Int32))
  have := Jvm.Kit.i32_mask p2 (2147483647 : Int32) (k := 31) (by decide) (by decide)
  have := rng32 ((p2 &&& (2147483647 : Int32)) % (3 : Int32))
  have := Jvm.Kit.i32_rem_nonneg (x := (p2 &&& (2147483647 : Int32))) (y := (3 : Int32)) (by omega)
  have := rng32 (((p2 &&& (2147483647 : Int32)) % (3 : Int32)) - (1 : Int32))
  have := c_isub ((p2 &&& (2147483647 : Int32)) % (3 : Int32)) (1 : Int32)
  have := rng32 (p1 + (((p2 &&& (2147483647 : Int32)) % (3 : Int32)) - (1 : Int32)))
  have := c_iadd p1 (((p2 &&& (2147483647 : Int32)) % (3 : Int32)) - (1 : Int32))
  try simp only [Int32.lt_iff_toInt_lt, Int32.le_iff_toInt_le, Int64.lt_iff_toInt_lt, Int64.le_iff_toInt_le, ← Int32.toInt_inj, ← Int64.toInt_inj] at *
  all_goals omega
def Q_own_rm6 (Z : State) (p1 : Int32) (p2 : Int32) (h0 : Heap) (n0 : Nat) (v : Option Value) (h : Heap) (L : List Loc) : Prop := ∃ r : Int32, v = some (.int r) ∧ Fr n0 L ∧ h = h0 ∧ (0 ≤ r.toInt)
set_option maxRecDepth 65536 in
set_option maxHeartbeats 400000000 in
theorem own_rm6 (l : Launch) (Z : State) (a0 : Array Value) (hw : ∀ d ∈ tables_1, d.before a0 Z = true) (ws : List Jvm.Cond) (p1 : Int32) (p2 : Int32) (h0 : Heap) (n0 : Nat) (Z0 : n0 ≤ h0.size) (hq : 0 ≤ p1.toInt) :
    MetFree l (⟨"com/example/stackyard/stackyard/records/ResourceFitsInPinLaw", "nearInt", "(II)I"⟩ : MethodName) (head1 (Jvm.Cond.code (⟨"com/example/stackyard/stackyard/records/ResourceFitsInPinLaw", "nearInt", "(II)I"⟩ : MethodName) method_4_code 4 (some .int) :: ws) R_own_rm6) (fun a U => a = #[(.int p1), (.int p2)] ∧ Z.Warmed39 U.vm ∧ U.heap = h0) (fun _ _ _ _ _ => True) (fun _ U o U' => ∃ v L, o = .returned v ∧ Q_own_rm6 Z p1 p2 h0 n0 v U'.heap L ∧ FrameEnd U o U' L R_own_rm6.cells R_own_rm6.slots) := by
  refine MetFree.of_bodySF (plainFor_of_name own_pn1) hisR ?_
  intro p e s m args below meth c s₁ Bd hml0 hP hK
  obtain ⟨rfl, hZ, hh⟩ := hP
  have hx := Bd.exec
  have hby := Bd.bytes
  have hml : c.maxLocals = 4 := hml0
  have hown : s.vm.findClass "com/example/stackyard/stackyard/records/ResourceFitsInPinLaw" = some m.cls := findClass_of_methodNamed Bd.named
  have hnm := (name_of_methodNamed Bd.named Bd.method).1
  have X0 : Stand p l e R_own_rm6 s m #[(.int p1), (.int p2)] below meth c s₁ [] 0 0 := Stand.of_body Bd
  have e0 : s₁.heap = h0 := by rw [← hh, Bd.state]; rfl
  have N0 := Fr.nil n0
  have K0 : Keep h0 h0 [] := Keep.refl h0 []
  show own_Fin p e below s (Q_own_rm6 Z p1 p2 h0 n0) R_own_rm6.cells R_own_rm6.slots (s₁.setTop (entryFrame m #[(.int p1), (.int p2)] 4))
  refine own_go (fun _ k => castTop (ef_own_rm6 m p1 p2) k) ?_
  show own_Fin _ _ _ _ _ _ _ (s₁.setTop (mkF m 0 #[.val (.int p1), .val (.int p2), .unset, .unset] []))
  refine own_go (B := s₁.setTop (mkF m 1 #[.val (.int p1), .val (.int p2), .unset, .unset] [(.int p2)])) (fun _ k => XS.iloadN X0.here hx rfl (hb hby d6_0) rfl  k) ?_
  refine own_go (B := s₁.setTop (mkF m 3 #[.val (.int p1), .val (.int p2), .unset, .unset] [(.int (2147483647 : Int32)), (.int p2)])) (fun _ k => X0.ldcInt hx hown (mvT hZ (own_w hw 1 rfl)) (g := (mkF m 1 #[.val (.int p1), .val (.int p2), .unset, .unset] [(.int p2)])) rfl (hb hby d6_1) _ k) ?_
  refine own_go (B := s₁.setTop (mkF m 4 #[.val (.int p1), .val (.int p2), .unset, .unset] [(.int (p2 &&& (2147483647 : Int32)))])) (fun _ k => XS.iand X0.here hx rfl (hb hby d6_3) rfl k) ?_
  refine own_go (B := s₁.setTop (mkF m 5 #[.val (.int p1), .val (.int p2), .unset, .unset] [(.int (3 : Int32)), (.int (p2 &&& (2147483647 : Int32)))])) (fun _ k => XS.iconst X0.here hx rfl (hb hby d6_4) k) ?_
  have hnz1 : (3 : Int32) ≠ (0 : Int32) := by decide
  refine own_go (B := s₁.setTop (mkF m 6 #[.val (.int p1), .val (.int p2), .unset, .unset] [(.int ((p2 &&& (2147483647 : Int32)) % (3 : Int32)))])) (fun _ k => iremM X0 hx rfl (hb hby d6_5) rfl hnz1 k) ?_
  refine own_go (B := s₁.setTop (mkF m 7 #[.val (.int p1), .val (.int p2), .unset, .unset] [(.int (1 : Int32)), (.int ((p2 &&& (2147483647 : Int32)) % (3 : Int32)))])) (fun _ k => XS.iconst X0.here hx rfl (hb hby d6_6) k) ?_
  refine own_go (B := s₁.setTop (mkF m 8 #[.val (.int p1), .val (.int p2), .unset, .unset] [(.int (((p2 &&& (2147483647 : Int32)) % (3 : Int32)) - (1 : Int32)))])) (fun _ k => XS.isub X0.here hx rfl (hb hby d6_7) rfl k) ?_
  refine own_go (B := s₁.setTop (mkF m 9 #[.val (.int p1), .val (.int p2), .val (.int (((p2 &&& (2147483647 : Int32)) % (3 : Int32)) - (1 : Int32))), .unset] [])) (fun _ k => XS.istoreN X0.here hx rfl (hb hby d6_8) rfl (l' := #[.val (.int p1), .val (.int p2), .val (.int (((p2 &&& (2147483647 : Int32)) % (3 : Int32)) - (1 : Int32))), .unset]) rfl k) ?_
  refine own_go (B := s₁.setTop (mkF m 10 #[.val (.int p1), .val (.int p2), .val (.int (((p2 &&& (2147483647 : Int32)) % (3 : Int32)) - (1 : Int32))), .unset] [(.int p1)])) (fun _ k => XS.iloadN X0.here hx rfl (hb hby d6_9) rfl  k) ?_
  refine own_go (B := s₁.setTop (mkF m 11 #[.val (.int p1), .val (.int p2), .val (.int (((p2 &&& (2147483647 : Int32)) % (3 : Int32)) - (1 : Int32))), .unset] [(.int (((p2 &&& (2147483647 : Int32)) % (3 : Int32)) - (1 : Int32))), (.int p1)])) (fun _ k => XS.iloadN X0.here hx rfl (hb hby d6_10) rfl  k) ?_
  refine own_go (B := s₁.setTop (mkF m 12 #[.val (.int p1), .val (.int p2), .val (.int (((p2 &&& (2147483647 : Int32)) % (3 : Int32)) - (1 : Int32))), .unset] [(.int (p1 + (((p2 &&& (2147483647 : Int32)) % (3 : Int32)) - (1 : Int32))))])) (fun _ k => XS.iadd X0.here hx rfl (hb hby d6_11) rfl k) ?_
  refine own_go (B := s₁.setTop (mkF m 13 #[.val (.int p1), .val (.int p2), .val (.int (((p2 &&& (2147483647 : Int32)) % (3 : Int32)) - (1 : Int32))), .val (.int (p1 + (((p2 &&& (2147483647 : Int32)) % (3 : Int32)) - (1 : Int32))))] [])) (fun _ k => XS.istoreN X0.here hx rfl (hb hby d6_12) rfl (l' := #[.val (.int p1), .val (.int p2), .val (.int (((p2 &&& (2147483647 : Int32)) % (3 : Int32)) - (1 : Int32))), .val (.int (p1 + (((p2 &&& (2147483647 : Int32)) % (3 : Int32)) - (1 : Int32))))]) rfl k) ?_
  refine own_go (B := s₁.setTop (mkF m 14 #[.val (.int p1), .val (.int p2), .val (.int (((p2 &&& (2147483647 : Int32)) % (3 : Int32)) - (1 : Int32))), .val (.int (p1 + (((p2 &&& (2147483647 : Int32)) % (3 : Int32)) - (1 : Int32))))] [(.int (p1 + (((p2 &&& (2147483647 : Int32)) % (3 : Int32)) - (1 : Int32))))])) (fun _ k => XS.iloadN X0.here hx rfl (hb hby d6_13) rfl  k) ?_
  by_cases hc2 : (p1 + (((p2 &&& (2147483647 : Int32)) % (3 : Int32)) - (1 : Int32))) < (0 : Int32)
  · skip
    refine own_go (B := s₁.setTop (mkF m 17 #[.val (.int p1), .val (.int p2), .val (.int (((p2 &&& (2147483647 : Int32)) % (3 : Int32)) - (1 : Int32))), .val (.int (p1 + (((p2 &&& (2147483647 : Int32)) % (3 : Int32)) - (1 : Int32))))] [])) (fun _ k => XS.ifNo X0.here hx rfl (hb hby d6_14) rfl ((if0 _ _).trans (tlt hc2).2.1) k) ?_
    refine own_go (B := s₁.setTop (mkF m 18 #[.val (.int p1), .val (.int p2), .val (.int (((p2 &&& (2147483647 : Int32)) % (3 : Int32)) - (1 : Int32))), .val (.int (p1 + (((p2 &&& (2147483647 : Int32)) % (3 : Int32)) - (1 : Int32))))] [(.int p1)])) (fun _ k => XS.iloadN X0.here hx rfl (hb hby d6_17) rfl  k) ?_
    exact own_retI X0 hx Bd.notSynchronized Bd.returns (hb hby d6_18) e0 ⟨p1, rfl, N0, rfl, hq⟩ (by decide) (by decide)
  · skip
    refine own_go (B := s₁.setTop (mkF m 19 #[.val (.int p1), .val (.int p2), .val (.int (((p2 &&& (2147483647 : Int32)) % (3 : Int32)) - (1 : Int32))), .val (.int (p1 + (((p2 &&& (2147483647 : Int32)) % (3 : Int32)) - (1 : Int32))))] [])) (fun _ k => XS.ifYes X0.here hx rfl (pc0 := 14) (pc' := 19) rfl (hb hby d6_14) rfl ((if0 _ _).trans (flt hc2).2.1) (by decide) (by decide) k) ?_
    refine own_go (B := s₁.setTop (mkF m 20 #[.val (.int p1), .val (.int p2), .val (.int (((p2 &&& (2147483647 : Int32)) % (3 : Int32)) - (1 : Int32))), .val (.int (p1 + (((p2 &&& (2147483647 : Int32)) % (3 : Int32)) - (1 : Int32))))] [(.int (p1 + (((p2 &&& (2147483647 : Int32)) % (3 : Int32)) - (1 : Int32))))])) (fun _ k => XS.iloadN X0.here hx rfl (hb hby d6_19) rfl  k) ?_
    exact own_retI X0 hx Bd.notSynchronized Bd.returns (hb hby d6_20) e0 ⟨(p1 + (((p2 &&& (2147483647 : Int32)) % (3 : Int32)) - (1 : Int32))), rfl, N0, rfl, (own_pl_rm6_1 p1 p2 hq hc2)⟩ (by decide) (by decide)
abbrev R_own_rm2 : Room := { frames := 2, cells := 0, slots := 0, locals := 24 }
theorem d2_0 : decode prog_55_method_1_code 0 = .ok (.aload_n 0, 1) := by decide +kernel
theorem d2_1 : decode prog_55_method_1_code 1 = .ok (.invokespecial 1, 3) := by decide +kernel
theorem d2_4 : decode prog_55_method_1_code 4 = .ok (.lload_n 1, 1) := by decide +kernel
theorem d2_5 : decode prog_55_method_1_code 5 = .ok (.lconst 0, 1) := by decide +kernel
theorem d2_6 : decode prog_55_method_1_code 6 = .ok (.lcmp, 1) := by decide +kernel
theorem d2_7 : decode prog_55_method_1_code 7 = .ok (.ifCond .lt 7, 3) := by decide +kernel
theorem d2_10 : decode prog_55_method_1_code 10 = .ok (.iload_n 3, 1) := by decide +kernel
theorem d2_11 : decode prog_55_method_1_code 11 = .ok (.ifCond .ge 18, 3) := by decide +kernel
theorem d2_29 : decode prog_55_method_1_code 29 = .ok (.aload_n 0, 1) := by decide +kernel
theorem d2_30 : decode prog_55_method_1_code 30 = .ok (.lload_n 1, 1) := by decide +kernel
theorem d2_31 : decode prog_55_method_1_code 31 = .ok (.putfield 16, 3) := by decide +kernel
theorem d2_34 : decode prog_55_method_1_code 34 = .ok (.aload_n 0, 1) := by decide +kernel
theorem d2_35 : decode prog_55_method_1_code 35 = .ok (.iload_n 3, 1) := by decide +kernel
theorem d2_36 : decode prog_55_method_1_code 36 = .ok (.putfield 22, 3) := by decide +kernel
theorem d2_39 : decode prog_55_method_1_code 39 = .ok (.return_, 1) := by decide +kernel
theorem own_pn2 : plainName "com/example/stackyard/stackyard/records/Resource" = true := by first | (simp [plainName, overriddenIn]; done) | decide +kernel
theorem ef_own_rm2 (m : MethodId) (x0 : Addr) (x1 : Int64) (x2 : Int32) : entryFrame m #[(.ref x0), (.long x1), (.int x2)] 4 = mkF m 0 #[.val (.ref x0), .val (.long x1), .second, .val (.int x2)] [] := by first | (simp [entryFrame, mkF, argsToLocals, Value.category]; done) | rfl
set_option maxHeartbeats 2000000 in
theorem own_pl_rm2_1 (q2 : Int64) (p3 : Int32) (hm : 0 ≤ q2.toInt) (hv : 0 ≤ p3.toInt) : ¬ (q2 < (0 : Int64)) := by
  have : (0 : Int64).toInt = 0 := by decide
  have := rng64 q2
  have := rng32 p3
  try simp only [Int32.lt_iff_toInt_lt, Int32.le_iff_toInt_le, Int64.lt_iff_toInt_lt, Int64.le_iff_toInt_le, ← Int32.toInt_inj, ← Int64.toInt_inj] at *
  all_goals omega
set_option maxHeartbeats 2000000 in
theorem own_pl_rm2_2 (q2 : Int64) (p3 : Int32) (hm : 0 ≤ q2.toInt) (hv : 0 ≤ p3.toInt) (hc2 : ¬ (q2 < (0 : Int64))) : ¬ (p3 < (0 : Int32)) := by
  have : (0 : Int32).toInt = 0 := by decide
  have : (0 : Int64).toInt = 0 := by decide
  have := rng64 q2
  have := rng32 p3
  try simp only [Int32.lt_iff_toInt_lt, Int32.le_iff_toInt_le, Int64.lt_iff_toInt_lt, Int64.le_iff_toInt_le, ← Int32.toInt_inj, ← Int64.toInt_inj] at *
  all_goals omega
def Q_own_rm2 (Z : State) (a1 : Addr) (q2 : Int64) (p3 : Int32) (h0 : Heap) (n0 : Nat) (v : Option Value) (h : Heap) (L : List Loc) : Prop := v = none ∧ Fr n0 L ∧ Keep h0 h [a1] ∧ Exa Z h a1 "com/example/stackyard/stackyard/records/Resource" ∧ Fld Z h a1 "com/example/stackyard/stackyard/records/Resource" "memory" "J" (.long q2) ∧ Fld Z h a1 "com/example/stackyard/stackyard/records/Resource" "vCores" "I" (.int p3)
set_option maxRecDepth 65536 in
set_option maxHeartbeats 400000000 in
theorem own_rm2 (l : Launch) (Z : State) (a0 : Array Value) (hw : ∀ d ∈ tables_1, d.before a0 Z = true) (ws : List Jvm.Cond) (a1 : Addr) (q2 : Int64) (p3 : Int32) (h0 : Heap) (n0 : Nat) (Z0 : n0 ≤ h0.size) (P_E_a1 : Exa Z h0 a1 "com/example/stackyard/stackyard/records/Resource") (P_F_a1_memory : Fld Z h0 a1 "com/example/stackyard/stackyard/records/Resource" "memory" "J" (.long (0 : Int64))) (P_F_a1_vCores : Fld Z h0 a1 "com/example/stackyard/stackyard/records/Resource" "vCores" "I" (.int (0 : Int32))) (g_a1 : n0 ≤ a1) (hm : 0 ≤ q2.toInt) (hv : 0 ≤ p3.toInt) :
    MetFree l (⟨"com/example/stackyard/stackyard/records/Resource", "<init>", "(JI)V"⟩ : MethodName) (head1 (Jvm.Cond.code (⟨"com/example/stackyard/stackyard/records/Resource", "<init>", "(JI)V"⟩ : MethodName) prog_55_method_1_code 4 none :: ws) R_own_rm2) (fun a U => a = #[(.ref a1), (.long q2), (.int p3)] ∧ Z.Warmed39 U.vm ∧ U.heap = h0) (fun _ _ _ _ _ => True) (fun _ U o U' => ∃ v L, o = .returned v ∧ Q_own_rm2 Z a1 q2 p3 h0 n0 v U'.heap L ∧ FrameEnd U o U' L R_own_rm2.cells R_own_rm2.slots) := by
  refine MetFree.of_bodySF (plainFor_of_name own_pn2) hisR ?_
  intro p e s m args below meth c s₁ Bd hml0 hP hK
  obtain ⟨rfl, hZ, hh⟩ := hP
  have hx := Bd.exec
  have hby := Bd.bytes
  have hml : c.maxLocals = 4 := hml0
  have hown : s.vm.findClass "com/example/stackyard/stackyard/records/Resource" = some m.cls := findClass_of_methodNamed Bd.named
  have hnm := (name_of_methodNamed Bd.named Bd.method).1
  have X0 : Stand p l e R_own_rm2 s m #[(.ref a1), (.long q2), (.int p3)] below meth c s₁ [] 0 0 := Stand.of_body Bd
  have e0 : s₁.heap = h0 := by rw [← hh, Bd.state]; rfl
  have N0 := Fr.nil n0
  have K0 : Keep h0 h0 [a1] := Keep.refl h0 [a1]
  show own_Fin p e below s (Q_own_rm2 Z a1 q2 p3 h0 n0) R_own_rm2.cells R_own_rm2.slots (s₁.setTop (entryFrame m #[(.ref a1), (.long q2), (.int p3)] 4))
  refine own_go (fun _ k => castTop (ef_own_rm2 m a1 q2 p3) k) ?_
  show own_Fin _ _ _ _ _ _ _ (s₁.setTop (mkF m 0 #[.val (.ref a1), .val (.long q2), .second, .val (.int p3)] []))
  refine own_go (B := s₁.setTop (mkF m 1 #[.val (.ref a1), .val (.long q2), .second, .val (.int p3)] [(.ref a1)])) (fun _ k => XS.aloadN X0.here hx rfl (hb hby d2_0) rfl rfl k) ?_
  obtain ⟨_, _, ⟨T1, L1, k1, n1⟩, -, X1, ⟨Lc1, hQ1, l1, y1, z1⟩, st1⟩ := X0.specialBack hx (y := (⟨"java/lang/Record", "<init>", "()V"⟩ : MethodName)) rfl hown (mvT hZ (own_w hw 14 rfl)) (mvT hZ (own_w hw 15 rfl)) (mvT hZ (own_w hw 18 rfl)) (by decide) (backOf (W := 0) (own_rm3 l Z a0 hw [] a1 h0 n0 (Nat.le_trans Z0 K0.1) ) hZ (own_w hw 18 rfl) (own_w hw 17 rfl) (by decide) (by decide)) (g := (mkF m 1 #[.val (.ref a1), .val (.long q2), .second, .val (.int p3)] [(.ref a1)])) rfl (by rw [hml]; rfl) (Steps.refl _) (a := a1) (argsL := []) (rest := []) (lenOf own_pd0 rfl) rfl (by show 2 * 0 + _ ≤ _; exact Nat.le_of_eq rfl) (hb hby d2_1) (fun _ _ => ⟨rfl, e0, (by decide : 0 + 0 ≤ _), (by decide : 0 + 0 ≤ _)⟩)
  dsimp only [Pt.U, Pt.locs, Pt.cells, Pt.slots] at X1 l1 y1 z1 st1 hQ1
  subst l1 y1 z1
  obtain ⟨rfl, N1q, e1⟩ := hQ1
  have N1 := Fr.app N0 N1q
  refine own_go (B := T1.setTop (mkF m 4 #[.val (.ref a1), .val (.long q2), .second, .val (.int p3)] [])) (fun _ k => st1.trans k) ?_
  refine own_go (B := T1.setTop (mkF m 5 #[.val (.ref a1), .val (.long q2), .second, .val (.int p3)] [(.long q2)])) (fun _ k => XS.lloadN X1.here hx rfl (hb hby d2_4) rfl  k) ?_
  refine own_go (B := T1.setTop (mkF m 6 #[.val (.ref a1), .val (.long q2), .second, .val (.int p3)] [(.long (0 : Int64)), (.long q2)])) (fun _ k => XS.lconst X1.here hx rfl (hb hby d2_5) k) ?_
  refine own_go (B := T1.setTop (mkF m 7 #[.val (.ref a1), .val (.long q2), .second, .val (.int p3)] [(.int (lcmpW q2 (0 : Int64)))])) (fun _ k => XS.lcmp X1.here hx rfl (hb hby d2_6) rfl k) ?_
  have hc2 : ¬ (q2 < (0 : Int64)) := (own_pl_rm2_1 q2 p3 hm hv)
  refine own_go (B := T1.setTop (mkF m 10 #[.val (.ref a1), .val (.long q2), .second, .val (.int p3)] [])) (fun _ k => XS.ifNo X1.here hx rfl (hb hby d2_7) rfl ((if0 _ _).trans (flt (mt (lw_lt q2 (0 : Int64)).mp hc2)).1) k) ?_
  refine own_go (B := T1.setTop (mkF m 11 #[.val (.ref a1), .val (.long q2), .second, .val (.int p3)] [(.int p3)])) (fun _ k => XS.iloadN X1.here hx rfl (hb hby d2_10) rfl  k) ?_
  have hc3 : ¬ (p3 < (0 : Int32)) := (own_pl_rm2_2 q2 p3 hm hv hc2)
  refine own_go (B := T1.setTop (mkF m 29 #[.val (.ref a1), .val (.long q2), .second, .val (.int p3)] [])) (fun _ k => XS.ifYes X1.here hx rfl (pc0 := 11) (pc' := 29) rfl (hb hby d2_11) rfl ((if0 _ _).trans (flt hc3).2.1) (by decide) (by decide) k) ?_
  refine own_go (B := T1.setTop (mkF m 30 #[.val (.ref a1), .val (.long q2), .second, .val (.int p3)] [(.ref a1)])) (fun _ k => XS.aloadN X1.here hx rfl (hb hby d2_29) rfl rfl k) ?_
  refine own_go (B := T1.setTop (mkF m 31 #[.val (.ref a1), .val (.long q2), .second, .val (.int p3)] [(.long q2), (.ref a1)])) (fun _ k => XS.lloadN X1.here hx rfl (hb hby d2_30) rfl  k) ?_
  obtain ⟨T4, h4, X4, e4, W4, st4⟩ := putF X1 hx hZ hown (host := "") (Or.inl (own_w hw 22 rfl)) Via.refl e1 P_F_a1_memory P_E_a1 (Or.inr ⟨(own_w hw 23 rfl), rfl, hnm⟩) (own_w hw 9 rfl) (ty := .long) (by decide) rfl rfl (g := (mkF m 31 #[.val (.ref a1), .val (.long q2), .second, .val (.int p3)] [(.long q2), (.ref a1)])) rfl rfl (hb hby d2_31)
  have F_w4 : Fld Z h4 a1 "com/example/stackyard/stackyard/records/Resource" "memory" "J" (.long q2) := P_F_a1_memory.same W4
  have E_6 := P_E_a1.wr W4
  have F_8 := P_F_a1_vCores.other W4 (Or.inr (slot_ne (Or.inr (own_w hw 25 rfl)) (Or.inr (own_w hw 23 rfl)) (by decide) (t := .int) (t' := .long) (by decide) (by decide)))
  have K9 : Keep h0 h4 [a1] := K0.wr W4 (Or.inl (List.mem_of_getElem? (i := 0) rfl))
  have N4 := Fr.snoc X4 N1 g_a1
  refine own_go (B := T4.setTop (mkF m 34 #[.val (.ref a1), .val (.long q2), .second, .val (.int p3)] [])) st4 ?_
  refine own_go (B := T4.setTop (mkF m 35 #[.val (.ref a1), .val (.long q2), .second, .val (.int p3)] [(.ref a1)])) (fun _ k => XS.aloadN X4.here hx rfl (hb hby d2_34) rfl rfl k) ?_
  refine own_go (B := T4.setTop (mkF m 36 #[.val (.ref a1), .val (.long q2), .second, .val (.int p3)] [(.int p3), (.ref a1)])) (fun _ k => XS.iloadN X4.here hx rfl (hb hby d2_35) rfl  k) ?_
  obtain ⟨T10, h10, X10, e10, W10, st10⟩ := putF X4 hx hZ hown (host := "") (Or.inl (own_w hw 24 rfl)) Via.refl e4 F_8 E_6 (Or.inr ⟨(own_w hw 25 rfl), rfl, hnm⟩) (own_w hw 9 rfl) (ty := .int) (by decide) rfl rfl (g := (mkF m 36 #[.val (.ref a1), .val (.long q2), .second, .val (.int p3)] [(.int p3), (.ref a1)])) rfl rfl (hb hby d2_36)
  have F_w10 : Fld Z h10 a1 "com/example/stackyard/stackyard/records/Resource" "vCores" "I" (.int p3) := F_8.same W10
  have E_12 := E_6.wr W10
  have F_14 := F_w4.other W10 (Or.inr (slot_ne (Or.inr (own_w hw 23 rfl)) (Or.inr (own_w hw 25 rfl)) (by decide) (t := .long) (t' := .int) (by decide) (by decide)))
  have K15 : Keep h0 h10 [a1] := K9.wr W10 (Or.inl (List.mem_of_getElem? (i := 0) rfl))
  have N10 := Fr.snoc X10 N4 g_a1
  refine own_go (B := T10.setTop (mkF m 39 #[.val (.ref a1), .val (.long q2), .second, .val (.int p3)] [])) st10 ?_
  exact own_retV X10 hx Bd.notSynchronized Bd.returns (hb hby d2_39) e10 ⟨rfl, N10, K15, E_12, F_14, F_w10⟩ (by decide) (by decide)
abbrev R_own_rm5 : Room := { frames := 0, cells := 0, slots := 0, locals := 0 }
theorem d5_0 : decode prog_55_method_2_code 0 = .ok (.aload_n 0, 1) := by decide +kernel
theorem d5_1 : decode prog_55_method_2_code 1 = .ok (.getfield 16, 3) := by decide +kernel
theorem d5_4 : decode prog_55_method_2_code 4 = .ok (.aload_n 1, 1) := by decide +kernel
theorem d5_5 : decode prog_55_method_2_code 5 = .ok (.getfield 16, 3) := by decide +kernel
theorem d5_8 : decode prog_55_method_2_code 8 = .ok (.lcmp, 1) := by decide +kernel
theorem d5_9 : decode prog_55_method_2_code 9 = .ok (.ifCond .gt 18, 3) := by decide +kernel
theorem d5_12 : decode prog_55_method_2_code 12 = .ok (.aload_n 0, 1) := by decide +kernel
theorem d5_13 : decode prog_55_method_2_code 13 = .ok (.getfield 22, 3) := by decide +kernel
theorem d5_16 : decode prog_55_method_2_code 16 = .ok (.aload_n 1, 1) := by decide +kernel
theorem d5_17 : decode prog_55_method_2_code 17 = .ok (.getfield 22, 3) := by decide +kernel
theorem d5_20 : decode prog_55_method_2_code 20 = .ok (.if_icmp .gt 7, 3) := by decide +kernel
theorem d5_23 : decode prog_55_method_2_code 23 = .ok (.iconst 1, 1) := by decide +kernel
theorem d5_24 : decode prog_55_method_2_code 24 = .ok (.goto 4, 3) := by decide +kernel
theorem d5_27 : decode prog_55_method_2_code 27 = .ok (.iconst 0, 1) := by decide +kernel
theorem d5_28 : decode prog_55_method_2_code 28 = .ok (.ireturn, 1) := by decide +kernel
theorem ef_own_rm5 (m : MethodId) (x0 : Addr) (x1 : Addr) : entryFrame m #[(.ref x0), (.ref x1)] 2 = mkF m 0 #[.val (.ref x0), .val (.ref x1)] [] := by first | (simp [entryFrame, mkF, argsToLocals, Value.category]; done) | rfl
set_option maxHeartbeats 2000000 in
theorem own_pl_rm5_1 (q1 : Int64) (p1 : Int32) (q2 : Int64) (p2 : Int32) (hc3 : q2 < q1) : ¬ (q1.toInt ≤ q2.toInt ∧ p1.toInt ≤ p2.toInt) := by
  have := rng64 q2
  have := rng64 q1
  try simp only [Int32.lt_iff_toInt_lt, Int32.le_iff_toInt_le, Int64.lt_iff_toInt_lt, Int64.le_iff_toInt_le, ← Int32.toInt_inj, ← Int64.toInt_inj] at *
  all_goals omega
set_option maxHeartbeats 2000000 in
theorem own_pl_rm5_2 (q1 : Int64) (p1 : Int32) (q2 : Int64) (p2 : Int32) (hc3 : ¬ (q2 < q1)) (hc6 : p2 < p1) : ¬ (q1.toInt ≤ q2.toInt ∧ p1.toInt ≤ p2.toInt) := by
  have := rng64 q2
  have := rng64 q1
  have := rng32 p2
  have := rng32 p1
  try simp only [Int32.lt_iff_toInt_lt, Int32.le_iff_toInt_le, Int64.lt_iff_toInt_lt, Int64.le_iff_toInt_le, ← Int32.toInt_inj, ← Int64.toInt_inj] at *
  all_goals omega
set_option maxHeartbeats 2000000 in
theorem own_pl_rm5_3 (q1 : Int64) (p1 : Int32) (q2 : Int64) (p2 : Int32) (hc3 : ¬ (q2 < q1)) (hc6 : ¬ (p2 < p1)) : q1.toInt ≤ q2.toInt ∧ p1.toInt ≤ p2.toInt := by
  have := rng64 q2
  have := rng64 q1
  have := rng32 p2
  have := rng32 p1
  try simp only [Int32.lt_iff_toInt_lt, Int32.le_iff_toInt_le, Int64.lt_iff_toInt_lt, Int64.le_iff_toInt_le, ← Int32.toInt_inj, ← Int64.toInt_inj] at *
  all_goals omega
def Q_own_rm5 (Z : State) (a1 : Addr) (a2 : Addr) (q1 : Int64) (p1 : Int32) (q2 : Int64) (p2 : Int32) (h0 : Heap) (n0 : Nat) (v : Option Value) (h : Heap) (L : List Loc) : Prop := v = some (.int (own_b (q1.toInt ≤ q2.toInt ∧ p1.toInt ≤ p2.toInt))) ∧ Fr n0 L ∧ h = h0
set_option maxRecDepth 65536 in
set_option maxHeartbeats 400000000 in
theorem own_rm5 (l : Launch) (Z : State) (a0 : Array Value) (hw : ∀ d ∈ tables_1, d.before a0 Z = true) (ws : List Jvm.Cond) (a1 : Addr) (a2 : Addr) (q1 : Int64) (p1 : Int32) (q2 : Int64) (p2 : Int32) (h0 : Heap) (n0 : Nat) (Z0 : n0 ≤ h0.size) (P_F_a1_memory : Fld Z h0 a1 "com/example/stackyard/stackyard/records/Resource" "memory" "J" (.long q1)) (P_F_a1_vCores : Fld Z h0 a1 "com/example/stackyard/stackyard/records/Resource" "vCores" "I" (.int p1)) (P_F_a2_memory : Fld Z h0 a2 "com/example/stackyard/stackyard/records/Resource" "memory" "J" (.long q2)) (P_F_a2_vCores : Fld Z h0 a2 "com/example/stackyard/stackyard/records/Resource" "vCores" "I" (.int p2)) :
    MetFree l (⟨"com/example/stackyard/stackyard/records/Resource", "fitsIn", "(Lcom/example/stackyard/stackyard/records/Resource;)Z"⟩ : MethodName) (head1 (Jvm.Cond.code (⟨"com/example/stackyard/stackyard/records/Resource", "fitsIn", "(Lcom/example/stackyard/stackyard/records/Resource;)Z"⟩ : MethodName) prog_55_method_2_code 2 (some .boolean) :: ws) R_own_rm5) (fun a U => a = #[(.ref a1), (.ref a2)] ∧ Z.Warmed39 U.vm ∧ U.heap = h0) (fun _ _ _ _ _ => True) (fun _ U o U' => ∃ v L, o = .returned v ∧ Q_own_rm5 Z a1 a2 q1 p1 q2 p2 h0 n0 v U'.heap L ∧ FrameEnd U o U' L R_own_rm5.cells R_own_rm5.slots) := by
  refine MetFree.of_bodySF (plainFor_of_name own_pn2) hisR ?_
  intro p e s m args below meth c s₁ Bd hml0 hP hK
  obtain ⟨rfl, hZ, hh⟩ := hP
  have hx := Bd.exec
  have hby := Bd.bytes
  have hml : c.maxLocals = 2 := hml0
  have hown : s.vm.findClass "com/example/stackyard/stackyard/records/Resource" = some m.cls := findClass_of_methodNamed Bd.named
  have hnm := (name_of_methodNamed Bd.named Bd.method).1
  have X0 : Stand p l e R_own_rm5 s m #[(.ref a1), (.ref a2)] below meth c s₁ [] 0 0 := Stand.of_body Bd
  have e0 : s₁.heap = h0 := by rw [← hh, Bd.state]; rfl
  have N0 := Fr.nil n0
  have K0 : Keep h0 h0 [] := Keep.refl h0 []
  show own_Fin p e below s (Q_own_rm5 Z a1 a2 q1 p1 q2 p2 h0 n0) R_own_rm5.cells R_own_rm5.slots (s₁.setTop (entryFrame m #[(.ref a1), (.ref a2)] 2))
  refine own_go (fun _ k => castTop (ef_own_rm5 m a1 a2) k) ?_
  show own_Fin _ _ _ _ _ _ _ (s₁.setTop (mkF m 0 #[.val (.ref a1), .val (.ref a2)] []))
  refine own_go (B := s₁.setTop (mkF m 1 #[.val (.ref a1), .val (.ref a2)] [(.ref a1)])) (fun _ k => XS.aloadN X0.here hx rfl (hb hby d5_0) rfl rfl k) ?_
  obtain ⟨T1, X1, e1, st1⟩ := getF X0 hx hZ hown (host := "") (Or.inl (own_w hw 22 rfl)) Via.refl e0 P_F_a1_memory (g := (mkF m 1 #[.val (.ref a1), .val (.ref a2)] [(.ref a1)])) rfl rfl (hb hby d5_1)
  refine own_go (B := T1.setTop (mkF m 4 #[.val (.ref a1), .val (.ref a2)] [(.long q1)])) st1 ?_
  refine own_go (B := T1.setTop (mkF m 5 #[.val (.ref a1), .val (.ref a2)] [(.ref a2), (.long q1)])) (fun _ k => XS.aloadN X1.here hx rfl (hb hby d5_4) rfl rfl k) ?_
  obtain ⟨T2, X2, e2, st2⟩ := getF X1 hx hZ hown (host := "") (Or.inl (own_w hw 22 rfl)) Via.refl e1 P_F_a2_memory (g := (mkF m 5 #[.val (.ref a1), .val (.ref a2)] [(.ref a2), (.long q1)])) rfl rfl (hb hby d5_5)
  refine own_go (B := T2.setTop (mkF m 8 #[.val (.ref a1), .val (.ref a2)] [(.long q2), (.long q1)])) st2 ?_
  refine own_go (B := T2.setTop (mkF m 9 #[.val (.ref a1), .val (.ref a2)] [(.int (lcmpW q1 q2))])) (fun _ k => XS.lcmp X2.here hx rfl (hb hby d5_8) rfl k) ?_
  by_cases hc3 : q2 < q1
  · skip
    refine own_go (B := T2.setTop (mkF m 27 #[.val (.ref a1), .val (.ref a2)] [])) (fun _ k => XS.ifYes X2.here hx rfl (pc0 := 9) (pc' := 27) rfl (hb hby d5_9) rfl ((if0 _ _).trans (tlt ((lw_gt q1 q2).mpr hc3)).2.2.1) (by decide) (by decide) k) ?_
    refine own_go (B := T2.setTop (mkF m 28 #[.val (.ref a1), .val (.ref a2)] [(.int (0 : Int32))])) (fun _ k => XS.iconst X2.here hx rfl (hb hby d5_27) k) ?_
    exact own_retN X2 hx Bd.notSynchronized (t := .boolean) (w := (0 : Int32)) Bd.returns (by simp) (hb hby d5_28) e2 rfl ⟨(by rw [own_b0 (own_pl_rm5_1 q1 p1 q2 p2 hc3)]), N0, rfl⟩ (by decide) (by decide)
  · skip
    refine own_go (B := T2.setTop (mkF m 12 #[.val (.ref a1), .val (.ref a2)] [])) (fun _ k => XS.ifNo X2.here hx rfl (hb hby d5_9) rfl ((if0 _ _).trans (flt (mt (lw_gt q1 q2).mp hc3)).2.2.1) k) ?_
    refine own_go (B := T2.setTop (mkF m 13 #[.val (.ref a1), .val (.ref a2)] [(.ref a1)])) (fun _ k => XS.aloadN X2.here hx rfl (hb hby d5_12) rfl rfl k) ?_
    obtain ⟨T4, X4, e4, st4⟩ := getF X2 hx hZ hown (host := "") (Or.inl (own_w hw 24 rfl)) Via.refl e2 P_F_a1_vCores (g := (mkF m 13 #[.val (.ref a1), .val (.ref a2)] [(.ref a1)])) rfl rfl (hb hby d5_13)
    refine own_go (B := T4.setTop (mkF m 16 #[.val (.ref a1), .val (.ref a2)] [(.int p1)])) st4 ?_
    refine own_go (B := T4.setTop (mkF m 17 #[.val (.ref a1), .val (.ref a2)] [(.ref a2), (.int p1)])) (fun _ k => XS.aloadN X4.here hx rfl (hb hby d5_16) rfl rfl k) ?_
    obtain ⟨T5, X5, e5, st5⟩ := getF X4 hx hZ hown (host := "") (Or.inl (own_w hw 24 rfl)) Via.refl e4 P_F_a2_vCores (g := (mkF m 17 #[.val (.ref a1), .val (.ref a2)] [(.ref a2), (.int p1)])) rfl rfl (hb hby d5_17)
    refine own_go (B := T5.setTop (mkF m 20 #[.val (.ref a1), .val (.ref a2)] [(.int p2), (.int p1)])) st5 ?_
    by_cases hc6 : p2 < p1
    · skip
      refine own_go (B := T5.setTop (mkF m 27 #[.val (.ref a1), .val (.ref a2)] [])) (fun _ k => XS.icmpYes X5.here hx rfl (pc0 := 20) (pc' := 27) rfl (hb hby d5_20) rfl (tlt hc6).2.2.1 (by decide) (by decide) k) ?_
      refine own_go (B := T5.setTop (mkF m 28 #[.val (.ref a1), .val (.ref a2)] [(.int (0 : Int32))])) (fun _ k => XS.iconst X5.here hx rfl (hb hby d5_27) k) ?_
      exact own_retN X5 hx Bd.notSynchronized (t := .boolean) (w := (0 : Int32)) Bd.returns (by simp) (hb hby d5_28) e5 rfl ⟨(by rw [own_b0 (own_pl_rm5_2 q1 p1 q2 p2 hc3 hc6)]), N0, rfl⟩ (by decide) (by decide)
    · skip
      refine own_go (B := T5.setTop (mkF m 23 #[.val (.ref a1), .val (.ref a2)] [])) (fun _ k => XS.icmpNo X5.here hx rfl (hb hby d5_20) rfl (flt hc6).2.2.1 k) ?_
      refine own_go (B := T5.setTop (mkF m 24 #[.val (.ref a1), .val (.ref a2)] [(.int (1 : Int32))])) (fun _ k => XS.iconst X5.here hx rfl (hb hby d5_23) k) ?_
      refine own_go (B := T5.setTop (mkF m 28 #[.val (.ref a1), .val (.ref a2)] [(.int (1 : Int32))])) (fun _ k => XS.goto X5.here hx rfl (pc0 := 24) (pc' := 28) rfl (hb hby d5_24) (by decide) (by decide) k) ?_
      exact own_retN X5 hx Bd.notSynchronized (t := .boolean) (w := (1 : Int32)) Bd.returns (by simp) (hb hby d5_28) e5 rfl ⟨(by rw [own_b1 (own_pl_rm5_3 q1 p1 q2 p2 hc3 hc6)]), N0, rfl⟩ (by decide) (by decide)
theorem ef_own_rm0 (m : MethodId) (x0 : Int64) (x1 : Int32) (x2 : Int64) (x3 : Int32) (x4 : Int32) : entryFrame m #[(.long x0), (.int x1), (.long x2), (.int x3), (.int x4)] maxLocals = mkF m 0 #[.val (.long x0), .second, .val (.int x1), .val (.long x2), .second, .val (.int x3), .val (.int x4), .unset, .unset, .unset, .unset, .unset, .unset, .unset, .unset, .unset, .unset, .unset] [] := by first | (simp [entryFrame, mkF, argsToLocals, Value.category, maxLocals]; done) | rfl
set_option maxHeartbeats 2000000 in
theorem own_pl_rm0_1 (q1 : Int64) (p5 : Int32) (hc2 : (p5 &&& (1 : Int32)) = (0 : Int32)) : 0 ≤ (q1 &&& (9223372036854775807 : Int64)).toInt := by
  have : (0 : Int32).toInt = 0 := by decide
  have : (1 : Int32).toInt = 1 := by decide
  have : (9223372036854775807 : Int64).toInt = 9223372036854775807 := by decide
  have := rng32 p5
  have := rng32 (p5 &&& (1 : Int32))
  have := Jvm.Kit.i32_mask p5 (1 : Int32) (k := 1) (by decide) (by decide)
  have := rng64 q1
  have := rng64 (q1 &&& (9223372036854775807 : Int64))
  have := Jvm.Kit.i64_mask q1 (9223372036854775807 : Int64) (k := 63) (by decide) (by decide)
  try simp only [Int32.lt_iff_toInt_lt, Int32.le_iff_toInt_le, Int64.lt_iff_toInt_lt, Int64.le_iff_toInt_le, ← Int32.toInt_inj, ← Int64.toInt_inj] at *
  all_goals omega
set_option maxHeartbeats 2000000 in
theorem own_pl_rm0_2 (q3 : Int64) (p5 : Int32) (hc2 : ¬ ((p5 &&& (1 : Int32)) = (0 : Int32))) : 0 ≤ (q3 &&& (9223372036854775807 : Int64)).toInt := by
  have : (0 : Int32).toInt = 0 := by decide
  have : (1 : Int32).toInt = 1 := by decide
  have : (9223372036854775807 : Int64).toInt = 9223372036854775807 := by decide
  have := rng32 p5
  have := rng32 (p5 &&& (1 : Int32))
  have := Jvm.Kit.i32_mask p5 (1 : Int32) (k := 1) (by decide) (by decide)
  have := rng64 q3
  have := rng64 (q3 &&& (9223372036854775807 : Int64))
  have := Jvm.Kit.i64_mask q3 (9223372036854775807 : Int64) (k := 63) (by decide) (by decide)
  try simp only [Int32.lt_iff_toInt_lt, Int32.le_iff_toInt_le, Int64.lt_iff_toInt_lt, Int64.le_iff_toInt_le, ← Int32.toInt_inj, ← Int64.toInt_inj] at *
  all_goals omega
set_option maxHeartbeats 2000000 in
theorem own_pl_rm0_3 (p2 : Int32) (p5 : Int32) (rm : Int64) (hrm : 0 ≤ rm.toInt) (hc5 : (p5 &&& (2 : Int32)) = (0 : Int32)) : 0 ≤ (p2 &&& (2147483647 : Int32)).toInt := by
  have : (0 : Int32).toInt = 0 := by decide
  have : (2 : Int32).toInt = 2 := by decide
  have : (2147483647 : Int32).toInt = 2147483647 := by decide
  have := rng64 rm
  have := rng32 p5
  have := rng32 (p5 &&& (2 : Int32))
  have := rng32 p2
  have := rng32 (p2 &&& (2147483647 : Int32))
  have := Jvm.Kit.i32_mask p2 (2147483647 : Int32) (k := 31) (by decide) (by decide)
  try simp only [Int32.lt_iff_toInt_lt, Int32.le_iff_toInt_le, Int64.lt_iff_toInt_lt, Int64.le_iff_toInt_le, ← Int32.toInt_inj, ← Int64.toInt_inj] at *
  all_goals omega
set_option maxHeartbeats 2000000 in
theorem own_pl_rm0_4 (p4 : Int32) (p5 : Int32) (rm : Int64) (hrm : 0 ≤ rm.toInt) (hc5 : ¬ ((p5 &&& (2 : Int32)) = (0 : Int32))) : 0 ≤ (p4 &&& (2147483647 : Int32)).toInt := by
  have : (0 : Int32).toInt = 0 := by decide
  have : (2 : Int32).toInt = 2 := by decide
  have : (2147483647 : Int32).toInt = 2147483647 := by decide
  have := rng64 rm
  have := rng32 p5
  have := rng32 (p5 &&& (2 : Int32))
  have := rng32 p4
  have := rng32 (p4 &&& (2147483647 : Int32))
  have := Jvm.Kit.i32_mask p4 (2147483647 : Int32) (k := 31) (by decide) (by decide)
  try simp only [Int32.lt_iff_toInt_lt, Int32.le_iff_toInt_le, Int64.lt_iff_toInt_lt, Int64.le_iff_toInt_le, ← Int32.toInt_inj, ← Int64.toInt_inj] at *
  all_goals omega
set_option maxHeartbeats 2000000 in
theorem own_pl_rm0_5 (q1 : Int64) (rm : Int64) (rv : Int32) (hrm : 0 ≤ rm.toInt) (hrv : 0 ≤ rv.toInt) : 0 ≤ (q1 &&& (9223372036854775807 : Int64)).toInt := by
  have : (9223372036854775807 : Int64).toInt = 9223372036854775807 := by decide
  have := rng64 rm
  have := rng32 rv
  have := rng64 q1
  have := rng64 (q1 &&& (9223372036854775807 : Int64))
  have := Jvm.Kit.i64_mask q1 (9223372036854775807 : Int64) (k := 63) (by decide) (by decide)
  try simp only [Int32.lt_iff_toInt_lt, Int32.le_iff_toInt_le, Int64.lt_iff_toInt_lt, Int64.le_iff_toInt_le, ← Int32.toInt_inj, ← Int64.toInt_inj] at *
  all_goals omega
set_option maxHeartbeats 2000000 in
theorem own_pl_rm0_6 (p2 : Int32) (rm : Int64) (rv : Int32) (hrm : 0 ≤ rm.toInt) (hrv : 0 ≤ rv.toInt) : 0 ≤ (p2 &&& (2147483647 : Int32)).toInt := by
  have : (2147483647 : Int32).toInt = 2147483647 := by decide
  have := rng64 rm
  have := rng32 rv
  have := rng32 p2
  have := rng32 (p2 &&& (2147483647 : Int32))
  have := Jvm.Kit.i32_mask p2 (2147483647 : Int32) (k := 31) (by decide) (by decide)
  try simp only [Int32.lt_iff_toInt_lt, Int32.le_iff_toInt_le, Int64.lt_iff_toInt_lt, Int64.le_iff_toInt_le, ← Int32.toInt_inj, ← Int64.toInt_inj] at *
  all_goals omega
set_option maxHeartbeats 2000000 in
theorem own_pl_rm0_7 (q1 : Int64) (p2 : Int32) (rm : Int64) (rv : Int32) (hrm : 0 ≤ rm.toInt) (hrv : 0 ≤ rv.toInt) (hc32 : (rm - (q1 &&& (9223372036854775807 : Int64))) < (0 : Int64)) (hc33 : (rv - (p2 &&& (2147483647 : Int32))) < (0 : Int32)) : ¬ ((q1 &&& (9223372036854775807 : Int64)).toInt ≤ rm.toInt ∧ (p2 &&& (2147483647 : Int32)).toInt ≤ rv.toInt) := by
  have : (0 : Int32).toInt = 0 := by decide
  have : (2147483647 : Int32).toInt = 2147483647 := by decide
  have : (0 : Int64).toInt = 0 := by decide
  have : (9223372036854775807 : Int64).toInt = 9223372036854775807 := by decide
  have := rng64 rm
  have := rng32 rv
  have := rng64 q1
  have := rng64 (q1 &&& (9223372036854775807 : Int64))
  have := Jvm.Kit.i64_mask q1 (9223372036854775807 : Int64) (k := 63) (by decide) (by decide)
  have := rng64 (rm - (q1 &&& (9223372036854775807 : Int64)))
  have := c_lsub rm (q1 &&& (9223372036854775807 : Int64))
  have := rng32 p2
  have := rng32 (p2 &&& (2147483647 : Int32))
  have := Jvm.Kit.i32_mask p2 (2147483647 : Int32) (k := 31) (by decide) (by decide)
  have := rng32 (rv - (p2 &&& (2147483647 : Int32)))
  have := c_isub rv (p2 &&& (2147483647 : Int32))
  try simp only [Int32.lt_iff_toInt_lt, Int32.le_iff_toInt_le, Int64.lt_iff_toInt_lt, Int64.le_iff_toInt_le, ← Int32.toInt_inj, ← Int64.toInt_inj] at *
  all_goals omega
set_option maxHeartbeats 2000000 in
theorem own_pl_rm0_8 (q1 : Int64) (p2 : Int32) (rm : Int64) (rv : Int32) (hrm : 0 ≤ rm.toInt) (hrv : 0 ≤ rv.toInt) (hc32 : (rm - (q1 &&& (9223372036854775807 : Int64))) < (0 : Int64)) (hc33 : ¬ ((rv - (p2 &&& (2147483647 : Int32))) < (0 : Int32))) : ¬ ((q1 &&& (9223372036854775807 : Int64)).toInt ≤ rm.toInt ∧ (p2 &&& (2147483647 : Int32)).toInt ≤ rv.toInt) := by
  have : (0 : Int32).toInt = 0 := by decide
  have : (2147483647 : Int32).toInt = 2147483647 := by decide
  have : (0 : Int64).toInt = 0 := by decide
  have : (9223372036854775807 : Int64).toInt = 9223372036854775807 := by decide
  have := rng64 rm
  have := rng32 rv
  have := rng64 q1
  have := rng64 (q1 &&& (9223372036854775807 : Int64))
  have := Jvm.Kit.i64_mask q1 (9223372036854775807 : Int64) (k := 63) (by decide) (by decide)
  have := rng64 (rm - (q1 &&& (9223372036854775807 : Int64)))
  have := c_lsub rm (q1 &&& (9223372036854775807 : Int64))
  have := rng32 p2
  have := rng32 (p2 &&& (2147483647 : Int32))
  have := Jvm.Kit.i32_mask p2 (2147483647 : Int32) (k := 31) (by decide) (by decide)
  have := rng32 (rv - (p2 &&& (2147483647 : Int32)))
  have := c_isub rv (p2 &&& (2147483647 : Int32))
  try simp only [Int32.lt_iff_toInt_lt, Int32.le_iff_toInt_le, Int64.lt_iff_toInt_lt, Int64.le_iff_toInt_le, ← Int32.toInt_inj, ← Int64.toInt_inj] at *
  all_goals omega
set_option maxHeartbeats 2000000 in
theorem own_pl_rm0_9 (q1 : Int64) (p2 : Int32) (rm : Int64) (rv : Int32) (hrm : 0 ≤ rm.toInt) (hrv : 0 ≤ rv.toInt) (hc32 : ¬ ((rm - (q1 &&& (9223372036854775807 : Int64))) < (0 : Int64))) (hc42 : (rv - (p2 &&& (2147483647 : Int32))) < (0 : Int32)) : ¬ ((q1 &&& (9223372036854775807 : Int64)).toInt ≤ rm.toInt ∧ (p2 &&& (2147483647 : Int32)).toInt ≤ rv.toInt) := by
  have : (0 : Int32).toInt = 0 := by decide
  have : (2147483647 : Int32).toInt = 2147483647 := by decide
  have : (0 : Int64).toInt = 0 := by decide
  have : (9223372036854775807 : Int64).toInt = 9223372036854775807 := by decide
  have := rng64 rm
  have := rng32 rv
  have := rng64 q1
  have := rng64 (q1 &&& (9223372036854775807 : Int64))
  have := Jvm.Kit.i64_mask q1 (9223372036854775807 : Int64) (k := 63) (by decide) (by decide)
  have := rng64 (rm - (q1 &&& (9223372036854775807 : Int64)))
  have := c_lsub rm (q1 &&& (9223372036854775807 : Int64))
  have := rng32 p2
  have := rng32 (p2 &&& (2147483647 : Int32))
  have := Jvm.Kit.i32_mask p2 (2147483647 : Int32) (k := 31) (by decide) (by decide)
  have := rng32 (rv - (p2 &&& (2147483647 : Int32)))
  have := c_isub rv (p2 &&& (2147483647 : Int32))
  try simp only [Int32.lt_iff_toInt_lt, Int32.le_iff_toInt_le, Int64.lt_iff_toInt_lt, Int64.le_iff_toInt_le, ← Int32.toInt_inj, ← Int64.toInt_inj] at *
  all_goals omega
set_option maxHeartbeats 2000000 in
theorem own_pl_rm0_10 (q1 : Int64) (p2 : Int32) (rm : Int64) (rv : Int32) (hrm : 0 ≤ rm.toInt) (hrv : 0 ≤ rv.toInt) (hc32 : ¬ ((rm - (q1 &&& (9223372036854775807 : Int64))) < (0 : Int64))) (hc42 : ¬ ((rv - (p2 &&& (2147483647 : Int32))) < (0 : Int32))) : (q1 &&& (9223372036854775807 : Int64)).toInt ≤ rm.toInt ∧ (p2 &&& (2147483647 : Int32)).toInt ≤ rv.toInt := by
  have : (0 : Int32).toInt = 0 := by decide
  have : (2147483647 : Int32).toInt = 2147483647 := by decide
  have : (0 : Int64).toInt = 0 := by decide
  have : (9223372036854775807 : Int64).toInt = 9223372036854775807 := by decide
  have := rng64 rm
  have := rng32 rv
  have := rng64 q1
  have := rng64 (q1 &&& (9223372036854775807 : Int64))
  have := Jvm.Kit.i64_mask q1 (9223372036854775807 : Int64) (k := 63) (by decide) (by decide)
  have := rng64 (rm - (q1 &&& (9223372036854775807 : Int64)))
  have := c_lsub rm (q1 &&& (9223372036854775807 : Int64))
  have := rng32 p2
  have := rng32 (p2 &&& (2147483647 : Int32))
  have := Jvm.Kit.i32_mask p2 (2147483647 : Int32) (k := 31) (by decide) (by decide)
  have := rng32 (rv - (p2 &&& (2147483647 : Int32)))
  have := c_isub rv (p2 &&& (2147483647 : Int32))
  try simp only [Int32.lt_iff_toInt_lt, Int32.le_iff_toInt_le, Int64.lt_iff_toInt_lt, Int64.le_iff_toInt_le, ← Int32.toInt_inj, ← Int64.toInt_inj] at *
  all_goals omega
def Q_own_rm0 (Z : State) (q1 : Int64) (p2 : Int32) (q3 : Int64) (p4 : Int32) (p5 : Int32) (h0 : Heap) (n0 : Nat) (v : Option Value) (h : Heap) (L : List Loc) : Prop := v = some (.int (1 : Int32)) ∧ Fr n0 L ∧ Keep h0 h []
set_option maxRecDepth 65536 in
set_option maxHeartbeats 400000000 in
theorem own_rm0 (l : Launch) (Z : State) (a0 : Array Value) (hw : ∀ d ∈ tables_1, d.before a0 Z = true) (ws : List Jvm.Cond) (q1 : Int64) (p2 : Int32) (q3 : Int64) (p4 : Int32) (p5 : Int32) (h0 : Heap) (n0 : Nat) (Z0 : n0 ≤ h0.size)  :
    MetFree l x (head1 (Jvm.Cond.code x code maxLocals ret :: ws) room_1) (fun a U => a = #[(.long q1), (.int p2), (.long q3), (.int p4), (.int p5)] ∧ Z.Warmed39 U.vm ∧ U.heap = h0) (fun _ _ _ _ _ => True) (fun _ U o U' => ∃ v L, o = .returned v ∧ Q_own_rm0 Z q1 p2 q3 p4 p5 h0 n0 v U'.heap L ∧ FrameEnd U o U' L 2 4) := by
  refine MetFree.of_bodySF (plainFor_of_name own_pn1) hisR ?_
  intro p e s m args below meth c s₁ Bd hml0 hP hK
  obtain ⟨rfl, hZ, hh⟩ := hP
  have hx := Bd.exec
  have hby := Bd.bytes
  have hml : c.maxLocals = 18 := hml0
  have hown : s.vm.findClass "com/example/stackyard/stackyard/records/ResourceFitsInPinLaw" = some m.cls := findClass_of_methodNamed Bd.named
  have hnm := (name_of_methodNamed Bd.named Bd.method).1
  have X0 : Stand p l e room_1 s m #[(.long q1), (.int p2), (.long q3), (.int p4), (.int p5)] below meth c s₁ [] 0 0 := Stand.of_body Bd
  have e0 : s₁.heap = h0 := by rw [← hh, Bd.state]; rfl
  have N0 := Fr.nil n0
  have K0 : Keep h0 h0 [] := Keep.refl h0 []
  show own_Fin p e below s (Q_own_rm0 Z q1 p2 q3 p4 p5 h0 n0) 2 4 (s₁.setTop (entryFrame m #[(.long q1), (.int p2), (.long q3), (.int p4), (.int p5)] maxLocals))
  refine own_go (fun _ k => castTop (ef_own_rm0 m q1 p2 q3 p4 p5) k) ?_
  show own_Fin _ _ _ _ _ _ _ (s₁.setTop (mkF m 0 #[.val (.long q1), .second, .val (.int p2), .val (.long q3), .second, .val (.int p4), .val (.int p5), .unset, .unset, .unset, .unset, .unset, .unset, .unset, .unset, .unset, .unset, .unset] []))
  refine own_go (B := s₁.setTop (mkF m 1 #[.val (.long q1), .second, .val (.int p2), .val (.long q3), .second, .val (.int p4), .val (.int p5), .unset, .unset, .unset, .unset, .unset, .unset, .unset, .unset, .unset, .unset, .unset] [(.long q1)])) (fun _ k => XS.lloadN X0.here hx rfl (hb hby at_0) rfl  k) ?_
  refine own_go (B := s₁.setTop (mkF m 4 #[.val (.long q1), .second, .val (.int p2), .val (.long q3), .second, .val (.int p4), .val (.int p5), .unset, .unset, .unset, .unset, .unset, .unset, .unset, .unset, .unset, .unset, .unset] [(.long (9223372036854775807 : Int64)), (.long q1)])) (fun _ k => X0.ldc2Long hx hown (mvT hZ (own_w hw 0 rfl)) (g := (mkF m 1 #[.val (.long q1), .second, .val (.int p2), .val (.long q3), .second, .val (.int p4), .val (.int p5), .unset, .unset, .unset, .unset, .unset, .unset, .unset, .unset, .unset, .unset, .unset] [(.long q1)])) rfl (hb hby at_1) _ k) ?_
  refine own_go (B := s₁.setTop (mkF m 5 #[.val (.long q1), .second, .val (.int p2), .val (.long q3), .second, .val (.int p4), .val (.int p5), .unset, .unset, .unset, .unset, .unset, .unset, .unset, .unset, .unset, .unset, .unset] [(.long (q1 &&& (9223372036854775807 : Int64)))])) (fun _ k => XS.land X0.here hx rfl (hb hby at_4) rfl k) ?_
  refine own_go (B := s₁.setTop (mkF m 7 #[.val (.long q1), .second, .val (.int p2), .val (.long q3), .second, .val (.int p4), .val (.int p5), .val (.long (q1 &&& (9223372036854775807 : Int64))), .second, .unset, .unset, .unset, .unset, .unset, .unset, .unset, .unset, .unset] [])) (fun _ k => XS.lstore X0.here hx rfl (hb hby at_5) rfl (l' := #[.val (.long q1), .second, .val (.int p2), .val (.long q3), .second, .val (.int p4), .val (.int p5), .val (.long (q1 &&& (9223372036854775807 : Int64))), .second, .unset, .unset, .unset, .unset, .unset, .unset, .unset, .unset, .unset]) rfl k) ?_
  refine own_go (B := s₁.setTop (mkF m 8 #[.val (.long q1), .second, .val (.int p2), .val (.long q3), .second, .val (.int p4), .val (.int p5), .val (.long (q1 &&& (9223372036854775807 : Int64))), .second, .unset, .unset, .unset, .unset, .unset, .unset, .unset, .unset, .unset] [(.int p2)])) (fun _ k => XS.iloadN X0.here hx rfl (hb hby at_7) rfl  k) ?_
  refine own_go (B := s₁.setTop (mkF m 10 #[.val (.long q1), .second, .val (.int p2), .val (.long q3), .second, .val (.int p4), .val (.int p5), .val (.long (q1 &&& (9223372036854775807 : Int64))), .second, .unset, .unset, .unset, .unset, .unset, .unset, .unset, .unset, .unset] [(.int (2147483647 : Int32)), (.int p2)])) (fun _ k => X0.ldcInt hx hown (mvT hZ (own_w hw 1 rfl)) (g := (mkF m 8 #[.val (.long q1), .second, .val (.int p2), .val (.long q3), .second, .val (.int p4), .val (.int p5), .val (.long (q1 &&& (9223372036854775807 : Int64))), .second, .unset, .unset, .unset, .unset, .unset, .unset, .unset, .unset, .unset] [(.int p2)])) rfl (hb hby at_8) _ k) ?_
  refine own_go (B := s₁.setTop (mkF m 11 #[.val (.long q1), .second, .val (.int p2), .val (.long q3), .second, .val (.int p4), .val (.int p5), .val (.long (q1 &&& (9223372036854775807 : Int64))), .second, .unset, .unset, .unset, .unset, .unset, .unset, .unset, .unset, .unset] [(.int (p2 &&& (2147483647 : Int32)))])) (fun _ k => XS.iand X0.here hx rfl (hb hby at_10) rfl k) ?_
  refine own_go (B := s₁.setTop (mkF m 13 #[.val (.long q1), .second, .val (.int p2), .val (.long q3), .second, .val (.int p4), .val (.int p5), .val (.long (q1 &&& (9223372036854775807 : Int64))), .second, .val (.int (p2 &&& (2147483647 : Int32))), .unset, .unset, .unset, .unset, .unset, .unset, .unset, .unset] [])) (fun _ k => XS.istore X0.here hx rfl (hb hby at_11) rfl (l' := #[.val (.long q1), .second, .val (.int p2), .val (.long q3), .second, .val (.int p4), .val (.int p5), .val (.long (q1 &&& (9223372036854775807 : Int64))), .second, .val (.int (p2 &&& (2147483647 : Int32))), .unset, .unset, .unset, .unset, .unset, .unset, .unset, .unset]) rfl k) ?_
  have J1 : ∀ (TJ1 : State) (lJ1 : List Loc) (XJ1 : Stand p l e room_1 s m #[(.long q1), (.int p2), (.long q3), (.int p4), (.int p5)] below meth c TJ1 lJ1 0 0) (eJ1 : TJ1.heap = h0) (NJ1 : Fr n0 lJ1) (rm : Int64) (hrm : 0 ≤ rm.toInt), own_Fin p e below s (Q_own_rm0 Z q1 p2 q3 p4 p5 h0 n0) 2 4 (TJ1.setTop (mkF m 38 #[.val (.long q1), .second, .val (.int p2), .val (.long q3), .second, .val (.int p4), .val (.int p5), .val (.long (q1 &&& (9223372036854775807 : Int64))), .second, .val (.int (p2 &&& (2147483647 : Int32))), .val (.long rm), .second, .unset, .unset, .unset, .unset, .unset, .unset] [])) := by
    intro TJ1 lJ1 XJ1 eJ1 NJ1 rm hrm
    have J4 : ∀ (TJ4 : State) (lJ4 : List Loc) (XJ4 : Stand p l e room_1 s m #[(.long q1), (.int p2), (.long q3), (.int p4), (.int p5)] below meth c TJ4 lJ4 0 0) (eJ4 : TJ4.heap = h0) (NJ4 : Fr n0 lJ4) (rv : Int32) (hrv : 0 ≤ rv.toInt), own_Fin p e below s (Q_own_rm0 Z q1 p2 q3 p4 p5 h0 n0) 2 4 (TJ4.setTop (mkF m 64 #[.val (.long q1), .second, .val (.int p2), .val (.long q3), .second, .val (.int p4), .val (.int p5), .val (.long (q1 &&& (9223372036854775807 : Int64))), .second, .val (.int (p2 &&& (2147483647 : Int32))), .val (.long rm), .second, .val (.int rv), .unset, .unset, .unset, .unset, .unset] [])) := by
      intro TJ4 lJ4 XJ4 eJ4 NJ4 rv hrv
      obtain ⟨T7, h7, X7, e7, E7, A7, D7, -, st7⟩ := newO XJ4 hx hZ hown (own_w hw 8 rfl) (own_w hw 9 rfl) (own_w hw 10 rfl) eJ4 (g := (mkF m 64 #[.val (.long q1), .second, .val (.int p2), .val (.long q3), .second, .val (.int p4), .val (.int p5), .val (.long (q1 &&& (9223372036854775807 : Int64))), .second, .val (.int (p2 &&& (2147483647 : Int32))), .val (.long rm), .second, .val (.int rv), .unset, .unset, .unset, .unset, .unset] [])) rfl (hb hby at_64) (by decide) (by decide)
      obtain ⟨b7, g7⟩ : ∃ z, z = h0.size := ⟨_, rfl⟩
      rw [← g7] at A7 D7 st7
      have sz_b7 : h0.size ≤ b7 := Nat.le_trans K0.1 (Nat.le_of_eq g7.symm)
      have g_b7 : n0 ≤ b7 := Nat.le_trans Z0 sz_b7
      have F_memory_b7 : Fld Z h7 b7 "com/example/stackyard/stackyard/records/Resource" "memory" "J" (.long (0 : Int64)) := D7 (Or.inr (own_w hw 23 rfl)) (ty := .long) (by decide)
      have F_vCores_b7 : Fld Z h7 b7 "com/example/stackyard/stackyard/records/Resource" "vCores" "I" (.int (0 : Int32)) := D7 (Or.inr (own_w hw 25 rfl)) (ty := .int) (by decide)
      have K9 : Keep h0 h7 [] := K0.ext E7
      refine own_go (B := T7.setTop (mkF m 67 #[.val (.long q1), .second, .val (.int p2), .val (.long q3), .second, .val (.int p4), .val (.int p5), .val (.long (q1 &&& (9223372036854775807 : Int64))), .second, .val (.int (p2 &&& (2147483647 : Int32))), .val (.long rm), .second, .val (.int rv), .unset, .unset, .unset, .unset, .unset] [(.ref b7)])) st7 ?_
      refine own_go (B := T7.setTop (mkF m 68 #[.val (.long q1), .second, .val (.int p2), .val (.long q3), .second, .val (.int p4), .val (.int p5), .val (.long (q1 &&& (9223372036854775807 : Int64))), .second, .val (.int (p2 &&& (2147483647 : Int32))), .val (.long rm), .second, .val (.int rv), .unset, .unset, .unset, .unset, .unset] [(.ref b7), (.ref b7)])) (fun _ k => XS.dup X7.here hx rfl (hb hby at_67) rfl rfl k) ?_
      refine own_go (B := T7.setTop (mkF m 70 #[.val (.long q1), .second, .val (.int p2), .val (.long q3), .second, .val (.int p4), .val (.int p5), .val (.long (q1 &&& (9223372036854775807 : Int64))), .second, .val (.int (p2 &&& (2147483647 : Int32))), .val (.long rm), .second, .val (.int rv), .unset, .unset, .unset, .unset, .unset] [(.long (q1 &&& (9223372036854775807 : Int64))), (.ref b7), (.ref b7)])) (fun _ k => XS.lload X7.here hx rfl (hb hby at_68) rfl  k) ?_
      refine own_go (B := T7.setTop (mkF m 72 #[.val (.long q1), .second, .val (.int p2), .val (.long q3), .second, .val (.int p4), .val (.int p5), .val (.long (q1 &&& (9223372036854775807 : Int64))), .second, .val (.int (p2 &&& (2147483647 : Int32))), .val (.long rm), .second, .val (.int rv), .unset, .unset, .unset, .unset, .unset] [(.int (p2 &&& (2147483647 : Int32))), (.long (q1 &&& (9223372036854775807 : Int64))), (.ref b7), (.ref b7)])) (fun _ k => XS.iload X7.here hx rfl (hb hby at_70) rfl  k) ?_
      obtain ⟨_, _, ⟨T10, L10, k10, n10⟩, -, X10, ⟨Lc10, hQ10, l10, y10, z10⟩, st10⟩ := X7.specialBack hx (y := (⟨"com/example/stackyard/stackyard/records/Resource", "<init>", "(JI)V"⟩ : MethodName)) rfl hown (mvT hZ (own_w hw 11 rfl)) (mvT hZ (own_w hw 12 rfl)) (mvT hZ (own_w hw 13 rfl)) (by decide) (backOf (W := 1) (own_rm2 l Z a0 hw [] b7 (q1 &&& (9223372036854775807 : Int64)) (p2 &&& (2147483647 : Int32)) h7 n0 (Nat.le_trans Z0 K9.1) A7 F_memory_b7 F_vCores_b7 g_b7 (own_pl_rm0_5 q1 rm rv hrm hrv) (own_pl_rm0_6 p2 rm rv hrm hrv)) hZ (own_w hw 13 rfl) (own_w hw 10 rfl) (by decide) (by decide)) (g := (mkF m 72 #[.val (.long q1), .second, .val (.int p2), .val (.long q3), .second, .val (.int p4), .val (.int p5), .val (.long (q1 &&& (9223372036854775807 : Int64))), .second, .val (.int (p2 &&& (2147483647 : Int32))), .val (.long rm), .second, .val (.int rv), .unset, .unset, .unset, .unset, .unset] [(.int (p2 &&& (2147483647 : Int32))), (.long (q1 &&& (9223372036854775807 : Int64))), (.ref b7), (.ref b7)])) rfl (by rw [hml]; rfl) (Steps.refl _) (a := b7) (argsL := [(.long (q1 &&& (9223372036854775807 : Int64))), (.int (p2 &&& (2147483647 : Int32)))]) (rest := [(.ref b7)]) (lenOf own_pd3 rfl) rfl (by show 2 * 0 + _ ≤ _; exact Nat.le_of_eq rfl) (hb hby at_72) (fun _ _ => ⟨rfl, e7, (by decide : 1 + 0 ≤ _), (by decide : 2 + 0 ≤ _)⟩)
      dsimp only [Pt.U, Pt.locs, Pt.cells, Pt.slots] at X10 l10 y10 z10 st10 hQ10
      subst l10 y10 z10
      obtain ⟨rfl, N10q, K10q, Q10_0, Q10_1, Q10_2⟩ := hQ10
      have N10 := Fr.app NJ4 N10q
      have K15 : Keep h0 T10.heap [] := K9.trans K10q (allS (Or.inr sz_b7) all0)
      refine own_go (B := T10.setTop (mkF m 75 #[.val (.long q1), .second, .val (.int p2), .val (.long q3), .second, .val (.int p4), .val (.int p5), .val (.long (q1 &&& (9223372036854775807 : Int64))), .second, .val (.int (p2 &&& (2147483647 : Int32))), .val (.long rm), .second, .val (.int rv), .unset, .unset, .unset, .unset, .unset] [(.ref b7)])) (fun _ k => st10.trans k) ?_
      refine own_go (B := T10.setTop (mkF m 77 #[.val (.long q1), .second, .val (.int p2), .val (.long q3), .second, .val (.int p4), .val (.int p5), .val (.long (q1 &&& (9223372036854775807 : Int64))), .second, .val (.int (p2 &&& (2147483647 : Int32))), .val (.long rm), .second, .val (.int rv), .val (.ref b7), .unset, .unset, .unset, .unset] [])) (fun _ k => XS.astore X10.here hx rfl (hb hby at_75) rfl rfl (l' := #[.val (.long q1), .second, .val (.int p2), .val (.long q3), .second, .val (.int p4), .val (.int p5), .val (.long (q1 &&& (9223372036854775807 : Int64))), .second, .val (.int (p2 &&& (2147483647 : Int32))), .val (.long rm), .second, .val (.int rv), .val (.ref b7), .unset, .unset, .unset, .unset]) rfl k) ?_
      obtain ⟨T16, h16, X16, e16, E16, A16, D16, -, st16⟩ := newO X10 hx hZ hown (own_w hw 8 rfl) (own_w hw 9 rfl) (own_w hw 10 rfl) rfl (g := (mkF m 77 #[.val (.long q1), .second, .val (.int p2), .val (.long q3), .second, .val (.int p4), .val (.int p5), .val (.long (q1 &&& (9223372036854775807 : Int64))), .second, .val (.int (p2 &&& (2147483647 : Int32))), .val (.long rm), .second, .val (.int rv), .val (.ref b7), .unset, .unset, .unset, .unset] [])) rfl (hb hby at_77) (by decide) (by decide)
      obtain ⟨b16, g16⟩ : ∃ z, z = T10.heap.size := ⟨_, rfl⟩
      rw [← g16] at A16 D16 st16
      have ne_b7_b16_17 : b7 ≠ b16 := Nat.ne_of_lt (Nat.lt_of_lt_of_le Q10_0.lt (Nat.le_of_eq g16.symm))
      have sz_b16 : h0.size ≤ b16 := Nat.le_trans K15.1 (Nat.le_of_eq g16.symm)
      have g_b16 : n0 ≤ b16 := Nat.le_trans Z0 sz_b16
      have E_19 := Q10_0.ext E16
      have F_20 := Q10_1.ext E16
      have F_21 := Q10_2.ext E16
      have F_memory_b16 : Fld Z h16 b16 "com/example/stackyard/stackyard/records/Resource" "memory" "J" (.long (0 : Int64)) := D16 (Or.inr (own_w hw 23 rfl)) (ty := .long) (by decide)
      have F_vCores_b16 : Fld Z h16 b16 "com/example/stackyard/stackyard/records/Resource" "vCores" "I" (.int (0 : Int32)) := D16 (Or.inr (own_w hw 25 rfl)) (ty := .int) (by decide)
      have K22 : Keep h0 h16 [] := K15.ext E16
      refine own_go (B := T16.setTop (mkF m 80 #[.val (.long q1), .second, .val (.int p2), .val (.long q3), .second, .val (.int p4), .val (.int p5), .val (.long (q1 &&& (9223372036854775807 : Int64))), .second, .val (.int (p2 &&& (2147483647 : Int32))), .val (.long rm), .second, .val (.int rv), .val (.ref b7), .unset, .unset, .unset, .unset] [(.ref b16)])) st16 ?_
      refine own_go (B := T16.setTop (mkF m 81 #[.val (.long q1), .second, .val (.int p2), .val (.long q3), .second, .val (.int p4), .val (.int p5), .val (.long (q1 &&& (9223372036854775807 : Int64))), .second, .val (.int (p2 &&& (2147483647 : Int32))), .val (.long rm), .second, .val (.int rv), .val (.ref b7), .unset, .unset, .unset, .unset] [(.ref b16), (.ref b16)])) (fun _ k => XS.dup X16.here hx rfl (hb hby at_80) rfl rfl k) ?_
      refine own_go (B := T16.setTop (mkF m 83 #[.val (.long q1), .second, .val (.int p2), .val (.long q3), .second, .val (.int p4), .val (.int p5), .val (.long (q1 &&& (9223372036854775807 : Int64))), .second, .val (.int (p2 &&& (2147483647 : Int32))), .val (.long rm), .second, .val (.int rv), .val (.ref b7), .unset, .unset, .unset, .unset] [(.long rm), (.ref b16), (.ref b16)])) (fun _ k => XS.lload X16.here hx rfl (hb hby at_81) rfl  k) ?_
      refine own_go (B := T16.setTop (mkF m 85 #[.val (.long q1), .second, .val (.int p2), .val (.long q3), .second, .val (.int p4), .val (.int p5), .val (.long (q1 &&& (9223372036854775807 : Int64))), .second, .val (.int (p2 &&& (2147483647 : Int32))), .val (.long rm), .second, .val (.int rv), .val (.ref b7), .unset, .unset, .unset, .unset] [(.int rv), (.long rm), (.ref b16), (.ref b16)])) (fun _ k => XS.iload X16.here hx rfl (hb hby at_83) rfl  k) ?_
      obtain ⟨_, _, ⟨T23, L23, k23, n23⟩, -, X23, ⟨Lc23, hQ23, l23, y23, z23⟩, st23⟩ := X16.specialBack hx (y := (⟨"com/example/stackyard/stackyard/records/Resource", "<init>", "(JI)V"⟩ : MethodName)) rfl hown (mvT hZ (own_w hw 11 rfl)) (mvT hZ (own_w hw 12 rfl)) (mvT hZ (own_w hw 13 rfl)) (by decide) (backOf (W := 1) (own_rm2 l Z a0 hw [] b16 rm rv h16 n0 (Nat.le_trans Z0 K22.1) A16 F_memory_b16 F_vCores_b16 g_b16 hrm hrv) hZ (own_w hw 13 rfl) (own_w hw 10 rfl) (by decide) (by decide)) (g := (mkF m 85 #[.val (.long q1), .second, .val (.int p2), .val (.long q3), .second, .val (.int p4), .val (.int p5), .val (.long (q1 &&& (9223372036854775807 : Int64))), .second, .val (.int (p2 &&& (2147483647 : Int32))), .val (.long rm), .second, .val (.int rv), .val (.ref b7), .unset, .unset, .unset, .unset] [(.int rv), (.long rm), (.ref b16), (.ref b16)])) rfl (by rw [hml]; rfl) (Steps.refl _) (a := b16) (argsL := [(.long rm), (.int rv)]) (rest := [(.ref b16)]) (lenOf own_pd3 rfl) rfl (by show 2 * 0 + _ ≤ _; exact Nat.le_of_eq rfl) (hb hby at_85) (fun _ _ => ⟨rfl, e16, (by decide : 2 + 0 ≤ _), (by decide : 4 + 0 ≤ _)⟩)
      dsimp only [Pt.U, Pt.locs, Pt.cells, Pt.slots] at X23 l23 y23 z23 st23 hQ23
      subst l23 y23 z23
      obtain ⟨rfl, N23q, K23q, Q23_0, Q23_1, Q23_2⟩ := hQ23
      have N23 := Fr.app N10 N23q
      have E_25 := E_19.keep K23q
      have F_26 := F_20.keep K23q (ninS ne_b7_b16_17 nin0)
      have F_27 := F_21.keep K23q (ninS ne_b7_b16_17 nin0)
      have K31 : Keep h0 T23.heap [] := K22.trans K23q (allS (Or.inr sz_b16) all0)
      refine own_go (B := T23.setTop (mkF m 88 #[.val (.long q1), .second, .val (.int p2), .val (.long q3), .second, .val (.int p4), .val (.int p5), .val (.long (q1 &&& (9223372036854775807 : Int64))), .second, .val (.int (p2 &&& (2147483647 : Int32))), .val (.long rm), .second, .val (.int rv), .val (.ref b7), .unset, .unset, .unset, .unset] [(.ref b16)])) (fun _ k => st23.trans k) ?_
      refine own_go (B := T23.setTop (mkF m 90 #[.val (.long q1), .second, .val (.int p2), .val (.long q3), .second, .val (.int p4), .val (.int p5), .val (.long (q1 &&& (9223372036854775807 : Int64))), .second, .val (.int (p2 &&& (2147483647 : Int32))), .val (.long rm), .second, .val (.int rv), .val (.ref b7), .val (.ref b16), .unset, .unset, .unset] [])) (fun _ k => XS.astore X23.here hx rfl (hb hby at_88) rfl rfl (l' := #[.val (.long q1), .second, .val (.int p2), .val (.long q3), .second, .val (.int p4), .val (.int p5), .val (.long (q1 &&& (9223372036854775807 : Int64))), .second, .val (.int (p2 &&& (2147483647 : Int32))), .val (.long rm), .second, .val (.int rv), .val (.ref b7), .val (.ref b16), .unset, .unset, .unset]) rfl k) ?_
      refine own_go (B := T23.setTop (mkF m 92 #[.val (.long q1), .second, .val (.int p2), .val (.long q3), .second, .val (.int p4), .val (.int p5), .val (.long (q1 &&& (9223372036854775807 : Int64))), .second, .val (.int (p2 &&& (2147483647 : Int32))), .val (.long rm), .second, .val (.int rv), .val (.ref b7), .val (.ref b16), .unset, .unset, .unset] [(.long rm)])) (fun _ k => XS.lload X23.here hx rfl (hb hby at_90) rfl  k) ?_
      refine own_go (B := T23.setTop (mkF m 94 #[.val (.long q1), .second, .val (.int p2), .val (.long q3), .second, .val (.int p4), .val (.int p5), .val (.long (q1 &&& (9223372036854775807 : Int64))), .second, .val (.int (p2 &&& (2147483647 : Int32))), .val (.long rm), .second, .val (.int rv), .val (.ref b7), .val (.ref b16), .unset, .unset, .unset] [(.long (q1 &&& (9223372036854775807 : Int64))), (.long rm)])) (fun _ k => XS.lload X23.here hx rfl (hb hby at_92) rfl  k) ?_
      refine own_go (B := T23.setTop (mkF m 95 #[.val (.long q1), .second, .val (.int p2), .val (.long q3), .second, .val (.int p4), .val (.int p5), .val (.long (q1 &&& (9223372036854775807 : Int64))), .second, .val (.int (p2 &&& (2147483647 : Int32))), .val (.long rm), .second, .val (.int rv), .val (.ref b7), .val (.ref b16), .unset, .unset, .unset] [(.long (rm - (q1 &&& (9223372036854775807 : Int64))))])) (fun _ k => XS.lsub X23.here hx rfl (hb hby at_94) rfl k) ?_
      refine own_go (B := T23.setTop (mkF m 96 #[.val (.long q1), .second, .val (.int p2), .val (.long q3), .second, .val (.int p4), .val (.int p5), .val (.long (q1 &&& (9223372036854775807 : Int64))), .second, .val (.int (p2 &&& (2147483647 : Int32))), .val (.long rm), .second, .val (.int rv), .val (.ref b7), .val (.ref b16), .unset, .unset, .unset] [(.long (0 : Int64)), (.long (rm - (q1 &&& (9223372036854775807 : Int64))))])) (fun _ k => XS.lconst X23.here hx rfl (hb hby at_95) k) ?_
      refine own_go (B := T23.setTop (mkF m 97 #[.val (.long q1), .second, .val (.int p2), .val (.long q3), .second, .val (.int p4), .val (.int p5), .val (.long (q1 &&& (9223372036854775807 : Int64))), .second, .val (.int (p2 &&& (2147483647 : Int32))), .val (.long rm), .second, .val (.int rv), .val (.ref b7), .val (.ref b16), .unset, .unset, .unset] [(.int (lcmpW (rm - (q1 &&& (9223372036854775807 : Int64))) (0 : Int64)))])) (fun _ k => XS.lcmp X23.here hx rfl (hb hby at_96) rfl k) ?_
      by_cases hc32 : (rm - (q1 &&& (9223372036854775807 : Int64))) < (0 : Int64)
      · skip
        refine own_go (B := T23.setTop (mkF m 104 #[.val (.long q1), .second, .val (.int p2), .val (.long q3), .second, .val (.int p4), .val (.int p5), .val (.long (q1 &&& (9223372036854775807 : Int64))), .second, .val (.int (p2 &&& (2147483647 : Int32))), .val (.long rm), .second, .val (.int rv), .val (.ref b7), .val (.ref b16), .unset, .unset, .unset] [])) (fun _ k => XS.ifYes X23.here hx rfl (pc0 := 97) (pc' := 104) rfl (hb hby at_97) rfl ((if0 _ _).trans (tlt ((lw_lt (rm - (q1 &&& (9223372036854775807 : Int64))) (0 : Int64)).mpr hc32)).1) (by decide) (by decide) k) ?_
        refine own_go (B := T23.setTop (mkF m 105 #[.val (.long q1), .second, .val (.int p2), .val (.long q3), .second, .val (.int p4), .val (.int p5), .val (.long (q1 &&& (9223372036854775807 : Int64))), .second, .val (.int (p2 &&& (2147483647 : Int32))), .val (.long rm), .second, .val (.int rv), .val (.ref b7), .val (.ref b16), .unset, .unset, .unset] [(.int (0 : Int32))])) (fun _ k => XS.iconst X23.here hx rfl (hb hby at_104) k) ?_
        refine own_go (B := T23.setTop (mkF m 107 #[.val (.long q1), .second, .val (.int p2), .val (.long q3), .second, .val (.int p4), .val (.int p5), .val (.long (q1 &&& (9223372036854775807 : Int64))), .second, .val (.int (p2 &&& (2147483647 : Int32))), .val (.long rm), .second, .val (.int rv), .val (.ref b7), .val (.ref b16), .val (.int (0 : Int32)), .unset, .unset] [])) (fun _ k => XS.istore X23.here hx rfl (hb hby at_105) rfl (l' := #[.val (.long q1), .second, .val (.int p2), .val (.long q3), .second, .val (.int p4), .val (.int p5), .val (.long (q1 &&& (9223372036854775807 : Int64))), .second, .val (.int (p2 &&& (2147483647 : Int32))), .val (.long rm), .second, .val (.int rv), .val (.ref b7), .val (.ref b16), .val (.int (0 : Int32)), .unset, .unset]) rfl k) ?_
        refine own_go (B := T23.setTop (mkF m 109 #[.val (.long q1), .second, .val (.int p2), .val (.long q3), .second, .val (.int p4), .val (.int p5), .val (.long (q1 &&& (9223372036854775807 : Int64))), .second, .val (.int (p2 &&& (2147483647 : Int32))), .val (.long rm), .second, .val (.int rv), .val (.ref b7), .val (.ref b16), .val (.int (0 : Int32)), .unset, .unset] [(.int rv)])) (fun _ k => XS.iload X23.here hx rfl (hb hby at_107) rfl  k) ?_
        refine own_go (B := T23.setTop (mkF m 111 #[.val (.long q1), .second, .val (.int p2), .val (.long q3), .second, .val (.int p4), .val (.int p5), .val (.long (q1 &&& (9223372036854775807 : Int64))), .second, .val (.int (p2 &&& (2147483647 : Int32))), .val (.long rm), .second, .val (.int rv), .val (.ref b7), .val (.ref b16), .val (.int (0 : Int32)), .unset, .unset] [(.int (p2 &&& (2147483647 : Int32))), (.int rv)])) (fun _ k => XS.iload X23.here hx rfl (hb hby at_109) rfl  k) ?_
        refine own_go (B := T23.setTop (mkF m 112 #[.val (.long q1), .second, .val (.int p2), .val (.long q3), .second, .val (.int p4), .val (.int p5), .val (.long (q1 &&& (9223372036854775807 : Int64))), .second, .val (.int (p2 &&& (2147483647 : Int32))), .val (.long rm), .second, .val (.int rv), .val (.ref b7), .val (.ref b16), .val (.int (0 : Int32)), .unset, .unset] [(.int (rv - (p2 &&& (2147483647 : Int32))))])) (fun _ k => XS.isub X23.here hx rfl (hb hby at_111) rfl k) ?_
        by_cases hc33 : (rv - (p2 &&& (2147483647 : Int32))) < (0 : Int32)
        · skip
          refine own_go (B := T23.setTop (mkF m 119 #[.val (.long q1), .second, .val (.int p2), .val (.long q3), .second, .val (.int p4), .val (.int p5), .val (.long (q1 &&& (9223372036854775807 : Int64))), .second, .val (.int (p2 &&& (2147483647 : Int32))), .val (.long rm), .second, .val (.int rv), .val (.ref b7), .val (.ref b16), .val (.int (0 : Int32)), .unset, .unset] [])) (fun _ k => XS.ifYes X23.here hx rfl (pc0 := 112) (pc' := 119) rfl (hb hby at_112) rfl ((if0 _ _).trans (tlt hc33).1) (by decide) (by decide) k) ?_
          refine own_go (B := T23.setTop (mkF m 120 #[.val (.long q1), .second, .val (.int p2), .val (.long q3), .second, .val (.int p4), .val (.int p5), .val (.long (q1 &&& (9223372036854775807 : Int64))), .second, .val (.int (p2 &&& (2147483647 : Int32))), .val (.long rm), .second, .val (.int rv), .val (.ref b7), .val (.ref b16), .val (.int (0 : Int32)), .unset, .unset] [(.int (0 : Int32))])) (fun _ k => XS.iconst X23.here hx rfl (hb hby at_119) k) ?_
          refine own_go (B := T23.setTop (mkF m 122 #[.val (.long q1), .second, .val (.int p2), .val (.long q3), .second, .val (.int p4), .val (.int p5), .val (.long (q1 &&& (9223372036854775807 : Int64))), .second, .val (.int (p2 &&& (2147483647 : Int32))), .val (.long rm), .second, .val (.int rv), .val (.ref b7), .val (.ref b16), .val (.int (0 : Int32)), .val (.int (0 : Int32)), .unset] [])) (fun _ k => XS.istore X23.here hx rfl (hb hby at_120) rfl (l' := #[.val (.long q1), .second, .val (.int p2), .val (.long q3), .second, .val (.int p4), .val (.int p5), .val (.long (q1 &&& (9223372036854775807 : Int64))), .second, .val (.int (p2 &&& (2147483647 : Int32))), .val (.long rm), .second, .val (.int rv), .val (.ref b7), .val (.ref b16), .val (.int (0 : Int32)), .val (.int (0 : Int32)), .unset]) rfl k) ?_
          refine own_go (B := T23.setTop (mkF m 124 #[.val (.long q1), .second, .val (.int p2), .val (.long q3), .second, .val (.int p4), .val (.int p5), .val (.long (q1 &&& (9223372036854775807 : Int64))), .second, .val (.int (p2 &&& (2147483647 : Int32))), .val (.long rm), .second, .val (.int rv), .val (.ref b7), .val (.ref b16), .val (.int (0 : Int32)), .val (.int (0 : Int32)), .unset] [(.int (0 : Int32))])) (fun _ k => XS.iload X23.here hx rfl (hb hby at_122) rfl  k) ?_
          have hc34 : (0 : Int32) = (0 : Int32) := by decide
          refine own_go (B := T23.setTop (mkF m 136 #[.val (.long q1), .second, .val (.int p2), .val (.long q3), .second, .val (.int p4), .val (.int p5), .val (.long (q1 &&& (9223372036854775807 : Int64))), .second, .val (.int (p2 &&& (2147483647 : Int32))), .val (.long rm), .second, .val (.int rv), .val (.ref b7), .val (.ref b16), .val (.int (0 : Int32)), .val (.int (0 : Int32)), .unset] [])) (fun _ k => XS.ifYes X23.here hx rfl (pc0 := 124) (pc' := 136) rfl (hb hby at_124) rfl ((if0 _ _).trans (teq hc34).1) (by decide) (by decide) k) ?_
          refine own_go (B := T23.setTop (mkF m 137 #[.val (.long q1), .second, .val (.int p2), .val (.long q3), .second, .val (.int p4), .val (.int p5), .val (.long (q1 &&& (9223372036854775807 : Int64))), .second, .val (.int (p2 &&& (2147483647 : Int32))), .val (.long rm), .second, .val (.int rv), .val (.ref b7), .val (.ref b16), .val (.int (0 : Int32)), .val (.int (0 : Int32)), .unset] [(.int (0 : Int32))])) (fun _ k => XS.iconst X23.here hx rfl (hb hby at_136) k) ?_
          refine own_go (B := T23.setTop (mkF m 139 #[.val (.long q1), .second, .val (.int p2), .val (.long q3), .second, .val (.int p4), .val (.int p5), .val (.long (q1 &&& (9223372036854775807 : Int64))), .second, .val (.int (p2 &&& (2147483647 : Int32))), .val (.long rm), .second, .val (.int rv), .val (.ref b7), .val (.ref b16), .val (.int (0 : Int32)), .val (.int (0 : Int32)), .val (.int (0 : Int32))] [])) (fun _ k => XS.istore X23.here hx rfl (hb hby at_137) rfl (l' := #[.val (.long q1), .second, .val (.int p2), .val (.long q3), .second, .val (.int p4), .val (.int p5), .val (.long (q1 &&& (9223372036854775807 : Int64))), .second, .val (.int (p2 &&& (2147483647 : Int32))), .val (.long rm), .second, .val (.int rv), .val (.ref b7), .val (.ref b16), .val (.int (0 : Int32)), .val (.int (0 : Int32)), .val (.int (0 : Int32))]) rfl k) ?_
          refine own_go (B := T23.setTop (mkF m 141 #[.val (.long q1), .second, .val (.int p2), .val (.long q3), .second, .val (.int p4), .val (.int p5), .val (.long (q1 &&& (9223372036854775807 : Int64))), .second, .val (.int (p2 &&& (2147483647 : Int32))), .val (.long rm), .second, .val (.int rv), .val (.ref b7), .val (.ref b16), .val (.int (0 : Int32)), .val (.int (0 : Int32)), .val (.int (0 : Int32))] [(.ref b7)])) (fun _ k => XS.aload X23.here hx rfl (hb hby at_139) rfl rfl k) ?_
          refine own_go (B := T23.setTop (mkF m 143 #[.val (.long q1), .second, .val (.int p2), .val (.long q3), .second, .val (.int p4), .val (.int p5), .val (.long (q1 &&& (9223372036854775807 : Int64))), .second, .val (.int (p2 &&& (2147483647 : Int32))), .val (.long rm), .second, .val (.int rv), .val (.ref b7), .val (.ref b16), .val (.int (0 : Int32)), .val (.int (0 : Int32)), .val (.int (0 : Int32))] [(.ref b16), (.ref b7)])) (fun _ k => XS.aload X23.here hx rfl (hb hby at_141) rfl rfl k) ?_
          obtain ⟨cq35, kq35, q35a, q35b, q35c⟩ := isOf hZ rfl E_25
          obtain ⟨_, _, ⟨T35, L35, k35, n35⟩, -, X35, ⟨Lc35, hQ35, l35, y35, z35⟩, st35⟩ := X23.virtualBack hx (y := (⟨"com/example/stackyard/stackyard/records/Resource", "fitsIn", "(Lcom/example/stackyard/stackyard/records/Resource;)Z"⟩ : MethodName)) (z := (⟨"com/example/stackyard/stackyard/records/Resource", "fitsIn", "(Lcom/example/stackyard/stackyard/records/Resource;)Z"⟩ : MethodName)) hown (mvT hZ (own_w hw 26 rfl)) (mvT hZ (own_w hw 27 rfl)) (notFace_of_selects (args := #[]) (mvT hZ (own_w hw 29 rfl))) (mvT hZ (own_w hw 29 rfl)) (mvT hZ (own_w hw 28 rfl)) (by decide) (backOf (W := 0) (own_rm5 l Z a0 hw [] b7 b16 (q1 &&& (9223372036854775807 : Int64)) (p2 &&& (2147483647 : Int32)) rm rv T23.heap n0 (Nat.le_trans Z0 K31.1) F_26 F_27 Q23_1 Q23_2) hZ (own_w hw 30 rfl) (own_w hw 10 rfl) (by decide) (by decide)) q35a q35c (g := (mkF m 143 #[.val (.long q1), .second, .val (.int p2), .val (.long q3), .second, .val (.int p4), .val (.int p5), .val (.long (q1 &&& (9223372036854775807 : Int64))), .second, .val (.int (p2 &&& (2147483647 : Int32))), .val (.long rm), .second, .val (.int rv), .val (.ref b7), .val (.ref b16), .val (.int (0 : Int32)), .val (.int (0 : Int32)), .val (.int (0 : Int32))] [(.ref b16), (.ref b7)])) rfl (by rw [hml]; rfl) (Steps.refl _) (argsL := [(.ref b16)]) (rest := []) (lenOf own_pd4 rfl) rfl (by show 2 * 0 + _ ≤ _; exact Nat.le_of_eq rfl) (hb hby at_143) (fun _ _ => ⟨rfl, rfl, (by decide : 2 + 0 ≤ _), (by decide : 4 + 0 ≤ _)⟩)
          dsimp only [Pt.U, Pt.locs, Pt.cells, Pt.slots] at X35 l35 y35 z35 st35 hQ35
          subst l35 y35 z35
          obtain ⟨rfl, N35q, e35⟩ := hQ35
          have N35 := Fr.app N23 N35q
          refine own_go (B := T35.setTop (mkF m 146 #[.val (.long q1), .second, .val (.int p2), .val (.long q3), .second, .val (.int p4), .val (.int p5), .val (.long (q1 &&& (9223372036854775807 : Int64))), .second, .val (.int (p2 &&& (2147483647 : Int32))), .val (.long rm), .second, .val (.int rv), .val (.ref b7), .val (.ref b16), .val (.int (0 : Int32)), .val (.int (0 : Int32)), .val (.int (0 : Int32))] [(.int (own_b ((q1 &&& (9223372036854775807 : Int64)).toInt ≤ rm.toInt ∧ (p2 &&& (2147483647 : Int32)).toInt ≤ rv.toInt)))])) (fun _ k => st35.trans k) ?_
          have hc36 : ¬ ((q1 &&& (9223372036854775807 : Int64)).toInt ≤ rm.toInt ∧ (p2 &&& (2147483647 : Int32)).toInt ≤ rv.toInt) := (own_pl_rm0_7 q1 p2 rm rv hrm hrv hc32 hc33)
          rw [own_b0 hc36]
          show own_Fin _ _ _ _ _ _ _ (T35.setTop (mkF m 146 #[.val (.long q1), .second, .val (.int p2), .val (.long q3), .second, .val (.int p4), .val (.int p5), .val (.long (q1 &&& (9223372036854775807 : Int64))), .second, .val (.int (p2 &&& (2147483647 : Int32))), .val (.long rm), .second, .val (.int rv), .val (.ref b7), .val (.ref b16), .val (.int (0 : Int32)), .val (.int (0 : Int32)), .val (.int (0 : Int32))] [(.int (0 : Int32))]))
          refine own_go (B := T35.setTop (mkF m 148 #[.val (.long q1), .second, .val (.int p2), .val (.long q3), .second, .val (.int p4), .val (.int p5), .val (.long (q1 &&& (9223372036854775807 : Int64))), .second, .val (.int (p2 &&& (2147483647 : Int32))), .val (.long rm), .second, .val (.int rv), .val (.ref b7), .val (.ref b16), .val (.int (0 : Int32)), .val (.int (0 : Int32)), .val (.int (0 : Int32))] [(.int (0 : Int32)), (.int (0 : Int32))])) (fun _ k => XS.iload X35.here hx rfl (hb hby at_146) rfl  k) ?_
          have hc37 : (0 : Int32) = (0 : Int32) := by decide
          refine own_go (B := T35.setTop (mkF m 151 #[.val (.long q1), .second, .val (.int p2), .val (.long q3), .second, .val (.int p4), .val (.int p5), .val (.long (q1 &&& (9223372036854775807 : Int64))), .second, .val (.int (p2 &&& (2147483647 : Int32))), .val (.long rm), .second, .val (.int rv), .val (.ref b7), .val (.ref b16), .val (.int (0 : Int32)), .val (.int (0 : Int32)), .val (.int (0 : Int32))] [])) (fun _ k => XS.icmpNo X35.here hx rfl (hb hby at_148) rfl (teq hc37).2 k) ?_
          refine own_go (B := T35.setTop (mkF m 152 #[.val (.long q1), .second, .val (.int p2), .val (.long q3), .second, .val (.int p4), .val (.int p5), .val (.long (q1 &&& (9223372036854775807 : Int64))), .second, .val (.int (p2 &&& (2147483647 : Int32))), .val (.long rm), .second, .val (.int rv), .val (.ref b7), .val (.ref b16), .val (.int (0 : Int32)), .val (.int (0 : Int32)), .val (.int (0 : Int32))] [(.int (1 : Int32))])) (fun _ k => XS.iconst X35.here hx rfl (hb hby at_151) k) ?_
          refine own_go (B := T35.setTop (mkF m 156 #[.val (.long q1), .second, .val (.int p2), .val (.long q3), .second, .val (.int p4), .val (.int p5), .val (.long (q1 &&& (9223372036854775807 : Int64))), .second, .val (.int (p2 &&& (2147483647 : Int32))), .val (.long rm), .second, .val (.int rv), .val (.ref b7), .val (.ref b16), .val (.int (0 : Int32)), .val (.int (0 : Int32)), .val (.int (0 : Int32))] [(.int (1 : Int32))])) (fun _ k => XS.goto X35.here hx rfl (pc0 := 152) (pc' := 156) rfl (hb hby at_152) (by decide) (by decide) k) ?_
          exact own_retN X35 hx Bd.notSynchronized (t := .boolean) (w := (1 : Int32)) Bd.returns (by simp) (hb hby at_156) e35 rfl ⟨rfl, N35, K31⟩ (by decide) (by decide)
        · skip
          refine own_go (B := T23.setTop (mkF m 115 #[.val (.long q1), .second, .val (.int p2), .val (.long q3), .second, .val (.int p4), .val (.int p5), .val (.long (q1 &&& (9223372036854775807 : Int64))), .second, .val (.int (p2 &&& (2147483647 : Int32))), .val (.long rm), .second, .val (.int rv), .val (.ref b7), .val (.ref b16), .val (.int (0 : Int32)), .unset, .unset] [])) (fun _ k => XS.ifNo X23.here hx rfl (hb hby at_112) rfl ((if0 _ _).trans (flt hc33).1) k) ?_
          refine own_go (B := T23.setTop (mkF m 116 #[.val (.long q1), .second, .val (.int p2), .val (.long q3), .second, .val (.int p4), .val (.int p5), .val (.long (q1 &&& (9223372036854775807 : Int64))), .second, .val (.int (p2 &&& (2147483647 : Int32))), .val (.long rm), .second, .val (.int rv), .val (.ref b7), .val (.ref b16), .val (.int (0 : Int32)), .unset, .unset] [(.int (1 : Int32))])) (fun _ k => XS.iconst X23.here hx rfl (hb hby at_115) k) ?_
          refine own_go (B := T23.setTop (mkF m 120 #[.val (.long q1), .second, .val (.int p2), .val (.long q3), .second, .val (.int p4), .val (.int p5), .val (.long (q1 &&& (9223372036854775807 : Int64))), .second, .val (.int (p2 &&& (2147483647 : Int32))), .val (.long rm), .second, .val (.int rv), .val (.ref b7), .val (.ref b16), .val (.int (0 : Int32)), .unset, .unset] [(.int (1 : Int32))])) (fun _ k => XS.goto X23.here hx rfl (pc0 := 116) (pc' := 120) rfl (hb hby at_116) (by decide) (by decide) k) ?_
          refine own_go (B := T23.setTop (mkF m 122 #[.val (.long q1), .second, .val (.int p2), .val (.long q3), .second, .val (.int p4), .val (.int p5), .val (.long (q1 &&& (9223372036854775807 : Int64))), .second, .val (.int (p2 &&& (2147483647 : Int32))), .val (.long rm), .second, .val (.int rv), .val (.ref b7), .val (.ref b16), .val (.int (0 : Int32)), .val (.int (1 : Int32)), .unset] [])) (fun _ k => XS.istore X23.here hx rfl (hb hby at_120) rfl (l' := #[.val (.long q1), .second, .val (.int p2), .val (.long q3), .second, .val (.int p4), .val (.int p5), .val (.long (q1 &&& (9223372036854775807 : Int64))), .second, .val (.int (p2 &&& (2147483647 : Int32))), .val (.long rm), .second, .val (.int rv), .val (.ref b7), .val (.ref b16), .val (.int (0 : Int32)), .val (.int (1 : Int32)), .unset]) rfl k) ?_
          refine own_go (B := T23.setTop (mkF m 124 #[.val (.long q1), .second, .val (.int p2), .val (.long q3), .second, .val (.int p4), .val (.int p5), .val (.long (q1 &&& (9223372036854775807 : Int64))), .second, .val (.int (p2 &&& (2147483647 : Int32))), .val (.long rm), .second, .val (.int rv), .val (.ref b7), .val (.ref b16), .val (.int (0 : Int32)), .val (.int (1 : Int32)), .unset] [(.int (0 : Int32))])) (fun _ k => XS.iload X23.here hx rfl (hb hby at_122) rfl  k) ?_
          have hc38 : (0 : Int32) = (0 : Int32) := by decide
          refine own_go (B := T23.setTop (mkF m 136 #[.val (.long q1), .second, .val (.int p2), .val (.long q3), .second, .val (.int p4), .val (.int p5), .val (.long (q1 &&& (9223372036854775807 : Int64))), .second, .val (.int (p2 &&& (2147483647 : Int32))), .val (.long rm), .second, .val (.int rv), .val (.ref b7), .val (.ref b16), .val (.int (0 : Int32)), .val (.int (1 : Int32)), .unset] [])) (fun _ k => XS.ifYes X23.here hx rfl (pc0 := 124) (pc' := 136) rfl (hb hby at_124) rfl ((if0 _ _).trans (teq hc38).1) (by decide) (by decide) k) ?_
          refine own_go (B := T23.setTop (mkF m 137 #[.val (.long q1), .second, .val (.int p2), .val (.long q3), .second, .val (.int p4), .val (.int p5), .val (.long (q1 &&& (9223372036854775807 : Int64))), .second, .val (.int (p2 &&& (2147483647 : Int32))), .val (.long rm), .second, .val (.int rv), .val (.ref b7), .val (.ref b16), .val (.int (0 : Int32)), .val (.int (1 : Int32)), .unset] [(.int (0 : Int32))])) (fun _ k => XS.iconst X23.here hx rfl (hb hby at_136) k) ?_
          refine own_go (B := T23.setTop (mkF m 139 #[.val (.long q1), .second, .val (.int p2), .val (.long q3), .second, .val (.int p4), .val (.int p5), .val (.long (q1 &&& (9223372036854775807 : Int64))), .second, .val (.int (p2 &&& (2147483647 : Int32))), .val (.long rm), .second, .val (.int rv), .val (.ref b7), .val (.ref b16), .val (.int (0 : Int32)), .val (.int (1 : Int32)), .val (.int (0 : Int32))] [])) (fun _ k => XS.istore X23.here hx rfl (hb hby at_137) rfl (l' := #[.val (.long q1), .second, .val (.int p2), .val (.long q3), .second, .val (.int p4), .val (.int p5), .val (.long (q1 &&& (9223372036854775807 : Int64))), .second, .val (.int (p2 &&& (2147483647 : Int32))), .val (.long rm), .second, .val (.int rv), .val (.ref b7), .val (.ref b16), .val (.int (0 : Int32)), .val (.int (1 : Int32)), .val (.int (0 : Int32))]) rfl k) ?_
          refine own_go (B := T23.setTop (mkF m 141 #[.val (.long q1), .second, .val (.int p2), .val (.long q3), .second, .val (.int p4), .val (.int p5), .val (.long (q1 &&& (9223372036854775807 : Int64))), .second, .val (.int (p2 &&& (2147483647 : Int32))), .val (.long rm), .second, .val (.int rv), .val (.ref b7), .val (.ref b16), .val (.int (0 : Int32)), .val (.int (1 : Int32)), .val (.int (0 : Int32))] [(.ref b7)])) (fun _ k => XS.aload X23.here hx rfl (hb hby at_139) rfl rfl k) ?_
          refine own_go (B := T23.setTop (mkF m 143 #[.val (.long q1), .second, .val (.int p2), .val (.long q3), .second, .val (.int p4), .val (.int p5), .val (.long (q1 &&& (9223372036854775807 : Int64))), .second, .val (.int (p2 &&& (2147483647 : Int32))), .val (.long rm), .second, .val (.int rv), .val (.ref b7), .val (.ref b16), .val (.int (0 : Int32)), .val (.int (1 : Int32)), .val (.int (0 : Int32))] [(.ref b16), (.ref b7)])) (fun _ k => XS.aload X23.here hx rfl (hb hby at_141) rfl rfl k) ?_
          obtain ⟨cq39, kq39, q39a, q39b, q39c⟩ := isOf hZ rfl E_25
          obtain ⟨_, _, ⟨T39, L39, k39, n39⟩, -, X39, ⟨Lc39, hQ39, l39, y39, z39⟩, st39⟩ := X23.virtualBack hx (y := (⟨"com/example/stackyard/stackyard/records/Resource", "fitsIn", "(Lcom/example/stackyard/stackyard/records/Resource;)Z"⟩ : MethodName)) (z := (⟨"com/example/stackyard/stackyard/records/Resource", "fitsIn", "(Lcom/example/stackyard/stackyard/records/Resource;)Z"⟩ : MethodName)) hown (mvT hZ (own_w hw 26 rfl)) (mvT hZ (own_w hw 27 rfl)) (notFace_of_selects (args := #[]) (mvT hZ (own_w hw 29 rfl))) (mvT hZ (own_w hw 29 rfl)) (mvT hZ (own_w hw 28 rfl)) (by decide) (backOf (W := 0) (own_rm5 l Z a0 hw [] b7 b16 (q1 &&& (9223372036854775807 : Int64)) (p2 &&& (2147483647 : Int32)) rm rv T23.heap n0 (Nat.le_trans Z0 K31.1) F_26 F_27 Q23_1 Q23_2) hZ (own_w hw 30 rfl) (own_w hw 10 rfl) (by decide) (by decide)) q39a q39c (g := (mkF m 143 #[.val (.long q1), .second, .val (.int p2), .val (.long q3), .second, .val (.int p4), .val (.int p5), .val (.long (q1 &&& (9223372036854775807 : Int64))), .second, .val (.int (p2 &&& (2147483647 : Int32))), .val (.long rm), .second, .val (.int rv), .val (.ref b7), .val (.ref b16), .val (.int (0 : Int32)), .val (.int (1 : Int32)), .val (.int (0 : Int32))] [(.ref b16), (.ref b7)])) rfl (by rw [hml]; rfl) (Steps.refl _) (argsL := [(.ref b16)]) (rest := []) (lenOf own_pd4 rfl) rfl (by show 2 * 0 + _ ≤ _; exact Nat.le_of_eq rfl) (hb hby at_143) (fun _ _ => ⟨rfl, rfl, (by decide : 2 + 0 ≤ _), (by decide : 4 + 0 ≤ _)⟩)
          dsimp only [Pt.U, Pt.locs, Pt.cells, Pt.slots] at X39 l39 y39 z39 st39 hQ39
          subst l39 y39 z39
          obtain ⟨rfl, N39q, e39⟩ := hQ39
          have N39 := Fr.app N23 N39q
          refine own_go (B := T39.setTop (mkF m 146 #[.val (.long q1), .second, .val (.int p2), .val (.long q3), .second, .val (.int p4), .val (.int p5), .val (.long (q1 &&& (9223372036854775807 : Int64))), .second, .val (.int (p2 &&& (2147483647 : Int32))), .val (.long rm), .second, .val (.int rv), .val (.ref b7), .val (.ref b16), .val (.int (0 : Int32)), .val (.int (1 : Int32)), .val (.int (0 : Int32))] [(.int (own_b ((q1 &&& (9223372036854775807 : Int64)).toInt ≤ rm.toInt ∧ (p2 &&& (2147483647 : Int32)).toInt ≤ rv.toInt)))])) (fun _ k => st39.trans k) ?_
          have hc40 : ¬ ((q1 &&& (9223372036854775807 : Int64)).toInt ≤ rm.toInt ∧ (p2 &&& (2147483647 : Int32)).toInt ≤ rv.toInt) := (own_pl_rm0_8 q1 p2 rm rv hrm hrv hc32 hc33)
          rw [own_b0 hc40]
          show own_Fin _ _ _ _ _ _ _ (T39.setTop (mkF m 146 #[.val (.long q1), .second, .val (.int p2), .val (.long q3), .second, .val (.int p4), .val (.int p5), .val (.long (q1 &&& (9223372036854775807 : Int64))), .second, .val (.int (p2 &&& (2147483647 : Int32))), .val (.long rm), .second, .val (.int rv), .val (.ref b7), .val (.ref b16), .val (.int (0 : Int32)), .val (.int (1 : Int32)), .val (.int (0 : Int32))] [(.int (0 : Int32))]))
          refine own_go (B := T39.setTop (mkF m 148 #[.val (.long q1), .second, .val (.int p2), .val (.long q3), .second, .val (.int p4), .val (.int p5), .val (.long (q1 &&& (9223372036854775807 : Int64))), .second, .val (.int (p2 &&& (2147483647 : Int32))), .val (.long rm), .second, .val (.int rv), .val (.ref b7), .val (.ref b16), .val (.int (0 : Int32)), .val (.int (1 : Int32)), .val (.int (0 : Int32))] [(.int (0 : Int32)), (.int (0 : Int32))])) (fun _ k => XS.iload X39.here hx rfl (hb hby at_146) rfl  k) ?_
          have hc41 : (0 : Int32) = (0 : Int32) := by decide
          refine own_go (B := T39.setTop (mkF m 151 #[.val (.long q1), .second, .val (.int p2), .val (.long q3), .second, .val (.int p4), .val (.int p5), .val (.long (q1 &&& (9223372036854775807 : Int64))), .second, .val (.int (p2 &&& (2147483647 : Int32))), .val (.long rm), .second, .val (.int rv), .val (.ref b7), .val (.ref b16), .val (.int (0 : Int32)), .val (.int (1 : Int32)), .val (.int (0 : Int32))] [])) (fun _ k => XS.icmpNo X39.here hx rfl (hb hby at_148) rfl (teq hc41).2 k) ?_
          refine own_go (B := T39.setTop (mkF m 152 #[.val (.long q1), .second, .val (.int p2), .val (.long q3), .second, .val (.int p4), .val (.int p5), .val (.long (q1 &&& (9223372036854775807 : Int64))), .second, .val (.int (p2 &&& (2147483647 : Int32))), .val (.long rm), .second, .val (.int rv), .val (.ref b7), .val (.ref b16), .val (.int (0 : Int32)), .val (.int (1 : Int32)), .val (.int (0 : Int32))] [(.int (1 : Int32))])) (fun _ k => XS.iconst X39.here hx rfl (hb hby at_151) k) ?_
          refine own_go (B := T39.setTop (mkF m 156 #[.val (.long q1), .second, .val (.int p2), .val (.long q3), .second, .val (.int p4), .val (.int p5), .val (.long (q1 &&& (9223372036854775807 : Int64))), .second, .val (.int (p2 &&& (2147483647 : Int32))), .val (.long rm), .second, .val (.int rv), .val (.ref b7), .val (.ref b16), .val (.int (0 : Int32)), .val (.int (1 : Int32)), .val (.int (0 : Int32))] [(.int (1 : Int32))])) (fun _ k => XS.goto X39.here hx rfl (pc0 := 152) (pc' := 156) rfl (hb hby at_152) (by decide) (by decide) k) ?_
          exact own_retN X39 hx Bd.notSynchronized (t := .boolean) (w := (1 : Int32)) Bd.returns (by simp) (hb hby at_156) e39 rfl ⟨rfl, N39, K31⟩ (by decide) (by decide)
      · skip
        refine own_go (B := T23.setTop (mkF m 100 #[.val (.long q1), .second, .val (.int p2), .val (.long q3), .second, .val (.int p4), .val (.int p5), .val (.long (q1 &&& (9223372036854775807 : Int64))), .second, .val (.int (p2 &&& (2147483647 : Int32))), .val (.long rm), .second, .val (.int rv), .val (.ref b7), .val (.ref b16), .unset, .unset, .unset] [])) (fun _ k => XS.ifNo X23.here hx rfl (hb hby at_97) rfl ((if0 _ _).trans (flt (mt (lw_lt (rm - (q1 &&& (9223372036854775807 : Int64))) (0 : Int64)).mp hc32)).1) k) ?_
        refine own_go (B := T23.setTop (mkF m 101 #[.val (.long q1), .second, .val (.int p2), .val (.long q3), .second, .val (.int p4), .val (.int p5), .val (.long (q1 &&& (9223372036854775807 : Int64))), .second, .val (.int (p2 &&& (2147483647 : Int32))), .val (.long rm), .second, .val (.int rv), .val (.ref b7), .val (.ref b16), .unset, .unset, .unset] [(.int (1 : Int32))])) (fun _ k => XS.iconst X23.here hx rfl (hb hby at_100) k) ?_
        refine own_go (B := T23.setTop (mkF m 105 #[.val (.long q1), .second, .val (.int p2), .val (.long q3), .second, .val (.int p4), .val (.int p5), .val (.long (q1 &&& (9223372036854775807 : Int64))), .second, .val (.int (p2 &&& (2147483647 : Int32))), .val (.long rm), .second, .val (.int rv), .val (.ref b7), .val (.ref b16), .unset, .unset, .unset] [(.int (1 : Int32))])) (fun _ k => XS.goto X23.here hx rfl (pc0 := 101) (pc' := 105) rfl (hb hby at_101) (by decide) (by decide) k) ?_
        refine own_go (B := T23.setTop (mkF m 107 #[.val (.long q1), .second, .val (.int p2), .val (.long q3), .second, .val (.int p4), .val (.int p5), .val (.long (q1 &&& (9223372036854775807 : Int64))), .second, .val (.int (p2 &&& (2147483647 : Int32))), .val (.long rm), .second, .val (.int rv), .val (.ref b7), .val (.ref b16), .val (.int (1 : Int32)), .unset, .unset] [])) (fun _ k => XS.istore X23.here hx rfl (hb hby at_105) rfl (l' := #[.val (.long q1), .second, .val (.int p2), .val (.long q3), .second, .val (.int p4), .val (.int p5), .val (.long (q1 &&& (9223372036854775807 : Int64))), .second, .val (.int (p2 &&& (2147483647 : Int32))), .val (.long rm), .second, .val (.int rv), .val (.ref b7), .val (.ref b16), .val (.int (1 : Int32)), .unset, .unset]) rfl k) ?_
        refine own_go (B := T23.setTop (mkF m 109 #[.val (.long q1), .second, .val (.int p2), .val (.long q3), .second, .val (.int p4), .val (.int p5), .val (.long (q1 &&& (9223372036854775807 : Int64))), .second, .val (.int (p2 &&& (2147483647 : Int32))), .val (.long rm), .second, .val (.int rv), .val (.ref b7), .val (.ref b16), .val (.int (1 : Int32)), .unset, .unset] [(.int rv)])) (fun _ k => XS.iload X23.here hx rfl (hb hby at_107) rfl  k) ?_
        refine own_go (B := T23.setTop (mkF m 111 #[.val (.long q1), .second, .val (.int p2), .val (.long q3), .second, .val (.int p4), .val (.int p5), .val (.long (q1 &&& (9223372036854775807 : Int64))), .second, .val (.int (p2 &&& (2147483647 : Int32))), .val (.long rm), .second, .val (.int rv), .val (.ref b7), .val (.ref b16), .val (.int (1 : Int32)), .unset, .unset] [(.int (p2 &&& (2147483647 : Int32))), (.int rv)])) (fun _ k => XS.iload X23.here hx rfl (hb hby at_109) rfl  k) ?_
        refine own_go (B := T23.setTop (mkF m 112 #[.val (.long q1), .second, .val (.int p2), .val (.long q3), .second, .val (.int p4), .val (.int p5), .val (.long (q1 &&& (9223372036854775807 : Int64))), .second, .val (.int (p2 &&& (2147483647 : Int32))), .val (.long rm), .second, .val (.int rv), .val (.ref b7), .val (.ref b16), .val (.int (1 : Int32)), .unset, .unset] [(.int (rv - (p2 &&& (2147483647 : Int32))))])) (fun _ k => XS.isub X23.here hx rfl (hb hby at_111) rfl k) ?_
        by_cases hc42 : (rv - (p2 &&& (2147483647 : Int32))) < (0 : Int32)
        · skip
          refine own_go (B := T23.setTop (mkF m 119 #[.val (.long q1), .second, .val (.int p2), .val (.long q3), .second, .val (.int p4), .val (.int p5), .val (.long (q1 &&& (9223372036854775807 : Int64))), .second, .val (.int (p2 &&& (2147483647 : Int32))), .val (.long rm), .second, .val (.int rv), .val (.ref b7), .val (.ref b16), .val (.int (1 : Int32)), .unset, .unset] [])) (fun _ k => XS.ifYes X23.here hx rfl (pc0 := 112) (pc' := 119) rfl (hb hby at_112) rfl ((if0 _ _).trans (tlt hc42).1) (by decide) (by decide) k) ?_
          refine own_go (B := T23.setTop (mkF m 120 #[.val (.long q1), .second, .val (.int p2), .val (.long q3), .second, .val (.int p4), .val (.int p5), .val (.long (q1 &&& (9223372036854775807 : Int64))), .second, .val (.int (p2 &&& (2147483647 : Int32))), .val (.long rm), .second, .val (.int rv), .val (.ref b7), .val (.ref b16), .val (.int (1 : Int32)), .unset, .unset] [(.int (0 : Int32))])) (fun _ k => XS.iconst X23.here hx rfl (hb hby at_119) k) ?_
          refine own_go (B := T23.setTop (mkF m 122 #[.val (.long q1), .second, .val (.int p2), .val (.long q3), .second, .val (.int p4), .val (.int p5), .val (.long (q1 &&& (9223372036854775807 : Int64))), .second, .val (.int (p2 &&& (2147483647 : Int32))), .val (.long rm), .second, .val (.int rv), .val (.ref b7), .val (.ref b16), .val (.int (1 : Int32)), .val (.int (0 : Int32)), .unset] [])) (fun _ k => XS.istore X23.here hx rfl (hb hby at_120) rfl (l' := #[.val (.long q1), .second, .val (.int p2), .val (.long q3), .second, .val (.int p4), .val (.int p5), .val (.long (q1 &&& (9223372036854775807 : Int64))), .second, .val (.int (p2 &&& (2147483647 : Int32))), .val (.long rm), .second, .val (.int rv), .val (.ref b7), .val (.ref b16), .val (.int (1 : Int32)), .val (.int (0 : Int32)), .unset]) rfl k) ?_
          refine own_go (B := T23.setTop (mkF m 124 #[.val (.long q1), .second, .val (.int p2), .val (.long q3), .second, .val (.int p4), .val (.int p5), .val (.long (q1 &&& (9223372036854775807 : Int64))), .second, .val (.int (p2 &&& (2147483647 : Int32))), .val (.long rm), .second, .val (.int rv), .val (.ref b7), .val (.ref b16), .val (.int (1 : Int32)), .val (.int (0 : Int32)), .unset] [(.int (1 : Int32))])) (fun _ k => XS.iload X23.here hx rfl (hb hby at_122) rfl  k) ?_
          have hc43 : ¬ ((1 : Int32) = (0 : Int32)) := by decide
          refine own_go (B := T23.setTop (mkF m 127 #[.val (.long q1), .second, .val (.int p2), .val (.long q3), .second, .val (.int p4), .val (.int p5), .val (.long (q1 &&& (9223372036854775807 : Int64))), .second, .val (.int (p2 &&& (2147483647 : Int32))), .val (.long rm), .second, .val (.int rv), .val (.ref b7), .val (.ref b16), .val (.int (1 : Int32)), .val (.int (0 : Int32)), .unset] [])) (fun _ k => XS.ifNo X23.here hx rfl (hb hby at_124) rfl ((if0 _ _).trans (feq hc43).1) k) ?_
          refine own_go (B := T23.setTop (mkF m 129 #[.val (.long q1), .second, .val (.int p2), .val (.long q3), .second, .val (.int p4), .val (.int p5), .val (.long (q1 &&& (9223372036854775807 : Int64))), .second, .val (.int (p2 &&& (2147483647 : Int32))), .val (.long rm), .second, .val (.int rv), .val (.ref b7), .val (.ref b16), .val (.int (1 : Int32)), .val (.int (0 : Int32)), .unset] [(.int (0 : Int32))])) (fun _ k => XS.iload X23.here hx rfl (hb hby at_127) rfl  k) ?_
          have hc44 : (0 : Int32) = (0 : Int32) := by decide
          refine own_go (B := T23.setTop (mkF m 136 #[.val (.long q1), .second, .val (.int p2), .val (.long q3), .second, .val (.int p4), .val (.int p5), .val (.long (q1 &&& (9223372036854775807 : Int64))), .second, .val (.int (p2 &&& (2147483647 : Int32))), .val (.long rm), .second, .val (.int rv), .val (.ref b7), .val (.ref b16), .val (.int (1 : Int32)), .val (.int (0 : Int32)), .unset] [])) (fun _ k => XS.ifYes X23.here hx rfl (pc0 := 129) (pc' := 136) rfl (hb hby at_129) rfl ((if0 _ _).trans (teq hc44).1) (by decide) (by decide) k) ?_
          refine own_go (B := T23.setTop (mkF m 137 #[.val (.long q1), .second, .val (.int p2), .val (.long q3), .second, .val (.int p4), .val (.int p5), .val (.long (q1 &&& (9223372036854775807 : Int64))), .second, .val (.int (p2 &&& (2147483647 : Int32))), .val (.long rm), .second, .val (.int rv), .val (.ref b7), .val (.ref b16), .val (.int (1 : Int32)), .val (.int (0 : Int32)), .unset] [(.int (0 : Int32))])) (fun _ k => XS.iconst X23.here hx rfl (hb hby at_136) k) ?_
          refine own_go (B := T23.setTop (mkF m 139 #[.val (.long q1), .second, .val (.int p2), .val (.long q3), .second, .val (.int p4), .val (.int p5), .val (.long (q1 &&& (9223372036854775807 : Int64))), .second, .val (.int (p2 &&& (2147483647 : Int32))), .val (.long rm), .second, .val (.int rv), .val (.ref b7), .val (.ref b16), .val (.int (1 : Int32)), .val (.int (0 : Int32)), .val (.int (0 : Int32))] [])) (fun _ k => XS.istore X23.here hx rfl (hb hby at_137) rfl (l' := #[.val (.long q1), .second, .val (.int p2), .val (.long q3), .second, .val (.int p4), .val (.int p5), .val (.long (q1 &&& (9223372036854775807 : Int64))), .second, .val (.int (p2 &&& (2147483647 : Int32))), .val (.long rm), .second, .val (.int rv), .val (.ref b7), .val (.ref b16), .val (.int (1 : Int32)), .val (.int (0 : Int32)), .val (.int (0 : Int32))]) rfl k) ?_
          refine own_go (B := T23.setTop (mkF m 141 #[.val (.long q1), .second, .val (.int p2), .val (.long q3), .second, .val (.int p4), .val (.int p5), .val (.long (q1 &&& (9223372036854775807 : Int64))), .second, .val (.int (p2 &&& (2147483647 : Int32))), .val (.long rm), .second, .val (.int rv), .val (.ref b7), .val (.ref b16), .val (.int (1 : Int32)), .val (.int (0 : Int32)), .val (.int (0 : Int32))] [(.ref b7)])) (fun _ k => XS.aload X23.here hx rfl (hb hby at_139) rfl rfl k) ?_
          refine own_go (B := T23.setTop (mkF m 143 #[.val (.long q1), .second, .val (.int p2), .val (.long q3), .second, .val (.int p4), .val (.int p5), .val (.long (q1 &&& (9223372036854775807 : Int64))), .second, .val (.int (p2 &&& (2147483647 : Int32))), .val (.long rm), .second, .val (.int rv), .val (.ref b7), .val (.ref b16), .val (.int (1 : Int32)), .val (.int (0 : Int32)), .val (.int (0 : Int32))] [(.ref b16), (.ref b7)])) (fun _ k => XS.aload X23.here hx rfl (hb hby at_141) rfl rfl k) ?_
          obtain ⟨cq45, kq45, q45a, q45b, q45c⟩ := isOf hZ rfl E_25
          obtain ⟨_, _, ⟨T45, L45, k45, n45⟩, -, X45, ⟨Lc45, hQ45, l45, y45, z45⟩, st45⟩ := X23.virtualBack hx (y := (⟨"com/example/stackyard/stackyard/records/Resource", "fitsIn", "(Lcom/example/stackyard/stackyard/records/Resource;)Z"⟩ : MethodName)) (z := (⟨"com/example/stackyard/stackyard/records/Resource", "fitsIn", "(Lcom/example/stackyard/stackyard/records/Resource;)Z"⟩ : MethodName)) hown (mvT hZ (own_w hw 26 rfl)) (mvT hZ (own_w hw 27 rfl)) (notFace_of_selects (args := #[]) (mvT hZ (own_w hw 29 rfl))) (mvT hZ (own_w hw 29 rfl)) (mvT hZ (own_w hw 28 rfl)) (by decide) (backOf (W := 0) (own_rm5 l Z a0 hw [] b7 b16 (q1 &&& (9223372036854775807 : Int64)) (p2 &&& (2147483647 : Int32)) rm rv T23.heap n0 (Nat.le_trans Z0 K31.1) F_26 F_27 Q23_1 Q23_2) hZ (own_w hw 30 rfl) (own_w hw 10 rfl) (by decide) (by decide)) q45a q45c (g := (mkF m 143 #[.val (.long q1), .second, .val (.int p2), .val (.long q3), .second, .val (.int p4), .val (.int p5), .val (.long (q1 &&& (9223372036854775807 : Int64))), .second, .val (.int (p2 &&& (2147483647 : Int32))), .val (.long rm), .second, .val (.int rv), .val (.ref b7), .val (.ref b16), .val (.int (1 : Int32)), .val (.int (0 : Int32)), .val (.int (0 : Int32))] [(.ref b16), (.ref b7)])) rfl (by rw [hml]; rfl) (Steps.refl _) (argsL := [(.ref b16)]) (rest := []) (lenOf own_pd4 rfl) rfl (by show 2 * 0 + _ ≤ _; exact Nat.le_of_eq rfl) (hb hby at_143) (fun _ _ => ⟨rfl, rfl, (by decide : 2 + 0 ≤ _), (by decide : 4 + 0 ≤ _)⟩)
          dsimp only [Pt.U, Pt.locs, Pt.cells, Pt.slots] at X45 l45 y45 z45 st45 hQ45
          subst l45 y45 z45
          obtain ⟨rfl, N45q, e45⟩ := hQ45
          have N45 := Fr.app N23 N45q
          refine own_go (B := T45.setTop (mkF m 146 #[.val (.long q1), .second, .val (.int p2), .val (.long q3), .second, .val (.int p4), .val (.int p5), .val (.long (q1 &&& (9223372036854775807 : Int64))), .second, .val (.int (p2 &&& (2147483647 : Int32))), .val (.long rm), .second, .val (.int rv), .val (.ref b7), .val (.ref b16), .val (.int (1 : Int32)), .val (.int (0 : Int32)), .val (.int (0 : Int32))] [(.int (own_b ((q1 &&& (9223372036854775807 : Int64)).toInt ≤ rm.toInt ∧ (p2 &&& (2147483647 : Int32)).toInt ≤ rv.toInt)))])) (fun _ k => st45.trans k) ?_
          have hc46 : ¬ ((q1 &&& (9223372036854775807 : Int64)).toInt ≤ rm.toInt ∧ (p2 &&& (2147483647 : Int32)).toInt ≤ rv.toInt) := (own_pl_rm0_9 q1 p2 rm rv hrm hrv hc32 hc42)
          rw [own_b0 hc46]
          show own_Fin _ _ _ _ _ _ _ (T45.setTop (mkF m 146 #[.val (.long q1), .second, .val (.int p2), .val (.long q3), .second, .val (.int p4), .val (.int p5), .val (.long (q1 &&& (9223372036854775807 : Int64))), .second, .val (.int (p2 &&& (2147483647 : Int32))), .val (.long rm), .second, .val (.int rv), .val (.ref b7), .val (.ref b16), .val (.int (1 : Int32)), .val (.int (0 : Int32)), .val (.int (0 : Int32))] [(.int (0 : Int32))]))
          refine own_go (B := T45.setTop (mkF m 148 #[.val (.long q1), .second, .val (.int p2), .val (.long q3), .second, .val (.int p4), .val (.int p5), .val (.long (q1 &&& (9223372036854775807 : Int64))), .second, .val (.int (p2 &&& (2147483647 : Int32))), .val (.long rm), .second, .val (.int rv), .val (.ref b7), .val (.ref b16), .val (.int (1 : Int32)), .val (.int (0 : Int32)), .val (.int (0 : Int32))] [(.int (0 : Int32)), (.int (0 : Int32))])) (fun _ k => XS.iload X45.here hx rfl (hb hby at_146) rfl  k) ?_
          have hc47 : (0 : Int32) = (0 : Int32) := by decide
          refine own_go (B := T45.setTop (mkF m 151 #[.val (.long q1), .second, .val (.int p2), .val (.long q3), .second, .val (.int p4), .val (.int p5), .val (.long (q1 &&& (9223372036854775807 : Int64))), .second, .val (.int (p2 &&& (2147483647 : Int32))), .val (.long rm), .second, .val (.int rv), .val (.ref b7), .val (.ref b16), .val (.int (1 : Int32)), .val (.int (0 : Int32)), .val (.int (0 : Int32))] [])) (fun _ k => XS.icmpNo X45.here hx rfl (hb hby at_148) rfl (teq hc47).2 k) ?_
          refine own_go (B := T45.setTop (mkF m 152 #[.val (.long q1), .second, .val (.int p2), .val (.long q3), .second, .val (.int p4), .val (.int p5), .val (.long (q1 &&& (9223372036854775807 : Int64))), .second, .val (.int (p2 &&& (2147483647 : Int32))), .val (.long rm), .second, .val (.int rv), .val (.ref b7), .val (.ref b16), .val (.int (1 : Int32)), .val (.int (0 : Int32)), .val (.int (0 : Int32))] [(.int (1 : Int32))])) (fun _ k => XS.iconst X45.here hx rfl (hb hby at_151) k) ?_
          refine own_go (B := T45.setTop (mkF m 156 #[.val (.long q1), .second, .val (.int p2), .val (.long q3), .second, .val (.int p4), .val (.int p5), .val (.long (q1 &&& (9223372036854775807 : Int64))), .second, .val (.int (p2 &&& (2147483647 : Int32))), .val (.long rm), .second, .val (.int rv), .val (.ref b7), .val (.ref b16), .val (.int (1 : Int32)), .val (.int (0 : Int32)), .val (.int (0 : Int32))] [(.int (1 : Int32))])) (fun _ k => XS.goto X45.here hx rfl (pc0 := 152) (pc' := 156) rfl (hb hby at_152) (by decide) (by decide) k) ?_
          exact own_retN X45 hx Bd.notSynchronized (t := .boolean) (w := (1 : Int32)) Bd.returns (by simp) (hb hby at_156) e45 rfl ⟨rfl, N45, K31⟩ (by decide) (by decide)
        · skip
          refine own_go (B := T23.setTop (mkF m 115 #[.val (.long q1), .second, .val (.int p2), .val (.long q3), .second, .val (.int p4), .val (.int p5), .val (.long (q1 &&& (9223372036854775807 : Int64))), .second, .val (.int (p2 &&& (2147483647 : Int32))), .val (.long rm), .second, .val (.int rv), .val (.ref b7), .val (.ref b16), .val (.int (1 : Int32)), .unset, .unset] [])) (fun _ k => XS.ifNo X23.here hx rfl (hb hby at_112) rfl ((if0 _ _).trans (flt hc42).1) k) ?_
          refine own_go (B := T23.setTop (mkF m 116 #[.val (.long q1), .second, .val (.int p2), .val (.long q3), .second, .val (.int p4), .val (.int p5), .val (.long (q1 &&& (9223372036854775807 : Int64))), .second, .val (.int (p2 &&& (2147483647 : Int32))), .val (.long rm), .second, .val (.int rv), .val (.ref b7), .val (.ref b16), .val (.int (1 : Int32)), .unset, .unset] [(.int (1 : Int32))])) (fun _ k => XS.iconst X23.here hx rfl (hb hby at_115) k) ?_
          refine own_go (B := T23.setTop (mkF m 120 #[.val (.long q1), .second, .val (.int p2), .val (.long q3), .second, .val (.int p4), .val (.int p5), .val (.long (q1 &&& (9223372036854775807 : Int64))), .second, .val (.int (p2 &&& (2147483647 : Int32))), .val (.long rm), .second, .val (.int rv), .val (.ref b7), .val (.ref b16), .val (.int (1 : Int32)), .unset, .unset] [(.int (1 : Int32))])) (fun _ k => XS.goto X23.here hx rfl (pc0 := 116) (pc' := 120) rfl (hb hby at_116) (by decide) (by decide) k) ?_
          refine own_go (B := T23.setTop (mkF m 122 #[.val (.long q1), .second, .val (.int p2), .val (.long q3), .second, .val (.int p4), .val (.int p5), .val (.long (q1 &&& (9223372036854775807 : Int64))), .second, .val (.int (p2 &&& (2147483647 : Int32))), .val (.long rm), .second, .val (.int rv), .val (.ref b7), .val (.ref b16), .val (.int (1 : Int32)), .val (.int (1 : Int32)), .unset] [])) (fun _ k => XS.istore X23.here hx rfl (hb hby at_120) rfl (l' := #[.val (.long q1), .second, .val (.int p2), .val (.long q3), .second, .val (.int p4), .val (.int p5), .val (.long (q1 &&& (9223372036854775807 : Int64))), .second, .val (.int (p2 &&& (2147483647 : Int32))), .val (.long rm), .second, .val (.int rv), .val (.ref b7), .val (.ref b16), .val (.int (1 : Int32)), .val (.int (1 : Int32)), .unset]) rfl k) ?_
          refine own_go (B := T23.setTop (mkF m 124 #[.val (.long q1), .second, .val (.int p2), .val (.long q3), .second, .val (.int p4), .val (.int p5), .val (.long (q1 &&& (9223372036854775807 : Int64))), .second, .val (.int (p2 &&& (2147483647 : Int32))), .val (.long rm), .second, .val (.int rv), .val (.ref b7), .val (.ref b16), .val (.int (1 : Int32)), .val (.int (1 : Int32)), .unset] [(.int (1 : Int32))])) (fun _ k => XS.iload X23.here hx rfl (hb hby at_122) rfl  k) ?_
          have hc48 : ¬ ((1 : Int32) = (0 : Int32)) := by decide
          refine own_go (B := T23.setTop (mkF m 127 #[.val (.long q1), .second, .val (.int p2), .val (.long q3), .second, .val (.int p4), .val (.int p5), .val (.long (q1 &&& (9223372036854775807 : Int64))), .second, .val (.int (p2 &&& (2147483647 : Int32))), .val (.long rm), .second, .val (.int rv), .val (.ref b7), .val (.ref b16), .val (.int (1 : Int32)), .val (.int (1 : Int32)), .unset] [])) (fun _ k => XS.ifNo X23.here hx rfl (hb hby at_124) rfl ((if0 _ _).trans (feq hc48).1) k) ?_
          refine own_go (B := T23.setTop (mkF m 129 #[.val (.long q1), .second, .val (.int p2), .val (.long q3), .second, .val (.int p4), .val (.int p5), .val (.long (q1 &&& (9223372036854775807 : Int64))), .second, .val (.int (p2 &&& (2147483647 : Int32))), .val (.long rm), .second, .val (.int rv), .val (.ref b7), .val (.ref b16), .val (.int (1 : Int32)), .val (.int (1 : Int32)), .unset] [(.int (1 : Int32))])) (fun _ k => XS.iload X23.here hx rfl (hb hby at_127) rfl  k) ?_
          have hc49 : ¬ ((1 : Int32) = (0 : Int32)) := by decide
          refine own_go (B := T23.setTop (mkF m 132 #[.val (.long q1), .second, .val (.int p2), .val (.long q3), .second, .val (.int p4), .val (.int p5), .val (.long (q1 &&& (9223372036854775807 : Int64))), .second, .val (.int (p2 &&& (2147483647 : Int32))), .val (.long rm), .second, .val (.int rv), .val (.ref b7), .val (.ref b16), .val (.int (1 : Int32)), .val (.int (1 : Int32)), .unset] [])) (fun _ k => XS.ifNo X23.here hx rfl (hb hby at_129) rfl ((if0 _ _).trans (feq hc49).1) k) ?_
          refine own_go (B := T23.setTop (mkF m 133 #[.val (.long q1), .second, .val (.int p2), .val (.long q3), .second, .val (.int p4), .val (.int p5), .val (.long (q1 &&& (9223372036854775807 : Int64))), .second, .val (.int (p2 &&& (2147483647 : Int32))), .val (.long rm), .second, .val (.int rv), .val (.ref b7), .val (.ref b16), .val (.int (1 : Int32)), .val (.int (1 : Int32)), .unset] [(.int (1 : Int32))])) (fun _ k => XS.iconst X23.here hx rfl (hb hby at_132) k) ?_
          refine own_go (B := T23.setTop (mkF m 137 #[.val (.long q1), .second, .val (.int p2), .val (.long q3), .second, .val (.int p4), .val (.int p5), .val (.long (q1 &&& (9223372036854775807 : Int64))), .second, .val (.int (p2 &&& (2147483647 : Int32))), .val (.long rm), .second, .val (.int rv), .val (.ref b7), .val (.ref b16), .val (.int (1 : Int32)), .val (.int (1 : Int32)), .unset] [(.int (1 : Int32))])) (fun _ k => XS.goto X23.here hx rfl (pc0 := 133) (pc' := 137) rfl (hb hby at_133) (by decide) (by decide) k) ?_
          refine own_go (B := T23.setTop (mkF m 139 #[.val (.long q1), .second, .val (.int p2), .val (.long q3), .second, .val (.int p4), .val (.int p5), .val (.long (q1 &&& (9223372036854775807 : Int64))), .second, .val (.int (p2 &&& (2147483647 : Int32))), .val (.long rm), .second, .val (.int rv), .val (.ref b7), .val (.ref b16), .val (.int (1 : Int32)), .val (.int (1 : Int32)), .val (.int (1 : Int32))] [])) (fun _ k => XS.istore X23.here hx rfl (hb hby at_137) rfl (l' := #[.val (.long q1), .second, .val (.int p2), .val (.long q3), .second, .val (.int p4), .val (.int p5), .val (.long (q1 &&& (9223372036854775807 : Int64))), .second, .val (.int (p2 &&& (2147483647 : Int32))), .val (.long rm), .second, .val (.int rv), .val (.ref b7), .val (.ref b16), .val (.int (1 : Int32)), .val (.int (1 : Int32)), .val (.int (1 : Int32))]) rfl k) ?_
          refine own_go (B := T23.setTop (mkF m 141 #[.val (.long q1), .second, .val (.int p2), .val (.long q3), .second, .val (.int p4), .val (.int p5), .val (.long (q1 &&& (9223372036854775807 : Int64))), .second, .val (.int (p2 &&& (2147483647 : Int32))), .val (.long rm), .second, .val (.int rv), .val (.ref b7), .val (.ref b16), .val (.int (1 : Int32)), .val (.int (1 : Int32)), .val (.int (1 : Int32))] [(.ref b7)])) (fun _ k => XS.aload X23.here hx rfl (hb hby at_139) rfl rfl k) ?_
          refine own_go (B := T23.setTop (mkF m 143 #[.val (.long q1), .second, .val (.int p2), .val (.long q3), .second, .val (.int p4), .val (.int p5), .val (.long (q1 &&& (9223372036854775807 : Int64))), .second, .val (.int (p2 &&& (2147483647 : Int32))), .val (.long rm), .second, .val (.int rv), .val (.ref b7), .val (.ref b16), .val (.int (1 : Int32)), .val (.int (1 : Int32)), .val (.int (1 : Int32))] [(.ref b16), (.ref b7)])) (fun _ k => XS.aload X23.here hx rfl (hb hby at_141) rfl rfl k) ?_
          obtain ⟨cq50, kq50, q50a, q50b, q50c⟩ := isOf hZ rfl E_25
          obtain ⟨_, _, ⟨T50, L50, k50, n50⟩, -, X50, ⟨Lc50, hQ50, l50, y50, z50⟩, st50⟩ := X23.virtualBack hx (y := (⟨"com/example/stackyard/stackyard/records/Resource", "fitsIn", "(Lcom/example/stackyard/stackyard/records/Resource;)Z"⟩ : MethodName)) (z := (⟨"com/example/stackyard/stackyard/records/Resource", "fitsIn", "(Lcom/example/stackyard/stackyard/records/Resource;)Z"⟩ : MethodName)) hown (mvT hZ (own_w hw 26 rfl)) (mvT hZ (own_w hw 27 rfl)) (notFace_of_selects (args := #[]) (mvT hZ (own_w hw 29 rfl))) (mvT hZ (own_w hw 29 rfl)) (mvT hZ (own_w hw 28 rfl)) (by decide) (backOf (W := 0) (own_rm5 l Z a0 hw [] b7 b16 (q1 &&& (9223372036854775807 : Int64)) (p2 &&& (2147483647 : Int32)) rm rv T23.heap n0 (Nat.le_trans Z0 K31.1) F_26 F_27 Q23_1 Q23_2) hZ (own_w hw 30 rfl) (own_w hw 10 rfl) (by decide) (by decide)) q50a q50c (g := (mkF m 143 #[.val (.long q1), .second, .val (.int p2), .val (.long q3), .second, .val (.int p4), .val (.int p5), .val (.long (q1 &&& (9223372036854775807 : Int64))), .second, .val (.int (p2 &&& (2147483647 : Int32))), .val (.long rm), .second, .val (.int rv), .val (.ref b7), .val (.ref b16), .val (.int (1 : Int32)), .val (.int (1 : Int32)), .val (.int (1 : Int32))] [(.ref b16), (.ref b7)])) rfl (by rw [hml]; rfl) (Steps.refl _) (argsL := [(.ref b16)]) (rest := []) (lenOf own_pd4 rfl) rfl (by show 2 * 0 + _ ≤ _; exact Nat.le_of_eq rfl) (hb hby at_143) (fun _ _ => ⟨rfl, rfl, (by decide : 2 + 0 ≤ _), (by decide : 4 + 0 ≤ _)⟩)
          dsimp only [Pt.U, Pt.locs, Pt.cells, Pt.slots] at X50 l50 y50 z50 st50 hQ50
          subst l50 y50 z50
          obtain ⟨rfl, N50q, e50⟩ := hQ50
          have N50 := Fr.app N23 N50q
          refine own_go (B := T50.setTop (mkF m 146 #[.val (.long q1), .second, .val (.int p2), .val (.long q3), .second, .val (.int p4), .val (.int p5), .val (.long (q1 &&& (9223372036854775807 : Int64))), .second, .val (.int (p2 &&& (2147483647 : Int32))), .val (.long rm), .second, .val (.int rv), .val (.ref b7), .val (.ref b16), .val (.int (1 : Int32)), .val (.int (1 : Int32)), .val (.int (1 : Int32))] [(.int (own_b ((q1 &&& (9223372036854775807 : Int64)).toInt ≤ rm.toInt ∧ (p2 &&& (2147483647 : Int32)).toInt ≤ rv.toInt)))])) (fun _ k => st50.trans k) ?_
          have hc51 : (q1 &&& (9223372036854775807 : Int64)).toInt ≤ rm.toInt ∧ (p2 &&& (2147483647 : Int32)).toInt ≤ rv.toInt := (own_pl_rm0_10 q1 p2 rm rv hrm hrv hc32 hc42)
          rw [own_b1 hc51]
          show own_Fin _ _ _ _ _ _ _ (T50.setTop (mkF m 146 #[.val (.long q1), .second, .val (.int p2), .val (.long q3), .second, .val (.int p4), .val (.int p5), .val (.long (q1 &&& (9223372036854775807 : Int64))), .second, .val (.int (p2 &&& (2147483647 : Int32))), .val (.long rm), .second, .val (.int rv), .val (.ref b7), .val (.ref b16), .val (.int (1 : Int32)), .val (.int (1 : Int32)), .val (.int (1 : Int32))] [(.int (1 : Int32))]))
          refine own_go (B := T50.setTop (mkF m 148 #[.val (.long q1), .second, .val (.int p2), .val (.long q3), .second, .val (.int p4), .val (.int p5), .val (.long (q1 &&& (9223372036854775807 : Int64))), .second, .val (.int (p2 &&& (2147483647 : Int32))), .val (.long rm), .second, .val (.int rv), .val (.ref b7), .val (.ref b16), .val (.int (1 : Int32)), .val (.int (1 : Int32)), .val (.int (1 : Int32))] [(.int (1 : Int32)), (.int (1 : Int32))])) (fun _ k => XS.iload X50.here hx rfl (hb hby at_146) rfl  k) ?_
          have hc52 : (1 : Int32) = (1 : Int32) := by decide
          refine own_go (B := T50.setTop (mkF m 151 #[.val (.long q1), .second, .val (.int p2), .val (.long q3), .second, .val (.int p4), .val (.int p5), .val (.long (q1 &&& (9223372036854775807 : Int64))), .second, .val (.int (p2 &&& (2147483647 : Int32))), .val (.long rm), .second, .val (.int rv), .val (.ref b7), .val (.ref b16), .val (.int (1 : Int32)), .val (.int (1 : Int32)), .val (.int (1 : Int32))] [])) (fun _ k => XS.icmpNo X50.here hx rfl (hb hby at_148) rfl (teq hc52).2 k) ?_
          refine own_go (B := T50.setTop (mkF m 152 #[.val (.long q1), .second, .val (.int p2), .val (.long q3), .second, .val (.int p4), .val (.int p5), .val (.long (q1 &&& (9223372036854775807 : Int64))), .second, .val (.int (p2 &&& (2147483647 : Int32))), .val (.long rm), .second, .val (.int rv), .val (.ref b7), .val (.ref b16), .val (.int (1 : Int32)), .val (.int (1 : Int32)), .val (.int (1 : Int32))] [(.int (1 : Int32))])) (fun _ k => XS.iconst X50.here hx rfl (hb hby at_151) k) ?_
          refine own_go (B := T50.setTop (mkF m 156 #[.val (.long q1), .second, .val (.int p2), .val (.long q3), .second, .val (.int p4), .val (.int p5), .val (.long (q1 &&& (9223372036854775807 : Int64))), .second, .val (.int (p2 &&& (2147483647 : Int32))), .val (.long rm), .second, .val (.int rv), .val (.ref b7), .val (.ref b16), .val (.int (1 : Int32)), .val (.int (1 : Int32)), .val (.int (1 : Int32))] [(.int (1 : Int32))])) (fun _ k => XS.goto X50.here hx rfl (pc0 := 152) (pc' := 156) rfl (hb hby at_152) (by decide) (by decide) k) ?_
          exact own_retN X50 hx Bd.notSynchronized (t := .boolean) (w := (1 : Int32)) Bd.returns (by simp) (hb hby at_156) e50 rfl ⟨rfl, N50, K31⟩ (by decide) (by decide)
    refine own_go (B := TJ1.setTop (mkF m 40 #[.val (.long q1), .second, .val (.int p2), .val (.long q3), .second, .val (.int p4), .val (.int p5), .val (.long (q1 &&& (9223372036854775807 : Int64))), .second, .val (.int (p2 &&& (2147483647 : Int32))), .val (.long rm), .second, .unset, .unset, .unset, .unset, .unset, .unset] [(.int p5)])) (fun _ k => XS.iload XJ1.here hx rfl (hb hby at_38) rfl  k) ?_
    refine own_go (B := TJ1.setTop (mkF m 41 #[.val (.long q1), .second, .val (.int p2), .val (.long q3), .second, .val (.int p4), .val (.int p5), .val (.long (q1 &&& (9223372036854775807 : Int64))), .second, .val (.int (p2 &&& (2147483647 : Int32))), .val (.long rm), .second, .unset, .unset, .unset, .unset, .unset, .unset] [(.int (2 : Int32)), (.int p5)])) (fun _ k => XS.iconst XJ1.here hx rfl (hb hby at_40) k) ?_
    refine own_go (B := TJ1.setTop (mkF m 42 #[.val (.long q1), .second, .val (.int p2), .val (.long q3), .second, .val (.int p4), .val (.int p5), .val (.long (q1 &&& (9223372036854775807 : Int64))), .second, .val (.int (p2 &&& (2147483647 : Int32))), .val (.long rm), .second, .unset, .unset, .unset, .unset, .unset, .unset] [(.int (p5 &&& (2 : Int32)))])) (fun _ k => XS.iand XJ1.here hx rfl (hb hby at_41) rfl k) ?_
    by_cases hc5 : (p5 &&& (2 : Int32)) = (0 : Int32)
    · skip
      refine own_go (B := TJ1.setTop (mkF m 55 #[.val (.long q1), .second, .val (.int p2), .val (.long q3), .second, .val (.int p4), .val (.int p5), .val (.long (q1 &&& (9223372036854775807 : Int64))), .second, .val (.int (p2 &&& (2147483647 : Int32))), .val (.long rm), .second, .unset, .unset, .unset, .unset, .unset, .unset] [])) (fun _ k => XS.ifYes XJ1.here hx rfl (pc0 := 42) (pc' := 55) rfl (hb hby at_42) rfl ((if0 _ _).trans (teq hc5).1) (by decide) (by decide) k) ?_
      refine own_go (B := TJ1.setTop (mkF m 57 #[.val (.long q1), .second, .val (.int p2), .val (.long q3), .second, .val (.int p4), .val (.int p5), .val (.long (q1 &&& (9223372036854775807 : Int64))), .second, .val (.int (p2 &&& (2147483647 : Int32))), .val (.long rm), .second, .unset, .unset, .unset, .unset, .unset, .unset] [(.int (p2 &&& (2147483647 : Int32)))])) (fun _ k => XS.iload XJ1.here hx rfl (hb hby at_55) rfl  k) ?_
      refine own_go (B := TJ1.setTop (mkF m 59 #[.val (.long q1), .second, .val (.int p2), .val (.long q3), .second, .val (.int p4), .val (.int p5), .val (.long (q1 &&& (9223372036854775807 : Int64))), .second, .val (.int (p2 &&& (2147483647 : Int32))), .val (.long rm), .second, .unset, .unset, .unset, .unset, .unset, .unset] [(.int p4), (.int (p2 &&& (2147483647 : Int32)))])) (fun _ k => XS.iload XJ1.here hx rfl (hb hby at_57) rfl  k) ?_
      obtain ⟨_, _, ⟨T6, L6, k6, n6⟩, -, X6, ⟨Lc6, hQ6, l6, y6, z6⟩, st6⟩ := Jvm.LawKit.callS XJ1 hx (y := (⟨"com/example/stackyard/stackyard/records/ResourceFitsInPinLaw", "nearInt", "(II)I"⟩ : MethodName)) hown (mvT hZ (own_w hw 31 rfl)) (mvT hZ (own_w hw 32 rfl)) (mvT hZ (own_w hw 4 rfl)) (mvT hZ (own_w hw 33 rfl)) (by decide) (backOf (W := 0) (own_rm6 l Z a0 hw [] (p2 &&& (2147483647 : Int32)) p4 h0 n0 (Nat.le_trans Z0 K0.1) (own_pl_rm0_3 p2 p5 rm hrm hc5)) hZ (own_w hw 33 rfl) (own_w hw 4 rfl) (by decide) (by decide)) (g := (mkF m 59 #[.val (.long q1), .second, .val (.int p2), .val (.long q3), .second, .val (.int p4), .val (.int p5), .val (.long (q1 &&& (9223372036854775807 : Int64))), .second, .val (.int (p2 &&& (2147483647 : Int32))), .val (.long rm), .second, .unset, .unset, .unset, .unset, .unset, .unset] [(.int p4), (.int (p2 &&& (2147483647 : Int32)))])) rfl (by rw [hml]; rfl) (argsL := [(.int (p2 &&& (2147483647 : Int32))), (.int p4)]) (rest := []) (lenOf own_pd2 rfl) rfl (by show 2 * 0 + _ ≤ _; exact Nat.le_of_eq rfl) (hb hby at_59) (fun _ _ => ⟨rfl, eJ1, (by decide : 0 + 0 ≤ _), (by decide : 0 + 0 ≤ _)⟩)
      dsimp only [Pt.U, Pt.locs, Pt.cells, Pt.slots] at X6 l6 y6 z6 st6 hQ6
      subst l6 y6 z6
      obtain ⟨r_6, rfl, N6q, e6, x6_0⟩ := hQ6
      have N6 := Fr.app NJ1 N6q
      refine own_go (B := T6.setTop (mkF m 62 #[.val (.long q1), .second, .val (.int p2), .val (.long q3), .second, .val (.int p4), .val (.int p5), .val (.long (q1 &&& (9223372036854775807 : Int64))), .second, .val (.int (p2 &&& (2147483647 : Int32))), .val (.long rm), .second, .unset, .unset, .unset, .unset, .unset, .unset] [(.int r_6)])) st6 ?_
      refine own_go (B := T6.setTop (mkF m 64 #[.val (.long q1), .second, .val (.int p2), .val (.long q3), .second, .val (.int p4), .val (.int p5), .val (.long (q1 &&& (9223372036854775807 : Int64))), .second, .val (.int (p2 &&& (2147483647 : Int32))), .val (.long rm), .second, .val (.int r_6), .unset, .unset, .unset, .unset, .unset] [])) (fun _ k => XS.istore X6.here hx rfl (hb hby at_62) rfl (l' := #[.val (.long q1), .second, .val (.int p2), .val (.long q3), .second, .val (.int p4), .val (.int p5), .val (.long (q1 &&& (9223372036854775807 : Int64))), .second, .val (.int (p2 &&& (2147483647 : Int32))), .val (.long rm), .second, .val (.int r_6), .unset, .unset, .unset, .unset, .unset]) rfl k) ?_
      exact J4 T6 _ X6 e6 N6 r_6 x6_0
    · skip
      refine own_go (B := TJ1.setTop (mkF m 45 #[.val (.long q1), .second, .val (.int p2), .val (.long q3), .second, .val (.int p4), .val (.int p5), .val (.long (q1 &&& (9223372036854775807 : Int64))), .second, .val (.int (p2 &&& (2147483647 : Int32))), .val (.long rm), .second, .unset, .unset, .unset, .unset, .unset, .unset] [])) (fun _ k => XS.ifNo XJ1.here hx rfl (hb hby at_42) rfl ((if0 _ _).trans (feq hc5).1) k) ?_
      refine own_go (B := TJ1.setTop (mkF m 47 #[.val (.long q1), .second, .val (.int p2), .val (.long q3), .second, .val (.int p4), .val (.int p5), .val (.long (q1 &&& (9223372036854775807 : Int64))), .second, .val (.int (p2 &&& (2147483647 : Int32))), .val (.long rm), .second, .unset, .unset, .unset, .unset, .unset, .unset] [(.int p4)])) (fun _ k => XS.iload XJ1.here hx rfl (hb hby at_45) rfl  k) ?_
      refine own_go (B := TJ1.setTop (mkF m 49 #[.val (.long q1), .second, .val (.int p2), .val (.long q3), .second, .val (.int p4), .val (.int p5), .val (.long (q1 &&& (9223372036854775807 : Int64))), .second, .val (.int (p2 &&& (2147483647 : Int32))), .val (.long rm), .second, .unset, .unset, .unset, .unset, .unset, .unset] [(.int (2147483647 : Int32)), (.int p4)])) (fun _ k => XJ1.ldcInt hx hown (mvT hZ (own_w hw 1 rfl)) (g := (mkF m 47 #[.val (.long q1), .second, .val (.int p2), .val (.long q3), .second, .val (.int p4), .val (.int p5), .val (.long (q1 &&& (9223372036854775807 : Int64))), .second, .val (.int (p2 &&& (2147483647 : Int32))), .val (.long rm), .second, .unset, .unset, .unset, .unset, .unset, .unset] [(.int p4)])) rfl (hb hby at_47) _ k) ?_
      refine own_go (B := TJ1.setTop (mkF m 50 #[.val (.long q1), .second, .val (.int p2), .val (.long q3), .second, .val (.int p4), .val (.int p5), .val (.long (q1 &&& (9223372036854775807 : Int64))), .second, .val (.int (p2 &&& (2147483647 : Int32))), .val (.long rm), .second, .unset, .unset, .unset, .unset, .unset, .unset] [(.int (p4 &&& (2147483647 : Int32)))])) (fun _ k => XS.iand XJ1.here hx rfl (hb hby at_49) rfl k) ?_
      refine own_go (B := TJ1.setTop (mkF m 52 #[.val (.long q1), .second, .val (.int p2), .val (.long q3), .second, .val (.int p4), .val (.int p5), .val (.long (q1 &&& (9223372036854775807 : Int64))), .second, .val (.int (p2 &&& (2147483647 : Int32))), .val (.long rm), .second, .val (.int (p4 &&& (2147483647 : Int32))), .unset, .unset, .unset, .unset, .unset] [])) (fun _ k => XS.istore XJ1.here hx rfl (hb hby at_50) rfl (l' := #[.val (.long q1), .second, .val (.int p2), .val (.long q3), .second, .val (.int p4), .val (.int p5), .val (.long (q1 &&& (9223372036854775807 : Int64))), .second, .val (.int (p2 &&& (2147483647 : Int32))), .val (.long rm), .second, .val (.int (p4 &&& (2147483647 : Int32))), .unset, .unset, .unset, .unset, .unset]) rfl k) ?_
      refine own_go (B := TJ1.setTop (mkF m 64 #[.val (.long q1), .second, .val (.int p2), .val (.long q3), .second, .val (.int p4), .val (.int p5), .val (.long (q1 &&& (9223372036854775807 : Int64))), .second, .val (.int (p2 &&& (2147483647 : Int32))), .val (.long rm), .second, .val (.int (p4 &&& (2147483647 : Int32))), .unset, .unset, .unset, .unset, .unset] [])) (fun _ k => XS.goto XJ1.here hx rfl (pc0 := 52) (pc' := 64) rfl (hb hby at_52) (by decide) (by decide) k) ?_
      exact J4 TJ1 _ XJ1 eJ1 NJ1 (p4 &&& (2147483647 : Int32)) (own_pl_rm0_4 p4 p5 rm hrm hc5)
  refine own_go (B := s₁.setTop (mkF m 15 #[.val (.long q1), .second, .val (.int p2), .val (.long q3), .second, .val (.int p4), .val (.int p5), .val (.long (q1 &&& (9223372036854775807 : Int64))), .second, .val (.int (p2 &&& (2147483647 : Int32))), .unset, .unset, .unset, .unset, .unset, .unset, .unset, .unset] [(.int p5)])) (fun _ k => XS.iload X0.here hx rfl (hb hby at_13) rfl  k) ?_
  refine own_go (B := s₁.setTop (mkF m 16 #[.val (.long q1), .second, .val (.int p2), .val (.long q3), .second, .val (.int p4), .val (.int p5), .val (.long (q1 &&& (9223372036854775807 : Int64))), .second, .val (.int (p2 &&& (2147483647 : Int32))), .unset, .unset, .unset, .unset, .unset, .unset, .unset, .unset] [(.int (1 : Int32)), (.int p5)])) (fun _ k => XS.iconst X0.here hx rfl (hb hby at_15) k) ?_
  refine own_go (B := s₁.setTop (mkF m 17 #[.val (.long q1), .second, .val (.int p2), .val (.long q3), .second, .val (.int p4), .val (.int p5), .val (.long (q1 &&& (9223372036854775807 : Int64))), .second, .val (.int (p2 &&& (2147483647 : Int32))), .unset, .unset, .unset, .unset, .unset, .unset, .unset, .unset] [(.int (p5 &&& (1 : Int32)))])) (fun _ k => XS.iand X0.here hx rfl (hb hby at_16) rfl k) ?_
  by_cases hc2 : (p5 &&& (1 : Int32)) = (0 : Int32)
  · skip
    refine own_go (B := s₁.setTop (mkF m 30 #[.val (.long q1), .second, .val (.int p2), .val (.long q3), .second, .val (.int p4), .val (.int p5), .val (.long (q1 &&& (9223372036854775807 : Int64))), .second, .val (.int (p2 &&& (2147483647 : Int32))), .unset, .unset, .unset, .unset, .unset, .unset, .unset, .unset] [])) (fun _ k => XS.ifYes X0.here hx rfl (pc0 := 17) (pc' := 30) rfl (hb hby at_17) rfl ((if0 _ _).trans (teq hc2).1) (by decide) (by decide) k) ?_
    refine own_go (B := s₁.setTop (mkF m 32 #[.val (.long q1), .second, .val (.int p2), .val (.long q3), .second, .val (.int p4), .val (.int p5), .val (.long (q1 &&& (9223372036854775807 : Int64))), .second, .val (.int (p2 &&& (2147483647 : Int32))), .unset, .unset, .unset, .unset, .unset, .unset, .unset, .unset] [(.long (q1 &&& (9223372036854775807 : Int64)))])) (fun _ k => XS.lload X0.here hx rfl (hb hby at_30) rfl  k) ?_
    refine own_go (B := s₁.setTop (mkF m 33 #[.val (.long q1), .second, .val (.int p2), .val (.long q3), .second, .val (.int p4), .val (.int p5), .val (.long (q1 &&& (9223372036854775807 : Int64))), .second, .val (.int (p2 &&& (2147483647 : Int32))), .unset, .unset, .unset, .unset, .unset, .unset, .unset, .unset] [(.long q3), (.long (q1 &&& (9223372036854775807 : Int64)))])) (fun _ k => XS.lloadN X0.here hx rfl (hb hby at_32) rfl  k) ?_
    obtain ⟨_, _, ⟨T3, L3, k3, n3⟩, -, X3, ⟨Lc3, hQ3, l3, y3, z3⟩, st3⟩ := Jvm.LawKit.callS X0 hx (y := (⟨"com/example/stackyard/stackyard/records/ResourceFitsInPinLaw", "nearLong", "(JJ)J"⟩ : MethodName)) hown (mvT hZ (own_w hw 2 rfl)) (mvT hZ (own_w hw 3 rfl)) (mvT hZ (own_w hw 4 rfl)) (mvT hZ (own_w hw 5 rfl)) (by decide) (backOf (W := 0) (own_rm1 l Z a0 hw [] (q1 &&& (9223372036854775807 : Int64)) q3 h0 n0 (Nat.le_trans Z0 K0.1) (own_pl_rm0_1 q1 p5 hc2)) hZ (own_w hw 5 rfl) (own_w hw 4 rfl) (by decide) (by decide)) (g := (mkF m 33 #[.val (.long q1), .second, .val (.int p2), .val (.long q3), .second, .val (.int p4), .val (.int p5), .val (.long (q1 &&& (9223372036854775807 : Int64))), .second, .val (.int (p2 &&& (2147483647 : Int32))), .unset, .unset, .unset, .unset, .unset, .unset, .unset, .unset] [(.long q3), (.long (q1 &&& (9223372036854775807 : Int64)))])) rfl (by rw [hml]; rfl) (argsL := [(.long (q1 &&& (9223372036854775807 : Int64))), (.long q3)]) (rest := []) (lenOf own_pd1 rfl) rfl (by show 2 * 0 + _ ≤ _; exact Nat.le_of_eq rfl) (hb hby at_33) (fun _ _ => ⟨rfl, e0, (by decide : 0 + 0 ≤ _), (by decide : 0 + 0 ≤ _)⟩)
    dsimp only [Pt.U, Pt.locs, Pt.cells, Pt.slots] at X3 l3 y3 z3 st3 hQ3
    subst l3 y3 z3
    obtain ⟨r_3, rfl, N3q, e3, x3_0⟩ := hQ3
    have N3 := Fr.app N0 N3q
    refine own_go (B := T3.setTop (mkF m 36 #[.val (.long q1), .second, .val (.int p2), .val (.long q3), .second, .val (.int p4), .val (.int p5), .val (.long (q1 &&& (9223372036854775807 : Int64))), .second, .val (.int (p2 &&& (2147483647 : Int32))), .unset, .unset, .unset, .unset, .unset, .unset, .unset, .unset] [(.long r_3)])) st3 ?_
    refine own_go (B := T3.setTop (mkF m 38 #[.val (.long q1), .second, .val (.int p2), .val (.long q3), .second, .val (.int p4), .val (.int p5), .val (.long (q1 &&& (9223372036854775807 : Int64))), .second, .val (.int (p2 &&& (2147483647 : Int32))), .val (.long r_3), .second, .unset, .unset, .unset, .unset, .unset, .unset] [])) (fun _ k => XS.lstore X3.here hx rfl (hb hby at_36) rfl (l' := #[.val (.long q1), .second, .val (.int p2), .val (.long q3), .second, .val (.int p4), .val (.int p5), .val (.long (q1 &&& (9223372036854775807 : Int64))), .second, .val (.int (p2 &&& (2147483647 : Int32))), .val (.long r_3), .second, .unset, .unset, .unset, .unset, .unset, .unset]) rfl k) ?_
    exact J1 T3 _ X3 e3 N3 r_3 x3_0
  · skip
    refine own_go (B := s₁.setTop (mkF m 20 #[.val (.long q1), .second, .val (.int p2), .val (.long q3), .second, .val (.int p4), .val (.int p5), .val (.long (q1 &&& (9223372036854775807 : Int64))), .second, .val (.int (p2 &&& (2147483647 : Int32))), .unset, .unset, .unset, .unset, .unset, .unset, .unset, .unset] [])) (fun _ k => XS.ifNo X0.here hx rfl (hb hby at_17) rfl ((if0 _ _).trans (feq hc2).1) k) ?_
    refine own_go (B := s₁.setTop (mkF m 21 #[.val (.long q1), .second, .val (.int p2), .val (.long q3), .second, .val (.int p4), .val (.int p5), .val (.long (q1 &&& (9223372036854775807 : Int64))), .second, .val (.int (p2 &&& (2147483647 : Int32))), .unset, .unset, .unset, .unset, .unset, .unset, .unset, .unset] [(.long q3)])) (fun _ k => XS.lloadN X0.here hx rfl (hb hby at_20) rfl  k) ?_
    refine own_go (B := s₁.setTop (mkF m 24 #[.val (.long q1), .second, .val (.int p2), .val (.long q3), .second, .val (.int p4), .val (.int p5), .val (.long (q1 &&& (9223372036854775807 : Int64))), .second, .val (.int (p2 &&& (2147483647 : Int32))), .unset, .unset, .unset, .unset, .unset, .unset, .unset, .unset] [(.long (9223372036854775807 : Int64)), (.long q3)])) (fun _ k => X0.ldc2Long hx hown (mvT hZ (own_w hw 0 rfl)) (g := (mkF m 21 #[.val (.long q1), .second, .val (.int p2), .val (.long q3), .second, .val (.int p4), .val (.int p5), .val (.long (q1 &&& (9223372036854775807 : Int64))), .second, .val (.int (p2 &&& (2147483647 : Int32))), .unset, .unset, .unset, .unset, .unset, .unset, .unset, .unset] [(.long q3)])) rfl (hb hby at_21) _ k) ?_
    refine own_go (B := s₁.setTop (mkF m 25 #[.val (.long q1), .second, .val (.int p2), .val (.long q3), .second, .val (.int p4), .val (.int p5), .val (.long (q1 &&& (9223372036854775807 : Int64))), .second, .val (.int (p2 &&& (2147483647 : Int32))), .unset, .unset, .unset, .unset, .unset, .unset, .unset, .unset] [(.long (q3 &&& (9223372036854775807 : Int64)))])) (fun _ k => XS.land X0.here hx rfl (hb hby at_24) rfl k) ?_
    refine own_go (B := s₁.setTop (mkF m 27 #[.val (.long q1), .second, .val (.int p2), .val (.long q3), .second, .val (.int p4), .val (.int p5), .val (.long (q1 &&& (9223372036854775807 : Int64))), .second, .val (.int (p2 &&& (2147483647 : Int32))), .val (.long (q3 &&& (9223372036854775807 : Int64))), .second, .unset, .unset, .unset, .unset, .unset, .unset] [])) (fun _ k => XS.lstore X0.here hx rfl (hb hby at_25) rfl (l' := #[.val (.long q1), .second, .val (.int p2), .val (.long q3), .second, .val (.int p4), .val (.int p5), .val (.long (q1 &&& (9223372036854775807 : Int64))), .second, .val (.int (p2 &&& (2147483647 : Int32))), .val (.long (q3 &&& (9223372036854775807 : Int64))), .second, .unset, .unset, .unset, .unset, .unset, .unset]) rfl k) ?_
    refine own_go (B := s₁.setTop (mkF m 38 #[.val (.long q1), .second, .val (.int p2), .val (.long q3), .second, .val (.int p4), .val (.int p5), .val (.long (q1 &&& (9223372036854775807 : Int64))), .second, .val (.int (p2 &&& (2147483647 : Int32))), .val (.long (q3 &&& (9223372036854775807 : Int64))), .second, .unset, .unset, .unset, .unset, .unset, .unset] [])) (fun _ k => XS.goto X0.here hx rfl (pc0 := 27) (pc' := 38) rfl (hb hby at_27) (by decide) (by decide) k) ?_
    exact J1 s₁ _ X0 e0 N0 (q3 &&& (9223372036854775807 : Int64)) (own_pl_rm0_2 q3 p5 hc2)
set_option maxRecDepth 65536 in
set_option maxHeartbeats 40000000 in
theorem comes_1 {Post : Tables → Env → Array Value → State → Outcome → State → Prop} (hpost : ∀ tb e args s v u, (limb_1_1.after args s (.returned v) u = true ∧ limb_1_2.after args s (.returned v) u = true ∧ True) → FrameEnd s (.returned v) u (Jvm.fieldLocs frame_1_writes args s ++ Jvm.arrayLocs frame_1_arrays args s ++ Jvm.staticLocs frame_1_statics s) 16 128 → Post tb e args s (.returned v) u) :
    ArmFor flags0 classFile x code maxLocals ret World_1 tables_1 room_1 Calls_1 rest_1 Pre_1 Post := by
  intro l hfl _ _ p e ha hc hk s m args below hf hA hF happ hP
  obtain ⟨hcalls, hrest, hpre⟩ := hP
  obtain ⟨-, -, -, hnamed, -, -, -, hat⟩ := (Spec.applies_iff hf).mp happ
  obtain ⟨hg, hn⟩ := and_e (Cond.before_iff.mp (show (Jvm.Cond.and given_1 narrow_1).before args s = true from hpre))
  obtain ⟨gg1, gg2⟩ := and_e hg
  obtain ⟨gg3, gg4⟩ := and_e gg2
  obtain ⟨gg5, gg6⟩ := and_e gg4
  obtain ⟨gg7, gg8⟩ := and_e gg6
  obtain ⟨gg9, gg10⟩ := and_e gg8
  obtain ⟨w0, w1, w2, w3, w4, rfl⟩ : ∃ w0 w1 w2 w3 w4 : Value, args = #[w0, w1, w2, w3, w4] := by
    have hs : args.size = 5 := by simpa [Cond.value, given_1] using gg1
    obtain ⟨L⟩ := args
    match L, hs with
    | [w0, w1, w2, w3, w4], _ => exact ⟨w0, w1, w2, w3, w4, rfl⟩
  have hw := fun d (hd : d ∈ tables_1) => atoms_spec (ws := Jvm.Cond.code x code maxLocals ret :: tables_1) hat d (List.mem_cons_of_mem _ hd)
  have hfit : Fit s := fun {y c} hc i hi => by
    obtain ⟨ha, rfl⟩ := Array.getElem?_eq_some_iff.mp hc
    have q := List.all_eq_true.mp ((Array.all_eq_true_iff_forall_mem.mp hF) _ (Array.getElem_mem ha)) i (List.mem_range.mpr hi)
    simpa [Array.getElem?_eq_getElem hi] using q
  obtain ⟨i0, ei0⟩ := isL_v gg3
  obtain rfl : w0 = (.long i0) := Option.some.inj ei0
  obtain ⟨i1, ei1⟩ := is_v gg5
  obtain rfl : w1 = (.int i1) := Option.some.inj ei1
  obtain ⟨i2, ei2⟩ := isL_v gg7
  obtain rfl : w2 = (.long i2) := Option.some.inj ei2
  obtain ⟨i3, ei3⟩ := is_v gg9
  obtain rfl : w3 = (.int i3) := Option.some.inj ei3
  obtain ⟨i4, ei4⟩ := is_v gg10
  obtain rfl : w4 = (.int i4) := Option.some.inj ei4
  obtain ⟨n, o, h1, h2, h3, _, L, rfl, ⟨rfl, N, _⟩, hq⟩ := own_rm0 l s _ hw tables_1 i0 i1 i2 i3 i4 s.heap s.heap.size (Nat.le_refl _)  p e ha hc hk s m _ below hf ((Spec.applies_iff_loose hf).mp happ).1 ⟨rfl, State.Warmed39.refl s, rfl⟩ trivial
  refine ⟨n, _, h1, h2, h3, hpost _ _ _ _ _ _ ⟨Cond.after_iff.mpr rfl, Cond.after_iff.mpr (eq_i res_at (Term.int_eval (1)) rfl), trivial⟩ ⟨hq.1, hq.2.1, (hq.2.2.sift fun y hy => Or.inr (N y hy)).mono (by decide) (by decide)⟩⟩
theorem main_1_1 : Claimed_1_1 := comes_1 fun _ _ _ _ _ _ h hF => ⟨h.1, hF⟩
theorem main_1_2 : Claimed_1_2 := comes_1 fun _ _ _ _ _ _ h hF => ⟨h.2.1, hF⟩
end Jvm.Pilot.@@N@@
namespace Jvm.Pilot.@@N@@
open Jvm Jvm.ClassFile Sem Op Lib Jvm.Free Jvm.Stand Jvm.Pilot.@@N@@.Jvm.D
/-! MADE BY PROGRAM (witnessworld.py) out of the Statement's table words and the real class files: 10 classes; the members and pool entries that the words name. The judged class is class 1, her method 1. -/
namespace start1
open Jvm.ClassFile
def u (s : String) : CpInfo := .utf8 (stringToUtf16 s)
/-- a pool by its gaps: so many unusable entries, then the entry; so many at the end -/
def gap : Nat → List CpInfo → List CpInfo
  | 0, r => r
  | n + 1, r => .unusable :: gap n r
def poolList (es : List (Nat × CpInfo)) (last : Nat) : List CpInfo := es.foldr (fun e r => gap e.1 (e.2 :: r)) (gap last [])
def pool (es : List (Nat × CpInfo)) (last : Nat) : Array CpInfo := ⟨poolList es last⟩
def fileOf (pool : Array CpInfo) (this : Nat) (attrs : Array Attribute := #[]) (ms : Array MethodInfo := #[]) (fl : Nat := 33) (sup : Nat := 0) (ifs : Array Nat := #[]) (fds : Array FieldInfo := #[]) : ClassFile where
  minorVersion := 0
  majorVersion := 65
  constantPool := pool
  accessFlags := fl
  thisClass := this
  superClass := sup
  interfaces := ifs
  fields := fds
  methods := ms
  attributes := attrs
def plain (name : String) (sup : Option ClassId) : Class where
  name := name
  kind := .ordinary
  loader := none
  accessFlags := 33
  super := sup
  interfaces := #[]
  cf := none
  fields := #[]
  methods := #[]
  instanceTypes := #[]
  staticTypes := #[]
  resolved := #[]
  callSites := []
  init := .initialized
  statics := none
  mirror := none

def pool0 : Array CpInfo := pool [(5, u "<init>"), (0, u "()V"), (1, .class_ 10), (1, u "java/lang/Object")] 113

def k0c0 : Code := { maxStack := 0, maxLocals := 1, code := object_method_1_code, exceptionTable := #[], attributes := #[] }
def k0m0 : Method := { name := "<init>", desc := "()V", sig := { parameters := [], returnType := none }, accessFlags := 1, code := some k0c0 }
/-- java/lang/Object -/
def k0 : Class := { plain "java/lang/Object" none with
  accessFlags := 33
  interfaces := #[]
  cf := some (fileOf pool0 8 #[] #[{ accessFlags := 1, nameIndex := 5, descriptorIndex := 6, attributes := #[] }] 33 0 #[] #[])
  fields := #[]
  methods := #[k0m0]
  instanceTypes := #[]
  staticTypes := #[]
  resolved := Array.replicate 124 none
  statics := none }

def pool1 : Array CpInfo := pool [(2, .class_ 4), (1, u "java/lang/Object"), (0, u "<init>"), (0, u "()V"), (2, .long 9223372036854775807), (3, .integer 2147483647), (0, .methodref 15 16), (0, .class_ 17), (0, .nameAndType 18 19), (0, u "com/example/stackyard/stackyard/records/ResourceFitsInPinLaw"), (0, u "nearLong"), (0, u "(JJ)J"), (0, .methodref 15 21), (0, .nameAndType 22 23), (0, u "nearInt"), (0, u "(II)I"), (0, .class_ 25), (0, u "com/example/stackyard/stackyard/records/Resource"), (0, .methodref 24 27), (0, .nameAndType 5 28), (0, u "(JI)V"), (0, .methodref 24 30), (0, .nameAndType 31 32), (0, u "fitsIn"), (0, u "(Lcom/example/stackyard/stackyard/records/Resource;)Z"), (0, .long 2147483647), (1, .long 3), (3, u "law"), (0, u "(JIJII)Z")] 3

def k1m0 : Method := { name := "<init>", desc := "()V", sig := { parameters := [], returnType := none }, accessFlags := 1, code := none }
def k1c1 : Code := { maxStack := 5, maxLocals := 18, code := code, exceptionTable := #[], attributes := #[] }
def k1m1 : Method := { name := "law", desc := "(JIJII)Z", sig := { parameters := [.long, .int, .long, .int, .int], returnType := some .boolean }, accessFlags := 9, code := some k1c1 }
def k1c2 : Code := { maxStack := 4, maxLocals := 8, code := method_3_code, exceptionTable := #[], attributes := #[] }
def k1m2 : Method := { name := "nearLong", desc := "(JJ)J", sig := { parameters := [.long, .long], returnType := some .long }, accessFlags := 10, code := some k1c2 }
def k1c3 : Code := { maxStack := 2, maxLocals := 4, code := method_4_code, exceptionTable := #[], attributes := #[] }
def k1m3 : Method := { name := "nearInt", desc := "(II)I", sig := { parameters := [.int, .int], returnType := some .int }, accessFlags := 10, code := some k1c3 }
/-- com/example/stackyard/stackyard/records/ResourceFitsInPinLaw -/
def k1 : Class := { plain "com/example/stackyard/stackyard/records/ResourceFitsInPinLaw" (some 0) with
  accessFlags := 49
  interfaces := #[]
  cf := some (fileOf pool1 15 #[] #[{ accessFlags := 1, nameIndex := 5, descriptorIndex := 6, attributes := #[] }, { accessFlags := 9, nameIndex := 39, descriptorIndex := 40, attributes := #[] }, { accessFlags := 10, nameIndex := 18, descriptorIndex := 19, attributes := #[] }, { accessFlags := 10, nameIndex := 22, descriptorIndex := 23, attributes := #[] }] 49 2 #[] #[])
  fields := #[]
  methods := #[k1m0, k1m1, k1m2, k1m3]
  instanceTypes := #[]
  staticTypes := #[]
  resolved := Array.replicate 44 none
  statics := none }

def pool2 : Array CpInfo := pool [(1, .methodref 2 3), (0, .class_ 4), (0, .nameAndType 5 6), (0, u "java/lang/Object"), (0, u "<init>"), (0, u "()V"), (0, .class_ 8), (0, u "java/lang/Record")] 13

def k2c0 : Code := { maxStack := 1, maxLocals := 1, code := jdk_30_method_1_code, exceptionTable := #[], attributes := #[] }
def k2m0 : Method := { name := "<init>", desc := "()V", sig := { parameters := [], returnType := none }, accessFlags := 4, code := some k2c0 }
/-- java/lang/Record -/
def k2 : Class := { plain "java/lang/Record" (some 0) with
  accessFlags := 1057
  interfaces := #[]
  cf := some (fileOf pool2 7 #[] #[{ accessFlags := 4, nameIndex := 5, descriptorIndex := 6, attributes := #[] }] 1057 2 #[] #[])
  fields := #[]
  methods := #[k2m0]
  instanceTypes := #[]
  staticTypes := #[]
  resolved := Array.replicate 22 none
  statics := none }

def pool3 : Array CpInfo := pool [(1, .methodref 2 3), (0, .class_ 4), (0, .nameAndType 5 6), (0, u "java/lang/Record"), (0, u "<init>"), (0, u "()V"), (9, .fieldref 17 18), (0, .class_ 19), (0, .nameAndType 20 21), (0, u "com/example/stackyard/stackyard/records/Resource"), (0, u "memory"), (0, u "J"), (0, .fieldref 17 23), (0, .nameAndType 24 25), (0, u "vCores"), (0, u "I"), (2, u "(JI)V"), (26, u "NONE"), (0, u "Lcom/example/stackyard/stackyard/records/Resource;"), (4, u "fitsIn"), (0, u "(Lcom/example/stackyard/stackyard/records/Resource;)Z")] 43

def k3c0 : Code := { maxStack := 5, maxLocals := 4, code := prog_55_method_1_code, exceptionTable := #[], attributes := #[] }
def k3m0 : Method := { name := "<init>", desc := "(JI)V", sig := { parameters := [.long, .int], returnType := none }, accessFlags := 1, code := some k3c0 }
def k3c1 : Code := { maxStack := 4, maxLocals := 2, code := prog_55_method_2_code, exceptionTable := #[], attributes := #[] }
def k3m1 : Method := { name := "fitsIn", desc := "(Lcom/example/stackyard/stackyard/records/Resource;)Z", sig := { parameters := [(.object "com/example/stackyard/stackyard/records/Resource")], returnType := some .boolean }, accessFlags := 1, code := some k3c1 }
/-- com/example/stackyard/stackyard/records/Resource -/
def k3 : Class := { plain "com/example/stackyard/stackyard/records/Resource" (some 2) with
  accessFlags := 49
  interfaces := #[]
  cf := some (fileOf pool3 17 #[] #[{ accessFlags := 1, nameIndex := 5, descriptorIndex := 28, attributes := #[] }, { accessFlags := 1, nameIndex := 61, descriptorIndex := 62, attributes := #[] }] 49 2 #[] #[{ accessFlags := 18, nameIndex := 20, descriptorIndex := 21, attributes := #[] }, { accessFlags := 18, nameIndex := 24, descriptorIndex := 25, attributes := #[] }, { accessFlags := 25, nameIndex := 55, descriptorIndex := 56, attributes := #[] }])
  fields := #[{ name := "memory", type := .long, accessFlags := 18, slot := 0, constantValue := 0 }, { name := "vCores", type := .int, accessFlags := 18, slot := 1, constantValue := 0 }, { name := "NONE", type := (.object "com/example/stackyard/stackyard/records/Resource"), accessFlags := 25, slot := 0, constantValue := 0 }]
  methods := #[k3m0, k3m1]
  instanceTypes := #[.long, .int]
  staticTypes := #[(.object "com/example/stackyard/stackyard/records/Resource")]
  resolved := Array.replicate 106 none
  statics := none }

def pool4 : Array CpInfo := pool [(1, u "java/lang/Cloneable"), (0, .class_ 1), (0, u "java/lang/Object"), (0, .class_ 3)] 3

/-- java/lang/Cloneable -/
def k4 : Class := { plain "java/lang/Cloneable" (some 0) with
  accessFlags := 1537
  interfaces := #[]
  cf := some (fileOf pool4 2 #[] #[] 1537 4 #[] #[])
  fields := #[]
  methods := #[]
  instanceTypes := #[]
  staticTypes := #[]
  resolved := Array.replicate 8 none
  statics := none }

def pool5 : Array CpInfo := pool [(1, u "java/io/Serializable"), (0, .class_ 1), (0, u "java/lang/Object"), (0, .class_ 3)] 3

/-- java/io/Serializable -/
def k5 : Class := { plain "java/io/Serializable" (some 0) with
  accessFlags := 1537
  interfaces := #[]
  cf := some (fileOf pool5 2 #[] #[] 1537 4 #[] #[])
  fields := #[]
  methods := #[]
  instanceTypes := #[]
  staticTypes := #[]
  resolved := Array.replicate 8 none
  statics := none }

/-- the primitive byte -/
def k6 : Class := { plain "byte" none with kind := .primitive 'B', accessFlags := 0x411 }
/-- [B -/
def k7 : Class := { plain "[B" (some 0) with kind := .array 6 .byte, interfaces := #[4, 5], accessFlags := 1041 }

/-- the primitive int -/
def k8 : Class := { plain "int" none with kind := .primitive 'I', accessFlags := 0x411 }
/-- [I -/
def k9 : Class := { plain "[I" (some 0) with kind := .array 8 .int, interfaces := #[4, 5], accessFlags := 1041 }

def heap : Heap := #[]
def classes : Array Class := #[k0, k1, k2, k3, k4, k5, k6, k7, k8, k9]
def interned : List (Array UInt16 × Addr) := []
def slotsUsed : Nat := 0
def theMethod : MethodId := ⟨1, 1⟩
def args0 : Array Value := #[.long 5, .int 5, .long 5, .int 5, .int 5]
def aboutOver (below : List Frame) : State where
  vm := { classes := classes, interned := interned.toArray }
  heap := heap
  slotsUsed := slotsUsed
  threads := #[{ frames := .invoking theMethod args0 :: below }]
def below0 : List Frame := [.native { method := ⟨0, 0⟩, args := #[] }]
def about1 : State := aboutOver below0
def p0 : Program := .bare "" "" ""
def e0 : Env := launch0.env 0 0 0
theorem w_frames : about1.frames = Frame.invoking theMethod args0 :: below0 := rfl
set_option maxRecDepth 65536 in
theorem w_args : argsFit about1.vm theMethod args0 = true := by decide +kernel
set_option maxRecDepth 65536 in
theorem w_heap : heapFits about1 = true := by decide +kernel
set_option maxRecDepth 65536 in
theorem w_runnable : about1.curStatus? = some .runnable := by decide +kernel
set_option maxRecDepth 65536 in
theorem w_alone : about1.alone = true := by decide +kernel
set_option maxRecDepth 65536 in
theorem w_named : about1.methodNamed? x = some theMethod := by decide +kernel
set_option maxRecDepth 65536 in
theorem w_hears : about1.hears theMethod below0 = true := by decide +kernel
set_option maxRecDepth 65536 in
theorem w_ripe : about1.ripe theMethod args0 below0 = true := by decide +kernel
theorem w_running : about1.status = .running := rfl
set_option maxRecDepth 65536 in
theorem w_room : about1.hasRoom e0.platform room_1 = true :=
  launch0.hasRoom_least _ room_1 (by decide +kernel) (by decide +kernel) (by decide +kernel) (by decide +kernel) (by decide +kernel) (by decide +kernel)
theorem allAtoms_all (ts : List Jvm.Cond) (a : Array Jvm.Value) (st : Jvm.State) : (allAtoms ts).before a st = ts.all (fun c => c.before a st) := by
  induction ts with
  | nil => rfl
  | cons c t ih =>
    show (Jvm.Cond.and c (allAtoms t)).before a st = _
    rw [Jvm.Cond.before_and, ih, List.all_cons]
def words1 : List Jvm.Cond := Jvm.Cond.code x code maxLocals ret :: tables_1
/-- a 'code' word, met by the world's own term for the bytes: nothing is compared byte by byte -/
theorem code_word {y : MethodName} {bytes : ByteArray} {mx : Nat} {rt : Option FieldType} {a : Array Value} {s : State} {m : MethodId} {meth : Method} {c : Code} (h1 : s.methodNamed? y = some m) (h2 : s.vm.method? m = some meth) (h3 : meth.code = some c) (h4 : c.code = bytes)
    (h5 : (c.maxLocals == mx && c.exceptionTable.isEmpty && decide (c.maxStack ≤ mostOperands) && decide (meth.sig.returnType = rt) && !meth.locks && decide (parseMethodDescriptor y.desc = some meth.sig)) = true) : (Jvm.Cond.code y bytes mx rt).before a s = true := by
  simp only [Bool.and_eq_true, beq_iff_eq, Bool.not_eq_true', decide_eq_true_eq] at h5
  obtain ⟨⟨⟨⟨⟨g1, g2⟩, g3⟩, g4⟩, g5⟩, g6⟩ := h5
  simp [Cond.before, Cond.holds, Cond.value, h1, h2, h3, h4, g1, g2, g3, g4, g5, g6]
def isCode : Jvm.Cond → Bool
  | .code _ _ _ _ => true
  | _ => false
theorem all_split {L : List Jvm.Cond} {P : Jvm.Cond → Bool} (h1 : L.all (fun c => isCode c || P c) = true) (h2 : ∀ c ∈ L.filter isCode, P c = true) : L.all P = true := by
  refine List.all_eq_true.mpr fun c hc => ?_
  have h := List.all_eq_true.mp h1 c hc
  rcases Bool.eq_false_or_eq_true (isCode c) with hi | hi
  · exact h2 c (List.mem_filter.mpr ⟨hc, hi⟩)
  · simpa [hi] using h
set_option maxRecDepth 65536 in
theorem w_c0 : (Jvm.Cond.code x code maxLocals ret).before args0 about1 = true := code_word (m := ⟨1, 1⟩) (meth := k1m1) (c := k1c1) (by decide +kernel) rfl rfl rfl (by decide +kernel)
set_option maxRecDepth 65536 in
theorem w_c1 : (Jvm.Cond.code ({ cls := "com/example/stackyard/stackyard/records/ResourceFitsInPinLaw", name := "nearLong", desc := "(JJ)J" } : Jvm.MethodName) method_3_code (8 : Nat) (Option.some Jvm.ClassFile.FieldType.long)).before args0 about1 = true := code_word (m := ⟨1, 2⟩) (meth := k1m2) (c := k1c2) (by decide +kernel) rfl rfl rfl (by decide +kernel)
set_option maxRecDepth 65536 in
theorem w_c2 : (Jvm.Cond.code ({ cls := "com/example/stackyard/stackyard/records/Resource", name := "<init>", desc := "(JI)V" } : Jvm.MethodName) prog_55_method_1_code (4 : Nat) (Option.none : Option Jvm.ClassFile.FieldType)).before args0 about1 = true := code_word (m := ⟨3, 0⟩) (meth := k3m0) (c := k3c0) (by decide +kernel) rfl rfl rfl (by decide +kernel)
set_option maxRecDepth 65536 in
theorem w_c3 : (Jvm.Cond.code ({ cls := "java/lang/Record", name := "<init>", desc := "()V" } : Jvm.MethodName) jdk_30_method_1_code (1 : Nat) (Option.none : Option Jvm.ClassFile.FieldType)).before args0 about1 = true := code_word (m := ⟨2, 0⟩) (meth := k2m0) (c := k2c0) (by decide +kernel) rfl rfl rfl (by decide +kernel)
set_option maxRecDepth 65536 in
theorem w_c4 : (Jvm.Cond.code ({ cls := "java/lang/Object", name := "<init>", desc := "()V" } : Jvm.MethodName) object_method_1_code (1 : Nat) (Option.none : Option Jvm.ClassFile.FieldType)).before args0 about1 = true := code_word (m := ⟨0, 0⟩) (meth := k0m0) (c := k0c0) (by decide +kernel) rfl rfl rfl (by decide +kernel)
set_option maxRecDepth 65536 in
theorem w_c5 : (Jvm.Cond.code ({ cls := "com/example/stackyard/stackyard/records/Resource", name := "fitsIn", desc := "(Lcom/example/stackyard/stackyard/records/Resource;)Z" } : Jvm.MethodName) prog_55_method_2_code (2 : Nat) (Option.some Jvm.ClassFile.FieldType.boolean)).before args0 about1 = true := code_word (m := ⟨3, 1⟩) (meth := k3m1) (c := k3c1) (by decide +kernel) rfl rfl rfl (by decide +kernel)
set_option maxRecDepth 65536 in
theorem w_c6 : (Jvm.Cond.code ({ cls := "com/example/stackyard/stackyard/records/ResourceFitsInPinLaw", name := "nearInt", desc := "(II)I" } : Jvm.MethodName) method_4_code (4 : Nat) (Option.some Jvm.ClassFile.FieldType.int)).before args0 about1 = true := code_word (m := ⟨1, 3⟩) (meth := k1m3) (c := k1c3) (by decide +kernel) rfl rfl rfl (by decide +kernel)
def codes1 : List Jvm.Cond := [Jvm.Cond.code x code maxLocals ret, Jvm.Cond.code ({ cls := "com/example/stackyard/stackyard/records/ResourceFitsInPinLaw", name := "nearLong", desc := "(JJ)J" } : Jvm.MethodName) method_3_code (8 : Nat) (Option.some Jvm.ClassFile.FieldType.long), Jvm.Cond.code ({ cls := "com/example/stackyard/stackyard/records/Resource", name := "<init>", desc := "(JI)V" } : Jvm.MethodName) prog_55_method_1_code (4 : Nat) (Option.none : Option Jvm.ClassFile.FieldType), Jvm.Cond.code ({ cls := "java/lang/Record", name := "<init>", desc := "()V" } : Jvm.MethodName) jdk_30_method_1_code (1 : Nat) (Option.none : Option Jvm.ClassFile.FieldType), Jvm.Cond.code ({ cls := "java/lang/Object", name := "<init>", desc := "()V" } : Jvm.MethodName) object_method_1_code (1 : Nat) (Option.none : Option Jvm.ClassFile.FieldType), Jvm.Cond.code ({ cls := "com/example/stackyard/stackyard/records/Resource", name := "fitsIn", desc := "(Lcom/example/stackyard/stackyard/records/Resource;)Z" } : Jvm.MethodName) prog_55_method_2_code (2 : Nat) (Option.some Jvm.ClassFile.FieldType.boolean), Jvm.Cond.code ({ cls := "com/example/stackyard/stackyard/records/ResourceFitsInPinLaw", name := "nearInt", desc := "(II)I" } : Jvm.MethodName) method_4_code (4 : Nat) (Option.some Jvm.ClassFile.FieldType.int)]
set_option maxRecDepth 65536 in
theorem codes_eq : words1.filter isCode = codes1 := rfl
theorem w_codes : ∀ c ∈ words1.filter isCode, c.before args0 about1 = true := by
  rw [codes_eq]
  intro c hc
  simp only [codes1, List.mem_cons, List.not_mem_nil, or_false] at hc
  rcases hc with rfl | rfl | rfl | rfl | rfl | rfl | rfl
  · exact w_c0
  · exact w_c1
  · exact w_c2
  · exact w_c3
  · exact w_c4
  · exact w_c5
  · exact w_c6
set_option maxRecDepth 65536 in
theorem w_t1 : (words1.take 24).all (fun c => isCode c || c.before args0 about1) = true := by decide +kernel
set_option maxRecDepth 65536 in
theorem w_t2 : (words1.drop 24).all (fun c => isCode c || c.before args0 about1) = true := by decide +kernel
theorem w_tables : (allAtoms (Jvm.Cond.code x code maxLocals ret :: tables_1)).before args0 about1 = true := by
  rw [allAtoms_all]
  show words1.all (fun c => c.before args0 about1) = true
  refine all_split ?_ w_codes
  rw [← List.take_append_drop 24 words1, List.all_append, w_t1, w_t2]
  rfl
set_option maxRecDepth 65536 in
theorem w_case : (Jvm.Cond.and given_1 narrow_1).before args0 about1 = true := by decide +kernel
theorem w_applies : (headSpec (Jvm.Cond.code x code maxLocals ret :: tables_1) room_1).applies x e0.platform about1 = true :=
  (Spec.applies_iff w_frames).mpr ⟨w_running, w_runnable, w_alone, w_named, w_hears, w_ripe, w_room, w_tables⟩
theorem atStart : AtStart classFile x code maxLocals ret World_1 tables_1 room_1 Calls_1 rest_1 Pre_1 launch0 p0 e0 about1 theMethod args0 below0 :=
  ⟨lists_1, trivial, launch0.admits_env _ _ _, launch0.least_env, fairChoices_fair.cas, fairChoices_fair.clock, w_frames, w_args, w_heap, w_applies, trivial, trivial, w_case⟩
end start1
theorem witness_1 : WitnessClaimed_1 := ⟨start1.p0, start1.e0, start1.about1, start1.theMethod, start1.args0, start1.below0, start1.atStart⟩
end Jvm.Pilot.@@N@@
