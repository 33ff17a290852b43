import JvmDerived
import JvmDerived.Pilot.@@N@@Statement
import JvmDerived.Pilot.@@N@@Code
set_option linter.unusedVariables false
set_option linter.unusedSimpArgs false
@@BLOCK:NumsL.lean.txt@@
namespace Jvm.Pilot.@@N@@
open Jvm Jvm.ClassFile Sem Op Lib Jvm.Free Jvm.Stand Jvm.LawKit Jvm.RoadKit Bundle Jvm.Pilot.@@N@@.Jvm.D
section OwnKit
theorem own_w {Z : State} {a0 : Array Value} (hw : ∀ d ∈ tables_1, d.before a0 Z = true) {d : Jvm.Cond} (i : Nat) (h : tables_1[i]? = some d) : d.before a0 Z = true := hw d (List.mem_of_getElem? h)
theorem own_narb (x : Int32) : nar .byte (x.toInt8.toInt32) = x.toInt8.toInt32 := by
  show (x.toInt8.toInt32).toInt8.toInt32 = x.toInt8.toInt32
  rw [Int8.toInt8_toInt32]
theorem own_narc (x : Int32) : nar .char (x.toUInt32.toUInt16.toUInt32.toInt32) = x.toUInt32.toUInt16.toUInt32.toInt32 := by
  show (x.toUInt32.toUInt16.toUInt32.toInt32).toUInt32.toUInt16.toUInt32.toInt32 = _
  have : (x.toUInt32.toUInt16.toUInt32.toInt32).toUInt32 = x.toUInt32.toUInt16.toUInt32 := rfl
  rw [this]
  have : x.toUInt32.toUInt16.toUInt32.toUInt16 = x.toUInt32.toUInt16 := by rw [← UInt16.toNat_inj]; simp
  rw [this]
theorem own_plain {Z : State} {h : Heap} {a : Addr} {C : String} (F : Exa Z h a C) : ∃ c : Cell, h[a]? = some c ∧ c.vm.isStatics = false := by
  obtain ⟨c, _, h1, -, -, h4, -⟩ := F; exact ⟨c, h1, h4⟩
theorem own_plainV {Z : State} {h : Heap} {a : Addr} {k : ClassId} {ty : FieldType} {z : Int32} {vs : List Value} {d : Value} (F : Arv Z h a k ty z vs d) : ∃ c : Cell, h[a]? = some c ∧ c.vm.isStatics = false := by
  obtain ⟨c, A, -⟩ := F; exact ⟨c, A.1, A.plain⟩
theorem own_Sta_keep {Z : State} {h h' : Heap} {C n d : String} {v : Value} {ws : List Addr} (F : Sta Z h C n d v) (K : Keep h h' ws) (q : ∀ a ∈ ws, ∃ c : Cell, h[a]? = some c ∧ c.vm.isStatics = false) : Sta Z h' C n d v := by
  obtain ⟨cf, i, k, f, st, cell, h1, h2, h3, h4, h5, h6, h7⟩ := F
  have ne : st ∉ ws := fun hm => by
    obtain ⟨c, g1, g2⟩ := q st hm
    cases h5.symm.trans g1
    rw [h6] at g2; cases g2
  exact ⟨cf, i, k, f, st, cell, h1, h2, h3, h4, K.2.1 _ _ h5 ne, h6, h7⟩
theorem own_NSroot {Z : State} {a0 : Array Value} {O K : String} {j : Nat} (w : (Cond.noSuperclass O).before a0 Z = true) (wk : (Cond.instantiable K j).before a0 Z = true) (hn : O ≠ K) : NS Z O K := by
  obtain ⟨c, k, h1, h2, h3, -⟩ := Cond.noSuperclass_spec w
  obtain ⟨t, kt, g1, -⟩ := Cond.instantiable_spec wk
  refine ⟨c, t, h1, g1, fun fuel => ?_⟩
  cases fuel with
  | zero => rfl
  | succ f => simp [Vm.isSubclassAux, ids_ne h1 g1 hn, h2, h3]
theorem own_NSno {Z : State} {a0 : Array Value} {C S K : String} {j : Nat} (w : (Cond.superclass C S).before a0 Z = true) (wk : (Cond.instantiable K j).before a0 Z = true) (q : NS Z C K) (hn : C ≠ K) : ∃ c t, Z.vm.findClass C = some c ∧ Z.vm.findClass K = some t ∧ Z.vm.assignable c t = false := by
  obtain ⟨c, t, h0, g0, n3⟩ := q
  obtain ⟨_, k, _, _, h2, _, _, h5, -⟩ := Cond.superclass_spec h0 w
  obtain ⟨t', kt, g1, g2, g5, g7, -⟩ := Cond.instantiable_spec wk
  cases g0.symm.trans g1
  have g8 : kt.isInterface = false := by simpa using (Bool.or_eq_false_iff.mp g7).1
  refine ⟨c, t, h0, g0, ?_⟩
  show Z.vm.assignableAux (255 + 1) c t = false
  simp [Vm.assignableAux, ids_ne h0 g0 hn, h2, g2, h5, g5, g8, Vm.isSubclass, n3]
def own_b (P : Prop) [Decidable P] : Int32 := if P then 1 else 0
theorem own_b1 {P : Prop} [Decidable P] (h : P) : own_b P = 1 := if_pos h
theorem own_b0 {P : Prop} [Decidable P] (h : ¬ P) : own_b P = 0 := if_neg h
variable {p : Program} {l : Launch} {e : Env} {R : Room} {s : State} {m : MethodId} {args : Array Value} {below : List Frame} {meth : Method} {c : Code} {T : State} {locs : List Loc} {cells slots : Nat}
def own_Fin (p : Program) (e : Env) (below : List Frame) (s : State) (Q : Option Value → Heap → List Loc → Prop) (k n : Nat) (A : State) : Prop := ∃ s₂ o, Steps p.tables e below A s₂ ∧ s₂.status = .running ∧ Ended s₂ below o ∧ ∃ v L, o = .returned v ∧ Q v s₂.heap L ∧ FrameEnd s o s₂ L k n
theorem own_go {Q : Option Value → Heap → List Loc → Prop} {k n : Nat} {A B : State} (h : ∀ t, Steps p.tables e below B t → Steps p.tables e below A t) (q : own_Fin p e below s Q k n B) : own_Fin p e below s Q k n A := by
  obtain ⟨s₂, o, h1, h2⟩ := q
  exact ⟨s₂, o, h _ h1, h2⟩
theorem own_retN {Q : Option Value → Heap → List Loc → Prop} {k n : Nat} (X : Stand p l e R s m args below meth c T locs cells slots) (hx : p.tables.exec = Jvm.exec) (hlk : meth.locks = false) {pc : Nat} {Ls : Array Slot} {z w : Int32} {t : FieldType} {rest : List Value} (hret : meth.sig.returnType = some t) (ht : t = .boolean ∨ t = .byte ∨ t = .char ∨ t = .short)
    (hd : decode c.code pc = .ok (.ireturn, 1)) {h : Heap} (eT : T.heap = h) (hz : nar t z = w) (hQ : Q (some (.int w)) h locs) (hk : cells ≤ k) (hn : slots ≤ n) : own_Fin p e below s Q k n (T.setTop (mkF m pc Ls (.int z :: rest))) := by
  subst hz eT
  obtain ⟨fs, hr, hrun, hended, hW, hsame⟩ := X.leave (v := some (.int (nar t z))) (fun h => by rw [hret] at h; cases h) hlk
  exact ⟨_, _, retN X hx hret ht hd hr, hrun, hended, _, _, rfl, hQ, ⟨_, rfl⟩, hW, hsame.mono hk hn⟩
theorem own_retI {Q : Option Value → Heap → List Loc → Prop} {k n : Nat} (X : Stand p l e R s m args below meth c T locs cells slots) (hx : p.tables.exec = Jvm.exec) (hlk : meth.locks = false) {pc : Nat} {Ls : Array Slot} {z : Int32} {rest : List Value} (hret : meth.sig.returnType = some .int)
    (hd : decode c.code pc = .ok (.ireturn, 1)) {h : Heap} (eT : T.heap = h) (hQ : Q (some (.int z)) h locs) (hk : cells ≤ k) (hn : slots ≤ n) : own_Fin p e below s Q k n (T.setTop (mkF m pc Ls (.int z :: rest))) := by
  subst eT
  obtain ⟨fs, hr, hrun, hended, hW, hsame⟩ := X.leave (v := some (.int z)) (fun h => by rw [hret] at h; cases h) hlk
  exact ⟨_, _, retOut X hx hret rfl (Or.inl ⟨rfl, Or.inl rfl, z, rfl⟩) hd hr, hrun, hended, _, _, rfl, hQ, ⟨_, rfl⟩, hW, hsame.mono hk hn⟩
theorem own_retJ {Q : Option Value → Heap → List Loc → Prop} {k n : Nat} (X : Stand p l e R s m args below meth c T locs cells slots) (hx : p.tables.exec = Jvm.exec) (hlk : meth.locks = false) {pc : Nat} {Ls : Array Slot} {z : Int64} {rest : List Value} (hret : meth.sig.returnType = some .long)
    (hd : decode c.code pc = .ok (.lreturn, 1)) {h : Heap} (eT : T.heap = h) (hQ : Q (some (.long z)) h locs) (hk : cells ≤ k) (hn : slots ≤ n) : own_Fin p e below s Q k n (T.setTop (mkF m pc Ls (.long z :: rest))) := by
  subst eT
  obtain ⟨fs, hr, hrun, hended, hW, hsame⟩ := X.leave (v := some (.long z)) (fun h => by rw [hret] at h; cases h) hlk
  exact ⟨_, _, retOut X hx hret rfl (Or.inr (Or.inl ⟨rfl, rfl, z, rfl⟩)) hd hr, hrun, hended, _, _, rfl, hQ, ⟨_, rfl⟩, hW, hsame.mono hk hn⟩
theorem own_retD {Q : Option Value → Heap → List Loc → Prop} {k n : Nat} (X : Stand p l e R s m args below meth c T locs cells slots) (hx : p.tables.exec = Jvm.exec) (hlk : meth.locks = false) {pc : Nat} {Ls : Array Slot} {z : UInt64} {rest : List Value} (hret : meth.sig.returnType = some .double)
    (hd : decode c.code pc = .ok (.dreturn, 1)) {h : Heap} (eT : T.heap = h) (hQ : Q (some (.double z)) h locs) (hk : cells ≤ k) (hn : slots ≤ n) : own_Fin p e below s Q k n (T.setTop (mkF m pc Ls (.double z :: rest))) := by
  subst eT
  obtain ⟨fs, hr, hrun, hended, hW, hsame⟩ := X.leave (v := some (.double z)) (fun h => by rw [hret] at h; cases h) hlk
  exact ⟨_, _, retOut X hx hret rfl (Or.inr (Or.inr (Or.inl ⟨rfl, rfl, z, rfl⟩))) hd hr, hrun, hended, _, _, rfl, hQ, ⟨_, rfl⟩, hW, hsame.mono hk hn⟩
theorem own_retA {Q : Option Value → Heap → List Loc → Prop} {k n : Nat} (X : Stand p l e R s m args below meth c T locs cells slots) (hx : p.tables.exec = Jvm.exec) (hlk : meth.locks = false) {pc : Nat} {Ls : Array Slot} {w : Value} {t : FieldType} {rest : List Value} (hret : meth.sig.returnType = some t) (ht : t.isReference = true) (hw : w.isRef = true)
    (hd : decode c.code pc = .ok (.areturn, 1)) {h : Heap} (eT : T.heap = h) (hQ : Q (some w) h locs) (hk : cells ≤ k) (hn : slots ≤ n) : own_Fin p e below s Q k n (T.setTop (mkF m pc Ls (w :: rest))) := by
  subst eT
  obtain ⟨fs, hr, hrun, hended, hW, hsame⟩ := X.leave (v := some w) (fun h => by rw [hret] at h; cases h) hlk
  have hnw : narrow t w = w := by
    rcases ref_cases hw with rfl | ⟨z, rfl⟩ <;> cases t <;> first | rfl | (cases ht; done)
  exact ⟨_, _, retOut X hx hret hnw (Or.inr (Or.inr (Or.inr (Or.inr ⟨rfl, ht, hw⟩)))) hd hr, hrun, hended, _, _, rfl, hQ, ⟨_, rfl⟩, hW, hsame.mono hk hn⟩
theorem own_retV {Q : Option Value → Heap → List Loc → Prop} {k n : Nat} (X : Stand p l e R s m args below meth c T locs cells slots) (hx : p.tables.exec = Jvm.exec) (hlk : meth.locks = false) {pc : Nat} {Ls : Array Slot} (hret : meth.sig.returnType = none)
    (hd : decode c.code pc = .ok (.return_, 1)) {h : Heap} (eT : T.heap = h) (hQ : Q none h locs) (hk : cells ≤ k) (hn : slots ≤ n) : own_Fin p e below s Q k n (T.setTop (mkF m pc Ls [])) := by
  subst eT
  obtain ⟨fs, hr, hrun, hended, hW, hsame⟩ := X.leave (v := none) (fun _ => rfl) hlk
  exact ⟨_, _, X.returnOut hx hret hd hr, hrun, hended, _, _, rfl, hQ, ⟨_, rfl⟩, hW, hsame.mono hk hn⟩
end OwnKit
section OwnNums
theorem own_iushr (x : Int32) {n : UInt32} {k : Nat} (hn : n.toNat = k) (h0 : 0 < k) (hk : k < 32) : ((x.toUInt32 >>> n).toInt32).toInt = (x.toInt % 4294967296) / 2 ^ k := by
  have e2 : ((x.toUInt32 >>> n).toInt32).toBitVec.toNat = x.toBitVec.toNat / 2 ^ k := by
    simp only [UInt32.toBitVec_toInt32, UInt32.toBitVec_shiftRight, Int32.toBitVec_toUInt32]
    simp [BitVec.toNat_ushiftRight, Nat.shiftRight_eq_div_pow, hn, Nat.mod_eq_of_lt hk]
  have hb := x.toBitVec.isLt
  have hp : 2 ^ 1 ≤ 2 ^ k := Nat.pow_le_pow_right (by decide) h0
  have hle : x.toBitVec.toNat / 2 ^ k ≤ x.toBitVec.toNat / 2 ^ 1 := Nat.div_le_div_left hp (by decide)
  have e3 : ((x.toUInt32 >>> n).toInt32).toInt = ((x.toBitVec.toNat / 2 ^ k : Nat) : Int) := by
    have : ((x.toUInt32 >>> n).toInt32).toInt = ((x.toUInt32 >>> n).toInt32).toBitVec.toInt := rfl
    rw [this, BitVec.toInt_eq_toNat_cond, e2, if_pos (by omega)]
  have e4 : x.toInt % 4294967296 = (x.toBitVec.toNat : Int) := by
    have : x.toInt = x.toBitVec.toInt := rfl
    rw [this, BitVec.toInt_eq_toNat_cond]
    split <;> omega
  rw [e3, e4, Int.natCast_ediv, Int.natCast_pow]
  rfl
theorem own_lushr (x : Int64) {n : UInt64} {k : Nat} (hn : n.toNat = k) (h0 : 0 < k) (hk : k < 64) : ((x.toUInt64 >>> n).toInt64).toInt = (x.toInt % 18446744073709551616) / 2 ^ k := by
  have e2 : ((x.toUInt64 >>> n).toInt64).toBitVec.toNat = x.toBitVec.toNat / 2 ^ k := by
    simp only [UInt64.toBitVec_toInt64, UInt64.toBitVec_shiftRight, Int64.toBitVec_toUInt64]
    simp [BitVec.toNat_ushiftRight, Nat.shiftRight_eq_div_pow, hn, Nat.mod_eq_of_lt hk]
  have hb := x.toBitVec.isLt
  have hp : 2 ^ 1 ≤ 2 ^ k := Nat.pow_le_pow_right (by decide) h0
  have hle : x.toBitVec.toNat / 2 ^ k ≤ x.toBitVec.toNat / 2 ^ 1 := Nat.div_le_div_left hp (by decide)
  have e3 : ((x.toUInt64 >>> n).toInt64).toInt = ((x.toBitVec.toNat / 2 ^ k : Nat) : Int) := by
    have : ((x.toUInt64 >>> n).toInt64).toInt = ((x.toUInt64 >>> n).toInt64).toBitVec.toInt := rfl
    rw [this, BitVec.toInt_eq_toNat_cond, e2, if_pos (by omega)]
  have e4 : x.toInt % 18446744073709551616 = (x.toBitVec.toNat : Int) := by
    have : x.toInt = x.toBitVec.toInt := rfl
    rw [this, BitVec.toInt_eq_toNat_cond]
    split <;> omega
  rw [e3, e4, Int.natCast_ediv, Int.natCast_pow]
  rfl
theorem own_l2i (x : Int64) : (x.toInt32.toInt - x.toInt) % 4294967296 = 0 := by rw [Int64.toInt_toInt32]; exact bm32 _
theorem own_div32 {x y : Int32} (hx : 0 ≤ x.toInt) (hy : 0 < y.toInt) : (x / y).toInt = x.toInt / y.toInt := by
  rw [Jvm.Kit.i32_div (by omega), Int.tdiv_eq_ediv_of_nonneg hx]
theorem own_div64 {x y : Int64} (hx : 0 ≤ x.toInt) (hy : 0 < y.toInt) : (x / y).toInt = x.toInt / y.toInt := by
  rw [Jvm.Kit.i64_div (by omega), Int.tdiv_eq_ediv_of_nonneg hx]
theorem own_i2c (x : Int32) : (x.toUInt32.toUInt16.toUInt32.toInt32).toInt = x.toInt % 65536 := by
  have e2 : (x.toUInt32.toUInt16.toUInt32.toInt32).toBitVec.toNat = x.toBitVec.toNat % 65536 := by
    show (x.toUInt32.toUInt16.toUInt32).toNat = _
    simp
    rfl
  have hb := x.toBitVec.isLt
  have e3 : (x.toUInt32.toUInt16.toUInt32.toInt32).toInt = (x.toUInt32.toUInt16.toUInt32.toInt32).toBitVec.toInt := rfl
  have e4 : x.toInt = x.toBitVec.toInt := rfl
  rw [e3, e4, BitVec.toInt_eq_toNat_cond, BitVec.toInt_eq_toNat_cond, e2]
  split <;> split <;> omega
theorem own_i2b (x : Int32) : ((x.toInt8.toInt32).toInt - x.toInt) % 256 = 0 ∧ -128 ≤ (x.toInt8.toInt32).toInt ∧ (x.toInt8.toInt32).toInt < 128 := by
  have h1 : (x.toInt8.toInt32).toInt = x.toInt8.toInt := Int8.toInt_toInt32 _
  have h2 := x.toInt8.toInt_lt; have h3 := x.toInt8.le_toInt
  have h4 : x.toInt8.toInt = x.toInt.bmod 256 := Int32.toInt_toInt8 x
  have h5 := Int.bmod_emod (x := x.toInt) (m := 256)
  rw [h1]; omega
end OwnNums
theorem own_pd0 : parseMethodDescriptor "()V" = some ⟨[], none⟩ := by decide +kernel
theorem own_pd1 : parseMethodDescriptor "(JJ)J" = some ⟨[.long, .long], some .long⟩ := by decide +kernel
theorem own_pd2 : parseMethodDescriptor "(J)V" = some ⟨[.long], none⟩ := by decide +kernel
theorem own_pd3 : parseMethodDescriptor "(ILcom/example/rate_to_limit/ratetolimit/http/ReadBudget;JJ)V" = some ⟨[.int, (.object "com/example/rate_to_limit/ratetolimit/http/ReadBudget"), .long, .long], none⟩ := by decide +kernel
theorem own_pd4 : parseMethodDescriptor "()J" = some ⟨[], some .long⟩ := by decide +kernel
theorem own_i64_1 : (1 : Int64).toInt = 1 := by decide
theorem own_i64_4 : (4 : Int64).toInt = 4 := by decide
theorem own_i64_1000 : (1000 : Int64).toInt = 1000 := by decide
theorem own_i64_0 : (0 : Int64).toInt = 0 := by decide
theorem own_i64_9223372036854775807 : (9223372036854775807 : Int64).toInt = 9223372036854775807 := by decide
theorem own_i64_4000 : (4000 : Int64).toInt = 4000 := by decide
abbrev R_own_rm4 : Room := { frames := 1, cells := 0, slots := 0, locals := 12 }
theorem d4_0 : decode jdk_18_method_1_code 0 = .ok (.aload_n 0, 1) := by decide +kernel
theorem d4_1 : decode jdk_18_method_1_code 1 = .ok (.invokespecial 1, 3) := by decide +kernel
theorem d4_4 : decode jdk_18_method_1_code 4 = .ok (.return_, 1) := by decide +kernel
theorem own_pn0 : plainName "java/lang/Number" = true := by first | (simp [plainName, overriddenIn]; done) | decide +kernel
theorem ef_own_rm4 (m : MethodId) (x0 : Addr) : entryFrame m #[(.ref x0)] 1 = mkF m 0 #[.val (.ref x0)] [] := by first | (simp [entryFrame, mkF, argsToLocals, Value.category]; done) | rfl
def Q_own_rm4 (Z : State) (a1 : Addr) (h0 : Heap) (n0 : Nat) (v : Option Value) (h : Heap) (L : List Loc) : Prop := v = none ∧ Fr n0 L ∧ h = h0
set_option maxRecDepth 65536 in
set_option maxHeartbeats 400000000 in
theorem own_rm4 (l : Launch) (Z : State) (a0 : Array Value) (hw : ∀ d ∈ tables_1, d.before a0 Z = true) (ws : List Jvm.Cond) (a1 : Addr) (h0 : Heap) (n0 : Nat) (Z0 : n0 ≤ h0.size)  :
    MetFree l (⟨"java/lang/Number", "<init>", "()V"⟩ : MethodName) (head1 (Jvm.Cond.code (⟨"java/lang/Number", "<init>", "()V"⟩ : MethodName) jdk_18_method_1_code 1 none :: ws) R_own_rm4) (fun a U => a = #[(.ref a1)] ∧ Z.Warmed39 U.vm ∧ U.heap = h0) (fun _ _ _ _ _ => True) (fun _ U o U' => ∃ v L, o = .returned v ∧ Q_own_rm4 Z a1 h0 n0 v U'.heap L ∧ FrameEnd U o U' L R_own_rm4.cells R_own_rm4.slots) := by
  refine MetFree.of_bodySF (plainFor_of_name own_pn0) hisR ?_
  intro p e s m args below meth c s₁ Bd hml0 hP hK
  obtain ⟨rfl, hZ, hh⟩ := hP
  have hx := Bd.exec
  have hby := Bd.bytes
  have hml : c.maxLocals = 1 := hml0
  have hown : s.vm.findClass "java/lang/Number" = some m.cls := findClass_of_methodNamed Bd.named
  have hnm := (name_of_methodNamed Bd.named Bd.method).1
  have X0 : Stand p l e R_own_rm4 s m #[(.ref a1)] below meth c s₁ [] 0 0 := Stand.of_body Bd
  have e0 : s₁.heap = h0 := by rw [← hh, Bd.state]; rfl
  have N0 := Fr.nil n0
  have K0 : Keep h0 h0 [] := Keep.refl h0 []
  show own_Fin p e below s (Q_own_rm4 Z a1 h0 n0) R_own_rm4.cells R_own_rm4.slots (s₁.setTop (entryFrame m #[(.ref a1)] 1))
  refine own_go (fun _ k => castTop (ef_own_rm4 m a1) k) ?_
  show own_Fin _ _ _ _ _ _ _ (s₁.setTop (mkF m 0 #[.val (.ref a1)] []))
  refine own_go (B := s₁.setTop (mkF m 1 #[.val (.ref a1)] [(.ref a1)])) (fun _ k => XS.aloadN X0.here hx rfl (hb hby d4_0) rfl rfl k) ?_
  obtain ⟨T1, X1, e1, st1⟩ := initO X0 hx hZ hown (own_w hw 25 rfl) (own_w hw 11 rfl) (own_w hw 12 rfl) e0 (g := (mkF m 1 #[.val (.ref a1)] [(.ref a1)])) rfl (by rw [hml]; rfl) rfl (hb hby d4_1) (by decide) (W := 0) (by show 2 * 0 + _ ≤ _; exact Nat.le_of_eq rfl) (by decide)
  refine own_go (B := T1.setTop (mkF m 4 #[.val (.ref a1)] [])) st1 ?_
  exact own_retV X1 hx Bd.notSynchronized Bd.returns (hb hby d4_4) e1 ⟨rfl, N0, rfl⟩ (by decide) (by decide)
abbrev R_own_rm3 : Room := { frames := 2, cells := 0, slots := 0, locals := 24 }
theorem d3_0 : decode jdk_2805_method_3_code 0 = .ok (.aload_n 0, 1) := by decide +kernel
theorem d3_1 : decode jdk_2805_method_3_code 1 = .ok (.invokespecial 1, 3) := by decide +kernel
theorem d3_4 : decode jdk_2805_method_3_code 4 = .ok (.return_, 1) := by decide +kernel
theorem own_pn1 : plainName "java/util/concurrent/atomic/AtomicLong" = true := by first | (simp [plainName, overriddenIn]; done) | decide +kernel
theorem ef_own_rm3 (m : MethodId) (x0 : Addr) : entryFrame m #[(.ref x0)] 1 = mkF m 0 #[.val (.ref x0)] [] := by first | (simp [entryFrame, mkF, argsToLocals, Value.category]; done) | rfl
def Q_own_rm3 (Z : State) (a1 : Addr) (h0 : Heap) (n0 : Nat) (v : Option Value) (h : Heap) (L : List Loc) : Prop := v = none ∧ Fr n0 L ∧ h = h0
set_option maxRecDepth 65536 in
set_option maxHeartbeats 400000000 in
theorem own_rm3 (l : Launch) (Z : State) (a0 : Array Value) (hw : ∀ d ∈ tables_1, d.before a0 Z = true) (ws : List Jvm.Cond) (a1 : Addr) (h0 : Heap) (n0 : Nat) (Z0 : n0 ≤ h0.size)  :
    MetFree l (⟨"java/util/concurrent/atomic/AtomicLong", "<init>", "()V"⟩ : MethodName) (head1 (Jvm.Cond.code (⟨"java/util/concurrent/atomic/AtomicLong", "<init>", "()V"⟩ : MethodName) jdk_2805_method_3_code 1 none :: ws) R_own_rm3) (fun a U => a = #[(.ref a1)] ∧ Z.Warmed39 U.vm ∧ U.heap = h0) (fun _ _ _ _ _ => True) (fun _ U o U' => ∃ v L, o = .returned v ∧ Q_own_rm3 Z a1 h0 n0 v U'.heap L ∧ FrameEnd U o U' L R_own_rm3.cells R_own_rm3.slots) := by
  refine MetFree.of_bodySF (plainFor_of_name own_pn1) hisR ?_
  intro p e s m args below meth c s₁ Bd hml0 hP hK
  obtain ⟨rfl, hZ, hh⟩ := hP
  have hx := Bd.exec
  have hby := Bd.bytes
  have hml : c.maxLocals = 1 := hml0
  have hown : s.vm.findClass "java/util/concurrent/atomic/AtomicLong" = some m.cls := findClass_of_methodNamed Bd.named
  have hnm := (name_of_methodNamed Bd.named Bd.method).1
  have X0 : Stand p l e R_own_rm3 s m #[(.ref a1)] below meth c s₁ [] 0 0 := Stand.of_body Bd
  have e0 : s₁.heap = h0 := by rw [← hh, Bd.state]; rfl
  have N0 := Fr.nil n0
  have K0 : Keep h0 h0 [] := Keep.refl h0 []
  show own_Fin p e below s (Q_own_rm3 Z a1 h0 n0) R_own_rm3.cells R_own_rm3.slots (s₁.setTop (entryFrame m #[(.ref a1)] 1))
  refine own_go (fun _ k => castTop (ef_own_rm3 m a1) k) ?_
  show own_Fin _ _ _ _ _ _ _ (s₁.setTop (mkF m 0 #[.val (.ref a1)] []))
  refine own_go (B := s₁.setTop (mkF m 1 #[.val (.ref a1)] [(.ref a1)])) (fun _ k => XS.aloadN X0.here hx rfl (hb hby d3_0) rfl rfl k) ?_
  obtain ⟨_, _, ⟨T1, L1, k1, n1⟩, -, X1, ⟨Lc1, hQ1, l1, y1, z1⟩, st1⟩ := X0.specialBack hx (y := (⟨"java/lang/Number", "<init>", "()V"⟩ : MethodName)) rfl hown (mvT hZ (own_w hw 19 rfl)) (mvT hZ (own_w hw 20 rfl)) (mvT hZ (own_w hw 24 rfl)) (by decide) (backOf (W := 0) (own_rm4 l Z a0 hw [] a1 h0 n0 (Nat.le_trans Z0 K0.1) ) hZ (own_w hw 24 rfl) (own_w hw 23 rfl) (by decide) (by decide)) (g := (mkF m 1 #[.val (.ref a1)] [(.ref a1)])) rfl (by rw [hml]; rfl) (Steps.refl _) (a := a1) (argsL := []) (rest := []) (lenOf own_pd0 rfl) rfl (by show 2 * 0 + _ ≤ _; exact Nat.le_of_eq rfl) (hb hby d3_1) (fun _ _ => ⟨rfl, e0, (by decide : 0 + 0 ≤ _), (by decide : 0 + 0 ≤ _)⟩)
  dsimp only [Pt.U, Pt.locs, Pt.cells, Pt.slots] at X1 l1 y1 z1 st1 hQ1
  subst l1 y1 z1
  obtain ⟨rfl, N1q, e1⟩ := hQ1
  have N1 := Fr.app N0 N1q
  refine own_go (B := T1.setTop (mkF m 4 #[.val (.ref a1)] [])) (fun _ k => st1.trans k) ?_
  exact own_retV X1 hx Bd.notSynchronized Bd.returns (hb hby d3_4) e1 ⟨rfl, N1, rfl⟩ (by decide) (by decide)
abbrev R_own_rm1 : Room := { frames := 3, cells := 1, slots := 1, locals := 38 }
theorem d1_0 : decode prog_89_method_1_code 0 = .ok (.aload_n 0, 1) := by decide +kernel
theorem d1_1 : decode prog_89_method_1_code 1 = .ok (.invokespecial 1, 3) := by decide +kernel
theorem d1_4 : decode prog_89_method_1_code 4 = .ok (.aload_n 0, 1) := by decide +kernel
theorem d1_5 : decode prog_89_method_1_code 5 = .ok (.new 7, 3) := by decide +kernel
theorem d1_8 : decode prog_89_method_1_code 8 = .ok (.dup, 1) := by decide +kernel
theorem d1_9 : decode prog_89_method_1_code 9 = .ok (.invokespecial 9, 3) := by decide +kernel
theorem d1_12 : decode prog_89_method_1_code 12 = .ok (.putfield 10, 3) := by decide +kernel
theorem d1_15 : decode prog_89_method_1_code 15 = .ok (.aload_n 0, 1) := by decide +kernel
theorem d1_16 : decode prog_89_method_1_code 16 = .ok (.lload_n 1, 1) := by decide +kernel
theorem d1_17 : decode prog_89_method_1_code 17 = .ok (.putfield 16, 3) := by decide +kernel
theorem d1_20 : decode prog_89_method_1_code 20 = .ok (.return_, 1) := by decide +kernel
theorem own_pn2 : plainName "com/example/rate_to_limit/ratetolimit/http/ReadBudget" = true := by first | (simp [plainName, overriddenIn]; done) | decide +kernel
theorem ef_own_rm1 (m : MethodId) (x0 : Addr) (x1 : Int64) : entryFrame m #[(.ref x0), (.long x1)] 3 = mkF m 0 #[.val (.ref x0), .val (.long x1), .second] [] := by first | (simp [entryFrame, mkF, argsToLocals, Value.category]; done) | rfl
def Q_own_rm1 (Z : State) (a1 : Addr) (q2 : Int64) (h0 : Heap) (n0 : Nat) (v : Option Value) (h : Heap) (L : List Loc) : Prop := v = none ∧ Fr n0 L ∧ Keep h0 h [a1]
set_option maxRecDepth 65536 in
set_option maxHeartbeats 400000000 in
theorem own_rm1 (l : Launch) (Z : State) (a0 : Array Value) (hw : ∀ d ∈ tables_1, d.before a0 Z = true) (ws : List Jvm.Cond) (a1 : Addr) (q2 : Int64) (h0 : Heap) (n0 : Nat) (Z0 : n0 ≤ h0.size) (P_E_a1 : Exa Z h0 a1 "com/example/rate_to_limit/ratetolimit/http/ReadBudget") (P_F_a1_taken : Fld Z h0 a1 "com/example/rate_to_limit/ratetolimit/http/ReadBudget" "taken" "Ljava/util/concurrent/atomic/AtomicLong;" .null) (P_F_a1_limit : Fld Z h0 a1 "com/example/rate_to_limit/ratetolimit/http/ReadBudget" "limit" "J" (.long (0 : Int64))) (g_a1 : n0 ≤ a1) :
    MetFree l (⟨"com/example/rate_to_limit/ratetolimit/http/ReadBudget", "<init>", "(J)V"⟩ : MethodName) (head1 (Jvm.Cond.code (⟨"com/example/rate_to_limit/ratetolimit/http/ReadBudget", "<init>", "(J)V"⟩ : MethodName) prog_89_method_1_code 3 none :: ws) R_own_rm1) (fun a U => a = #[(.ref a1), (.long q2)] ∧ Z.Warmed39 U.vm ∧ U.heap = h0) (fun _ _ _ _ _ => True) (fun _ U o U' => ∃ v L, o = .returned v ∧ Q_own_rm1 Z a1 q2 h0 n0 v U'.heap L ∧ FrameEnd U o U' L R_own_rm1.cells R_own_rm1.slots) := by
  refine MetFree.of_bodySF (plainFor_of_name own_pn2) hisR ?_
  intro p e s m args below meth c s₁ Bd hml0 hP hK
  obtain ⟨rfl, hZ, hh⟩ := hP
  have hx := Bd.exec
  have hby := Bd.bytes
  have hml : c.maxLocals = 3 := hml0
  have hown : s.vm.findClass "com/example/rate_to_limit/ratetolimit/http/ReadBudget" = some m.cls := findClass_of_methodNamed Bd.named
  have hnm := (name_of_methodNamed Bd.named Bd.method).1
  have X0 : Stand p l e R_own_rm1 s m #[(.ref a1), (.long q2)] below meth c s₁ [] 0 0 := Stand.of_body Bd
  have e0 : s₁.heap = h0 := by rw [← hh, Bd.state]; rfl
  have N0 := Fr.nil n0
  have K0 : Keep h0 h0 [a1] := Keep.refl h0 [a1]
  show own_Fin p e below s (Q_own_rm1 Z a1 q2 h0 n0) R_own_rm1.cells R_own_rm1.slots (s₁.setTop (entryFrame m #[(.ref a1), (.long q2)] 3))
  refine own_go (fun _ k => castTop (ef_own_rm1 m a1 q2) k) ?_
  show own_Fin _ _ _ _ _ _ _ (s₁.setTop (mkF m 0 #[.val (.ref a1), .val (.long q2), .second] []))
  refine own_go (B := s₁.setTop (mkF m 1 #[.val (.ref a1), .val (.long q2), .second] [(.ref a1)])) (fun _ k => XS.aloadN X0.here hx rfl (hb hby d1_0) rfl rfl k) ?_
  obtain ⟨T1, X1, e1, st1⟩ := initO X0 hx hZ hown (own_w hw 10 rfl) (own_w hw 11 rfl) (own_w hw 12 rfl) e0 (g := (mkF m 1 #[.val (.ref a1), .val (.long q2), .second] [(.ref a1)])) rfl (by rw [hml]; rfl) rfl (hb hby d1_1) (by decide) (W := 0) (by show 2 * 0 + _ ≤ _; exact Nat.le_of_eq rfl) (by decide)
  refine own_go (B := T1.setTop (mkF m 4 #[.val (.ref a1), .val (.long q2), .second] [])) st1 ?_
  refine own_go (B := T1.setTop (mkF m 5 #[.val (.ref a1), .val (.long q2), .second] [(.ref a1)])) (fun _ k => XS.aloadN X1.here hx rfl (hb hby d1_4) rfl rfl k) ?_
  obtain ⟨T2, h2, X2, e2, E2, A2, D2, -, st2⟩ := newO X1 hx hZ hown (own_w hw 13 rfl) (own_w hw 14 rfl) (own_w hw 15 rfl) e1 (g := (mkF m 5 #[.val (.ref a1), .val (.long q2), .second] [(.ref a1)])) rfl (hb hby d1_5) (by decide) (by decide)
  obtain ⟨b2, g2⟩ : ∃ z, z = h0.size := ⟨_, rfl⟩
  rw [← g2] at A2 D2 st2
  have ne_a1_b2_3 : a1 ≠ b2 := Nat.ne_of_lt (Nat.lt_of_lt_of_le P_E_a1.lt (Nat.le_of_eq g2.symm))
  have sz_b2 : h0.size ≤ b2 := Nat.le_trans K0.1 (Nat.le_of_eq g2.symm)
  have g_b2 : n0 ≤ b2 := Nat.le_trans Z0 sz_b2
  have E_5 := P_E_a1.ext E2
  have F_6 := P_F_a1_taken.ext E2
  have F_7 := P_F_a1_limit.ext E2
  have K8 : Keep h0 h2 [a1] := K0.ext E2
  refine own_go (B := T2.setTop (mkF m 8 #[.val (.ref a1), .val (.long q2), .second] [(.ref b2), (.ref a1)])) st2 ?_
  refine own_go (B := T2.setTop (mkF m 9 #[.val (.ref a1), .val (.long q2), .second] [(.ref b2), (.ref b2), (.ref a1)])) (fun _ k => XS.dup X2.here hx rfl (hb hby d1_8) rfl rfl k) ?_
  obtain ⟨_, _, ⟨T9, L9, k9, n9⟩, -, X9, ⟨Lc9, hQ9, l9, y9, z9⟩, st9⟩ := X2.specialBack hx (y := (⟨"java/util/concurrent/atomic/AtomicLong", "<init>", "()V"⟩ : MethodName)) rfl hown (mvT hZ (own_w hw 16 rfl)) (mvT hZ (own_w hw 17 rfl)) (mvT hZ (own_w hw 18 rfl)) (by decide) (backOf (W := 2) (own_rm3 l Z a0 hw [] b2 h2 n0 (Nat.le_trans Z0 K8.1) ) hZ (own_w hw 18 rfl) (own_w hw 15 rfl) (by decide) (by decide)) (g := (mkF m 9 #[.val (.ref a1), .val (.long q2), .second] [(.ref b2), (.ref b2), (.ref a1)])) rfl (by rw [hml]; rfl) (Steps.refl _) (a := b2) (argsL := []) (rest := [(.ref b2), (.ref a1)]) (lenOf own_pd0 rfl) rfl (by show 2 * 0 + _ ≤ _; exact Nat.le_of_eq rfl) (hb hby d1_9) (fun _ _ => ⟨rfl, e2, (by decide : 1 + 0 ≤ _), (by decide : 1 + 0 ≤ _)⟩)
  dsimp only [Pt.U, Pt.locs, Pt.cells, Pt.slots] at X9 l9 y9 z9 st9 hQ9
  subst l9 y9 z9
  obtain ⟨rfl, N9q, e9⟩ := hQ9
  have N9 := Fr.app N0 N9q
  refine own_go (B := T9.setTop (mkF m 12 #[.val (.ref a1), .val (.long q2), .second] [(.ref b2), (.ref a1)])) (fun _ k => st9.trans k) ?_
  obtain ⟨T10, h10, X10, e10, W10, st10⟩ := putF X9 hx hZ hown (host := "") (Or.inl (own_w hw 26 rfl)) Via.refl e9 F_6 E_5 (Or.inr ⟨(own_w hw 27 rfl), rfl, hnm⟩) (own_w hw 5 rfl) (ty := (.object "java/util/concurrent/atomic/AtomicLong")) (by decide) rfl rfl (g := (mkF m 12 #[.val (.ref a1), .val (.long q2), .second] [(.ref b2), (.ref a1)])) rfl rfl (hb hby d1_12)
  have F_w10 : Fld Z h10 a1 "com/example/rate_to_limit/ratetolimit/http/ReadBudget" "taken" "Ljava/util/concurrent/atomic/AtomicLong;" (.ref b2) := F_6.same W10
  have E_12 := E_5.wr W10
  have F_14 := F_7.other W10 (Or.inr (slot_ne (Or.inr (own_w hw 29 rfl)) (Or.inr (own_w hw 27 rfl)) (by decide) (t := .long) (t' := (.object "java/util/concurrent/atomic/AtomicLong")) (by decide) (by decide)))
  have E_15 := A2.wr W10
  have K16 : Keep h0 h10 [a1] := K8.wr W10 (Or.inl (List.mem_of_getElem? (i := 0) rfl))
  have N10 := Fr.snoc X10 N9 g_a1
  refine own_go (B := T10.setTop (mkF m 15 #[.val (.ref a1), .val (.long q2), .second] [])) st10 ?_
  refine own_go (B := T10.setTop (mkF m 16 #[.val (.ref a1), .val (.long q2), .second] [(.ref a1)])) (fun _ k => XS.aloadN X10.here hx rfl (hb hby d1_15) rfl rfl k) ?_
  refine own_go (B := T10.setTop (mkF m 17 #[.val (.ref a1), .val (.long q2), .second] [(.long q2), (.ref a1)])) (fun _ k => XS.lloadN X10.here hx rfl (hb hby d1_16) rfl  k) ?_
  obtain ⟨T17, h17, X17, e17, W17, st17⟩ := putF X10 hx hZ hown (host := "") (Or.inl (own_w hw 28 rfl)) Via.refl e10 F_14 E_12 (Or.inr ⟨(own_w hw 29 rfl), rfl, hnm⟩) (own_w hw 5 rfl) (ty := .long) (by decide) rfl rfl (g := (mkF m 17 #[.val (.ref a1), .val (.long q2), .second] [(.long q2), (.ref a1)])) rfl rfl (hb hby d1_17)
  have F_w17 : Fld Z h17 a1 "com/example/rate_to_limit/ratetolimit/http/ReadBudget" "limit" "J" (.long q2) := F_14.same W17
  have E_19 := E_12.wr W17
  have E_21 := E_15.wr W17
  have F_22 := F_w10.other W17 (Or.inr (slot_ne (Or.inr (own_w hw 27 rfl)) (Or.inr (own_w hw 29 rfl)) (by decide) (t := (.object "java/util/concurrent/atomic/AtomicLong")) (t' := .long) (by decide) (by decide)))
  have K23 : Keep h0 h17 [a1] := K16.wr W17 (Or.inl (List.mem_of_getElem? (i := 0) rfl))
  have N17 := Fr.snoc X17 N10 g_a1
  refine own_go (B := T17.setTop (mkF m 20 #[.val (.ref a1), .val (.long q2), .second] [])) st17 ?_
  exact own_retV X17 hx Bd.notSynchronized Bd.returns (hb hby d1_20) e17 ⟨rfl, N17, K23⟩ (by decide) (by decide)
abbrev R_own_rm5 : Room := { frames := 1, cells := 0, slots := 0, locals := 12 }
theorem d5_0 : decode prog_86_method_2_code 0 = .ok (.aload_n 0, 1) := by decide +kernel
theorem d5_1 : decode prog_86_method_2_code 1 = .ok (.invokespecial 11, 3) := by decide +kernel
theorem d5_4 : decode prog_86_method_2_code 4 = .ok (.aload_n 0, 1) := by decide +kernel
theorem d5_5 : decode prog_86_method_2_code 5 = .ok (.iload_n 1, 1) := by decide +kernel
theorem d5_6 : decode prog_86_method_2_code 6 = .ok (.putfield 16, 3) := by decide +kernel
theorem d5_9 : decode prog_86_method_2_code 9 = .ok (.aload_n 0, 1) := by decide +kernel
theorem d5_10 : decode prog_86_method_2_code 10 = .ok (.aload_n 2, 1) := by decide +kernel
theorem d5_11 : decode prog_86_method_2_code 11 = .ok (.putfield 20, 3) := by decide +kernel
theorem d5_14 : decode prog_86_method_2_code 14 = .ok (.aload_n 0, 1) := by decide +kernel
theorem d5_15 : decode prog_86_method_2_code 15 = .ok (.lload_n 3, 1) := by decide +kernel
theorem d5_16 : decode prog_86_method_2_code 16 = .ok (.putfield 24, 3) := by decide +kernel
theorem d5_19 : decode prog_86_method_2_code 19 = .ok (.aload_n 0, 1) := by decide +kernel
theorem d5_20 : decode prog_86_method_2_code 20 = .ok (.lload 5, 2) := by decide +kernel
theorem d5_22 : decode prog_86_method_2_code 22 = .ok (.putfield 28, 3) := by decide +kernel
theorem d5_25 : decode prog_86_method_2_code 25 = .ok (.return_, 1) := by decide +kernel
theorem own_pn3 : plainName "com/example/rate_to_limit/ratetolimit/http/Limits" = true := by first | (simp [plainName, overriddenIn]; done) | decide +kernel
theorem ef_own_rm5 (m : MethodId) (x0 : Addr) (x1 : Int32) (x2 : Addr) (x3 : Int64) (x4 : Int64) : entryFrame m #[(.ref x0), (.int x1), (.ref x2), (.long x3), (.long x4)] 7 = mkF m 0 #[.val (.ref x0), .val (.int x1), .val (.ref x2), .val (.long x3), .second, .val (.long x4), .second] [] := by first | (simp [entryFrame, mkF, argsToLocals, Value.category]; done) | rfl
def Q_own_rm5 (Z : State) (a1 : Addr) (p2 : Int32) (a3 : Addr) (q4 : Int64) (q5 : Int64) (h0 : Heap) (n0 : Nat) (v : Option Value) (h : Heap) (L : List Loc) : Prop := v = none ∧ Fr n0 L ∧ Keep h0 h [a1] ∧ Exa Z h a1 "com/example/rate_to_limit/ratetolimit/http/Limits" ∧ Fld Z h a1 "com/example/rate_to_limit/ratetolimit/http/Limits" "idleMs" "J" (.long q4) ∧ Fld Z h a1 "com/example/rate_to_limit/ratetolimit/http/Limits" "requestMs" "J" (.long q5)
set_option maxRecDepth 65536 in
set_option maxHeartbeats 400000000 in
theorem own_rm5 (l : Launch) (Z : State) (a0 : Array Value) (hw : ∀ d ∈ tables_1, d.before a0 Z = true) (ws : List Jvm.Cond) (a1 : Addr) (p2 : Int32) (a3 : Addr) (q4 : Int64) (q5 : Int64) (h0 : Heap) (n0 : Nat) (Z0 : n0 ≤ h0.size) (P_E_a1 : Exa Z h0 a1 "com/example/rate_to_limit/ratetolimit/http/Limits") (P_F_a1_bodyLimit : Fld Z h0 a1 "com/example/rate_to_limit/ratetolimit/http/Limits" "bodyLimit" "I" (.int (0 : Int32))) (P_F_a1_readBudget : Fld Z h0 a1 "com/example/rate_to_limit/ratetolimit/http/Limits" "readBudget" "Lcom/example/rate_to_limit/ratetolimit/http/ReadBudget;" .null) (P_F_a1_idleMs : Fld Z h0 a1 "com/example/rate_to_limit/ratetolimit/http/Limits" "idleMs" "J" (.long (0 : Int64))) (P_F_a1_requestMs : Fld Z h0 a1 "com/example/rate_to_limit/ratetolimit/http/Limits" "requestMs" "J" (.long (0 : Int64))) (g_a1 : n0 ≤ a1) :
    MetFree l (⟨"com/example/rate_to_limit/ratetolimit/http/Limits", "<init>", "(ILcom/example/rate_to_limit/ratetolimit/http/ReadBudget;JJ)V"⟩ : MethodName) (head1 (Jvm.Cond.code (⟨"com/example/rate_to_limit/ratetolimit/http/Limits", "<init>", "(ILcom/example/rate_to_limit/ratetolimit/http/ReadBudget;JJ)V"⟩ : MethodName) prog_86_method_2_code 7 none :: ws) R_own_rm5) (fun a U => a = #[(.ref a1), (.int p2), (.ref a3), (.long q4), (.long q5)] ∧ Z.Warmed39 U.vm ∧ U.heap = h0) (fun _ _ _ _ _ => True) (fun _ U o U' => ∃ v L, o = .returned v ∧ Q_own_rm5 Z a1 p2 a3 q4 q5 h0 n0 v U'.heap L ∧ FrameEnd U o U' L R_own_rm5.cells R_own_rm5.slots) := by
  refine MetFree.of_bodySF (plainFor_of_name own_pn3) hisR ?_
  intro p e s m args below meth c s₁ Bd hml0 hP hK
  obtain ⟨rfl, hZ, hh⟩ := hP
  have hx := Bd.exec
  have hby := Bd.bytes
  have hml : c.maxLocals = 7 := hml0
  have hown : s.vm.findClass "com/example/rate_to_limit/ratetolimit/http/Limits" = some m.cls := findClass_of_methodNamed Bd.named
  have hnm := (name_of_methodNamed Bd.named Bd.method).1
  have X0 : Stand p l e R_own_rm5 s m #[(.ref a1), (.int p2), (.ref a3), (.long q4), (.long q5)] below meth c s₁ [] 0 0 := Stand.of_body Bd
  have e0 : s₁.heap = h0 := by rw [← hh, Bd.state]; rfl
  have N0 := Fr.nil n0
  have K0 : Keep h0 h0 [a1] := Keep.refl h0 [a1]
  show own_Fin p e below s (Q_own_rm5 Z a1 p2 a3 q4 q5 h0 n0) R_own_rm5.cells R_own_rm5.slots (s₁.setTop (entryFrame m #[(.ref a1), (.int p2), (.ref a3), (.long q4), (.long q5)] 7))
  refine own_go (fun _ k => castTop (ef_own_rm5 m a1 p2 a3 q4 q5) k) ?_
  show own_Fin _ _ _ _ _ _ _ (s₁.setTop (mkF m 0 #[.val (.ref a1), .val (.int p2), .val (.ref a3), .val (.long q4), .second, .val (.long q5), .second] []))
  refine own_go (B := s₁.setTop (mkF m 1 #[.val (.ref a1), .val (.int p2), .val (.ref a3), .val (.long q4), .second, .val (.long q5), .second] [(.ref a1)])) (fun _ k => XS.aloadN X0.here hx rfl (hb hby d5_0) rfl rfl k) ?_
  obtain ⟨T1, X1, e1, st1⟩ := initO X0 hx hZ hown (own_w hw 33 rfl) (own_w hw 11 rfl) (own_w hw 12 rfl) e0 (g := (mkF m 1 #[.val (.ref a1), .val (.int p2), .val (.ref a3), .val (.long q4), .second, .val (.long q5), .second] [(.ref a1)])) rfl (by rw [hml]; rfl) rfl (hb hby d5_1) (by decide) (W := 0) (by show 2 * 0 + _ ≤ _; exact Nat.le_of_eq rfl) (by decide)
  refine own_go (B := T1.setTop (mkF m 4 #[.val (.ref a1), .val (.int p2), .val (.ref a3), .val (.long q4), .second, .val (.long q5), .second] [])) st1 ?_
  refine own_go (B := T1.setTop (mkF m 5 #[.val (.ref a1), .val (.int p2), .val (.ref a3), .val (.long q4), .second, .val (.long q5), .second] [(.ref a1)])) (fun _ k => XS.aloadN X1.here hx rfl (hb hby d5_4) rfl rfl k) ?_
  refine own_go (B := T1.setTop (mkF m 6 #[.val (.ref a1), .val (.int p2), .val (.ref a3), .val (.long q4), .second, .val (.long q5), .second] [(.int p2), (.ref a1)])) (fun _ k => XS.iloadN X1.here hx rfl (hb hby d5_5) rfl  k) ?_
  obtain ⟨T2, h2, X2, e2, W2, st2⟩ := putF X1 hx hZ hown (host := "") (Or.inl (own_w hw 34 rfl)) Via.refl e1 P_F_a1_bodyLimit P_E_a1 (Or.inr ⟨(own_w hw 35 rfl), rfl, hnm⟩) (own_w hw 2 rfl) (ty := .int) (by decide) rfl rfl (g := (mkF m 6 #[.val (.ref a1), .val (.int p2), .val (.ref a3), .val (.long q4), .second, .val (.long q5), .second] [(.int p2), (.ref a1)])) rfl rfl (hb hby d5_6)
  have F_w2 : Fld Z h2 a1 "com/example/rate_to_limit/ratetolimit/http/Limits" "bodyLimit" "I" (.int p2) := P_F_a1_bodyLimit.same W2
  have E_4 := P_E_a1.wr W2
  have F_6 := P_F_a1_readBudget.other W2 (Or.inr (slot_ne (Or.inr (own_w hw 37 rfl)) (Or.inr (own_w hw 35 rfl)) (by decide) (t := (.object "com/example/rate_to_limit/ratetolimit/http/ReadBudget")) (t' := .int) (by decide) (by decide)))
  have F_7 := P_F_a1_idleMs.other W2 (Or.inr (slot_ne (Or.inr (own_w hw 39 rfl)) (Or.inr (own_w hw 35 rfl)) (by decide) (t := .long) (t' := .int) (by decide) (by decide)))
  have F_8 := P_F_a1_requestMs.other W2 (Or.inr (slot_ne (Or.inr (own_w hw 41 rfl)) (Or.inr (own_w hw 35 rfl)) (by decide) (t := .long) (t' := .int) (by decide) (by decide)))
  have K9 : Keep h0 h2 [a1] := K0.wr W2 (Or.inl (List.mem_of_getElem? (i := 0) rfl))
  have N2 := Fr.snoc X2 N0 g_a1
  refine own_go (B := T2.setTop (mkF m 9 #[.val (.ref a1), .val (.int p2), .val (.ref a3), .val (.long q4), .second, .val (.long q5), .second] [])) st2 ?_
  refine own_go (B := T2.setTop (mkF m 10 #[.val (.ref a1), .val (.int p2), .val (.ref a3), .val (.long q4), .second, .val (.long q5), .second] [(.ref a1)])) (fun _ k => XS.aloadN X2.here hx rfl (hb hby d5_9) rfl rfl k) ?_
  refine own_go (B := T2.setTop (mkF m 11 #[.val (.ref a1), .val (.int p2), .val (.ref a3), .val (.long q4), .second, .val (.long q5), .second] [(.ref a3), (.ref a1)])) (fun _ k => XS.aloadN X2.here hx rfl (hb hby d5_10) rfl rfl k) ?_
  obtain ⟨T10, h10, X10, e10, W10, st10⟩ := putF X2 hx hZ hown (host := "") (Or.inl (own_w hw 36 rfl)) Via.refl e2 F_6 E_4 (Or.inr ⟨(own_w hw 37 rfl), rfl, hnm⟩) (own_w hw 2 rfl) (ty := (.object "com/example/rate_to_limit/ratetolimit/http/ReadBudget")) (by decide) rfl rfl (g := (mkF m 11 #[.val (.ref a1), .val (.int p2), .val (.ref a3), .val (.long q4), .second, .val (.long q5), .second] [(.ref a3), (.ref a1)])) rfl rfl (hb hby d5_11)
  have F_w10 : Fld Z h10 a1 "com/example/rate_to_limit/ratetolimit/http/Limits" "readBudget" "Lcom/example/rate_to_limit/ratetolimit/http/ReadBudget;" (.ref a3) := F_6.same W10
  have E_12 := E_4.wr W10
  have F_14 := F_7.other W10 (Or.inr (slot_ne (Or.inr (own_w hw 39 rfl)) (Or.inr (own_w hw 37 rfl)) (by decide) (t := .long) (t' := (.object "com/example/rate_to_limit/ratetolimit/http/ReadBudget")) (by decide) (by decide)))
  have F_15 := F_8.other W10 (Or.inr (slot_ne (Or.inr (own_w hw 41 rfl)) (Or.inr (own_w hw 37 rfl)) (by decide) (t := .long) (t' := (.object "com/example/rate_to_limit/ratetolimit/http/ReadBudget")) (by decide) (by decide)))
  have F_16 := F_w2.other W10 (Or.inr (slot_ne (Or.inr (own_w hw 35 rfl)) (Or.inr (own_w hw 37 rfl)) (by decide) (t := .int) (t' := (.object "com/example/rate_to_limit/ratetolimit/http/ReadBudget")) (by decide) (by decide)))
  have K17 : Keep h0 h10 [a1] := K9.wr W10 (Or.inl (List.mem_of_getElem? (i := 0) rfl))
  have N10 := Fr.snoc X10 N2 g_a1
  refine own_go (B := T10.setTop (mkF m 14 #[.val (.ref a1), .val (.int p2), .val (.ref a3), .val (.long q4), .second, .val (.long q5), .second] [])) st10 ?_
  refine own_go (B := T10.setTop (mkF m 15 #[.val (.ref a1), .val (.int p2), .val (.ref a3), .val (.long q4), .second, .val (.long q5), .second] [(.ref a1)])) (fun _ k => XS.aloadN X10.here hx rfl (hb hby d5_14) rfl rfl k) ?_
  refine own_go (B := T10.setTop (mkF m 16 #[.val (.ref a1), .val (.int p2), .val (.ref a3), .val (.long q4), .second, .val (.long q5), .second] [(.long q4), (.ref a1)])) (fun _ k => XS.lloadN X10.here hx rfl (hb hby d5_15) rfl  k) ?_
  obtain ⟨T18, h18, X18, e18, W18, st18⟩ := putF X10 hx hZ hown (host := "") (Or.inl (own_w hw 38 rfl)) Via.refl e10 F_14 E_12 (Or.inr ⟨(own_w hw 39 rfl), rfl, hnm⟩) (own_w hw 2 rfl) (ty := .long) (by decide) rfl rfl (g := (mkF m 16 #[.val (.ref a1), .val (.int p2), .val (.ref a3), .val (.long q4), .second, .val (.long q5), .second] [(.long q4), (.ref a1)])) rfl rfl (hb hby d5_16)
  have F_w18 : Fld Z h18 a1 "com/example/rate_to_limit/ratetolimit/http/Limits" "idleMs" "J" (.long q4) := F_14.same W18
  have E_20 := E_12.wr W18
  have F_22 := F_15.other W18 (Or.inr (slot_ne (Or.inr (own_w hw 41 rfl)) (Or.inr (own_w hw 39 rfl)) (by decide) (t := .long) (t' := .long) (by decide) (by decide)))
  have F_23 := F_16.other W18 (Or.inr (slot_ne (Or.inr (own_w hw 35 rfl)) (Or.inr (own_w hw 39 rfl)) (by decide) (t := .int) (t' := .long) (by decide) (by decide)))
  have F_24 := F_w10.other W18 (Or.inr (slot_ne (Or.inr (own_w hw 37 rfl)) (Or.inr (own_w hw 39 rfl)) (by decide) (t := (.object "com/example/rate_to_limit/ratetolimit/http/ReadBudget")) (t' := .long) (by decide) (by decide)))
  have K25 : Keep h0 h18 [a1] := K17.wr W18 (Or.inl (List.mem_of_getElem? (i := 0) rfl))
  have N18 := Fr.snoc X18 N10 g_a1
  refine own_go (B := T18.setTop (mkF m 19 #[.val (.ref a1), .val (.int p2), .val (.ref a3), .val (.long q4), .second, .val (.long q5), .second] [])) st18 ?_
  refine own_go (B := T18.setTop (mkF m 20 #[.val (.ref a1), .val (.int p2), .val (.ref a3), .val (.long q4), .second, .val (.long q5), .second] [(.ref a1)])) (fun _ k => XS.aloadN X18.here hx rfl (hb hby d5_19) rfl rfl k) ?_
  refine own_go (B := T18.setTop (mkF m 22 #[.val (.ref a1), .val (.int p2), .val (.ref a3), .val (.long q4), .second, .val (.long q5), .second] [(.long q5), (.ref a1)])) (fun _ k => XS.lload X18.here hx rfl (hb hby d5_20) rfl  k) ?_
  obtain ⟨T26, h26, X26, e26, W26, st26⟩ := putF X18 hx hZ hown (host := "") (Or.inl (own_w hw 40 rfl)) Via.refl e18 F_22 E_20 (Or.inr ⟨(own_w hw 41 rfl), rfl, hnm⟩) (own_w hw 2 rfl) (ty := .long) (by decide) rfl rfl (g := (mkF m 22 #[.val (.ref a1), .val (.int p2), .val (.ref a3), .val (.long q4), .second, .val (.long q5), .second] [(.long q5), (.ref a1)])) rfl rfl (hb hby d5_22)
  have F_w26 : Fld Z h26 a1 "com/example/rate_to_limit/ratetolimit/http/Limits" "requestMs" "J" (.long q5) := F_22.same W26
  have E_28 := E_20.wr W26
  have F_30 := F_23.other W26 (Or.inr (slot_ne (Or.inr (own_w hw 35 rfl)) (Or.inr (own_w hw 41 rfl)) (by decide) (t := .int) (t' := .long) (by decide) (by decide)))
  have F_31 := F_24.other W26 (Or.inr (slot_ne (Or.inr (own_w hw 37 rfl)) (Or.inr (own_w hw 41 rfl)) (by decide) (t := (.object "com/example/rate_to_limit/ratetolimit/http/ReadBudget")) (t' := .long) (by decide) (by decide)))
  have F_32 := F_w18.other W26 (Or.inr (slot_ne (Or.inr (own_w hw 39 rfl)) (Or.inr (own_w hw 41 rfl)) (by decide) (t := .long) (t' := .long) (by decide) (by decide)))
  have K33 : Keep h0 h26 [a1] := K25.wr W26 (Or.inl (List.mem_of_getElem? (i := 0) rfl))
  have N26 := Fr.snoc X26 N18 g_a1
  refine own_go (B := T26.setTop (mkF m 25 #[.val (.ref a1), .val (.int p2), .val (.ref a3), .val (.long q4), .second, .val (.long q5), .second] [])) st26 ?_
  exact own_retV X26 hx Bd.notSynchronized Bd.returns (hb hby d5_25) e26 ⟨rfl, N26, K33, E_28, F_32, F_w26⟩ (by decide) (by decide)
abbrev R_own_rm7 : Room := { frames := 0, cells := 0, slots := 0, locals := 0 }
theorem d7_0 : decode jdk_29_method_70_code 0 = .ok (.lload_n 0, 1) := by decide +kernel
theorem d7_1 : decode jdk_29_method_70_code 1 = .ok (.lload_n 2, 1) := by decide +kernel
theorem d7_2 : decode jdk_29_method_70_code 2 = .ok (.lcmp, 1) := by decide +kernel
theorem d7_3 : decode jdk_29_method_70_code 3 = .ok (.ifCond .gt 7, 3) := by decide +kernel
theorem d7_6 : decode jdk_29_method_70_code 6 = .ok (.lload_n 0, 1) := by decide +kernel
theorem d7_7 : decode jdk_29_method_70_code 7 = .ok (.goto 4, 3) := by decide +kernel
theorem d7_10 : decode jdk_29_method_70_code 10 = .ok (.lload_n 2, 1) := by decide +kernel
theorem d7_11 : decode jdk_29_method_70_code 11 = .ok (.lreturn, 1) := by decide +kernel
theorem ef_own_rm7 (m : MethodId) (x0 : Int64) (x1 : Int64) : entryFrame m #[(.long x0), (.long x1)] 4 = mkF m 0 #[.val (.long x0), .second, .val (.long x1), .second] [] := by first | (simp [entryFrame, mkF, argsToLocals, Value.category]; done) | rfl
set_option maxHeartbeats 2000000 in
theorem own_pl_rm7_1 (q1 : Int64) (q2 : Int64) (hc1 : q2 < q1) : q2.toInt = min q1.toInt q2.toInt := by
  have := rng64 q2
  have := rng64 q1
  try simp only [Int32.lt_iff_toInt_lt, Int32.le_iff_toInt_le, Int64.lt_iff_toInt_lt, Int64.le_iff_toInt_le, ← Int32.toInt_inj, ← Int64.toInt_inj] at *
  all_goals first | omega | (simp; done)
set_option maxHeartbeats 2000000 in
theorem own_pl_rm7_2 (q1 : Int64) (q2 : Int64) (hc1 : ¬ (q2 < q1)) : q1.toInt = min q1.toInt q2.toInt := by
  have := rng64 q2
  have := rng64 q1
  try simp only [Int32.lt_iff_toInt_lt, Int32.le_iff_toInt_le, Int64.lt_iff_toInt_lt, Int64.le_iff_toInt_le, ← Int32.toInt_inj, ← Int64.toInt_inj] at *
  all_goals first | omega | (simp; done)
def Q_own_rm7 (Z : State) (q1 : Int64) (q2 : Int64) (h0 : Heap) (n0 : Nat) (v : Option Value) (h : Heap) (L : List Loc) : Prop := ∃ r : Int64, v = some (.long r) ∧ Fr n0 L ∧ h = h0 ∧ (r.toInt = min q1.toInt q2.toInt)
set_option maxRecDepth 65536 in
set_option maxHeartbeats 400000000 in
theorem own_rm7 (l : Launch) (Z : State) (a0 : Array Value) (hw : ∀ d ∈ tables_1, d.before a0 Z = true) (ws : List Jvm.Cond) (q1 : Int64) (q2 : Int64) (h0 : Heap) (n0 : Nat) (Z0 : n0 ≤ h0.size)  :
    MetFree l (⟨"java/lang/Math", "min", "(JJ)J"⟩ : MethodName) (head1 (Jvm.Cond.code (⟨"java/lang/Math", "min", "(JJ)J"⟩ : MethodName) jdk_29_method_70_code 4 (some .long) :: ws) R_own_rm7) (fun a U => a = #[(.long q1), (.long q2)] ∧ Z.Warmed39 U.vm ∧ U.heap = h0) (fun _ _ _ _ _ => True) (fun _ U o U' => ∃ v L, o = .returned v ∧ Q_own_rm7 Z q1 q2 h0 n0 v U'.heap L ∧ FrameEnd U o U' L R_own_rm7.cells R_own_rm7.slots) := by
  refine MetFree.of_bodySF (Jvm.Free.JP.mathPlain rfl (by decide +kernel)) hisR ?_
  intro p e s m args below meth c s₁ Bd hml0 hP hK
  obtain ⟨rfl, hZ, hh⟩ := hP
  have hx := Bd.exec
  have hby := Bd.bytes
  have hml : c.maxLocals = 4 := hml0
  have hown : s.vm.findClass "java/lang/Math" = some m.cls := findClass_of_methodNamed Bd.named
  have hnm := (name_of_methodNamed Bd.named Bd.method).1
  have X0 : Stand p l e R_own_rm7 s m #[(.long q1), (.long q2)] below meth c s₁ [] 0 0 := Stand.of_body Bd
  have e0 : s₁.heap = h0 := by rw [← hh, Bd.state]; rfl
  have N0 := Fr.nil n0
  have K0 : Keep h0 h0 [] := Keep.refl h0 []
  show own_Fin p e below s (Q_own_rm7 Z q1 q2 h0 n0) R_own_rm7.cells R_own_rm7.slots (s₁.setTop (entryFrame m #[(.long q1), (.long q2)] 4))
  refine own_go (fun _ k => castTop (ef_own_rm7 m q1 q2) k) ?_
  show own_Fin _ _ _ _ _ _ _ (s₁.setTop (mkF m 0 #[.val (.long q1), .second, .val (.long q2), .second] []))
  refine own_go (B := s₁.setTop (mkF m 1 #[.val (.long q1), .second, .val (.long q2), .second] [(.long q1)])) (fun _ k => XS.lloadN X0.here hx rfl (hb hby d7_0) rfl  k) ?_
  refine own_go (B := s₁.setTop (mkF m 2 #[.val (.long q1), .second, .val (.long q2), .second] [(.long q2), (.long q1)])) (fun _ k => XS.lloadN X0.here hx rfl (hb hby d7_1) rfl  k) ?_
  refine own_go (B := s₁.setTop (mkF m 3 #[.val (.long q1), .second, .val (.long q2), .second] [(.int (lcmpW q1 q2))])) (fun _ k => XS.lcmp X0.here hx rfl (hb hby d7_2) rfl k) ?_
  by_cases hc1 : q2 < q1
  · skip
    refine own_go (B := s₁.setTop (mkF m 10 #[.val (.long q1), .second, .val (.long q2), .second] [])) (fun _ k => XS.ifYes X0.here hx rfl (pc0 := 3) (pc' := 10) rfl (hb hby d7_3) rfl ((if0 _ _).trans (tlt ((lw_gt q1 q2).mpr hc1)).2.2.1) (by decide) (by decide) k) ?_
    refine own_go (B := s₁.setTop (mkF m 11 #[.val (.long q1), .second, .val (.long q2), .second] [(.long q2)])) (fun _ k => XS.lloadN X0.here hx rfl (hb hby d7_10) rfl  k) ?_
    exact own_retJ X0 hx Bd.notSynchronized Bd.returns (hb hby d7_11) e0 ⟨q2, rfl, N0, rfl, (own_pl_rm7_1 q1 q2 hc1)⟩ (by decide) (by decide)
  · skip
    refine own_go (B := s₁.setTop (mkF m 6 #[.val (.long q1), .second, .val (.long q2), .second] [])) (fun _ k => XS.ifNo X0.here hx rfl (hb hby d7_3) rfl ((if0 _ _).trans (flt (mt (lw_gt q1 q2).mp hc1)).2.2.1) k) ?_
    refine own_go (B := s₁.setTop (mkF m 7 #[.val (.long q1), .second, .val (.long q2), .second] [(.long q1)])) (fun _ k => XS.lloadN X0.here hx rfl (hb hby d7_6) rfl  k) ?_
    refine own_go (B := s₁.setTop (mkF m 11 #[.val (.long q1), .second, .val (.long q2), .second] [(.long q1)])) (fun _ k => XS.goto X0.here hx rfl (pc0 := 7) (pc' := 11) rfl (hb hby d7_7) (by decide) (by decide) k) ?_
    exact own_retJ X0 hx Bd.notSynchronized Bd.returns (hb hby d7_11) e0 ⟨q1, rfl, N0, rfl, (own_pl_rm7_2 q1 q2 hc1)⟩ (by decide) (by decide)
abbrev R_own_rm8 : Room := { frames := 0, cells := 0, slots := 0, locals := 0 }
theorem d8_0 : decode jdk_29_method_66_code 0 = .ok (.lload_n 0, 1) := by decide +kernel
theorem d8_1 : decode jdk_29_method_66_code 1 = .ok (.lload_n 2, 1) := by decide +kernel
theorem d8_2 : decode jdk_29_method_66_code 2 = .ok (.lcmp, 1) := by decide +kernel
theorem d8_3 : decode jdk_29_method_66_code 3 = .ok (.ifCond .lt 7, 3) := by decide +kernel
theorem d8_6 : decode jdk_29_method_66_code 6 = .ok (.lload_n 0, 1) := by decide +kernel
theorem d8_7 : decode jdk_29_method_66_code 7 = .ok (.goto 4, 3) := by decide +kernel
theorem d8_10 : decode jdk_29_method_66_code 10 = .ok (.lload_n 2, 1) := by decide +kernel
theorem d8_11 : decode jdk_29_method_66_code 11 = .ok (.lreturn, 1) := by decide +kernel
theorem ef_own_rm8 (m : MethodId) (x0 : Int64) (x1 : Int64) : entryFrame m #[(.long x0), (.long x1)] 4 = mkF m 0 #[.val (.long x0), .second, .val (.long x1), .second] [] := by first | (simp [entryFrame, mkF, argsToLocals, Value.category]; done) | rfl
set_option maxHeartbeats 2000000 in
theorem own_pl_rm8_1 (q1 : Int64) (q2 : Int64) (hc1 : q1 < q2) : q2.toInt = max q1.toInt q2.toInt := by
  have := rng64 q1
  have := rng64 q2
  try simp only [Int32.lt_iff_toInt_lt, Int32.le_iff_toInt_le, Int64.lt_iff_toInt_lt, Int64.le_iff_toInt_le, ← Int32.toInt_inj, ← Int64.toInt_inj] at *
  all_goals first | omega | (simp; done)
set_option maxHeartbeats 2000000 in
theorem own_pl_rm8_2 (q1 : Int64) (q2 : Int64) (hc1 : ¬ (q1 < q2)) : q1.toInt = max q1.toInt q2.toInt := by
  have := rng64 q1
  have := rng64 q2
  try simp only [Int32.lt_iff_toInt_lt, Int32.le_iff_toInt_le, Int64.lt_iff_toInt_lt, Int64.le_iff_toInt_le, ← Int32.toInt_inj, ← Int64.toInt_inj] at *
  all_goals first | omega | (simp; done)
def Q_own_rm8 (Z : State) (q1 : Int64) (q2 : Int64) (h0 : Heap) (n0 : Nat) (v : Option Value) (h : Heap) (L : List Loc) : Prop := ∃ r : Int64, v = some (.long r) ∧ Fr n0 L ∧ h = h0 ∧ (r.toInt = max q1.toInt q2.toInt)
set_option maxRecDepth 65536 in
set_option maxHeartbeats 400000000 in
theorem own_rm8 (l : Launch) (Z : State) (a0 : Array Value) (hw : ∀ d ∈ tables_1, d.before a0 Z = true) (ws : List Jvm.Cond) (q1 : Int64) (q2 : Int64) (h0 : Heap) (n0 : Nat) (Z0 : n0 ≤ h0.size)  :
    MetFree l (⟨"java/lang/Math", "max", "(JJ)J"⟩ : MethodName) (head1 (Jvm.Cond.code (⟨"java/lang/Math", "max", "(JJ)J"⟩ : MethodName) jdk_29_method_66_code 4 (some .long) :: ws) R_own_rm8) (fun a U => a = #[(.long q1), (.long q2)] ∧ Z.Warmed39 U.vm ∧ U.heap = h0) (fun _ _ _ _ _ => True) (fun _ U o U' => ∃ v L, o = .returned v ∧ Q_own_rm8 Z q1 q2 h0 n0 v U'.heap L ∧ FrameEnd U o U' L R_own_rm8.cells R_own_rm8.slots) := by
  refine MetFree.of_bodySF (Jvm.Free.JP.mathPlain rfl (by decide +kernel)) hisR ?_
  intro p e s m args below meth c s₁ Bd hml0 hP hK
  obtain ⟨rfl, hZ, hh⟩ := hP
  have hx := Bd.exec
  have hby := Bd.bytes
  have hml : c.maxLocals = 4 := hml0
  have hown : s.vm.findClass "java/lang/Math" = some m.cls := findClass_of_methodNamed Bd.named
  have hnm := (name_of_methodNamed Bd.named Bd.method).1
  have X0 : Stand p l e R_own_rm8 s m #[(.long q1), (.long q2)] below meth c s₁ [] 0 0 := Stand.of_body Bd
  have e0 : s₁.heap = h0 := by rw [← hh, Bd.state]; rfl
  have N0 := Fr.nil n0
  have K0 : Keep h0 h0 [] := Keep.refl h0 []
  show own_Fin p e below s (Q_own_rm8 Z q1 q2 h0 n0) R_own_rm8.cells R_own_rm8.slots (s₁.setTop (entryFrame m #[(.long q1), (.long q2)] 4))
  refine own_go (fun _ k => castTop (ef_own_rm8 m q1 q2) k) ?_
  show own_Fin _ _ _ _ _ _ _ (s₁.setTop (mkF m 0 #[.val (.long q1), .second, .val (.long q2), .second] []))
  refine own_go (B := s₁.setTop (mkF m 1 #[.val (.long q1), .second, .val (.long q2), .second] [(.long q1)])) (fun _ k => XS.lloadN X0.here hx rfl (hb hby d8_0) rfl  k) ?_
  refine own_go (B := s₁.setTop (mkF m 2 #[.val (.long q1), .second, .val (.long q2), .second] [(.long q2), (.long q1)])) (fun _ k => XS.lloadN X0.here hx rfl (hb hby d8_1) rfl  k) ?_
  refine own_go (B := s₁.setTop (mkF m 3 #[.val (.long q1), .second, .val (.long q2), .second] [(.int (lcmpW q1 q2))])) (fun _ k => XS.lcmp X0.here hx rfl (hb hby d8_2) rfl k) ?_
  by_cases hc1 : q1 < q2
  · skip
    refine own_go (B := s₁.setTop (mkF m 10 #[.val (.long q1), .second, .val (.long q2), .second] [])) (fun _ k => XS.ifYes X0.here hx rfl (pc0 := 3) (pc' := 10) rfl (hb hby d8_3) rfl ((if0 _ _).trans (tlt ((lw_lt q1 q2).mpr hc1)).1) (by decide) (by decide) k) ?_
    refine own_go (B := s₁.setTop (mkF m 11 #[.val (.long q1), .second, .val (.long q2), .second] [(.long q2)])) (fun _ k => XS.lloadN X0.here hx rfl (hb hby d8_10) rfl  k) ?_
    exact own_retJ X0 hx Bd.notSynchronized Bd.returns (hb hby d8_11) e0 ⟨q2, rfl, N0, rfl, (own_pl_rm8_1 q1 q2 hc1)⟩ (by decide) (by decide)
  · skip
    refine own_go (B := s₁.setTop (mkF m 6 #[.val (.long q1), .second, .val (.long q2), .second] [])) (fun _ k => XS.ifNo X0.here hx rfl (hb hby d8_3) rfl ((if0 _ _).trans (flt (mt (lw_lt q1 q2).mp hc1)).1) k) ?_
    refine own_go (B := s₁.setTop (mkF m 7 #[.val (.long q1), .second, .val (.long q2), .second] [(.long q1)])) (fun _ k => XS.lloadN X0.here hx rfl (hb hby d8_6) rfl  k) ?_
    refine own_go (B := s₁.setTop (mkF m 11 #[.val (.long q1), .second, .val (.long q2), .second] [(.long q1)])) (fun _ k => XS.goto X0.here hx rfl (pc0 := 7) (pc' := 11) rfl (hb hby d8_7) (by decide) (by decide) k) ?_
    exact own_retJ X0 hx Bd.notSynchronized Bd.returns (hb hby d8_11) e0 ⟨q1, rfl, N0, rfl, (own_pl_rm8_2 q1 q2 hc1)⟩ (by decide) (by decide)
abbrev R_own_rm6 : Room := { frames := 1, cells := 0, slots := 0, locals := 19 }
theorem d6_0 : decode prog_86_method_7_code 0 = .ok (.lconst 1, 1) := by decide +kernel
theorem d6_1 : decode prog_86_method_7_code 1 = .ok (.ldc2_w 31, 3) := by decide +kernel
theorem d6_4 : decode prog_86_method_7_code 4 = .ok (.aload_n 0, 1) := by decide +kernel
theorem d6_5 : decode prog_86_method_7_code 5 = .ok (.getfield 24, 3) := by decide +kernel
theorem d6_8 : decode prog_86_method_7_code 8 = .ok (.aload_n 0, 1) := by decide +kernel
theorem d6_9 : decode prog_86_method_7_code 9 = .ok (.getfield 28, 3) := by decide +kernel
theorem d6_12 : decode prog_86_method_7_code 12 = .ok (.invokestatic 33, 3) := by decide +kernel
theorem d6_15 : decode prog_86_method_7_code 15 = .ok (.ldc2_w 39, 3) := by decide +kernel
theorem d6_18 : decode prog_86_method_7_code 18 = .ok (.ldiv, 1) := by decide +kernel
theorem d6_19 : decode prog_86_method_7_code 19 = .ok (.invokestatic 33, 3) := by decide +kernel
theorem d6_22 : decode prog_86_method_7_code 22 = .ok (.invokestatic 41, 3) := by decide +kernel
theorem d6_25 : decode prog_86_method_7_code 25 = .ok (.lreturn, 1) := by decide +kernel
theorem ef_own_rm6 (m : MethodId) (x0 : Addr) : entryFrame m #[(.ref x0)] 1 = mkF m 0 #[.val (.ref x0)] [] := by first | (simp [entryFrame, mkF, argsToLocals, Value.category]; done) | rfl
set_option maxHeartbeats 2000000 in
theorem own_pl_rm6_1 (q1 : Int64) (q2 : Int64) (r_3 : Int64) (r_5 : Int64) (r_6 : Int64) (hq1 : 1 ≤ q1.toInt) (hq2 : 1 ≤ q2.toInt) (x3_0 : r_3.toInt = min q1.toInt q2.toInt) (x5_0 : r_5.toInt = min (1000 : Int64).toInt (r_3 / (4 : Int64)).toInt) (x6_0 : r_6.toInt = max (1 : Int64).toInt r_5.toInt) : r_6.toInt = max 1 (min 1000 (min q1.toInt q2.toInt / 4)) := by
  have := rng64 q1
  have := rng64 q2
  have := rng64 r_3
  have := rng64 (r_3 / (4 : Int64))
  have := own_div64 (x := r_3) (y := (4 : Int64)) (by omega) (by decide)
  have := rng64 r_5
  have := rng64 r_6
  try simp only [own_i64_1, own_i64_4, own_i64_1000] at *
  have := own_i64_1
  have := own_i64_4
  have := own_i64_1000
  try simp only [Int32.lt_iff_toInt_lt, Int32.le_iff_toInt_le, Int64.lt_iff_toInt_lt, Int64.le_iff_toInt_le, ← Int32.toInt_inj, ← Int64.toInt_inj] at *
  all_goals first | omega | (simp; done)
def Q_own_rm6 (Z : State) (a1 : Addr) (q1 : Int64) (q2 : Int64) (h0 : Heap) (n0 : Nat) (v : Option Value) (h : Heap) (L : List Loc) : Prop := ∃ r : Int64, v = some (.long r) ∧ Fr n0 L ∧ h = h0 ∧ (r.toInt = max 1 (min 1000 (min q1.toInt q2.toInt / 4)))
set_option maxRecDepth 65536 in
set_option maxHeartbeats 400000000 in
theorem own_rm6 (l : Launch) (Z : State) (a0 : Array Value) (hw : ∀ d ∈ tables_1, d.before a0 Z = true) (ws : List Jvm.Cond) (a1 : Addr) (q1 : Int64) (q2 : Int64) (h0 : Heap) (n0 : Nat) (Z0 : n0 ≤ h0.size) (P_F_a1_idleMs : Fld Z h0 a1 "com/example/rate_to_limit/ratetolimit/http/Limits" "idleMs" "J" (.long q1)) (P_F_a1_requestMs : Fld Z h0 a1 "com/example/rate_to_limit/ratetolimit/http/Limits" "requestMs" "J" (.long q2)) (hq1 : 1 ≤ q1.toInt) (hq2 : 1 ≤ q2.toInt) :
    MetFree l (⟨"com/example/rate_to_limit/ratetolimit/http/Limits", "sweepMs", "()J"⟩ : MethodName) (head1 (Jvm.Cond.code (⟨"com/example/rate_to_limit/ratetolimit/http/Limits", "sweepMs", "()J"⟩ : MethodName) prog_86_method_7_code 1 (some .long) :: ws) R_own_rm6) (fun a U => a = #[(.ref a1)] ∧ Z.Warmed39 U.vm ∧ U.heap = h0) (fun _ _ _ _ _ => True) (fun _ U o U' => ∃ v L, o = .returned v ∧ Q_own_rm6 Z a1 q1 q2 h0 n0 v U'.heap L ∧ FrameEnd U o U' L R_own_rm6.cells R_own_rm6.slots) := by
  refine MetFree.of_bodySF (plainFor_of_name own_pn3) hisR ?_
  intro p e s m args below meth c s₁ Bd hml0 hP hK
  obtain ⟨rfl, hZ, hh⟩ := hP
  have hx := Bd.exec
  have hby := Bd.bytes
  have hml : c.maxLocals = 1 := hml0
  have hown : s.vm.findClass "com/example/rate_to_limit/ratetolimit/http/Limits" = some m.cls := findClass_of_methodNamed Bd.named
  have hnm := (name_of_methodNamed Bd.named Bd.method).1
  have X0 : Stand p l e R_own_rm6 s m #[(.ref a1)] below meth c s₁ [] 0 0 := Stand.of_body Bd
  have e0 : s₁.heap = h0 := by rw [← hh, Bd.state]; rfl
  have N0 := Fr.nil n0
  have K0 : Keep h0 h0 [] := Keep.refl h0 []
  show own_Fin p e below s (Q_own_rm6 Z a1 q1 q2 h0 n0) R_own_rm6.cells R_own_rm6.slots (s₁.setTop (entryFrame m #[(.ref a1)] 1))
  refine own_go (fun _ k => castTop (ef_own_rm6 m a1) k) ?_
  show own_Fin _ _ _ _ _ _ _ (s₁.setTop (mkF m 0 #[.val (.ref a1)] []))
  refine own_go (B := s₁.setTop (mkF m 1 #[.val (.ref a1)] [(.long (1 : Int64))])) (fun _ k => XS.lconst X0.here hx rfl (hb hby d6_0) k) ?_
  refine own_go (B := s₁.setTop (mkF m 4 #[.val (.ref a1)] [(.long (1000 : Int64)), (.long (1 : Int64))])) (fun _ k => X0.ldc2Long hx hown (mvT hZ (own_w hw 47 rfl)) (g := (mkF m 1 #[.val (.ref a1)] [(.long (1 : Int64))])) rfl (hb hby d6_1) _ k) ?_
  refine own_go (B := s₁.setTop (mkF m 5 #[.val (.ref a1)] [(.ref a1), (.long (1000 : Int64)), (.long (1 : Int64))])) (fun _ k => XS.aloadN X0.here hx rfl (hb hby d6_4) rfl rfl k) ?_
  obtain ⟨T1, X1, e1, st1⟩ := getF X0 hx hZ hown (host := "") (Or.inl (own_w hw 38 rfl)) Via.refl e0 P_F_a1_idleMs (g := (mkF m 5 #[.val (.ref a1)] [(.ref a1), (.long (1000 : Int64)), (.long (1 : Int64))])) rfl rfl (hb hby d6_5)
  refine own_go (B := T1.setTop (mkF m 8 #[.val (.ref a1)] [(.long q1), (.long (1000 : Int64)), (.long (1 : Int64))])) st1 ?_
  refine own_go (B := T1.setTop (mkF m 9 #[.val (.ref a1)] [(.ref a1), (.long q1), (.long (1000 : Int64)), (.long (1 : Int64))])) (fun _ k => XS.aloadN X1.here hx rfl (hb hby d6_8) rfl rfl k) ?_
  obtain ⟨T2, X2, e2, st2⟩ := getF X1 hx hZ hown (host := "") (Or.inl (own_w hw 40 rfl)) Via.refl e1 P_F_a1_requestMs (g := (mkF m 9 #[.val (.ref a1)] [(.ref a1), (.long q1), (.long (1000 : Int64)), (.long (1 : Int64))])) rfl rfl (hb hby d6_9)
  refine own_go (B := T2.setTop (mkF m 12 #[.val (.ref a1)] [(.long q2), (.long q1), (.long (1000 : Int64)), (.long (1 : Int64))])) st2 ?_
  obtain ⟨_, _, ⟨T3, L3, k3, n3⟩, -, X3, ⟨Lc3, hQ3, l3, y3, z3⟩, st3⟩ := Jvm.LawKit.callS X2 hx (y := (⟨"java/lang/Math", "min", "(JJ)J"⟩ : MethodName)) hown (mvT hZ (own_w hw 48 rfl)) (mvT hZ (own_w hw 49 rfl)) (mvT hZ (own_w hw 50 rfl)) (mvT hZ (own_w hw 51 rfl)) (by decide) (backOf (W := 4) (own_rm7 l Z a0 hw [] q1 q2 h0 n0 (Nat.le_trans Z0 K0.1) ) hZ (own_w hw 51 rfl) (own_w hw 50 rfl) (by decide) (by decide)) (g := (mkF m 12 #[.val (.ref a1)] [(.long q2), (.long q1), (.long (1000 : Int64)), (.long (1 : Int64))])) rfl (by rw [hml]; rfl) (argsL := [(.long q1), (.long q2)]) (rest := [(.long (1000 : Int64)), (.long (1 : Int64))]) (lenOf own_pd1 rfl) rfl (by show 2 * 0 + _ ≤ _; exact Nat.le_of_eq rfl) (hb hby d6_12) (fun _ _ => ⟨rfl, e2, (by decide : 0 + 0 ≤ _), (by decide : 0 + 0 ≤ _)⟩)
  dsimp only [Pt.U, Pt.locs, Pt.cells, Pt.slots] at X3 l3 y3 z3 st3 hQ3
  subst l3 y3 z3
  obtain ⟨r_3, rfl, N3q, e3, x3_0⟩ := hQ3
  have N3 := Fr.app N0 N3q
  refine own_go (B := T3.setTop (mkF m 15 #[.val (.ref a1)] [(.long r_3), (.long (1000 : Int64)), (.long (1 : Int64))])) st3 ?_
  refine own_go (B := T3.setTop (mkF m 18 #[.val (.ref a1)] [(.long (4 : Int64)), (.long r_3), (.long (1000 : Int64)), (.long (1 : Int64))])) (fun _ k => X3.ldc2Long hx hown (mvT hZ (own_w hw 52 rfl)) (g := (mkF m 15 #[.val (.ref a1)] [(.long r_3), (.long (1000 : Int64)), (.long (1 : Int64))])) rfl (hb hby d6_15) _ k) ?_
  have hnz4 : (4 : Int64) ≠ (0 : Int64) := by decide
  refine own_go (B := T3.setTop (mkF m 19 #[.val (.ref a1)] [(.long (r_3 / (4 : Int64))), (.long (1000 : Int64)), (.long (1 : Int64))])) (fun _ k => XS.ldiv X3.here hx rfl (hb hby d6_18) rfl hnz4 k) ?_
  obtain ⟨_, _, ⟨T5, L5, k5, n5⟩, -, X5, ⟨Lc5, hQ5, l5, y5, z5⟩, st5⟩ := Jvm.LawKit.callS X3 hx (y := (⟨"java/lang/Math", "min", "(JJ)J"⟩ : MethodName)) hown (mvT hZ (own_w hw 48 rfl)) (mvT hZ (own_w hw 49 rfl)) (mvT hZ (own_w hw 50 rfl)) (mvT hZ (own_w hw 51 rfl)) (by decide) (backOf (W := 2) (own_rm7 l Z a0 hw [] (1000 : Int64) (r_3 / (4 : Int64)) h0 n0 (Nat.le_trans Z0 K0.1) ) hZ (own_w hw 51 rfl) (own_w hw 50 rfl) (by decide) (by decide)) (g := (mkF m 19 #[.val (.ref a1)] [(.long (r_3 / (4 : Int64))), (.long (1000 : Int64)), (.long (1 : Int64))])) rfl (by rw [hml]; rfl) (argsL := [(.long (1000 : Int64)), (.long (r_3 / (4 : Int64)))]) (rest := [(.long (1 : Int64))]) (lenOf own_pd1 rfl) rfl (by show 2 * 0 + _ ≤ _; exact Nat.le_of_eq rfl) (hb hby d6_19) (fun _ _ => ⟨rfl, e3, (by decide : 0 + 0 ≤ _), (by decide : 0 + 0 ≤ _)⟩)
  dsimp only [Pt.U, Pt.locs, Pt.cells, Pt.slots] at X5 l5 y5 z5 st5 hQ5
  subst l5 y5 z5
  obtain ⟨r_5, rfl, N5q, e5, x5_0⟩ := hQ5
  have N5 := Fr.app N3 N5q
  refine own_go (B := T5.setTop (mkF m 22 #[.val (.ref a1)] [(.long r_5), (.long (1 : Int64))])) st5 ?_
  obtain ⟨_, _, ⟨T6, L6, k6, n6⟩, -, X6, ⟨Lc6, hQ6, l6, y6, z6⟩, st6⟩ := Jvm.LawKit.callS X5 hx (y := (⟨"java/lang/Math", "max", "(JJ)J"⟩ : MethodName)) hown (mvT hZ (own_w hw 53 rfl)) (mvT hZ (own_w hw 54 rfl)) (mvT hZ (own_w hw 50 rfl)) (mvT hZ (own_w hw 55 rfl)) (by decide) (backOf (W := 0) (own_rm8 l Z a0 hw [] (1 : Int64) r_5 h0 n0 (Nat.le_trans Z0 K0.1) ) hZ (own_w hw 55 rfl) (own_w hw 50 rfl) (by decide) (by decide)) (g := (mkF m 22 #[.val (.ref a1)] [(.long r_5), (.long (1 : Int64))])) rfl (by rw [hml]; rfl) (argsL := [(.long (1 : Int64)), (.long r_5)]) (rest := []) (lenOf own_pd1 rfl) rfl (by show 2 * 0 + _ ≤ _; exact Nat.le_of_eq rfl) (hb hby d6_22) (fun _ _ => ⟨rfl, e5, (by decide : 0 + 0 ≤ _), (by decide : 0 + 0 ≤ _)⟩)
  dsimp only [Pt.U, Pt.locs, Pt.cells, Pt.slots] at X6 l6 y6 z6 st6 hQ6
  subst l6 y6 z6
  obtain ⟨r_6, rfl, N6q, e6, x6_0⟩ := hQ6
  have N6 := Fr.app N5 N6q
  refine own_go (B := T6.setTop (mkF m 25 #[.val (.ref a1)] [(.long r_6)])) st6 ?_
  exact own_retJ X6 hx Bd.notSynchronized Bd.returns (hb hby d6_25) e6 ⟨r_6, rfl, N6, rfl, (own_pl_rm6_1 q1 q2 r_3 r_5 r_6 hq1 hq2 x3_0 x5_0 x6_0)⟩ (by decide) (by decide)
theorem own_pn4 : plainName "com/example/rate_to_limit/ratetolimit/http/LimitsSweepMsPinLaw" = true := by first | (simp [plainName, overriddenIn]; done) | decide +kernel
theorem ef_own_rm0 (m : MethodId) (x0 : Int64) (x1 : Int64) (x2 : Int32) (x3 : Int64) : entryFrame m #[(.long x0), (.long x1), (.int x2), (.long x3)] maxLocals = mkF m 0 #[.val (.long x0), .second, .val (.long x1), .second, .val (.int x2), .val (.long x3), .second, .unset, .unset, .unset, .unset, .unset, .unset, .unset, .unset, .unset] [] := by first | (simp [entryFrame, mkF, argsToLocals, Value.category, maxLocals]; done) | rfl
set_option maxHeartbeats 2000000 in
theorem own_pl_rm0_1 (q1 : Int64) (q2 : Int64) (hc1 : ¬ ((q1 &&& (9223372036854775807 : Int64)) = (0 : Int64))) (hc2 : ¬ ((q2 &&& (9223372036854775807 : Int64)) = (0 : Int64))) : 1 ≤ (q1 &&& (9223372036854775807 : Int64)).toInt := by
  have := rng64 q1
  have := rng64 (q1 &&& (9223372036854775807 : Int64))
  have := Jvm.Kit.i64_mask q1 (9223372036854775807 : Int64) (k := 63) (by decide) (by decide)
  have := rng64 q2
  have := rng64 (q2 &&& (9223372036854775807 : Int64))
  have := Jvm.Kit.i64_mask q2 (9223372036854775807 : Int64) (k := 63) (by decide) (by decide)
  try simp only [own_i64_0, own_i64_9223372036854775807] at *
  have := own_i64_0
  have := own_i64_9223372036854775807
  try simp only [Int32.lt_iff_toInt_lt, Int32.le_iff_toInt_le, Int64.lt_iff_toInt_lt, Int64.le_iff_toInt_le, ← Int32.toInt_inj, ← Int64.toInt_inj] at *
  all_goals first | omega | (simp; done)
set_option maxHeartbeats 2000000 in
theorem own_pl_rm0_2 (q1 : Int64) (q2 : Int64) (hc1 : ¬ ((q1 &&& (9223372036854775807 : Int64)) = (0 : Int64))) (hc2 : ¬ ((q2 &&& (9223372036854775807 : Int64)) = (0 : Int64))) : 1 ≤ (q2 &&& (9223372036854775807 : Int64)).toInt := by
  have := rng64 q1
  have := rng64 (q1 &&& (9223372036854775807 : Int64))
  have := Jvm.Kit.i64_mask q1 (9223372036854775807 : Int64) (k := 63) (by decide) (by decide)
  have := rng64 q2
  have := rng64 (q2 &&& (9223372036854775807 : Int64))
  have := Jvm.Kit.i64_mask q2 (9223372036854775807 : Int64) (k := 63) (by decide) (by decide)
  try simp only [own_i64_0, own_i64_9223372036854775807] at *
  have := own_i64_0
  have := own_i64_9223372036854775807
  try simp only [Int32.lt_iff_toInt_lt, Int32.le_iff_toInt_le, Int64.lt_iff_toInt_lt, Int64.le_iff_toInt_le, ← Int32.toInt_inj, ← Int64.toInt_inj] at *
  all_goals first | omega | (simp; done)
set_option maxHeartbeats 2000000 in
theorem own_pl_rm0_3 (q1 : Int64) (q2 : Int64) (r_35 : Int64) (hc1 : ¬ ((q1 &&& (9223372036854775807 : Int64)) = (0 : Int64))) (hc2 : ¬ ((q2 &&& (9223372036854775807 : Int64)) = (0 : Int64))) (x35_0 : r_35.toInt = max 1 (min 1000 (min (q1 &&& (9223372036854775807 : Int64)).toInt (q2 &&& (9223372036854775807 : Int64)).toInt / 4))) (hc37 : (q1 &&& (9223372036854775807 : Int64)) < (q2 &&& (9223372036854775807 : Int64))) : (q1 &&& (9223372036854775807 : Int64)).toInt = min (q1 &&& (9223372036854775807 : Int64)).toInt (q2 &&& (9223372036854775807 : Int64)).toInt := by
  have := rng64 q1
  have := rng64 (q1 &&& (9223372036854775807 : Int64))
  have := Jvm.Kit.i64_mask q1 (9223372036854775807 : Int64) (k := 63) (by decide) (by decide)
  have := rng64 q2
  have := rng64 (q2 &&& (9223372036854775807 : Int64))
  have := Jvm.Kit.i64_mask q2 (9223372036854775807 : Int64) (k := 63) (by decide) (by decide)
  have := rng64 r_35
  try simp only [own_i64_0, own_i64_9223372036854775807] at *
  have := own_i64_0
  have := own_i64_9223372036854775807
  try simp only [Int32.lt_iff_toInt_lt, Int32.le_iff_toInt_le, Int64.lt_iff_toInt_lt, Int64.le_iff_toInt_le, ← Int32.toInt_inj, ← Int64.toInt_inj] at *
  all_goals first | omega | (simp; done)
set_option maxHeartbeats 2000000 in
theorem own_pl_rm0_4 (q1 : Int64) (q2 : Int64) (r_35 : Int64) (hc1 : ¬ ((q1 &&& (9223372036854775807 : Int64)) = (0 : Int64))) (hc2 : ¬ ((q2 &&& (9223372036854775807 : Int64)) = (0 : Int64))) (x35_0 : r_35.toInt = max 1 (min 1000 (min (q1 &&& (9223372036854775807 : Int64)).toInt (q2 &&& (9223372036854775807 : Int64)).toInt / 4))) (hc37 : ¬ ((q1 &&& (9223372036854775807 : Int64)) < (q2 &&& (9223372036854775807 : Int64)))) : (q2 &&& (9223372036854775807 : Int64)).toInt = min (q1 &&& (9223372036854775807 : Int64)).toInt (q2 &&& (9223372036854775807 : Int64)).toInt := by
  have := rng64 q1
  have := rng64 (q1 &&& (9223372036854775807 : Int64))
  have := Jvm.Kit.i64_mask q1 (9223372036854775807 : Int64) (k := 63) (by decide) (by decide)
  have := rng64 q2
  have := rng64 (q2 &&& (9223372036854775807 : Int64))
  have := Jvm.Kit.i64_mask q2 (9223372036854775807 : Int64) (k := 63) (by decide) (by decide)
  have := rng64 r_35
  try simp only [own_i64_0, own_i64_9223372036854775807] at *
  have := own_i64_0
  have := own_i64_9223372036854775807
  try simp only [Int32.lt_iff_toInt_lt, Int32.le_iff_toInt_le, Int64.lt_iff_toInt_lt, Int64.le_iff_toInt_le, ← Int32.toInt_inj, ← Int64.toInt_inj] at *
  all_goals first | omega | (simp; done)
set_option maxHeartbeats 2000000 in
theorem own_pl_rm0_5 (q1 : Int64) (q2 : Int64) (r_35 : Int64) (mm : Int64) (hc1 : ¬ ((q1 &&& (9223372036854775807 : Int64)) = (0 : Int64))) (hc2 : ¬ ((q2 &&& (9223372036854775807 : Int64)) = (0 : Int64))) (x35_0 : r_35.toInt = max 1 (min 1000 (min (q1 &&& (9223372036854775807 : Int64)).toInt (q2 &&& (9223372036854775807 : Int64)).toInt / 4))) (hmm : mm.toInt = min (q1 &&& (9223372036854775807 : Int64)).toInt (q2 &&& (9223372036854775807 : Int64)).toInt) (hc38 : mm < (4 : Int64)) : r_35 = (1 : Int64) := by
  have := rng64 q1
  have := rng64 (q1 &&& (9223372036854775807 : Int64))
  have := Jvm.Kit.i64_mask q1 (9223372036854775807 : Int64) (k := 63) (by decide) (by decide)
  have := rng64 q2
  have := rng64 (q2 &&& (9223372036854775807 : Int64))
  have := Jvm.Kit.i64_mask q2 (9223372036854775807 : Int64) (k := 63) (by decide) (by decide)
  have := rng64 r_35
  have := rng64 mm
  try simp only [own_i64_0, own_i64_1, own_i64_4, own_i64_9223372036854775807] at *
  have := own_i64_0
  have := own_i64_1
  have := own_i64_4
  have := own_i64_9223372036854775807
  try simp only [Int32.lt_iff_toInt_lt, Int32.le_iff_toInt_le, Int64.lt_iff_toInt_lt, Int64.le_iff_toInt_le, ← Int32.toInt_inj, ← Int64.toInt_inj] at *
  all_goals first | omega | (simp; done)
set_option maxHeartbeats 2000000 in
theorem own_pl_rm0_6 (q1 : Int64) (q2 : Int64) (r_35 : Int64) (mm : Int64) (hc1 : ¬ ((q1 &&& (9223372036854775807 : Int64)) = (0 : Int64))) (hc2 : ¬ ((q2 &&& (9223372036854775807 : Int64)) = (0 : Int64))) (x35_0 : r_35.toInt = max 1 (min 1000 (min (q1 &&& (9223372036854775807 : Int64)).toInt (q2 &&& (9223372036854775807 : Int64)).toInt / 4))) (hmm : mm.toInt = min (q1 &&& (9223372036854775807 : Int64)).toInt (q2 &&& (9223372036854775807 : Int64)).toInt) (hc38 : ¬ (mm < (4 : Int64))) (hc40 : mm < (4000 : Int64)) : ¬ (r_35 < (1 : Int64)) := by
  have := rng64 q1
  have := rng64 (q1 &&& (9223372036854775807 : Int64))
  have := Jvm.Kit.i64_mask q1 (9223372036854775807 : Int64) (k := 63) (by decide) (by decide)
  have := rng64 q2
  have := rng64 (q2 &&& (9223372036854775807 : Int64))
  have := Jvm.Kit.i64_mask q2 (9223372036854775807 : Int64) (k := 63) (by decide) (by decide)
  have := rng64 r_35
  have := rng64 mm
  try simp only [own_i64_0, own_i64_1, own_i64_4, own_i64_4000, own_i64_9223372036854775807] at *
  have := own_i64_0
  have := own_i64_1
  have := own_i64_4
  have := own_i64_4000
  have := own_i64_9223372036854775807
  try simp only [Int32.lt_iff_toInt_lt, Int32.le_iff_toInt_le, Int64.lt_iff_toInt_lt, Int64.le_iff_toInt_le, ← Int32.toInt_inj, ← Int64.toInt_inj] at *
  all_goals first | omega | (simp; done)
set_option maxHeartbeats 2000000 in
theorem own_pl_rm0_7 (q1 : Int64) (q2 : Int64) (r_35 : Int64) (mm : Int64) (hc1 : ¬ ((q1 &&& (9223372036854775807 : Int64)) = (0 : Int64))) (hc2 : ¬ ((q2 &&& (9223372036854775807 : Int64)) = (0 : Int64))) (x35_0 : r_35.toInt = max 1 (min 1000 (min (q1 &&& (9223372036854775807 : Int64)).toInt (q2 &&& (9223372036854775807 : Int64)).toInt / 4))) (hmm : mm.toInt = min (q1 &&& (9223372036854775807 : Int64)).toInt (q2 &&& (9223372036854775807 : Int64)).toInt) (hc38 : ¬ (mm < (4 : Int64))) (hc40 : mm < (4000 : Int64)) (hc41 : ¬ (r_35 < (1 : Int64))) : ¬ ((1000 : Int64) < r_35) := by
  have := rng64 q1
  have := rng64 (q1 &&& (9223372036854775807 : Int64))
  have := Jvm.Kit.i64_mask q1 (9223372036854775807 : Int64) (k := 63) (by decide) (by decide)
  have := rng64 q2
  have := rng64 (q2 &&& (9223372036854775807 : Int64))
  have := Jvm.Kit.i64_mask q2 (9223372036854775807 : Int64) (k := 63) (by decide) (by decide)
  have := rng64 r_35
  have := rng64 mm
  try simp only [own_i64_0, own_i64_1, own_i64_4, own_i64_1000, own_i64_4000, own_i64_9223372036854775807] at *
  have := own_i64_0
  have := own_i64_1
  have := own_i64_4
  have := own_i64_1000
  have := own_i64_4000
  have := own_i64_9223372036854775807
  try simp only [Int32.lt_iff_toInt_lt, Int32.le_iff_toInt_le, Int64.lt_iff_toInt_lt, Int64.le_iff_toInt_le, ← Int32.toInt_inj, ← Int64.toInt_inj] at *
  all_goals first | omega | (simp; done)
set_option maxHeartbeats 2000000 in
theorem own_pl_rm0_8 (q1 : Int64) (q2 : Int64) (r_35 : Int64) (mm : Int64) (hc1 : ¬ ((q1 &&& (9223372036854775807 : Int64)) = (0 : Int64))) (hc2 : ¬ ((q2 &&& (9223372036854775807 : Int64)) = (0 : Int64))) (x35_0 : r_35.toInt = max 1 (min 1000 (min (q1 &&& (9223372036854775807 : Int64)).toInt (q2 &&& (9223372036854775807 : Int64)).toInt / 4))) (hmm : mm.toInt = min (q1 &&& (9223372036854775807 : Int64)).toInt (q2 &&& (9223372036854775807 : Int64)).toInt) (hc38 : ¬ (mm < (4 : Int64))) (hc40 : mm < (4000 : Int64)) (hc41 : ¬ (r_35 < (1 : Int64))) (hc42 : ¬ ((1000 : Int64) < r_35)) : ¬ (mm < (r_35 * (4 : Int64))) := by
  have := rng64 q1
  have := rng64 (q1 &&& (9223372036854775807 : Int64))
  have := Jvm.Kit.i64_mask q1 (9223372036854775807 : Int64) (k := 63) (by decide) (by decide)
  have := rng64 q2
  have := rng64 (q2 &&& (9223372036854775807 : Int64))
  have := Jvm.Kit.i64_mask q2 (9223372036854775807 : Int64) (k := 63) (by decide) (by decide)
  have := rng64 r_35
  have := rng64 mm
  have := rng64 (r_35 * (4 : Int64))
  have := c_lmul r_35 (4 : Int64)
  try simp only [own_i64_0, own_i64_1, own_i64_4, own_i64_1000, own_i64_4000, own_i64_9223372036854775807] at *
  have := own_i64_0
  have := own_i64_1
  have := own_i64_4
  have := own_i64_1000
  have := own_i64_4000
  have := own_i64_9223372036854775807
  try simp only [Int32.lt_iff_toInt_lt, Int32.le_iff_toInt_le, Int64.lt_iff_toInt_lt, Int64.le_iff_toInt_le, ← Int32.toInt_inj, ← Int64.toInt_inj] at *
  all_goals first | omega | (simp; done)
set_option maxHeartbeats 2000000 in
theorem own_pl_rm0_9 (q1 : Int64) (q2 : Int64) (r_35 : Int64) (mm : Int64) (hc1 : ¬ ((q1 &&& (9223372036854775807 : Int64)) = (0 : Int64))) (hc2 : ¬ ((q2 &&& (9223372036854775807 : Int64)) = (0 : Int64))) (x35_0 : r_35.toInt = max 1 (min 1000 (min (q1 &&& (9223372036854775807 : Int64)).toInt (q2 &&& (9223372036854775807 : Int64)).toInt / 4))) (hmm : mm.toInt = min (q1 &&& (9223372036854775807 : Int64)).toInt (q2 &&& (9223372036854775807 : Int64)).toInt) (hc38 : ¬ (mm < (4 : Int64))) (hc40 : mm < (4000 : Int64)) (hc41 : ¬ (r_35 < (1 : Int64))) (hc42 : ¬ ((1000 : Int64) < r_35)) (hc43 : ¬ (mm < (r_35 * (4 : Int64)))) : mm < ((r_35 * (4 : Int64)) + (4 : Int64)) := by
  have := rng64 q1
  have := rng64 (q1 &&& (9223372036854775807 : Int64))
  have := Jvm.Kit.i64_mask q1 (9223372036854775807 : Int64) (k := 63) (by decide) (by decide)
  have := rng64 q2
  have := rng64 (q2 &&& (9223372036854775807 : Int64))
  have := Jvm.Kit.i64_mask q2 (9223372036854775807 : Int64) (k := 63) (by decide) (by decide)
  have := rng64 r_35
  have := rng64 mm
  have := rng64 (r_35 * (4 : Int64))
  have := c_lmul r_35 (4 : Int64)
  have := rng64 ((r_35 * (4 : Int64)) + (4 : Int64))
  have := c_ladd (r_35 * (4 : Int64)) (4 : Int64)
  try simp only [own_i64_0, own_i64_1, own_i64_4, own_i64_1000, own_i64_4000, own_i64_9223372036854775807] at *
  have := own_i64_0
  have := own_i64_1
  have := own_i64_4
  have := own_i64_1000
  have := own_i64_4000
  have := own_i64_9223372036854775807
  try simp only [Int32.lt_iff_toInt_lt, Int32.le_iff_toInt_le, Int64.lt_iff_toInt_lt, Int64.le_iff_toInt_le, ← Int32.toInt_inj, ← Int64.toInt_inj] at *
  all_goals first | omega | (simp; done)
set_option maxHeartbeats 2000000 in
theorem own_pl_rm0_10 (q1 : Int64) (q2 : Int64) (r_35 : Int64) (mm : Int64) (hc1 : ¬ ((q1 &&& (9223372036854775807 : Int64)) = (0 : Int64))) (hc2 : ¬ ((q2 &&& (9223372036854775807 : Int64)) = (0 : Int64))) (x35_0 : r_35.toInt = max 1 (min 1000 (min (q1 &&& (9223372036854775807 : Int64)).toInt (q2 &&& (9223372036854775807 : Int64)).toInt / 4))) (hmm : mm.toInt = min (q1 &&& (9223372036854775807 : Int64)).toInt (q2 &&& (9223372036854775807 : Int64)).toInt) (hc38 : ¬ (mm < (4 : Int64))) (hc40 : ¬ (mm < (4000 : Int64))) : r_35 = (1000 : Int64) := by
  have := rng64 q1
  have := rng64 (q1 &&& (9223372036854775807 : Int64))
  have := Jvm.Kit.i64_mask q1 (9223372036854775807 : Int64) (k := 63) (by decide) (by decide)
  have := rng64 q2
  have := rng64 (q2 &&& (9223372036854775807 : Int64))
  have := Jvm.Kit.i64_mask q2 (9223372036854775807 : Int64) (k := 63) (by decide) (by decide)
  have := rng64 r_35
  have := rng64 mm
  try simp only [own_i64_0, own_i64_4, own_i64_1000, own_i64_4000, own_i64_9223372036854775807] at *
  have := own_i64_0
  have := own_i64_4
  have := own_i64_1000
  have := own_i64_4000
  have := own_i64_9223372036854775807
  try simp only [Int32.lt_iff_toInt_lt, Int32.le_iff_toInt_le, Int64.lt_iff_toInt_lt, Int64.le_iff_toInt_le, ← Int32.toInt_inj, ← Int64.toInt_inj] at *
  all_goals first | omega | (simp; done)
def Q_own_rm0 (Z : State) (q1 : Int64) (q2 : Int64) (p3 : Int32) (q4 : Int64) (h0 : Heap) (n0 : Nat) (v : Option Value) (h : Heap) (L : List Loc) : Prop := v = some (.int (1 : Int32)) ∧ Fr n0 L ∧ Keep h0 h []
set_option maxRecDepth 65536 in
set_option maxHeartbeats 400000000 in
theorem own_rm0 (l : Launch) (Z : State) (a0 : Array Value) (hw : ∀ d ∈ tables_1, d.before a0 Z = true) (ws : List Jvm.Cond) (q1 : Int64) (q2 : Int64) (p3 : Int32) (q4 : Int64) (h0 : Heap) (n0 : Nat) (Z0 : n0 ≤ h0.size)  :
    MetFree l x (head1 (Jvm.Cond.code x code maxLocals ret :: ws) room_1) (fun a U => a = #[(.long q1), (.long q2), (.int p3), (.long q4)] ∧ Z.Warmed39 U.vm ∧ U.heap = h0) (fun _ _ _ _ _ => True) (fun _ U o U' => ∃ v L, o = .returned v ∧ Q_own_rm0 Z q1 q2 p3 q4 h0 n0 v U'.heap L ∧ FrameEnd U o U' L 3 7) := by
  refine MetFree.of_bodySF (plainFor_of_name own_pn4) hisR ?_
  intro p e s m args below meth c s₁ Bd hml0 hP hK
  obtain ⟨rfl, hZ, hh⟩ := hP
  have hx := Bd.exec
  have hby := Bd.bytes
  have hml : c.maxLocals = 16 := hml0
  have hown : s.vm.findClass "com/example/rate_to_limit/ratetolimit/http/LimitsSweepMsPinLaw" = some m.cls := findClass_of_methodNamed Bd.named
  have hnm := (name_of_methodNamed Bd.named Bd.method).1
  have X0 : Stand p l e room_1 s m #[(.long q1), (.long q2), (.int p3), (.long q4)] below meth c s₁ [] 0 0 := Stand.of_body Bd
  have e0 : s₁.heap = h0 := by rw [← hh, Bd.state]; rfl
  have N0 := Fr.nil n0
  have K0 : Keep h0 h0 [] := Keep.refl h0 []
  show own_Fin p e below s (Q_own_rm0 Z q1 q2 p3 q4 h0 n0) 3 7 (s₁.setTop (entryFrame m #[(.long q1), (.long q2), (.int p3), (.long q4)] maxLocals))
  refine own_go (fun _ k => castTop (ef_own_rm0 m q1 q2 p3 q4) k) ?_
  show own_Fin _ _ _ _ _ _ _ (s₁.setTop (mkF m 0 #[.val (.long q1), .second, .val (.long q2), .second, .val (.int p3), .val (.long q4), .second, .unset, .unset, .unset, .unset, .unset, .unset, .unset, .unset, .unset] []))
  refine own_go (B := s₁.setTop (mkF m 1 #[.val (.long q1), .second, .val (.long q2), .second, .val (.int p3), .val (.long q4), .second, .unset, .unset, .unset, .unset, .unset, .unset, .unset, .unset, .unset] [(.long q1)])) (fun _ k => XS.lloadN X0.here hx rfl (hb hby at_0) rfl  k) ?_
  refine own_go (B := s₁.setTop (mkF m 4 #[.val (.long q1), .second, .val (.long q2), .second, .val (.int p3), .val (.long q4), .second, .unset, .unset, .unset, .unset, .unset, .unset, .unset, .unset, .unset] [(.long (9223372036854775807 : Int64)), (.long q1)])) (fun _ k => X0.ldc2Long hx hown (mvT hZ (own_w hw 0 rfl)) (g := (mkF m 1 #[.val (.long q1), .second, .val (.long q2), .second, .val (.int p3), .val (.long q4), .second, .unset, .unset, .unset, .unset, .unset, .unset, .unset, .unset, .unset] [(.long q1)])) rfl (hb hby at_1) _ k) ?_
  refine own_go (B := s₁.setTop (mkF m 5 #[.val (.long q1), .second, .val (.long q2), .second, .val (.int p3), .val (.long q4), .second, .unset, .unset, .unset, .unset, .unset, .unset, .unset, .unset, .unset] [(.long (q1 &&& (9223372036854775807 : Int64)))])) (fun _ k => XS.land X0.here hx rfl (hb hby at_4) rfl k) ?_
  refine own_go (B := s₁.setTop (mkF m 7 #[.val (.long q1), .second, .val (.long q2), .second, .val (.int p3), .val (.long q4), .second, .val (.long (q1 &&& (9223372036854775807 : Int64))), .second, .unset, .unset, .unset, .unset, .unset, .unset, .unset] [])) (fun _ k => XS.lstore X0.here hx rfl (hb hby at_5) rfl (l' := #[.val (.long q1), .second, .val (.long q2), .second, .val (.int p3), .val (.long q4), .second, .val (.long (q1 &&& (9223372036854775807 : Int64))), .second, .unset, .unset, .unset, .unset, .unset, .unset, .unset]) rfl k) ?_
  refine own_go (B := s₁.setTop (mkF m 8 #[.val (.long q1), .second, .val (.long q2), .second, .val (.int p3), .val (.long q4), .second, .val (.long (q1 &&& (9223372036854775807 : Int64))), .second, .unset, .unset, .unset, .unset, .unset, .unset, .unset] [(.long q2)])) (fun _ k => XS.lloadN X0.here hx rfl (hb hby at_7) rfl  k) ?_
  refine own_go (B := s₁.setTop (mkF m 11 #[.val (.long q1), .second, .val (.long q2), .second, .val (.int p3), .val (.long q4), .second, .val (.long (q1 &&& (9223372036854775807 : Int64))), .second, .unset, .unset, .unset, .unset, .unset, .unset, .unset] [(.long (9223372036854775807 : Int64)), (.long q2)])) (fun _ k => X0.ldc2Long hx hown (mvT hZ (own_w hw 0 rfl)) (g := (mkF m 8 #[.val (.long q1), .second, .val (.long q2), .second, .val (.int p3), .val (.long q4), .second, .val (.long (q1 &&& (9223372036854775807 : Int64))), .second, .unset, .unset, .unset, .unset, .unset, .unset, .unset] [(.long q2)])) rfl (hb hby at_8) _ k) ?_
  refine own_go (B := s₁.setTop (mkF m 12 #[.val (.long q1), .second, .val (.long q2), .second, .val (.int p3), .val (.long q4), .second, .val (.long (q1 &&& (9223372036854775807 : Int64))), .second, .unset, .unset, .unset, .unset, .unset, .unset, .unset] [(.long (q2 &&& (9223372036854775807 : Int64)))])) (fun _ k => XS.land X0.here hx rfl (hb hby at_11) rfl k) ?_
  refine own_go (B := s₁.setTop (mkF m 14 #[.val (.long q1), .second, .val (.long q2), .second, .val (.int p3), .val (.long q4), .second, .val (.long (q1 &&& (9223372036854775807 : Int64))), .second, .val (.long (q2 &&& (9223372036854775807 : Int64))), .second, .unset, .unset, .unset, .unset, .unset] [])) (fun _ k => XS.lstore X0.here hx rfl (hb hby at_12) rfl (l' := #[.val (.long q1), .second, .val (.long q2), .second, .val (.int p3), .val (.long q4), .second, .val (.long (q1 &&& (9223372036854775807 : Int64))), .second, .val (.long (q2 &&& (9223372036854775807 : Int64))), .second, .unset, .unset, .unset, .unset, .unset]) rfl k) ?_
  refine own_go (B := s₁.setTop (mkF m 16 #[.val (.long q1), .second, .val (.long q2), .second, .val (.int p3), .val (.long q4), .second, .val (.long (q1 &&& (9223372036854775807 : Int64))), .second, .val (.long (q2 &&& (9223372036854775807 : Int64))), .second, .unset, .unset, .unset, .unset, .unset] [(.long (q1 &&& (9223372036854775807 : Int64)))])) (fun _ k => XS.lload X0.here hx rfl (hb hby at_14) rfl  k) ?_
  refine own_go (B := s₁.setTop (mkF m 17 #[.val (.long q1), .second, .val (.long q2), .second, .val (.int p3), .val (.long q4), .second, .val (.long (q1 &&& (9223372036854775807 : Int64))), .second, .val (.long (q2 &&& (9223372036854775807 : Int64))), .second, .unset, .unset, .unset, .unset, .unset] [(.long (0 : Int64)), (.long (q1 &&& (9223372036854775807 : Int64)))])) (fun _ k => XS.lconst X0.here hx rfl (hb hby at_16) k) ?_
  refine own_go (B := s₁.setTop (mkF m 18 #[.val (.long q1), .second, .val (.long q2), .second, .val (.int p3), .val (.long q4), .second, .val (.long (q1 &&& (9223372036854775807 : Int64))), .second, .val (.long (q2 &&& (9223372036854775807 : Int64))), .second, .unset, .unset, .unset, .unset, .unset] [(.int (lcmpW (q1 &&& (9223372036854775807 : Int64)) (0 : Int64)))])) (fun _ k => XS.lcmp X0.here hx rfl (hb hby at_17) rfl k) ?_
  by_cases hc1 : (q1 &&& (9223372036854775807 : Int64)) = (0 : Int64)
  · skip
    refine own_go (B := s₁.setTop (mkF m 28 #[.val (.long q1), .second, .val (.long q2), .second, .val (.int p3), .val (.long q4), .second, .val (.long (q1 &&& (9223372036854775807 : Int64))), .second, .val (.long (q2 &&& (9223372036854775807 : Int64))), .second, .unset, .unset, .unset, .unset, .unset] [])) (fun _ k => XS.ifYes X0.here hx rfl (pc0 := 18) (pc' := 28) rfl (hb hby at_18) rfl ((if0 _ _).trans (teq ((lw_eq (q1 &&& (9223372036854775807 : Int64)) (0 : Int64)).mpr hc1)).1) (by decide) (by decide) k) ?_
    refine own_go (B := s₁.setTop (mkF m 29 #[.val (.long q1), .second, .val (.long q2), .second, .val (.int p3), .val (.long q4), .second, .val (.long (q1 &&& (9223372036854775807 : Int64))), .second, .val (.long (q2 &&& (9223372036854775807 : Int64))), .second, .unset, .unset, .unset, .unset, .unset] [(.int (1 : Int32))])) (fun _ k => XS.iconst X0.here hx rfl (hb hby at_28) k) ?_
    exact own_retN X0 hx Bd.notSynchronized (t := .boolean) (w := (1 : Int32)) Bd.returns (by simp) (hb hby at_29) e0 rfl ⟨rfl, N0, K0⟩ (by decide) (by decide)
  · skip
    refine own_go (B := s₁.setTop (mkF m 21 #[.val (.long q1), .second, .val (.long q2), .second, .val (.int p3), .val (.long q4), .second, .val (.long (q1 &&& (9223372036854775807 : Int64))), .second, .val (.long (q2 &&& (9223372036854775807 : Int64))), .second, .unset, .unset, .unset, .unset, .unset] [])) (fun _ k => XS.ifNo X0.here hx rfl (hb hby at_18) rfl ((if0 _ _).trans (feq (mt (lw_eq (q1 &&& (9223372036854775807 : Int64)) (0 : Int64)).mp hc1)).1) k) ?_
    refine own_go (B := s₁.setTop (mkF m 23 #[.val (.long q1), .second, .val (.long q2), .second, .val (.int p3), .val (.long q4), .second, .val (.long (q1 &&& (9223372036854775807 : Int64))), .second, .val (.long (q2 &&& (9223372036854775807 : Int64))), .second, .unset, .unset, .unset, .unset, .unset] [(.long (q2 &&& (9223372036854775807 : Int64)))])) (fun _ k => XS.lload X0.here hx rfl (hb hby at_21) rfl  k) ?_
    refine own_go (B := s₁.setTop (mkF m 24 #[.val (.long q1), .second, .val (.long q2), .second, .val (.int p3), .val (.long q4), .second, .val (.long (q1 &&& (9223372036854775807 : Int64))), .second, .val (.long (q2 &&& (9223372036854775807 : Int64))), .second, .unset, .unset, .unset, .unset, .unset] [(.long (0 : Int64)), (.long (q2 &&& (9223372036854775807 : Int64)))])) (fun _ k => XS.lconst X0.here hx rfl (hb hby at_23) k) ?_
    refine own_go (B := s₁.setTop (mkF m 25 #[.val (.long q1), .second, .val (.long q2), .second, .val (.int p3), .val (.long q4), .second, .val (.long (q1 &&& (9223372036854775807 : Int64))), .second, .val (.long (q2 &&& (9223372036854775807 : Int64))), .second, .unset, .unset, .unset, .unset, .unset] [(.int (lcmpW (q2 &&& (9223372036854775807 : Int64)) (0 : Int64)))])) (fun _ k => XS.lcmp X0.here hx rfl (hb hby at_24) rfl k) ?_
    by_cases hc2 : (q2 &&& (9223372036854775807 : Int64)) = (0 : Int64)
    · skip
      refine own_go (B := s₁.setTop (mkF m 28 #[.val (.long q1), .second, .val (.long q2), .second, .val (.int p3), .val (.long q4), .second, .val (.long (q1 &&& (9223372036854775807 : Int64))), .second, .val (.long (q2 &&& (9223372036854775807 : Int64))), .second, .unset, .unset, .unset, .unset, .unset] [])) (fun _ k => XS.ifNo X0.here hx rfl (hb hby at_25) rfl ((if0 _ _).trans (teq ((lw_eq (q2 &&& (9223372036854775807 : Int64)) (0 : Int64)).mpr hc2)).2) k) ?_
      refine own_go (B := s₁.setTop (mkF m 29 #[.val (.long q1), .second, .val (.long q2), .second, .val (.int p3), .val (.long q4), .second, .val (.long (q1 &&& (9223372036854775807 : Int64))), .second, .val (.long (q2 &&& (9223372036854775807 : Int64))), .second, .unset, .unset, .unset, .unset, .unset] [(.int (1 : Int32))])) (fun _ k => XS.iconst X0.here hx rfl (hb hby at_28) k) ?_
      exact own_retN X0 hx Bd.notSynchronized (t := .boolean) (w := (1 : Int32)) Bd.returns (by simp) (hb hby at_29) e0 rfl ⟨rfl, N0, K0⟩ (by decide) (by decide)
    · skip
      refine own_go (B := s₁.setTop (mkF m 30 #[.val (.long q1), .second, .val (.long q2), .second, .val (.int p3), .val (.long q4), .second, .val (.long (q1 &&& (9223372036854775807 : Int64))), .second, .val (.long (q2 &&& (9223372036854775807 : Int64))), .second, .unset, .unset, .unset, .unset, .unset] [])) (fun _ k => XS.ifYes X0.here hx rfl (pc0 := 25) (pc' := 30) rfl (hb hby at_25) rfl ((if0 _ _).trans (feq (mt (lw_eq (q2 &&& (9223372036854775807 : Int64)) (0 : Int64)).mp hc2)).2) (by decide) (by decide) k) ?_
      obtain ⟨T3, h3, X3, e3, E3, A3, D3, -, st3⟩ := newO X0 hx hZ hown (own_w hw 1 rfl) (own_w hw 2 rfl) (own_w hw 3 rfl) e0 (g := (mkF m 30 #[.val (.long q1), .second, .val (.long q2), .second, .val (.int p3), .val (.long q4), .second, .val (.long (q1 &&& (9223372036854775807 : Int64))), .second, .val (.long (q2 &&& (9223372036854775807 : Int64))), .second, .unset, .unset, .unset, .unset, .unset] [])) rfl (hb hby at_30) (by decide) (by decide)
      obtain ⟨b3, g3⟩ : ∃ z, z = h0.size := ⟨_, rfl⟩
      rw [← g3] at A3 D3 st3
      have sz_b3 : h0.size ≤ b3 := Nat.le_trans K0.1 (Nat.le_of_eq g3.symm)
      have g_b3 : n0 ≤ b3 := Nat.le_trans Z0 sz_b3
      have F_bodyLimit_b3 : Fld Z h3 b3 "com/example/rate_to_limit/ratetolimit/http/Limits" "bodyLimit" "I" (.int (0 : Int32)) := D3 (Or.inr (own_w hw 35 rfl)) (ty := .int) (by decide)
      have F_readBudget_b3 : Fld Z h3 b3 "com/example/rate_to_limit/ratetolimit/http/Limits" "readBudget" "Lcom/example/rate_to_limit/ratetolimit/http/ReadBudget;" .null := D3 (Or.inr (own_w hw 37 rfl)) (ty := (.object "com/example/rate_to_limit/ratetolimit/http/ReadBudget")) (by decide)
      have F_idleMs_b3 : Fld Z h3 b3 "com/example/rate_to_limit/ratetolimit/http/Limits" "idleMs" "J" (.long (0 : Int64)) := D3 (Or.inr (own_w hw 39 rfl)) (ty := .long) (by decide)
      have F_requestMs_b3 : Fld Z h3 b3 "com/example/rate_to_limit/ratetolimit/http/Limits" "requestMs" "J" (.long (0 : Int64)) := D3 (Or.inr (own_w hw 41 rfl)) (ty := .long) (by decide)
      have K5 : Keep h0 h3 [] := K0.ext E3
      refine own_go (B := T3.setTop (mkF m 33 #[.val (.long q1), .second, .val (.long q2), .second, .val (.int p3), .val (.long q4), .second, .val (.long (q1 &&& (9223372036854775807 : Int64))), .second, .val (.long (q2 &&& (9223372036854775807 : Int64))), .second, .unset, .unset, .unset, .unset, .unset] [(.ref b3)])) st3 ?_
      refine own_go (B := T3.setTop (mkF m 34 #[.val (.long q1), .second, .val (.long q2), .second, .val (.int p3), .val (.long q4), .second, .val (.long (q1 &&& (9223372036854775807 : Int64))), .second, .val (.long (q2 &&& (9223372036854775807 : Int64))), .second, .unset, .unset, .unset, .unset, .unset] [(.ref b3), (.ref b3)])) (fun _ k => XS.dup X3.here hx rfl (hb hby at_33) rfl rfl k) ?_
      refine own_go (B := T3.setTop (mkF m 36 #[.val (.long q1), .second, .val (.long q2), .second, .val (.int p3), .val (.long q4), .second, .val (.long (q1 &&& (9223372036854775807 : Int64))), .second, .val (.long (q2 &&& (9223372036854775807 : Int64))), .second, .unset, .unset, .unset, .unset, .unset] [(.int p3), (.ref b3), (.ref b3)])) (fun _ k => XS.iload X3.here hx rfl (hb hby at_34) rfl  k) ?_
      obtain ⟨T6, h6, X6, e6, E6, A6, D6, -, st6⟩ := newO X3 hx hZ hown (own_w hw 4 rfl) (own_w hw 5 rfl) (own_w hw 6 rfl) e3 (g := (mkF m 36 #[.val (.long q1), .second, .val (.long q2), .second, .val (.int p3), .val (.long q4), .second, .val (.long (q1 &&& (9223372036854775807 : Int64))), .second, .val (.long (q2 &&& (9223372036854775807 : Int64))), .second, .unset, .unset, .unset, .unset, .unset] [(.int p3), (.ref b3), (.ref b3)])) rfl (hb hby at_36) (by decide) (by decide)
      obtain ⟨b6, g6⟩ : ∃ z, z = h3.size := ⟨_, rfl⟩
      rw [← g6] at A6 D6 st6
      have ne_b3_b6_7 : b3 ≠ b6 := Nat.ne_of_lt (Nat.lt_of_lt_of_le A3.lt (Nat.le_of_eq g6.symm))
      have sz_b6 : h0.size ≤ b6 := Nat.le_trans K5.1 (Nat.le_of_eq g6.symm)
      have g_b6 : n0 ≤ b6 := Nat.le_trans Z0 sz_b6
      have E_9 := A3.ext E6
      have F_10 := F_bodyLimit_b3.ext E6
      have F_11 := F_readBudget_b3.ext E6
      have F_12 := F_idleMs_b3.ext E6
      have F_13 := F_requestMs_b3.ext E6
      have F_taken_b6 : Fld Z h6 b6 "com/example/rate_to_limit/ratetolimit/http/ReadBudget" "taken" "Ljava/util/concurrent/atomic/AtomicLong;" .null := D6 (Or.inr (own_w hw 27 rfl)) (ty := (.object "java/util/concurrent/atomic/AtomicLong")) (by decide)
      have F_limit_b6 : Fld Z h6 b6 "com/example/rate_to_limit/ratetolimit/http/ReadBudget" "limit" "J" (.long (0 : Int64)) := D6 (Or.inr (own_w hw 29 rfl)) (ty := .long) (by decide)
      have K14 : Keep h0 h6 [] := K5.ext E6
      refine own_go (B := T6.setTop (mkF m 39 #[.val (.long q1), .second, .val (.long q2), .second, .val (.int p3), .val (.long q4), .second, .val (.long (q1 &&& (9223372036854775807 : Int64))), .second, .val (.long (q2 &&& (9223372036854775807 : Int64))), .second, .unset, .unset, .unset, .unset, .unset] [(.ref b6), (.int p3), (.ref b3), (.ref b3)])) st6 ?_
      refine own_go (B := T6.setTop (mkF m 40 #[.val (.long q1), .second, .val (.long q2), .second, .val (.int p3), .val (.long q4), .second, .val (.long (q1 &&& (9223372036854775807 : Int64))), .second, .val (.long (q2 &&& (9223372036854775807 : Int64))), .second, .unset, .unset, .unset, .unset, .unset] [(.ref b6), (.ref b6), (.int p3), (.ref b3), (.ref b3)])) (fun _ k => XS.dup X6.here hx rfl (hb hby at_39) rfl rfl k) ?_
      refine own_go (B := T6.setTop (mkF m 42 #[.val (.long q1), .second, .val (.long q2), .second, .val (.int p3), .val (.long q4), .second, .val (.long (q1 &&& (9223372036854775807 : Int64))), .second, .val (.long (q2 &&& (9223372036854775807 : Int64))), .second, .unset, .unset, .unset, .unset, .unset] [(.long q4), (.ref b6), (.ref b6), (.int p3), (.ref b3), (.ref b3)])) (fun _ k => XS.lload X6.here hx rfl (hb hby at_40) rfl  k) ?_
      obtain ⟨_, _, ⟨T15, L15, k15, n15⟩, -, X15, ⟨Lc15, hQ15, l15, y15, z15⟩, st15⟩ := X6.specialBack hx (y := (⟨"com/example/rate_to_limit/ratetolimit/http/ReadBudget", "<init>", "(J)V"⟩ : MethodName)) rfl hown (mvT hZ (own_w hw 7 rfl)) (mvT hZ (own_w hw 8 rfl)) (mvT hZ (own_w hw 9 rfl)) (by decide) (backOf (W := 4) (own_rm1 l Z a0 hw [] b6 q4 h6 n0 (Nat.le_trans Z0 K14.1) A6 F_taken_b6 F_limit_b6 g_b6) hZ (own_w hw 9 rfl) (own_w hw 6 rfl) (by decide) (by decide)) (g := (mkF m 42 #[.val (.long q1), .second, .val (.long q2), .second, .val (.int p3), .val (.long q4), .second, .val (.long (q1 &&& (9223372036854775807 : Int64))), .second, .val (.long (q2 &&& (9223372036854775807 : Int64))), .second, .unset, .unset, .unset, .unset, .unset] [(.long q4), (.ref b6), (.ref b6), (.int p3), (.ref b3), (.ref b3)])) rfl (by rw [hml]; rfl) (Steps.refl _) (a := b6) (argsL := [(.long q4)]) (rest := [(.ref b6), (.int p3), (.ref b3), (.ref b3)]) (lenOf own_pd2 rfl) rfl (by show 2 * 0 + _ ≤ _; exact Nat.le_of_eq rfl) (hb hby at_42) (fun _ _ => ⟨rfl, e6, (by decide : 2 + 1 ≤ _), (by decide : 6 + 1 ≤ _)⟩)
      dsimp only [Pt.U, Pt.locs, Pt.cells, Pt.slots] at X15 l15 y15 z15 st15 hQ15
      subst l15 y15 z15
      obtain ⟨rfl, N15q, K15q⟩ := hQ15
      have N15 := Fr.app N0 N15q
      have E_17 := E_9.keep K15q
      have F_18 := F_10.keep K15q (ninS ne_b3_b6_7 nin0)
      have F_19 := F_11.keep K15q (ninS ne_b3_b6_7 nin0)
      have F_20 := F_12.keep K15q (ninS ne_b3_b6_7 nin0)
      have F_21 := F_13.keep K15q (ninS ne_b3_b6_7 nin0)
      have E_22 := A6.keep K15q
      have K25 : Keep h0 T15.heap [] := K14.trans K15q (allS (Or.inr sz_b6) all0)
      refine own_go (B := T15.setTop (mkF m 45 #[.val (.long q1), .second, .val (.long q2), .second, .val (.int p3), .val (.long q4), .second, .val (.long (q1 &&& (9223372036854775807 : Int64))), .second, .val (.long (q2 &&& (9223372036854775807 : Int64))), .second, .unset, .unset, .unset, .unset, .unset] [(.ref b6), (.int p3), (.ref b3), (.ref b3)])) (fun _ k => st15.trans k) ?_
      refine own_go (B := T15.setTop (mkF m 47 #[.val (.long q1), .second, .val (.long q2), .second, .val (.int p3), .val (.long q4), .second, .val (.long (q1 &&& (9223372036854775807 : Int64))), .second, .val (.long (q2 &&& (9223372036854775807 : Int64))), .second, .unset, .unset, .unset, .unset, .unset] [(.long (q1 &&& (9223372036854775807 : Int64))), (.ref b6), (.int p3), (.ref b3), (.ref b3)])) (fun _ k => XS.lload X15.here hx rfl (hb hby at_45) rfl  k) ?_
      refine own_go (B := T15.setTop (mkF m 49 #[.val (.long q1), .second, .val (.long q2), .second, .val (.int p3), .val (.long q4), .second, .val (.long (q1 &&& (9223372036854775807 : Int64))), .second, .val (.long (q2 &&& (9223372036854775807 : Int64))), .second, .unset, .unset, .unset, .unset, .unset] [(.long (q2 &&& (9223372036854775807 : Int64))), (.long (q1 &&& (9223372036854775807 : Int64))), (.ref b6), (.int p3), (.ref b3), (.ref b3)])) (fun _ k => XS.lload X15.here hx rfl (hb hby at_47) rfl  k) ?_
      obtain ⟨_, _, ⟨T26, L26, k26, n26⟩, -, X26, ⟨Lc26, hQ26, l26, y26, z26⟩, st26⟩ := X15.specialBack hx (y := (⟨"com/example/rate_to_limit/ratetolimit/http/Limits", "<init>", "(ILcom/example/rate_to_limit/ratetolimit/http/ReadBudget;JJ)V"⟩ : MethodName)) rfl hown (mvT hZ (own_w hw 30 rfl)) (mvT hZ (own_w hw 31 rfl)) (mvT hZ (own_w hw 32 rfl)) (by decide) (backOf (W := 1) (own_rm5 l Z a0 hw [] b3 p3 b6 (q1 &&& (9223372036854775807 : Int64)) (q2 &&& (9223372036854775807 : Int64)) T15.heap n0 (Nat.le_trans Z0 K25.1) E_17 F_18 F_19 F_20 F_21 g_b3) hZ (own_w hw 32 rfl) (own_w hw 3 rfl) (by decide) (by decide)) (g := (mkF m 49 #[.val (.long q1), .second, .val (.long q2), .second, .val (.int p3), .val (.long q4), .second, .val (.long (q1 &&& (9223372036854775807 : Int64))), .second, .val (.long (q2 &&& (9223372036854775807 : Int64))), .second, .unset, .unset, .unset, .unset, .unset] [(.long (q2 &&& (9223372036854775807 : Int64))), (.long (q1 &&& (9223372036854775807 : Int64))), (.ref b6), (.int p3), (.ref b3), (.ref b3)])) rfl (by rw [hml]; rfl) (Steps.refl _) (a := b3) (argsL := [(.int p3), (.ref b6), (.long (q1 &&& (9223372036854775807 : Int64))), (.long (q2 &&& (9223372036854775807 : Int64)))]) (rest := [(.ref b3)]) (lenOf own_pd3 rfl) rfl (by show 2 * 0 + _ ≤ _; exact Nat.le_of_eq rfl) (hb hby at_49) (fun _ _ => ⟨rfl, rfl, (by decide : 3 + 0 ≤ _), (by decide : 7 + 0 ≤ _)⟩)
      dsimp only [Pt.U, Pt.locs, Pt.cells, Pt.slots] at X26 l26 y26 z26 st26 hQ26
      subst l26 y26 z26
      obtain ⟨rfl, N26q, K26q, Q26_0, Q26_1, Q26_2⟩ := hQ26
      have N26 := Fr.app N15 N26q
      have E_33 := E_22.keep K26q
      have K34 : Keep h0 T26.heap [] := K25.trans K26q (allS (Or.inr sz_b3) all0)
      refine own_go (B := T26.setTop (mkF m 52 #[.val (.long q1), .second, .val (.long q2), .second, .val (.int p3), .val (.long q4), .second, .val (.long (q1 &&& (9223372036854775807 : Int64))), .second, .val (.long (q2 &&& (9223372036854775807 : Int64))), .second, .unset, .unset, .unset, .unset, .unset] [(.ref b3)])) (fun _ k => st26.trans k) ?_
      refine own_go (B := T26.setTop (mkF m 54 #[.val (.long q1), .second, .val (.long q2), .second, .val (.int p3), .val (.long q4), .second, .val (.long (q1 &&& (9223372036854775807 : Int64))), .second, .val (.long (q2 &&& (9223372036854775807 : Int64))), .second, .val (.ref b3), .unset, .unset, .unset, .unset] [])) (fun _ k => XS.astore X26.here hx rfl (hb hby at_52) rfl rfl (l' := #[.val (.long q1), .second, .val (.long q2), .second, .val (.int p3), .val (.long q4), .second, .val (.long (q1 &&& (9223372036854775807 : Int64))), .second, .val (.long (q2 &&& (9223372036854775807 : Int64))), .second, .val (.ref b3), .unset, .unset, .unset, .unset]) rfl k) ?_
      refine own_go (B := T26.setTop (mkF m 56 #[.val (.long q1), .second, .val (.long q2), .second, .val (.int p3), .val (.long q4), .second, .val (.long (q1 &&& (9223372036854775807 : Int64))), .second, .val (.long (q2 &&& (9223372036854775807 : Int64))), .second, .val (.ref b3), .unset, .unset, .unset, .unset] [(.ref b3)])) (fun _ k => XS.aload X26.here hx rfl (hb hby at_54) rfl rfl k) ?_
      obtain ⟨cq35, kq35, q35a, q35b, q35c⟩ := isOf hZ rfl Q26_0
      obtain ⟨_, _, ⟨T35, L35, k35, n35⟩, -, X35, ⟨Lc35, hQ35, l35, y35, z35⟩, st35⟩ := X26.virtualBack hx (y := (⟨"com/example/rate_to_limit/ratetolimit/http/Limits", "sweepMs", "()J"⟩ : MethodName)) (z := (⟨"com/example/rate_to_limit/ratetolimit/http/Limits", "sweepMs", "()J"⟩ : MethodName)) hown (mvT hZ (own_w hw 42 rfl)) (mvT hZ (own_w hw 43 rfl)) (notFace_of_selects (args := #[]) (mvT hZ (own_w hw 45 rfl))) (mvT hZ (own_w hw 45 rfl)) (mvT hZ (own_w hw 44 rfl)) (by decide) (backOf (W := 0) (own_rm6 l Z a0 hw [] b3 (q1 &&& (9223372036854775807 : Int64)) (q2 &&& (9223372036854775807 : Int64)) T26.heap n0 (Nat.le_trans Z0 K34.1) Q26_1 Q26_2 (own_pl_rm0_1 q1 q2 hc1 hc2) (own_pl_rm0_2 q1 q2 hc1 hc2)) hZ (own_w hw 46 rfl) (own_w hw 3 rfl) (by decide) (by decide)) q35a q35c (g := (mkF m 56 #[.val (.long q1), .second, .val (.long q2), .second, .val (.int p3), .val (.long q4), .second, .val (.long (q1 &&& (9223372036854775807 : Int64))), .second, .val (.long (q2 &&& (9223372036854775807 : Int64))), .second, .val (.ref b3), .unset, .unset, .unset, .unset] [(.ref b3)])) rfl (by rw [hml]; rfl) (Steps.refl _) (argsL := []) (rest := []) (lenOf own_pd4 rfl) rfl (by show 2 * 0 + _ ≤ _; exact Nat.le_of_eq rfl) (hb hby at_56) (fun _ _ => ⟨rfl, rfl, (by decide : 3 + 0 ≤ _), (by decide : 7 + 0 ≤ _)⟩)
      dsimp only [Pt.U, Pt.locs, Pt.cells, Pt.slots] at X35 l35 y35 z35 st35 hQ35
      subst l35 y35 z35
      obtain ⟨r_35, rfl, N35q, e35, x35_0⟩ := hQ35
      have N35 := Fr.app N26 N35q
      refine own_go (B := T35.setTop (mkF m 59 #[.val (.long q1), .second, .val (.long q2), .second, .val (.int p3), .val (.long q4), .second, .val (.long (q1 &&& (9223372036854775807 : Int64))), .second, .val (.long (q2 &&& (9223372036854775807 : Int64))), .second, .val (.ref b3), .unset, .unset, .unset, .unset] [(.long r_35)])) (fun _ k => st35.trans k) ?_
      refine own_go (B := T35.setTop (mkF m 61 #[.val (.long q1), .second, .val (.long q2), .second, .val (.int p3), .val (.long q4), .second, .val (.long (q1 &&& (9223372036854775807 : Int64))), .second, .val (.long (q2 &&& (9223372036854775807 : Int64))), .second, .val (.ref b3), .val (.long r_35), .second, .unset, .unset] [])) (fun _ k => XS.lstore X35.here hx rfl (hb hby at_59) rfl (l' := #[.val (.long q1), .second, .val (.long q2), .second, .val (.int p3), .val (.long q4), .second, .val (.long (q1 &&& (9223372036854775807 : Int64))), .second, .val (.long (q2 &&& (9223372036854775807 : Int64))), .second, .val (.ref b3), .val (.long r_35), .second, .unset, .unset]) rfl k) ?_
      have J36 : ∀ (mm : Int64) (hmm : mm.toInt = min (q1 &&& (9223372036854775807 : Int64)).toInt (q2 &&& (9223372036854775807 : Int64)).toInt), own_Fin p e below s (Q_own_rm0 Z q1 q2 p3 q4 h0 n0) 3 7 (T35.setTop (mkF m 78 #[.val (.long q1), .second, .val (.long q2), .second, .val (.int p3), .val (.long q4), .second, .val (.long (q1 &&& (9223372036854775807 : Int64))), .second, .val (.long (q2 &&& (9223372036854775807 : Int64))), .second, .val (.ref b3), .val (.long r_35), .second, .val (.long mm), .second] [])) := by
        intro mm hmm
        refine own_go (B := T35.setTop (mkF m 80 #[.val (.long q1), .second, .val (.long q2), .second, .val (.int p3), .val (.long q4), .second, .val (.long (q1 &&& (9223372036854775807 : Int64))), .second, .val (.long (q2 &&& (9223372036854775807 : Int64))), .second, .val (.ref b3), .val (.long r_35), .second, .val (.long mm), .second] [(.long mm)])) (fun _ k => XS.lload X35.here hx rfl (hb hby at_78) rfl  k) ?_
        refine own_go (B := T35.setTop (mkF m 83 #[.val (.long q1), .second, .val (.long q2), .second, .val (.int p3), .val (.long q4), .second, .val (.long (q1 &&& (9223372036854775807 : Int64))), .second, .val (.long (q2 &&& (9223372036854775807 : Int64))), .second, .val (.ref b3), .val (.long r_35), .second, .val (.long mm), .second] [(.long (4 : Int64)), (.long mm)])) (fun _ k => X35.ldc2Long hx hown (mvT hZ (own_w hw 56 rfl)) (g := (mkF m 80 #[.val (.long q1), .second, .val (.long q2), .second, .val (.int p3), .val (.long q4), .second, .val (.long (q1 &&& (9223372036854775807 : Int64))), .second, .val (.long (q2 &&& (9223372036854775807 : Int64))), .second, .val (.ref b3), .val (.long r_35), .second, .val (.long mm), .second] [(.long mm)])) rfl (hb hby at_80) _ k) ?_
        refine own_go (B := T35.setTop (mkF m 84 #[.val (.long q1), .second, .val (.long q2), .second, .val (.int p3), .val (.long q4), .second, .val (.long (q1 &&& (9223372036854775807 : Int64))), .second, .val (.long (q2 &&& (9223372036854775807 : Int64))), .second, .val (.ref b3), .val (.long r_35), .second, .val (.long mm), .second] [(.int (lcmpW mm (4 : Int64)))])) (fun _ k => XS.lcmp X35.here hx rfl (hb hby at_83) rfl k) ?_
        by_cases hc38 : mm < (4 : Int64)
        · skip
          refine own_go (B := T35.setTop (mkF m 87 #[.val (.long q1), .second, .val (.long q2), .second, .val (.int p3), .val (.long q4), .second, .val (.long (q1 &&& (9223372036854775807 : Int64))), .second, .val (.long (q2 &&& (9223372036854775807 : Int64))), .second, .val (.ref b3), .val (.long r_35), .second, .val (.long mm), .second] [])) (fun _ k => XS.ifNo X35.here hx rfl (hb hby at_84) rfl ((if0 _ _).trans (tlt ((lw_lt mm (4 : Int64)).mpr hc38)).2.1) k) ?_
          refine own_go (B := T35.setTop (mkF m 89 #[.val (.long q1), .second, .val (.long q2), .second, .val (.int p3), .val (.long q4), .second, .val (.long (q1 &&& (9223372036854775807 : Int64))), .second, .val (.long (q2 &&& (9223372036854775807 : Int64))), .second, .val (.ref b3), .val (.long r_35), .second, .val (.long mm), .second] [(.long r_35)])) (fun _ k => XS.lload X35.here hx rfl (hb hby at_87) rfl  k) ?_
          refine own_go (B := T35.setTop (mkF m 90 #[.val (.long q1), .second, .val (.long q2), .second, .val (.int p3), .val (.long q4), .second, .val (.long (q1 &&& (9223372036854775807 : Int64))), .second, .val (.long (q2 &&& (9223372036854775807 : Int64))), .second, .val (.ref b3), .val (.long r_35), .second, .val (.long mm), .second] [(.long (1 : Int64)), (.long r_35)])) (fun _ k => XS.lconst X35.here hx rfl (hb hby at_89) k) ?_
          refine own_go (B := T35.setTop (mkF m 91 #[.val (.long q1), .second, .val (.long q2), .second, .val (.int p3), .val (.long q4), .second, .val (.long (q1 &&& (9223372036854775807 : Int64))), .second, .val (.long (q2 &&& (9223372036854775807 : Int64))), .second, .val (.ref b3), .val (.long r_35), .second, .val (.long mm), .second] [(.int (lcmpW r_35 (1 : Int64)))])) (fun _ k => XS.lcmp X35.here hx rfl (hb hby at_90) rfl k) ?_
          have hc39 : r_35 = (1 : Int64) := (own_pl_rm0_5 q1 q2 r_35 mm hc1 hc2 x35_0 hmm hc38)
          refine own_go (B := T35.setTop (mkF m 94 #[.val (.long q1), .second, .val (.long q2), .second, .val (.int p3), .val (.long q4), .second, .val (.long (q1 &&& (9223372036854775807 : Int64))), .second, .val (.long (q2 &&& (9223372036854775807 : Int64))), .second, .val (.ref b3), .val (.long r_35), .second, .val (.long mm), .second] [])) (fun _ k => XS.ifNo X35.here hx rfl (hb hby at_91) rfl ((if0 _ _).trans (teq ((lw_eq r_35 (1 : Int64)).mpr hc39)).2) k) ?_
          refine own_go (B := T35.setTop (mkF m 95 #[.val (.long q1), .second, .val (.long q2), .second, .val (.int p3), .val (.long q4), .second, .val (.long (q1 &&& (9223372036854775807 : Int64))), .second, .val (.long (q2 &&& (9223372036854775807 : Int64))), .second, .val (.ref b3), .val (.long r_35), .second, .val (.long mm), .second] [(.int (1 : Int32))])) (fun _ k => XS.iconst X35.here hx rfl (hb hby at_94) k) ?_
          refine own_go (B := T35.setTop (mkF m 99 #[.val (.long q1), .second, .val (.long q2), .second, .val (.int p3), .val (.long q4), .second, .val (.long (q1 &&& (9223372036854775807 : Int64))), .second, .val (.long (q2 &&& (9223372036854775807 : Int64))), .second, .val (.ref b3), .val (.long r_35), .second, .val (.long mm), .second] [(.int (1 : Int32))])) (fun _ k => XS.goto X35.here hx rfl (pc0 := 95) (pc' := 99) rfl (hb hby at_95) (by decide) (by decide) k) ?_
          exact own_retN X35 hx Bd.notSynchronized (t := .boolean) (w := (1 : Int32)) Bd.returns (by simp) (hb hby at_99) e35 rfl ⟨rfl, N35, K34⟩ (by decide) (by decide)
        · skip
          refine own_go (B := T35.setTop (mkF m 100 #[.val (.long q1), .second, .val (.long q2), .second, .val (.int p3), .val (.long q4), .second, .val (.long (q1 &&& (9223372036854775807 : Int64))), .second, .val (.long (q2 &&& (9223372036854775807 : Int64))), .second, .val (.ref b3), .val (.long r_35), .second, .val (.long mm), .second] [])) (fun _ k => XS.ifYes X35.here hx rfl (pc0 := 84) (pc' := 100) rfl (hb hby at_84) rfl ((if0 _ _).trans (flt (mt (lw_lt mm (4 : Int64)).mp hc38)).2.1) (by decide) (by decide) k) ?_
          refine own_go (B := T35.setTop (mkF m 102 #[.val (.long q1), .second, .val (.long q2), .second, .val (.int p3), .val (.long q4), .second, .val (.long (q1 &&& (9223372036854775807 : Int64))), .second, .val (.long (q2 &&& (9223372036854775807 : Int64))), .second, .val (.ref b3), .val (.long r_35), .second, .val (.long mm), .second] [(.long mm)])) (fun _ k => XS.lload X35.here hx rfl (hb hby at_100) rfl  k) ?_
          refine own_go (B := T35.setTop (mkF m 105 #[.val (.long q1), .second, .val (.long q2), .second, .val (.int p3), .val (.long q4), .second, .val (.long (q1 &&& (9223372036854775807 : Int64))), .second, .val (.long (q2 &&& (9223372036854775807 : Int64))), .second, .val (.ref b3), .val (.long r_35), .second, .val (.long mm), .second] [(.long (4000 : Int64)), (.long mm)])) (fun _ k => X35.ldc2Long hx hown (mvT hZ (own_w hw 57 rfl)) (g := (mkF m 102 #[.val (.long q1), .second, .val (.long q2), .second, .val (.int p3), .val (.long q4), .second, .val (.long (q1 &&& (9223372036854775807 : Int64))), .second, .val (.long (q2 &&& (9223372036854775807 : Int64))), .second, .val (.ref b3), .val (.long r_35), .second, .val (.long mm), .second] [(.long mm)])) rfl (hb hby at_102) _ k) ?_
          refine own_go (B := T35.setTop (mkF m 106 #[.val (.long q1), .second, .val (.long q2), .second, .val (.int p3), .val (.long q4), .second, .val (.long (q1 &&& (9223372036854775807 : Int64))), .second, .val (.long (q2 &&& (9223372036854775807 : Int64))), .second, .val (.ref b3), .val (.long r_35), .second, .val (.long mm), .second] [(.int (lcmpW mm (4000 : Int64)))])) (fun _ k => XS.lcmp X35.here hx rfl (hb hby at_105) rfl k) ?_
          by_cases hc40 : mm < (4000 : Int64)
          · skip
            refine own_go (B := T35.setTop (mkF m 124 #[.val (.long q1), .second, .val (.long q2), .second, .val (.int p3), .val (.long q4), .second, .val (.long (q1 &&& (9223372036854775807 : Int64))), .second, .val (.long (q2 &&& (9223372036854775807 : Int64))), .second, .val (.ref b3), .val (.long r_35), .second, .val (.long mm), .second] [])) (fun _ k => XS.ifYes X35.here hx rfl (pc0 := 106) (pc' := 124) rfl (hb hby at_106) rfl ((if0 _ _).trans (tlt ((lw_lt mm (4000 : Int64)).mpr hc40)).1) (by decide) (by decide) k) ?_
            refine own_go (B := T35.setTop (mkF m 126 #[.val (.long q1), .second, .val (.long q2), .second, .val (.int p3), .val (.long q4), .second, .val (.long (q1 &&& (9223372036854775807 : Int64))), .second, .val (.long (q2 &&& (9223372036854775807 : Int64))), .second, .val (.ref b3), .val (.long r_35), .second, .val (.long mm), .second] [(.long r_35)])) (fun _ k => XS.lload X35.here hx rfl (hb hby at_124) rfl  k) ?_
            refine own_go (B := T35.setTop (mkF m 127 #[.val (.long q1), .second, .val (.long q2), .second, .val (.int p3), .val (.long q4), .second, .val (.long (q1 &&& (9223372036854775807 : Int64))), .second, .val (.long (q2 &&& (9223372036854775807 : Int64))), .second, .val (.ref b3), .val (.long r_35), .second, .val (.long mm), .second] [(.long (1 : Int64)), (.long r_35)])) (fun _ k => XS.lconst X35.here hx rfl (hb hby at_126) k) ?_
            refine own_go (B := T35.setTop (mkF m 128 #[.val (.long q1), .second, .val (.long q2), .second, .val (.int p3), .val (.long q4), .second, .val (.long (q1 &&& (9223372036854775807 : Int64))), .second, .val (.long (q2 &&& (9223372036854775807 : Int64))), .second, .val (.ref b3), .val (.long r_35), .second, .val (.long mm), .second] [(.int (lcmpW r_35 (1 : Int64)))])) (fun _ k => XS.lcmp X35.here hx rfl (hb hby at_127) rfl k) ?_
            have hc41 : ¬ (r_35 < (1 : Int64)) := (own_pl_rm0_6 q1 q2 r_35 mm hc1 hc2 x35_0 hmm hc38 hc40)
            refine own_go (B := T35.setTop (mkF m 131 #[.val (.long q1), .second, .val (.long q2), .second, .val (.int p3), .val (.long q4), .second, .val (.long (q1 &&& (9223372036854775807 : Int64))), .second, .val (.long (q2 &&& (9223372036854775807 : Int64))), .second, .val (.ref b3), .val (.long r_35), .second, .val (.long mm), .second] [])) (fun _ k => XS.ifNo X35.here hx rfl (hb hby at_128) rfl ((if0 _ _).trans (flt (mt (lw_lt r_35 (1 : Int64)).mp hc41)).1) k) ?_
            refine own_go (B := T35.setTop (mkF m 133 #[.val (.long q1), .second, .val (.long q2), .second, .val (.int p3), .val (.long q4), .second, .val (.long (q1 &&& (9223372036854775807 : Int64))), .second, .val (.long (q2 &&& (9223372036854775807 : Int64))), .second, .val (.ref b3), .val (.long r_35), .second, .val (.long mm), .second] [(.long r_35)])) (fun _ k => XS.lload X35.here hx rfl (hb hby at_131) rfl  k) ?_
            refine own_go (B := T35.setTop (mkF m 136 #[.val (.long q1), .second, .val (.long q2), .second, .val (.int p3), .val (.long q4), .second, .val (.long (q1 &&& (9223372036854775807 : Int64))), .second, .val (.long (q2 &&& (9223372036854775807 : Int64))), .second, .val (.ref b3), .val (.long r_35), .second, .val (.long mm), .second] [(.long (1000 : Int64)), (.long r_35)])) (fun _ k => X35.ldc2Long hx hown (mvT hZ (own_w hw 58 rfl)) (g := (mkF m 133 #[.val (.long q1), .second, .val (.long q2), .second, .val (.int p3), .val (.long q4), .second, .val (.long (q1 &&& (9223372036854775807 : Int64))), .second, .val (.long (q2 &&& (9223372036854775807 : Int64))), .second, .val (.ref b3), .val (.long r_35), .second, .val (.long mm), .second] [(.long r_35)])) rfl (hb hby at_133) _ k) ?_
            refine own_go (B := T35.setTop (mkF m 137 #[.val (.long q1), .second, .val (.long q2), .second, .val (.int p3), .val (.long q4), .second, .val (.long (q1 &&& (9223372036854775807 : Int64))), .second, .val (.long (q2 &&& (9223372036854775807 : Int64))), .second, .val (.ref b3), .val (.long r_35), .second, .val (.long mm), .second] [(.int (lcmpW r_35 (1000 : Int64)))])) (fun _ k => XS.lcmp X35.here hx rfl (hb hby at_136) rfl k) ?_
            have hc42 : ¬ ((1000 : Int64) < r_35) := (own_pl_rm0_7 q1 q2 r_35 mm hc1 hc2 x35_0 hmm hc38 hc40 hc41)
            refine own_go (B := T35.setTop (mkF m 142 #[.val (.long q1), .second, .val (.long q2), .second, .val (.int p3), .val (.long q4), .second, .val (.long (q1 &&& (9223372036854775807 : Int64))), .second, .val (.long (q2 &&& (9223372036854775807 : Int64))), .second, .val (.ref b3), .val (.long r_35), .second, .val (.long mm), .second] [])) (fun _ k => XS.ifYes X35.here hx rfl (pc0 := 137) (pc' := 142) rfl (hb hby at_137) rfl ((if0 _ _).trans (flt (mt (lw_gt r_35 (1000 : Int64)).mp hc42)).2.2.2) (by decide) (by decide) k) ?_
            refine own_go (B := T35.setTop (mkF m 144 #[.val (.long q1), .second, .val (.long q2), .second, .val (.int p3), .val (.long q4), .second, .val (.long (q1 &&& (9223372036854775807 : Int64))), .second, .val (.long (q2 &&& (9223372036854775807 : Int64))), .second, .val (.ref b3), .val (.long r_35), .second, .val (.long mm), .second] [(.long r_35)])) (fun _ k => XS.lload X35.here hx rfl (hb hby at_142) rfl  k) ?_
            refine own_go (B := T35.setTop (mkF m 147 #[.val (.long q1), .second, .val (.long q2), .second, .val (.int p3), .val (.long q4), .second, .val (.long (q1 &&& (9223372036854775807 : Int64))), .second, .val (.long (q2 &&& (9223372036854775807 : Int64))), .second, .val (.ref b3), .val (.long r_35), .second, .val (.long mm), .second] [(.long (4 : Int64)), (.long r_35)])) (fun _ k => X35.ldc2Long hx hown (mvT hZ (own_w hw 56 rfl)) (g := (mkF m 144 #[.val (.long q1), .second, .val (.long q2), .second, .val (.int p3), .val (.long q4), .second, .val (.long (q1 &&& (9223372036854775807 : Int64))), .second, .val (.long (q2 &&& (9223372036854775807 : Int64))), .second, .val (.ref b3), .val (.long r_35), .second, .val (.long mm), .second] [(.long r_35)])) rfl (hb hby at_144) _ k) ?_
            refine own_go (B := T35.setTop (mkF m 148 #[.val (.long q1), .second, .val (.long q2), .second, .val (.int p3), .val (.long q4), .second, .val (.long (q1 &&& (9223372036854775807 : Int64))), .second, .val (.long (q2 &&& (9223372036854775807 : Int64))), .second, .val (.ref b3), .val (.long r_35), .second, .val (.long mm), .second] [(.long (r_35 * (4 : Int64)))])) (fun _ k => XS.lmul X35.here hx rfl (hb hby at_147) rfl k) ?_
            refine own_go (B := T35.setTop (mkF m 150 #[.val (.long q1), .second, .val (.long q2), .second, .val (.int p3), .val (.long q4), .second, .val (.long (q1 &&& (9223372036854775807 : Int64))), .second, .val (.long (q2 &&& (9223372036854775807 : Int64))), .second, .val (.ref b3), .val (.long r_35), .second, .val (.long mm), .second] [(.long mm), (.long (r_35 * (4 : Int64)))])) (fun _ k => XS.lload X35.here hx rfl (hb hby at_148) rfl  k) ?_
            refine own_go (B := T35.setTop (mkF m 151 #[.val (.long q1), .second, .val (.long q2), .second, .val (.int p3), .val (.long q4), .second, .val (.long (q1 &&& (9223372036854775807 : Int64))), .second, .val (.long (q2 &&& (9223372036854775807 : Int64))), .second, .val (.ref b3), .val (.long r_35), .second, .val (.long mm), .second] [(.int (lcmpW (r_35 * (4 : Int64)) mm))])) (fun _ k => XS.lcmp X35.here hx rfl (hb hby at_150) rfl k) ?_
            have hc43 : ¬ (mm < (r_35 * (4 : Int64))) := (own_pl_rm0_8 q1 q2 r_35 mm hc1 hc2 x35_0 hmm hc38 hc40 hc41 hc42)
            refine own_go (B := T35.setTop (mkF m 154 #[.val (.long q1), .second, .val (.long q2), .second, .val (.int p3), .val (.long q4), .second, .val (.long (q1 &&& (9223372036854775807 : Int64))), .second, .val (.long (q2 &&& (9223372036854775807 : Int64))), .second, .val (.ref b3), .val (.long r_35), .second, .val (.long mm), .second] [])) (fun _ k => XS.ifNo X35.here hx rfl (hb hby at_151) rfl ((if0 _ _).trans (flt (mt (lw_gt (r_35 * (4 : Int64)) mm).mp hc43)).2.2.1) k) ?_
            refine own_go (B := T35.setTop (mkF m 156 #[.val (.long q1), .second, .val (.long q2), .second, .val (.int p3), .val (.long q4), .second, .val (.long (q1 &&& (9223372036854775807 : Int64))), .second, .val (.long (q2 &&& (9223372036854775807 : Int64))), .second, .val (.ref b3), .val (.long r_35), .second, .val (.long mm), .second] [(.long mm)])) (fun _ k => XS.lload X35.here hx rfl (hb hby at_154) rfl  k) ?_
            refine own_go (B := T35.setTop (mkF m 158 #[.val (.long q1), .second, .val (.long q2), .second, .val (.int p3), .val (.long q4), .second, .val (.long (q1 &&& (9223372036854775807 : Int64))), .second, .val (.long (q2 &&& (9223372036854775807 : Int64))), .second, .val (.ref b3), .val (.long r_35), .second, .val (.long mm), .second] [(.long r_35), (.long mm)])) (fun _ k => XS.lload X35.here hx rfl (hb hby at_156) rfl  k) ?_
            refine own_go (B := T35.setTop (mkF m 161 #[.val (.long q1), .second, .val (.long q2), .second, .val (.int p3), .val (.long q4), .second, .val (.long (q1 &&& (9223372036854775807 : Int64))), .second, .val (.long (q2 &&& (9223372036854775807 : Int64))), .second, .val (.ref b3), .val (.long r_35), .second, .val (.long mm), .second] [(.long (4 : Int64)), (.long r_35), (.long mm)])) (fun _ k => X35.ldc2Long hx hown (mvT hZ (own_w hw 56 rfl)) (g := (mkF m 158 #[.val (.long q1), .second, .val (.long q2), .second, .val (.int p3), .val (.long q4), .second, .val (.long (q1 &&& (9223372036854775807 : Int64))), .second, .val (.long (q2 &&& (9223372036854775807 : Int64))), .second, .val (.ref b3), .val (.long r_35), .second, .val (.long mm), .second] [(.long r_35), (.long mm)])) rfl (hb hby at_158) _ k) ?_
            refine own_go (B := T35.setTop (mkF m 162 #[.val (.long q1), .second, .val (.long q2), .second, .val (.int p3), .val (.long q4), .second, .val (.long (q1 &&& (9223372036854775807 : Int64))), .second, .val (.long (q2 &&& (9223372036854775807 : Int64))), .second, .val (.ref b3), .val (.long r_35), .second, .val (.long mm), .second] [(.long (r_35 * (4 : Int64))), (.long mm)])) (fun _ k => XS.lmul X35.here hx rfl (hb hby at_161) rfl k) ?_
            refine own_go (B := T35.setTop (mkF m 165 #[.val (.long q1), .second, .val (.long q2), .second, .val (.int p3), .val (.long q4), .second, .val (.long (q1 &&& (9223372036854775807 : Int64))), .second, .val (.long (q2 &&& (9223372036854775807 : Int64))), .second, .val (.ref b3), .val (.long r_35), .second, .val (.long mm), .second] [(.long (4 : Int64)), (.long (r_35 * (4 : Int64))), (.long mm)])) (fun _ k => X35.ldc2Long hx hown (mvT hZ (own_w hw 56 rfl)) (g := (mkF m 162 #[.val (.long q1), .second, .val (.long q2), .second, .val (.int p3), .val (.long q4), .second, .val (.long (q1 &&& (9223372036854775807 : Int64))), .second, .val (.long (q2 &&& (9223372036854775807 : Int64))), .second, .val (.ref b3), .val (.long r_35), .second, .val (.long mm), .second] [(.long (r_35 * (4 : Int64))), (.long mm)])) rfl (hb hby at_162) _ k) ?_
            refine own_go (B := T35.setTop (mkF m 166 #[.val (.long q1), .second, .val (.long q2), .second, .val (.int p3), .val (.long q4), .second, .val (.long (q1 &&& (9223372036854775807 : Int64))), .second, .val (.long (q2 &&& (9223372036854775807 : Int64))), .second, .val (.ref b3), .val (.long r_35), .second, .val (.long mm), .second] [(.long ((r_35 * (4 : Int64)) + (4 : Int64))), (.long mm)])) (fun _ k => XS.ladd X35.here hx rfl (hb hby at_165) rfl k) ?_
            refine own_go (B := T35.setTop (mkF m 167 #[.val (.long q1), .second, .val (.long q2), .second, .val (.int p3), .val (.long q4), .second, .val (.long (q1 &&& (9223372036854775807 : Int64))), .second, .val (.long (q2 &&& (9223372036854775807 : Int64))), .second, .val (.ref b3), .val (.long r_35), .second, .val (.long mm), .second] [(.int (lcmpW mm ((r_35 * (4 : Int64)) + (4 : Int64))))])) (fun _ k => XS.lcmp X35.here hx rfl (hb hby at_166) rfl k) ?_
            have hc44 : mm < ((r_35 * (4 : Int64)) + (4 : Int64)) := (own_pl_rm0_9 q1 q2 r_35 mm hc1 hc2 x35_0 hmm hc38 hc40 hc41 hc42 hc43)
            refine own_go (B := T35.setTop (mkF m 170 #[.val (.long q1), .second, .val (.long q2), .second, .val (.int p3), .val (.long q4), .second, .val (.long (q1 &&& (9223372036854775807 : Int64))), .second, .val (.long (q2 &&& (9223372036854775807 : Int64))), .second, .val (.ref b3), .val (.long r_35), .second, .val (.long mm), .second] [])) (fun _ k => XS.ifNo X35.here hx rfl (hb hby at_167) rfl ((if0 _ _).trans (tlt ((lw_lt mm ((r_35 * (4 : Int64)) + (4 : Int64))).mpr hc44)).2.1) k) ?_
            refine own_go (B := T35.setTop (mkF m 171 #[.val (.long q1), .second, .val (.long q2), .second, .val (.int p3), .val (.long q4), .second, .val (.long (q1 &&& (9223372036854775807 : Int64))), .second, .val (.long (q2 &&& (9223372036854775807 : Int64))), .second, .val (.ref b3), .val (.long r_35), .second, .val (.long mm), .second] [(.int (1 : Int32))])) (fun _ k => XS.iconst X35.here hx rfl (hb hby at_170) k) ?_
            refine own_go (B := T35.setTop (mkF m 175 #[.val (.long q1), .second, .val (.long q2), .second, .val (.int p3), .val (.long q4), .second, .val (.long (q1 &&& (9223372036854775807 : Int64))), .second, .val (.long (q2 &&& (9223372036854775807 : Int64))), .second, .val (.ref b3), .val (.long r_35), .second, .val (.long mm), .second] [(.int (1 : Int32))])) (fun _ k => XS.goto X35.here hx rfl (pc0 := 171) (pc' := 175) rfl (hb hby at_171) (by decide) (by decide) k) ?_
            exact own_retN X35 hx Bd.notSynchronized (t := .boolean) (w := (1 : Int32)) Bd.returns (by simp) (hb hby at_175) e35 rfl ⟨rfl, N35, K34⟩ (by decide) (by decide)
          · skip
            refine own_go (B := T35.setTop (mkF m 109 #[.val (.long q1), .second, .val (.long q2), .second, .val (.int p3), .val (.long q4), .second, .val (.long (q1 &&& (9223372036854775807 : Int64))), .second, .val (.long (q2 &&& (9223372036854775807 : Int64))), .second, .val (.ref b3), .val (.long r_35), .second, .val (.long mm), .second] [])) (fun _ k => XS.ifNo X35.here hx rfl (hb hby at_106) rfl ((if0 _ _).trans (flt (mt (lw_lt mm (4000 : Int64)).mp hc40)).1) k) ?_
            refine own_go (B := T35.setTop (mkF m 111 #[.val (.long q1), .second, .val (.long q2), .second, .val (.int p3), .val (.long q4), .second, .val (.long (q1 &&& (9223372036854775807 : Int64))), .second, .val (.long (q2 &&& (9223372036854775807 : Int64))), .second, .val (.ref b3), .val (.long r_35), .second, .val (.long mm), .second] [(.long r_35)])) (fun _ k => XS.lload X35.here hx rfl (hb hby at_109) rfl  k) ?_
            refine own_go (B := T35.setTop (mkF m 114 #[.val (.long q1), .second, .val (.long q2), .second, .val (.int p3), .val (.long q4), .second, .val (.long (q1 &&& (9223372036854775807 : Int64))), .second, .val (.long (q2 &&& (9223372036854775807 : Int64))), .second, .val (.ref b3), .val (.long r_35), .second, .val (.long mm), .second] [(.long (1000 : Int64)), (.long r_35)])) (fun _ k => X35.ldc2Long hx hown (mvT hZ (own_w hw 58 rfl)) (g := (mkF m 111 #[.val (.long q1), .second, .val (.long q2), .second, .val (.int p3), .val (.long q4), .second, .val (.long (q1 &&& (9223372036854775807 : Int64))), .second, .val (.long (q2 &&& (9223372036854775807 : Int64))), .second, .val (.ref b3), .val (.long r_35), .second, .val (.long mm), .second] [(.long r_35)])) rfl (hb hby at_111) _ k) ?_
            refine own_go (B := T35.setTop (mkF m 115 #[.val (.long q1), .second, .val (.long q2), .second, .val (.int p3), .val (.long q4), .second, .val (.long (q1 &&& (9223372036854775807 : Int64))), .second, .val (.long (q2 &&& (9223372036854775807 : Int64))), .second, .val (.ref b3), .val (.long r_35), .second, .val (.long mm), .second] [(.int (lcmpW r_35 (1000 : Int64)))])) (fun _ k => XS.lcmp X35.here hx rfl (hb hby at_114) rfl k) ?_
            have hc45 : r_35 = (1000 : Int64) := (own_pl_rm0_10 q1 q2 r_35 mm hc1 hc2 x35_0 hmm hc38 hc40)
            refine own_go (B := T35.setTop (mkF m 118 #[.val (.long q1), .second, .val (.long q2), .second, .val (.int p3), .val (.long q4), .second, .val (.long (q1 &&& (9223372036854775807 : Int64))), .second, .val (.long (q2 &&& (9223372036854775807 : Int64))), .second, .val (.ref b3), .val (.long r_35), .second, .val (.long mm), .second] [])) (fun _ k => XS.ifNo X35.here hx rfl (hb hby at_115) rfl ((if0 _ _).trans (teq ((lw_eq r_35 (1000 : Int64)).mpr hc45)).2) k) ?_
            refine own_go (B := T35.setTop (mkF m 119 #[.val (.long q1), .second, .val (.long q2), .second, .val (.int p3), .val (.long q4), .second, .val (.long (q1 &&& (9223372036854775807 : Int64))), .second, .val (.long (q2 &&& (9223372036854775807 : Int64))), .second, .val (.ref b3), .val (.long r_35), .second, .val (.long mm), .second] [(.int (1 : Int32))])) (fun _ k => XS.iconst X35.here hx rfl (hb hby at_118) k) ?_
            refine own_go (B := T35.setTop (mkF m 123 #[.val (.long q1), .second, .val (.long q2), .second, .val (.int p3), .val (.long q4), .second, .val (.long (q1 &&& (9223372036854775807 : Int64))), .second, .val (.long (q2 &&& (9223372036854775807 : Int64))), .second, .val (.ref b3), .val (.long r_35), .second, .val (.long mm), .second] [(.int (1 : Int32))])) (fun _ k => XS.goto X35.here hx rfl (pc0 := 119) (pc' := 123) rfl (hb hby at_119) (by decide) (by decide) k) ?_
            exact own_retN X35 hx Bd.notSynchronized (t := .boolean) (w := (1 : Int32)) Bd.returns (by simp) (hb hby at_123) e35 rfl ⟨rfl, N35, K34⟩ (by decide) (by decide)
      refine own_go (B := T35.setTop (mkF m 63 #[.val (.long q1), .second, .val (.long q2), .second, .val (.int p3), .val (.long q4), .second, .val (.long (q1 &&& (9223372036854775807 : Int64))), .second, .val (.long (q2 &&& (9223372036854775807 : Int64))), .second, .val (.ref b3), .val (.long r_35), .second, .unset, .unset] [(.long (q1 &&& (9223372036854775807 : Int64)))])) (fun _ k => XS.lload X35.here hx rfl (hb hby at_61) rfl  k) ?_
      refine own_go (B := T35.setTop (mkF m 65 #[.val (.long q1), .second, .val (.long q2), .second, .val (.int p3), .val (.long q4), .second, .val (.long (q1 &&& (9223372036854775807 : Int64))), .second, .val (.long (q2 &&& (9223372036854775807 : Int64))), .second, .val (.ref b3), .val (.long r_35), .second, .unset, .unset] [(.long (q2 &&& (9223372036854775807 : Int64))), (.long (q1 &&& (9223372036854775807 : Int64)))])) (fun _ k => XS.lload X35.here hx rfl (hb hby at_63) rfl  k) ?_
      refine own_go (B := T35.setTop (mkF m 66 #[.val (.long q1), .second, .val (.long q2), .second, .val (.int p3), .val (.long q4), .second, .val (.long (q1 &&& (9223372036854775807 : Int64))), .second, .val (.long (q2 &&& (9223372036854775807 : Int64))), .second, .val (.ref b3), .val (.long r_35), .second, .unset, .unset] [(.int (lcmpW (q1 &&& (9223372036854775807 : Int64)) (q2 &&& (9223372036854775807 : Int64))))])) (fun _ k => XS.lcmp X35.here hx rfl (hb hby at_65) rfl k) ?_
      by_cases hc37 : (q1 &&& (9223372036854775807 : Int64)) < (q2 &&& (9223372036854775807 : Int64))
      · skip
        refine own_go (B := T35.setTop (mkF m 69 #[.val (.long q1), .second, .val (.long q2), .second, .val (.int p3), .val (.long q4), .second, .val (.long (q1 &&& (9223372036854775807 : Int64))), .second, .val (.long (q2 &&& (9223372036854775807 : Int64))), .second, .val (.ref b3), .val (.long r_35), .second, .unset, .unset] [])) (fun _ k => XS.ifNo X35.here hx rfl (hb hby at_66) rfl ((if0 _ _).trans (tlt ((lw_lt (q1 &&& (9223372036854775807 : Int64)) (q2 &&& (9223372036854775807 : Int64))).mpr hc37)).2.1) k) ?_
        refine own_go (B := T35.setTop (mkF m 71 #[.val (.long q1), .second, .val (.long q2), .second, .val (.int p3), .val (.long q4), .second, .val (.long (q1 &&& (9223372036854775807 : Int64))), .second, .val (.long (q2 &&& (9223372036854775807 : Int64))), .second, .val (.ref b3), .val (.long r_35), .second, .unset, .unset] [(.long (q1 &&& (9223372036854775807 : Int64)))])) (fun _ k => XS.lload X35.here hx rfl (hb hby at_69) rfl  k) ?_
        refine own_go (B := T35.setTop (mkF m 76 #[.val (.long q1), .second, .val (.long q2), .second, .val (.int p3), .val (.long q4), .second, .val (.long (q1 &&& (9223372036854775807 : Int64))), .second, .val (.long (q2 &&& (9223372036854775807 : Int64))), .second, .val (.ref b3), .val (.long r_35), .second, .unset, .unset] [(.long (q1 &&& (9223372036854775807 : Int64)))])) (fun _ k => XS.goto X35.here hx rfl (pc0 := 71) (pc' := 76) rfl (hb hby at_71) (by decide) (by decide) k) ?_
        refine own_go (B := T35.setTop (mkF m 78 #[.val (.long q1), .second, .val (.long q2), .second, .val (.int p3), .val (.long q4), .second, .val (.long (q1 &&& (9223372036854775807 : Int64))), .second, .val (.long (q2 &&& (9223372036854775807 : Int64))), .second, .val (.ref b3), .val (.long r_35), .second, .val (.long (q1 &&& (9223372036854775807 : Int64))), .second] [])) (fun _ k => XS.lstore X35.here hx rfl (hb hby at_76) rfl (l' := #[.val (.long q1), .second, .val (.long q2), .second, .val (.int p3), .val (.long q4), .second, .val (.long (q1 &&& (9223372036854775807 : Int64))), .second, .val (.long (q2 &&& (9223372036854775807 : Int64))), .second, .val (.ref b3), .val (.long r_35), .second, .val (.long (q1 &&& (9223372036854775807 : Int64))), .second]) rfl k) ?_
        exact J36 (q1 &&& (9223372036854775807 : Int64)) (own_pl_rm0_3 q1 q2 r_35 hc1 hc2 x35_0 hc37)
      · skip
        refine own_go (B := T35.setTop (mkF m 74 #[.val (.long q1), .second, .val (.long q2), .second, .val (.int p3), .val (.long q4), .second, .val (.long (q1 &&& (9223372036854775807 : Int64))), .second, .val (.long (q2 &&& (9223372036854775807 : Int64))), .second, .val (.ref b3), .val (.long r_35), .second, .unset, .unset] [])) (fun _ k => XS.ifYes X35.here hx rfl (pc0 := 66) (pc' := 74) rfl (hb hby at_66) rfl ((if0 _ _).trans (flt (mt (lw_lt (q1 &&& (9223372036854775807 : Int64)) (q2 &&& (9223372036854775807 : Int64))).mp hc37)).2.1) (by decide) (by decide) k) ?_
        refine own_go (B := T35.setTop (mkF m 76 #[.val (.long q1), .second, .val (.long q2), .second, .val (.int p3), .val (.long q4), .second, .val (.long (q1 &&& (9223372036854775807 : Int64))), .second, .val (.long (q2 &&& (9223372036854775807 : Int64))), .second, .val (.ref b3), .val (.long r_35), .second, .unset, .unset] [(.long (q2 &&& (9223372036854775807 : Int64)))])) (fun _ k => XS.lload X35.here hx rfl (hb hby at_74) rfl  k) ?_
        refine own_go (B := T35.setTop (mkF m 78 #[.val (.long q1), .second, .val (.long q2), .second, .val (.int p3), .val (.long q4), .second, .val (.long (q1 &&& (9223372036854775807 : Int64))), .second, .val (.long (q2 &&& (9223372036854775807 : Int64))), .second, .val (.ref b3), .val (.long r_35), .second, .val (.long (q2 &&& (9223372036854775807 : Int64))), .second] [])) (fun _ k => XS.lstore X35.here hx rfl (hb hby at_76) rfl (l' := #[.val (.long q1), .second, .val (.long q2), .second, .val (.int p3), .val (.long q4), .second, .val (.long (q1 &&& (9223372036854775807 : Int64))), .second, .val (.long (q2 &&& (9223372036854775807 : Int64))), .second, .val (.ref b3), .val (.long r_35), .second, .val (.long (q2 &&& (9223372036854775807 : Int64))), .second]) rfl k) ?_
        exact J36 (q2 &&& (9223372036854775807 : Int64)) (own_pl_rm0_4 q1 q2 r_35 hc1 hc2 x35_0 hc37)
set_option maxRecDepth 65536 in
set_option maxHeartbeats 40000000 in
theorem comes_1 {Post : Tables → Env → Array Value → State → Outcome → State → Prop} (hpost : ∀ tb e args s v u, (limb_1_1.after args s (.returned v) u = true ∧ limb_1_2.after args s (.returned v) u = true ∧ True) → FrameEnd s (.returned v) u (Jvm.fieldLocs frame_1_writes args s ++ Jvm.arrayLocs frame_1_arrays args s ++ Jvm.staticLocs frame_1_statics s) 16 128 → Post tb e args s (.returned v) u) :
    ArmFor flags0 classFile x code maxLocals ret World_1 tables_1 room_1 Calls_1 rest_1 Pre_1 Post := by
  intro l hfl _ _ p e ha hc hk s m args below hf hA hF happ hP
  obtain ⟨hcalls, hrest, hpre⟩ := hP
  obtain ⟨-, -, -, hnamed, -, -, -, hat⟩ := (Spec.applies_iff hf).mp happ
  obtain ⟨hg, hn⟩ := and_e (Cond.before_iff.mp (show (Jvm.Cond.and given_1 narrow_1).before args s = true from hpre))
  obtain ⟨gg1, gg2⟩ := and_e hg
  obtain ⟨gg3, gg4⟩ := and_e gg2
  obtain ⟨gg5, gg6⟩ := and_e gg4
  obtain ⟨gg7, gg8⟩ := and_e gg6
  obtain ⟨w0, w1, w2, w3, rfl⟩ : ∃ w0 w1 w2 w3 : Value, args = #[w0, w1, w2, w3] := by
    have hs : args.size = 4 := by simpa [Cond.value, given_1] using gg1
    obtain ⟨L⟩ := args
    match L, hs with
    | [w0, w1, w2, w3], _ => exact ⟨w0, w1, w2, w3, rfl⟩
  have hw := fun d (hd : d ∈ tables_1) => atoms_spec (ws := Jvm.Cond.code x code maxLocals ret :: tables_1) hat d (List.mem_cons_of_mem _ hd)
  have hfit : Fit s := fun {y c} hc i hi => by
    obtain ⟨ha, rfl⟩ := Array.getElem?_eq_some_iff.mp hc
    have q := List.all_eq_true.mp ((Array.all_eq_true_iff_forall_mem.mp hF) _ (Array.getElem_mem ha)) i (List.mem_range.mpr hi)
    simpa [Array.getElem?_eq_getElem hi] using q
  obtain ⟨i0, ei0⟩ := isL_v gg3
  obtain rfl : w0 = (.long i0) := Option.some.inj ei0
  obtain ⟨i1, ei1⟩ := isL_v gg5
  obtain rfl : w1 = (.long i1) := Option.some.inj ei1
  obtain ⟨i2, ei2⟩ := is_v gg7
  obtain rfl : w2 = (.int i2) := Option.some.inj ei2
  obtain ⟨i3, ei3⟩ := isL_v gg8
  obtain rfl : w3 = (.long i3) := Option.some.inj ei3
  obtain ⟨n, o, h1, h2, h3, _, L, rfl, ⟨rfl, N, _⟩, hq⟩ := own_rm0 l s _ hw tables_1 i0 i1 i2 i3 s.heap s.heap.size (Nat.le_refl _)  p e ha hc hk s m _ below hf ((Spec.applies_iff_loose hf).mp happ).1 ⟨rfl, State.Warmed39.refl s, rfl⟩ trivial
  refine ⟨n, _, h1, h2, h3, hpost _ _ _ _ _ _ ⟨Cond.after_iff.mpr rfl, Cond.after_iff.mpr (eq_i res_at (Term.int_eval (1)) rfl), trivial⟩ ⟨hq.1, hq.2.1, (hq.2.2.sift fun y hy => Or.inr (N y hy)).mono (by decide) (by decide)⟩⟩
theorem main_1_1 : Claimed_1_1 := comes_1 fun _ _ _ _ _ _ h hF => ⟨h.1, hF⟩
theorem main_1_2 : Claimed_1_2 := comes_1 fun _ _ _ _ _ _ h hF => ⟨h.2.1, hF⟩
end Jvm.Pilot.@@N@@
namespace Jvm.Pilot.@@N@@
open Jvm Jvm.ClassFile Sem Op Lib Jvm.Free Jvm.Stand Jvm.Pilot.@@N@@.Jvm.D
/-! MADE BY PROGRAM (witnessworld.py) out of the Statement's table words and the real class files: 13 classes; the members and pool entries that the words name. The judged class is class 1, her method 1. -/
namespace start1
open Jvm.ClassFile
def u (s : String) : CpInfo := .utf8 (stringToUtf16 s)
/-- a pool by its gaps: so many unusable entries, then the entry; so many at the end -/
def gap : Nat → List CpInfo → List CpInfo
  | 0, r => r
  | n + 1, r => .unusable :: gap n r
def poolList (es : List (Nat × CpInfo)) (last : Nat) : List CpInfo := es.foldr (fun e r => gap e.1 (e.2 :: r)) (gap last [])
def pool (es : List (Nat × CpInfo)) (last : Nat) : Array CpInfo := ⟨poolList es last⟩
def fileOf (pool : Array CpInfo) (this : Nat) (attrs : Array Attribute := #[]) (ms : Array MethodInfo := #[]) (fl : Nat := 33) (sup : Nat := 0) (ifs : Array Nat := #[]) (fds : Array FieldInfo := #[]) : ClassFile where
  minorVersion := 0
  majorVersion := 65
  constantPool := pool
  accessFlags := fl
  thisClass := this
  superClass := sup
  interfaces := ifs
  fields := fds
  methods := ms
  attributes := attrs
def plain (name : String) (sup : Option ClassId) : Class where
  name := name
  kind := .ordinary
  loader := none
  accessFlags := 33
  super := sup
  interfaces := #[]
  cf := none
  fields := #[]
  methods := #[]
  instanceTypes := #[]
  staticTypes := #[]
  resolved := #[]
  callSites := []
  init := .initialized
  statics := none
  mirror := none

def pool0 : Array CpInfo := pool [(5, u "<init>"), (0, u "()V"), (1, .class_ 10), (1, u "java/lang/Object")] 113

def k0c0 : Code := { maxStack := 0, maxLocals := 1, code := object_method_1_code, exceptionTable := #[], attributes := #[] }
def k0m0 : Method := { name := "<init>", desc := "()V", sig := { parameters := [], returnType := none }, accessFlags := 1, code := some k0c0 }
/-- java/lang/Object -/
def k0 : Class := { plain "java/lang/Object" none with
  accessFlags := 33
  interfaces := #[]
  cf := some (fileOf pool0 8 #[] #[{ accessFlags := 1, nameIndex := 5, descriptorIndex := 6, attributes := #[] }] 33 0 #[] #[])
  fields := #[]
  methods := #[k0m0]
  instanceTypes := #[]
  staticTypes := #[]
  resolved := Array.replicate 124 none
  statics := none }

def pool1 : Array CpInfo := pool [(2, .class_ 4), (1, u "java/lang/Object"), (0, u "<init>"), (0, u "()V"), (2, .long 9223372036854775807), (1, .class_ 12), (0, u "com/example/rate_to_limit/ratetolimit/http/Limits"), (0, .class_ 14), (0, u "com/example/rate_to_limit/ratetolimit/http/ReadBudget"), (0, .methodref 13 16), (0, .nameAndType 5 17), (0, u "(J)V"), (0, .methodref 11 19), (0, .nameAndType 5 20), (0, u "(ILcom/example/rate_to_limit/ratetolimit/http/ReadBudget;JJ)V"), (0, .methodref 11 22), (0, .nameAndType 23 24), (0, u "sweepMs"), (0, u "()J"), (0, .long 4), (1, .long 4000), (1, .long 1000), (1, .class_ 32), (0, u "com/example/rate_to_limit/ratetolimit/http/LimitsSweepMsPinLaw"), (2, u "law"), (0, u "(JJIJ)Z")] 3

def k1m0 : Method := { name := "<init>", desc := "()V", sig := { parameters := [], returnType := none }, accessFlags := 1, code := none }
def k1c1 : Code := { maxStack := 8, maxLocals := 16, code := code, exceptionTable := #[], attributes := #[] }
def k1m1 : Method := { name := "law", desc := "(JJIJ)Z", sig := { parameters := [.long, .long, .int, .long], returnType := some .boolean }, accessFlags := 9, code := some k1c1 }
/-- com/example/rate_to_limit/ratetolimit/http/LimitsSweepMsPinLaw -/
def k1 : Class := { plain "com/example/rate_to_limit/ratetolimit/http/LimitsSweepMsPinLaw" (some 0) with
  accessFlags := 49
  interfaces := #[]
  cf := some (fileOf pool1 31 #[] #[{ accessFlags := 1, nameIndex := 5, descriptorIndex := 6, attributes := #[] }, { accessFlags := 9, nameIndex := 35, descriptorIndex := 36, attributes := #[] }] 49 2 #[] #[])
  fields := #[]
  methods := #[k1m0, k1m1]
  instanceTypes := #[]
  staticTypes := #[]
  resolved := Array.replicate 40 none
  statics := none }

def pool2 : Array CpInfo := pool [(1, .class_ 2), (0, u "com/example/rate_to_limit/ratetolimit/http/Limits"), (6, u "<init>"), (0, u "(ILcom/example/rate_to_limit/ratetolimit/http/ReadBudget;JJ)V"), (0, .methodref 12 13), (0, .class_ 14), (0, .nameAndType 9 15), (0, u "java/lang/Object"), (0, u "()V"), (0, .fieldref 1 17), (0, .nameAndType 18 19), (0, u "bodyLimit"), (0, u "I"), (0, .fieldref 1 21), (0, .nameAndType 22 23), (0, u "readBudget"), (0, u "Lcom/example/rate_to_limit/ratetolimit/http/ReadBudget;"), (0, .fieldref 1 25), (0, .nameAndType 26 27), (0, u "idleMs"), (0, u "J"), (0, .fieldref 1 29), (0, .nameAndType 30 27), (0, u "requestMs"), (0, .long 1000), (1, .methodref 34 35), (0, .class_ 36), (0, .nameAndType 37 38), (0, u "java/lang/Math"), (0, u "min"), (0, u "(JJ)J"), (0, .long 4), (1, .methodref 34 42), (0, .nameAndType 43 38), (0, u "max"), (67, u "IDLE_MS"), (1, u "REQUEST_MS"), (0, u "SWEEP_MS"), (0, u "CLOSED_SHARE"), (1, u "LEAST_CLOSED"), (5, u "()J"), (0, u "sweepMs")] 45

def k2c0 : Code := { maxStack := 3, maxLocals := 7, code := prog_86_method_2_code, exceptionTable := #[], attributes := #[] }
def k2m0 : Method := { name := "<init>", desc := "(ILcom/example/rate_to_limit/ratetolimit/http/ReadBudget;JJ)V", sig := { parameters := [.int, (.object "com/example/rate_to_limit/ratetolimit/http/ReadBudget"), .long, .long], returnType := none }, accessFlags := 0, code := some k2c0 }
def k2c1 : Code := { maxStack := 8, maxLocals := 1, code := prog_86_method_7_code, exceptionTable := #[], attributes := #[] }
def k2m1 : Method := { name := "sweepMs", desc := "()J", sig := { parameters := [], returnType := some .long }, accessFlags := 0, code := some k2c1 }
/-- com/example/rate_to_limit/ratetolimit/http/Limits -/
def k2 : Class := { plain "com/example/rate_to_limit/ratetolimit/http/Limits" (some 0) with
  accessFlags := 32
  interfaces := #[]
  cf := some (fileOf pool2 1 #[] #[{ accessFlags := 0, nameIndex := 9, descriptorIndex := 10, attributes := #[] }, { accessFlags := 0, nameIndex := 124, descriptorIndex := 123, attributes := #[] }] 32 12 #[] #[{ accessFlags := 24, nameIndex := 111, descriptorIndex := 27, attributes := #[] }, { accessFlags := 24, nameIndex := 113, descriptorIndex := 27, attributes := #[] }, { accessFlags := 26, nameIndex := 114, descriptorIndex := 27, attributes := #[] }, { accessFlags := 26, nameIndex := 115, descriptorIndex := 19, attributes := #[] }, { accessFlags := 26, nameIndex := 117, descriptorIndex := 19, attributes := #[] }, { accessFlags := 18, nameIndex := 18, descriptorIndex := 19, attributes := #[] }, { accessFlags := 18, nameIndex := 22, descriptorIndex := 23, attributes := #[] }, { accessFlags := 18, nameIndex := 26, descriptorIndex := 27, attributes := #[] }, { accessFlags := 18, nameIndex := 30, descriptorIndex := 27, attributes := #[] }])
  fields := #[{ name := "IDLE_MS", type := .long, accessFlags := 24, slot := 0, constantValue := 0 }, { name := "REQUEST_MS", type := .long, accessFlags := 24, slot := 1, constantValue := 0 }, { name := "SWEEP_MS", type := .long, accessFlags := 26, slot := 2, constantValue := 0 }, { name := "CLOSED_SHARE", type := .int, accessFlags := 26, slot := 3, constantValue := 0 }, { name := "LEAST_CLOSED", type := .int, accessFlags := 26, slot := 4, constantValue := 0 }, { name := "bodyLimit", type := .int, accessFlags := 18, slot := 0, constantValue := 0 }, { name := "readBudget", type := (.object "com/example/rate_to_limit/ratetolimit/http/ReadBudget"), accessFlags := 18, slot := 1, constantValue := 0 }, { name := "idleMs", type := .long, accessFlags := 18, slot := 2, constantValue := 0 }, { name := "requestMs", type := .long, accessFlags := 18, slot := 3, constantValue := 0 }]
  methods := #[k2m0, k2m1]
  instanceTypes := #[.int, (.object "com/example/rate_to_limit/ratetolimit/http/ReadBudget"), .long, .long]
  staticTypes := #[.long, .long, .long, .int, .int]
  resolved := Array.replicate 170 none
  statics := none }

def pool3 : Array CpInfo := pool [(1, .methodref 2 3), (0, .class_ 4), (0, .nameAndType 5 6), (0, u "java/lang/Object"), (0, u "<init>"), (0, u "()V"), (0, .class_ 8), (0, u "java/util/concurrent/atomic/AtomicLong"), (0, .methodref 7 3), (0, .fieldref 11 12), (0, .class_ 13), (0, .nameAndType 14 15), (0, u "com/example/rate_to_limit/ratetolimit/http/ReadBudget"), (0, u "taken"), (0, u "Ljava/util/concurrent/atomic/AtomicLong;"), (0, .fieldref 11 17), (0, .nameAndType 18 19), (0, u "limit"), (0, u "J"), (12, u "EXHAUSTED"), (0, u "Ljava/lang/String;"), (3, u "(J)V")] 29

def k3c0 : Code := { maxStack := 3, maxLocals := 3, code := prog_89_method_1_code, exceptionTable := #[], attributes := #[] }
def k3m0 : Method := { name := "<init>", desc := "(J)V", sig := { parameters := [.long], returnType := none }, accessFlags := 0, code := some k3c0 }
/-- com/example/rate_to_limit/ratetolimit/http/ReadBudget -/
def k3 : Class := { plain "com/example/rate_to_limit/ratetolimit/http/ReadBudget" (some 0) with
  accessFlags := 32
  interfaces := #[]
  cf := some (fileOf pool3 11 #[] #[{ accessFlags := 0, nameIndex := 5, descriptorIndex := 37, attributes := #[] }] 32 2 #[] #[{ accessFlags := 24, nameIndex := 32, descriptorIndex := 33, attributes := #[] }, { accessFlags := 18, nameIndex := 18, descriptorIndex := 19, attributes := #[] }, { accessFlags := 18, nameIndex := 14, descriptorIndex := 15, attributes := #[] }])
  fields := #[{ name := "EXHAUSTED", type := (.object "java/lang/String"), accessFlags := 24, slot := 0, constantValue := 0 }, { name := "limit", type := .long, accessFlags := 18, slot := 0, constantValue := 0 }, { name := "taken", type := (.object "java/util/concurrent/atomic/AtomicLong"), accessFlags := 18, slot := 1, constantValue := 0 }]
  methods := #[k3m0]
  instanceTypes := #[.long, (.object "java/util/concurrent/atomic/AtomicLong")]
  staticTypes := #[(.object "java/lang/String")]
  resolved := Array.replicate 67 none
  statics := none }

def pool4 : Array CpInfo := pool [(1, .class_ 2), (0, u "java/io/Serializable"), (0, .class_ 4), (0, u "java/lang/Object")] 2

/-- java/io/Serializable -/
def k4 : Class := { plain "java/io/Serializable" (some 0) with
  accessFlags := 1537
  interfaces := #[]
  cf := some (fileOf pool4 1 #[] #[] 1537 3 #[] #[])
  fields := #[]
  methods := #[]
  instanceTypes := #[]
  staticTypes := #[]
  resolved := Array.replicate 7 none
  statics := none }

def pool5 : Array CpInfo := pool [(1, .methodref 2 3), (0, .class_ 4), (0, .nameAndType 5 6), (0, u "java/lang/Object"), (0, u "<init>"), (0, u "()V"), (1, .class_ 10), (1, u "java/lang/Number"), (2, .class_ 14), (0, u "java/io/Serializable"), (0, u "serialVersionUID"), (0, u "J")] 20

def k5c0 : Code := { maxStack := 1, maxLocals := 1, code := jdk_18_method_1_code, exceptionTable := #[], attributes := #[] }
def k5m0 : Method := { name := "<init>", desc := "()V", sig := { parameters := [], returnType := none }, accessFlags := 1, code := some k5c0 }
/-- java/lang/Number -/
def k5 : Class := { plain "java/lang/Number" (some 0) with
  accessFlags := 1057
  interfaces := #[4]
  cf := some (fileOf pool5 8 #[] #[{ accessFlags := 1, nameIndex := 5, descriptorIndex := 6, attributes := #[] }] 1057 2 #[13] #[{ accessFlags := 26, nameIndex := 15, descriptorIndex := 16, attributes := #[] }])
  fields := #[{ name := "serialVersionUID", type := .long, accessFlags := 26, slot := 0, constantValue := 0 }]
  methods := #[k5m0]
  instanceTypes := #[]
  staticTypes := #[.long]
  resolved := Array.replicate 37 none
  statics := none }

def pool6 : Array CpInfo := pool [(1, .methodref 2 3), (0, .class_ 4), (0, .nameAndType 5 6), (0, u "java/lang/Number"), (0, u "<init>"), (0, u "()V"), (1, .class_ 10), (1, u "java/util/concurrent/atomic/AtomicLong"), (0, u "value"), (0, u "J"), (2, u "U"), (0, u "Ljdk/internal/misc/Unsafe;"), (2, u "VALUE"), (91, u "VM_SUPPORTS_LONG_CAS"), (0, u "Z"), (9, .class_ 123), (0, u "java/io/Serializable"), (0, u "serialVersionUID")] 67

def k6c0 : Code := { maxStack := 1, maxLocals := 1, code := jdk_2805_method_3_code, exceptionTable := #[], attributes := #[] }
def k6m0 : Method := { name := "<init>", desc := "()V", sig := { parameters := [], returnType := none }, accessFlags := 1, code := some k6c0 }
/-- java/util/concurrent/atomic/AtomicLong -/
def k6 : Class := { plain "java/util/concurrent/atomic/AtomicLong" (some 5) with
  accessFlags := 33
  interfaces := #[4]
  cf := some (fileOf pool6 8 #[] #[{ accessFlags := 1, nameIndex := 5, descriptorIndex := 6, attributes := #[] }] 33 2 #[122] #[{ accessFlags := 26, nameIndex := 124, descriptorIndex := 12, attributes := #[] }, { accessFlags := 24, nameIndex := 111, descriptorIndex := 112, attributes := #[] }, { accessFlags := 26, nameIndex := 15, descriptorIndex := 16, attributes := #[] }, { accessFlags := 26, nameIndex := 19, descriptorIndex := 12, attributes := #[] }, { accessFlags := 66, nameIndex := 11, descriptorIndex := 12, attributes := #[] }])
  fields := #[{ name := "serialVersionUID", type := .long, accessFlags := 26, slot := 0, constantValue := 0 }, { name := "VM_SUPPORTS_LONG_CAS", type := .boolean, accessFlags := 24, slot := 1, constantValue := 0 }, { name := "U", type := (.object "jdk/internal/misc/Unsafe"), accessFlags := 26, slot := 2, constantValue := 0 }, { name := "VALUE", type := .long, accessFlags := 26, slot := 3, constantValue := 0 }, { name := "value", type := .long, accessFlags := 66, slot := 0, constantValue := 0 }]
  methods := #[k6m0]
  instanceTypes := #[.long]
  staticTypes := #[.long, .boolean, (.object "jdk/internal/misc/Unsafe"), .long]
  resolved := Array.replicate 192 none
  statics := none }

def pool7 : Array CpInfo := pool [(1, .class_ 2), (0, u "java/lang/Math"), (1, .class_ 6), (1, u "java/lang/Object"), (0, u "<init>"), (0, u "()V"), (89, .class_ 100), (1, u "java/lang/Math$RandomNumberGeneratorHolder"), (20, u "(JJ)J"), (50, u "negativeZeroFloatBits"), (0, u "J"), (2, u "negativeZeroDoubleBits"), (21, u "max"), (2, u "min"), (43, u "$assertionsDisabled"), (0, u "Z"), (91, u "twoToTheDoubleScaleDown"), (0, u "D"), (4, u "twoToTheDoubleScaleUp"), (9, u "E"), (3, u "PI"), (2, u "TAU"), (2, u "DEGREES_TO_RADIANS"), (0, u "RADIANS_TO_DEGREES")] 94

def k7m0 : Method := { name := "<init>", desc := "()V", sig := { parameters := [], returnType := none }, accessFlags := 2, code := none }
def k7c1 : Code := { maxStack := 4, maxLocals := 4, code := jdk_29_method_66_code, exceptionTable := #[], attributes := #[] }
def k7m1 : Method := { name := "max", desc := "(JJ)J", sig := { parameters := [.long, .long], returnType := some .long }, accessFlags := 9, code := some k7c1 }
def k7c2 : Code := { maxStack := 4, maxLocals := 4, code := jdk_29_method_70_code, exceptionTable := #[], attributes := #[] }
def k7m2 : Method := { name := "min", desc := "(JJ)J", sig := { parameters := [.long, .long], returnType := some .long }, accessFlags := 9, code := some k7c2 }
/-- java/lang/Math -/
def k7 : Class := { plain "java/lang/Math" (some 0) with
  accessFlags := 49
  interfaces := #[]
  cf := some (fileOf pool7 1 #[.nestMembers #[98]] #[{ accessFlags := 2, nameIndex := 7, descriptorIndex := 8, attributes := #[] }, { accessFlags := 9, nameIndex := 198, descriptorIndex := 121, attributes := #[] }, { accessFlags := 9, nameIndex := 201, descriptorIndex := 121, attributes := #[] }] 49 4 #[] #[{ accessFlags := 25, nameIndex := 354, descriptorIndex := 339, attributes := #[] }, { accessFlags := 25, nameIndex := 358, descriptorIndex := 339, attributes := #[] }, { accessFlags := 25, nameIndex := 361, descriptorIndex := 339, attributes := #[] }, { accessFlags := 26, nameIndex := 364, descriptorIndex := 339, attributes := #[] }, { accessFlags := 26, nameIndex := 365, descriptorIndex := 339, attributes := #[] }, { accessFlags := 26, nameIndex := 172, descriptorIndex := 173, attributes := #[] }, { accessFlags := 26, nameIndex := 176, descriptorIndex := 173, attributes := #[] }, { accessFlags := 8, nameIndex := 344, descriptorIndex := 339, attributes := #[] }, { accessFlags := 8, nameIndex := 338, descriptorIndex := 339, attributes := #[] }, { accessFlags := 4120, nameIndex := 245, descriptorIndex := 246, attributes := #[] }])
  fields := #[{ name := "E", type := .double, accessFlags := 25, slot := 0, constantValue := 0 }, { name := "PI", type := .double, accessFlags := 25, slot := 1, constantValue := 0 }, { name := "TAU", type := .double, accessFlags := 25, slot := 2, constantValue := 0 }, { name := "DEGREES_TO_RADIANS", type := .double, accessFlags := 26, slot := 3, constantValue := 0 }, { name := "RADIANS_TO_DEGREES", type := .double, accessFlags := 26, slot := 4, constantValue := 0 }, { name := "negativeZeroFloatBits", type := .long, accessFlags := 26, slot := 5, constantValue := 0 }, { name := "negativeZeroDoubleBits", type := .long, accessFlags := 26, slot := 6, constantValue := 0 }, { name := "twoToTheDoubleScaleUp", type := .double, accessFlags := 8, slot := 7, constantValue := 0 }, { name := "twoToTheDoubleScaleDown", type := .double, accessFlags := 8, slot := 8, constantValue := 0 }, { name := "$assertionsDisabled", type := .boolean, accessFlags := 4120, slot := 9, constantValue := 0 }]
  methods := #[k7m0, k7m1, k7m2]
  instanceTypes := #[]
  staticTypes := #[.double, .double, .double, .double, .double, .long, .long, .double, .double, .boolean]
  resolved := Array.replicate 460 none
  statics := none }

def pool8 : Array CpInfo := pool [(1, u "java/lang/Cloneable"), (0, .class_ 1), (0, u "java/lang/Object"), (0, .class_ 3)] 3

/-- java/lang/Cloneable -/
def k8 : Class := { plain "java/lang/Cloneable" (some 0) with
  accessFlags := 1537
  interfaces := #[]
  cf := some (fileOf pool8 2 #[] #[] 1537 4 #[] #[])
  fields := #[]
  methods := #[]
  instanceTypes := #[]
  staticTypes := #[]
  resolved := Array.replicate 8 none
  statics := none }

/-- the primitive byte -/
def k9 : Class := { plain "byte" none with kind := .primitive 'B', accessFlags := 0x411 }
/-- [B -/
def k10 : Class := { plain "[B" (some 0) with kind := .array 9 .byte, interfaces := #[8, 4], accessFlags := 1041 }

/-- the primitive int -/
def k11 : Class := { plain "int" none with kind := .primitive 'I', accessFlags := 0x411 }
/-- [I -/
def k12 : Class := { plain "[I" (some 0) with kind := .array 11 .int, interfaces := #[8, 4], accessFlags := 1041 }

def heap : Heap := #[]
def classes : Array Class := #[k0, k1, k2, k3, k4, k5, k6, k7, k8, k9, k10, k11, k12]
def interned : List (Array UInt16 × Addr) := []
def slotsUsed : Nat := 0
def theMethod : MethodId := ⟨1, 1⟩
def args0 : Array Value := #[.long 5, .long 5, .int 5, .long 5]
def aboutOver (below : List Frame) : State where
  vm := { classes := classes, interned := interned.toArray }
  heap := heap
  slotsUsed := slotsUsed
  threads := #[{ frames := .invoking theMethod args0 :: below }]
def below0 : List Frame := [.native { method := ⟨0, 0⟩, args := #[] }]
def about1 : State := aboutOver below0
def p0 : Program := .bare "" "" ""
def e0 : Env := launch0.env 0 0 0
theorem w_frames : about1.frames = Frame.invoking theMethod args0 :: below0 := rfl
set_option maxRecDepth 65536 in
theorem w_args : argsFit about1.vm theMethod args0 = true := by decide +kernel
set_option maxRecDepth 65536 in
theorem w_heap : heapFits about1 = true := by decide +kernel
set_option maxRecDepth 65536 in
theorem w_runnable : about1.curStatus? = some .runnable := by decide +kernel
set_option maxRecDepth 65536 in
theorem w_alone : about1.alone = true := by decide +kernel
set_option maxRecDepth 65536 in
theorem w_named : about1.methodNamed? x = some theMethod := by decide +kernel
set_option maxRecDepth 65536 in
theorem w_hears : about1.hears theMethod below0 = true := by decide +kernel
set_option maxRecDepth 65536 in
theorem w_ripe : about1.ripe theMethod args0 below0 = true := by decide +kernel
theorem w_running : about1.status = .running := rfl
set_option maxRecDepth 65536 in
theorem w_room : about1.hasRoom e0.platform room_1 = true :=
  launch0.hasRoom_least _ room_1 (by decide +kernel) (by decide +kernel) (by decide +kernel) (by decide +kernel) (by decide +kernel) (by decide +kernel)
theorem allAtoms_all (ts : List Jvm.Cond) (a : Array Jvm.Value) (st : Jvm.State) : (allAtoms ts).before a st = ts.all (fun c => c.before a st) := by
  induction ts with
  | nil => rfl
  | cons c t ih =>
    show (Jvm.Cond.and c (allAtoms t)).before a st = _
    rw [Jvm.Cond.before_and, ih, List.all_cons]
def words1 : List Jvm.Cond := Jvm.Cond.code x code maxLocals ret :: tables_1
/-- a 'code' word, met by the world's own term for the bytes: nothing is compared byte by byte -/
theorem code_word {y : MethodName} {bytes : ByteArray} {mx : Nat} {rt : Option FieldType} {a : Array Value} {s : State} {m : MethodId} {meth : Method} {c : Code} (h1 : s.methodNamed? y = some m) (h2 : s.vm.method? m = some meth) (h3 : meth.code = some c) (h4 : c.code = bytes)
    (h5 : (c.maxLocals == mx && c.exceptionTable.isEmpty && decide (c.maxStack ≤ mostOperands) && decide (meth.sig.returnType = rt) && !meth.locks && decide (parseMethodDescriptor y.desc = some meth.sig)) = true) : (Jvm.Cond.code y bytes mx rt).before a s = true := by
  simp only [Bool.and_eq_true, beq_iff_eq, Bool.not_eq_true', decide_eq_true_eq] at h5
  obtain ⟨⟨⟨⟨⟨g1, g2⟩, g3⟩, g4⟩, g5⟩, g6⟩ := h5
  simp [Cond.before, Cond.holds, Cond.value, h1, h2, h3, h4, g1, g2, g3, g4, g5, g6]
def isCode : Jvm.Cond → Bool
  | .code _ _ _ _ => true
  | _ => false
theorem all_split {L : List Jvm.Cond} {P : Jvm.Cond → Bool} (h1 : L.all (fun c => isCode c || P c) = true) (h2 : ∀ c ∈ L.filter isCode, P c = true) : L.all P = true := by
  refine List.all_eq_true.mpr fun c hc => ?_
  have h := List.all_eq_true.mp h1 c hc
  rcases Bool.eq_false_or_eq_true (isCode c) with hi | hi
  · exact h2 c (List.mem_filter.mpr ⟨hc, hi⟩)
  · simpa [hi] using h
set_option maxRecDepth 65536 in
theorem w_c0 : (Jvm.Cond.code x code maxLocals ret).before args0 about1 = true := code_word (m := ⟨1, 1⟩) (meth := k1m1) (c := k1c1) (by decide +kernel) rfl rfl rfl (by decide +kernel)
set_option maxRecDepth 65536 in
theorem w_c1 : (Jvm.Cond.code ({ cls := "com/example/rate_to_limit/ratetolimit/http/ReadBudget", name := "<init>", desc := "(J)V" } : Jvm.MethodName) prog_89_method_1_code (3 : Nat) (Option.none : Option Jvm.ClassFile.FieldType)).before args0 about1 = true := code_word (m := ⟨3, 0⟩) (meth := k3m0) (c := k3c0) (by decide +kernel) rfl rfl rfl (by decide +kernel)
set_option maxRecDepth 65536 in
theorem w_c2 : (Jvm.Cond.code ({ cls := "java/lang/Object", name := "<init>", desc := "()V" } : Jvm.MethodName) object_method_1_code (1 : Nat) (Option.none : Option Jvm.ClassFile.FieldType)).before args0 about1 = true := code_word (m := ⟨0, 0⟩) (meth := k0m0) (c := k0c0) (by decide +kernel) rfl rfl rfl (by decide +kernel)
set_option maxRecDepth 65536 in
theorem w_c3 : (Jvm.Cond.code ({ cls := "java/util/concurrent/atomic/AtomicLong", name := "<init>", desc := "()V" } : Jvm.MethodName) jdk_2805_method_3_code (1 : Nat) (Option.none : Option Jvm.ClassFile.FieldType)).before args0 about1 = true := code_word (m := ⟨6, 0⟩) (meth := k6m0) (c := k6c0) (by decide +kernel) rfl rfl rfl (by decide +kernel)
set_option maxRecDepth 65536 in
theorem w_c4 : (Jvm.Cond.code ({ cls := "java/lang/Number", name := "<init>", desc := "()V" } : Jvm.MethodName) jdk_18_method_1_code (1 : Nat) (Option.none : Option Jvm.ClassFile.FieldType)).before args0 about1 = true := code_word (m := ⟨5, 0⟩) (meth := k5m0) (c := k5c0) (by decide +kernel) rfl rfl rfl (by decide +kernel)
set_option maxRecDepth 65536 in
theorem w_c5 : (Jvm.Cond.code ({ cls := "com/example/rate_to_limit/ratetolimit/http/Limits", name := "<init>", desc := "(ILcom/example/rate_to_limit/ratetolimit/http/ReadBudget;JJ)V" } : Jvm.MethodName) prog_86_method_2_code (7 : Nat) (Option.none : Option Jvm.ClassFile.FieldType)).before args0 about1 = true := code_word (m := ⟨2, 0⟩) (meth := k2m0) (c := k2c0) (by decide +kernel) rfl rfl rfl (by decide +kernel)
set_option maxRecDepth 65536 in
theorem w_c6 : (Jvm.Cond.code ({ cls := "com/example/rate_to_limit/ratetolimit/http/Limits", name := "sweepMs", desc := "()J" } : Jvm.MethodName) prog_86_method_7_code (1 : Nat) (Option.some Jvm.ClassFile.FieldType.long)).before args0 about1 = true := code_word (m := ⟨2, 1⟩) (meth := k2m1) (c := k2c1) (by decide +kernel) rfl rfl rfl (by decide +kernel)
set_option maxRecDepth 65536 in
theorem w_c7 : (Jvm.Cond.code ({ cls := "java/lang/Math", name := "min", desc := "(JJ)J" } : Jvm.MethodName) jdk_29_method_70_code (4 : Nat) (Option.some Jvm.ClassFile.FieldType.long)).before args0 about1 = true := code_word (m := ⟨7, 2⟩) (meth := k7m2) (c := k7c2) (by decide +kernel) rfl rfl rfl (by decide +kernel)
set_option maxRecDepth 65536 in
theorem w_c8 : (Jvm.Cond.code ({ cls := "java/lang/Math", name := "max", desc := "(JJ)J" } : Jvm.MethodName) jdk_29_method_66_code (4 : Nat) (Option.some Jvm.ClassFile.FieldType.long)).before args0 about1 = true := code_word (m := ⟨7, 1⟩) (meth := k7m1) (c := k7c1) (by decide +kernel) rfl rfl rfl (by decide +kernel)
def codes1 : List Jvm.Cond := [Jvm.Cond.code x code maxLocals ret, Jvm.Cond.code ({ cls := "com/example/rate_to_limit/ratetolimit/http/ReadBudget", name := "<init>", desc := "(J)V" } : Jvm.MethodName) prog_89_method_1_code (3 : Nat) (Option.none : Option Jvm.ClassFile.FieldType), Jvm.Cond.code ({ cls := "java/lang/Object", name := "<init>", desc := "()V" } : Jvm.MethodName) object_method_1_code (1 : Nat) (Option.none : Option Jvm.ClassFile.FieldType), Jvm.Cond.code ({ cls := "java/util/concurrent/atomic/AtomicLong", name := "<init>", desc := "()V" } : Jvm.MethodName) jdk_2805_method_3_code (1 : Nat) (Option.none : Option Jvm.ClassFile.FieldType), Jvm.Cond.code ({ cls := "java/lang/Number", name := "<init>", desc := "()V" } : Jvm.MethodName) jdk_18_method_1_code (1 : Nat) (Option.none : Option Jvm.ClassFile.FieldType), Jvm.Cond.code ({ cls := "com/example/rate_to_limit/ratetolimit/http/Limits", name := "<init>", desc := "(ILcom/example/rate_to_limit/ratetolimit/http/ReadBudget;JJ)V" } : Jvm.MethodName) prog_86_method_2_code (7 : Nat) (Option.none : Option Jvm.ClassFile.FieldType), Jvm.Cond.code ({ cls := "com/example/rate_to_limit/ratetolimit/http/Limits", name := "sweepMs", desc := "()J" } : Jvm.MethodName) prog_86_method_7_code (1 : Nat) (Option.some Jvm.ClassFile.FieldType.long), Jvm.Cond.code ({ cls := "java/lang/Math", name := "min", desc := "(JJ)J" } : Jvm.MethodName) jdk_29_method_70_code (4 : Nat) (Option.some Jvm.ClassFile.FieldType.long), Jvm.Cond.code ({ cls := "java/lang/Math", name := "max", desc := "(JJ)J" } : Jvm.MethodName) jdk_29_method_66_code (4 : Nat) (Option.some Jvm.ClassFile.FieldType.long)]
set_option maxRecDepth 65536 in
theorem codes_eq : words1.filter isCode = codes1 := rfl
theorem w_codes : ∀ c ∈ words1.filter isCode, c.before args0 about1 = true := by
  rw [codes_eq]
  intro c hc
  simp only [codes1, List.mem_cons, List.not_mem_nil, or_false] at hc
  rcases hc with rfl | rfl | rfl | rfl | rfl | rfl | rfl | rfl | rfl
  · exact w_c0
  · exact w_c1
  · exact w_c2
  · exact w_c3
  · exact w_c4
  · exact w_c5
  · exact w_c6
  · exact w_c7
  · exact w_c8
set_option maxRecDepth 65536 in
theorem w_t1 : (words1.take 24).all (fun c => isCode c || c.before args0 about1) = true := by decide +kernel
set_option maxRecDepth 65536 in
theorem w_t2 : ((words1.drop 24).take 24).all (fun c => isCode c || c.before args0 about1) = true := by decide +kernel
set_option maxRecDepth 65536 in
theorem w_t3 : ((words1.drop 24).drop 24).all (fun c => isCode c || c.before args0 about1) = true := by decide +kernel
theorem w_tables : (allAtoms (Jvm.Cond.code x code maxLocals ret :: tables_1)).before args0 about1 = true := by
  rw [allAtoms_all]
  show words1.all (fun c => c.before args0 about1) = true
  refine all_split ?_ w_codes
  rw [← List.take_append_drop 24 words1, List.all_append, w_t1, ← List.take_append_drop 24 (words1.drop 24), List.all_append, w_t2, w_t3]
  rfl
set_option maxRecDepth 65536 in
theorem w_case : (Jvm.Cond.and given_1 narrow_1).before args0 about1 = true := by decide +kernel
theorem w_applies : (headSpec (Jvm.Cond.code x code maxLocals ret :: tables_1) room_1).applies x e0.platform about1 = true :=
  (Spec.applies_iff w_frames).mpr ⟨w_running, w_runnable, w_alone, w_named, w_hears, w_ripe, w_room, w_tables⟩
theorem atStart : AtStart classFile x code maxLocals ret World_1 tables_1 room_1 Calls_1 rest_1 Pre_1 launch0 p0 e0 about1 theMethod args0 below0 :=
  ⟨lists_1, trivial, launch0.admits_env _ _ _, launch0.least_env, fairChoices_fair.cas, fairChoices_fair.clock, w_frames, w_args, w_heap, w_applies, trivial, trivial, w_case⟩
end start1
theorem witness_1 : WitnessClaimed_1 := ⟨start1.p0, start1.e0, start1.about1, start1.theMethod, start1.args0, start1.below0, start1.atStart⟩
end Jvm.Pilot.@@N@@
