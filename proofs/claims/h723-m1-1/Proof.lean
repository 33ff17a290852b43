import JvmDerived
import JvmDerived.Pilot.@@N@@Statement
import JvmDerived.Pilot.@@N@@Code
set_option linter.unusedVariables false
set_option linter.unusedSimpArgs false
@@BLOCK:NumsL.lean.txt@@
namespace Jvm.Pilot.@@N@@
open Jvm Jvm.ClassFile Sem Op Lib Jvm.Free Jvm.Stand Jvm.LawKit Jvm.RoadKit Bundle Jvm.Pilot.@@N@@.Jvm.D
section OwnKit
theorem own_w {Z : State} {a0 : Array Value} (hw : ∀ d ∈ tables_1, d.before a0 Z = true) {d : Jvm.Cond} (i : Nat) (h : tables_1[i]? = some d) : d.before a0 Z = true := hw d (List.mem_of_getElem? h)
theorem own_narb (x : Int32) : nar .byte (x.toInt8.toInt32) = x.toInt8.toInt32 := by
  show (x.toInt8.toInt32).toInt8.toInt32 = x.toInt8.toInt32
  rw [Int8.toInt8_toInt32]
theorem own_narc (x : Int32) : nar .char (x.toUInt32.toUInt16.toUInt32.toInt32) = x.toUInt32.toUInt16.toUInt32.toInt32 := by
  show (x.toUInt32.toUInt16.toUInt32.toInt32).toUInt32.toUInt16.toUInt32.toInt32 = _
  have : (x.toUInt32.toUInt16.toUInt32.toInt32).toUInt32 = x.toUInt32.toUInt16.toUInt32 := rfl
  rw [this]
  have : x.toUInt32.toUInt16.toUInt32.toUInt16 = x.toUInt32.toUInt16 := by rw [← UInt16.toNat_inj]; simp
  rw [this]
theorem own_plain {Z : State} {h : Heap} {a : Addr} {C : String} (F : Exa Z h a C) : ∃ c : Cell, h[a]? = some c ∧ c.vm.isStatics = false := by
  obtain ⟨c, _, h1, -, -, h4, -⟩ := F; exact ⟨c, h1, h4⟩
theorem own_plainV {Z : State} {h : Heap} {a : Addr} {k : ClassId} {ty : FieldType} {z : Int32} {vs : List Value} {d : Value} (F : Arv Z h a k ty z vs d) : ∃ c : Cell, h[a]? = some c ∧ c.vm.isStatics = false := by
  obtain ⟨c, A, -⟩ := F; exact ⟨c, A.1, A.plain⟩
theorem own_Sta_keep {Z : State} {h h' : Heap} {C n d : String} {v : Value} {ws : List Addr} (F : Sta Z h C n d v) (K : Keep h h' ws) (q : ∀ a ∈ ws, ∃ c : Cell, h[a]? = some c ∧ c.vm.isStatics = false) : Sta Z h' C n d v := by
  obtain ⟨cf, i, k, f, st, cell, h1, h2, h3, h4, h5, h6, h7⟩ := F
  have ne : st ∉ ws := fun hm => by
    obtain ⟨c, g1, g2⟩ := q st hm
    cases h5.symm.trans g1
    rw [h6] at g2; cases g2
  exact ⟨cf, i, k, f, st, cell, h1, h2, h3, h4, K.2.1 _ _ h5 ne, h6, h7⟩
theorem own_NSroot {Z : State} {a0 : Array Value} {O K : String} {j : Nat} (w : (Cond.noSuperclass O).before a0 Z = true) (wk : (Cond.instantiable K j).before a0 Z = true) (hn : O ≠ K) : NS Z O K := by
  obtain ⟨c, k, h1, h2, h3, -⟩ := Cond.noSuperclass_spec w
  obtain ⟨t, kt, g1, -⟩ := Cond.instantiable_spec wk
  refine ⟨c, t, h1, g1, fun fuel => ?_⟩
  cases fuel with
  | zero => rfl
  | succ f => simp [Vm.isSubclassAux, ids_ne h1 g1 hn, h2, h3]
theorem own_NSno {Z : State} {a0 : Array Value} {C S K : String} {j : Nat} (w : (Cond.superclass C S).before a0 Z = true) (wk : (Cond.instantiable K j).before a0 Z = true) (q : NS Z C K) (hn : C ≠ K) : ∃ c t, Z.vm.findClass C = some c ∧ Z.vm.findClass K = some t ∧ Z.vm.assignable c t = false := by
  obtain ⟨c, t, h0, g0, n3⟩ := q
  obtain ⟨_, k, _, _, h2, _, _, h5, -⟩ := Cond.superclass_spec h0 w
  obtain ⟨t', kt, g1, g2, g5, g7, -⟩ := Cond.instantiable_spec wk
  cases g0.symm.trans g1
  have g8 : kt.isInterface = false := by simpa using (Bool.or_eq_false_iff.mp g7).1
  refine ⟨c, t, h0, g0, ?_⟩
  show Z.vm.assignableAux (255 + 1) c t = false
  simp [Vm.assignableAux, ids_ne h0 g0 hn, h2, g2, h5, g5, g8, Vm.isSubclass, n3]
theorem own_hc {T : State} {h : Heap} {a : Addr} {c : Cell} (e : T.heap = h) (q : h[a]? = some c) : T.heap[a]? = some c := by subst e; exact q
def own_b (P : Prop) [Decidable P] : Int32 := if P then 1 else 0
theorem own_b1 {P : Prop} [Decidable P] (h : P) : own_b P = 1 := if_pos h
theorem own_b0 {P : Prop} [Decidable P] (h : ¬ P) : own_b P = 0 := if_neg h
variable {p : Program} {l : Launch} {e : Env} {R : Room} {s : State} {m : MethodId} {args : Array Value} {below : List Frame} {meth : Method} {c : Code} {T : State} {locs : List Loc} {cells slots : Nat}
def own_Fin (p : Program) (e : Env) (below : List Frame) (s : State) (Q : Option Value → Heap → List Loc → Prop) (k n : Nat) (A : State) : Prop := ∃ s₂ o, Steps p.tables e below A s₂ ∧ s₂.status = .running ∧ Ended s₂ below o ∧ ∃ v L, o = .returned v ∧ Q v s₂.heap L ∧ FrameEnd s o s₂ L k n
theorem own_go {Q : Option Value → Heap → List Loc → Prop} {k n : Nat} {A B : State} (h : ∀ t, Steps p.tables e below B t → Steps p.tables e below A t) (q : own_Fin p e below s Q k n B) : own_Fin p e below s Q k n A := by
  obtain ⟨s₂, o, h1, h2⟩ := q
  exact ⟨s₂, o, h _ h1, h2⟩
theorem own_retN {Q : Option Value → Heap → List Loc → Prop} {k n : Nat} (X : Stand p l e R s m args below meth c T locs cells slots) (hx : p.tables.exec = Jvm.exec) (hlk : meth.locks = false) {pc : Nat} {Ls : Array Slot} {z w : Int32} {t : FieldType} {rest : List Value} (hret : meth.sig.returnType = some t) (ht : t = .boolean ∨ t = .byte ∨ t = .char ∨ t = .short)
    (hd : decode c.code pc = .ok (.ireturn, 1)) {h : Heap} (eT : T.heap = h) (hz : nar t z = w) (hQ : Q (some (.int w)) h locs) (hk : cells ≤ k) (hn : slots ≤ n) : own_Fin p e below s Q k n (T.setTop (mkF m pc Ls (.int z :: rest))) := by
  subst hz eT
  obtain ⟨fs, hr, hrun, hended, hW, hsame⟩ := X.leave (v := some (.int (nar t z))) (fun h => by rw [hret] at h; cases h) hlk
  exact ⟨_, _, retN X hx hret ht hd hr, hrun, hended, _, _, rfl, hQ, ⟨_, rfl⟩, hW, hsame.mono hk hn⟩
theorem own_retI {Q : Option Value → Heap → List Loc → Prop} {k n : Nat} (X : Stand p l e R s m args below meth c T locs cells slots) (hx : p.tables.exec = Jvm.exec) (hlk : meth.locks = false) {pc : Nat} {Ls : Array Slot} {z : Int32} {rest : List Value} (hret : meth.sig.returnType = some .int)
    (hd : decode c.code pc = .ok (.ireturn, 1)) {h : Heap} (eT : T.heap = h) (hQ : Q (some (.int z)) h locs) (hk : cells ≤ k) (hn : slots ≤ n) : own_Fin p e below s Q k n (T.setTop (mkF m pc Ls (.int z :: rest))) := by
  subst eT
  obtain ⟨fs, hr, hrun, hended, hW, hsame⟩ := X.leave (v := some (.int z)) (fun h => by rw [hret] at h; cases h) hlk
  exact ⟨_, _, retOut X hx hret rfl (Or.inl ⟨rfl, Or.inl rfl, z, rfl⟩) hd hr, hrun, hended, _, _, rfl, hQ, ⟨_, rfl⟩, hW, hsame.mono hk hn⟩
theorem own_retJ {Q : Option Value → Heap → List Loc → Prop} {k n : Nat} (X : Stand p l e R s m args below meth c T locs cells slots) (hx : p.tables.exec = Jvm.exec) (hlk : meth.locks = false) {pc : Nat} {Ls : Array Slot} {z : Int64} {rest : List Value} (hret : meth.sig.returnType = some .long)
    (hd : decode c.code pc = .ok (.lreturn, 1)) {h : Heap} (eT : T.heap = h) (hQ : Q (some (.long z)) h locs) (hk : cells ≤ k) (hn : slots ≤ n) : own_Fin p e below s Q k n (T.setTop (mkF m pc Ls (.long z :: rest))) := by
  subst eT
  obtain ⟨fs, hr, hrun, hended, hW, hsame⟩ := X.leave (v := some (.long z)) (fun h => by rw [hret] at h; cases h) hlk
  exact ⟨_, _, retOut X hx hret rfl (Or.inr (Or.inl ⟨rfl, rfl, z, rfl⟩)) hd hr, hrun, hended, _, _, rfl, hQ, ⟨_, rfl⟩, hW, hsame.mono hk hn⟩
theorem own_retD {Q : Option Value → Heap → List Loc → Prop} {k n : Nat} (X : Stand p l e R s m args below meth c T locs cells slots) (hx : p.tables.exec = Jvm.exec) (hlk : meth.locks = false) {pc : Nat} {Ls : Array Slot} {z : UInt64} {rest : List Value} (hret : meth.sig.returnType = some .double)
    (hd : decode c.code pc = .ok (.dreturn, 1)) {h : Heap} (eT : T.heap = h) (hQ : Q (some (.double z)) h locs) (hk : cells ≤ k) (hn : slots ≤ n) : own_Fin p e below s Q k n (T.setTop (mkF m pc Ls (.double z :: rest))) := by
  subst eT
  obtain ⟨fs, hr, hrun, hended, hW, hsame⟩ := X.leave (v := some (.double z)) (fun h => by rw [hret] at h; cases h) hlk
  exact ⟨_, _, retOut X hx hret rfl (Or.inr (Or.inr (Or.inl ⟨rfl, rfl, z, rfl⟩))) hd hr, hrun, hended, _, _, rfl, hQ, ⟨_, rfl⟩, hW, hsame.mono hk hn⟩
theorem own_retA {Q : Option Value → Heap → List Loc → Prop} {k n : Nat} (X : Stand p l e R s m args below meth c T locs cells slots) (hx : p.tables.exec = Jvm.exec) (hlk : meth.locks = false) {pc : Nat} {Ls : Array Slot} {w : Value} {t : FieldType} {rest : List Value} (hret : meth.sig.returnType = some t) (ht : t.isReference = true) (hw : w.isRef = true)
    (hd : decode c.code pc = .ok (.areturn, 1)) {h : Heap} (eT : T.heap = h) (hQ : Q (some w) h locs) (hk : cells ≤ k) (hn : slots ≤ n) : own_Fin p e below s Q k n (T.setTop (mkF m pc Ls (w :: rest))) := by
  subst eT
  obtain ⟨fs, hr, hrun, hended, hW, hsame⟩ := X.leave (v := some w) (fun h => by rw [hret] at h; cases h) hlk
  have hnw : narrow t w = w := by
    rcases ref_cases hw with rfl | ⟨z, rfl⟩ <;> cases t <;> first | rfl | (cases ht; done)
  exact ⟨_, _, retOut X hx hret hnw (Or.inr (Or.inr (Or.inr (Or.inr ⟨rfl, ht, hw⟩)))) hd hr, hrun, hended, _, _, rfl, hQ, ⟨_, rfl⟩, hW, hsame.mono hk hn⟩
theorem own_retV {Q : Option Value → Heap → List Loc → Prop} {k n : Nat} (X : Stand p l e R s m args below meth c T locs cells slots) (hx : p.tables.exec = Jvm.exec) (hlk : meth.locks = false) {pc : Nat} {Ls : Array Slot} (hret : meth.sig.returnType = none)
    (hd : decode c.code pc = .ok (.return_, 1)) {h : Heap} (eT : T.heap = h) (hQ : Q none h locs) (hk : cells ≤ k) (hn : slots ≤ n) : own_Fin p e below s Q k n (T.setTop (mkF m pc Ls [])) := by
  subst eT
  obtain ⟨fs, hr, hrun, hended, hW, hsame⟩ := X.leave (v := none) (fun _ => rfl) hlk
  exact ⟨_, _, X.returnOut hx hret hd hr, hrun, hended, _, _, rfl, hQ, ⟨_, rfl⟩, hW, hsame.mono hk hn⟩
end OwnKit
section OwnNums
theorem own_iushr (x : Int32) {n : UInt32} {k : Nat} (hn : n.toNat = k) (h0 : 0 < k) (hk : k < 32) : ((x.toUInt32 >>> n).toInt32).toInt = (x.toInt % 4294967296) / 2 ^ k := by
  have e2 : ((x.toUInt32 >>> n).toInt32).toBitVec.toNat = x.toBitVec.toNat / 2 ^ k := by
    simp only [UInt32.toBitVec_toInt32, UInt32.toBitVec_shiftRight, Int32.toBitVec_toUInt32]
    simp [BitVec.toNat_ushiftRight, Nat.shiftRight_eq_div_pow, hn, Nat.mod_eq_of_lt hk]
  have hb := x.toBitVec.isLt
  have hp : 2 ^ 1 ≤ 2 ^ k := Nat.pow_le_pow_right (by decide) h0
  have hle : x.toBitVec.toNat / 2 ^ k ≤ x.toBitVec.toNat / 2 ^ 1 := Nat.div_le_div_left hp (by decide)
  have e3 : ((x.toUInt32 >>> n).toInt32).toInt = ((x.toBitVec.toNat / 2 ^ k : Nat) : Int) := by
    have : ((x.toUInt32 >>> n).toInt32).toInt = ((x.toUInt32 >>> n).toInt32).toBitVec.toInt := rfl
    rw [this, BitVec.toInt_eq_toNat_cond, e2, if_pos (by omega)]
  have e4 : x.toInt % 4294967296 = (x.toBitVec.toNat : Int) := by
    have : x.toInt = x.toBitVec.toInt := rfl
    rw [this, BitVec.toInt_eq_toNat_cond]
    split <;> omega
  rw [e3, e4, Int.natCast_ediv, Int.natCast_pow]
  rfl
theorem own_lushr (x : Int64) {n : UInt64} {k : Nat} (hn : n.toNat = k) (h0 : 0 < k) (hk : k < 64) : ((x.toUInt64 >>> n).toInt64).toInt = (x.toInt % 18446744073709551616) / 2 ^ k := by
  have e2 : ((x.toUInt64 >>> n).toInt64).toBitVec.toNat = x.toBitVec.toNat / 2 ^ k := by
    simp only [UInt64.toBitVec_toInt64, UInt64.toBitVec_shiftRight, Int64.toBitVec_toUInt64]
    simp [BitVec.toNat_ushiftRight, Nat.shiftRight_eq_div_pow, hn, Nat.mod_eq_of_lt hk]
  have hb := x.toBitVec.isLt
  have hp : 2 ^ 1 ≤ 2 ^ k := Nat.pow_le_pow_right (by decide) h0
  have hle : x.toBitVec.toNat / 2 ^ k ≤ x.toBitVec.toNat / 2 ^ 1 := Nat.div_le_div_left hp (by decide)
  have e3 : ((x.toUInt64 >>> n).toInt64).toInt = ((x.toBitVec.toNat / 2 ^ k : Nat) : Int) := by
    have : ((x.toUInt64 >>> n).toInt64).toInt = ((x.toUInt64 >>> n).toInt64).toBitVec.toInt := rfl
    rw [this, BitVec.toInt_eq_toNat_cond, e2, if_pos (by omega)]
  have e4 : x.toInt % 18446744073709551616 = (x.toBitVec.toNat : Int) := by
    have : x.toInt = x.toBitVec.toInt := rfl
    rw [this, BitVec.toInt_eq_toNat_cond]
    split <;> omega
  rw [e3, e4, Int.natCast_ediv, Int.natCast_pow]
  rfl
theorem own_l2i (x : Int64) : (x.toInt32.toInt - x.toInt) % 4294967296 = 0 := by rw [Int64.toInt_toInt32]; exact bm32 _
theorem own_div32 {x y : Int32} (hx : 0 ≤ x.toInt) (hy : 0 < y.toInt) : (x / y).toInt = x.toInt / y.toInt := by
  rw [Jvm.Kit.i32_div (by omega), Int.tdiv_eq_ediv_of_nonneg hx]
theorem own_div64 {x y : Int64} (hx : 0 ≤ x.toInt) (hy : 0 < y.toInt) : (x / y).toInt = x.toInt / y.toInt := by
  rw [Jvm.Kit.i64_div (by omega), Int.tdiv_eq_ediv_of_nonneg hx]
theorem own_i2c (x : Int32) : (x.toUInt32.toUInt16.toUInt32.toInt32).toInt = x.toInt % 65536 := by
  have e2 : (x.toUInt32.toUInt16.toUInt32.toInt32).toBitVec.toNat = x.toBitVec.toNat % 65536 := by
    show (x.toUInt32.toUInt16.toUInt32).toNat = _
    simp
    rfl
  have hb := x.toBitVec.isLt
  have e3 : (x.toUInt32.toUInt16.toUInt32.toInt32).toInt = (x.toUInt32.toUInt16.toUInt32.toInt32).toBitVec.toInt := rfl
  have e4 : x.toInt = x.toBitVec.toInt := rfl
  rw [e3, e4, BitVec.toInt_eq_toNat_cond, BitVec.toInt_eq_toNat_cond, e2]
  split <;> split <;> omega
theorem own_i2b (x : Int32) : ((x.toInt8.toInt32).toInt - x.toInt) % 256 = 0 ∧ -128 ≤ (x.toInt8.toInt32).toInt ∧ (x.toInt8.toInt32).toInt < 128 := by
  have h1 : (x.toInt8.toInt32).toInt = x.toInt8.toInt := Int8.toInt_toInt32 _
  have h2 := x.toInt8.toInt_lt; have h3 := x.toInt8.le_toInt
  have h4 : x.toInt8.toInt = x.toInt.bmod 256 := Int32.toInt_toInt8 x
  have h5 := Int.bmod_emod (x := x.toInt) (m := 256)
  rw [h1]; omega
end OwnNums
theorem own_pd0 : parseMethodDescriptor "()V" = some ⟨[], none⟩ := by decide +kernel
theorem own_pd1 : parseMethodDescriptor "(IJ)V" = some ⟨[.int, .long], none⟩ := by decide +kernel
theorem own_pd2 : parseMethodDescriptor "(I)Lcom/example/fabius/fabius/retry/Unsigned;" = some ⟨[.int], some (.object "com/example/fabius/fabius/retry/Unsigned")⟩ := by decide +kernel
theorem own_pd3 : parseMethodDescriptor "()I" = some ⟨[], some .int⟩ := by decide +kernel
theorem own_pd4 : parseMethodDescriptor "()J" = some ⟨[], some .long⟩ := by decide +kernel
theorem own_pd5 : parseMethodDescriptor "()D" = some ⟨[], some .double⟩ := by decide +kernel
theorem own_pd6 : parseMethodDescriptor "(Ljava/lang/Object;)Z" = some ⟨[(.object "java/lang/Object")], some .boolean⟩ := by decide +kernel
theorem own_i64_0 : (0 : Int64).toInt = 0 := by decide
theorem own_i64_65536 : (65536 : Int64).toInt = 65536 := by decide
theorem own_i64_256 : (256 : Int64).toInt = 256 := by decide
theorem own_i32_255 : (255 : Int32).toInt = 255 := by decide
theorem own_i32_8 : (8 : Int32).toInt = 8 := by decide
theorem own_i32_16 : (16 : Int32).toInt = 16 := by decide
abbrev R_own_rm3 : Room := { frames := 1, cells := 0, slots := 0, locals := 12 }
theorem d3_0 : decode jdk_18_method_1_code 0 = .ok (.aload_n 0, 1) := by decide +kernel
theorem d3_1 : decode jdk_18_method_1_code 1 = .ok (.invokespecial 1, 3) := by decide +kernel
theorem d3_4 : decode jdk_18_method_1_code 4 = .ok (.return_, 1) := by decide +kernel
theorem own_pn0 : plainName "java/lang/Number" = true := by first | (simp [plainName, overriddenIn]; done) | decide +kernel
theorem ef_own_rm3 (m : MethodId) (x0 : Addr) : entryFrame m #[(.ref x0)] 1 = mkF m 0 #[.val (.ref x0)] [] := by first | (simp [entryFrame, mkF, argsToLocals, Value.category]; done) | rfl
def Q_own_rm3 (Z : State) (a1 : Addr) (h0 : Heap) (n0 : Nat) (v : Option Value) (h : Heap) (L : List Loc) : Prop := v = none ∧ Fr n0 L ∧ h = h0
set_option maxRecDepth 65536 in
set_option maxHeartbeats 400000000 in
theorem own_rm3 (l : Launch) (Z : State) (a0 : Array Value) (hw : ∀ d ∈ tables_1, d.before a0 Z = true) (ws : List Jvm.Cond) (a1 : Addr) (h0 : Heap) (n0 : Nat) (Z0 : n0 ≤ h0.size)  :
    MetFree l (⟨"java/lang/Number", "<init>", "()V"⟩ : MethodName) (head1 (Jvm.Cond.code (⟨"java/lang/Number", "<init>", "()V"⟩ : MethodName) jdk_18_method_1_code 1 none :: ws) R_own_rm3) (fun a U => a = #[(.ref a1)] ∧ Z.Warmed39 U.vm ∧ U.heap = h0) (fun _ _ _ _ _ => True) (fun _ U o U' => ∃ v L, o = .returned v ∧ Q_own_rm3 Z a1 h0 n0 v U'.heap L ∧ FrameEnd U o U' L R_own_rm3.cells R_own_rm3.slots) := by
  refine MetFree.of_bodySF (plainFor_of_name own_pn0) hisR ?_
  intro p e s m args below meth c s₁ Bd hml0 hP hK
  obtain ⟨rfl, hZ, hh⟩ := hP
  have hx := Bd.exec
  have hby := Bd.bytes
  have hml : c.maxLocals = 1 := hml0
  have hown : s.vm.findClass "java/lang/Number" = some m.cls := findClass_of_methodNamed Bd.named
  have hnm := (name_of_methodNamed Bd.named Bd.method).1
  have X0 : Stand p l e R_own_rm3 s m #[(.ref a1)] below meth c s₁ [] 0 0 := Stand.of_body Bd
  have e0 : s₁.heap = h0 := by rw [← hh, Bd.state]; rfl
  have N0 := Fr.nil n0
  have K0 : Keep h0 h0 [] := Keep.refl h0 []
  show own_Fin p e below s (Q_own_rm3 Z a1 h0 n0) R_own_rm3.cells R_own_rm3.slots (s₁.setTop (entryFrame m #[(.ref a1)] 1))
  refine own_go (fun _ k => castTop (ef_own_rm3 m a1) k) ?_
  show own_Fin _ _ _ _ _ _ _ (s₁.setTop (mkF m 0 #[.val (.ref a1)] []))
  refine own_go (B := s₁.setTop (mkF m 1 #[.val (.ref a1)] [(.ref a1)])) (fun _ k => XS.aloadN X0.here hx rfl (hb hby d3_0) rfl rfl k) ?_
  obtain ⟨T1, X1, e1, st1⟩ := initO X0 hx hZ hown (own_w hw 14 rfl) (own_w hw 15 rfl) (own_w hw 16 rfl) e0 (g := (mkF m 1 #[.val (.ref a1)] [(.ref a1)])) rfl (by rw [hml]; rfl) rfl (hb hby d3_1) (by decide) (W := 0) (by show 2 * 0 + _ ≤ _; exact Nat.le_of_eq rfl) (by decide)
  refine own_go (B := T1.setTop (mkF m 4 #[.val (.ref a1)] [])) st1 ?_
  exact own_retV X1 hx Bd.notSynchronized Bd.returns (hb hby d3_4) e1 ⟨rfl, N0, rfl⟩ (by decide) (by decide)
abbrev R_own_rmIs : Room := { frames := 2, cells := 0, slots := 0, locals := 24 }
theorem d2_0 : decode prog_9_method_1_code 0 = .ok (.aload_n 0, 1) := by decide +kernel
theorem d2_1 : decode prog_9_method_1_code 1 = .ok (.invokespecial 1, 3) := by decide +kernel
theorem d2_4 : decode prog_9_method_1_code 4 = .ok (.lload_n 2, 1) := by decide +kernel
theorem d2_5 : decode prog_9_method_1_code 5 = .ok (.lconst 0, 1) := by decide +kernel
theorem d2_6 : decode prog_9_method_1_code 6 = .ok (.lcmp, 1) := by decide +kernel
theorem d2_7 : decode prog_9_method_1_code 7 = .ok (.ifCond .lt 11, 3) := by decide +kernel
theorem d2_10 : decode prog_9_method_1_code 10 = .ok (.lload_n 2, 1) := by decide +kernel
theorem d2_11 : decode prog_9_method_1_code 11 = .ok (.lconst 1, 1) := by decide +kernel
theorem d2_12 : decode prog_9_method_1_code 12 = .ok (.iload_n 1, 1) := by decide +kernel
theorem d2_13 : decode prog_9_method_1_code 13 = .ok (.lshl, 1) := by decide +kernel
theorem d2_14 : decode prog_9_method_1_code 14 = .ok (.lcmp, 1) := by decide +kernel
theorem d2_15 : decode prog_9_method_1_code 15 = .ok (.ifCond .lt 18, 3) := by decide +kernel
theorem d2_33 : decode prog_9_method_1_code 33 = .ok (.aload_n 0, 1) := by decide +kernel
theorem d2_34 : decode prog_9_method_1_code 34 = .ok (.iload_n 1, 1) := by decide +kernel
theorem d2_35 : decode prog_9_method_1_code 35 = .ok (.putfield 16, 3) := by decide +kernel
theorem d2_38 : decode prog_9_method_1_code 38 = .ok (.aload_n 0, 1) := by decide +kernel
theorem d2_39 : decode prog_9_method_1_code 39 = .ok (.lload_n 2, 1) := by decide +kernel
theorem d2_40 : decode prog_9_method_1_code 40 = .ok (.putfield 22, 3) := by decide +kernel
theorem d2_43 : decode prog_9_method_1_code 43 = .ok (.return_, 1) := by decide +kernel
theorem own_pn1 : plainName "com/example/fabius/fabius/retry/Unsigned" = true := by first | (simp [plainName, overriddenIn]; done) | decide +kernel
theorem ef_own_rmIs (m : MethodId) (x0 : Addr) (x2 : Int64) : entryFrame m #[(.ref x0), (.int (16 : Int32)), (.long x2)] 4 = mkF m 0 #[.val (.ref x0), .val (.int (16 : Int32)), .val (.long x2), .second] [] := by first | (simp [entryFrame, mkF, argsToLocals, Value.category]; done) | rfl
set_option maxHeartbeats 2000000 in
theorem own_pl_rmIs_1 (q2 : Int64) (hq : 0 ≤ q2.toInt) (hr : q2.toInt < 65536) : ¬ (q2 < (0 : Int64)) := by
  have := rng64 q2
  try simp only [own_i64_0] at *
  have := own_i64_0
  try simp only [Int32.lt_iff_toInt_lt, Int32.le_iff_toInt_le, Int64.lt_iff_toInt_lt, Int64.le_iff_toInt_le, ← Int32.toInt_inj, ← Int64.toInt_inj, true_and, and_true, true_or, or_true, false_or, or_false, not_true_eq_false, not_false_eq_true, false_and, and_false] at *
  all_goals first | omega | (simp; done)
set_option maxHeartbeats 2000000 in
theorem own_pl_rmIs_2 (q2 : Int64) (hq : 0 ≤ q2.toInt) (hr : q2.toInt < 65536) (hc2 : ¬ (q2 < (0 : Int64))) : q2 < (65536 : Int64) := by
  have := rng64 q2
  try simp only [own_i64_0, own_i64_65536] at *
  have := own_i64_0
  have := own_i64_65536
  try simp only [Int32.lt_iff_toInt_lt, Int32.le_iff_toInt_le, Int64.lt_iff_toInt_lt, Int64.le_iff_toInt_le, ← Int32.toInt_inj, ← Int64.toInt_inj, true_and, and_true, true_or, or_true, false_or, or_false, not_true_eq_false, not_false_eq_true, false_and, and_false] at *
  all_goals first | omega | (simp; done)
def Q_own_rmIs (Z : State) (a1 : Addr) (q2 : Int64) (h0 : Heap) (n0 : Nat) (v : Option Value) (h : Heap) (L : List Loc) : Prop := v = none ∧ Fr n0 L ∧ Keep h0 h [a1] ∧ Exa Z h a1 "com/example/fabius/fabius/retry/Unsigned" ∧ Fld Z h a1 "com/example/fabius/fabius/retry/Unsigned" "bits" "I" (.int (16 : Int32)) ∧ Fld Z h a1 "com/example/fabius/fabius/retry/Unsigned" "value" "J" (.long q2)
set_option maxRecDepth 65536 in
set_option maxHeartbeats 400000000 in
theorem own_rmIs (l : Launch) (Z : State) (a0 : Array Value) (hw : ∀ d ∈ tables_1, d.before a0 Z = true) (ws : List Jvm.Cond) (a1 : Addr) (q2 : Int64) (h0 : Heap) (n0 : Nat) (Z0 : n0 ≤ h0.size) (P_E_a1 : Exa Z h0 a1 "com/example/fabius/fabius/retry/Unsigned") (P_F_a1_bits : Fld Z h0 a1 "com/example/fabius/fabius/retry/Unsigned" "bits" "I" (.int (0 : Int32))) (P_F_a1_value : Fld Z h0 a1 "com/example/fabius/fabius/retry/Unsigned" "value" "J" (.long (0 : Int64))) (g_a1 : n0 ≤ a1) (hq : 0 ≤ q2.toInt) (hr : q2.toInt < 65536) :
    MetFree l (⟨"com/example/fabius/fabius/retry/Unsigned", "<init>", "(IJ)V"⟩ : MethodName) (head1 (Jvm.Cond.code (⟨"com/example/fabius/fabius/retry/Unsigned", "<init>", "(IJ)V"⟩ : MethodName) prog_9_method_1_code 4 none :: ws) R_own_rmIs) (fun a U => a = #[(.ref a1), (.int (16 : Int32)), (.long q2)] ∧ Z.Warmed39 U.vm ∧ U.heap = h0) (fun _ _ _ _ _ => True) (fun _ U o U' => ∃ v L, o = .returned v ∧ Q_own_rmIs Z a1 q2 h0 n0 v U'.heap L ∧ FrameEnd U o U' L R_own_rmIs.cells R_own_rmIs.slots) := by
  refine MetFree.of_bodySF (plainFor_of_name own_pn1) hisR ?_
  intro p e s m args below meth c s₁ Bd hml0 hP hK
  obtain ⟨rfl, hZ, hh⟩ := hP
  have hx := Bd.exec
  have hby := Bd.bytes
  have hml : c.maxLocals = 4 := hml0
  have hown : s.vm.findClass "com/example/fabius/fabius/retry/Unsigned" = some m.cls := findClass_of_methodNamed Bd.named
  have hnm := (name_of_methodNamed Bd.named Bd.method).1
  have X0 : Stand p l e R_own_rmIs s m #[(.ref a1), (.int (16 : Int32)), (.long q2)] below meth c s₁ [] 0 0 := Stand.of_body Bd
  have e0 : s₁.heap = h0 := by rw [← hh, Bd.state]; rfl
  have N0 := Fr.nil n0
  have K0 : Keep h0 h0 [a1] := Keep.refl h0 [a1]
  show own_Fin p e below s (Q_own_rmIs Z a1 q2 h0 n0) R_own_rmIs.cells R_own_rmIs.slots (s₁.setTop (entryFrame m #[(.ref a1), (.int (16 : Int32)), (.long q2)] 4))
  refine own_go (fun _ k => castTop (ef_own_rmIs m a1 q2) k) ?_
  show own_Fin _ _ _ _ _ _ _ (s₁.setTop (mkF m 0 #[.val (.ref a1), .val (.int (16 : Int32)), .val (.long q2), .second] []))
  refine own_go (B := s₁.setTop (mkF m 1 #[.val (.ref a1), .val (.int (16 : Int32)), .val (.long q2), .second] [(.ref a1)])) (fun _ k => XS.aloadN X0.here hx rfl (hb hby d2_0) rfl rfl k) ?_
  obtain ⟨_, _, ⟨T1, L1, k1, n1⟩, -, X1, ⟨Lc1, hQ1, l1, y1, z1⟩, st1⟩ := X0.specialBack hx (y := (⟨"java/lang/Number", "<init>", "()V"⟩ : MethodName)) rfl hown (mvT hZ (own_w hw 9 rfl)) (mvT hZ (own_w hw 10 rfl)) (mvT hZ (own_w hw 13 rfl)) (by decide) (backOf (W := 0) (own_rm3 l Z a0 hw [] a1 h0 n0 (Nat.le_trans Z0 K0.1) ) hZ (own_w hw 13 rfl) (own_w hw 12 rfl) (by decide) (by decide)) (g := (mkF m 1 #[.val (.ref a1), .val (.int (16 : Int32)), .val (.long q2), .second] [(.ref a1)])) rfl (by rw [hml]; rfl) (Steps.refl _) (a := a1) (argsL := []) (rest := []) (lenOf own_pd0 rfl) rfl (by show 2 * 0 + _ ≤ _; exact Nat.le_of_eq rfl) (hb hby d2_1) (fun _ _ => ⟨rfl, e0, (by decide : 0 + 0 ≤ _), (by decide : 0 + 0 ≤ _)⟩)
  dsimp only [Pt.U, Pt.locs, Pt.cells, Pt.slots] at X1 l1 y1 z1 st1 hQ1
  subst l1 y1 z1
  obtain ⟨rfl, N1q, e1⟩ := hQ1
  have N1 := Fr.app N0 N1q
  refine own_go (B := T1.setTop (mkF m 4 #[.val (.ref a1), .val (.int (16 : Int32)), .val (.long q2), .second] [])) (fun _ k => st1.trans k) ?_
  refine own_go (B := T1.setTop (mkF m 5 #[.val (.ref a1), .val (.int (16 : Int32)), .val (.long q2), .second] [(.long q2)])) (fun _ k => XS.lloadN X1.here hx rfl (hb hby d2_4) rfl  k) ?_
  refine own_go (B := T1.setTop (mkF m 6 #[.val (.ref a1), .val (.int (16 : Int32)), .val (.long q2), .second] [(.long (0 : Int64)), (.long q2)])) (fun _ k => XS.lconst X1.here hx rfl (hb hby d2_5) k) ?_
  refine own_go (B := T1.setTop (mkF m 7 #[.val (.ref a1), .val (.int (16 : Int32)), .val (.long q2), .second] [(.int (lcmpW q2 (0 : Int64)))])) (fun _ k => XS.lcmp X1.here hx rfl (hb hby d2_6) rfl k) ?_
  have hc2 : ¬ (q2 < (0 : Int64)) := (own_pl_rmIs_1 q2 hq hr)
  refine own_go (B := T1.setTop (mkF m 10 #[.val (.ref a1), .val (.int (16 : Int32)), .val (.long q2), .second] [])) (fun _ k => XS.ifNo X1.here hx rfl (hb hby d2_7) rfl ((if0 _ _).trans (flt (mt (lw_lt q2 (0 : Int64)).mp hc2)).1) k) ?_
  refine own_go (B := T1.setTop (mkF m 11 #[.val (.ref a1), .val (.int (16 : Int32)), .val (.long q2), .second] [(.long q2)])) (fun _ k => XS.lloadN X1.here hx rfl (hb hby d2_10) rfl  k) ?_
  refine own_go (B := T1.setTop (mkF m 12 #[.val (.ref a1), .val (.int (16 : Int32)), .val (.long q2), .second] [(.long (1 : Int64)), (.long q2)])) (fun _ k => XS.lconst X1.here hx rfl (hb hby d2_11) k) ?_
  refine own_go (B := T1.setTop (mkF m 13 #[.val (.ref a1), .val (.int (16 : Int32)), .val (.long q2), .second] [(.int (16 : Int32)), (.long (1 : Int64)), (.long q2)])) (fun _ k => XS.iloadN X1.here hx rfl (hb hby d2_12) rfl  k) ?_
  refine own_go (B := T1.setTop (mkF m 14 #[.val (.ref a1), .val (.int (16 : Int32)), .val (.long q2), .second] [(.long ((1 : Int64) <<< ((16 : Int32) &&& 0x3f).toInt64)), (.long q2)])) (fun _ k => XS.lshl X1.here hx rfl (hb hby d2_13) rfl k) ?_
  rw [show ((1 : Int64) <<< ((16 : Int32) &&& 0x3f).toInt64) = (65536 : Int64) from by decide]
  show own_Fin _ _ _ _ _ _ _ (T1.setTop (mkF m 14 #[.val (.ref a1), .val (.int (16 : Int32)), .val (.long q2), .second] [(.long (65536 : Int64)), (.long q2)]))
  refine own_go (B := T1.setTop (mkF m 15 #[.val (.ref a1), .val (.int (16 : Int32)), .val (.long q2), .second] [(.int (lcmpW q2 (65536 : Int64)))])) (fun _ k => XS.lcmp X1.here hx rfl (hb hby d2_14) rfl k) ?_
  have hc3 : q2 < (65536 : Int64) := (own_pl_rmIs_2 q2 hq hr hc2)
  refine own_go (B := T1.setTop (mkF m 33 #[.val (.ref a1), .val (.int (16 : Int32)), .val (.long q2), .second] [])) (fun _ k => XS.ifYes X1.here hx rfl (pc0 := 15) (pc' := 33) rfl (hb hby d2_15) rfl ((if0 _ _).trans (tlt ((lw_lt q2 (65536 : Int64)).mpr hc3)).1) (by decide) (by decide) k) ?_
  refine own_go (B := T1.setTop (mkF m 34 #[.val (.ref a1), .val (.int (16 : Int32)), .val (.long q2), .second] [(.ref a1)])) (fun _ k => XS.aloadN X1.here hx rfl (hb hby d2_33) rfl rfl k) ?_
  refine own_go (B := T1.setTop (mkF m 35 #[.val (.ref a1), .val (.int (16 : Int32)), .val (.long q2), .second] [(.int (16 : Int32)), (.ref a1)])) (fun _ k => XS.iloadN X1.here hx rfl (hb hby d2_34) rfl  k) ?_
  obtain ⟨T4, h4, X4, e4, W4, st4⟩ := putF X1 hx hZ hown (host := "") (Or.inl (own_w hw 17 rfl)) Via.refl e1 P_F_a1_bits P_E_a1 (Or.inr ⟨(own_w hw 18 rfl), rfl, hnm⟩) (own_w hw 5 rfl) (ty := .int) (by decide) rfl rfl (g := (mkF m 35 #[.val (.ref a1), .val (.int (16 : Int32)), .val (.long q2), .second] [(.int (16 : Int32)), (.ref a1)])) rfl rfl (hb hby d2_35)
  have F_w4 : Fld Z h4 a1 "com/example/fabius/fabius/retry/Unsigned" "bits" "I" (.int (16 : Int32)) := P_F_a1_bits.same W4
  have E_6 := P_E_a1.wr W4
  have F_8 := P_F_a1_value.other W4 (Or.inr (slot_ne (Or.inr (own_w hw 20 rfl)) (Or.inr (own_w hw 18 rfl)) (by decide) (t := .long) (t' := .int) (by decide) (by decide)))
  have K9 : Keep h0 h4 [a1] := K0.wr W4 (Or.inl (List.mem_of_getElem? (i := 0) rfl))
  have N4 := Fr.snoc X4 N1 g_a1
  refine own_go (B := T4.setTop (mkF m 38 #[.val (.ref a1), .val (.int (16 : Int32)), .val (.long q2), .second] [])) st4 ?_
  refine own_go (B := T4.setTop (mkF m 39 #[.val (.ref a1), .val (.int (16 : Int32)), .val (.long q2), .second] [(.ref a1)])) (fun _ k => XS.aloadN X4.here hx rfl (hb hby d2_38) rfl rfl k) ?_
  refine own_go (B := T4.setTop (mkF m 40 #[.val (.ref a1), .val (.int (16 : Int32)), .val (.long q2), .second] [(.long q2), (.ref a1)])) (fun _ k => XS.lloadN X4.here hx rfl (hb hby d2_39) rfl  k) ?_
  obtain ⟨T10, h10, X10, e10, W10, st10⟩ := putF X4 hx hZ hown (host := "") (Or.inl (own_w hw 19 rfl)) Via.refl e4 F_8 E_6 (Or.inr ⟨(own_w hw 20 rfl), rfl, hnm⟩) (own_w hw 5 rfl) (ty := .long) (by decide) rfl rfl (g := (mkF m 40 #[.val (.ref a1), .val (.int (16 : Int32)), .val (.long q2), .second] [(.long q2), (.ref a1)])) rfl rfl (hb hby d2_40)
  have F_w10 : Fld Z h10 a1 "com/example/fabius/fabius/retry/Unsigned" "value" "J" (.long q2) := F_8.same W10
  have E_12 := E_6.wr W10
  have F_14 := F_w4.other W10 (Or.inr (slot_ne (Or.inr (own_w hw 18 rfl)) (Or.inr (own_w hw 20 rfl)) (by decide) (t := .int) (t' := .long) (by decide) (by decide)))
  have K15 : Keep h0 h10 [a1] := K9.wr W10 (Or.inl (List.mem_of_getElem? (i := 0) rfl))
  have N10 := Fr.snoc X10 N4 g_a1
  refine own_go (B := T10.setTop (mkF m 43 #[.val (.ref a1), .val (.int (16 : Int32)), .val (.long q2), .second] [])) st10 ?_
  exact own_retV X10 hx Bd.notSynchronized Bd.returns (hb hby d2_43) e10 ⟨rfl, N10, K15, E_12, F_14, F_w10⟩ (by decide) (by decide)
abbrev R_own_rmIb : Room := { frames := 2, cells := 0, slots := 0, locals := 24 }
theorem ef_own_rmIb (m : MethodId) (x0 : Addr) (x2 : Int64) : entryFrame m #[(.ref x0), (.int (8 : Int32)), (.long x2)] 4 = mkF m 0 #[.val (.ref x0), .val (.int (8 : Int32)), .val (.long x2), .second] [] := by first | (simp [entryFrame, mkF, argsToLocals, Value.category]; done) | rfl
set_option maxHeartbeats 2000000 in
theorem own_pl_rmIb_1 (q2 : Int64) (hq : 0 ≤ q2.toInt) (hr : q2.toInt < 256) : ¬ (q2 < (0 : Int64)) := by
  have := rng64 q2
  try simp only [own_i64_0] at *
  have := own_i64_0
  try simp only [Int32.lt_iff_toInt_lt, Int32.le_iff_toInt_le, Int64.lt_iff_toInt_lt, Int64.le_iff_toInt_le, ← Int32.toInt_inj, ← Int64.toInt_inj, true_and, and_true, true_or, or_true, false_or, or_false, not_true_eq_false, not_false_eq_true, false_and, and_false] at *
  all_goals first | omega | (simp; done)
set_option maxHeartbeats 2000000 in
theorem own_pl_rmIb_2 (q2 : Int64) (hq : 0 ≤ q2.toInt) (hr : q2.toInt < 256) (hc2 : ¬ (q2 < (0 : Int64))) : q2 < (256 : Int64) := by
  have := rng64 q2
  try simp only [own_i64_0, own_i64_256] at *
  have := own_i64_0
  have := own_i64_256
  try simp only [Int32.lt_iff_toInt_lt, Int32.le_iff_toInt_le, Int64.lt_iff_toInt_lt, Int64.le_iff_toInt_le, ← Int32.toInt_inj, ← Int64.toInt_inj, true_and, and_true, true_or, or_true, false_or, or_false, not_true_eq_false, not_false_eq_true, false_and, and_false] at *
  all_goals first | omega | (simp; done)
def Q_own_rmIb (Z : State) (a1 : Addr) (q2 : Int64) (h0 : Heap) (n0 : Nat) (v : Option Value) (h : Heap) (L : List Loc) : Prop := v = none ∧ Fr n0 L ∧ Keep h0 h [a1] ∧ Exa Z h a1 "com/example/fabius/fabius/retry/Unsigned" ∧ Fld Z h a1 "com/example/fabius/fabius/retry/Unsigned" "bits" "I" (.int (8 : Int32)) ∧ Fld Z h a1 "com/example/fabius/fabius/retry/Unsigned" "value" "J" (.long q2)
set_option maxRecDepth 65536 in
set_option maxHeartbeats 400000000 in
theorem own_rmIb (l : Launch) (Z : State) (a0 : Array Value) (hw : ∀ d ∈ tables_1, d.before a0 Z = true) (ws : List Jvm.Cond) (a1 : Addr) (q2 : Int64) (h0 : Heap) (n0 : Nat) (Z0 : n0 ≤ h0.size) (P_E_a1 : Exa Z h0 a1 "com/example/fabius/fabius/retry/Unsigned") (P_F_a1_bits : Fld Z h0 a1 "com/example/fabius/fabius/retry/Unsigned" "bits" "I" (.int (0 : Int32))) (P_F_a1_value : Fld Z h0 a1 "com/example/fabius/fabius/retry/Unsigned" "value" "J" (.long (0 : Int64))) (g_a1 : n0 ≤ a1) (hq : 0 ≤ q2.toInt) (hr : q2.toInt < 256) :
    MetFree l (⟨"com/example/fabius/fabius/retry/Unsigned", "<init>", "(IJ)V"⟩ : MethodName) (head1 (Jvm.Cond.code (⟨"com/example/fabius/fabius/retry/Unsigned", "<init>", "(IJ)V"⟩ : MethodName) prog_9_method_1_code 4 none :: ws) R_own_rmIb) (fun a U => a = #[(.ref a1), (.int (8 : Int32)), (.long q2)] ∧ Z.Warmed39 U.vm ∧ U.heap = h0) (fun _ _ _ _ _ => True) (fun _ U o U' => ∃ v L, o = .returned v ∧ Q_own_rmIb Z a1 q2 h0 n0 v U'.heap L ∧ FrameEnd U o U' L R_own_rmIb.cells R_own_rmIb.slots) := by
  refine MetFree.of_bodySF (plainFor_of_name own_pn1) hisR ?_
  intro p e s m args below meth c s₁ Bd hml0 hP hK
  obtain ⟨rfl, hZ, hh⟩ := hP
  have hx := Bd.exec
  have hby := Bd.bytes
  have hml : c.maxLocals = 4 := hml0
  have hown : s.vm.findClass "com/example/fabius/fabius/retry/Unsigned" = some m.cls := findClass_of_methodNamed Bd.named
  have hnm := (name_of_methodNamed Bd.named Bd.method).1
  have X0 : Stand p l e R_own_rmIb s m #[(.ref a1), (.int (8 : Int32)), (.long q2)] below meth c s₁ [] 0 0 := Stand.of_body Bd
  have e0 : s₁.heap = h0 := by rw [← hh, Bd.state]; rfl
  have N0 := Fr.nil n0
  have K0 : Keep h0 h0 [a1] := Keep.refl h0 [a1]
  show own_Fin p e below s (Q_own_rmIb Z a1 q2 h0 n0) R_own_rmIb.cells R_own_rmIb.slots (s₁.setTop (entryFrame m #[(.ref a1), (.int (8 : Int32)), (.long q2)] 4))
  refine own_go (fun _ k => castTop (ef_own_rmIb m a1 q2) k) ?_
  show own_Fin _ _ _ _ _ _ _ (s₁.setTop (mkF m 0 #[.val (.ref a1), .val (.int (8 : Int32)), .val (.long q2), .second] []))
  refine own_go (B := s₁.setTop (mkF m 1 #[.val (.ref a1), .val (.int (8 : Int32)), .val (.long q2), .second] [(.ref a1)])) (fun _ k => XS.aloadN X0.here hx rfl (hb hby d2_0) rfl rfl k) ?_
  obtain ⟨_, _, ⟨T1, L1, k1, n1⟩, -, X1, ⟨Lc1, hQ1, l1, y1, z1⟩, st1⟩ := X0.specialBack hx (y := (⟨"java/lang/Number", "<init>", "()V"⟩ : MethodName)) rfl hown (mvT hZ (own_w hw 9 rfl)) (mvT hZ (own_w hw 10 rfl)) (mvT hZ (own_w hw 13 rfl)) (by decide) (backOf (W := 0) (own_rm3 l Z a0 hw [] a1 h0 n0 (Nat.le_trans Z0 K0.1) ) hZ (own_w hw 13 rfl) (own_w hw 12 rfl) (by decide) (by decide)) (g := (mkF m 1 #[.val (.ref a1), .val (.int (8 : Int32)), .val (.long q2), .second] [(.ref a1)])) rfl (by rw [hml]; rfl) (Steps.refl _) (a := a1) (argsL := []) (rest := []) (lenOf own_pd0 rfl) rfl (by show 2 * 0 + _ ≤ _; exact Nat.le_of_eq rfl) (hb hby d2_1) (fun _ _ => ⟨rfl, e0, (by decide : 0 + 0 ≤ _), (by decide : 0 + 0 ≤ _)⟩)
  dsimp only [Pt.U, Pt.locs, Pt.cells, Pt.slots] at X1 l1 y1 z1 st1 hQ1
  subst l1 y1 z1
  obtain ⟨rfl, N1q, e1⟩ := hQ1
  have N1 := Fr.app N0 N1q
  refine own_go (B := T1.setTop (mkF m 4 #[.val (.ref a1), .val (.int (8 : Int32)), .val (.long q2), .second] [])) (fun _ k => st1.trans k) ?_
  refine own_go (B := T1.setTop (mkF m 5 #[.val (.ref a1), .val (.int (8 : Int32)), .val (.long q2), .second] [(.long q2)])) (fun _ k => XS.lloadN X1.here hx rfl (hb hby d2_4) rfl  k) ?_
  refine own_go (B := T1.setTop (mkF m 6 #[.val (.ref a1), .val (.int (8 : Int32)), .val (.long q2), .second] [(.long (0 : Int64)), (.long q2)])) (fun _ k => XS.lconst X1.here hx rfl (hb hby d2_5) k) ?_
  refine own_go (B := T1.setTop (mkF m 7 #[.val (.ref a1), .val (.int (8 : Int32)), .val (.long q2), .second] [(.int (lcmpW q2 (0 : Int64)))])) (fun _ k => XS.lcmp X1.here hx rfl (hb hby d2_6) rfl k) ?_
  have hc2 : ¬ (q2 < (0 : Int64)) := (own_pl_rmIb_1 q2 hq hr)
  refine own_go (B := T1.setTop (mkF m 10 #[.val (.ref a1), .val (.int (8 : Int32)), .val (.long q2), .second] [])) (fun _ k => XS.ifNo X1.here hx rfl (hb hby d2_7) rfl ((if0 _ _).trans (flt (mt (lw_lt q2 (0 : Int64)).mp hc2)).1) k) ?_
  refine own_go (B := T1.setTop (mkF m 11 #[.val (.ref a1), .val (.int (8 : Int32)), .val (.long q2), .second] [(.long q2)])) (fun _ k => XS.lloadN X1.here hx rfl (hb hby d2_10) rfl  k) ?_
  refine own_go (B := T1.setTop (mkF m 12 #[.val (.ref a1), .val (.int (8 : Int32)), .val (.long q2), .second] [(.long (1 : Int64)), (.long q2)])) (fun _ k => XS.lconst X1.here hx rfl (hb hby d2_11) k) ?_
  refine own_go (B := T1.setTop (mkF m 13 #[.val (.ref a1), .val (.int (8 : Int32)), .val (.long q2), .second] [(.int (8 : Int32)), (.long (1 : Int64)), (.long q2)])) (fun _ k => XS.iloadN X1.here hx rfl (hb hby d2_12) rfl  k) ?_
  refine own_go (B := T1.setTop (mkF m 14 #[.val (.ref a1), .val (.int (8 : Int32)), .val (.long q2), .second] [(.long ((1 : Int64) <<< ((8 : Int32) &&& 0x3f).toInt64)), (.long q2)])) (fun _ k => XS.lshl X1.here hx rfl (hb hby d2_13) rfl k) ?_
  rw [show ((1 : Int64) <<< ((8 : Int32) &&& 0x3f).toInt64) = (256 : Int64) from by decide]
  show own_Fin _ _ _ _ _ _ _ (T1.setTop (mkF m 14 #[.val (.ref a1), .val (.int (8 : Int32)), .val (.long q2), .second] [(.long (256 : Int64)), (.long q2)]))
  refine own_go (B := T1.setTop (mkF m 15 #[.val (.ref a1), .val (.int (8 : Int32)), .val (.long q2), .second] [(.int (lcmpW q2 (256 : Int64)))])) (fun _ k => XS.lcmp X1.here hx rfl (hb hby d2_14) rfl k) ?_
  have hc3 : q2 < (256 : Int64) := (own_pl_rmIb_2 q2 hq hr hc2)
  refine own_go (B := T1.setTop (mkF m 33 #[.val (.ref a1), .val (.int (8 : Int32)), .val (.long q2), .second] [])) (fun _ k => XS.ifYes X1.here hx rfl (pc0 := 15) (pc' := 33) rfl (hb hby d2_15) rfl ((if0 _ _).trans (tlt ((lw_lt q2 (256 : Int64)).mpr hc3)).1) (by decide) (by decide) k) ?_
  refine own_go (B := T1.setTop (mkF m 34 #[.val (.ref a1), .val (.int (8 : Int32)), .val (.long q2), .second] [(.ref a1)])) (fun _ k => XS.aloadN X1.here hx rfl (hb hby d2_33) rfl rfl k) ?_
  refine own_go (B := T1.setTop (mkF m 35 #[.val (.ref a1), .val (.int (8 : Int32)), .val (.long q2), .second] [(.int (8 : Int32)), (.ref a1)])) (fun _ k => XS.iloadN X1.here hx rfl (hb hby d2_34) rfl  k) ?_
  obtain ⟨T4, h4, X4, e4, W4, st4⟩ := putF X1 hx hZ hown (host := "") (Or.inl (own_w hw 17 rfl)) Via.refl e1 P_F_a1_bits P_E_a1 (Or.inr ⟨(own_w hw 18 rfl), rfl, hnm⟩) (own_w hw 5 rfl) (ty := .int) (by decide) rfl rfl (g := (mkF m 35 #[.val (.ref a1), .val (.int (8 : Int32)), .val (.long q2), .second] [(.int (8 : Int32)), (.ref a1)])) rfl rfl (hb hby d2_35)
  have F_w4 : Fld Z h4 a1 "com/example/fabius/fabius/retry/Unsigned" "bits" "I" (.int (8 : Int32)) := P_F_a1_bits.same W4
  have E_6 := P_E_a1.wr W4
  have F_8 := P_F_a1_value.other W4 (Or.inr (slot_ne (Or.inr (own_w hw 20 rfl)) (Or.inr (own_w hw 18 rfl)) (by decide) (t := .long) (t' := .int) (by decide) (by decide)))
  have K9 : Keep h0 h4 [a1] := K0.wr W4 (Or.inl (List.mem_of_getElem? (i := 0) rfl))
  have N4 := Fr.snoc X4 N1 g_a1
  refine own_go (B := T4.setTop (mkF m 38 #[.val (.ref a1), .val (.int (8 : Int32)), .val (.long q2), .second] [])) st4 ?_
  refine own_go (B := T4.setTop (mkF m 39 #[.val (.ref a1), .val (.int (8 : Int32)), .val (.long q2), .second] [(.ref a1)])) (fun _ k => XS.aloadN X4.here hx rfl (hb hby d2_38) rfl rfl k) ?_
  refine own_go (B := T4.setTop (mkF m 40 #[.val (.ref a1), .val (.int (8 : Int32)), .val (.long q2), .second] [(.long q2), (.ref a1)])) (fun _ k => XS.lloadN X4.here hx rfl (hb hby d2_39) rfl  k) ?_
  obtain ⟨T10, h10, X10, e10, W10, st10⟩ := putF X4 hx hZ hown (host := "") (Or.inl (own_w hw 19 rfl)) Via.refl e4 F_8 E_6 (Or.inr ⟨(own_w hw 20 rfl), rfl, hnm⟩) (own_w hw 5 rfl) (ty := .long) (by decide) rfl rfl (g := (mkF m 40 #[.val (.ref a1), .val (.int (8 : Int32)), .val (.long q2), .second] [(.long q2), (.ref a1)])) rfl rfl (hb hby d2_40)
  have F_w10 : Fld Z h10 a1 "com/example/fabius/fabius/retry/Unsigned" "value" "J" (.long q2) := F_8.same W10
  have E_12 := E_6.wr W10
  have F_14 := F_w4.other W10 (Or.inr (slot_ne (Or.inr (own_w hw 18 rfl)) (Or.inr (own_w hw 20 rfl)) (by decide) (t := .int) (t' := .long) (by decide) (by decide)))
  have K15 : Keep h0 h10 [a1] := K9.wr W10 (Or.inl (List.mem_of_getElem? (i := 0) rfl))
  have N10 := Fr.snoc X10 N4 g_a1
  refine own_go (B := T10.setTop (mkF m 43 #[.val (.ref a1), .val (.int (8 : Int32)), .val (.long q2), .second] [])) st10 ?_
  exact own_retV X10 hx Bd.notSynchronized Bd.returns (hb hby d2_43) e10 ⟨rfl, N10, K15, E_12, F_14, F_w10⟩ (by decide) (by decide)
abbrev R_own_rm5 : Room := { frames := 3, cells := 1, slots := 2, locals := 40 }
theorem d5_0 : decode prog_9_method_3_code 0 = .ok (.new 17, 3) := by decide +kernel
theorem d5_3 : decode prog_9_method_3_code 3 = .ok (.dup, 1) := by decide +kernel
theorem d5_4 : decode prog_9_method_3_code 4 = .ok (.bipush 16, 2) := by decide +kernel
theorem d5_6 : decode prog_9_method_3_code 6 = .ok (.iload_n 0, 1) := by decide +kernel
theorem d5_7 : decode prog_9_method_3_code 7 = .ok (.i2l, 1) := by decide +kernel
theorem d5_8 : decode prog_9_method_3_code 8 = .ok (.invokespecial 26, 3) := by decide +kernel
theorem d5_11 : decode prog_9_method_3_code 11 = .ok (.areturn, 1) := by decide +kernel
theorem ef_own_rm5 (m : MethodId) (x0 : Int32) : entryFrame m #[(.int x0)] 1 = mkF m 0 #[.val (.int x0)] [] := by first | (simp [entryFrame, mkF, argsToLocals, Value.category]; done) | rfl
set_option maxHeartbeats 2000000 in
theorem own_pl_rm5_1 (p1 : Int32) (hq : 0 ≤ p1.toInt) (hr : p1.toInt < 65536) : 0 ≤ (p1.toInt64).toInt := by
  have := rng32 p1
  have := rng64 (p1.toInt64)
  have := Int32.toInt_toInt64 p1
  try simp only [Int32.lt_iff_toInt_lt, Int32.le_iff_toInt_le, Int64.lt_iff_toInt_lt, Int64.le_iff_toInt_le, ← Int32.toInt_inj, ← Int64.toInt_inj, true_and, and_true, true_or, or_true, false_or, or_false, not_true_eq_false, not_false_eq_true, false_and, and_false] at *
  all_goals first | omega | (simp; done)
set_option maxHeartbeats 2000000 in
theorem own_pl_rm5_2 (p1 : Int32) (hq : 0 ≤ p1.toInt) (hr : p1.toInt < 65536) : (p1.toInt64).toInt < 65536 := by
  have := rng32 p1
  have := rng64 (p1.toInt64)
  have := Int32.toInt_toInt64 p1
  try simp only [Int32.lt_iff_toInt_lt, Int32.le_iff_toInt_le, Int64.lt_iff_toInt_lt, Int64.le_iff_toInt_le, ← Int32.toInt_inj, ← Int64.toInt_inj, true_and, and_true, true_or, or_true, false_or, or_false, not_true_eq_false, not_false_eq_true, false_and, and_false] at *
  all_goals first | omega | (simp; done)
def Q_own_rm5 (Z : State) (p1 : Int32) (h0 : Heap) (n0 : Nat) (v : Option Value) (h : Heap) (L : List Loc) : Prop := ∃ b : Addr, v = some (.ref b) ∧ Fr n0 L ∧ Keep h0 h [] ∧ Exa Z h b "com/example/fabius/fabius/retry/Unsigned" ∧ Fld Z h b "com/example/fabius/fabius/retry/Unsigned" "bits" "I" (.int (16 : Int32)) ∧ Fld Z h b "com/example/fabius/fabius/retry/Unsigned" "value" "J" (.long (p1.toInt64)) ∧ (h0.size ≤ b)
set_option maxRecDepth 65536 in
set_option maxHeartbeats 400000000 in
theorem own_rm5 (l : Launch) (Z : State) (a0 : Array Value) (hw : ∀ d ∈ tables_1, d.before a0 Z = true) (ws : List Jvm.Cond) (p1 : Int32) (h0 : Heap) (n0 : Nat) (Z0 : n0 ≤ h0.size) (hq : 0 ≤ p1.toInt) (hr : p1.toInt < 65536) :
    MetFree l (⟨"com/example/fabius/fabius/retry/Unsigned", "ofShort", "(I)Lcom/example/fabius/fabius/retry/Unsigned;"⟩ : MethodName) (head1 (Jvm.Cond.code (⟨"com/example/fabius/fabius/retry/Unsigned", "ofShort", "(I)Lcom/example/fabius/fabius/retry/Unsigned;"⟩ : MethodName) prog_9_method_3_code 1 (some (.object "com/example/fabius/fabius/retry/Unsigned")) :: ws) R_own_rm5) (fun a U => a = #[(.int p1)] ∧ Z.Warmed39 U.vm ∧ U.heap = h0) (fun _ _ _ _ _ => True) (fun _ U o U' => ∃ v L, o = .returned v ∧ Q_own_rm5 Z p1 h0 n0 v U'.heap L ∧ FrameEnd U o U' L R_own_rm5.cells R_own_rm5.slots) := by
  refine MetFree.of_bodySF (plainFor_of_name own_pn1) hisR ?_
  intro p e s m args below meth c s₁ Bd hml0 hP hK
  obtain ⟨rfl, hZ, hh⟩ := hP
  have hx := Bd.exec
  have hby := Bd.bytes
  have hml : c.maxLocals = 1 := hml0
  have hown : s.vm.findClass "com/example/fabius/fabius/retry/Unsigned" = some m.cls := findClass_of_methodNamed Bd.named
  have hnm := (name_of_methodNamed Bd.named Bd.method).1
  have X0 : Stand p l e R_own_rm5 s m #[(.int p1)] below meth c s₁ [] 0 0 := Stand.of_body Bd
  have e0 : s₁.heap = h0 := by rw [← hh, Bd.state]; rfl
  have N0 := Fr.nil n0
  have K0 : Keep h0 h0 [] := Keep.refl h0 []
  show own_Fin p e below s (Q_own_rm5 Z p1 h0 n0) R_own_rm5.cells R_own_rm5.slots (s₁.setTop (entryFrame m #[(.int p1)] 1))
  refine own_go (fun _ k => castTop (ef_own_rm5 m p1) k) ?_
  show own_Fin _ _ _ _ _ _ _ (s₁.setTop (mkF m 0 #[.val (.int p1)] []))
  obtain ⟨T1, h1, X1, e1, E1, A1, D1, -, st1⟩ := newO X0 hx hZ hown (own_w hw 4 rfl) (own_w hw 5 rfl) (own_w hw 2 rfl) e0 (g := (mkF m 0 #[.val (.int p1)] [])) rfl (hb hby d5_0) (by decide) (by decide)
  obtain ⟨b1, g1⟩ : ∃ z, z = h0.size := ⟨_, rfl⟩
  rw [← g1] at A1 D1 st1
  have sz_b1 : h0.size ≤ b1 := Nat.le_trans K0.1 (Nat.le_of_eq g1.symm)
  have g_b1 : n0 ≤ b1 := Nat.le_trans Z0 sz_b1
  have F_bits_b1 : Fld Z h1 b1 "com/example/fabius/fabius/retry/Unsigned" "bits" "I" (.int (0 : Int32)) := D1 (Or.inr (own_w hw 18 rfl)) (ty := .int) (by decide)
  have F_value_b1 : Fld Z h1 b1 "com/example/fabius/fabius/retry/Unsigned" "value" "J" (.long (0 : Int64)) := D1 (Or.inr (own_w hw 20 rfl)) (ty := .long) (by decide)
  have K3 : Keep h0 h1 [] := K0.ext E1
  refine own_go (B := T1.setTop (mkF m 3 #[.val (.int p1)] [(.ref b1)])) st1 ?_
  refine own_go (B := T1.setTop (mkF m 4 #[.val (.int p1)] [(.ref b1), (.ref b1)])) (fun _ k => XS.dup X1.here hx rfl (hb hby d5_3) rfl rfl k) ?_
  refine own_go (B := T1.setTop (mkF m 6 #[.val (.int p1)] [(.int (16 : Int32)), (.ref b1), (.ref b1)])) (fun _ k => XS.bipush X1.here hx rfl (hb hby d5_4) k) ?_
  refine own_go (B := T1.setTop (mkF m 7 #[.val (.int p1)] [(.int p1), (.int (16 : Int32)), (.ref b1), (.ref b1)])) (fun _ k => XS.iloadN X1.here hx rfl (hb hby d5_6) rfl  k) ?_
  refine own_go (B := T1.setTop (mkF m 8 #[.val (.int p1)] [(.long (p1.toInt64)), (.int (16 : Int32)), (.ref b1), (.ref b1)])) (fun _ k => XS.i2l X1.here hx rfl (hb hby d5_7) rfl k) ?_
  obtain ⟨_, _, ⟨T4, L4, k4, n4⟩, -, X4, ⟨Lc4, hQ4, l4, y4, z4⟩, st4⟩ := X1.specialBack hx (y := (⟨"com/example/fabius/fabius/retry/Unsigned", "<init>", "(IJ)V"⟩ : MethodName)) rfl hown (mvT hZ (own_w hw 6 rfl)) (mvT hZ (own_w hw 7 rfl)) (mvT hZ (own_w hw 8 rfl)) (by decide) (backOf (W := 1) (own_rmIs l Z a0 hw [] b1 (p1.toInt64) h1 n0 (Nat.le_trans Z0 K3.1) A1 F_bits_b1 F_value_b1 g_b1 (own_pl_rm5_1 p1 hq hr) (own_pl_rm5_2 p1 hq hr)) hZ (own_w hw 8 rfl) (own_w hw 2 rfl) (by decide) (by decide)) (g := (mkF m 8 #[.val (.int p1)] [(.long (p1.toInt64)), (.int (16 : Int32)), (.ref b1), (.ref b1)])) rfl (by rw [hml]; rfl) (Steps.refl _) (a := b1) (argsL := [(.int (16 : Int32)), (.long (p1.toInt64))]) (rest := [(.ref b1)]) (lenOf own_pd1 rfl) rfl (by show 2 * 0 + _ ≤ _; exact Nat.le_of_eq rfl) (hb hby d5_8) (fun _ _ => ⟨rfl, e1, (by decide : 1 + 0 ≤ _), (by decide : 2 + 0 ≤ _)⟩)
  dsimp only [Pt.U, Pt.locs, Pt.cells, Pt.slots] at X4 l4 y4 z4 st4 hQ4
  subst l4 y4 z4
  obtain ⟨rfl, N4q, K4q, Q4_0, Q4_1, Q4_2⟩ := hQ4
  have N4 := Fr.app N0 N4q
  have K9 : Keep h0 T4.heap [] := K3.trans K4q (allS (Or.inr sz_b1) all0)
  refine own_go (B := T4.setTop (mkF m 11 #[.val (.int p1)] [(.ref b1)])) (fun _ k => st4.trans k) ?_
  exact own_retA X4 hx Bd.notSynchronized Bd.returns rfl rfl (hb hby d5_11) rfl ⟨b1, rfl, N4, K9, Q4_0, Q4_1, Q4_2, sz_b1⟩ (by decide) (by decide)
abbrev R_own_rm1 : Room := { frames := 3, cells := 1, slots := 2, locals := 40 }
theorem d1_0 : decode prog_9_method_2_code 0 = .ok (.new 17, 3) := by decide +kernel
theorem d1_3 : decode prog_9_method_2_code 3 = .ok (.dup, 1) := by decide +kernel
theorem d1_4 : decode prog_9_method_2_code 4 = .ok (.bipush 8, 2) := by decide +kernel
theorem d1_6 : decode prog_9_method_2_code 6 = .ok (.iload_n 0, 1) := by decide +kernel
theorem d1_7 : decode prog_9_method_2_code 7 = .ok (.i2l, 1) := by decide +kernel
theorem d1_8 : decode prog_9_method_2_code 8 = .ok (.invokespecial 26, 3) := by decide +kernel
theorem d1_11 : decode prog_9_method_2_code 11 = .ok (.areturn, 1) := by decide +kernel
theorem ef_own_rm1 (m : MethodId) (x0 : Int32) : entryFrame m #[(.int x0)] 1 = mkF m 0 #[.val (.int x0)] [] := by first | (simp [entryFrame, mkF, argsToLocals, Value.category]; done) | rfl
set_option maxHeartbeats 2000000 in
theorem own_pl_rm1_1 (p1 : Int32) (hq : 0 ≤ p1.toInt) (hr : p1.toInt < 256) : 0 ≤ (p1.toInt64).toInt := by
  have := rng32 p1
  have := rng64 (p1.toInt64)
  have := Int32.toInt_toInt64 p1
  try simp only [Int32.lt_iff_toInt_lt, Int32.le_iff_toInt_le, Int64.lt_iff_toInt_lt, Int64.le_iff_toInt_le, ← Int32.toInt_inj, ← Int64.toInt_inj, true_and, and_true, true_or, or_true, false_or, or_false, not_true_eq_false, not_false_eq_true, false_and, and_false] at *
  all_goals first | omega | (simp; done)
set_option maxHeartbeats 2000000 in
theorem own_pl_rm1_2 (p1 : Int32) (hq : 0 ≤ p1.toInt) (hr : p1.toInt < 256) : (p1.toInt64).toInt < 256 := by
  have := rng32 p1
  have := rng64 (p1.toInt64)
  have := Int32.toInt_toInt64 p1
  try simp only [Int32.lt_iff_toInt_lt, Int32.le_iff_toInt_le, Int64.lt_iff_toInt_lt, Int64.le_iff_toInt_le, ← Int32.toInt_inj, ← Int64.toInt_inj, true_and, and_true, true_or, or_true, false_or, or_false, not_true_eq_false, not_false_eq_true, false_and, and_false] at *
  all_goals first | omega | (simp; done)
def Q_own_rm1 (Z : State) (p1 : Int32) (h0 : Heap) (n0 : Nat) (v : Option Value) (h : Heap) (L : List Loc) : Prop := ∃ b : Addr, v = some (.ref b) ∧ Fr n0 L ∧ Keep h0 h [] ∧ Exa Z h b "com/example/fabius/fabius/retry/Unsigned" ∧ Fld Z h b "com/example/fabius/fabius/retry/Unsigned" "bits" "I" (.int (8 : Int32)) ∧ Fld Z h b "com/example/fabius/fabius/retry/Unsigned" "value" "J" (.long (p1.toInt64)) ∧ (h0.size ≤ b)
set_option maxRecDepth 65536 in
set_option maxHeartbeats 400000000 in
theorem own_rm1 (l : Launch) (Z : State) (a0 : Array Value) (hw : ∀ d ∈ tables_1, d.before a0 Z = true) (ws : List Jvm.Cond) (p1 : Int32) (h0 : Heap) (n0 : Nat) (Z0 : n0 ≤ h0.size) (hq : 0 ≤ p1.toInt) (hr : p1.toInt < 256) :
    MetFree l (⟨"com/example/fabius/fabius/retry/Unsigned", "ofByte", "(I)Lcom/example/fabius/fabius/retry/Unsigned;"⟩ : MethodName) (head1 (Jvm.Cond.code (⟨"com/example/fabius/fabius/retry/Unsigned", "ofByte", "(I)Lcom/example/fabius/fabius/retry/Unsigned;"⟩ : MethodName) prog_9_method_2_code 1 (some (.object "com/example/fabius/fabius/retry/Unsigned")) :: ws) R_own_rm1) (fun a U => a = #[(.int p1)] ∧ Z.Warmed39 U.vm ∧ U.heap = h0) (fun _ _ _ _ _ => True) (fun _ U o U' => ∃ v L, o = .returned v ∧ Q_own_rm1 Z p1 h0 n0 v U'.heap L ∧ FrameEnd U o U' L R_own_rm1.cells R_own_rm1.slots) := by
  refine MetFree.of_bodySF (plainFor_of_name own_pn1) hisR ?_
  intro p e s m args below meth c s₁ Bd hml0 hP hK
  obtain ⟨rfl, hZ, hh⟩ := hP
  have hx := Bd.exec
  have hby := Bd.bytes
  have hml : c.maxLocals = 1 := hml0
  have hown : s.vm.findClass "com/example/fabius/fabius/retry/Unsigned" = some m.cls := findClass_of_methodNamed Bd.named
  have hnm := (name_of_methodNamed Bd.named Bd.method).1
  have X0 : Stand p l e R_own_rm1 s m #[(.int p1)] below meth c s₁ [] 0 0 := Stand.of_body Bd
  have e0 : s₁.heap = h0 := by rw [← hh, Bd.state]; rfl
  have N0 := Fr.nil n0
  have K0 : Keep h0 h0 [] := Keep.refl h0 []
  show own_Fin p e below s (Q_own_rm1 Z p1 h0 n0) R_own_rm1.cells R_own_rm1.slots (s₁.setTop (entryFrame m #[(.int p1)] 1))
  refine own_go (fun _ k => castTop (ef_own_rm1 m p1) k) ?_
  show own_Fin _ _ _ _ _ _ _ (s₁.setTop (mkF m 0 #[.val (.int p1)] []))
  obtain ⟨T1, h1, X1, e1, E1, A1, D1, -, st1⟩ := newO X0 hx hZ hown (own_w hw 4 rfl) (own_w hw 5 rfl) (own_w hw 2 rfl) e0 (g := (mkF m 0 #[.val (.int p1)] [])) rfl (hb hby d1_0) (by decide) (by decide)
  obtain ⟨b1, g1⟩ : ∃ z, z = h0.size := ⟨_, rfl⟩
  rw [← g1] at A1 D1 st1
  have sz_b1 : h0.size ≤ b1 := Nat.le_trans K0.1 (Nat.le_of_eq g1.symm)
  have g_b1 : n0 ≤ b1 := Nat.le_trans Z0 sz_b1
  have F_bits_b1 : Fld Z h1 b1 "com/example/fabius/fabius/retry/Unsigned" "bits" "I" (.int (0 : Int32)) := D1 (Or.inr (own_w hw 18 rfl)) (ty := .int) (by decide)
  have F_value_b1 : Fld Z h1 b1 "com/example/fabius/fabius/retry/Unsigned" "value" "J" (.long (0 : Int64)) := D1 (Or.inr (own_w hw 20 rfl)) (ty := .long) (by decide)
  have K3 : Keep h0 h1 [] := K0.ext E1
  refine own_go (B := T1.setTop (mkF m 3 #[.val (.int p1)] [(.ref b1)])) st1 ?_
  refine own_go (B := T1.setTop (mkF m 4 #[.val (.int p1)] [(.ref b1), (.ref b1)])) (fun _ k => XS.dup X1.here hx rfl (hb hby d1_3) rfl rfl k) ?_
  refine own_go (B := T1.setTop (mkF m 6 #[.val (.int p1)] [(.int (8 : Int32)), (.ref b1), (.ref b1)])) (fun _ k => XS.bipush X1.here hx rfl (hb hby d1_4) k) ?_
  refine own_go (B := T1.setTop (mkF m 7 #[.val (.int p1)] [(.int p1), (.int (8 : Int32)), (.ref b1), (.ref b1)])) (fun _ k => XS.iloadN X1.here hx rfl (hb hby d1_6) rfl  k) ?_
  refine own_go (B := T1.setTop (mkF m 8 #[.val (.int p1)] [(.long (p1.toInt64)), (.int (8 : Int32)), (.ref b1), (.ref b1)])) (fun _ k => XS.i2l X1.here hx rfl (hb hby d1_7) rfl k) ?_
  obtain ⟨_, _, ⟨T4, L4, k4, n4⟩, -, X4, ⟨Lc4, hQ4, l4, y4, z4⟩, st4⟩ := X1.specialBack hx (y := (⟨"com/example/fabius/fabius/retry/Unsigned", "<init>", "(IJ)V"⟩ : MethodName)) rfl hown (mvT hZ (own_w hw 6 rfl)) (mvT hZ (own_w hw 7 rfl)) (mvT hZ (own_w hw 8 rfl)) (by decide) (backOf (W := 1) (own_rmIb l Z a0 hw [] b1 (p1.toInt64) h1 n0 (Nat.le_trans Z0 K3.1) A1 F_bits_b1 F_value_b1 g_b1 (own_pl_rm1_1 p1 hq hr) (own_pl_rm1_2 p1 hq hr)) hZ (own_w hw 8 rfl) (own_w hw 2 rfl) (by decide) (by decide)) (g := (mkF m 8 #[.val (.int p1)] [(.long (p1.toInt64)), (.int (8 : Int32)), (.ref b1), (.ref b1)])) rfl (by rw [hml]; rfl) (Steps.refl _) (a := b1) (argsL := [(.int (8 : Int32)), (.long (p1.toInt64))]) (rest := [(.ref b1)]) (lenOf own_pd1 rfl) rfl (by show 2 * 0 + _ ≤ _; exact Nat.le_of_eq rfl) (hb hby d1_8) (fun _ _ => ⟨rfl, e1, (by decide : 1 + 0 ≤ _), (by decide : 2 + 0 ≤ _)⟩)
  dsimp only [Pt.U, Pt.locs, Pt.cells, Pt.slots] at X4 l4 y4 z4 st4 hQ4
  subst l4 y4 z4
  obtain ⟨rfl, N4q, K4q, Q4_0, Q4_1, Q4_2⟩ := hQ4
  have N4 := Fr.app N0 N4q
  have K9 : Keep h0 T4.heap [] := K3.trans K4q (allS (Or.inr sz_b1) all0)
  refine own_go (B := T4.setTop (mkF m 11 #[.val (.int p1)] [(.ref b1)])) (fun _ k => st4.trans k) ?_
  exact own_retA X4 hx Bd.notSynchronized Bd.returns rfl rfl (hb hby d1_11) rfl ⟨b1, rfl, N4, K9, Q4_0, Q4_1, Q4_2, sz_b1⟩ (by decide) (by decide)
abbrev R_own_rm6 : Room := { frames := 0, cells := 0, slots := 0, locals := 0 }
theorem d6_0 : decode prog_9_method_5_code 0 = .ok (.aload_n 0, 1) := by decide +kernel
theorem d6_1 : decode prog_9_method_5_code 1 = .ok (.getfield 16, 3) := by decide +kernel
theorem d6_4 : decode prog_9_method_5_code 4 = .ok (.ireturn, 1) := by decide +kernel
theorem ef_own_rm6 (m : MethodId) (x0 : Addr) : entryFrame m #[(.ref x0)] 1 = mkF m 0 #[.val (.ref x0)] [] := by first | (simp [entryFrame, mkF, argsToLocals, Value.category]; done) | rfl
def Q_own_rm6 (Z : State) (a1 : Addr) (p1 : Int32) (h0 : Heap) (n0 : Nat) (v : Option Value) (h : Heap) (L : List Loc) : Prop := v = some (.int p1) ∧ Fr n0 L ∧ h = h0
set_option maxRecDepth 65536 in
set_option maxHeartbeats 400000000 in
theorem own_rm6 (l : Launch) (Z : State) (a0 : Array Value) (hw : ∀ d ∈ tables_1, d.before a0 Z = true) (ws : List Jvm.Cond) (a1 : Addr) (p1 : Int32) (h0 : Heap) (n0 : Nat) (Z0 : n0 ≤ h0.size) (P_F_a1_bits : Fld Z h0 a1 "com/example/fabius/fabius/retry/Unsigned" "bits" "I" (.int p1)) :
    MetFree l (⟨"com/example/fabius/fabius/retry/Unsigned", "bits", "()I"⟩ : MethodName) (head1 (Jvm.Cond.code (⟨"com/example/fabius/fabius/retry/Unsigned", "bits", "()I"⟩ : MethodName) prog_9_method_5_code 1 (some .int) :: ws) R_own_rm6) (fun a U => a = #[(.ref a1)] ∧ Z.Warmed39 U.vm ∧ U.heap = h0) (fun _ _ _ _ _ => True) (fun _ U o U' => ∃ v L, o = .returned v ∧ Q_own_rm6 Z a1 p1 h0 n0 v U'.heap L ∧ FrameEnd U o U' L R_own_rm6.cells R_own_rm6.slots) := by
  refine MetFree.of_bodySF (plainFor_of_name own_pn1) hisR ?_
  intro p e s m args below meth c s₁ Bd hml0 hP hK
  obtain ⟨rfl, hZ, hh⟩ := hP
  have hx := Bd.exec
  have hby := Bd.bytes
  have hml : c.maxLocals = 1 := hml0
  have hown : s.vm.findClass "com/example/fabius/fabius/retry/Unsigned" = some m.cls := findClass_of_methodNamed Bd.named
  have hnm := (name_of_methodNamed Bd.named Bd.method).1
  have X0 : Stand p l e R_own_rm6 s m #[(.ref a1)] below meth c s₁ [] 0 0 := Stand.of_body Bd
  have e0 : s₁.heap = h0 := by rw [← hh, Bd.state]; rfl
  have N0 := Fr.nil n0
  have K0 : Keep h0 h0 [] := Keep.refl h0 []
  show own_Fin p e below s (Q_own_rm6 Z a1 p1 h0 n0) R_own_rm6.cells R_own_rm6.slots (s₁.setTop (entryFrame m #[(.ref a1)] 1))
  refine own_go (fun _ k => castTop (ef_own_rm6 m a1) k) ?_
  show own_Fin _ _ _ _ _ _ _ (s₁.setTop (mkF m 0 #[.val (.ref a1)] []))
  refine own_go (B := s₁.setTop (mkF m 1 #[.val (.ref a1)] [(.ref a1)])) (fun _ k => XS.aloadN X0.here hx rfl (hb hby d6_0) rfl rfl k) ?_
  obtain ⟨T1, X1, e1, st1⟩ := getF X0 hx hZ hown (host := "") (Or.inl (own_w hw 17 rfl)) Via.refl e0 P_F_a1_bits (g := (mkF m 1 #[.val (.ref a1)] [(.ref a1)])) rfl rfl (hb hby d6_1)
  refine own_go (B := T1.setTop (mkF m 4 #[.val (.ref a1)] [(.int p1)])) st1 ?_
  exact own_retI X1 hx Bd.notSynchronized Bd.returns (hb hby d6_4) e1 ⟨rfl, N0, rfl⟩ (by decide) (by decide)
abbrev R_own_rm7 : Room := { frames := 0, cells := 0, slots := 0, locals := 0 }
theorem d7_0 : decode prog_9_method_7_code 0 = .ok (.aload_n 0, 1) := by decide +kernel
theorem d7_1 : decode prog_9_method_7_code 1 = .ok (.getfield 22, 3) := by decide +kernel
theorem d7_4 : decode prog_9_method_7_code 4 = .ok (.lreturn, 1) := by decide +kernel
theorem ef_own_rm7 (m : MethodId) (x0 : Addr) : entryFrame m #[(.ref x0)] 1 = mkF m 0 #[.val (.ref x0)] [] := by first | (simp [entryFrame, mkF, argsToLocals, Value.category]; done) | rfl
def Q_own_rm7 (Z : State) (a1 : Addr) (q1 : Int64) (h0 : Heap) (n0 : Nat) (v : Option Value) (h : Heap) (L : List Loc) : Prop := v = some (.long q1) ∧ Fr n0 L ∧ h = h0
set_option maxRecDepth 65536 in
set_option maxHeartbeats 400000000 in
theorem own_rm7 (l : Launch) (Z : State) (a0 : Array Value) (hw : ∀ d ∈ tables_1, d.before a0 Z = true) (ws : List Jvm.Cond) (a1 : Addr) (q1 : Int64) (h0 : Heap) (n0 : Nat) (Z0 : n0 ≤ h0.size) (P_F_a1_value : Fld Z h0 a1 "com/example/fabius/fabius/retry/Unsigned" "value" "J" (.long q1)) :
    MetFree l (⟨"com/example/fabius/fabius/retry/Unsigned", "longValue", "()J"⟩ : MethodName) (head1 (Jvm.Cond.code (⟨"com/example/fabius/fabius/retry/Unsigned", "longValue", "()J"⟩ : MethodName) prog_9_method_7_code 1 (some .long) :: ws) R_own_rm7) (fun a U => a = #[(.ref a1)] ∧ Z.Warmed39 U.vm ∧ U.heap = h0) (fun _ _ _ _ _ => True) (fun _ U o U' => ∃ v L, o = .returned v ∧ Q_own_rm7 Z a1 q1 h0 n0 v U'.heap L ∧ FrameEnd U o U' L R_own_rm7.cells R_own_rm7.slots) := by
  refine MetFree.of_bodySF (plainFor_of_name own_pn1) hisR ?_
  intro p e s m args below meth c s₁ Bd hml0 hP hK
  obtain ⟨rfl, hZ, hh⟩ := hP
  have hx := Bd.exec
  have hby := Bd.bytes
  have hml : c.maxLocals = 1 := hml0
  have hown : s.vm.findClass "com/example/fabius/fabius/retry/Unsigned" = some m.cls := findClass_of_methodNamed Bd.named
  have hnm := (name_of_methodNamed Bd.named Bd.method).1
  have X0 : Stand p l e R_own_rm7 s m #[(.ref a1)] below meth c s₁ [] 0 0 := Stand.of_body Bd
  have e0 : s₁.heap = h0 := by rw [← hh, Bd.state]; rfl
  have N0 := Fr.nil n0
  have K0 : Keep h0 h0 [] := Keep.refl h0 []
  show own_Fin p e below s (Q_own_rm7 Z a1 q1 h0 n0) R_own_rm7.cells R_own_rm7.slots (s₁.setTop (entryFrame m #[(.ref a1)] 1))
  refine own_go (fun _ k => castTop (ef_own_rm7 m a1) k) ?_
  show own_Fin _ _ _ _ _ _ _ (s₁.setTop (mkF m 0 #[.val (.ref a1)] []))
  refine own_go (B := s₁.setTop (mkF m 1 #[.val (.ref a1)] [(.ref a1)])) (fun _ k => XS.aloadN X0.here hx rfl (hb hby d7_0) rfl rfl k) ?_
  obtain ⟨T1, X1, e1, st1⟩ := getF X0 hx hZ hown (host := "") (Or.inl (own_w hw 19 rfl)) Via.refl e0 P_F_a1_value (g := (mkF m 1 #[.val (.ref a1)] [(.ref a1)])) rfl rfl (hb hby d7_1)
  refine own_go (B := T1.setTop (mkF m 4 #[.val (.ref a1)] [(.long q1)])) st1 ?_
  exact own_retJ X1 hx Bd.notSynchronized Bd.returns (hb hby d7_4) e1 ⟨rfl, N0, rfl⟩ (by decide) (by decide)
abbrev R_own_rm8 : Room := { frames := 0, cells := 0, slots := 0, locals := 0 }
theorem d8_0 : decode prog_9_method_6_code 0 = .ok (.aload_n 0, 1) := by decide +kernel
theorem d8_1 : decode prog_9_method_6_code 1 = .ok (.getfield 22, 3) := by decide +kernel
theorem d8_4 : decode prog_9_method_6_code 4 = .ok (.l2i, 1) := by decide +kernel
theorem d8_5 : decode prog_9_method_6_code 5 = .ok (.ireturn, 1) := by decide +kernel
theorem ef_own_rm8 (m : MethodId) (x0 : Addr) : entryFrame m #[(.ref x0)] 1 = mkF m 0 #[.val (.ref x0)] [] := by first | (simp [entryFrame, mkF, argsToLocals, Value.category]; done) | rfl
def Q_own_rm8 (Z : State) (a1 : Addr) (q1 : Int64) (h0 : Heap) (n0 : Nat) (v : Option Value) (h : Heap) (L : List Loc) : Prop := v = some (.int (q1.toInt32)) ∧ Fr n0 L ∧ h = h0
set_option maxRecDepth 65536 in
set_option maxHeartbeats 400000000 in
theorem own_rm8 (l : Launch) (Z : State) (a0 : Array Value) (hw : ∀ d ∈ tables_1, d.before a0 Z = true) (ws : List Jvm.Cond) (a1 : Addr) (q1 : Int64) (h0 : Heap) (n0 : Nat) (Z0 : n0 ≤ h0.size) (P_F_a1_value : Fld Z h0 a1 "com/example/fabius/fabius/retry/Unsigned" "value" "J" (.long q1)) :
    MetFree l (⟨"com/example/fabius/fabius/retry/Unsigned", "intValue", "()I"⟩ : MethodName) (head1 (Jvm.Cond.code (⟨"com/example/fabius/fabius/retry/Unsigned", "intValue", "()I"⟩ : MethodName) prog_9_method_6_code 1 (some .int) :: ws) R_own_rm8) (fun a U => a = #[(.ref a1)] ∧ Z.Warmed39 U.vm ∧ U.heap = h0) (fun _ _ _ _ _ => True) (fun _ U o U' => ∃ v L, o = .returned v ∧ Q_own_rm8 Z a1 q1 h0 n0 v U'.heap L ∧ FrameEnd U o U' L R_own_rm8.cells R_own_rm8.slots) := by
  refine MetFree.of_bodySF (plainFor_of_name own_pn1) hisR ?_
  intro p e s m args below meth c s₁ Bd hml0 hP hK
  obtain ⟨rfl, hZ, hh⟩ := hP
  have hx := Bd.exec
  have hby := Bd.bytes
  have hml : c.maxLocals = 1 := hml0
  have hown : s.vm.findClass "com/example/fabius/fabius/retry/Unsigned" = some m.cls := findClass_of_methodNamed Bd.named
  have hnm := (name_of_methodNamed Bd.named Bd.method).1
  have X0 : Stand p l e R_own_rm8 s m #[(.ref a1)] below meth c s₁ [] 0 0 := Stand.of_body Bd
  have e0 : s₁.heap = h0 := by rw [← hh, Bd.state]; rfl
  have N0 := Fr.nil n0
  have K0 : Keep h0 h0 [] := Keep.refl h0 []
  show own_Fin p e below s (Q_own_rm8 Z a1 q1 h0 n0) R_own_rm8.cells R_own_rm8.slots (s₁.setTop (entryFrame m #[(.ref a1)] 1))
  refine own_go (fun _ k => castTop (ef_own_rm8 m a1) k) ?_
  show own_Fin _ _ _ _ _ _ _ (s₁.setTop (mkF m 0 #[.val (.ref a1)] []))
  refine own_go (B := s₁.setTop (mkF m 1 #[.val (.ref a1)] [(.ref a1)])) (fun _ k => XS.aloadN X0.here hx rfl (hb hby d8_0) rfl rfl k) ?_
  obtain ⟨T1, X1, e1, st1⟩ := getF X0 hx hZ hown (host := "") (Or.inl (own_w hw 19 rfl)) Via.refl e0 P_F_a1_value (g := (mkF m 1 #[.val (.ref a1)] [(.ref a1)])) rfl rfl (hb hby d8_1)
  refine own_go (B := T1.setTop (mkF m 4 #[.val (.ref a1)] [(.long q1)])) st1 ?_
  refine own_go (B := T1.setTop (mkF m 5 #[.val (.ref a1)] [(.int (q1.toInt32))])) (fun _ k => XS.l2i X1.here hx rfl (hb hby d8_4) rfl k) ?_
  exact own_retI X1 hx Bd.notSynchronized Bd.returns (hb hby d8_5) e1 ⟨rfl, N0, rfl⟩ (by decide) (by decide)
abbrev R_own_rm10 : Room := { frames := 0, cells := 0, slots := 0, locals := 0 }
theorem d10_0 : decode prog_9_method_10_code 0 = .ok (.aload_n 1, 1) := by decide +kernel
theorem d10_1 : decode prog_9_method_10_code 1 = .ok (.instanceof 17, 3) := by decide +kernel
theorem d10_4 : decode prog_9_method_10_code 4 = .ok (.ifCond .eq 35, 3) := by decide +kernel
theorem d10_7 : decode prog_9_method_10_code 7 = .ok (.aload_n 1, 1) := by decide +kernel
theorem d10_8 : decode prog_9_method_10_code 8 = .ok (.checkcast 17, 3) := by decide +kernel
theorem d10_11 : decode prog_9_method_10_code 11 = .ok (.astore_n 2, 1) := by decide +kernel
theorem d10_12 : decode prog_9_method_10_code 12 = .ok (.aload_n 0, 1) := by decide +kernel
theorem d10_13 : decode prog_9_method_10_code 13 = .ok (.getfield 16, 3) := by decide +kernel
theorem d10_16 : decode prog_9_method_10_code 16 = .ok (.aload_n 2, 1) := by decide +kernel
theorem d10_17 : decode prog_9_method_10_code 17 = .ok (.getfield 16, 3) := by decide +kernel
theorem d10_20 : decode prog_9_method_10_code 20 = .ok (.if_icmp .ne 19, 3) := by decide +kernel
theorem d10_23 : decode prog_9_method_10_code 23 = .ok (.aload_n 0, 1) := by decide +kernel
theorem d10_24 : decode prog_9_method_10_code 24 = .ok (.getfield 22, 3) := by decide +kernel
theorem d10_27 : decode prog_9_method_10_code 27 = .ok (.aload_n 2, 1) := by decide +kernel
theorem d10_28 : decode prog_9_method_10_code 28 = .ok (.getfield 22, 3) := by decide +kernel
theorem d10_31 : decode prog_9_method_10_code 31 = .ok (.lcmp, 1) := by decide +kernel
theorem d10_32 : decode prog_9_method_10_code 32 = .ok (.ifCond .ne 7, 3) := by decide +kernel
theorem d10_35 : decode prog_9_method_10_code 35 = .ok (.iconst 1, 1) := by decide +kernel
theorem d10_36 : decode prog_9_method_10_code 36 = .ok (.goto 4, 3) := by decide +kernel
theorem d10_39 : decode prog_9_method_10_code 39 = .ok (.iconst 0, 1) := by decide +kernel
theorem d10_40 : decode prog_9_method_10_code 40 = .ok (.ireturn, 1) := by decide +kernel
theorem ef_own_rm10 (m : MethodId) (x0 : Addr) (x1 : Addr) : entryFrame m #[(.ref x0), (.ref x1)] 3 = mkF m 0 #[.val (.ref x0), .val (.ref x1), .unset] [] := by first | (simp [entryFrame, mkF, argsToLocals, Value.category]; done) | rfl
set_option maxHeartbeats 2000000 in
theorem own_pl_rm10_1 (p1 : Int32) (q1 : Int64) (p2 : Int32) (q2 : Int64) (hc6 : p1 = p2) (hc9 : q1 = q2) : p1.toInt = p2.toInt ∧ q1.toInt = q2.toInt := by
  have := rng32 p1
  have := rng32 p2
  have := rng64 q1
  have := rng64 q2
  try simp only [Int32.lt_iff_toInt_lt, Int32.le_iff_toInt_le, Int64.lt_iff_toInt_lt, Int64.le_iff_toInt_le, ← Int32.toInt_inj, ← Int64.toInt_inj, true_and, and_true, true_or, or_true, false_or, or_false, not_true_eq_false, not_false_eq_true, false_and, and_false] at *
  all_goals first | omega | (simp; done)
set_option maxHeartbeats 2000000 in
theorem own_pl_rm10_2 (p1 : Int32) (q1 : Int64) (p2 : Int32) (q2 : Int64) (hc6 : p1 = p2) (hc9 : ¬ (q1 = q2)) : ¬ (p1.toInt = p2.toInt ∧ q1.toInt = q2.toInt) := by
  have := rng32 p1
  have := rng32 p2
  have := rng64 q1
  have := rng64 q2
  try simp only [Int32.lt_iff_toInt_lt, Int32.le_iff_toInt_le, Int64.lt_iff_toInt_lt, Int64.le_iff_toInt_le, ← Int32.toInt_inj, ← Int64.toInt_inj, true_and, and_true, true_or, or_true, false_or, or_false, not_true_eq_false, not_false_eq_true, false_and, and_false] at *
  all_goals first | omega | (simp; done)
set_option maxHeartbeats 2000000 in
theorem own_pl_rm10_3 (p1 : Int32) (q1 : Int64) (p2 : Int32) (q2 : Int64) (hc6 : ¬ (p1 = p2)) : ¬ (p1.toInt = p2.toInt ∧ q1.toInt = q2.toInt) := by
  have := rng32 p1
  have := rng32 p2
  try simp only [Int32.lt_iff_toInt_lt, Int32.le_iff_toInt_le, Int64.lt_iff_toInt_lt, Int64.le_iff_toInt_le, ← Int32.toInt_inj, ← Int64.toInt_inj, true_and, and_true, true_or, or_true, false_or, or_false, not_true_eq_false, not_false_eq_true, false_and, and_false] at *
  all_goals first | omega | (simp; done)
def Q_own_rm10 (Z : State) (a1 : Addr) (a2 : Addr) (p1 : Int32) (q1 : Int64) (p2 : Int32) (q2 : Int64) (h0 : Heap) (n0 : Nat) (v : Option Value) (h : Heap) (L : List Loc) : Prop := v = some (.int (own_b (p1.toInt = p2.toInt ∧ q1.toInt = q2.toInt))) ∧ Fr n0 L ∧ h = h0
set_option maxRecDepth 65536 in
set_option maxHeartbeats 400000000 in
theorem own_rm10 (l : Launch) (Z : State) (a0 : Array Value) (hw : ∀ d ∈ tables_1, d.before a0 Z = true) (ws : List Jvm.Cond) (a1 : Addr) (a2 : Addr) (p1 : Int32) (q1 : Int64) (p2 : Int32) (q2 : Int64) (h0 : Heap) (n0 : Nat) (Z0 : n0 ≤ h0.size) (P_F_a1_bits : Fld Z h0 a1 "com/example/fabius/fabius/retry/Unsigned" "bits" "I" (.int p1)) (P_F_a1_value : Fld Z h0 a1 "com/example/fabius/fabius/retry/Unsigned" "value" "J" (.long q1)) (P_E_a2 : Exa Z h0 a2 "com/example/fabius/fabius/retry/Unsigned") (P_F_a2_bits : Fld Z h0 a2 "com/example/fabius/fabius/retry/Unsigned" "bits" "I" (.int p2)) (P_F_a2_value : Fld Z h0 a2 "com/example/fabius/fabius/retry/Unsigned" "value" "J" (.long q2)) :
    MetFree l (⟨"com/example/fabius/fabius/retry/Unsigned", "equals", "(Ljava/lang/Object;)Z"⟩ : MethodName) (head1 (Jvm.Cond.code (⟨"com/example/fabius/fabius/retry/Unsigned", "equals", "(Ljava/lang/Object;)Z"⟩ : MethodName) prog_9_method_10_code 3 (some .boolean) :: ws) R_own_rm10) (fun a U => a = #[(.ref a1), (.ref a2)] ∧ Z.Warmed39 U.vm ∧ U.heap = h0) (fun _ _ _ _ _ => True) (fun _ U o U' => ∃ v L, o = .returned v ∧ Q_own_rm10 Z a1 a2 p1 q1 p2 q2 h0 n0 v U'.heap L ∧ FrameEnd U o U' L R_own_rm10.cells R_own_rm10.slots) := by
  refine MetFree.of_bodySF (plainFor_of_name own_pn1) hisR ?_
  intro p e s m args below meth c s₁ Bd hml0 hP hK
  obtain ⟨rfl, hZ, hh⟩ := hP
  have hx := Bd.exec
  have hby := Bd.bytes
  have hml : c.maxLocals = 3 := hml0
  have hown : s.vm.findClass "com/example/fabius/fabius/retry/Unsigned" = some m.cls := findClass_of_methodNamed Bd.named
  have hnm := (name_of_methodNamed Bd.named Bd.method).1
  have X0 : Stand p l e R_own_rm10 s m #[(.ref a1), (.ref a2)] below meth c s₁ [] 0 0 := Stand.of_body Bd
  have e0 : s₁.heap = h0 := by rw [← hh, Bd.state]; rfl
  have N0 := Fr.nil n0
  have K0 : Keep h0 h0 [] := Keep.refl h0 []
  show own_Fin p e below s (Q_own_rm10 Z a1 a2 p1 q1 p2 q2 h0 n0) R_own_rm10.cells R_own_rm10.slots (s₁.setTop (entryFrame m #[(.ref a1), (.ref a2)] 3))
  refine own_go (fun _ k => castTop (ef_own_rm10 m a1 a2) k) ?_
  show own_Fin _ _ _ _ _ _ _ (s₁.setTop (mkF m 0 #[.val (.ref a1), .val (.ref a2), .unset] []))
  refine own_go (B := s₁.setTop (mkF m 1 #[.val (.ref a1), .val (.ref a2), .unset] [(.ref a2)])) (fun _ k => XS.aloadN X0.here hx rfl (hb hby d10_0) rfl rfl k) ?_
  obtain ⟨T1, X1, e1, st1⟩ := instY X0 hx hZ hown (own_w hw 4 rfl) e0 (Ins.self P_E_a2) (g := (mkF m 1 #[.val (.ref a1), .val (.ref a2), .unset] [(.ref a2)])) rfl rfl (hb hby d10_1)
  refine own_go (B := T1.setTop (mkF m 4 #[.val (.ref a1), .val (.ref a2), .unset] [(.int (1 : Int32))])) st1 ?_
  have hc2 : ¬ ((1 : Int32) = (0 : Int32)) := by decide
  refine own_go (B := T1.setTop (mkF m 7 #[.val (.ref a1), .val (.ref a2), .unset] [])) (fun _ k => XS.ifNo X1.here hx rfl (hb hby d10_4) rfl ((if0 _ _).trans (feq hc2).1) k) ?_
  refine own_go (B := T1.setTop (mkF m 8 #[.val (.ref a1), .val (.ref a2), .unset] [(.ref a2)])) (fun _ k => XS.aloadN X1.here hx rfl (hb hby d10_7) rfl rfl k) ?_
  obtain ⟨T3, X3, e3, st3⟩ := castY X1 hx hZ hown (own_w hw 4 rfl) e1 (Ins.self P_E_a2) (g := (mkF m 8 #[.val (.ref a1), .val (.ref a2), .unset] [(.ref a2)])) rfl rfl (hb hby d10_8)
  refine own_go (B := T3.setTop (mkF m 11 #[.val (.ref a1), .val (.ref a2), .unset] [(.ref a2)])) st3 ?_
  refine own_go (B := T3.setTop (mkF m 12 #[.val (.ref a1), .val (.ref a2), .val (.ref a2)] [])) (fun _ k => XS.astoreN X3.here hx rfl (hb hby d10_11) rfl rfl (l' := #[.val (.ref a1), .val (.ref a2), .val (.ref a2)]) rfl k) ?_
  refine own_go (B := T3.setTop (mkF m 13 #[.val (.ref a1), .val (.ref a2), .val (.ref a2)] [(.ref a1)])) (fun _ k => XS.aloadN X3.here hx rfl (hb hby d10_12) rfl rfl k) ?_
  obtain ⟨T4, X4, e4, st4⟩ := getF X3 hx hZ hown (host := "") (Or.inl (own_w hw 17 rfl)) Via.refl e3 P_F_a1_bits (g := (mkF m 13 #[.val (.ref a1), .val (.ref a2), .val (.ref a2)] [(.ref a1)])) rfl rfl (hb hby d10_13)
  refine own_go (B := T4.setTop (mkF m 16 #[.val (.ref a1), .val (.ref a2), .val (.ref a2)] [(.int p1)])) st4 ?_
  refine own_go (B := T4.setTop (mkF m 17 #[.val (.ref a1), .val (.ref a2), .val (.ref a2)] [(.ref a2), (.int p1)])) (fun _ k => XS.aloadN X4.here hx rfl (hb hby d10_16) rfl rfl k) ?_
  obtain ⟨T5, X5, e5, st5⟩ := getF X4 hx hZ hown (host := "") (Or.inl (own_w hw 17 rfl)) Via.refl e4 P_F_a2_bits (g := (mkF m 17 #[.val (.ref a1), .val (.ref a2), .val (.ref a2)] [(.ref a2), (.int p1)])) rfl rfl (hb hby d10_17)
  refine own_go (B := T5.setTop (mkF m 20 #[.val (.ref a1), .val (.ref a2), .val (.ref a2)] [(.int p2), (.int p1)])) st5 ?_
  by_cases hc6 : p1 = p2
  · skip
    refine own_go (B := T5.setTop (mkF m 23 #[.val (.ref a1), .val (.ref a2), .val (.ref a2)] [])) (fun _ k => XS.icmpNo X5.here hx rfl (hb hby d10_20) rfl (teq hc6).2 k) ?_
    refine own_go (B := T5.setTop (mkF m 24 #[.val (.ref a1), .val (.ref a2), .val (.ref a2)] [(.ref a1)])) (fun _ k => XS.aloadN X5.here hx rfl (hb hby d10_23) rfl rfl k) ?_
    obtain ⟨T7, X7, e7, st7⟩ := getF X5 hx hZ hown (host := "") (Or.inl (own_w hw 19 rfl)) Via.refl e5 P_F_a1_value (g := (mkF m 24 #[.val (.ref a1), .val (.ref a2), .val (.ref a2)] [(.ref a1)])) rfl rfl (hb hby d10_24)
    refine own_go (B := T7.setTop (mkF m 27 #[.val (.ref a1), .val (.ref a2), .val (.ref a2)] [(.long q1)])) st7 ?_
    refine own_go (B := T7.setTop (mkF m 28 #[.val (.ref a1), .val (.ref a2), .val (.ref a2)] [(.ref a2), (.long q1)])) (fun _ k => XS.aloadN X7.here hx rfl (hb hby d10_27) rfl rfl k) ?_
    obtain ⟨T8, X8, e8, st8⟩ := getF X7 hx hZ hown (host := "") (Or.inl (own_w hw 19 rfl)) Via.refl e7 P_F_a2_value (g := (mkF m 28 #[.val (.ref a1), .val (.ref a2), .val (.ref a2)] [(.ref a2), (.long q1)])) rfl rfl (hb hby d10_28)
    refine own_go (B := T8.setTop (mkF m 31 #[.val (.ref a1), .val (.ref a2), .val (.ref a2)] [(.long q2), (.long q1)])) st8 ?_
    refine own_go (B := T8.setTop (mkF m 32 #[.val (.ref a1), .val (.ref a2), .val (.ref a2)] [(.int (lcmpW q1 q2))])) (fun _ k => XS.lcmp X8.here hx rfl (hb hby d10_31) rfl k) ?_
    by_cases hc9 : q1 = q2
    · skip
      refine own_go (B := T8.setTop (mkF m 35 #[.val (.ref a1), .val (.ref a2), .val (.ref a2)] [])) (fun _ k => XS.ifNo X8.here hx rfl (hb hby d10_32) rfl ((if0 _ _).trans (teq ((lw_eq q1 q2).mpr hc9)).2) k) ?_
      refine own_go (B := T8.setTop (mkF m 36 #[.val (.ref a1), .val (.ref a2), .val (.ref a2)] [(.int (1 : Int32))])) (fun _ k => XS.iconst X8.here hx rfl (hb hby d10_35) k) ?_
      refine own_go (B := T8.setTop (mkF m 40 #[.val (.ref a1), .val (.ref a2), .val (.ref a2)] [(.int (1 : Int32))])) (fun _ k => XS.goto X8.here hx rfl (pc0 := 36) (pc' := 40) rfl (hb hby d10_36) (by decide) (by decide) k) ?_
      exact own_retN X8 hx Bd.notSynchronized (t := .boolean) (w := (1 : Int32)) Bd.returns (by simp) (hb hby d10_40) e8 rfl ⟨(by rw [own_b1 (own_pl_rm10_1 p1 q1 p2 q2 hc6 hc9)]), N0, rfl⟩ (by decide) (by decide)
    · skip
      refine own_go (B := T8.setTop (mkF m 39 #[.val (.ref a1), .val (.ref a2), .val (.ref a2)] [])) (fun _ k => XS.ifYes X8.here hx rfl (pc0 := 32) (pc' := 39) rfl (hb hby d10_32) rfl ((if0 _ _).trans (feq (mt (lw_eq q1 q2).mp hc9)).2) (by decide) (by decide) k) ?_
      refine own_go (B := T8.setTop (mkF m 40 #[.val (.ref a1), .val (.ref a2), .val (.ref a2)] [(.int (0 : Int32))])) (fun _ k => XS.iconst X8.here hx rfl (hb hby d10_39) k) ?_
      exact own_retN X8 hx Bd.notSynchronized (t := .boolean) (w := (0 : Int32)) Bd.returns (by simp) (hb hby d10_40) e8 rfl ⟨(by rw [own_b0 (own_pl_rm10_2 p1 q1 p2 q2 hc6 hc9)]), N0, rfl⟩ (by decide) (by decide)
  · skip
    refine own_go (B := T5.setTop (mkF m 39 #[.val (.ref a1), .val (.ref a2), .val (.ref a2)] [])) (fun _ k => XS.icmpYes X5.here hx rfl (pc0 := 20) (pc' := 39) rfl (hb hby d10_20) rfl (feq hc6).2 (by decide) (by decide) k) ?_
    refine own_go (B := T5.setTop (mkF m 40 #[.val (.ref a1), .val (.ref a2), .val (.ref a2)] [(.int (0 : Int32))])) (fun _ k => XS.iconst X5.here hx rfl (hb hby d10_39) k) ?_
    exact own_retN X5 hx Bd.notSynchronized (t := .boolean) (w := (0 : Int32)) Bd.returns (by simp) (hb hby d10_40) e5 rfl ⟨(by rw [own_b0 (own_pl_rm10_3 p1 q1 p2 q2 hc6)]), N0, rfl⟩ (by decide) (by decide)
abbrev R_own_rm9 : Room := { frames := 0, cells := 0, slots := 0, locals := 0 }
theorem d9_0 : decode prog_9_method_9_code 0 = .ok (.aload_n 0, 1) := by decide +kernel
theorem d9_1 : decode prog_9_method_9_code 1 = .ok (.getfield 22, 3) := by decide +kernel
theorem d9_4 : decode prog_9_method_9_code 4 = .ok (.l2d, 1) := by decide +kernel
theorem d9_5 : decode prog_9_method_9_code 5 = .ok (.dreturn, 1) := by decide +kernel
theorem ef_own_rm9 (m : MethodId) (x0 : Addr) : entryFrame m #[(.ref x0)] 1 = mkF m 0 #[.val (.ref x0)] [] := by first | (simp [entryFrame, mkF, argsToLocals, Value.category]; done) | rfl
def Q_own_rm9 (Z : State) (a1 : Addr) (q1 : Int64) (h0 : Heap) (n0 : Nat) (v : Option Value) (h : Heap) (L : List Loc) : Prop := v = some (.double (FP.l2d q1)) ∧ Fr n0 L ∧ h = h0
set_option maxRecDepth 65536 in
set_option maxHeartbeats 400000000 in
theorem own_rm9 (l : Launch) (Z : State) (a0 : Array Value) (hw : ∀ d ∈ tables_1, d.before a0 Z = true) (ws : List Jvm.Cond) (a1 : Addr) (q1 : Int64) (h0 : Heap) (n0 : Nat) (Z0 : n0 ≤ h0.size) (P_F_a1_value : Fld Z h0 a1 "com/example/fabius/fabius/retry/Unsigned" "value" "J" (.long q1)) :
    MetFree l (⟨"com/example/fabius/fabius/retry/Unsigned", "doubleValue", "()D"⟩ : MethodName) (head1 (Jvm.Cond.code (⟨"com/example/fabius/fabius/retry/Unsigned", "doubleValue", "()D"⟩ : MethodName) prog_9_method_9_code 1 (some .double) :: ws) R_own_rm9) (fun a U => a = #[(.ref a1)] ∧ Z.Warmed39 U.vm ∧ U.heap = h0) (fun _ _ _ _ _ => True) (fun _ U o U' => ∃ v L, o = .returned v ∧ Q_own_rm9 Z a1 q1 h0 n0 v U'.heap L ∧ FrameEnd U o U' L R_own_rm9.cells R_own_rm9.slots) := by
  refine MetFree.of_bodySF (plainFor_of_name own_pn1) hisR ?_
  intro p e s m args below meth c s₁ Bd hml0 hP hK
  obtain ⟨rfl, hZ, hh⟩ := hP
  have hx := Bd.exec
  have hby := Bd.bytes
  have hml : c.maxLocals = 1 := hml0
  have hown : s.vm.findClass "com/example/fabius/fabius/retry/Unsigned" = some m.cls := findClass_of_methodNamed Bd.named
  have hnm := (name_of_methodNamed Bd.named Bd.method).1
  have X0 : Stand p l e R_own_rm9 s m #[(.ref a1)] below meth c s₁ [] 0 0 := Stand.of_body Bd
  have e0 : s₁.heap = h0 := by rw [← hh, Bd.state]; rfl
  have N0 := Fr.nil n0
  have K0 : Keep h0 h0 [] := Keep.refl h0 []
  show own_Fin p e below s (Q_own_rm9 Z a1 q1 h0 n0) R_own_rm9.cells R_own_rm9.slots (s₁.setTop (entryFrame m #[(.ref a1)] 1))
  refine own_go (fun _ k => castTop (ef_own_rm9 m a1) k) ?_
  show own_Fin _ _ _ _ _ _ _ (s₁.setTop (mkF m 0 #[.val (.ref a1)] []))
  refine own_go (B := s₁.setTop (mkF m 1 #[.val (.ref a1)] [(.ref a1)])) (fun _ k => XS.aloadN X0.here hx rfl (hb hby d9_0) rfl rfl k) ?_
  obtain ⟨T1, X1, e1, st1⟩ := getF X0 hx hZ hown (host := "") (Or.inl (own_w hw 19 rfl)) Via.refl e0 P_F_a1_value (g := (mkF m 1 #[.val (.ref a1)] [(.ref a1)])) rfl rfl (hb hby d9_1)
  refine own_go (B := T1.setTop (mkF m 4 #[.val (.ref a1)] [(.long q1)])) st1 ?_
  refine own_go (B := T1.setTop (mkF m 5 #[.val (.ref a1)] [(.double (FP.l2d q1))])) (fun _ k => XS.l2dS X1.here hx rfl (hb hby d9_4) rfl rfl k) ?_
  exact own_retD X1 hx Bd.notSynchronized Bd.returns (hb hby d9_5) e1 ⟨rfl, N0, rfl⟩ (by decide) (by decide)
theorem own_pn2 : plainName "com/example/fabius/fabius/retry/UnsignedOfBytePinLaw" = true := by first | (simp [plainName, overriddenIn]; done) | decide +kernel
theorem ef_own_rm0 (m : MethodId) (x0 : Int32) (x1 : Int32) : entryFrame m #[(.int x0), (.int x1)] maxLocals = mkF m 0 #[.val (.int x0), .val (.int x1), .unset, .unset, .unset, .unset, .unset, .unset] [] := by first | (simp [entryFrame, mkF, argsToLocals, Value.category, maxLocals]; done) | rfl
set_option maxHeartbeats 2000000 in
theorem own_pl_rm0_1 (p1 : Int32) : 0 ≤ (p1 &&& (255 : Int32)).toInt := by
  have := rng32 p1
  have := rng32 (p1 &&& (255 : Int32))
  have := Jvm.Kit.i32_mask p1 (255 : Int32) (k := 8) (by decide) (by decide)
  try simp only [own_i32_255] at *
  have := own_i32_255
  try simp only [Int32.lt_iff_toInt_lt, Int32.le_iff_toInt_le, Int64.lt_iff_toInt_lt, Int64.le_iff_toInt_le, ← Int32.toInt_inj, ← Int64.toInt_inj, true_and, and_true, true_or, or_true, false_or, or_false, not_true_eq_false, not_false_eq_true, false_and, and_false] at *
  all_goals first | omega | (simp; done)
set_option maxHeartbeats 2000000 in
theorem own_pl_rm0_2 (p1 : Int32) : (p1 &&& (255 : Int32)).toInt < 256 := by
  have := rng32 p1
  have := rng32 (p1 &&& (255 : Int32))
  have := Jvm.Kit.i32_mask p1 (255 : Int32) (k := 8) (by decide) (by decide)
  try simp only [own_i32_255] at *
  have := own_i32_255
  try simp only [Int32.lt_iff_toInt_lt, Int32.le_iff_toInt_le, Int64.lt_iff_toInt_lt, Int64.le_iff_toInt_le, ← Int32.toInt_inj, ← Int64.toInt_inj, true_and, and_true, true_or, or_true, false_or, or_false, not_true_eq_false, not_false_eq_true, false_and, and_false] at *
  all_goals first | omega | (simp; done)
set_option maxHeartbeats 2000000 in
theorem own_pl_rm0_3 (p2 : Int32) : 0 ≤ (p2 &&& (255 : Int32)).toInt := by
  have := rng32 p2
  have := rng32 (p2 &&& (255 : Int32))
  have := Jvm.Kit.i32_mask p2 (255 : Int32) (k := 8) (by decide) (by decide)
  try simp only [own_i32_255] at *
  have := own_i32_255
  try simp only [Int32.lt_iff_toInt_lt, Int32.le_iff_toInt_le, Int64.lt_iff_toInt_lt, Int64.le_iff_toInt_le, ← Int32.toInt_inj, ← Int64.toInt_inj, true_and, and_true, true_or, or_true, false_or, or_false, not_true_eq_false, not_false_eq_true, false_and, and_false] at *
  all_goals first | omega | (simp; done)
set_option maxHeartbeats 2000000 in
theorem own_pl_rm0_4 (p2 : Int32) : (p2 &&& (255 : Int32)).toInt < 256 := by
  have := rng32 p2
  have := rng32 (p2 &&& (255 : Int32))
  have := Jvm.Kit.i32_mask p2 (255 : Int32) (k := 8) (by decide) (by decide)
  try simp only [own_i32_255] at *
  have := own_i32_255
  try simp only [Int32.lt_iff_toInt_lt, Int32.le_iff_toInt_le, Int64.lt_iff_toInt_lt, Int64.le_iff_toInt_le, ← Int32.toInt_inj, ← Int64.toInt_inj, true_and, and_true, true_or, or_true, false_or, or_false, not_true_eq_false, not_false_eq_true, false_and, and_false] at *
  all_goals first | omega | (simp; done)
set_option maxHeartbeats 2000000 in
theorem own_pl_rm0_5 (p1 : Int32) : 0 ≤ (p1 &&& (255 : Int32)).toInt := by
  have := rng32 p1
  have := rng32 (p1 &&& (255 : Int32))
  have := Jvm.Kit.i32_mask p1 (255 : Int32) (k := 8) (by decide) (by decide)
  try simp only [own_i32_255] at *
  have := own_i32_255
  try simp only [Int32.lt_iff_toInt_lt, Int32.le_iff_toInt_le, Int64.lt_iff_toInt_lt, Int64.le_iff_toInt_le, ← Int32.toInt_inj, ← Int64.toInt_inj, true_and, and_true, true_or, or_true, false_or, or_false, not_true_eq_false, not_false_eq_true, false_and, and_false] at *
  all_goals first | omega | (simp; done)
set_option maxHeartbeats 2000000 in
theorem own_pl_rm0_6 (p1 : Int32) : (p1 &&& (255 : Int32)).toInt < 65536 := by
  have := rng32 p1
  have := rng32 (p1 &&& (255 : Int32))
  have := Jvm.Kit.i32_mask p1 (255 : Int32) (k := 8) (by decide) (by decide)
  try simp only [own_i32_255] at *
  have := own_i32_255
  try simp only [Int32.lt_iff_toInt_lt, Int32.le_iff_toInt_le, Int64.lt_iff_toInt_lt, Int64.le_iff_toInt_le, ← Int32.toInt_inj, ← Int64.toInt_inj, true_and, and_true, true_or, or_true, false_or, or_false, not_true_eq_false, not_false_eq_true, false_and, and_false] at *
  all_goals first | omega | (simp; done)
set_option maxHeartbeats 2000000 in
theorem own_pl_rm0_7 (p1 : Int32) : (((p1 &&& (255 : Int32)).toInt64).toInt32) = (p1 &&& (255 : Int32)) := by
  have := rng32 p1
  have := rng32 (p1 &&& (255 : Int32))
  have := Jvm.Kit.i32_mask p1 (255 : Int32) (k := 8) (by decide) (by decide)
  have := rng64 ((p1 &&& (255 : Int32)).toInt64)
  have := Int32.toInt_toInt64 (p1 &&& (255 : Int32))
  have := rng32 (((p1 &&& (255 : Int32)).toInt64).toInt32)
  have := own_l2i ((p1 &&& (255 : Int32)).toInt64)
  try simp only [own_i32_255] at *
  have := own_i32_255
  try simp only [Int32.lt_iff_toInt_lt, Int32.le_iff_toInt_le, Int64.lt_iff_toInt_lt, Int64.le_iff_toInt_le, ← Int32.toInt_inj, ← Int64.toInt_inj, true_and, and_true, true_or, or_true, false_or, or_false, not_true_eq_false, not_false_eq_true, false_and, and_false] at *
  all_goals first | omega | (simp; done)
set_option maxHeartbeats 2000000 in
theorem own_pl_rm0_8 (p1 : Int32) (p2 : Int32) (hc28 : (((p1 &&& (255 : Int32)).toInt64).toInt32) = (p1 &&& (255 : Int32))) (hc34 : (8 : Int32).toInt = (8 : Int32).toInt ∧ ((p1 &&& (255 : Int32)).toInt64).toInt = ((p2 &&& (255 : Int32)).toInt64).toInt) : (p1 &&& (255 : Int32)) = (p2 &&& (255 : Int32)) := by
  have := rng32 p1
  have := rng32 (p1 &&& (255 : Int32))
  have := Jvm.Kit.i32_mask p1 (255 : Int32) (k := 8) (by decide) (by decide)
  have := rng64 ((p1 &&& (255 : Int32)).toInt64)
  have := Int32.toInt_toInt64 (p1 &&& (255 : Int32))
  have := rng32 (((p1 &&& (255 : Int32)).toInt64).toInt32)
  have := own_l2i ((p1 &&& (255 : Int32)).toInt64)
  have := rng32 p2
  have := rng32 (p2 &&& (255 : Int32))
  have := Jvm.Kit.i32_mask p2 (255 : Int32) (k := 8) (by decide) (by decide)
  have := rng64 ((p2 &&& (255 : Int32)).toInt64)
  have := Int32.toInt_toInt64 (p2 &&& (255 : Int32))
  try simp only [own_i32_8, own_i32_255] at *
  have := own_i32_8
  have := own_i32_255
  try simp only [Int32.lt_iff_toInt_lt, Int32.le_iff_toInt_le, Int64.lt_iff_toInt_lt, Int64.le_iff_toInt_le, ← Int32.toInt_inj, ← Int64.toInt_inj, true_and, and_true, true_or, or_true, false_or, or_false, not_true_eq_false, not_false_eq_true, false_and, and_false] at *
  all_goals first | omega | (simp; done)
set_option maxHeartbeats 2000000 in
theorem own_pl_rm0_9 (p1 : Int32) (p2 : Int32) (hc28 : (((p1 &&& (255 : Int32)).toInt64).toInt32) = (p1 &&& (255 : Int32))) (hc34 : (8 : Int32).toInt = (8 : Int32).toInt ∧ ((p1 &&& (255 : Int32)).toInt64).toInt = ((p2 &&& (255 : Int32)).toInt64).toInt) (hc35 : (p1 &&& (255 : Int32)) = (p2 &&& (255 : Int32))) : ¬ ((8 : Int32).toInt = (16 : Int32).toInt ∧ ((p1 &&& (255 : Int32)).toInt64).toInt = ((p1 &&& (255 : Int32)).toInt64).toInt) := by
  have := rng32 p1
  have := rng32 (p1 &&& (255 : Int32))
  have := Jvm.Kit.i32_mask p1 (255 : Int32) (k := 8) (by decide) (by decide)
  have := rng64 ((p1 &&& (255 : Int32)).toInt64)
  have := Int32.toInt_toInt64 (p1 &&& (255 : Int32))
  have := rng32 (((p1 &&& (255 : Int32)).toInt64).toInt32)
  have := own_l2i ((p1 &&& (255 : Int32)).toInt64)
  have := rng32 p2
  have := rng32 (p2 &&& (255 : Int32))
  have := Jvm.Kit.i32_mask p2 (255 : Int32) (k := 8) (by decide) (by decide)
  have := rng64 ((p2 &&& (255 : Int32)).toInt64)
  have := Int32.toInt_toInt64 (p2 &&& (255 : Int32))
  try simp only [own_i32_8, own_i32_16, own_i32_255] at *
  have := own_i32_8
  have := own_i32_16
  have := own_i32_255
  try simp only [Int32.lt_iff_toInt_lt, Int32.le_iff_toInt_le, Int64.lt_iff_toInt_lt, Int64.le_iff_toInt_le, ← Int32.toInt_inj, ← Int64.toInt_inj, true_and, and_true, true_or, or_true, false_or, or_false, not_true_eq_false, not_false_eq_true, false_and, and_false] at *
  all_goals first | omega | (simp; done)
set_option maxHeartbeats 2000000 in
theorem own_pl_rm0_10 (p1 : Int32) (p2 : Int32) (hc28 : (((p1 &&& (255 : Int32)).toInt64).toInt32) = (p1 &&& (255 : Int32))) (hc34 : ¬ ((8 : Int32).toInt = (8 : Int32).toInt ∧ ((p1 &&& (255 : Int32)).toInt64).toInt = ((p2 &&& (255 : Int32)).toInt64).toInt)) : ¬ ((p1 &&& (255 : Int32)) = (p2 &&& (255 : Int32))) := by
  have := rng32 p1
  have := rng32 (p1 &&& (255 : Int32))
  have := Jvm.Kit.i32_mask p1 (255 : Int32) (k := 8) (by decide) (by decide)
  have := rng64 ((p1 &&& (255 : Int32)).toInt64)
  have := Int32.toInt_toInt64 (p1 &&& (255 : Int32))
  have := rng32 (((p1 &&& (255 : Int32)).toInt64).toInt32)
  have := own_l2i ((p1 &&& (255 : Int32)).toInt64)
  have := rng32 p2
  have := rng32 (p2 &&& (255 : Int32))
  have := Jvm.Kit.i32_mask p2 (255 : Int32) (k := 8) (by decide) (by decide)
  have := rng64 ((p2 &&& (255 : Int32)).toInt64)
  have := Int32.toInt_toInt64 (p2 &&& (255 : Int32))
  try simp only [own_i32_8, own_i32_255] at *
  have := own_i32_8
  have := own_i32_255
  try simp only [Int32.lt_iff_toInt_lt, Int32.le_iff_toInt_le, Int64.lt_iff_toInt_lt, Int64.le_iff_toInt_le, ← Int32.toInt_inj, ← Int64.toInt_inj, true_and, and_true, true_or, or_true, false_or, or_false, not_true_eq_false, not_false_eq_true, false_and, and_false] at *
  all_goals first | omega | (simp; done)
set_option maxHeartbeats 2000000 in
theorem own_pl_rm0_11 (p1 : Int32) (p2 : Int32) (hc28 : (((p1 &&& (255 : Int32)).toInt64).toInt32) = (p1 &&& (255 : Int32))) (hc34 : ¬ ((8 : Int32).toInt = (8 : Int32).toInt ∧ ((p1 &&& (255 : Int32)).toInt64).toInt = ((p2 &&& (255 : Int32)).toInt64).toInt)) (hc41 : ¬ ((p1 &&& (255 : Int32)) = (p2 &&& (255 : Int32)))) : ¬ ((8 : Int32).toInt = (16 : Int32).toInt ∧ ((p1 &&& (255 : Int32)).toInt64).toInt = ((p1 &&& (255 : Int32)).toInt64).toInt) := by
  have := rng32 p1
  have := rng32 (p1 &&& (255 : Int32))
  have := Jvm.Kit.i32_mask p1 (255 : Int32) (k := 8) (by decide) (by decide)
  have := rng64 ((p1 &&& (255 : Int32)).toInt64)
  have := Int32.toInt_toInt64 (p1 &&& (255 : Int32))
  have := rng32 (((p1 &&& (255 : Int32)).toInt64).toInt32)
  have := own_l2i ((p1 &&& (255 : Int32)).toInt64)
  have := rng32 p2
  have := rng32 (p2 &&& (255 : Int32))
  have := Jvm.Kit.i32_mask p2 (255 : Int32) (k := 8) (by decide) (by decide)
  have := rng64 ((p2 &&& (255 : Int32)).toInt64)
  have := Int32.toInt_toInt64 (p2 &&& (255 : Int32))
  try simp only [own_i32_8, own_i32_16, own_i32_255] at *
  have := own_i32_8
  have := own_i32_16
  have := own_i32_255
  try simp only [Int32.lt_iff_toInt_lt, Int32.le_iff_toInt_le, Int64.lt_iff_toInt_lt, Int64.le_iff_toInt_le, ← Int32.toInt_inj, ← Int64.toInt_inj, true_and, and_true, true_or, or_true, false_or, or_false, not_true_eq_false, not_false_eq_true, false_and, and_false] at *
  all_goals first | omega | (simp; done)
def Q_own_rm0 (Z : State) (p1 : Int32) (p2 : Int32) (h0 : Heap) (n0 : Nat) (v : Option Value) (h : Heap) (L : List Loc) : Prop := v = some (.int (1 : Int32)) ∧ Fr n0 L ∧ Keep h0 h []
set_option maxRecDepth 65536 in
set_option maxHeartbeats 400000000 in
theorem own_rm0 (l : Launch) (Z : State) (a0 : Array Value) (hw : ∀ d ∈ tables_1, d.before a0 Z = true) (ws : List Jvm.Cond) (p1 : Int32) (p2 : Int32) (h0 : Heap) (n0 : Nat) (Z0 : n0 ≤ h0.size)  :
    MetFree l x (head1 (Jvm.Cond.code x code maxLocals ret :: ws) room_1) (fun a U => a = #[(.int p1), (.int p2)] ∧ Z.Warmed39 U.vm ∧ U.heap = h0) (fun _ _ _ _ _ => True) (fun _ U o U' => ∃ v L, o = .returned v ∧ Q_own_rm0 Z p1 p2 h0 n0 v U'.heap L ∧ FrameEnd U o U' L 3 6) := by
  refine MetFree.of_bodySF (plainFor_of_name own_pn2) hisR ?_
  intro p e s m args below meth c s₁ Bd hml0 hP hK
  obtain ⟨rfl, hZ, hh⟩ := hP
  have hx := Bd.exec
  have hby := Bd.bytes
  have hml : c.maxLocals = 8 := hml0
  have hown : s.vm.findClass "com/example/fabius/fabius/retry/UnsignedOfBytePinLaw" = some m.cls := findClass_of_methodNamed Bd.named
  have hnm := (name_of_methodNamed Bd.named Bd.method).1
  have X0 : Stand p l e room_1 s m #[(.int p1), (.int p2)] below meth c s₁ [] 0 0 := Stand.of_body Bd
  have e0 : s₁.heap = h0 := by rw [← hh, Bd.state]; rfl
  have N0 := Fr.nil n0
  have K0 : Keep h0 h0 [] := Keep.refl h0 []
  show own_Fin p e below s (Q_own_rm0 Z p1 p2 h0 n0) 3 6 (s₁.setTop (entryFrame m #[(.int p1), (.int p2)] maxLocals))
  refine own_go (fun _ k => castTop (ef_own_rm0 m p1 p2) k) ?_
  show own_Fin _ _ _ _ _ _ _ (s₁.setTop (mkF m 0 #[.val (.int p1), .val (.int p2), .unset, .unset, .unset, .unset, .unset, .unset] []))
  refine own_go (B := s₁.setTop (mkF m 1 #[.val (.int p1), .val (.int p2), .unset, .unset, .unset, .unset, .unset, .unset] [(.int p1)])) (fun _ k => XS.iloadN X0.here hx rfl (hb hby at_0) rfl  k) ?_
  refine own_go (B := s₁.setTop (mkF m 4 #[.val (.int p1), .val (.int p2), .unset, .unset, .unset, .unset, .unset, .unset] [(.int (255 : Int32)), (.int p1)])) (fun _ k => XS.sipush X0.here hx rfl (hb hby at_1) k) ?_
  refine own_go (B := s₁.setTop (mkF m 5 #[.val (.int p1), .val (.int p2), .unset, .unset, .unset, .unset, .unset, .unset] [(.int (p1 &&& (255 : Int32)))])) (fun _ k => XS.iand X0.here hx rfl (hb hby at_4) rfl k) ?_
  refine own_go (B := s₁.setTop (mkF m 6 #[.val (.int p1), .val (.int p2), .val (.int (p1 &&& (255 : Int32))), .unset, .unset, .unset, .unset, .unset] [])) (fun _ k => XS.istoreN X0.here hx rfl (hb hby at_5) rfl (l' := #[.val (.int p1), .val (.int p2), .val (.int (p1 &&& (255 : Int32))), .unset, .unset, .unset, .unset, .unset]) rfl k) ?_
  refine own_go (B := s₁.setTop (mkF m 7 #[.val (.int p1), .val (.int p2), .val (.int (p1 &&& (255 : Int32))), .unset, .unset, .unset, .unset, .unset] [(.int p2)])) (fun _ k => XS.iloadN X0.here hx rfl (hb hby at_6) rfl  k) ?_
  refine own_go (B := s₁.setTop (mkF m 10 #[.val (.int p1), .val (.int p2), .val (.int (p1 &&& (255 : Int32))), .unset, .unset, .unset, .unset, .unset] [(.int (255 : Int32)), (.int p2)])) (fun _ k => XS.sipush X0.here hx rfl (hb hby at_7) k) ?_
  refine own_go (B := s₁.setTop (mkF m 11 #[.val (.int p1), .val (.int p2), .val (.int (p1 &&& (255 : Int32))), .unset, .unset, .unset, .unset, .unset] [(.int (p2 &&& (255 : Int32)))])) (fun _ k => XS.iand X0.here hx rfl (hb hby at_10) rfl k) ?_
  refine own_go (B := s₁.setTop (mkF m 12 #[.val (.int p1), .val (.int p2), .val (.int (p1 &&& (255 : Int32))), .val (.int (p2 &&& (255 : Int32))), .unset, .unset, .unset, .unset] [])) (fun _ k => XS.istoreN X0.here hx rfl (hb hby at_11) rfl (l' := #[.val (.int p1), .val (.int p2), .val (.int (p1 &&& (255 : Int32))), .val (.int (p2 &&& (255 : Int32))), .unset, .unset, .unset, .unset]) rfl k) ?_
  refine own_go (B := s₁.setTop (mkF m 13 #[.val (.int p1), .val (.int p2), .val (.int (p1 &&& (255 : Int32))), .val (.int (p2 &&& (255 : Int32))), .unset, .unset, .unset, .unset] [(.int (p1 &&& (255 : Int32)))])) (fun _ k => XS.iloadN X0.here hx rfl (hb hby at_12) rfl  k) ?_
  obtain ⟨_, _, ⟨T1, L1, k1, n1⟩, -, X1, ⟨Lc1, hQ1, l1, y1, z1⟩, st1⟩ := Jvm.LawKit.callS X0 hx (y := (⟨"com/example/fabius/fabius/retry/Unsigned", "ofByte", "(I)Lcom/example/fabius/fabius/retry/Unsigned;"⟩ : MethodName)) hown (mvT hZ (own_w hw 0 rfl)) (mvT hZ (own_w hw 1 rfl)) (mvT hZ (own_w hw 2 rfl)) (mvT hZ (own_w hw 3 rfl)) (by decide) (backOf (W := 0) (own_rm1 l Z a0 hw [] (p1 &&& (255 : Int32)) h0 n0 (Nat.le_trans Z0 K0.1) (own_pl_rm0_1 p1) (own_pl_rm0_2 p1)) hZ (own_w hw 3 rfl) (own_w hw 2 rfl) (by decide) (by decide)) (g := (mkF m 13 #[.val (.int p1), .val (.int p2), .val (.int (p1 &&& (255 : Int32))), .val (.int (p2 &&& (255 : Int32))), .unset, .unset, .unset, .unset] [(.int (p1 &&& (255 : Int32)))])) rfl (by rw [hml]; rfl) (argsL := [(.int (p1 &&& (255 : Int32)))]) (rest := []) (lenOf own_pd2 rfl) rfl (by show 2 * 0 + _ ≤ _; exact Nat.le_of_eq rfl) (hb hby at_13) (fun _ _ => ⟨rfl, e0, (by decide : 0 + 1 ≤ _), (by decide : 0 + 2 ≤ _)⟩)
  dsimp only [Pt.U, Pt.locs, Pt.cells, Pt.slots] at X1 l1 y1 z1 st1 hQ1
  subst l1 y1 z1
  obtain ⟨b_1, rfl, N1q, K1q, Q1_0, Q1_1, Q1_2, x1_0⟩ := hQ1
  have N1 := Fr.app N0 N1q
  have sz_b_1 : h0.size ≤ b_1 := Nat.le_trans K0.1 x1_0
  have g_b_1 : n0 ≤ b_1 := Nat.le_trans Z0 sz_b_1
  have K3 : Keep h0 T1.heap [] := K0.trans K1q all0
  refine own_go (B := T1.setTop (mkF m 16 #[.val (.int p1), .val (.int p2), .val (.int (p1 &&& (255 : Int32))), .val (.int (p2 &&& (255 : Int32))), .unset, .unset, .unset, .unset] [(.ref b_1)])) st1 ?_
  refine own_go (B := T1.setTop (mkF m 18 #[.val (.int p1), .val (.int p2), .val (.int (p1 &&& (255 : Int32))), .val (.int (p2 &&& (255 : Int32))), .val (.ref b_1), .unset, .unset, .unset] [])) (fun _ k => XS.astore X1.here hx rfl (hb hby at_16) rfl rfl (l' := #[.val (.int p1), .val (.int p2), .val (.int (p1 &&& (255 : Int32))), .val (.int (p2 &&& (255 : Int32))), .val (.ref b_1), .unset, .unset, .unset]) rfl k) ?_
  refine own_go (B := T1.setTop (mkF m 19 #[.val (.int p1), .val (.int p2), .val (.int (p1 &&& (255 : Int32))), .val (.int (p2 &&& (255 : Int32))), .val (.ref b_1), .unset, .unset, .unset] [(.int (p2 &&& (255 : Int32)))])) (fun _ k => XS.iloadN X1.here hx rfl (hb hby at_18) rfl  k) ?_
  obtain ⟨_, _, ⟨T4, L4, k4, n4⟩, -, X4, ⟨Lc4, hQ4, l4, y4, z4⟩, st4⟩ := Jvm.LawKit.callS X1 hx (y := (⟨"com/example/fabius/fabius/retry/Unsigned", "ofByte", "(I)Lcom/example/fabius/fabius/retry/Unsigned;"⟩ : MethodName)) hown (mvT hZ (own_w hw 0 rfl)) (mvT hZ (own_w hw 1 rfl)) (mvT hZ (own_w hw 2 rfl)) (mvT hZ (own_w hw 3 rfl)) (by decide) (backOf (W := 0) (own_rm1 l Z a0 hw [] (p2 &&& (255 : Int32)) T1.heap n0 (Nat.le_trans Z0 K3.1) (own_pl_rm0_3 p2) (own_pl_rm0_4 p2)) hZ (own_w hw 3 rfl) (own_w hw 2 rfl) (by decide) (by decide)) (g := (mkF m 19 #[.val (.int p1), .val (.int p2), .val (.int (p1 &&& (255 : Int32))), .val (.int (p2 &&& (255 : Int32))), .val (.ref b_1), .unset, .unset, .unset] [(.int (p2 &&& (255 : Int32)))])) rfl (by rw [hml]; rfl) (argsL := [(.int (p2 &&& (255 : Int32)))]) (rest := []) (lenOf own_pd2 rfl) rfl (by show 2 * 0 + _ ≤ _; exact Nat.le_of_eq rfl) (hb hby at_19) (fun _ _ => ⟨rfl, rfl, (by decide : 1 + 1 ≤ _), (by decide : 2 + 2 ≤ _)⟩)
  dsimp only [Pt.U, Pt.locs, Pt.cells, Pt.slots] at X4 l4 y4 z4 st4 hQ4
  subst l4 y4 z4
  obtain ⟨b_4, rfl, N4q, K4q, Q4_0, Q4_1, Q4_2, x4_0⟩ := hQ4
  have N4 := Fr.app N1 N4q
  have ne_b_1_b_4_5 : b_1 ≠ b_4 := Nat.ne_of_lt (Nat.lt_of_lt_of_le Q1_0.lt x4_0)
  have sz_b_4 : h0.size ≤ b_4 := Nat.le_trans K3.1 x4_0
  have g_b_4 : n0 ≤ b_4 := Nat.le_trans Z0 sz_b_4
  have E_7 := Q1_0.keep K4q
  have F_8 := Q1_1.keep K4q nin0
  have F_9 := Q1_2.keep K4q nin0
  have K10 : Keep h0 T4.heap [] := K3.trans K4q all0
  refine own_go (B := T4.setTop (mkF m 22 #[.val (.int p1), .val (.int p2), .val (.int (p1 &&& (255 : Int32))), .val (.int (p2 &&& (255 : Int32))), .val (.ref b_1), .unset, .unset, .unset] [(.ref b_4)])) st4 ?_
  refine own_go (B := T4.setTop (mkF m 24 #[.val (.int p1), .val (.int p2), .val (.int (p1 &&& (255 : Int32))), .val (.int (p2 &&& (255 : Int32))), .val (.ref b_1), .val (.ref b_4), .unset, .unset] [])) (fun _ k => XS.astore X4.here hx rfl (hb hby at_22) rfl rfl (l' := #[.val (.int p1), .val (.int p2), .val (.int (p1 &&& (255 : Int32))), .val (.int (p2 &&& (255 : Int32))), .val (.ref b_1), .val (.ref b_4), .unset, .unset]) rfl k) ?_
  refine own_go (B := T4.setTop (mkF m 25 #[.val (.int p1), .val (.int p2), .val (.int (p1 &&& (255 : Int32))), .val (.int (p2 &&& (255 : Int32))), .val (.ref b_1), .val (.ref b_4), .unset, .unset] [(.int (p1 &&& (255 : Int32)))])) (fun _ k => XS.iloadN X4.here hx rfl (hb hby at_24) rfl  k) ?_
  obtain ⟨_, _, ⟨T11, L11, k11, n11⟩, -, X11, ⟨Lc11, hQ11, l11, y11, z11⟩, st11⟩ := Jvm.LawKit.callS X4 hx (y := (⟨"com/example/fabius/fabius/retry/Unsigned", "ofShort", "(I)Lcom/example/fabius/fabius/retry/Unsigned;"⟩ : MethodName)) hown (mvT hZ (own_w hw 21 rfl)) (mvT hZ (own_w hw 22 rfl)) (mvT hZ (own_w hw 2 rfl)) (mvT hZ (own_w hw 23 rfl)) (by decide) (backOf (W := 0) (own_rm5 l Z a0 hw [] (p1 &&& (255 : Int32)) T4.heap n0 (Nat.le_trans Z0 K10.1) (own_pl_rm0_5 p1) (own_pl_rm0_6 p1)) hZ (own_w hw 23 rfl) (own_w hw 2 rfl) (by decide) (by decide)) (g := (mkF m 25 #[.val (.int p1), .val (.int p2), .val (.int (p1 &&& (255 : Int32))), .val (.int (p2 &&& (255 : Int32))), .val (.ref b_1), .val (.ref b_4), .unset, .unset] [(.int (p1 &&& (255 : Int32)))])) rfl (by rw [hml]; rfl) (argsL := [(.int (p1 &&& (255 : Int32)))]) (rest := []) (lenOf own_pd2 rfl) rfl (by show 2 * 0 + _ ≤ _; exact Nat.le_of_eq rfl) (hb hby at_25) (fun _ _ => ⟨rfl, rfl, (by decide : 2 + 1 ≤ _), (by decide : 4 + 2 ≤ _)⟩)
  dsimp only [Pt.U, Pt.locs, Pt.cells, Pt.slots] at X11 l11 y11 z11 st11 hQ11
  subst l11 y11 z11
  obtain ⟨b_11, rfl, N11q, K11q, Q11_0, Q11_1, Q11_2, x11_0⟩ := hQ11
  have N11 := Fr.app N4 N11q
  have ne_b_1_b_11_12 : b_1 ≠ b_11 := Nat.ne_of_lt (Nat.lt_of_lt_of_le E_7.lt x11_0)
  have ne_b_4_b_11_13 : b_4 ≠ b_11 := Nat.ne_of_lt (Nat.lt_of_lt_of_le Q4_0.lt x11_0)
  have sz_b_11 : h0.size ≤ b_11 := Nat.le_trans K10.1 x11_0
  have g_b_11 : n0 ≤ b_11 := Nat.le_trans Z0 sz_b_11
  have E_15 := E_7.keep K11q
  have F_16 := F_8.keep K11q nin0
  have F_17 := F_9.keep K11q nin0
  have E_18 := Q4_0.keep K11q
  have F_19 := Q4_1.keep K11q nin0
  have F_20 := Q4_2.keep K11q nin0
  have K21 : Keep h0 T11.heap [] := K10.trans K11q all0
  refine own_go (B := T11.setTop (mkF m 28 #[.val (.int p1), .val (.int p2), .val (.int (p1 &&& (255 : Int32))), .val (.int (p2 &&& (255 : Int32))), .val (.ref b_1), .val (.ref b_4), .unset, .unset] [(.ref b_11)])) st11 ?_
  refine own_go (B := T11.setTop (mkF m 30 #[.val (.int p1), .val (.int p2), .val (.int (p1 &&& (255 : Int32))), .val (.int (p2 &&& (255 : Int32))), .val (.ref b_1), .val (.ref b_4), .val (.ref b_11), .unset] [])) (fun _ k => XS.astore X11.here hx rfl (hb hby at_28) rfl rfl (l' := #[.val (.int p1), .val (.int p2), .val (.int (p1 &&& (255 : Int32))), .val (.int (p2 &&& (255 : Int32))), .val (.ref b_1), .val (.ref b_4), .val (.ref b_11), .unset]) rfl k) ?_
  refine own_go (B := T11.setTop (mkF m 32 #[.val (.int p1), .val (.int p2), .val (.int (p1 &&& (255 : Int32))), .val (.int (p2 &&& (255 : Int32))), .val (.ref b_1), .val (.ref b_4), .val (.ref b_11), .unset] [(.ref b_1)])) (fun _ k => XS.aload X11.here hx rfl (hb hby at_30) rfl rfl k) ?_
  obtain ⟨cq22, kq22, q22a, q22b, q22c⟩ := isOf hZ rfl E_15
  obtain ⟨_, _, ⟨T22, L22, k22, n22⟩, -, X22, ⟨Lc22, hQ22, l22, y22, z22⟩, st22⟩ := X11.virtualBack hx (y := (⟨"com/example/fabius/fabius/retry/Unsigned", "bits", "()I"⟩ : MethodName)) (z := (⟨"com/example/fabius/fabius/retry/Unsigned", "bits", "()I"⟩ : MethodName)) hown (mvT hZ (own_w hw 24 rfl)) (mvT hZ (own_w hw 25 rfl)) (notFace_of_selects (args := #[]) (mvT hZ (own_w hw 27 rfl))) (mvT hZ (own_w hw 27 rfl)) (mvT hZ (own_w hw 26 rfl)) (by decide) (backOf (W := 0) (own_rm6 l Z a0 hw [] b_1 (8 : Int32) T11.heap n0 (Nat.le_trans Z0 K21.1) F_16) hZ (own_w hw 28 rfl) (own_w hw 2 rfl) (by decide) (by decide)) q22a q22c (g := (mkF m 32 #[.val (.int p1), .val (.int p2), .val (.int (p1 &&& (255 : Int32))), .val (.int (p2 &&& (255 : Int32))), .val (.ref b_1), .val (.ref b_4), .val (.ref b_11), .unset] [(.ref b_1)])) rfl (by rw [hml]; rfl) (Steps.refl _) (argsL := []) (rest := []) (lenOf own_pd3 rfl) rfl (by show 2 * 0 + _ ≤ _; exact Nat.le_of_eq rfl) (hb hby at_32) (fun _ _ => ⟨rfl, rfl, (by decide : 3 + 0 ≤ _), (by decide : 6 + 0 ≤ _)⟩)
  dsimp only [Pt.U, Pt.locs, Pt.cells, Pt.slots] at X22 l22 y22 z22 st22 hQ22
  subst l22 y22 z22
  obtain ⟨rfl, N22q, e22⟩ := hQ22
  have N22 := Fr.app N11 N22q
  refine own_go (B := T22.setTop (mkF m 35 #[.val (.int p1), .val (.int p2), .val (.int (p1 &&& (255 : Int32))), .val (.int (p2 &&& (255 : Int32))), .val (.ref b_1), .val (.ref b_4), .val (.ref b_11), .unset] [(.int (8 : Int32))])) (fun _ k => st22.trans k) ?_
  refine own_go (B := T22.setTop (mkF m 37 #[.val (.int p1), .val (.int p2), .val (.int (p1 &&& (255 : Int32))), .val (.int (p2 &&& (255 : Int32))), .val (.ref b_1), .val (.ref b_4), .val (.ref b_11), .unset] [(.int (8 : Int32)), (.int (8 : Int32))])) (fun _ k => XS.bipush X22.here hx rfl (hb hby at_35) k) ?_
  have hc23 : (8 : Int32) = (8 : Int32) := by decide
  refine own_go (B := T22.setTop (mkF m 40 #[.val (.int p1), .val (.int p2), .val (.int (p1 &&& (255 : Int32))), .val (.int (p2 &&& (255 : Int32))), .val (.ref b_1), .val (.ref b_4), .val (.ref b_11), .unset] [])) (fun _ k => XS.icmpNo X22.here hx rfl (hb hby at_37) rfl (teq hc23).2 k) ?_
  refine own_go (B := T22.setTop (mkF m 41 #[.val (.int p1), .val (.int p2), .val (.int (p1 &&& (255 : Int32))), .val (.int (p2 &&& (255 : Int32))), .val (.ref b_1), .val (.ref b_4), .val (.ref b_11), .unset] [(.int (1 : Int32))])) (fun _ k => XS.iconst X22.here hx rfl (hb hby at_40) k) ?_
  refine own_go (B := T22.setTop (mkF m 45 #[.val (.int p1), .val (.int p2), .val (.int (p1 &&& (255 : Int32))), .val (.int (p2 &&& (255 : Int32))), .val (.ref b_1), .val (.ref b_4), .val (.ref b_11), .unset] [(.int (1 : Int32))])) (fun _ k => XS.goto X22.here hx rfl (pc0 := 41) (pc' := 45) rfl (hb hby at_41) (by decide) (by decide) k) ?_
  refine own_go (B := T22.setTop (mkF m 47 #[.val (.int p1), .val (.int p2), .val (.int (p1 &&& (255 : Int32))), .val (.int (p2 &&& (255 : Int32))), .val (.ref b_1), .val (.ref b_4), .val (.ref b_11), .val (.int (1 : Int32))] [])) (fun _ k => XS.istore X22.here hx rfl (hb hby at_45) rfl (l' := #[.val (.int p1), .val (.int p2), .val (.int (p1 &&& (255 : Int32))), .val (.int (p2 &&& (255 : Int32))), .val (.ref b_1), .val (.ref b_4), .val (.ref b_11), .val (.int (1 : Int32))]) rfl k) ?_
  refine own_go (B := T22.setTop (mkF m 49 #[.val (.int p1), .val (.int p2), .val (.int (p1 &&& (255 : Int32))), .val (.int (p2 &&& (255 : Int32))), .val (.ref b_1), .val (.ref b_4), .val (.ref b_11), .val (.int (1 : Int32))] [(.int (1 : Int32))])) (fun _ k => XS.iload X22.here hx rfl (hb hby at_47) rfl  k) ?_
  have hc24 : ¬ ((1 : Int32) = (0 : Int32)) := by decide
  refine own_go (B := T22.setTop (mkF m 52 #[.val (.int p1), .val (.int p2), .val (.int (p1 &&& (255 : Int32))), .val (.int (p2 &&& (255 : Int32))), .val (.ref b_1), .val (.ref b_4), .val (.ref b_11), .val (.int (1 : Int32))] [])) (fun _ k => XS.ifNo X22.here hx rfl (hb hby at_49) rfl ((if0 _ _).trans (feq hc24).1) k) ?_
  refine own_go (B := T22.setTop (mkF m 54 #[.val (.int p1), .val (.int p2), .val (.int (p1 &&& (255 : Int32))), .val (.int (p2 &&& (255 : Int32))), .val (.ref b_1), .val (.ref b_4), .val (.ref b_11), .val (.int (1 : Int32))] [(.ref b_1)])) (fun _ k => XS.aload X22.here hx rfl (hb hby at_52) rfl rfl k) ?_
  obtain ⟨cq25, kq25, q25a, q25b, q25c⟩ := isOf hZ e22 E_15
  obtain ⟨_, _, ⟨T25, L25, k25, n25⟩, -, X25, ⟨Lc25, hQ25, l25, y25, z25⟩, st25⟩ := X22.virtualBack hx (y := (⟨"com/example/fabius/fabius/retry/Unsigned", "longValue", "()J"⟩ : MethodName)) (z := (⟨"com/example/fabius/fabius/retry/Unsigned", "longValue", "()J"⟩ : MethodName)) hown (mvT hZ (own_w hw 29 rfl)) (mvT hZ (own_w hw 30 rfl)) (notFace_of_selects (args := #[]) (mvT hZ (own_w hw 32 rfl))) (mvT hZ (own_w hw 32 rfl)) (mvT hZ (own_w hw 31 rfl)) (by decide) (backOf (W := 0) (own_rm7 l Z a0 hw [] b_1 ((p1 &&& (255 : Int32)).toInt64) T11.heap n0 (Nat.le_trans Z0 K21.1) F_17) hZ (own_w hw 33 rfl) (own_w hw 2 rfl) (by decide) (by decide)) q25a q25c (g := (mkF m 54 #[.val (.int p1), .val (.int p2), .val (.int (p1 &&& (255 : Int32))), .val (.int (p2 &&& (255 : Int32))), .val (.ref b_1), .val (.ref b_4), .val (.ref b_11), .val (.int (1 : Int32))] [(.ref b_1)])) rfl (by rw [hml]; rfl) (Steps.refl _) (argsL := []) (rest := []) (lenOf own_pd4 rfl) rfl (by show 2 * 0 + _ ≤ _; exact Nat.le_of_eq rfl) (hb hby at_54) (fun _ _ => ⟨rfl, e22, (by decide : 3 + 0 ≤ _), (by decide : 6 + 0 ≤ _)⟩)
  dsimp only [Pt.U, Pt.locs, Pt.cells, Pt.slots] at X25 l25 y25 z25 st25 hQ25
  subst l25 y25 z25
  obtain ⟨rfl, N25q, e25⟩ := hQ25
  have N25 := Fr.app N22 N25q
  refine own_go (B := T25.setTop (mkF m 57 #[.val (.int p1), .val (.int p2), .val (.int (p1 &&& (255 : Int32))), .val (.int (p2 &&& (255 : Int32))), .val (.ref b_1), .val (.ref b_4), .val (.ref b_11), .val (.int (1 : Int32))] [(.long ((p1 &&& (255 : Int32)).toInt64))])) (fun _ k => st25.trans k) ?_
  refine own_go (B := T25.setTop (mkF m 58 #[.val (.int p1), .val (.int p2), .val (.int (p1 &&& (255 : Int32))), .val (.int (p2 &&& (255 : Int32))), .val (.ref b_1), .val (.ref b_4), .val (.ref b_11), .val (.int (1 : Int32))] [(.int (p1 &&& (255 : Int32))), (.long ((p1 &&& (255 : Int32)).toInt64))])) (fun _ k => XS.iloadN X25.here hx rfl (hb hby at_57) rfl  k) ?_
  refine own_go (B := T25.setTop (mkF m 59 #[.val (.int p1), .val (.int p2), .val (.int (p1 &&& (255 : Int32))), .val (.int (p2 &&& (255 : Int32))), .val (.ref b_1), .val (.ref b_4), .val (.ref b_11), .val (.int (1 : Int32))] [(.long ((p1 &&& (255 : Int32)).toInt64)), (.long ((p1 &&& (255 : Int32)).toInt64))])) (fun _ k => XS.i2l X25.here hx rfl (hb hby at_58) rfl k) ?_
  refine own_go (B := T25.setTop (mkF m 60 #[.val (.int p1), .val (.int p2), .val (.int (p1 &&& (255 : Int32))), .val (.int (p2 &&& (255 : Int32))), .val (.ref b_1), .val (.ref b_4), .val (.ref b_11), .val (.int (1 : Int32))] [(.int (lcmpW ((p1 &&& (255 : Int32)).toInt64) ((p1 &&& (255 : Int32)).toInt64)))])) (fun _ k => XS.lcmp X25.here hx rfl (hb hby at_59) rfl k) ?_
  refine own_go (B := T25.setTop (mkF m 63 #[.val (.int p1), .val (.int p2), .val (.int (p1 &&& (255 : Int32))), .val (.int (p2 &&& (255 : Int32))), .val (.ref b_1), .val (.ref b_4), .val (.ref b_11), .val (.int (1 : Int32))] [])) (fun _ k => XS.ifNo X25.here hx rfl (hb hby at_60) rfl ((if0 _ _).trans (teq ((lw_eq ((p1 &&& (255 : Int32)).toInt64) ((p1 &&& (255 : Int32)).toInt64)).mpr (rfl : ((p1 &&& (255 : Int32)).toInt64) = ((p1 &&& (255 : Int32)).toInt64)))).2) k) ?_
  refine own_go (B := T25.setTop (mkF m 64 #[.val (.int p1), .val (.int p2), .val (.int (p1 &&& (255 : Int32))), .val (.int (p2 &&& (255 : Int32))), .val (.ref b_1), .val (.ref b_4), .val (.ref b_11), .val (.int (1 : Int32))] [(.int (1 : Int32))])) (fun _ k => XS.iconst X25.here hx rfl (hb hby at_63) k) ?_
  refine own_go (B := T25.setTop (mkF m 68 #[.val (.int p1), .val (.int p2), .val (.int (p1 &&& (255 : Int32))), .val (.int (p2 &&& (255 : Int32))), .val (.ref b_1), .val (.ref b_4), .val (.ref b_11), .val (.int (1 : Int32))] [(.int (1 : Int32))])) (fun _ k => XS.goto X25.here hx rfl (pc0 := 64) (pc' := 68) rfl (hb hby at_64) (by decide) (by decide) k) ?_
  refine own_go (B := T25.setTop (mkF m 70 #[.val (.int p1), .val (.int p2), .val (.int (p1 &&& (255 : Int32))), .val (.int (p2 &&& (255 : Int32))), .val (.ref b_1), .val (.ref b_4), .val (.ref b_11), .val (.int (1 : Int32))] [])) (fun _ k => XS.istore X25.here hx rfl (hb hby at_68) rfl (l' := #[.val (.int p1), .val (.int p2), .val (.int (p1 &&& (255 : Int32))), .val (.int (p2 &&& (255 : Int32))), .val (.ref b_1), .val (.ref b_4), .val (.ref b_11), .val (.int (1 : Int32))]) rfl k) ?_
  refine own_go (B := T25.setTop (mkF m 72 #[.val (.int p1), .val (.int p2), .val (.int (p1 &&& (255 : Int32))), .val (.int (p2 &&& (255 : Int32))), .val (.ref b_1), .val (.ref b_4), .val (.ref b_11), .val (.int (1 : Int32))] [(.int (1 : Int32))])) (fun _ k => XS.iload X25.here hx rfl (hb hby at_70) rfl  k) ?_
  have hc26 : ¬ ((1 : Int32) = (0 : Int32)) := by decide
  refine own_go (B := T25.setTop (mkF m 75 #[.val (.int p1), .val (.int p2), .val (.int (p1 &&& (255 : Int32))), .val (.int (p2 &&& (255 : Int32))), .val (.ref b_1), .val (.ref b_4), .val (.ref b_11), .val (.int (1 : Int32))] [])) (fun _ k => XS.ifNo X25.here hx rfl (hb hby at_72) rfl ((if0 _ _).trans (feq hc26).1) k) ?_
  refine own_go (B := T25.setTop (mkF m 77 #[.val (.int p1), .val (.int p2), .val (.int (p1 &&& (255 : Int32))), .val (.int (p2 &&& (255 : Int32))), .val (.ref b_1), .val (.ref b_4), .val (.ref b_11), .val (.int (1 : Int32))] [(.ref b_1)])) (fun _ k => XS.aload X25.here hx rfl (hb hby at_75) rfl rfl k) ?_
  obtain ⟨cq27, kq27, q27a, q27b, q27c⟩ := isOf hZ e25 E_15
  obtain ⟨_, _, ⟨T27, L27, k27, n27⟩, -, X27, ⟨Lc27, hQ27, l27, y27, z27⟩, st27⟩ := X25.virtualBack hx (y := (⟨"com/example/fabius/fabius/retry/Unsigned", "intValue", "()I"⟩ : MethodName)) (z := (⟨"com/example/fabius/fabius/retry/Unsigned", "intValue", "()I"⟩ : MethodName)) hown (mvT hZ (own_w hw 34 rfl)) (mvT hZ (own_w hw 35 rfl)) (notFace_of_selects (args := #[]) (mvT hZ (own_w hw 37 rfl))) (mvT hZ (own_w hw 37 rfl)) (mvT hZ (own_w hw 36 rfl)) (by decide) (backOf (W := 0) (own_rm8 l Z a0 hw [] b_1 ((p1 &&& (255 : Int32)).toInt64) T11.heap n0 (Nat.le_trans Z0 K21.1) F_17) hZ (own_w hw 38 rfl) (own_w hw 2 rfl) (by decide) (by decide)) q27a q27c (g := (mkF m 77 #[.val (.int p1), .val (.int p2), .val (.int (p1 &&& (255 : Int32))), .val (.int (p2 &&& (255 : Int32))), .val (.ref b_1), .val (.ref b_4), .val (.ref b_11), .val (.int (1 : Int32))] [(.ref b_1)])) rfl (by rw [hml]; rfl) (Steps.refl _) (argsL := []) (rest := []) (lenOf own_pd3 rfl) rfl (by show 2 * 0 + _ ≤ _; exact Nat.le_of_eq rfl) (hb hby at_77) (fun _ _ => ⟨rfl, e25, (by decide : 3 + 0 ≤ _), (by decide : 6 + 0 ≤ _)⟩)
  dsimp only [Pt.U, Pt.locs, Pt.cells, Pt.slots] at X27 l27 y27 z27 st27 hQ27
  subst l27 y27 z27
  obtain ⟨rfl, N27q, e27⟩ := hQ27
  have N27 := Fr.app N25 N27q
  refine own_go (B := T27.setTop (mkF m 80 #[.val (.int p1), .val (.int p2), .val (.int (p1 &&& (255 : Int32))), .val (.int (p2 &&& (255 : Int32))), .val (.ref b_1), .val (.ref b_4), .val (.ref b_11), .val (.int (1 : Int32))] [(.int (((p1 &&& (255 : Int32)).toInt64).toInt32))])) (fun _ k => st27.trans k) ?_
  refine own_go (B := T27.setTop (mkF m 81 #[.val (.int p1), .val (.int p2), .val (.int (p1 &&& (255 : Int32))), .val (.int (p2 &&& (255 : Int32))), .val (.ref b_1), .val (.ref b_4), .val (.ref b_11), .val (.int (1 : Int32))] [(.int (p1 &&& (255 : Int32))), (.int (((p1 &&& (255 : Int32)).toInt64).toInt32))])) (fun _ k => XS.iloadN X27.here hx rfl (hb hby at_80) rfl  k) ?_
  have hc28 : (((p1 &&& (255 : Int32)).toInt64).toInt32) = (p1 &&& (255 : Int32)) := (own_pl_rm0_7 p1)
  refine own_go (B := T27.setTop (mkF m 84 #[.val (.int p1), .val (.int p2), .val (.int (p1 &&& (255 : Int32))), .val (.int (p2 &&& (255 : Int32))), .val (.ref b_1), .val (.ref b_4), .val (.ref b_11), .val (.int (1 : Int32))] [])) (fun _ k => XS.icmpNo X27.here hx rfl (hb hby at_81) rfl (teq hc28).2 k) ?_
  refine own_go (B := T27.setTop (mkF m 85 #[.val (.int p1), .val (.int p2), .val (.int (p1 &&& (255 : Int32))), .val (.int (p2 &&& (255 : Int32))), .val (.ref b_1), .val (.ref b_4), .val (.ref b_11), .val (.int (1 : Int32))] [(.int (1 : Int32))])) (fun _ k => XS.iconst X27.here hx rfl (hb hby at_84) k) ?_
  refine own_go (B := T27.setTop (mkF m 89 #[.val (.int p1), .val (.int p2), .val (.int (p1 &&& (255 : Int32))), .val (.int (p2 &&& (255 : Int32))), .val (.ref b_1), .val (.ref b_4), .val (.ref b_11), .val (.int (1 : Int32))] [(.int (1 : Int32))])) (fun _ k => XS.goto X27.here hx rfl (pc0 := 85) (pc' := 89) rfl (hb hby at_85) (by decide) (by decide) k) ?_
  refine own_go (B := T27.setTop (mkF m 91 #[.val (.int p1), .val (.int p2), .val (.int (p1 &&& (255 : Int32))), .val (.int (p2 &&& (255 : Int32))), .val (.ref b_1), .val (.ref b_4), .val (.ref b_11), .val (.int (1 : Int32))] [])) (fun _ k => XS.istore X27.here hx rfl (hb hby at_89) rfl (l' := #[.val (.int p1), .val (.int p2), .val (.int (p1 &&& (255 : Int32))), .val (.int (p2 &&& (255 : Int32))), .val (.ref b_1), .val (.ref b_4), .val (.ref b_11), .val (.int (1 : Int32))]) rfl k) ?_
  refine own_go (B := T27.setTop (mkF m 93 #[.val (.int p1), .val (.int p2), .val (.int (p1 &&& (255 : Int32))), .val (.int (p2 &&& (255 : Int32))), .val (.ref b_1), .val (.ref b_4), .val (.ref b_11), .val (.int (1 : Int32))] [(.int (1 : Int32))])) (fun _ k => XS.iload X27.here hx rfl (hb hby at_91) rfl  k) ?_
  have hc29 : ¬ ((1 : Int32) = (0 : Int32)) := by decide
  refine own_go (B := T27.setTop (mkF m 96 #[.val (.int p1), .val (.int p2), .val (.int (p1 &&& (255 : Int32))), .val (.int (p2 &&& (255 : Int32))), .val (.ref b_1), .val (.ref b_4), .val (.ref b_11), .val (.int (1 : Int32))] [])) (fun _ k => XS.ifNo X27.here hx rfl (hb hby at_93) rfl ((if0 _ _).trans (feq hc29).1) k) ?_
  refine own_go (B := T27.setTop (mkF m 98 #[.val (.int p1), .val (.int p2), .val (.int (p1 &&& (255 : Int32))), .val (.int (p2 &&& (255 : Int32))), .val (.ref b_1), .val (.ref b_4), .val (.ref b_11), .val (.int (1 : Int32))] [(.ref b_1)])) (fun _ k => XS.aload X27.here hx rfl (hb hby at_96) rfl rfl k) ?_
  obtain ⟨cq30, kq30, q30a, q30b, q30c⟩ := isOf hZ e27 E_15
  obtain ⟨_, _, ⟨T30, L30, k30, n30⟩, -, X30, ⟨Lc30, hQ30, l30, y30, z30⟩, st30⟩ := X27.virtualBack hx (y := (⟨"com/example/fabius/fabius/retry/Unsigned", "doubleValue", "()D"⟩ : MethodName)) (z := (⟨"com/example/fabius/fabius/retry/Unsigned", "doubleValue", "()D"⟩ : MethodName)) hown (mvT hZ (own_w hw 39 rfl)) (mvT hZ (own_w hw 40 rfl)) (notFace_of_selects (args := #[]) (mvT hZ (own_w hw 42 rfl))) (mvT hZ (own_w hw 42 rfl)) (mvT hZ (own_w hw 41 rfl)) (by decide) (backOf (W := 0) (own_rm9 l Z a0 hw [] b_1 ((p1 &&& (255 : Int32)).toInt64) T11.heap n0 (Nat.le_trans Z0 K21.1) F_17) hZ (own_w hw 43 rfl) (own_w hw 2 rfl) (by decide) (by decide)) q30a q30c (g := (mkF m 98 #[.val (.int p1), .val (.int p2), .val (.int (p1 &&& (255 : Int32))), .val (.int (p2 &&& (255 : Int32))), .val (.ref b_1), .val (.ref b_4), .val (.ref b_11), .val (.int (1 : Int32))] [(.ref b_1)])) rfl (by rw [hml]; rfl) (Steps.refl _) (argsL := []) (rest := []) (lenOf own_pd5 rfl) rfl (by show 2 * 0 + _ ≤ _; exact Nat.le_of_eq rfl) (hb hby at_98) (fun _ _ => ⟨rfl, e27, (by decide : 3 + 0 ≤ _), (by decide : 6 + 0 ≤ _)⟩)
  dsimp only [Pt.U, Pt.locs, Pt.cells, Pt.slots] at X30 l30 y30 z30 st30 hQ30
  subst l30 y30 z30
  obtain ⟨rfl, N30q, e30⟩ := hQ30
  have N30 := Fr.app N27 N30q
  refine own_go (B := T30.setTop (mkF m 101 #[.val (.int p1), .val (.int p2), .val (.int (p1 &&& (255 : Int32))), .val (.int (p2 &&& (255 : Int32))), .val (.ref b_1), .val (.ref b_4), .val (.ref b_11), .val (.int (1 : Int32))] [(.double (FP.l2d ((p1 &&& (255 : Int32)).toInt64)))])) (fun _ k => st30.trans k) ?_
  refine own_go (B := T30.setTop (mkF m 102 #[.val (.int p1), .val (.int p2), .val (.int (p1 &&& (255 : Int32))), .val (.int (p2 &&& (255 : Int32))), .val (.ref b_1), .val (.ref b_4), .val (.ref b_11), .val (.int (1 : Int32))] [(.int (p1 &&& (255 : Int32))), (.double (FP.l2d ((p1 &&& (255 : Int32)).toInt64)))])) (fun _ k => XS.iloadN X30.here hx rfl (hb hby at_101) rfl  k) ?_
  refine own_go (B := T30.setTop (mkF m 103 #[.val (.int p1), .val (.int p2), .val (.int (p1 &&& (255 : Int32))), .val (.int (p2 &&& (255 : Int32))), .val (.ref b_1), .val (.ref b_4), .val (.ref b_11), .val (.int (1 : Int32))] [(.double (FP.l2d ((p1 &&& (255 : Int32)).toInt64))), (.double (FP.l2d ((p1 &&& (255 : Int32)).toInt64)))])) (fun _ k => XS.i2dS X30.here hx rfl (hb hby at_102) rfl (i2d_w _) k) ?_
  refine own_go (B := T30.setTop (mkF m 104 #[.val (.int p1), .val (.int p2), .val (.int (p1 &&& (255 : Int32))), .val (.int (p2 &&& (255 : Int32))), .val (.ref b_1), .val (.ref b_4), .val (.ref b_11), .val (.int (1 : Int32))] [(.int (0 : Int32))])) (fun _ k => XS.dcmpS X30.here hx rfl (hb hby at_103) rfl (dcmpV_self (nn_w rfl) _) k) ?_
  have hc31 : (0 : Int32) = (0 : Int32) := by decide
  refine own_go (B := T30.setTop (mkF m 107 #[.val (.int p1), .val (.int p2), .val (.int (p1 &&& (255 : Int32))), .val (.int (p2 &&& (255 : Int32))), .val (.ref b_1), .val (.ref b_4), .val (.ref b_11), .val (.int (1 : Int32))] [])) (fun _ k => XS.ifNo X30.here hx rfl (hb hby at_104) rfl ((if0 _ _).trans (teq hc31).2) k) ?_
  refine own_go (B := T30.setTop (mkF m 108 #[.val (.int p1), .val (.int p2), .val (.int (p1 &&& (255 : Int32))), .val (.int (p2 &&& (255 : Int32))), .val (.ref b_1), .val (.ref b_4), .val (.ref b_11), .val (.int (1 : Int32))] [(.int (1 : Int32))])) (fun _ k => XS.iconst X30.here hx rfl (hb hby at_107) k) ?_
  refine own_go (B := T30.setTop (mkF m 112 #[.val (.int p1), .val (.int p2), .val (.int (p1 &&& (255 : Int32))), .val (.int (p2 &&& (255 : Int32))), .val (.ref b_1), .val (.ref b_4), .val (.ref b_11), .val (.int (1 : Int32))] [(.int (1 : Int32))])) (fun _ k => XS.goto X30.here hx rfl (pc0 := 108) (pc' := 112) rfl (hb hby at_108) (by decide) (by decide) k) ?_
  refine own_go (B := T30.setTop (mkF m 114 #[.val (.int p1), .val (.int p2), .val (.int (p1 &&& (255 : Int32))), .val (.int (p2 &&& (255 : Int32))), .val (.ref b_1), .val (.ref b_4), .val (.ref b_11), .val (.int (1 : Int32))] [])) (fun _ k => XS.istore X30.here hx rfl (hb hby at_112) rfl (l' := #[.val (.int p1), .val (.int p2), .val (.int (p1 &&& (255 : Int32))), .val (.int (p2 &&& (255 : Int32))), .val (.ref b_1), .val (.ref b_4), .val (.ref b_11), .val (.int (1 : Int32))]) rfl k) ?_
  refine own_go (B := T30.setTop (mkF m 116 #[.val (.int p1), .val (.int p2), .val (.int (p1 &&& (255 : Int32))), .val (.int (p2 &&& (255 : Int32))), .val (.ref b_1), .val (.ref b_4), .val (.ref b_11), .val (.int (1 : Int32))] [(.int (1 : Int32))])) (fun _ k => XS.iload X30.here hx rfl (hb hby at_114) rfl  k) ?_
  have hc32 : ¬ ((1 : Int32) = (0 : Int32)) := by decide
  refine own_go (B := T30.setTop (mkF m 119 #[.val (.int p1), .val (.int p2), .val (.int (p1 &&& (255 : Int32))), .val (.int (p2 &&& (255 : Int32))), .val (.ref b_1), .val (.ref b_4), .val (.ref b_11), .val (.int (1 : Int32))] [])) (fun _ k => XS.ifNo X30.here hx rfl (hb hby at_116) rfl ((if0 _ _).trans (feq hc32).1) k) ?_
  refine own_go (B := T30.setTop (mkF m 121 #[.val (.int p1), .val (.int p2), .val (.int (p1 &&& (255 : Int32))), .val (.int (p2 &&& (255 : Int32))), .val (.ref b_1), .val (.ref b_4), .val (.ref b_11), .val (.int (1 : Int32))] [(.ref b_1)])) (fun _ k => XS.aload X30.here hx rfl (hb hby at_119) rfl rfl k) ?_
  refine own_go (B := T30.setTop (mkF m 123 #[.val (.int p1), .val (.int p2), .val (.int (p1 &&& (255 : Int32))), .val (.int (p2 &&& (255 : Int32))), .val (.ref b_1), .val (.ref b_4), .val (.ref b_11), .val (.int (1 : Int32))] [(.ref b_4), (.ref b_1)])) (fun _ k => XS.aload X30.here hx rfl (hb hby at_121) rfl rfl k) ?_
  obtain ⟨cq33, kq33, q33a, q33b, q33c⟩ := isOf hZ e30 E_15
  obtain ⟨_, _, ⟨T33, L33, k33, n33⟩, -, X33, ⟨Lc33, hQ33, l33, y33, z33⟩, st33⟩ := X30.virtualBack hx (y := (⟨"com/example/fabius/fabius/retry/Unsigned", "equals", "(Ljava/lang/Object;)Z"⟩ : MethodName)) (z := (⟨"com/example/fabius/fabius/retry/Unsigned", "equals", "(Ljava/lang/Object;)Z"⟩ : MethodName)) hown (mvT hZ (own_w hw 44 rfl)) (mvT hZ (own_w hw 45 rfl)) (notFace_of_selects (args := #[]) (mvT hZ (own_w hw 47 rfl))) (mvT hZ (own_w hw 47 rfl)) (mvT hZ (own_w hw 46 rfl)) (by decide) (backOf (W := 0) (own_rm10 l Z a0 hw [] b_1 b_4 (8 : Int32) ((p1 &&& (255 : Int32)).toInt64) (8 : Int32) ((p2 &&& (255 : Int32)).toInt64) T11.heap n0 (Nat.le_trans Z0 K21.1) F_16 F_17 E_18 F_19 F_20) hZ (own_w hw 48 rfl) (own_w hw 2 rfl) (by decide) (by decide)) q33a q33c (g := (mkF m 123 #[.val (.int p1), .val (.int p2), .val (.int (p1 &&& (255 : Int32))), .val (.int (p2 &&& (255 : Int32))), .val (.ref b_1), .val (.ref b_4), .val (.ref b_11), .val (.int (1 : Int32))] [(.ref b_4), (.ref b_1)])) rfl (by rw [hml]; rfl) (Steps.refl _) (argsL := [(.ref b_4)]) (rest := []) (lenOf own_pd6 rfl) rfl (by show 2 * 0 + _ ≤ _; exact Nat.le_of_eq rfl) (hb hby at_123) (fun _ _ => ⟨rfl, e30, (by decide : 3 + 0 ≤ _), (by decide : 6 + 0 ≤ _)⟩)
  dsimp only [Pt.U, Pt.locs, Pt.cells, Pt.slots] at X33 l33 y33 z33 st33 hQ33
  subst l33 y33 z33
  obtain ⟨rfl, N33q, e33⟩ := hQ33
  have N33 := Fr.app N30 N33q
  refine own_go (B := T33.setTop (mkF m 126 #[.val (.int p1), .val (.int p2), .val (.int (p1 &&& (255 : Int32))), .val (.int (p2 &&& (255 : Int32))), .val (.ref b_1), .val (.ref b_4), .val (.ref b_11), .val (.int (1 : Int32))] [(.int (own_b ((8 : Int32).toInt = (8 : Int32).toInt ∧ ((p1 &&& (255 : Int32)).toInt64).toInt = ((p2 &&& (255 : Int32)).toInt64).toInt)))])) (fun _ k => st33.trans k) ?_
  by_cases hc34 : (8 : Int32).toInt = (8 : Int32).toInt ∧ ((p1 &&& (255 : Int32)).toInt64).toInt = ((p2 &&& (255 : Int32)).toInt64).toInt
  · skip
    rw [own_b1 hc34]
    show own_Fin _ _ _ _ _ _ _ (T33.setTop (mkF m 126 #[.val (.int p1), .val (.int p2), .val (.int (p1 &&& (255 : Int32))), .val (.int (p2 &&& (255 : Int32))), .val (.ref b_1), .val (.ref b_4), .val (.ref b_11), .val (.int (1 : Int32))] [(.int (1 : Int32))]))
    refine own_go (B := T33.setTop (mkF m 127 #[.val (.int p1), .val (.int p2), .val (.int (p1 &&& (255 : Int32))), .val (.int (p2 &&& (255 : Int32))), .val (.ref b_1), .val (.ref b_4), .val (.ref b_11), .val (.int (1 : Int32))] [(.int (p1 &&& (255 : Int32))), (.int (1 : Int32))])) (fun _ k => XS.iloadN X33.here hx rfl (hb hby at_126) rfl  k) ?_
    refine own_go (B := T33.setTop (mkF m 128 #[.val (.int p1), .val (.int p2), .val (.int (p1 &&& (255 : Int32))), .val (.int (p2 &&& (255 : Int32))), .val (.ref b_1), .val (.ref b_4), .val (.ref b_11), .val (.int (1 : Int32))] [(.int (p2 &&& (255 : Int32))), (.int (p1 &&& (255 : Int32))), (.int (1 : Int32))])) (fun _ k => XS.iloadN X33.here hx rfl (hb hby at_127) rfl  k) ?_
    have hc35 : (p1 &&& (255 : Int32)) = (p2 &&& (255 : Int32)) := (own_pl_rm0_8 p1 p2 hc28 hc34)
    refine own_go (B := T33.setTop (mkF m 131 #[.val (.int p1), .val (.int p2), .val (.int (p1 &&& (255 : Int32))), .val (.int (p2 &&& (255 : Int32))), .val (.ref b_1), .val (.ref b_4), .val (.ref b_11), .val (.int (1 : Int32))] [(.int (1 : Int32))])) (fun _ k => XS.icmpNo X33.here hx rfl (hb hby at_128) rfl (teq hc35).2 k) ?_
    refine own_go (B := T33.setTop (mkF m 132 #[.val (.int p1), .val (.int p2), .val (.int (p1 &&& (255 : Int32))), .val (.int (p2 &&& (255 : Int32))), .val (.ref b_1), .val (.ref b_4), .val (.ref b_11), .val (.int (1 : Int32))] [(.int (1 : Int32)), (.int (1 : Int32))])) (fun _ k => XS.iconst X33.here hx rfl (hb hby at_131) k) ?_
    refine own_go (B := T33.setTop (mkF m 136 #[.val (.int p1), .val (.int p2), .val (.int (p1 &&& (255 : Int32))), .val (.int (p2 &&& (255 : Int32))), .val (.ref b_1), .val (.ref b_4), .val (.ref b_11), .val (.int (1 : Int32))] [(.int (1 : Int32)), (.int (1 : Int32))])) (fun _ k => XS.goto X33.here hx rfl (pc0 := 132) (pc' := 136) rfl (hb hby at_132) (by decide) (by decide) k) ?_
    have hc36 : (1 : Int32) = (1 : Int32) := by decide
    refine own_go (B := T33.setTop (mkF m 139 #[.val (.int p1), .val (.int p2), .val (.int (p1 &&& (255 : Int32))), .val (.int (p2 &&& (255 : Int32))), .val (.ref b_1), .val (.ref b_4), .val (.ref b_11), .val (.int (1 : Int32))] [])) (fun _ k => XS.icmpNo X33.here hx rfl (hb hby at_136) rfl (teq hc36).2 k) ?_
    refine own_go (B := T33.setTop (mkF m 140 #[.val (.int p1), .val (.int p2), .val (.int (p1 &&& (255 : Int32))), .val (.int (p2 &&& (255 : Int32))), .val (.ref b_1), .val (.ref b_4), .val (.ref b_11), .val (.int (1 : Int32))] [(.int (1 : Int32))])) (fun _ k => XS.iconst X33.here hx rfl (hb hby at_139) k) ?_
    refine own_go (B := T33.setTop (mkF m 144 #[.val (.int p1), .val (.int p2), .val (.int (p1 &&& (255 : Int32))), .val (.int (p2 &&& (255 : Int32))), .val (.ref b_1), .val (.ref b_4), .val (.ref b_11), .val (.int (1 : Int32))] [(.int (1 : Int32))])) (fun _ k => XS.goto X33.here hx rfl (pc0 := 140) (pc' := 144) rfl (hb hby at_140) (by decide) (by decide) k) ?_
    refine own_go (B := T33.setTop (mkF m 146 #[.val (.int p1), .val (.int p2), .val (.int (p1 &&& (255 : Int32))), .val (.int (p2 &&& (255 : Int32))), .val (.ref b_1), .val (.ref b_4), .val (.ref b_11), .val (.int (1 : Int32))] [])) (fun _ k => XS.istore X33.here hx rfl (hb hby at_144) rfl (l' := #[.val (.int p1), .val (.int p2), .val (.int (p1 &&& (255 : Int32))), .val (.int (p2 &&& (255 : Int32))), .val (.ref b_1), .val (.ref b_4), .val (.ref b_11), .val (.int (1 : Int32))]) rfl k) ?_
    refine own_go (B := T33.setTop (mkF m 148 #[.val (.int p1), .val (.int p2), .val (.int (p1 &&& (255 : Int32))), .val (.int (p2 &&& (255 : Int32))), .val (.ref b_1), .val (.ref b_4), .val (.ref b_11), .val (.int (1 : Int32))] [(.int (1 : Int32))])) (fun _ k => XS.iload X33.here hx rfl (hb hby at_146) rfl  k) ?_
    have hc37 : ¬ ((1 : Int32) = (0 : Int32)) := by decide
    refine own_go (B := T33.setTop (mkF m 151 #[.val (.int p1), .val (.int p2), .val (.int (p1 &&& (255 : Int32))), .val (.int (p2 &&& (255 : Int32))), .val (.ref b_1), .val (.ref b_4), .val (.ref b_11), .val (.int (1 : Int32))] [])) (fun _ k => XS.ifNo X33.here hx rfl (hb hby at_148) rfl ((if0 _ _).trans (feq hc37).1) k) ?_
    refine own_go (B := T33.setTop (mkF m 153 #[.val (.int p1), .val (.int p2), .val (.int (p1 &&& (255 : Int32))), .val (.int (p2 &&& (255 : Int32))), .val (.ref b_1), .val (.ref b_4), .val (.ref b_11), .val (.int (1 : Int32))] [(.ref b_1)])) (fun _ k => XS.aload X33.here hx rfl (hb hby at_151) rfl rfl k) ?_
    refine own_go (B := T33.setTop (mkF m 155 #[.val (.int p1), .val (.int p2), .val (.int (p1 &&& (255 : Int32))), .val (.int (p2 &&& (255 : Int32))), .val (.ref b_1), .val (.ref b_4), .val (.ref b_11), .val (.int (1 : Int32))] [(.ref b_11), (.ref b_1)])) (fun _ k => XS.aload X33.here hx rfl (hb hby at_153) rfl rfl k) ?_
    obtain ⟨cq38, kq38, q38a, q38b, q38c⟩ := isOf hZ e33 E_15
    obtain ⟨_, _, ⟨T38, L38, k38, n38⟩, -, X38, ⟨Lc38, hQ38, l38, y38, z38⟩, st38⟩ := X33.virtualBack hx (y := (⟨"com/example/fabius/fabius/retry/Unsigned", "equals", "(Ljava/lang/Object;)Z"⟩ : MethodName)) (z := (⟨"com/example/fabius/fabius/retry/Unsigned", "equals", "(Ljava/lang/Object;)Z"⟩ : MethodName)) hown (mvT hZ (own_w hw 44 rfl)) (mvT hZ (own_w hw 45 rfl)) (notFace_of_selects (args := #[]) (mvT hZ (own_w hw 47 rfl))) (mvT hZ (own_w hw 47 rfl)) (mvT hZ (own_w hw 46 rfl)) (by decide) (backOf (W := 0) (own_rm10 l Z a0 hw [] b_1 b_11 (8 : Int32) ((p1 &&& (255 : Int32)).toInt64) (16 : Int32) ((p1 &&& (255 : Int32)).toInt64) T11.heap n0 (Nat.le_trans Z0 K21.1) F_16 F_17 Q11_0 Q11_1 Q11_2) hZ (own_w hw 48 rfl) (own_w hw 2 rfl) (by decide) (by decide)) q38a q38c (g := (mkF m 155 #[.val (.int p1), .val (.int p2), .val (.int (p1 &&& (255 : Int32))), .val (.int (p2 &&& (255 : Int32))), .val (.ref b_1), .val (.ref b_4), .val (.ref b_11), .val (.int (1 : Int32))] [(.ref b_11), (.ref b_1)])) rfl (by rw [hml]; rfl) (Steps.refl _) (argsL := [(.ref b_11)]) (rest := []) (lenOf own_pd6 rfl) rfl (by show 2 * 0 + _ ≤ _; exact Nat.le_of_eq rfl) (hb hby at_155) (fun _ _ => ⟨rfl, e33, (by decide : 3 + 0 ≤ _), (by decide : 6 + 0 ≤ _)⟩)
    dsimp only [Pt.U, Pt.locs, Pt.cells, Pt.slots] at X38 l38 y38 z38 st38 hQ38
    subst l38 y38 z38
    obtain ⟨rfl, N38q, e38⟩ := hQ38
    have N38 := Fr.app N33 N38q
    refine own_go (B := T38.setTop (mkF m 158 #[.val (.int p1), .val (.int p2), .val (.int (p1 &&& (255 : Int32))), .val (.int (p2 &&& (255 : Int32))), .val (.ref b_1), .val (.ref b_4), .val (.ref b_11), .val (.int (1 : Int32))] [(.int (own_b ((8 : Int32).toInt = (16 : Int32).toInt ∧ ((p1 &&& (255 : Int32)).toInt64).toInt = ((p1 &&& (255 : Int32)).toInt64).toInt)))])) (fun _ k => st38.trans k) ?_
    have hc39 : ¬ ((8 : Int32).toInt = (16 : Int32).toInt ∧ ((p1 &&& (255 : Int32)).toInt64).toInt = ((p1 &&& (255 : Int32)).toInt64).toInt) := (own_pl_rm0_9 p1 p2 hc28 hc34 hc35)
    rw [own_b0 hc39]
    show own_Fin _ _ _ _ _ _ _ (T38.setTop (mkF m 158 #[.val (.int p1), .val (.int p2), .val (.int (p1 &&& (255 : Int32))), .val (.int (p2 &&& (255 : Int32))), .val (.ref b_1), .val (.ref b_4), .val (.ref b_11), .val (.int (1 : Int32))] [(.int (0 : Int32))]))
    have hc40 : (0 : Int32) = (0 : Int32) := by decide
    refine own_go (B := T38.setTop (mkF m 161 #[.val (.int p1), .val (.int p2), .val (.int (p1 &&& (255 : Int32))), .val (.int (p2 &&& (255 : Int32))), .val (.ref b_1), .val (.ref b_4), .val (.ref b_11), .val (.int (1 : Int32))] [])) (fun _ k => XS.ifNo X38.here hx rfl (hb hby at_158) rfl ((if0 _ _).trans (teq hc40).2) k) ?_
    refine own_go (B := T38.setTop (mkF m 162 #[.val (.int p1), .val (.int p2), .val (.int (p1 &&& (255 : Int32))), .val (.int (p2 &&& (255 : Int32))), .val (.ref b_1), .val (.ref b_4), .val (.ref b_11), .val (.int (1 : Int32))] [(.int (1 : Int32))])) (fun _ k => XS.iconst X38.here hx rfl (hb hby at_161) k) ?_
    refine own_go (B := T38.setTop (mkF m 166 #[.val (.int p1), .val (.int p2), .val (.int (p1 &&& (255 : Int32))), .val (.int (p2 &&& (255 : Int32))), .val (.ref b_1), .val (.ref b_4), .val (.ref b_11), .val (.int (1 : Int32))] [(.int (1 : Int32))])) (fun _ k => XS.goto X38.here hx rfl (pc0 := 162) (pc' := 166) rfl (hb hby at_162) (by decide) (by decide) k) ?_
    refine own_go (B := T38.setTop (mkF m 168 #[.val (.int p1), .val (.int p2), .val (.int (p1 &&& (255 : Int32))), .val (.int (p2 &&& (255 : Int32))), .val (.ref b_1), .val (.ref b_4), .val (.ref b_11), .val (.int (1 : Int32))] [])) (fun _ k => XS.istore X38.here hx rfl (hb hby at_166) rfl (l' := #[.val (.int p1), .val (.int p2), .val (.int (p1 &&& (255 : Int32))), .val (.int (p2 &&& (255 : Int32))), .val (.ref b_1), .val (.ref b_4), .val (.ref b_11), .val (.int (1 : Int32))]) rfl k) ?_
    refine own_go (B := T38.setTop (mkF m 170 #[.val (.int p1), .val (.int p2), .val (.int (p1 &&& (255 : Int32))), .val (.int (p2 &&& (255 : Int32))), .val (.ref b_1), .val (.ref b_4), .val (.ref b_11), .val (.int (1 : Int32))] [(.int (1 : Int32))])) (fun _ k => XS.iload X38.here hx rfl (hb hby at_168) rfl  k) ?_
    exact own_retN X38 hx Bd.notSynchronized (t := .boolean) (w := (1 : Int32)) Bd.returns (by simp) (hb hby at_170) e38 rfl ⟨rfl, N38, K21⟩ (by decide) (by decide)
  · skip
    rw [own_b0 hc34]
    show own_Fin _ _ _ _ _ _ _ (T33.setTop (mkF m 126 #[.val (.int p1), .val (.int p2), .val (.int (p1 &&& (255 : Int32))), .val (.int (p2 &&& (255 : Int32))), .val (.ref b_1), .val (.ref b_4), .val (.ref b_11), .val (.int (1 : Int32))] [(.int (0 : Int32))]))
    refine own_go (B := T33.setTop (mkF m 127 #[.val (.int p1), .val (.int p2), .val (.int (p1 &&& (255 : Int32))), .val (.int (p2 &&& (255 : Int32))), .val (.ref b_1), .val (.ref b_4), .val (.ref b_11), .val (.int (1 : Int32))] [(.int (p1 &&& (255 : Int32))), (.int (0 : Int32))])) (fun _ k => XS.iloadN X33.here hx rfl (hb hby at_126) rfl  k) ?_
    refine own_go (B := T33.setTop (mkF m 128 #[.val (.int p1), .val (.int p2), .val (.int (p1 &&& (255 : Int32))), .val (.int (p2 &&& (255 : Int32))), .val (.ref b_1), .val (.ref b_4), .val (.ref b_11), .val (.int (1 : Int32))] [(.int (p2 &&& (255 : Int32))), (.int (p1 &&& (255 : Int32))), (.int (0 : Int32))])) (fun _ k => XS.iloadN X33.here hx rfl (hb hby at_127) rfl  k) ?_
    have hc41 : ¬ ((p1 &&& (255 : Int32)) = (p2 &&& (255 : Int32))) := (own_pl_rm0_10 p1 p2 hc28 hc34)
    refine own_go (B := T33.setTop (mkF m 135 #[.val (.int p1), .val (.int p2), .val (.int (p1 &&& (255 : Int32))), .val (.int (p2 &&& (255 : Int32))), .val (.ref b_1), .val (.ref b_4), .val (.ref b_11), .val (.int (1 : Int32))] [(.int (0 : Int32))])) (fun _ k => XS.icmpYes X33.here hx rfl (pc0 := 128) (pc' := 135) rfl (hb hby at_128) rfl (feq hc41).2 (by decide) (by decide) k) ?_
    refine own_go (B := T33.setTop (mkF m 136 #[.val (.int p1), .val (.int p2), .val (.int (p1 &&& (255 : Int32))), .val (.int (p2 &&& (255 : Int32))), .val (.ref b_1), .val (.ref b_4), .val (.ref b_11), .val (.int (1 : Int32))] [(.int (0 : Int32)), (.int (0 : Int32))])) (fun _ k => XS.iconst X33.here hx rfl (hb hby at_135) k) ?_
    have hc42 : (0 : Int32) = (0 : Int32) := by decide
    refine own_go (B := T33.setTop (mkF m 139 #[.val (.int p1), .val (.int p2), .val (.int (p1 &&& (255 : Int32))), .val (.int (p2 &&& (255 : Int32))), .val (.ref b_1), .val (.ref b_4), .val (.ref b_11), .val (.int (1 : Int32))] [])) (fun _ k => XS.icmpNo X33.here hx rfl (hb hby at_136) rfl (teq hc42).2 k) ?_
    refine own_go (B := T33.setTop (mkF m 140 #[.val (.int p1), .val (.int p2), .val (.int (p1 &&& (255 : Int32))), .val (.int (p2 &&& (255 : Int32))), .val (.ref b_1), .val (.ref b_4), .val (.ref b_11), .val (.int (1 : Int32))] [(.int (1 : Int32))])) (fun _ k => XS.iconst X33.here hx rfl (hb hby at_139) k) ?_
    refine own_go (B := T33.setTop (mkF m 144 #[.val (.int p1), .val (.int p2), .val (.int (p1 &&& (255 : Int32))), .val (.int (p2 &&& (255 : Int32))), .val (.ref b_1), .val (.ref b_4), .val (.ref b_11), .val (.int (1 : Int32))] [(.int (1 : Int32))])) (fun _ k => XS.goto X33.here hx rfl (pc0 := 140) (pc' := 144) rfl (hb hby at_140) (by decide) (by decide) k) ?_
    refine own_go (B := T33.setTop (mkF m 146 #[.val (.int p1), .val (.int p2), .val (.int (p1 &&& (255 : Int32))), .val (.int (p2 &&& (255 : Int32))), .val (.ref b_1), .val (.ref b_4), .val (.ref b_11), .val (.int (1 : Int32))] [])) (fun _ k => XS.istore X33.here hx rfl (hb hby at_144) rfl (l' := #[.val (.int p1), .val (.int p2), .val (.int (p1 &&& (255 : Int32))), .val (.int (p2 &&& (255 : Int32))), .val (.ref b_1), .val (.ref b_4), .val (.ref b_11), .val (.int (1 : Int32))]) rfl k) ?_
    refine own_go (B := T33.setTop (mkF m 148 #[.val (.int p1), .val (.int p2), .val (.int (p1 &&& (255 : Int32))), .val (.int (p2 &&& (255 : Int32))), .val (.ref b_1), .val (.ref b_4), .val (.ref b_11), .val (.int (1 : Int32))] [(.int (1 : Int32))])) (fun _ k => XS.iload X33.here hx rfl (hb hby at_146) rfl  k) ?_
    have hc43 : ¬ ((1 : Int32) = (0 : Int32)) := by decide
    refine own_go (B := T33.setTop (mkF m 151 #[.val (.int p1), .val (.int p2), .val (.int (p1 &&& (255 : Int32))), .val (.int (p2 &&& (255 : Int32))), .val (.ref b_1), .val (.ref b_4), .val (.ref b_11), .val (.int (1 : Int32))] [])) (fun _ k => XS.ifNo X33.here hx rfl (hb hby at_148) rfl ((if0 _ _).trans (feq hc43).1) k) ?_
    refine own_go (B := T33.setTop (mkF m 153 #[.val (.int p1), .val (.int p2), .val (.int (p1 &&& (255 : Int32))), .val (.int (p2 &&& (255 : Int32))), .val (.ref b_1), .val (.ref b_4), .val (.ref b_11), .val (.int (1 : Int32))] [(.ref b_1)])) (fun _ k => XS.aload X33.here hx rfl (hb hby at_151) rfl rfl k) ?_
    refine own_go (B := T33.setTop (mkF m 155 #[.val (.int p1), .val (.int p2), .val (.int (p1 &&& (255 : Int32))), .val (.int (p2 &&& (255 : Int32))), .val (.ref b_1), .val (.ref b_4), .val (.ref b_11), .val (.int (1 : Int32))] [(.ref b_11), (.ref b_1)])) (fun _ k => XS.aload X33.here hx rfl (hb hby at_153) rfl rfl k) ?_
    obtain ⟨cq44, kq44, q44a, q44b, q44c⟩ := isOf hZ e33 E_15
    obtain ⟨_, _, ⟨T44, L44, k44, n44⟩, -, X44, ⟨Lc44, hQ44, l44, y44, z44⟩, st44⟩ := X33.virtualBack hx (y := (⟨"com/example/fabius/fabius/retry/Unsigned", "equals", "(Ljava/lang/Object;)Z"⟩ : MethodName)) (z := (⟨"com/example/fabius/fabius/retry/Unsigned", "equals", "(Ljava/lang/Object;)Z"⟩ : MethodName)) hown (mvT hZ (own_w hw 44 rfl)) (mvT hZ (own_w hw 45 rfl)) (notFace_of_selects (args := #[]) (mvT hZ (own_w hw 47 rfl))) (mvT hZ (own_w hw 47 rfl)) (mvT hZ (own_w hw 46 rfl)) (by decide) (backOf (W := 0) (own_rm10 l Z a0 hw [] b_1 b_11 (8 : Int32) ((p1 &&& (255 : Int32)).toInt64) (16 : Int32) ((p1 &&& (255 : Int32)).toInt64) T11.heap n0 (Nat.le_trans Z0 K21.1) F_16 F_17 Q11_0 Q11_1 Q11_2) hZ (own_w hw 48 rfl) (own_w hw 2 rfl) (by decide) (by decide)) q44a q44c (g := (mkF m 155 #[.val (.int p1), .val (.int p2), .val (.int (p1 &&& (255 : Int32))), .val (.int (p2 &&& (255 : Int32))), .val (.ref b_1), .val (.ref b_4), .val (.ref b_11), .val (.int (1 : Int32))] [(.ref b_11), (.ref b_1)])) rfl (by rw [hml]; rfl) (Steps.refl _) (argsL := [(.ref b_11)]) (rest := []) (lenOf own_pd6 rfl) rfl (by show 2 * 0 + _ ≤ _; exact Nat.le_of_eq rfl) (hb hby at_155) (fun _ _ => ⟨rfl, e33, (by decide : 3 + 0 ≤ _), (by decide : 6 + 0 ≤ _)⟩)
    dsimp only [Pt.U, Pt.locs, Pt.cells, Pt.slots] at X44 l44 y44 z44 st44 hQ44
    subst l44 y44 z44
    obtain ⟨rfl, N44q, e44⟩ := hQ44
    have N44 := Fr.app N33 N44q
    refine own_go (B := T44.setTop (mkF m 158 #[.val (.int p1), .val (.int p2), .val (.int (p1 &&& (255 : Int32))), .val (.int (p2 &&& (255 : Int32))), .val (.ref b_1), .val (.ref b_4), .val (.ref b_11), .val (.int (1 : Int32))] [(.int (own_b ((8 : Int32).toInt = (16 : Int32).toInt ∧ ((p1 &&& (255 : Int32)).toInt64).toInt = ((p1 &&& (255 : Int32)).toInt64).toInt)))])) (fun _ k => st44.trans k) ?_
    have hc45 : ¬ ((8 : Int32).toInt = (16 : Int32).toInt ∧ ((p1 &&& (255 : Int32)).toInt64).toInt = ((p1 &&& (255 : Int32)).toInt64).toInt) := (own_pl_rm0_11 p1 p2 hc28 hc34 hc41)
    rw [own_b0 hc45]
    show own_Fin _ _ _ _ _ _ _ (T44.setTop (mkF m 158 #[.val (.int p1), .val (.int p2), .val (.int (p1 &&& (255 : Int32))), .val (.int (p2 &&& (255 : Int32))), .val (.ref b_1), .val (.ref b_4), .val (.ref b_11), .val (.int (1 : Int32))] [(.int (0 : Int32))]))
    have hc46 : (0 : Int32) = (0 : Int32) := by decide
    refine own_go (B := T44.setTop (mkF m 161 #[.val (.int p1), .val (.int p2), .val (.int (p1 &&& (255 : Int32))), .val (.int (p2 &&& (255 : Int32))), .val (.ref b_1), .val (.ref b_4), .val (.ref b_11), .val (.int (1 : Int32))] [])) (fun _ k => XS.ifNo X44.here hx rfl (hb hby at_158) rfl ((if0 _ _).trans (teq hc46).2) k) ?_
    refine own_go (B := T44.setTop (mkF m 162 #[.val (.int p1), .val (.int p2), .val (.int (p1 &&& (255 : Int32))), .val (.int (p2 &&& (255 : Int32))), .val (.ref b_1), .val (.ref b_4), .val (.ref b_11), .val (.int (1 : Int32))] [(.int (1 : Int32))])) (fun _ k => XS.iconst X44.here hx rfl (hb hby at_161) k) ?_
    refine own_go (B := T44.setTop (mkF m 166 #[.val (.int p1), .val (.int p2), .val (.int (p1 &&& (255 : Int32))), .val (.int (p2 &&& (255 : Int32))), .val (.ref b_1), .val (.ref b_4), .val (.ref b_11), .val (.int (1 : Int32))] [(.int (1 : Int32))])) (fun _ k => XS.goto X44.here hx rfl (pc0 := 162) (pc' := 166) rfl (hb hby at_162) (by decide) (by decide) k) ?_
    refine own_go (B := T44.setTop (mkF m 168 #[.val (.int p1), .val (.int p2), .val (.int (p1 &&& (255 : Int32))), .val (.int (p2 &&& (255 : Int32))), .val (.ref b_1), .val (.ref b_4), .val (.ref b_11), .val (.int (1 : Int32))] [])) (fun _ k => XS.istore X44.here hx rfl (hb hby at_166) rfl (l' := #[.val (.int p1), .val (.int p2), .val (.int (p1 &&& (255 : Int32))), .val (.int (p2 &&& (255 : Int32))), .val (.ref b_1), .val (.ref b_4), .val (.ref b_11), .val (.int (1 : Int32))]) rfl k) ?_
    refine own_go (B := T44.setTop (mkF m 170 #[.val (.int p1), .val (.int p2), .val (.int (p1 &&& (255 : Int32))), .val (.int (p2 &&& (255 : Int32))), .val (.ref b_1), .val (.ref b_4), .val (.ref b_11), .val (.int (1 : Int32))] [(.int (1 : Int32))])) (fun _ k => XS.iload X44.here hx rfl (hb hby at_168) rfl  k) ?_
    exact own_retN X44 hx Bd.notSynchronized (t := .boolean) (w := (1 : Int32)) Bd.returns (by simp) (hb hby at_170) e44 rfl ⟨rfl, N44, K21⟩ (by decide) (by decide)
set_option maxRecDepth 65536 in
set_option maxHeartbeats 40000000 in
theorem comes_1 {Post : Tables → Env → Array Value → State → Outcome → State → Prop} (hpost : ∀ tb e args s v u, (limb_1_1.after args s (.returned v) u = true ∧ limb_1_2.after args s (.returned v) u = true ∧ True) → FrameEnd s (.returned v) u (Jvm.fieldLocs frame_1_writes args s ++ Jvm.arrayLocs frame_1_arrays args s ++ Jvm.staticLocs frame_1_statics s) 16 128 → Post tb e args s (.returned v) u) :
    ArmFor flags0 classFile x code maxLocals ret World_1 tables_1 room_1 Calls_1 rest_1 Pre_1 Post := by
  intro l hfl _ _ p e ha hc hk s m args below hf hA hF happ hP
  obtain ⟨hcalls, hrest, hpre⟩ := hP
  obtain ⟨-, -, -, hnamed, -, -, -, hat⟩ := (Spec.applies_iff hf).mp happ
  obtain ⟨hg, hn⟩ := and_e (Cond.before_iff.mp (show (Jvm.Cond.and given_1 narrow_1).before args s = true from hpre))
  obtain ⟨gg1, gg2⟩ := and_e hg
  obtain ⟨gg3, gg4⟩ := and_e gg2
  obtain ⟨w0, w1, rfl⟩ : ∃ w0 w1 : Value, args = #[w0, w1] := by
    have hs : args.size = 2 := by simpa [Cond.value, given_1] using gg1
    obtain ⟨L⟩ := args
    match L, hs with
    | [w0, w1], _ => exact ⟨w0, w1, rfl⟩
  have hw := fun d (hd : d ∈ tables_1) => atoms_spec (ws := Jvm.Cond.code x code maxLocals ret :: tables_1) hat d (List.mem_cons_of_mem _ hd)
  have hfit : Fit s := fun {y c} hc i hi => by
    obtain ⟨ha, rfl⟩ := Array.getElem?_eq_some_iff.mp hc
    have q := List.all_eq_true.mp ((Array.all_eq_true_iff_forall_mem.mp hF) _ (Array.getElem_mem ha)) i (List.mem_range.mpr hi)
    simpa [Array.getElem?_eq_getElem hi] using q
  obtain ⟨i0, ei0⟩ := is_v gg3
  obtain rfl : w0 = (.int i0) := Option.some.inj ei0
  obtain ⟨i1, ei1⟩ := is_v gg4
  obtain rfl : w1 = (.int i1) := Option.some.inj ei1
  obtain ⟨n, o, h1, h2, h3, _, L, rfl, ⟨rfl, N, _⟩, hq⟩ := own_rm0 l s _ hw tables_1 i0 i1 s.heap s.heap.size (Nat.le_refl _)  p e ha hc hk s m _ below hf ((Spec.applies_iff_loose hf).mp happ).1 ⟨rfl, State.Warmed39.refl s, rfl⟩ trivial
  refine ⟨n, _, h1, h2, h3, hpost _ _ _ _ _ _ ⟨Cond.after_iff.mpr rfl, Cond.after_iff.mpr (eq_i res_at (Term.int_eval (1)) rfl), trivial⟩ ⟨hq.1, hq.2.1, (hq.2.2.sift fun y hy => Or.inr (N y hy)).mono (by decide) (by decide)⟩⟩
theorem main_1_1 : Claimed_1_1 := comes_1 fun _ _ _ _ _ _ h hF => ⟨h.1, hF⟩
theorem main_1_2 : Claimed_1_2 := comes_1 fun _ _ _ _ _ _ h hF => ⟨h.2.1, hF⟩
end Jvm.Pilot.@@N@@
namespace Jvm.Pilot.@@N@@
open Jvm Jvm.ClassFile Sem Op Lib Jvm.Free Jvm.Stand Jvm.Pilot.@@N@@.Jvm.D
/-! MADE BY PROGRAM (witnessworld.py) out of the Statement's table words and the real class files: 10 classes; the members and pool entries that the words name. The judged class is class 1, her method 1. -/
namespace start1
open Jvm.ClassFile
def u (s : String) : CpInfo := .utf8 (stringToUtf16 s)
/-- a pool by its gaps: so many unusable entries, then the entry; so many at the end -/
def gap : Nat → List CpInfo → List CpInfo
  | 0, r => r
  | n + 1, r => .unusable :: gap n r
def poolList (es : List (Nat × CpInfo)) (last : Nat) : List CpInfo := es.foldr (fun e r => gap e.1 (e.2 :: r)) (gap last [])
def pool (es : List (Nat × CpInfo)) (last : Nat) : Array CpInfo := ⟨poolList es last⟩
def fileOf (pool : Array CpInfo) (this : Nat) (attrs : Array Attribute := #[]) (ms : Array MethodInfo := #[]) (fl : Nat := 33) (sup : Nat := 0) (ifs : Array Nat := #[]) (fds : Array FieldInfo := #[]) : ClassFile where
  minorVersion := 0
  majorVersion := 65
  constantPool := pool
  accessFlags := fl
  thisClass := this
  superClass := sup
  interfaces := ifs
  fields := fds
  methods := ms
  attributes := attrs
def plain (name : String) (sup : Option ClassId) : Class where
  name := name
  kind := .ordinary
  loader := none
  accessFlags := 33
  super := sup
  interfaces := #[]
  cf := none
  fields := #[]
  methods := #[]
  instanceTypes := #[]
  staticTypes := #[]
  resolved := #[]
  callSites := []
  init := .initialized
  statics := none
  mirror := none

def pool0 : Array CpInfo := pool [(5, u "<init>"), (0, u "()V"), (1, .class_ 10), (1, u "java/lang/Object")] 113

def k0c0 : Code := { maxStack := 0, maxLocals := 1, code := object_method_1_code, exceptionTable := #[], attributes := #[] }
def k0m0 : Method := { name := "<init>", desc := "()V", sig := { parameters := [], returnType := none }, accessFlags := 1, code := some k0c0 }
/-- java/lang/Object -/
def k0 : Class := { plain "java/lang/Object" none with
  accessFlags := 33
  interfaces := #[]
  cf := some (fileOf pool0 8 #[] #[{ accessFlags := 1, nameIndex := 5, descriptorIndex := 6, attributes := #[] }] 33 0 #[] #[])
  fields := #[]
  methods := #[k0m0]
  instanceTypes := #[]
  staticTypes := #[]
  resolved := Array.replicate 124 none
  statics := none }

def pool1 : Array CpInfo := pool [(2, .class_ 4), (1, u "java/lang/Object"), (0, u "<init>"), (0, u "()V"), (0, .methodref 8 9), (0, .class_ 10), (0, .nameAndType 11 12), (0, u "com/example/fabius/fabius/retry/Unsigned"), (0, u "ofByte"), (0, u "(I)Lcom/example/fabius/fabius/retry/Unsigned;"), (0, .methodref 8 14), (0, .nameAndType 15 12), (0, u "ofShort"), (0, .methodref 8 17), (0, .nameAndType 18 19), (0, u "bits"), (0, u "()I"), (0, .methodref 8 21), (0, .nameAndType 22 23), (0, u "longValue"), (0, u "()J"), (0, .methodref 8 25), (0, .nameAndType 26 19), (0, u "intValue"), (0, .methodref 8 28), (0, .nameAndType 29 30), (0, u "doubleValue"), (0, u "()D"), (0, .methodref 8 32), (0, .nameAndType 33 34), (0, u "equals"), (0, u "(Ljava/lang/Object;)Z"), (0, .class_ 36), (0, u "com/example/fabius/fabius/retry/UnsignedOfBytePinLaw"), (2, u "law"), (0, u "(II)Z")] 3

def k1m0 : Method := { name := "<init>", desc := "()V", sig := { parameters := [], returnType := none }, accessFlags := 1, code := none }
def k1c1 : Code := { maxStack := 4, maxLocals := 8, code := code, exceptionTable := #[], attributes := #[] }
def k1m1 : Method := { name := "law", desc := "(II)Z", sig := { parameters := [.int, .int], returnType := some .boolean }, accessFlags := 9, code := some k1c1 }
/-- com/example/fabius/fabius/retry/UnsignedOfBytePinLaw -/
def k1 : Class := { plain "com/example/fabius/fabius/retry/UnsignedOfBytePinLaw" (some 0) with
  accessFlags := 49
  interfaces := #[]
  cf := some (fileOf pool1 35 #[] #[{ accessFlags := 1, nameIndex := 5, descriptorIndex := 6, attributes := #[] }, { accessFlags := 9, nameIndex := 39, descriptorIndex := 40, attributes := #[] }] 49 2 #[] #[])
  fields := #[]
  methods := #[k1m0, k1m1]
  instanceTypes := #[]
  staticTypes := #[]
  resolved := Array.replicate 44 none
  statics := none }

def pool2 : Array CpInfo := pool [(1, .class_ 2), (0, u "java/io/Serializable"), (0, .class_ 4), (0, u "java/lang/Object")] 2

/-- java/io/Serializable -/
def k2 : Class := { plain "java/io/Serializable" (some 0) with
  accessFlags := 1537
  interfaces := #[]
  cf := some (fileOf pool2 1 #[] #[] 1537 3 #[] #[])
  fields := #[]
  methods := #[]
  instanceTypes := #[]
  staticTypes := #[]
  resolved := Array.replicate 7 none
  statics := none }

def pool3 : Array CpInfo := pool [(1, .methodref 2 3), (0, .class_ 4), (0, .nameAndType 5 6), (0, u "java/lang/Object"), (0, u "<init>"), (0, u "()V"), (1, .class_ 10), (1, u "java/lang/Number"), (2, .class_ 14), (0, u "java/io/Serializable"), (0, u "serialVersionUID"), (0, u "J")] 20

def k3c0 : Code := { maxStack := 1, maxLocals := 1, code := jdk_18_method_1_code, exceptionTable := #[], attributes := #[] }
def k3m0 : Method := { name := "<init>", desc := "()V", sig := { parameters := [], returnType := none }, accessFlags := 1, code := some k3c0 }
/-- java/lang/Number -/
def k3 : Class := { plain "java/lang/Number" (some 0) with
  accessFlags := 1057
  interfaces := #[2]
  cf := some (fileOf pool3 8 #[] #[{ accessFlags := 1, nameIndex := 5, descriptorIndex := 6, attributes := #[] }] 1057 2 #[13] #[{ accessFlags := 26, nameIndex := 15, descriptorIndex := 16, attributes := #[] }])
  fields := #[{ name := "serialVersionUID", type := .long, accessFlags := 26, slot := 0, constantValue := 0 }]
  methods := #[k3m0]
  instanceTypes := #[]
  staticTypes := #[.long]
  resolved := Array.replicate 37 none
  statics := none }

def pool4 : Array CpInfo := pool [(1, .methodref 2 3), (0, .class_ 4), (0, .nameAndType 5 6), (0, u "java/lang/Number"), (0, u "<init>"), (0, u "()V"), (9, .fieldref 17 18), (0, .class_ 19), (0, .nameAndType 20 21), (0, u "com/example/fabius/fabius/retry/Unsigned"), (0, u "bits"), (0, u "I"), (0, .fieldref 17 23), (0, .nameAndType 24 25), (0, u "value"), (0, u "J"), (0, .methodref 17 27), (0, .nameAndType 5 28), (0, u "(IJ)V"), (10, u "serialVersionUID"), (6, u "ofByte"), (0, u "(I)Lcom/example/fabius/fabius/retry/Unsigned;"), (0, u "ofShort"), (2, u "()I"), (0, u "intValue"), (0, u "longValue"), (0, u "()J"), (2, u "doubleValue"), (0, u "()D"), (0, u "equals"), (0, u "(Ljava/lang/Object;)Z")] 18

def k4c0 : Code := { maxStack := 5, maxLocals := 4, code := prog_9_method_1_code, exceptionTable := #[], attributes := #[] }
def k4m0 : Method := { name := "<init>", desc := "(IJ)V", sig := { parameters := [.int, .long], returnType := none }, accessFlags := 2, code := some k4c0 }
def k4c1 : Code := { maxStack := 5, maxLocals := 1, code := prog_9_method_2_code, exceptionTable := #[], attributes := #[] }
def k4m1 : Method := { name := "ofByte", desc := "(I)Lcom/example/fabius/fabius/retry/Unsigned;", sig := { parameters := [.int], returnType := some (.object "com/example/fabius/fabius/retry/Unsigned") }, accessFlags := 9, code := some k4c1 }
def k4c2 : Code := { maxStack := 5, maxLocals := 1, code := prog_9_method_3_code, exceptionTable := #[], attributes := #[] }
def k4m2 : Method := { name := "ofShort", desc := "(I)Lcom/example/fabius/fabius/retry/Unsigned;", sig := { parameters := [.int], returnType := some (.object "com/example/fabius/fabius/retry/Unsigned") }, accessFlags := 9, code := some k4c2 }
def k4c3 : Code := { maxStack := 1, maxLocals := 1, code := prog_9_method_5_code, exceptionTable := #[], attributes := #[] }
def k4m3 : Method := { name := "bits", desc := "()I", sig := { parameters := [], returnType := some .int }, accessFlags := 1, code := some k4c3 }
def k4c4 : Code := { maxStack := 2, maxLocals := 1, code := prog_9_method_6_code, exceptionTable := #[], attributes := #[] }
def k4m4 : Method := { name := "intValue", desc := "()I", sig := { parameters := [], returnType := some .int }, accessFlags := 1, code := some k4c4 }
def k4c5 : Code := { maxStack := 2, maxLocals := 1, code := prog_9_method_7_code, exceptionTable := #[], attributes := #[] }
def k4m5 : Method := { name := "longValue", desc := "()J", sig := { parameters := [], returnType := some .long }, accessFlags := 1, code := some k4c5 }
def k4c6 : Code := { maxStack := 2, maxLocals := 1, code := prog_9_method_9_code, exceptionTable := #[], attributes := #[] }
def k4m6 : Method := { name := "doubleValue", desc := "()D", sig := { parameters := [], returnType := some .double }, accessFlags := 1, code := some k4c6 }
def k4c7 : Code := { maxStack := 4, maxLocals := 3, code := prog_9_method_10_code, exceptionTable := #[], attributes := #[] }
def k4m7 : Method := { name := "equals", desc := "(Ljava/lang/Object;)Z", sig := { parameters := [(.object "java/lang/Object")], returnType := some .boolean }, accessFlags := 1, code := some k4c7 }
/-- com/example/fabius/fabius/retry/Unsigned -/
def k4 : Class := { plain "com/example/fabius/fabius/retry/Unsigned" (some 3) with
  accessFlags := 49
  interfaces := #[]
  cf := some (fileOf pool4 17 #[] #[{ accessFlags := 2, nameIndex := 5, descriptorIndex := 28, attributes := #[] }, { accessFlags := 9, nameIndex := 46, descriptorIndex := 47, attributes := #[] }, { accessFlags := 9, nameIndex := 48, descriptorIndex := 47, attributes := #[] }, { accessFlags := 1, nameIndex := 20, descriptorIndex := 51, attributes := #[] }, { accessFlags := 1, nameIndex := 52, descriptorIndex := 51, attributes := #[] }, { accessFlags := 1, nameIndex := 53, descriptorIndex := 54, attributes := #[] }, { accessFlags := 1, nameIndex := 57, descriptorIndex := 58, attributes := #[] }, { accessFlags := 1, nameIndex := 59, descriptorIndex := 60, attributes := #[] }] 49 2 #[] #[{ accessFlags := 26, nameIndex := 39, descriptorIndex := 25, attributes := #[] }, { accessFlags := 18, nameIndex := 20, descriptorIndex := 21, attributes := #[] }, { accessFlags := 18, nameIndex := 24, descriptorIndex := 25, attributes := #[] }])
  fields := #[{ name := "serialVersionUID", type := .long, accessFlags := 26, slot := 0, constantValue := 0 }, { name := "bits", type := .int, accessFlags := 18, slot := 0, constantValue := 0 }, { name := "value", type := .long, accessFlags := 18, slot := 1, constantValue := 0 }]
  methods := #[k4m0, k4m1, k4m2, k4m3, k4m4, k4m5, k4m6, k4m7]
  instanceTypes := #[.int, .long]
  staticTypes := #[.long]
  resolved := Array.replicate 79 none
  statics := none }

def pool5 : Array CpInfo := pool [(1, u "java/lang/Cloneable"), (0, .class_ 1), (0, u "java/lang/Object"), (0, .class_ 3)] 3

/-- java/lang/Cloneable -/
def k5 : Class := { plain "java/lang/Cloneable" (some 0) with
  accessFlags := 1537
  interfaces := #[]
  cf := some (fileOf pool5 2 #[] #[] 1537 4 #[] #[])
  fields := #[]
  methods := #[]
  instanceTypes := #[]
  staticTypes := #[]
  resolved := Array.replicate 8 none
  statics := none }

/-- the primitive byte -/
def k6 : Class := { plain "byte" none with kind := .primitive 'B', accessFlags := 0x411 }
/-- [B -/
def k7 : Class := { plain "[B" (some 0) with kind := .array 6 .byte, interfaces := #[5, 2], accessFlags := 1041 }

/-- the primitive int -/
def k8 : Class := { plain "int" none with kind := .primitive 'I', accessFlags := 0x411 }
/-- [I -/
def k9 : Class := { plain "[I" (some 0) with kind := .array 8 .int, interfaces := #[5, 2], accessFlags := 1041 }

def heap : Heap := #[]
def classes : Array Class := #[k0, k1, k2, k3, k4, k5, k6, k7, k8, k9]
def interned : List (Array UInt16 × Addr) := []
def slotsUsed : Nat := 0
def theMethod : MethodId := ⟨1, 1⟩
def args0 : Array Value := #[.int 5, .int 5]
def aboutOver (below : List Frame) : State where
  vm := { classes := classes, interned := interned.toArray }
  heap := heap
  slotsUsed := slotsUsed
  threads := #[{ frames := .invoking theMethod args0 :: below }]
def below0 : List Frame := [.native { method := ⟨0, 0⟩, args := #[] }]
def about1 : State := aboutOver below0
def p0 : Program := .bare "" "" ""
def e0 : Env := launch0.env 0 0 0
theorem w_frames : about1.frames = Frame.invoking theMethod args0 :: below0 := rfl
set_option maxRecDepth 65536 in
theorem w_args : argsFit about1.vm theMethod args0 = true := by decide +kernel
set_option maxRecDepth 65536 in
theorem w_heap : heapFits about1 = true := by decide +kernel
set_option maxRecDepth 65536 in
theorem w_runnable : about1.curStatus? = some .runnable := by decide +kernel
set_option maxRecDepth 65536 in
theorem w_alone : about1.alone = true := by decide +kernel
set_option maxRecDepth 65536 in
theorem w_named : about1.methodNamed? x = some theMethod := by decide +kernel
set_option maxRecDepth 65536 in
theorem w_hears : about1.hears theMethod below0 = true := by decide +kernel
set_option maxRecDepth 65536 in
theorem w_ripe : about1.ripe theMethod args0 below0 = true := by decide +kernel
theorem w_running : about1.status = .running := rfl
set_option maxRecDepth 65536 in
theorem w_room : about1.hasRoom e0.platform room_1 = true :=
  launch0.hasRoom_least _ room_1 (by decide +kernel) (by decide +kernel) (by decide +kernel) (by decide +kernel) (by decide +kernel) (by decide +kernel)
theorem allAtoms_all (ts : List Jvm.Cond) (a : Array Jvm.Value) (st : Jvm.State) : (allAtoms ts).before a st = ts.all (fun c => c.before a st) := by
  induction ts with
  | nil => rfl
  | cons c t ih =>
    show (Jvm.Cond.and c (allAtoms t)).before a st = _
    rw [Jvm.Cond.before_and, ih, List.all_cons]
def words1 : List Jvm.Cond := Jvm.Cond.code x code maxLocals ret :: tables_1
/-- a 'code' word, met by the world's own term for the bytes: nothing is compared byte by byte -/
theorem code_word {y : MethodName} {bytes : ByteArray} {mx : Nat} {rt : Option FieldType} {a : Array Value} {s : State} {m : MethodId} {meth : Method} {c : Code} (h1 : s.methodNamed? y = some m) (h2 : s.vm.method? m = some meth) (h3 : meth.code = some c) (h4 : c.code = bytes)
    (h5 : (c.maxLocals == mx && c.exceptionTable.isEmpty && decide (c.maxStack ≤ mostOperands) && decide (meth.sig.returnType = rt) && !meth.locks && decide (parseMethodDescriptor y.desc = some meth.sig)) = true) : (Jvm.Cond.code y bytes mx rt).before a s = true := by
  simp only [Bool.and_eq_true, beq_iff_eq, Bool.not_eq_true', decide_eq_true_eq] at h5
  obtain ⟨⟨⟨⟨⟨g1, g2⟩, g3⟩, g4⟩, g5⟩, g6⟩ := h5
  simp [Cond.before, Cond.holds, Cond.value, h1, h2, h3, h4, g1, g2, g3, g4, g5, g6]
def isCode : Jvm.Cond → Bool
  | .code _ _ _ _ => true
  | _ => false
theorem all_split {L : List Jvm.Cond} {P : Jvm.Cond → Bool} (h1 : L.all (fun c => isCode c || P c) = true) (h2 : ∀ c ∈ L.filter isCode, P c = true) : L.all P = true := by
  refine List.all_eq_true.mpr fun c hc => ?_
  have h := List.all_eq_true.mp h1 c hc
  rcases Bool.eq_false_or_eq_true (isCode c) with hi | hi
  · exact h2 c (List.mem_filter.mpr ⟨hc, hi⟩)
  · simpa [hi] using h
set_option maxRecDepth 65536 in
theorem w_c0 : (Jvm.Cond.code x code maxLocals ret).before args0 about1 = true := code_word (m := ⟨1, 1⟩) (meth := k1m1) (c := k1c1) (by decide +kernel) rfl rfl rfl (by decide +kernel)
set_option maxRecDepth 65536 in
theorem w_c1 : (Jvm.Cond.code ({ cls := "com/example/fabius/fabius/retry/Unsigned", name := "ofByte", desc := "(I)Lcom/example/fabius/fabius/retry/Unsigned;" } : Jvm.MethodName) prog_9_method_2_code (1 : Nat) (Option.some (Jvm.ClassFile.FieldType.object "com/example/fabius/fabius/retry/Unsigned"))).before args0 about1 = true := code_word (m := ⟨4, 1⟩) (meth := k4m1) (c := k4c1) (by decide +kernel) rfl rfl rfl (by decide +kernel)
set_option maxRecDepth 65536 in
theorem w_c2 : (Jvm.Cond.code ({ cls := "com/example/fabius/fabius/retry/Unsigned", name := "<init>", desc := "(IJ)V" } : Jvm.MethodName) prog_9_method_1_code (4 : Nat) (Option.none : Option Jvm.ClassFile.FieldType)).before args0 about1 = true := code_word (m := ⟨4, 0⟩) (meth := k4m0) (c := k4c0) (by decide +kernel) rfl rfl rfl (by decide +kernel)
set_option maxRecDepth 65536 in
theorem w_c3 : (Jvm.Cond.code ({ cls := "java/lang/Number", name := "<init>", desc := "()V" } : Jvm.MethodName) jdk_18_method_1_code (1 : Nat) (Option.none : Option Jvm.ClassFile.FieldType)).before args0 about1 = true := code_word (m := ⟨3, 0⟩) (meth := k3m0) (c := k3c0) (by decide +kernel) rfl rfl rfl (by decide +kernel)
set_option maxRecDepth 65536 in
theorem w_c4 : (Jvm.Cond.code ({ cls := "java/lang/Object", name := "<init>", desc := "()V" } : Jvm.MethodName) object_method_1_code (1 : Nat) (Option.none : Option Jvm.ClassFile.FieldType)).before args0 about1 = true := code_word (m := ⟨0, 0⟩) (meth := k0m0) (c := k0c0) (by decide +kernel) rfl rfl rfl (by decide +kernel)
set_option maxRecDepth 65536 in
theorem w_c5 : (Jvm.Cond.code ({ cls := "com/example/fabius/fabius/retry/Unsigned", name := "ofShort", desc := "(I)Lcom/example/fabius/fabius/retry/Unsigned;" } : Jvm.MethodName) prog_9_method_3_code (1 : Nat) (Option.some (Jvm.ClassFile.FieldType.object "com/example/fabius/fabius/retry/Unsigned"))).before args0 about1 = true := code_word (m := ⟨4, 2⟩) (meth := k4m2) (c := k4c2) (by decide +kernel) rfl rfl rfl (by decide +kernel)
set_option maxRecDepth 65536 in
theorem w_c6 : (Jvm.Cond.code ({ cls := "com/example/fabius/fabius/retry/Unsigned", name := "bits", desc := "()I" } : Jvm.MethodName) prog_9_method_5_code (1 : Nat) (Option.some Jvm.ClassFile.FieldType.int)).before args0 about1 = true := code_word (m := ⟨4, 3⟩) (meth := k4m3) (c := k4c3) (by decide +kernel) rfl rfl rfl (by decide +kernel)
set_option maxRecDepth 65536 in
theorem w_c7 : (Jvm.Cond.code ({ cls := "com/example/fabius/fabius/retry/Unsigned", name := "longValue", desc := "()J" } : Jvm.MethodName) prog_9_method_7_code (1 : Nat) (Option.some Jvm.ClassFile.FieldType.long)).before args0 about1 = true := code_word (m := ⟨4, 5⟩) (meth := k4m5) (c := k4c5) (by decide +kernel) rfl rfl rfl (by decide +kernel)
set_option maxRecDepth 65536 in
theorem w_c8 : (Jvm.Cond.code ({ cls := "com/example/fabius/fabius/retry/Unsigned", name := "intValue", desc := "()I" } : Jvm.MethodName) prog_9_method_6_code (1 : Nat) (Option.some Jvm.ClassFile.FieldType.int)).before args0 about1 = true := code_word (m := ⟨4, 4⟩) (meth := k4m4) (c := k4c4) (by decide +kernel) rfl rfl rfl (by decide +kernel)
set_option maxRecDepth 65536 in
theorem w_c9 : (Jvm.Cond.code ({ cls := "com/example/fabius/fabius/retry/Unsigned", name := "doubleValue", desc := "()D" } : Jvm.MethodName) prog_9_method_9_code (1 : Nat) (Option.some Jvm.ClassFile.FieldType.double)).before args0 about1 = true := code_word (m := ⟨4, 6⟩) (meth := k4m6) (c := k4c6) (by decide +kernel) rfl rfl rfl (by decide +kernel)
set_option maxRecDepth 65536 in
theorem w_c10 : (Jvm.Cond.code ({ cls := "com/example/fabius/fabius/retry/Unsigned", name := "equals", desc := "(Ljava/lang/Object;)Z" } : Jvm.MethodName) prog_9_method_10_code (3 : Nat) (Option.some Jvm.ClassFile.FieldType.boolean)).before args0 about1 = true := code_word (m := ⟨4, 7⟩) (meth := k4m7) (c := k4c7) (by decide +kernel) rfl rfl rfl (by decide +kernel)
def codes1 : List Jvm.Cond := [Jvm.Cond.code x code maxLocals ret, Jvm.Cond.code ({ cls := "com/example/fabius/fabius/retry/Unsigned", name := "ofByte", desc := "(I)Lcom/example/fabius/fabius/retry/Unsigned;" } : Jvm.MethodName) prog_9_method_2_code (1 : Nat) (Option.some (Jvm.ClassFile.FieldType.object "com/example/fabius/fabius/retry/Unsigned")), Jvm.Cond.code ({ cls := "com/example/fabius/fabius/retry/Unsigned", name := "<init>", desc := "(IJ)V" } : Jvm.MethodName) prog_9_method_1_code (4 : Nat) (Option.none : Option Jvm.ClassFile.FieldType), Jvm.Cond.code ({ cls := "java/lang/Number", name := "<init>", desc := "()V" } : Jvm.MethodName) jdk_18_method_1_code (1 : Nat) (Option.none : Option Jvm.ClassFile.FieldType), Jvm.Cond.code ({ cls := "java/lang/Object", name := "<init>", desc := "()V" } : Jvm.MethodName) object_method_1_code (1 : Nat) (Option.none : Option Jvm.ClassFile.FieldType), Jvm.Cond.code ({ cls := "com/example/fabius/fabius/retry/Unsigned", name := "ofShort", desc := "(I)Lcom/example/fabius/fabius/retry/Unsigned;" } : Jvm.MethodName) prog_9_method_3_code (1 : Nat) (Option.some (Jvm.ClassFile.FieldType.object "com/example/fabius/fabius/retry/Unsigned")), Jvm.Cond.code ({ cls := "com/example/fabius/fabius/retry/Unsigned", name := "bits", desc := "()I" } : Jvm.MethodName) prog_9_method_5_code (1 : Nat) (Option.some Jvm.ClassFile.FieldType.int), Jvm.Cond.code ({ cls := "com/example/fabius/fabius/retry/Unsigned", name := "longValue", desc := "()J" } : Jvm.MethodName) prog_9_method_7_code (1 : Nat) (Option.some Jvm.ClassFile.FieldType.long), Jvm.Cond.code ({ cls := "com/example/fabius/fabius/retry/Unsigned", name := "intValue", desc := "()I" } : Jvm.MethodName) prog_9_method_6_code (1 : Nat) (Option.some Jvm.ClassFile.FieldType.int), Jvm.Cond.code ({ cls := "com/example/fabius/fabius/retry/Unsigned", name := "doubleValue", desc := "()D" } : Jvm.MethodName) prog_9_method_9_code (1 : Nat) (Option.some Jvm.ClassFile.FieldType.double), Jvm.Cond.code ({ cls := "com/example/fabius/fabius/retry/Unsigned", name := "equals", desc := "(Ljava/lang/Object;)Z" } : Jvm.MethodName) prog_9_method_10_code (3 : Nat) (Option.some Jvm.ClassFile.FieldType.boolean)]
set_option maxRecDepth 65536 in
theorem codes_eq : words1.filter isCode = codes1 := rfl
theorem w_codes : ∀ c ∈ words1.filter isCode, c.before args0 about1 = true := by
  rw [codes_eq]
  intro c hc
  simp only [codes1, List.mem_cons, List.not_mem_nil, or_false] at hc
  rcases hc with rfl | rfl | rfl | rfl | rfl | rfl | rfl | rfl | rfl | rfl | rfl
  · exact w_c0
  · exact w_c1
  · exact w_c2
  · exact w_c3
  · exact w_c4
  · exact w_c5
  · exact w_c6
  · exact w_c7
  · exact w_c8
  · exact w_c9
  · exact w_c10
set_option maxRecDepth 65536 in
theorem w_t1 : (words1.take 24).all (fun c => isCode c || c.before args0 about1) = true := by decide +kernel
set_option maxRecDepth 65536 in
theorem w_t2 : ((words1.drop 24).take 24).all (fun c => isCode c || c.before args0 about1) = true := by decide +kernel
set_option maxRecDepth 65536 in
theorem w_t3 : ((words1.drop 24).drop 24).all (fun c => isCode c || c.before args0 about1) = true := by decide +kernel
theorem w_tables : (allAtoms (Jvm.Cond.code x code maxLocals ret :: tables_1)).before args0 about1 = true := by
  rw [allAtoms_all]
  show words1.all (fun c => c.before args0 about1) = true
  refine all_split ?_ w_codes
  rw [← List.take_append_drop 24 words1, List.all_append, w_t1, ← List.take_append_drop 24 (words1.drop 24), List.all_append, w_t2, w_t3]
  rfl
set_option maxRecDepth 65536 in
theorem w_case : (Jvm.Cond.and given_1 narrow_1).before args0 about1 = true := by decide +kernel
theorem w_applies : (headSpec (Jvm.Cond.code x code maxLocals ret :: tables_1) room_1).applies x e0.platform about1 = true :=
  (Spec.applies_iff w_frames).mpr ⟨w_running, w_runnable, w_alone, w_named, w_hears, w_ripe, w_room, w_tables⟩
theorem atStart : AtStart classFile x code maxLocals ret World_1 tables_1 room_1 Calls_1 rest_1 Pre_1 launch0 p0 e0 about1 theMethod args0 below0 :=
  ⟨lists_1, trivial, launch0.admits_env _ _ _, launch0.least_env, fairChoices_fair.cas, fairChoices_fair.clock, w_frames, w_args, w_heap, w_applies, trivial, trivial, w_case⟩
end start1
theorem witness_1 : WitnessClaimed_1 := ⟨start1.p0, start1.e0, start1.about1, start1.theMethod, start1.args0, start1.below0, start1.atStart⟩
end Jvm.Pilot.@@N@@
