import JvmDerived
import JvmDerived.Pilot.@@N@@Statement
import JvmDerived.Pilot.@@N@@Code
set_option linter.unusedVariables false
set_option linter.unusedSimpArgs false
@@BLOCK:NumsL.lean.txt@@
namespace Jvm.Pilot.@@N@@
open Jvm Jvm.ClassFile Sem Op Lib Jvm.Free Jvm.Stand Jvm.LawKit Jvm.RoadKit Bundle Jvm.Pilot.@@N@@.Jvm.D
section OwnKit
theorem own_w {Z : State} {a0 : Array Value} (hw : ∀ d ∈ tables_1, d.before a0 Z = true) {d : Jvm.Cond} (i : Nat) (h : tables_1[i]? = some d) : d.before a0 Z = true := hw d (List.mem_of_getElem? h)
theorem own_narb (x : Int32) : nar .byte (x.toInt8.toInt32) = x.toInt8.toInt32 := by
  show (x.toInt8.toInt32).toInt8.toInt32 = x.toInt8.toInt32
  rw [Int8.toInt8_toInt32]
theorem own_narc (x : Int32) : nar .char (x.toUInt32.toUInt16.toUInt32.toInt32) = x.toUInt32.toUInt16.toUInt32.toInt32 := by
  show (x.toUInt32.toUInt16.toUInt32.toInt32).toUInt32.toUInt16.toUInt32.toInt32 = _
  have : (x.toUInt32.toUInt16.toUInt32.toInt32).toUInt32 = x.toUInt32.toUInt16.toUInt32 := rfl
  rw [this]
  have : x.toUInt32.toUInt16.toUInt32.toUInt16 = x.toUInt32.toUInt16 := by rw [← UInt16.toNat_inj]; simp
  rw [this]
theorem own_plain {Z : State} {h : Heap} {a : Addr} {C : String} (F : Exa Z h a C) : ∃ c : Cell, h[a]? = some c ∧ c.vm.isStatics = false := by
  obtain ⟨c, _, h1, -, -, h4, -⟩ := F; exact ⟨c, h1, h4⟩
theorem own_plainV {Z : State} {h : Heap} {a : Addr} {k : ClassId} {ty : FieldType} {z : Int32} {vs : List Value} {d : Value} (F : Arv Z h a k ty z vs d) : ∃ c : Cell, h[a]? = some c ∧ c.vm.isStatics = false := by
  obtain ⟨c, A, -⟩ := F; exact ⟨c, A.1, A.plain⟩
theorem own_Sta_keep {Z : State} {h h' : Heap} {C n d : String} {v : Value} {ws : List Addr} (F : Sta Z h C n d v) (K : Keep h h' ws) (q : ∀ a ∈ ws, ∃ c : Cell, h[a]? = some c ∧ c.vm.isStatics = false) : Sta Z h' C n d v := by
  obtain ⟨cf, i, k, f, st, cell, h1, h2, h3, h4, h5, h6, h7⟩ := F
  have ne : st ∉ ws := fun hm => by
    obtain ⟨c, g1, g2⟩ := q st hm
    cases h5.symm.trans g1
    rw [h6] at g2; cases g2
  exact ⟨cf, i, k, f, st, cell, h1, h2, h3, h4, K.2.1 _ _ h5 ne, h6, h7⟩
theorem own_NSroot {Z : State} {a0 : Array Value} {O K : String} {j : Nat} (w : (Cond.noSuperclass O).before a0 Z = true) (wk : (Cond.instantiable K j).before a0 Z = true) (hn : O ≠ K) : NS Z O K := by
  obtain ⟨c, k, h1, h2, h3, -⟩ := Cond.noSuperclass_spec w
  obtain ⟨t, kt, g1, -⟩ := Cond.instantiable_spec wk
  refine ⟨c, t, h1, g1, fun fuel => ?_⟩
  cases fuel with
  | zero => rfl
  | succ f => simp [Vm.isSubclassAux, ids_ne h1 g1 hn, h2, h3]
theorem own_NSno {Z : State} {a0 : Array Value} {C S K : String} {j : Nat} (w : (Cond.superclass C S).before a0 Z = true) (wk : (Cond.instantiable K j).before a0 Z = true) (q : NS Z C K) (hn : C ≠ K) : ∃ c t, Z.vm.findClass C = some c ∧ Z.vm.findClass K = some t ∧ Z.vm.assignable c t = false := by
  obtain ⟨c, t, h0, g0, n3⟩ := q
  obtain ⟨_, k, _, _, h2, _, _, h5, -⟩ := Cond.superclass_spec h0 w
  obtain ⟨t', kt, g1, g2, g5, g7, -⟩ := Cond.instantiable_spec wk
  cases g0.symm.trans g1
  have g8 : kt.isInterface = false := by simpa using (Bool.or_eq_false_iff.mp g7).1
  refine ⟨c, t, h0, g0, ?_⟩
  show Z.vm.assignableAux (255 + 1) c t = false
  simp [Vm.assignableAux, ids_ne h0 g0 hn, h2, g2, h5, g5, g8, Vm.isSubclass, n3]
def own_b (P : Prop) [Decidable P] : Int32 := if P then 1 else 0
theorem own_b1 {P : Prop} [Decidable P] (h : P) : own_b P = 1 := if_pos h
theorem own_b0 {P : Prop} [Decidable P] (h : ¬ P) : own_b P = 0 := if_neg h
variable {p : Program} {l : Launch} {e : Env} {R : Room} {s : State} {m : MethodId} {args : Array Value} {below : List Frame} {meth : Method} {c : Code} {T : State} {locs : List Loc} {cells slots : Nat}
def own_Fin (p : Program) (e : Env) (below : List Frame) (s : State) (Q : Option Value → Heap → List Loc → Prop) (k n : Nat) (A : State) : Prop := ∃ s₂ o, Steps p.tables e below A s₂ ∧ s₂.status = .running ∧ Ended s₂ below o ∧ ∃ v L, o = .returned v ∧ Q v s₂.heap L ∧ FrameEnd s o s₂ L k n
theorem own_go {Q : Option Value → Heap → List Loc → Prop} {k n : Nat} {A B : State} (h : ∀ t, Steps p.tables e below B t → Steps p.tables e below A t) (q : own_Fin p e below s Q k n B) : own_Fin p e below s Q k n A := by
  obtain ⟨s₂, o, h1, h2⟩ := q
  exact ⟨s₂, o, h _ h1, h2⟩
theorem own_retN {Q : Option Value → Heap → List Loc → Prop} {k n : Nat} (X : Stand p l e R s m args below meth c T locs cells slots) (hx : p.tables.exec = Jvm.exec) (hlk : meth.locks = false) {pc : Nat} {Ls : Array Slot} {z w : Int32} {t : FieldType} {rest : List Value} (hret : meth.sig.returnType = some t) (ht : t = .boolean ∨ t = .byte ∨ t = .char ∨ t = .short)
    (hd : decode c.code pc = .ok (.ireturn, 1)) {h : Heap} (eT : T.heap = h) (hz : nar t z = w) (hQ : Q (some (.int w)) h locs) (hk : cells ≤ k) (hn : slots ≤ n) : own_Fin p e below s Q k n (T.setTop (mkF m pc Ls (.int z :: rest))) := by
  subst hz eT
  obtain ⟨fs, hr, hrun, hended, hW, hsame⟩ := X.leave (v := some (.int (nar t z))) (fun h => by rw [hret] at h; cases h) hlk
  exact ⟨_, _, retN X hx hret ht hd hr, hrun, hended, _, _, rfl, hQ, ⟨_, rfl⟩, hW, hsame.mono hk hn⟩
theorem own_retI {Q : Option Value → Heap → List Loc → Prop} {k n : Nat} (X : Stand p l e R s m args below meth c T locs cells slots) (hx : p.tables.exec = Jvm.exec) (hlk : meth.locks = false) {pc : Nat} {Ls : Array Slot} {z : Int32} {rest : List Value} (hret : meth.sig.returnType = some .int)
    (hd : decode c.code pc = .ok (.ireturn, 1)) {h : Heap} (eT : T.heap = h) (hQ : Q (some (.int z)) h locs) (hk : cells ≤ k) (hn : slots ≤ n) : own_Fin p e below s Q k n (T.setTop (mkF m pc Ls (.int z :: rest))) := by
  subst eT
  obtain ⟨fs, hr, hrun, hended, hW, hsame⟩ := X.leave (v := some (.int z)) (fun h => by rw [hret] at h; cases h) hlk
  exact ⟨_, _, retOut X hx hret rfl (Or.inl ⟨rfl, Or.inl rfl, z, rfl⟩) hd hr, hrun, hended, _, _, rfl, hQ, ⟨_, rfl⟩, hW, hsame.mono hk hn⟩
theorem own_retJ {Q : Option Value → Heap → List Loc → Prop} {k n : Nat} (X : Stand p l e R s m args below meth c T locs cells slots) (hx : p.tables.exec = Jvm.exec) (hlk : meth.locks = false) {pc : Nat} {Ls : Array Slot} {z : Int64} {rest : List Value} (hret : meth.sig.returnType = some .long)
    (hd : decode c.code pc = .ok (.lreturn, 1)) {h : Heap} (eT : T.heap = h) (hQ : Q (some (.long z)) h locs) (hk : cells ≤ k) (hn : slots ≤ n) : own_Fin p e below s Q k n (T.setTop (mkF m pc Ls (.long z :: rest))) := by
  subst eT
  obtain ⟨fs, hr, hrun, hended, hW, hsame⟩ := X.leave (v := some (.long z)) (fun h => by rw [hret] at h; cases h) hlk
  exact ⟨_, _, retOut X hx hret rfl (Or.inr (Or.inl ⟨rfl, rfl, z, rfl⟩)) hd hr, hrun, hended, _, _, rfl, hQ, ⟨_, rfl⟩, hW, hsame.mono hk hn⟩
theorem own_retD {Q : Option Value → Heap → List Loc → Prop} {k n : Nat} (X : Stand p l e R s m args below meth c T locs cells slots) (hx : p.tables.exec = Jvm.exec) (hlk : meth.locks = false) {pc : Nat} {Ls : Array Slot} {z : UInt64} {rest : List Value} (hret : meth.sig.returnType = some .double)
    (hd : decode c.code pc = .ok (.dreturn, 1)) {h : Heap} (eT : T.heap = h) (hQ : Q (some (.double z)) h locs) (hk : cells ≤ k) (hn : slots ≤ n) : own_Fin p e below s Q k n (T.setTop (mkF m pc Ls (.double z :: rest))) := by
  subst eT
  obtain ⟨fs, hr, hrun, hended, hW, hsame⟩ := X.leave (v := some (.double z)) (fun h => by rw [hret] at h; cases h) hlk
  exact ⟨_, _, retOut X hx hret rfl (Or.inr (Or.inr (Or.inl ⟨rfl, rfl, z, rfl⟩))) hd hr, hrun, hended, _, _, rfl, hQ, ⟨_, rfl⟩, hW, hsame.mono hk hn⟩
theorem own_retA {Q : Option Value → Heap → List Loc → Prop} {k n : Nat} (X : Stand p l e R s m args below meth c T locs cells slots) (hx : p.tables.exec = Jvm.exec) (hlk : meth.locks = false) {pc : Nat} {Ls : Array Slot} {w : Value} {t : FieldType} {rest : List Value} (hret : meth.sig.returnType = some t) (ht : t.isReference = true) (hw : w.isRef = true)
    (hd : decode c.code pc = .ok (.areturn, 1)) {h : Heap} (eT : T.heap = h) (hQ : Q (some w) h locs) (hk : cells ≤ k) (hn : slots ≤ n) : own_Fin p e below s Q k n (T.setTop (mkF m pc Ls (w :: rest))) := by
  subst eT
  obtain ⟨fs, hr, hrun, hended, hW, hsame⟩ := X.leave (v := some w) (fun h => by rw [hret] at h; cases h) hlk
  have hnw : narrow t w = w := by
    rcases ref_cases hw with rfl | ⟨z, rfl⟩ <;> cases t <;> first | rfl | (cases ht; done)
  exact ⟨_, _, retOut X hx hret hnw (Or.inr (Or.inr (Or.inr (Or.inr ⟨rfl, ht, hw⟩)))) hd hr, hrun, hended, _, _, rfl, hQ, ⟨_, rfl⟩, hW, hsame.mono hk hn⟩
theorem own_retV {Q : Option Value → Heap → List Loc → Prop} {k n : Nat} (X : Stand p l e R s m args below meth c T locs cells slots) (hx : p.tables.exec = Jvm.exec) (hlk : meth.locks = false) {pc : Nat} {Ls : Array Slot} (hret : meth.sig.returnType = none)
    (hd : decode c.code pc = .ok (.return_, 1)) {h : Heap} (eT : T.heap = h) (hQ : Q none h locs) (hk : cells ≤ k) (hn : slots ≤ n) : own_Fin p e below s Q k n (T.setTop (mkF m pc Ls [])) := by
  subst eT
  obtain ⟨fs, hr, hrun, hended, hW, hsame⟩ := X.leave (v := none) (fun _ => rfl) hlk
  exact ⟨_, _, X.returnOut hx hret hd hr, hrun, hended, _, _, rfl, hQ, ⟨_, rfl⟩, hW, hsame.mono hk hn⟩
end OwnKit
section OwnNums
theorem own_iushr (x : Int32) {n : UInt32} {k : Nat} (hn : n.toNat = k) (h0 : 0 < k) (hk : k < 32) : ((x.toUInt32 >>> n).toInt32).toInt = (x.toInt % 4294967296) / 2 ^ k := by
  have e2 : ((x.toUInt32 >>> n).toInt32).toBitVec.toNat = x.toBitVec.toNat / 2 ^ k := by
    simp only [UInt32.toBitVec_toInt32, UInt32.toBitVec_shiftRight, Int32.toBitVec_toUInt32]
    simp [BitVec.toNat_ushiftRight, Nat.shiftRight_eq_div_pow, hn, Nat.mod_eq_of_lt hk]
  have hb := x.toBitVec.isLt
  have hp : 2 ^ 1 ≤ 2 ^ k := Nat.pow_le_pow_right (by decide) h0
  have hle : x.toBitVec.toNat / 2 ^ k ≤ x.toBitVec.toNat / 2 ^ 1 := Nat.div_le_div_left hp (by decide)
  have e3 : ((x.toUInt32 >>> n).toInt32).toInt = ((x.toBitVec.toNat / 2 ^ k : Nat) : Int) := by
    have : ((x.toUInt32 >>> n).toInt32).toInt = ((x.toUInt32 >>> n).toInt32).toBitVec.toInt := rfl
    rw [this, BitVec.toInt_eq_toNat_cond, e2, if_pos (by omega)]
  have e4 : x.toInt % 4294967296 = (x.toBitVec.toNat : Int) := by
    have : x.toInt = x.toBitVec.toInt := rfl
    rw [this, BitVec.toInt_eq_toNat_cond]
    split <;> omega
  rw [e3, e4, Int.natCast_ediv, Int.natCast_pow]
  rfl
theorem own_lushr (x : Int64) {n : UInt64} {k : Nat} (hn : n.toNat = k) (h0 : 0 < k) (hk : k < 64) : ((x.toUInt64 >>> n).toInt64).toInt = (x.toInt % 18446744073709551616) / 2 ^ k := by
  have e2 : ((x.toUInt64 >>> n).toInt64).toBitVec.toNat = x.toBitVec.toNat / 2 ^ k := by
    simp only [UInt64.toBitVec_toInt64, UInt64.toBitVec_shiftRight, Int64.toBitVec_toUInt64]
    simp [BitVec.toNat_ushiftRight, Nat.shiftRight_eq_div_pow, hn, Nat.mod_eq_of_lt hk]
  have hb := x.toBitVec.isLt
  have hp : 2 ^ 1 ≤ 2 ^ k := Nat.pow_le_pow_right (by decide) h0
  have hle : x.toBitVec.toNat / 2 ^ k ≤ x.toBitVec.toNat / 2 ^ 1 := Nat.div_le_div_left hp (by decide)
  have e3 : ((x.toUInt64 >>> n).toInt64).toInt = ((x.toBitVec.toNat / 2 ^ k : Nat) : Int) := by
    have : ((x.toUInt64 >>> n).toInt64).toInt = ((x.toUInt64 >>> n).toInt64).toBitVec.toInt := rfl
    rw [this, BitVec.toInt_eq_toNat_cond, e2, if_pos (by omega)]
  have e4 : x.toInt % 18446744073709551616 = (x.toBitVec.toNat : Int) := by
    have : x.toInt = x.toBitVec.toInt := rfl
    rw [this, BitVec.toInt_eq_toNat_cond]
    split <;> omega
  rw [e3, e4, Int.natCast_ediv, Int.natCast_pow]
  rfl
theorem own_l2i (x : Int64) : (x.toInt32.toInt - x.toInt) % 4294967296 = 0 := by rw [Int64.toInt_toInt32]; exact bm32 _
theorem own_div32 {x y : Int32} (hx : 0 ≤ x.toInt) (hy : 0 < y.toInt) : (x / y).toInt = x.toInt / y.toInt := by
  rw [Jvm.Kit.i32_div (by omega), Int.tdiv_eq_ediv_of_nonneg hx]
theorem own_div64 {x y : Int64} (hx : 0 ≤ x.toInt) (hy : 0 < y.toInt) : (x / y).toInt = x.toInt / y.toInt := by
  rw [Jvm.Kit.i64_div (by omega), Int.tdiv_eq_ediv_of_nonneg hx]
theorem own_i2c (x : Int32) : (x.toUInt32.toUInt16.toUInt32.toInt32).toInt = x.toInt % 65536 := by
  have e2 : (x.toUInt32.toUInt16.toUInt32.toInt32).toBitVec.toNat = x.toBitVec.toNat % 65536 := by
    show (x.toUInt32.toUInt16.toUInt32).toNat = _
    simp
    rfl
  have hb := x.toBitVec.isLt
  have e3 : (x.toUInt32.toUInt16.toUInt32.toInt32).toInt = (x.toUInt32.toUInt16.toUInt32.toInt32).toBitVec.toInt := rfl
  have e4 : x.toInt = x.toBitVec.toInt := rfl
  rw [e3, e4, BitVec.toInt_eq_toNat_cond, BitVec.toInt_eq_toNat_cond, e2]
  split <;> split <;> omega
theorem own_i2b (x : Int32) : ((x.toInt8.toInt32).toInt - x.toInt) % 256 = 0 ∧ -128 ≤ (x.toInt8.toInt32).toInt ∧ (x.toInt8.toInt32).toInt < 128 := by
  have h1 : (x.toInt8.toInt32).toInt = x.toInt8.toInt := Int8.toInt_toInt32 _
  have h2 := x.toInt8.toInt_lt; have h3 := x.toInt8.le_toInt
  have h4 : x.toInt8.toInt = x.toInt.bmod 256 := Int32.toInt_toInt8 x
  have h5 := Int.bmod_emod (x := x.toInt) (m := 256)
  rw [h1]; omega
end OwnNums
theorem own_pd0 : parseMethodDescriptor "(I)Z" = some ⟨[.int], some .boolean⟩ := by decide +kernel
abbrev R_own_rm2 : Room := { frames := 0, cells := 0, slots := 0, locals := 0 }
theorem d2_0 : decode jdk_89_method_89_code 0 = .ok (.iload_n 0, 1) := by decide +kernel
theorem d2_1 : decode jdk_89_method_89_code 1 = .ok (.sipush 159, 3) := by decide +kernel
theorem d2_4 : decode jdk_89_method_89_code 4 = .ok (.if_icmp .gt 19, 3) := by decide +kernel
theorem d2_7 : decode jdk_89_method_89_code 7 = .ok (.iload_n 0, 1) := by decide +kernel
theorem d2_8 : decode jdk_89_method_89_code 8 = .ok (.bipush 127, 2) := by decide +kernel
theorem d2_10 : decode jdk_89_method_89_code 10 = .ok (.if_icmp .ge 9, 3) := by decide +kernel
theorem d2_13 : decode jdk_89_method_89_code 13 = .ok (.iload_n 0, 1) := by decide +kernel
theorem d2_14 : decode jdk_89_method_89_code 14 = .ok (.iconst 5, 1) := by decide +kernel
theorem d2_15 : decode jdk_89_method_89_code 15 = .ok (.iushr, 1) := by decide +kernel
theorem d2_16 : decode jdk_89_method_89_code 16 = .ok (.ifCond .ne 7, 3) := by decide +kernel
theorem d2_19 : decode jdk_89_method_89_code 19 = .ok (.iconst 1, 1) := by decide +kernel
theorem d2_20 : decode jdk_89_method_89_code 20 = .ok (.goto 4, 3) := by decide +kernel
theorem d2_23 : decode jdk_89_method_89_code 23 = .ok (.iconst 0, 1) := by decide +kernel
theorem d2_24 : decode jdk_89_method_89_code 24 = .ok (.ireturn, 1) := by decide +kernel
theorem own_pn0 : plainName "java/lang/Character" = true := by first | (simp [plainName, overriddenIn]; done) | decide +kernel
theorem ef_own_rm2 (m : MethodId) (x0 : Int32) : entryFrame m #[(.int x0)] 1 = mkF m 0 #[.val (.int x0)] [] := by first | (simp [entryFrame, mkF, argsToLocals, Value.category]; done) | rfl
set_option maxHeartbeats 2000000 in
theorem own_pl_rm2_1 (p1 : Int32) (hc1 : (159 : Int32) < p1) : ¬ ((0 ≤ p1.toInt ∧ p1.toInt ≤ 31) ∨ (127 ≤ p1.toInt ∧ p1.toInt ≤ 159)) := by
  have : (159 : Int32).toInt = 159 := by decide
  have := rng32 p1
  try simp only [Int32.lt_iff_toInt_lt, Int32.le_iff_toInt_le, Int64.lt_iff_toInt_lt, Int64.le_iff_toInt_le, ← Int32.toInt_inj, ← Int64.toInt_inj] at *
  all_goals omega
set_option maxHeartbeats 2000000 in
theorem own_pl_rm2_2 (p1 : Int32) (hc1 : ¬ ((159 : Int32) < p1)) (hc2 : p1 < (127 : Int32)) (hc3 : ((p1.toUInt32 >>> ((5 : Int32) &&& 31).toUInt32).toInt32) = (0 : Int32)) : (0 ≤ p1.toInt ∧ p1.toInt ≤ 31) ∨ (127 ≤ p1.toInt ∧ p1.toInt ≤ 159) := by
  have : (0 : Int32).toInt = 0 := by decide
  have : (5 : Int32).toInt = 5 := by decide
  have : (127 : Int32).toInt = 127 := by decide
  have : (159 : Int32).toInt = 159 := by decide
  have := rng32 p1
  have := rng32 ((p1.toUInt32 >>> ((5 : Int32) &&& 31).toUInt32).toInt32)
  have := own_iushr p1 (n := ((5 : Int32) &&& 31).toUInt32) (k := 5) (by decide) (by decide) (by decide)
  try simp only [Int32.lt_iff_toInt_lt, Int32.le_iff_toInt_le, Int64.lt_iff_toInt_lt, Int64.le_iff_toInt_le, ← Int32.toInt_inj, ← Int64.toInt_inj] at *
  all_goals omega
set_option maxHeartbeats 2000000 in
theorem own_pl_rm2_3 (p1 : Int32) (hc1 : ¬ ((159 : Int32) < p1)) (hc2 : p1 < (127 : Int32)) (hc3 : ¬ (((p1.toUInt32 >>> ((5 : Int32) &&& 31).toUInt32).toInt32) = (0 : Int32))) : ¬ ((0 ≤ p1.toInt ∧ p1.toInt ≤ 31) ∨ (127 ≤ p1.toInt ∧ p1.toInt ≤ 159)) := by
  have : (0 : Int32).toInt = 0 := by decide
  have : (5 : Int32).toInt = 5 := by decide
  have : (127 : Int32).toInt = 127 := by decide
  have : (159 : Int32).toInt = 159 := by decide
  have := rng32 p1
  have := rng32 ((p1.toUInt32 >>> ((5 : Int32) &&& 31).toUInt32).toInt32)
  have := own_iushr p1 (n := ((5 : Int32) &&& 31).toUInt32) (k := 5) (by decide) (by decide) (by decide)
  try simp only [Int32.lt_iff_toInt_lt, Int32.le_iff_toInt_le, Int64.lt_iff_toInt_lt, Int64.le_iff_toInt_le, ← Int32.toInt_inj, ← Int64.toInt_inj] at *
  all_goals omega
set_option maxHeartbeats 2000000 in
theorem own_pl_rm2_4 (p1 : Int32) (hc1 : ¬ ((159 : Int32) < p1)) (hc2 : ¬ (p1 < (127 : Int32))) : (0 ≤ p1.toInt ∧ p1.toInt ≤ 31) ∨ (127 ≤ p1.toInt ∧ p1.toInt ≤ 159) := by
  have : (127 : Int32).toInt = 127 := by decide
  have : (159 : Int32).toInt = 159 := by decide
  have := rng32 p1
  try simp only [Int32.lt_iff_toInt_lt, Int32.le_iff_toInt_le, Int64.lt_iff_toInt_lt, Int64.le_iff_toInt_le, ← Int32.toInt_inj, ← Int64.toInt_inj] at *
  all_goals omega
def Q_own_rm2 (Z : State) (p1 : Int32) (h0 : Heap) (n0 : Nat) (v : Option Value) (h : Heap) (L : List Loc) : Prop := v = some (.int (own_b ((0 ≤ p1.toInt ∧ p1.toInt ≤ 31) ∨ (127 ≤ p1.toInt ∧ p1.toInt ≤ 159)))) ∧ Fr n0 L ∧ h = h0
set_option maxRecDepth 65536 in
set_option maxHeartbeats 400000000 in
theorem own_rm2 (l : Launch) (Z : State) (a0 : Array Value) (hw : ∀ d ∈ tables_1, d.before a0 Z = true) (ws : List Jvm.Cond) (p1 : Int32) (h0 : Heap) (n0 : Nat) (Z0 : n0 ≤ h0.size)  :
    MetFree l (⟨"java/lang/Character", "isISOControl", "(I)Z"⟩ : MethodName) (head1 (Jvm.Cond.code (⟨"java/lang/Character", "isISOControl", "(I)Z"⟩ : MethodName) jdk_89_method_89_code 1 (some .boolean) :: ws) R_own_rm2) (fun a U => a = #[(.int p1)] ∧ Z.Warmed39 U.vm ∧ U.heap = h0) (fun _ _ _ _ _ => True) (fun _ U o U' => ∃ v L, o = .returned v ∧ Q_own_rm2 Z p1 h0 n0 v U'.heap L ∧ FrameEnd U o U' L R_own_rm2.cells R_own_rm2.slots) := by
  refine MetFree.of_bodySF (plainFor_of_name own_pn0) hisR ?_
  intro p e s m args below meth c s₁ Bd hml0 hP hK
  obtain ⟨rfl, hZ, hh⟩ := hP
  have hx := Bd.exec
  have hby := Bd.bytes
  have hml : c.maxLocals = 1 := hml0
  have hown : s.vm.findClass "java/lang/Character" = some m.cls := findClass_of_methodNamed Bd.named
  have hnm := (name_of_methodNamed Bd.named Bd.method).1
  have X0 : Stand p l e R_own_rm2 s m #[(.int p1)] below meth c s₁ [] 0 0 := Stand.of_body Bd
  have e0 : s₁.heap = h0 := by rw [← hh, Bd.state]; rfl
  have N0 := Fr.nil n0
  have K0 : Keep h0 h0 [] := Keep.refl h0 []
  show own_Fin p e below s (Q_own_rm2 Z p1 h0 n0) R_own_rm2.cells R_own_rm2.slots (s₁.setTop (entryFrame m #[(.int p1)] 1))
  refine own_go (fun _ k => castTop (ef_own_rm2 m p1) k) ?_
  show own_Fin _ _ _ _ _ _ _ (s₁.setTop (mkF m 0 #[.val (.int p1)] []))
  refine own_go (B := s₁.setTop (mkF m 1 #[.val (.int p1)] [(.int p1)])) (fun _ k => XS.iloadN X0.here hx rfl (hb hby d2_0) rfl  k) ?_
  refine own_go (B := s₁.setTop (mkF m 4 #[.val (.int p1)] [(.int (159 : Int32)), (.int p1)])) (fun _ k => XS.sipush X0.here hx rfl (hb hby d2_1) k) ?_
  by_cases hc1 : (159 : Int32) < p1
  · skip
    refine own_go (B := s₁.setTop (mkF m 23 #[.val (.int p1)] [])) (fun _ k => XS.icmpYes X0.here hx rfl (pc0 := 4) (pc' := 23) rfl (hb hby d2_4) rfl (tlt hc1).2.2.1 (by decide) (by decide) k) ?_
    refine own_go (B := s₁.setTop (mkF m 24 #[.val (.int p1)] [(.int (0 : Int32))])) (fun _ k => XS.iconst X0.here hx rfl (hb hby d2_23) k) ?_
    exact own_retN X0 hx Bd.notSynchronized (t := .boolean) (w := (0 : Int32)) Bd.returns (by simp) (hb hby d2_24) e0 rfl ⟨(by rw [own_b0 (own_pl_rm2_1 p1 hc1)]), N0, rfl⟩ (by decide) (by decide)
  · skip
    refine own_go (B := s₁.setTop (mkF m 7 #[.val (.int p1)] [])) (fun _ k => XS.icmpNo X0.here hx rfl (hb hby d2_4) rfl (flt hc1).2.2.1 k) ?_
    refine own_go (B := s₁.setTop (mkF m 8 #[.val (.int p1)] [(.int p1)])) (fun _ k => XS.iloadN X0.here hx rfl (hb hby d2_7) rfl  k) ?_
    refine own_go (B := s₁.setTop (mkF m 10 #[.val (.int p1)] [(.int (127 : Int32)), (.int p1)])) (fun _ k => XS.bipush X0.here hx rfl (hb hby d2_8) k) ?_
    by_cases hc2 : p1 < (127 : Int32)
    · skip
      refine own_go (B := s₁.setTop (mkF m 13 #[.val (.int p1)] [])) (fun _ k => XS.icmpNo X0.here hx rfl (hb hby d2_10) rfl (tlt hc2).2.1 k) ?_
      refine own_go (B := s₁.setTop (mkF m 14 #[.val (.int p1)] [(.int p1)])) (fun _ k => XS.iloadN X0.here hx rfl (hb hby d2_13) rfl  k) ?_
      refine own_go (B := s₁.setTop (mkF m 15 #[.val (.int p1)] [(.int (5 : Int32)), (.int p1)])) (fun _ k => XS.iconst X0.here hx rfl (hb hby d2_14) k) ?_
      refine own_go (B := s₁.setTop (mkF m 16 #[.val (.int p1)] [(.int ((p1.toUInt32 >>> ((5 : Int32) &&& 31).toUInt32).toInt32))])) (fun _ k => XS.iushr X0.here hx rfl (hb hby d2_15) rfl k) ?_
      by_cases hc3 : ((p1.toUInt32 >>> ((5 : Int32) &&& 31).toUInt32).toInt32) = (0 : Int32)
      · skip
        refine own_go (B := s₁.setTop (mkF m 19 #[.val (.int p1)] [])) (fun _ k => XS.ifNo X0.here hx rfl (hb hby d2_16) rfl ((if0 _ _).trans (teq hc3).2) k) ?_
        refine own_go (B := s₁.setTop (mkF m 20 #[.val (.int p1)] [(.int (1 : Int32))])) (fun _ k => XS.iconst X0.here hx rfl (hb hby d2_19) k) ?_
        refine own_go (B := s₁.setTop (mkF m 24 #[.val (.int p1)] [(.int (1 : Int32))])) (fun _ k => XS.goto X0.here hx rfl (pc0 := 20) (pc' := 24) rfl (hb hby d2_20) (by decide) (by decide) k) ?_
        exact own_retN X0 hx Bd.notSynchronized (t := .boolean) (w := (1 : Int32)) Bd.returns (by simp) (hb hby d2_24) e0 rfl ⟨(by rw [own_b1 (own_pl_rm2_2 p1 hc1 hc2 hc3)]), N0, rfl⟩ (by decide) (by decide)
      · skip
        refine own_go (B := s₁.setTop (mkF m 23 #[.val (.int p1)] [])) (fun _ k => XS.ifYes X0.here hx rfl (pc0 := 16) (pc' := 23) rfl (hb hby d2_16) rfl ((if0 _ _).trans (feq hc3).2) (by decide) (by decide) k) ?_
        refine own_go (B := s₁.setTop (mkF m 24 #[.val (.int p1)] [(.int (0 : Int32))])) (fun _ k => XS.iconst X0.here hx rfl (hb hby d2_23) k) ?_
        exact own_retN X0 hx Bd.notSynchronized (t := .boolean) (w := (0 : Int32)) Bd.returns (by simp) (hb hby d2_24) e0 rfl ⟨(by rw [own_b0 (own_pl_rm2_3 p1 hc1 hc2 hc3)]), N0, rfl⟩ (by decide) (by decide)
    · skip
      refine own_go (B := s₁.setTop (mkF m 19 #[.val (.int p1)] [])) (fun _ k => XS.icmpYes X0.here hx rfl (pc0 := 10) (pc' := 19) rfl (hb hby d2_10) rfl (flt hc2).2.1 (by decide) (by decide) k) ?_
      refine own_go (B := s₁.setTop (mkF m 20 #[.val (.int p1)] [(.int (1 : Int32))])) (fun _ k => XS.iconst X0.here hx rfl (hb hby d2_19) k) ?_
      refine own_go (B := s₁.setTop (mkF m 24 #[.val (.int p1)] [(.int (1 : Int32))])) (fun _ k => XS.goto X0.here hx rfl (pc0 := 20) (pc' := 24) rfl (hb hby d2_20) (by decide) (by decide) k) ?_
      exact own_retN X0 hx Bd.notSynchronized (t := .boolean) (w := (1 : Int32)) Bd.returns (by simp) (hb hby d2_24) e0 rfl ⟨(by rw [own_b1 (own_pl_rm2_4 p1 hc1 hc2)]), N0, rfl⟩ (by decide) (by decide)
abbrev R_own_rm1 : Room := { frames := 1, cells := 0, slots := 0, locals := 12 }
theorem d1_0 : decode prog_30_method_3_code 0 = .ok (.iload_n 0, 1) := by decide +kernel
theorem d1_1 : decode prog_30_method_3_code 1 = .ok (.invokestatic 17, 3) := by decide +kernel
theorem d1_4 : decode prog_30_method_3_code 4 = .ok (.ifCond .ne 17, 3) := by decide +kernel
theorem d1_7 : decode prog_30_method_3_code 7 = .ok (.iload_n 0, 1) := by decide +kernel
theorem d1_8 : decode prog_30_method_3_code 8 = .ok (.sipush 8232, 3) := by decide +kernel
theorem d1_11 : decode prog_30_method_3_code 11 = .ok (.if_icmp .eq 10, 3) := by decide +kernel
theorem d1_14 : decode prog_30_method_3_code 14 = .ok (.iload_n 0, 1) := by decide +kernel
theorem d1_15 : decode prog_30_method_3_code 15 = .ok (.sipush 8233, 3) := by decide +kernel
theorem d1_18 : decode prog_30_method_3_code 18 = .ok (.if_icmp .ne 7, 3) := by decide +kernel
theorem d1_21 : decode prog_30_method_3_code 21 = .ok (.iconst 1, 1) := by decide +kernel
theorem d1_22 : decode prog_30_method_3_code 22 = .ok (.goto 4, 3) := by decide +kernel
theorem d1_25 : decode prog_30_method_3_code 25 = .ok (.iconst 0, 1) := by decide +kernel
theorem d1_26 : decode prog_30_method_3_code 26 = .ok (.ireturn, 1) := by decide +kernel
theorem own_pn1 : plainName "com/example/aduana/aduana/web/LogLines" = true := by first | (simp [plainName, overriddenIn]; done) | decide +kernel
theorem ef_own_rm1 (m : MethodId) (x0 : Int32) : entryFrame m #[(.int x0)] 1 = mkF m 0 #[.val (.int x0)] [] := by first | (simp [entryFrame, mkF, argsToLocals, Value.category]; done) | rfl
set_option maxHeartbeats 2000000 in
theorem own_pl_rm1_1 (p1 : Int32) (hc2 : (0 ≤ p1.toInt ∧ p1.toInt ≤ 31) ∨ (127 ≤ p1.toInt ∧ p1.toInt ≤ 159)) : ((0 ≤ p1.toInt ∧ p1.toInt ≤ 31) ∨ (127 ≤ p1.toInt ∧ p1.toInt ≤ 159)) ∨ p1.toInt = 8232 ∨ p1.toInt = 8233 := by
  have := rng32 p1
  try simp only [Int32.lt_iff_toInt_lt, Int32.le_iff_toInt_le, Int64.lt_iff_toInt_lt, Int64.le_iff_toInt_le, ← Int32.toInt_inj, ← Int64.toInt_inj] at *
  all_goals omega
set_option maxHeartbeats 2000000 in
theorem own_pl_rm1_2 (p1 : Int32) (hc2 : ¬ ((0 ≤ p1.toInt ∧ p1.toInt ≤ 31) ∨ (127 ≤ p1.toInt ∧ p1.toInt ≤ 159))) (hc5 : p1 = (8232 : Int32)) : ((0 ≤ p1.toInt ∧ p1.toInt ≤ 31) ∨ (127 ≤ p1.toInt ∧ p1.toInt ≤ 159)) ∨ p1.toInt = 8232 ∨ p1.toInt = 8233 := by
  have : (8232 : Int32).toInt = 8232 := by decide
  have := rng32 p1
  try simp only [Int32.lt_iff_toInt_lt, Int32.le_iff_toInt_le, Int64.lt_iff_toInt_lt, Int64.le_iff_toInt_le, ← Int32.toInt_inj, ← Int64.toInt_inj] at *
  all_goals omega
set_option maxHeartbeats 2000000 in
theorem own_pl_rm1_3 (p1 : Int32) (hc2 : ¬ ((0 ≤ p1.toInt ∧ p1.toInt ≤ 31) ∨ (127 ≤ p1.toInt ∧ p1.toInt ≤ 159))) (hc5 : ¬ (p1 = (8232 : Int32))) (hc6 : p1 = (8233 : Int32)) : ((0 ≤ p1.toInt ∧ p1.toInt ≤ 31) ∨ (127 ≤ p1.toInt ∧ p1.toInt ≤ 159)) ∨ p1.toInt = 8232 ∨ p1.toInt = 8233 := by
  have : (8232 : Int32).toInt = 8232 := by decide
  have : (8233 : Int32).toInt = 8233 := by decide
  have := rng32 p1
  try simp only [Int32.lt_iff_toInt_lt, Int32.le_iff_toInt_le, Int64.lt_iff_toInt_lt, Int64.le_iff_toInt_le, ← Int32.toInt_inj, ← Int64.toInt_inj] at *
  all_goals omega
set_option maxHeartbeats 2000000 in
theorem own_pl_rm1_4 (p1 : Int32) (hc2 : ¬ ((0 ≤ p1.toInt ∧ p1.toInt ≤ 31) ∨ (127 ≤ p1.toInt ∧ p1.toInt ≤ 159))) (hc5 : ¬ (p1 = (8232 : Int32))) (hc6 : ¬ (p1 = (8233 : Int32))) : ¬ (((0 ≤ p1.toInt ∧ p1.toInt ≤ 31) ∨ (127 ≤ p1.toInt ∧ p1.toInt ≤ 159)) ∨ p1.toInt = 8232 ∨ p1.toInt = 8233) := by
  have : (8232 : Int32).toInt = 8232 := by decide
  have : (8233 : Int32).toInt = 8233 := by decide
  have := rng32 p1
  try simp only [Int32.lt_iff_toInt_lt, Int32.le_iff_toInt_le, Int64.lt_iff_toInt_lt, Int64.le_iff_toInt_le, ← Int32.toInt_inj, ← Int64.toInt_inj] at *
  all_goals omega
def Q_own_rm1 (Z : State) (p1 : Int32) (h0 : Heap) (n0 : Nat) (v : Option Value) (h : Heap) (L : List Loc) : Prop := v = some (.int (own_b (((0 ≤ p1.toInt ∧ p1.toInt ≤ 31) ∨ (127 ≤ p1.toInt ∧ p1.toInt ≤ 159)) ∨ p1.toInt = 8232 ∨ p1.toInt = 8233))) ∧ Fr n0 L ∧ h = h0
set_option maxRecDepth 65536 in
set_option maxHeartbeats 400000000 in
theorem own_rm1 (l : Launch) (Z : State) (a0 : Array Value) (hw : ∀ d ∈ tables_1, d.before a0 Z = true) (ws : List Jvm.Cond) (p1 : Int32) (h0 : Heap) (n0 : Nat) (Z0 : n0 ≤ h0.size)  :
    MetFree l (⟨"com/example/aduana/aduana/web/LogLines", "isLineBreakOrControl", "(I)Z"⟩ : MethodName) (head1 (Jvm.Cond.code (⟨"com/example/aduana/aduana/web/LogLines", "isLineBreakOrControl", "(I)Z"⟩ : MethodName) prog_30_method_3_code 1 (some .boolean) :: ws) R_own_rm1) (fun a U => a = #[(.int p1)] ∧ Z.Warmed39 U.vm ∧ U.heap = h0) (fun _ _ _ _ _ => True) (fun _ U o U' => ∃ v L, o = .returned v ∧ Q_own_rm1 Z p1 h0 n0 v U'.heap L ∧ FrameEnd U o U' L R_own_rm1.cells R_own_rm1.slots) := by
  refine MetFree.of_bodySF (plainFor_of_name own_pn1) hisR ?_
  intro p e s m args below meth c s₁ Bd hml0 hP hK
  obtain ⟨rfl, hZ, hh⟩ := hP
  have hx := Bd.exec
  have hby := Bd.bytes
  have hml : c.maxLocals = 1 := hml0
  have hown : s.vm.findClass "com/example/aduana/aduana/web/LogLines" = some m.cls := findClass_of_methodNamed Bd.named
  have hnm := (name_of_methodNamed Bd.named Bd.method).1
  have X0 : Stand p l e R_own_rm1 s m #[(.int p1)] below meth c s₁ [] 0 0 := Stand.of_body Bd
  have e0 : s₁.heap = h0 := by rw [← hh, Bd.state]; rfl
  have N0 := Fr.nil n0
  have K0 : Keep h0 h0 [] := Keep.refl h0 []
  show own_Fin p e below s (Q_own_rm1 Z p1 h0 n0) R_own_rm1.cells R_own_rm1.slots (s₁.setTop (entryFrame m #[(.int p1)] 1))
  refine own_go (fun _ k => castTop (ef_own_rm1 m p1) k) ?_
  show own_Fin _ _ _ _ _ _ _ (s₁.setTop (mkF m 0 #[.val (.int p1)] []))
  refine own_go (B := s₁.setTop (mkF m 1 #[.val (.int p1)] [(.int p1)])) (fun _ k => XS.iloadN X0.here hx rfl (hb hby d1_0) rfl  k) ?_
  obtain ⟨_, _, ⟨T1, L1, k1, n1⟩, -, X1, ⟨Lc1, hQ1, l1, y1, z1⟩, st1⟩ := Jvm.LawKit.callS X0 hx (y := (⟨"java/lang/Character", "isISOControl", "(I)Z"⟩ : MethodName)) hown (mvT hZ (own_w hw 5 rfl)) (mvT hZ (own_w hw 6 rfl)) (mvT hZ (own_w hw 7 rfl)) (mvT hZ (own_w hw 8 rfl)) (by decide) (backOf (W := 0) (own_rm2 l Z a0 hw [] p1 h0 n0 (Nat.le_trans Z0 K0.1) ) hZ (own_w hw 8 rfl) (own_w hw 7 rfl) (by decide) (by decide)) (g := (mkF m 1 #[.val (.int p1)] [(.int p1)])) rfl (by rw [hml]; rfl) (argsL := [(.int p1)]) (rest := []) (lenOf own_pd0 rfl) rfl (by show 2 * 0 + _ ≤ _; exact Nat.le_of_eq rfl) (hb hby d1_1) (fun _ _ => ⟨rfl, e0, (by decide : 0 + 0 ≤ _), (by decide : 0 + 0 ≤ _)⟩)
  dsimp only [Pt.U, Pt.locs, Pt.cells, Pt.slots] at X1 l1 y1 z1 st1 hQ1
  subst l1 y1 z1
  obtain ⟨rfl, N1q, e1⟩ := hQ1
  have N1 := Fr.app N0 N1q
  refine own_go (B := T1.setTop (mkF m 4 #[.val (.int p1)] [(.int (own_b ((0 ≤ p1.toInt ∧ p1.toInt ≤ 31) ∨ (127 ≤ p1.toInt ∧ p1.toInt ≤ 159))))])) st1 ?_
  by_cases hc2 : (0 ≤ p1.toInt ∧ p1.toInt ≤ 31) ∨ (127 ≤ p1.toInt ∧ p1.toInt ≤ 159)
  · skip
    rw [own_b1 hc2]
    show own_Fin _ _ _ _ _ _ _ (T1.setTop (mkF m 4 #[.val (.int p1)] [(.int (1 : Int32))]))
    have hc3 : ¬ ((1 : Int32) = (0 : Int32)) := by decide
    refine own_go (B := T1.setTop (mkF m 21 #[.val (.int p1)] [])) (fun _ k => XS.ifYes X1.here hx rfl (pc0 := 4) (pc' := 21) rfl (hb hby d1_4) rfl ((if0 _ _).trans (feq hc3).2) (by decide) (by decide) k) ?_
    refine own_go (B := T1.setTop (mkF m 22 #[.val (.int p1)] [(.int (1 : Int32))])) (fun _ k => XS.iconst X1.here hx rfl (hb hby d1_21) k) ?_
    refine own_go (B := T1.setTop (mkF m 26 #[.val (.int p1)] [(.int (1 : Int32))])) (fun _ k => XS.goto X1.here hx rfl (pc0 := 22) (pc' := 26) rfl (hb hby d1_22) (by decide) (by decide) k) ?_
    exact own_retN X1 hx Bd.notSynchronized (t := .boolean) (w := (1 : Int32)) Bd.returns (by simp) (hb hby d1_26) e1 rfl ⟨(by rw [own_b1 (own_pl_rm1_1 p1 hc2)]), N1, rfl⟩ (by decide) (by decide)
  · skip
    rw [own_b0 hc2]
    show own_Fin _ _ _ _ _ _ _ (T1.setTop (mkF m 4 #[.val (.int p1)] [(.int (0 : Int32))]))
    have hc4 : (0 : Int32) = (0 : Int32) := by decide
    refine own_go (B := T1.setTop (mkF m 7 #[.val (.int p1)] [])) (fun _ k => XS.ifNo X1.here hx rfl (hb hby d1_4) rfl ((if0 _ _).trans (teq hc4).2) k) ?_
    refine own_go (B := T1.setTop (mkF m 8 #[.val (.int p1)] [(.int p1)])) (fun _ k => XS.iloadN X1.here hx rfl (hb hby d1_7) rfl  k) ?_
    refine own_go (B := T1.setTop (mkF m 11 #[.val (.int p1)] [(.int (8232 : Int32)), (.int p1)])) (fun _ k => XS.sipush X1.here hx rfl (hb hby d1_8) k) ?_
    by_cases hc5 : p1 = (8232 : Int32)
    · skip
      refine own_go (B := T1.setTop (mkF m 21 #[.val (.int p1)] [])) (fun _ k => XS.icmpYes X1.here hx rfl (pc0 := 11) (pc' := 21) rfl (hb hby d1_11) rfl (teq hc5).1 (by decide) (by decide) k) ?_
      refine own_go (B := T1.setTop (mkF m 22 #[.val (.int p1)] [(.int (1 : Int32))])) (fun _ k => XS.iconst X1.here hx rfl (hb hby d1_21) k) ?_
      refine own_go (B := T1.setTop (mkF m 26 #[.val (.int p1)] [(.int (1 : Int32))])) (fun _ k => XS.goto X1.here hx rfl (pc0 := 22) (pc' := 26) rfl (hb hby d1_22) (by decide) (by decide) k) ?_
      exact own_retN X1 hx Bd.notSynchronized (t := .boolean) (w := (1 : Int32)) Bd.returns (by simp) (hb hby d1_26) e1 rfl ⟨(by rw [own_b1 (own_pl_rm1_2 p1 hc2 hc5)]), N1, rfl⟩ (by decide) (by decide)
    · skip
      refine own_go (B := T1.setTop (mkF m 14 #[.val (.int p1)] [])) (fun _ k => XS.icmpNo X1.here hx rfl (hb hby d1_11) rfl (feq hc5).1 k) ?_
      refine own_go (B := T1.setTop (mkF m 15 #[.val (.int p1)] [(.int p1)])) (fun _ k => XS.iloadN X1.here hx rfl (hb hby d1_14) rfl  k) ?_
      refine own_go (B := T1.setTop (mkF m 18 #[.val (.int p1)] [(.int (8233 : Int32)), (.int p1)])) (fun _ k => XS.sipush X1.here hx rfl (hb hby d1_15) k) ?_
      by_cases hc6 : p1 = (8233 : Int32)
      · skip
        refine own_go (B := T1.setTop (mkF m 21 #[.val (.int p1)] [])) (fun _ k => XS.icmpNo X1.here hx rfl (hb hby d1_18) rfl (teq hc6).2 k) ?_
        refine own_go (B := T1.setTop (mkF m 22 #[.val (.int p1)] [(.int (1 : Int32))])) (fun _ k => XS.iconst X1.here hx rfl (hb hby d1_21) k) ?_
        refine own_go (B := T1.setTop (mkF m 26 #[.val (.int p1)] [(.int (1 : Int32))])) (fun _ k => XS.goto X1.here hx rfl (pc0 := 22) (pc' := 26) rfl (hb hby d1_22) (by decide) (by decide) k) ?_
        exact own_retN X1 hx Bd.notSynchronized (t := .boolean) (w := (1 : Int32)) Bd.returns (by simp) (hb hby d1_26) e1 rfl ⟨(by rw [own_b1 (own_pl_rm1_3 p1 hc2 hc5 hc6)]), N1, rfl⟩ (by decide) (by decide)
      · skip
        refine own_go (B := T1.setTop (mkF m 25 #[.val (.int p1)] [])) (fun _ k => XS.icmpYes X1.here hx rfl (pc0 := 18) (pc' := 25) rfl (hb hby d1_18) rfl (feq hc6).2 (by decide) (by decide) k) ?_
        refine own_go (B := T1.setTop (mkF m 26 #[.val (.int p1)] [(.int (0 : Int32))])) (fun _ k => XS.iconst X1.here hx rfl (hb hby d1_25) k) ?_
        exact own_retN X1 hx Bd.notSynchronized (t := .boolean) (w := (0 : Int32)) Bd.returns (by simp) (hb hby d1_26) e1 rfl ⟨(by rw [own_b0 (own_pl_rm1_4 p1 hc2 hc5 hc6)]), N1, rfl⟩ (by decide) (by decide)
theorem own_pn2 : plainName "com/example/aduana/aduana/web/LogLinesIsLineBreakOrControlPinLaw" = true := by first | (simp [plainName, overriddenIn]; done) | decide +kernel
theorem ef_own_rm0 (m : MethodId) (x0 : Int32) (x1 : Int32) : entryFrame m #[(.int x0), (.int x1)] maxLocals = mkF m 0 #[.val (.int x0), .val (.int x1), .unset, .unset, .unset, .unset, .unset, .unset] [] := by first | (simp [entryFrame, mkF, argsToLocals, Value.category, maxLocals]; done) | rfl
set_option maxHeartbeats 2000000 in
theorem own_pl_rm0_1 (c : Int32) (hc5 : c < (0 : Int32)) : c < (127 : Int32) := by
  have : (0 : Int32).toInt = 0 := by decide
  have : (127 : Int32).toInt = 127 := by decide
  have := rng32 c
  try simp only [Int32.lt_iff_toInt_lt, Int32.le_iff_toInt_le, Int64.lt_iff_toInt_lt, Int64.le_iff_toInt_le, ← Int32.toInt_inj, ← Int64.toInt_inj] at *
  all_goals omega
set_option maxHeartbeats 2000000 in
theorem own_pl_rm0_2 (c : Int32) (hc5 : c < (0 : Int32)) (hc6 : c < (127 : Int32)) : ¬ (c = (8232 : Int32)) := by
  have : (0 : Int32).toInt = 0 := by decide
  have : (127 : Int32).toInt = 127 := by decide
  have : (8232 : Int32).toInt = 8232 := by decide
  have := rng32 c
  try simp only [Int32.lt_iff_toInt_lt, Int32.le_iff_toInt_le, Int64.lt_iff_toInt_lt, Int64.le_iff_toInt_le, ← Int32.toInt_inj, ← Int64.toInt_inj] at *
  all_goals omega
set_option maxHeartbeats 2000000 in
theorem own_pl_rm0_3 (c : Int32) (hc5 : c < (0 : Int32)) (hc6 : c < (127 : Int32)) (hc7 : ¬ (c = (8232 : Int32))) : ¬ (c = (8233 : Int32)) := by
  have : (0 : Int32).toInt = 0 := by decide
  have : (127 : Int32).toInt = 127 := by decide
  have : (8232 : Int32).toInt = 8232 := by decide
  have : (8233 : Int32).toInt = 8233 := by decide
  have := rng32 c
  try simp only [Int32.lt_iff_toInt_lt, Int32.le_iff_toInt_le, Int64.lt_iff_toInt_lt, Int64.le_iff_toInt_le, ← Int32.toInt_inj, ← Int64.toInt_inj] at *
  all_goals omega
set_option maxHeartbeats 2000000 in
theorem own_pl_rm0_4 (c : Int32) (hc5 : c < (0 : Int32)) (hc6 : c < (127 : Int32)) (hc7 : ¬ (c = (8232 : Int32))) (hc8 : ¬ (c = (8233 : Int32))) : ¬ (((0 ≤ c.toInt ∧ c.toInt ≤ 31) ∨ (127 ≤ c.toInt ∧ c.toInt ≤ 159)) ∨ c.toInt = 8232 ∨ c.toInt = 8233) := by
  have : (0 : Int32).toInt = 0 := by decide
  have : (127 : Int32).toInt = 127 := by decide
  have : (8232 : Int32).toInt = 8232 := by decide
  have : (8233 : Int32).toInt = 8233 := by decide
  have := rng32 c
  try simp only [Int32.lt_iff_toInt_lt, Int32.le_iff_toInt_le, Int64.lt_iff_toInt_lt, Int64.le_iff_toInt_le, ← Int32.toInt_inj, ← Int64.toInt_inj] at *
  all_goals omega
set_option maxHeartbeats 2000000 in
theorem own_pl_rm0_5 (c : Int32) (hc5 : ¬ (c < (0 : Int32))) (hc15 : (31 : Int32) < c) (hc16 : c < (127 : Int32)) : ¬ (c = (8232 : Int32)) := by
  have : (0 : Int32).toInt = 0 := by decide
  have : (31 : Int32).toInt = 31 := by decide
  have : (127 : Int32).toInt = 127 := by decide
  have : (8232 : Int32).toInt = 8232 := by decide
  have := rng32 c
  try simp only [Int32.lt_iff_toInt_lt, Int32.le_iff_toInt_le, Int64.lt_iff_toInt_lt, Int64.le_iff_toInt_le, ← Int32.toInt_inj, ← Int64.toInt_inj] at *
  all_goals omega
set_option maxHeartbeats 2000000 in
theorem own_pl_rm0_6 (c : Int32) (hc5 : ¬ (c < (0 : Int32))) (hc15 : (31 : Int32) < c) (hc16 : c < (127 : Int32)) (hc17 : ¬ (c = (8232 : Int32))) : ¬ (c = (8233 : Int32)) := by
  have : (0 : Int32).toInt = 0 := by decide
  have : (31 : Int32).toInt = 31 := by decide
  have : (127 : Int32).toInt = 127 := by decide
  have : (8232 : Int32).toInt = 8232 := by decide
  have : (8233 : Int32).toInt = 8233 := by decide
  have := rng32 c
  try simp only [Int32.lt_iff_toInt_lt, Int32.le_iff_toInt_le, Int64.lt_iff_toInt_lt, Int64.le_iff_toInt_le, ← Int32.toInt_inj, ← Int64.toInt_inj] at *
  all_goals omega
set_option maxHeartbeats 2000000 in
theorem own_pl_rm0_7 (c : Int32) (hc5 : ¬ (c < (0 : Int32))) (hc15 : (31 : Int32) < c) (hc16 : c < (127 : Int32)) (hc17 : ¬ (c = (8232 : Int32))) (hc18 : ¬ (c = (8233 : Int32))) : ¬ (((0 ≤ c.toInt ∧ c.toInt ≤ 31) ∨ (127 ≤ c.toInt ∧ c.toInt ≤ 159)) ∨ c.toInt = 8232 ∨ c.toInt = 8233) := by
  have : (0 : Int32).toInt = 0 := by decide
  have : (31 : Int32).toInt = 31 := by decide
  have : (127 : Int32).toInt = 127 := by decide
  have : (8232 : Int32).toInt = 8232 := by decide
  have : (8233 : Int32).toInt = 8233 := by decide
  have := rng32 c
  try simp only [Int32.lt_iff_toInt_lt, Int32.le_iff_toInt_le, Int64.lt_iff_toInt_lt, Int64.le_iff_toInt_le, ← Int32.toInt_inj, ← Int64.toInt_inj] at *
  all_goals omega
set_option maxHeartbeats 2000000 in
theorem own_pl_rm0_8 (c : Int32) (hc5 : ¬ (c < (0 : Int32))) (hc15 : (31 : Int32) < c) (hc16 : ¬ (c < (127 : Int32))) (hc25 : (159 : Int32) < c) (hc26 : c = (8232 : Int32)) : ((0 ≤ c.toInt ∧ c.toInt ≤ 31) ∨ (127 ≤ c.toInt ∧ c.toInt ≤ 159)) ∨ c.toInt = 8232 ∨ c.toInt = 8233 := by
  have : (0 : Int32).toInt = 0 := by decide
  have : (31 : Int32).toInt = 31 := by decide
  have : (127 : Int32).toInt = 127 := by decide
  have : (159 : Int32).toInt = 159 := by decide
  have : (8232 : Int32).toInt = 8232 := by decide
  have := rng32 c
  try simp only [Int32.lt_iff_toInt_lt, Int32.le_iff_toInt_le, Int64.lt_iff_toInt_lt, Int64.le_iff_toInt_le, ← Int32.toInt_inj, ← Int64.toInt_inj] at *
  all_goals omega
set_option maxHeartbeats 2000000 in
theorem own_pl_rm0_9 (c : Int32) (hc5 : ¬ (c < (0 : Int32))) (hc15 : (31 : Int32) < c) (hc16 : ¬ (c < (127 : Int32))) (hc25 : (159 : Int32) < c) (hc26 : ¬ (c = (8232 : Int32))) (hc33 : c = (8233 : Int32)) : ((0 ≤ c.toInt ∧ c.toInt ≤ 31) ∨ (127 ≤ c.toInt ∧ c.toInt ≤ 159)) ∨ c.toInt = 8232 ∨ c.toInt = 8233 := by
  have : (0 : Int32).toInt = 0 := by decide
  have : (31 : Int32).toInt = 31 := by decide
  have : (127 : Int32).toInt = 127 := by decide
  have : (159 : Int32).toInt = 159 := by decide
  have : (8232 : Int32).toInt = 8232 := by decide
  have : (8233 : Int32).toInt = 8233 := by decide
  have := rng32 c
  try simp only [Int32.lt_iff_toInt_lt, Int32.le_iff_toInt_le, Int64.lt_iff_toInt_lt, Int64.le_iff_toInt_le, ← Int32.toInt_inj, ← Int64.toInt_inj] at *
  all_goals omega
set_option maxHeartbeats 2000000 in
theorem own_pl_rm0_10 (c : Int32) (hc5 : ¬ (c < (0 : Int32))) (hc15 : (31 : Int32) < c) (hc16 : ¬ (c < (127 : Int32))) (hc25 : (159 : Int32) < c) (hc26 : ¬ (c = (8232 : Int32))) (hc33 : ¬ (c = (8233 : Int32))) : ¬ (((0 ≤ c.toInt ∧ c.toInt ≤ 31) ∨ (127 ≤ c.toInt ∧ c.toInt ≤ 159)) ∨ c.toInt = 8232 ∨ c.toInt = 8233) := by
  have : (0 : Int32).toInt = 0 := by decide
  have : (31 : Int32).toInt = 31 := by decide
  have : (127 : Int32).toInt = 127 := by decide
  have : (159 : Int32).toInt = 159 := by decide
  have : (8232 : Int32).toInt = 8232 := by decide
  have : (8233 : Int32).toInt = 8233 := by decide
  have := rng32 c
  try simp only [Int32.lt_iff_toInt_lt, Int32.le_iff_toInt_le, Int64.lt_iff_toInt_lt, Int64.le_iff_toInt_le, ← Int32.toInt_inj, ← Int64.toInt_inj] at *
  all_goals omega
set_option maxHeartbeats 2000000 in
theorem own_pl_rm0_11 (c : Int32) (hc5 : ¬ (c < (0 : Int32))) (hc15 : (31 : Int32) < c) (hc16 : ¬ (c < (127 : Int32))) (hc25 : ¬ ((159 : Int32) < c)) : ¬ (c = (8232 : Int32)) := by
  have : (0 : Int32).toInt = 0 := by decide
  have : (31 : Int32).toInt = 31 := by decide
  have : (127 : Int32).toInt = 127 := by decide
  have : (159 : Int32).toInt = 159 := by decide
  have : (8232 : Int32).toInt = 8232 := by decide
  have := rng32 c
  try simp only [Int32.lt_iff_toInt_lt, Int32.le_iff_toInt_le, Int64.lt_iff_toInt_lt, Int64.le_iff_toInt_le, ← Int32.toInt_inj, ← Int64.toInt_inj] at *
  all_goals omega
set_option maxHeartbeats 2000000 in
theorem own_pl_rm0_12 (c : Int32) (hc5 : ¬ (c < (0 : Int32))) (hc15 : (31 : Int32) < c) (hc16 : ¬ (c < (127 : Int32))) (hc25 : ¬ ((159 : Int32) < c)) (hc46 : ¬ (c = (8232 : Int32))) : ¬ (c = (8233 : Int32)) := by
  have : (0 : Int32).toInt = 0 := by decide
  have : (31 : Int32).toInt = 31 := by decide
  have : (127 : Int32).toInt = 127 := by decide
  have : (159 : Int32).toInt = 159 := by decide
  have : (8232 : Int32).toInt = 8232 := by decide
  have : (8233 : Int32).toInt = 8233 := by decide
  have := rng32 c
  try simp only [Int32.lt_iff_toInt_lt, Int32.le_iff_toInt_le, Int64.lt_iff_toInt_lt, Int64.le_iff_toInt_le, ← Int32.toInt_inj, ← Int64.toInt_inj] at *
  all_goals omega
set_option maxHeartbeats 2000000 in
theorem own_pl_rm0_13 (c : Int32) (hc5 : ¬ (c < (0 : Int32))) (hc15 : (31 : Int32) < c) (hc16 : ¬ (c < (127 : Int32))) (hc25 : ¬ ((159 : Int32) < c)) (hc46 : ¬ (c = (8232 : Int32))) (hc47 : ¬ (c = (8233 : Int32))) : ((0 ≤ c.toInt ∧ c.toInt ≤ 31) ∨ (127 ≤ c.toInt ∧ c.toInt ≤ 159)) ∨ c.toInt = 8232 ∨ c.toInt = 8233 := by
  have : (0 : Int32).toInt = 0 := by decide
  have : (31 : Int32).toInt = 31 := by decide
  have : (127 : Int32).toInt = 127 := by decide
  have : (159 : Int32).toInt = 159 := by decide
  have : (8232 : Int32).toInt = 8232 := by decide
  have : (8233 : Int32).toInt = 8233 := by decide
  have := rng32 c
  try simp only [Int32.lt_iff_toInt_lt, Int32.le_iff_toInt_le, Int64.lt_iff_toInt_lt, Int64.le_iff_toInt_le, ← Int32.toInt_inj, ← Int64.toInt_inj] at *
  all_goals omega
set_option maxHeartbeats 2000000 in
theorem own_pl_rm0_14 (c : Int32) (hc5 : ¬ (c < (0 : Int32))) (hc15 : ¬ ((31 : Int32) < c)) : c < (127 : Int32) := by
  have : (0 : Int32).toInt = 0 := by decide
  have : (31 : Int32).toInt = 31 := by decide
  have : (127 : Int32).toInt = 127 := by decide
  have := rng32 c
  try simp only [Int32.lt_iff_toInt_lt, Int32.le_iff_toInt_le, Int64.lt_iff_toInt_lt, Int64.le_iff_toInt_le, ← Int32.toInt_inj, ← Int64.toInt_inj] at *
  all_goals omega
set_option maxHeartbeats 2000000 in
theorem own_pl_rm0_15 (c : Int32) (hc5 : ¬ (c < (0 : Int32))) (hc15 : ¬ ((31 : Int32) < c)) (hc53 : c < (127 : Int32)) : ¬ (c = (8232 : Int32)) := by
  have : (0 : Int32).toInt = 0 := by decide
  have : (31 : Int32).toInt = 31 := by decide
  have : (127 : Int32).toInt = 127 := by decide
  have : (8232 : Int32).toInt = 8232 := by decide
  have := rng32 c
  try simp only [Int32.lt_iff_toInt_lt, Int32.le_iff_toInt_le, Int64.lt_iff_toInt_lt, Int64.le_iff_toInt_le, ← Int32.toInt_inj, ← Int64.toInt_inj] at *
  all_goals omega
set_option maxHeartbeats 2000000 in
theorem own_pl_rm0_16 (c : Int32) (hc5 : ¬ (c < (0 : Int32))) (hc15 : ¬ ((31 : Int32) < c)) (hc53 : c < (127 : Int32)) (hc54 : ¬ (c = (8232 : Int32))) : ¬ (c = (8233 : Int32)) := by
  have : (0 : Int32).toInt = 0 := by decide
  have : (31 : Int32).toInt = 31 := by decide
  have : (127 : Int32).toInt = 127 := by decide
  have : (8232 : Int32).toInt = 8232 := by decide
  have : (8233 : Int32).toInt = 8233 := by decide
  have := rng32 c
  try simp only [Int32.lt_iff_toInt_lt, Int32.le_iff_toInt_le, Int64.lt_iff_toInt_lt, Int64.le_iff_toInt_le, ← Int32.toInt_inj, ← Int64.toInt_inj] at *
  all_goals omega
set_option maxHeartbeats 2000000 in
theorem own_pl_rm0_17 (c : Int32) (hc5 : ¬ (c < (0 : Int32))) (hc15 : ¬ ((31 : Int32) < c)) (hc53 : c < (127 : Int32)) (hc54 : ¬ (c = (8232 : Int32))) (hc55 : ¬ (c = (8233 : Int32))) : ((0 ≤ c.toInt ∧ c.toInt ≤ 31) ∨ (127 ≤ c.toInt ∧ c.toInt ≤ 159)) ∨ c.toInt = 8232 ∨ c.toInt = 8233 := by
  have : (0 : Int32).toInt = 0 := by decide
  have : (31 : Int32).toInt = 31 := by decide
  have : (127 : Int32).toInt = 127 := by decide
  have : (8232 : Int32).toInt = 8232 := by decide
  have : (8233 : Int32).toInt = 8233 := by decide
  have := rng32 c
  try simp only [Int32.lt_iff_toInt_lt, Int32.le_iff_toInt_le, Int64.lt_iff_toInt_lt, Int64.le_iff_toInt_le, ← Int32.toInt_inj, ← Int64.toInt_inj] at *
  all_goals omega
def Q_own_rm0 (Z : State) (p1 : Int32) (p2 : Int32) (h0 : Heap) (n0 : Nat) (v : Option Value) (h : Heap) (L : List Loc) : Prop := v = some (.int (1 : Int32)) ∧ Fr n0 L ∧ h = h0
set_option maxRecDepth 65536 in
set_option maxHeartbeats 400000000 in
theorem own_rm0 (l : Launch) (Z : State) (a0 : Array Value) (hw : ∀ d ∈ tables_1, d.before a0 Z = true) (ws : List Jvm.Cond) (p1 : Int32) (p2 : Int32) (h0 : Heap) (n0 : Nat) (Z0 : n0 ≤ h0.size)  :
    MetFree l x (head1 (Jvm.Cond.code x code maxLocals ret :: ws) room_1) (fun a U => a = #[(.int p1), (.int p2)] ∧ Z.Warmed39 U.vm ∧ U.heap = h0) (fun _ _ _ _ _ => True) (fun _ U o U' => ∃ v L, o = .returned v ∧ Q_own_rm0 Z p1 p2 h0 n0 v U'.heap L ∧ FrameEnd U o U' L 0 0) := by
  refine MetFree.of_bodySF (plainFor_of_name own_pn2) hisR ?_
  intro p e s m args below meth c s₁ Bd hml0 hP hK
  obtain ⟨rfl, hZ, hh⟩ := hP
  have hx := Bd.exec
  have hby := Bd.bytes
  have hml : c.maxLocals = 8 := hml0
  have hown : s.vm.findClass "com/example/aduana/aduana/web/LogLinesIsLineBreakOrControlPinLaw" = some m.cls := findClass_of_methodNamed Bd.named
  have hnm := (name_of_methodNamed Bd.named Bd.method).1
  have X0 : Stand p l e room_1 s m #[(.int p1), (.int p2)] below meth c s₁ [] 0 0 := Stand.of_body Bd
  have e0 : s₁.heap = h0 := by rw [← hh, Bd.state]; rfl
  have N0 := Fr.nil n0
  have K0 : Keep h0 h0 [] := Keep.refl h0 []
  show own_Fin p e below s (Q_own_rm0 Z p1 p2 h0 n0) 0 0 (s₁.setTop (entryFrame m #[(.int p1), (.int p2)] maxLocals))
  refine own_go (fun _ k => castTop (ef_own_rm0 m p1 p2) k) ?_
  show own_Fin _ _ _ _ _ _ _ (s₁.setTop (mkF m 0 #[.val (.int p1), .val (.int p2), .unset, .unset, .unset, .unset, .unset, .unset] []))
  refine own_go (B := s₁.setTop (mkF m 1 #[.val (.int p1), .val (.int p2), .unset, .unset, .unset, .unset, .unset, .unset] [(.int p2)])) (fun _ k => XS.iloadN X0.here hx rfl (hb hby at_0) rfl  k) ?_
  refine own_go (B := s₁.setTop (mkF m 2 #[.val (.int p1), .val (.int p2), .unset, .unset, .unset, .unset, .unset, .unset] [(.int (3 : Int32)), (.int p2)])) (fun _ k => XS.iconst X0.here hx rfl (hb hby at_1) k) ?_
  refine own_go (B := s₁.setTop (mkF m 3 #[.val (.int p1), .val (.int p2), .unset, .unset, .unset, .unset, .unset, .unset] [(.int (p2 &&& (3 : Int32)))])) (fun _ k => XS.iand X0.here hx rfl (hb hby at_2) rfl k) ?_
  refine own_go (B := s₁.setTop (mkF m 4 #[.val (.int p1), .val (.int p2), .val (.int (p2 &&& (3 : Int32))), .unset, .unset, .unset, .unset, .unset] [])) (fun _ k => XS.istoreN X0.here hx rfl (hb hby at_3) rfl (l' := #[.val (.int p1), .val (.int p2), .val (.int (p2 &&& (3 : Int32))), .unset, .unset, .unset, .unset, .unset]) rfl k) ?_
  have J1 : ∀ (c : Int32), own_Fin p e below s (Q_own_rm0 Z p1 p2 h0 n0) 0 0 (s₁.setTop (mkF m 49 #[.val (.int p1), .val (.int p2), .val (.int (p2 &&& (3 : Int32))), .val (.int c), .unset, .unset, .unset, .unset] [])) := by
    intro c
    refine own_go (B := s₁.setTop (mkF m 50 #[.val (.int p1), .val (.int p2), .val (.int (p2 &&& (3 : Int32))), .val (.int c), .unset, .unset, .unset, .unset] [(.int c)])) (fun _ k => XS.iloadN X0.here hx rfl (hb hby at_49) rfl  k) ?_
    by_cases hc5 : c < (0 : Int32)
    · skip
      refine own_go (B := s₁.setTop (mkF m 63 #[.val (.int p1), .val (.int p2), .val (.int (p2 &&& (3 : Int32))), .val (.int c), .unset, .unset, .unset, .unset] [])) (fun _ k => XS.ifYes X0.here hx rfl (pc0 := 50) (pc' := 63) rfl (hb hby at_50) rfl ((if0 _ _).trans (tlt hc5).1) (by decide) (by decide) k) ?_
      refine own_go (B := s₁.setTop (mkF m 64 #[.val (.int p1), .val (.int p2), .val (.int (p2 &&& (3 : Int32))), .val (.int c), .unset, .unset, .unset, .unset] [(.int (0 : Int32))])) (fun _ k => XS.iconst X0.here hx rfl (hb hby at_63) k) ?_
      refine own_go (B := s₁.setTop (mkF m 66 #[.val (.int p1), .val (.int p2), .val (.int (p2 &&& (3 : Int32))), .val (.int c), .val (.int (0 : Int32)), .unset, .unset, .unset] [])) (fun _ k => XS.istore X0.here hx rfl (hb hby at_64) rfl (l' := #[.val (.int p1), .val (.int p2), .val (.int (p2 &&& (3 : Int32))), .val (.int c), .val (.int (0 : Int32)), .unset, .unset, .unset]) rfl k) ?_
      refine own_go (B := s₁.setTop (mkF m 67 #[.val (.int p1), .val (.int p2), .val (.int (p2 &&& (3 : Int32))), .val (.int c), .val (.int (0 : Int32)), .unset, .unset, .unset] [(.int c)])) (fun _ k => XS.iloadN X0.here hx rfl (hb hby at_66) rfl  k) ?_
      refine own_go (B := s₁.setTop (mkF m 69 #[.val (.int p1), .val (.int p2), .val (.int (p2 &&& (3 : Int32))), .val (.int c), .val (.int (0 : Int32)), .unset, .unset, .unset] [(.int (127 : Int32)), (.int c)])) (fun _ k => XS.bipush X0.here hx rfl (hb hby at_67) k) ?_
      have hc6 : c < (127 : Int32) := (own_pl_rm0_1 c hc5)
      refine own_go (B := s₁.setTop (mkF m 83 #[.val (.int p1), .val (.int p2), .val (.int (p2 &&& (3 : Int32))), .val (.int c), .val (.int (0 : Int32)), .unset, .unset, .unset] [])) (fun _ k => XS.icmpYes X0.here hx rfl (pc0 := 69) (pc' := 83) rfl (hb hby at_69) rfl (tlt hc6).1 (by decide) (by decide) k) ?_
      refine own_go (B := s₁.setTop (mkF m 84 #[.val (.int p1), .val (.int p2), .val (.int (p2 &&& (3 : Int32))), .val (.int c), .val (.int (0 : Int32)), .unset, .unset, .unset] [(.int (0 : Int32))])) (fun _ k => XS.iconst X0.here hx rfl (hb hby at_83) k) ?_
      refine own_go (B := s₁.setTop (mkF m 86 #[.val (.int p1), .val (.int p2), .val (.int (p2 &&& (3 : Int32))), .val (.int c), .val (.int (0 : Int32)), .val (.int (0 : Int32)), .unset, .unset] [])) (fun _ k => XS.istore X0.here hx rfl (hb hby at_84) rfl (l' := #[.val (.int p1), .val (.int p2), .val (.int (p2 &&& (3 : Int32))), .val (.int c), .val (.int (0 : Int32)), .val (.int (0 : Int32)), .unset, .unset]) rfl k) ?_
      refine own_go (B := s₁.setTop (mkF m 87 #[.val (.int p1), .val (.int p2), .val (.int (p2 &&& (3 : Int32))), .val (.int c), .val (.int (0 : Int32)), .val (.int (0 : Int32)), .unset, .unset] [(.int c)])) (fun _ k => XS.iloadN X0.here hx rfl (hb hby at_86) rfl  k) ?_
      refine own_go (B := s₁.setTop (mkF m 90 #[.val (.int p1), .val (.int p2), .val (.int (p2 &&& (3 : Int32))), .val (.int c), .val (.int (0 : Int32)), .val (.int (0 : Int32)), .unset, .unset] [(.int (8232 : Int32)), (.int c)])) (fun _ k => XS.sipush X0.here hx rfl (hb hby at_87) k) ?_
      have hc7 : ¬ (c = (8232 : Int32)) := (own_pl_rm0_2 c hc5 hc6)
      refine own_go (B := s₁.setTop (mkF m 93 #[.val (.int p1), .val (.int p2), .val (.int (p2 &&& (3 : Int32))), .val (.int c), .val (.int (0 : Int32)), .val (.int (0 : Int32)), .unset, .unset] [])) (fun _ k => XS.icmpNo X0.here hx rfl (hb hby at_90) rfl (feq hc7).1 k) ?_
      refine own_go (B := s₁.setTop (mkF m 94 #[.val (.int p1), .val (.int p2), .val (.int (p2 &&& (3 : Int32))), .val (.int c), .val (.int (0 : Int32)), .val (.int (0 : Int32)), .unset, .unset] [(.int c)])) (fun _ k => XS.iloadN X0.here hx rfl (hb hby at_93) rfl  k) ?_
      refine own_go (B := s₁.setTop (mkF m 97 #[.val (.int p1), .val (.int p2), .val (.int (p2 &&& (3 : Int32))), .val (.int c), .val (.int (0 : Int32)), .val (.int (0 : Int32)), .unset, .unset] [(.int (8233 : Int32)), (.int c)])) (fun _ k => XS.sipush X0.here hx rfl (hb hby at_94) k) ?_
      have hc8 : ¬ (c = (8233 : Int32)) := (own_pl_rm0_3 c hc5 hc6 hc7)
      refine own_go (B := s₁.setTop (mkF m 104 #[.val (.int p1), .val (.int p2), .val (.int (p2 &&& (3 : Int32))), .val (.int c), .val (.int (0 : Int32)), .val (.int (0 : Int32)), .unset, .unset] [])) (fun _ k => XS.icmpYes X0.here hx rfl (pc0 := 97) (pc' := 104) rfl (hb hby at_97) rfl (feq hc8).2 (by decide) (by decide) k) ?_
      refine own_go (B := s₁.setTop (mkF m 105 #[.val (.int p1), .val (.int p2), .val (.int (p2 &&& (3 : Int32))), .val (.int c), .val (.int (0 : Int32)), .val (.int (0 : Int32)), .unset, .unset] [(.int (0 : Int32))])) (fun _ k => XS.iconst X0.here hx rfl (hb hby at_104) k) ?_
      refine own_go (B := s₁.setTop (mkF m 107 #[.val (.int p1), .val (.int p2), .val (.int (p2 &&& (3 : Int32))), .val (.int c), .val (.int (0 : Int32)), .val (.int (0 : Int32)), .val (.int (0 : Int32)), .unset] [])) (fun _ k => XS.istore X0.here hx rfl (hb hby at_105) rfl (l' := #[.val (.int p1), .val (.int p2), .val (.int (p2 &&& (3 : Int32))), .val (.int c), .val (.int (0 : Int32)), .val (.int (0 : Int32)), .val (.int (0 : Int32)), .unset]) rfl k) ?_
      refine own_go (B := s₁.setTop (mkF m 109 #[.val (.int p1), .val (.int p2), .val (.int (p2 &&& (3 : Int32))), .val (.int c), .val (.int (0 : Int32)), .val (.int (0 : Int32)), .val (.int (0 : Int32)), .unset] [(.int (0 : Int32))])) (fun _ k => XS.iload X0.here hx rfl (hb hby at_107) rfl  k) ?_
      have hc9 : (0 : Int32) = (0 : Int32) := by decide
      refine own_go (B := s₁.setTop (mkF m 112 #[.val (.int p1), .val (.int p2), .val (.int (p2 &&& (3 : Int32))), .val (.int c), .val (.int (0 : Int32)), .val (.int (0 : Int32)), .val (.int (0 : Int32)), .unset] [])) (fun _ k => XS.ifNo X0.here hx rfl (hb hby at_109) rfl ((if0 _ _).trans (teq hc9).2) k) ?_
      refine own_go (B := s₁.setTop (mkF m 114 #[.val (.int p1), .val (.int p2), .val (.int (p2 &&& (3 : Int32))), .val (.int c), .val (.int (0 : Int32)), .val (.int (0 : Int32)), .val (.int (0 : Int32)), .unset] [(.int (0 : Int32))])) (fun _ k => XS.iload X0.here hx rfl (hb hby at_112) rfl  k) ?_
      have hc10 : (0 : Int32) = (0 : Int32) := by decide
      refine own_go (B := s₁.setTop (mkF m 117 #[.val (.int p1), .val (.int p2), .val (.int (p2 &&& (3 : Int32))), .val (.int c), .val (.int (0 : Int32)), .val (.int (0 : Int32)), .val (.int (0 : Int32)), .unset] [])) (fun _ k => XS.ifNo X0.here hx rfl (hb hby at_114) rfl ((if0 _ _).trans (teq hc10).2) k) ?_
      refine own_go (B := s₁.setTop (mkF m 119 #[.val (.int p1), .val (.int p2), .val (.int (p2 &&& (3 : Int32))), .val (.int c), .val (.int (0 : Int32)), .val (.int (0 : Int32)), .val (.int (0 : Int32)), .unset] [(.int (0 : Int32))])) (fun _ k => XS.iload X0.here hx rfl (hb hby at_117) rfl  k) ?_
      have hc11 : (0 : Int32) = (0 : Int32) := by decide
      refine own_go (B := s₁.setTop (mkF m 126 #[.val (.int p1), .val (.int p2), .val (.int (p2 &&& (3 : Int32))), .val (.int c), .val (.int (0 : Int32)), .val (.int (0 : Int32)), .val (.int (0 : Int32)), .unset] [])) (fun _ k => XS.ifYes X0.here hx rfl (pc0 := 119) (pc' := 126) rfl (hb hby at_119) rfl ((if0 _ _).trans (teq hc11).1) (by decide) (by decide) k) ?_
      refine own_go (B := s₁.setTop (mkF m 127 #[.val (.int p1), .val (.int p2), .val (.int (p2 &&& (3 : Int32))), .val (.int c), .val (.int (0 : Int32)), .val (.int (0 : Int32)), .val (.int (0 : Int32)), .unset] [(.int (0 : Int32))])) (fun _ k => XS.iconst X0.here hx rfl (hb hby at_126) k) ?_
      refine own_go (B := s₁.setTop (mkF m 129 #[.val (.int p1), .val (.int p2), .val (.int (p2 &&& (3 : Int32))), .val (.int c), .val (.int (0 : Int32)), .val (.int (0 : Int32)), .val (.int (0 : Int32)), .val (.int (0 : Int32))] [])) (fun _ k => XS.istore X0.here hx rfl (hb hby at_127) rfl (l' := #[.val (.int p1), .val (.int p2), .val (.int (p2 &&& (3 : Int32))), .val (.int c), .val (.int (0 : Int32)), .val (.int (0 : Int32)), .val (.int (0 : Int32)), .val (.int (0 : Int32))]) rfl k) ?_
      refine own_go (B := s₁.setTop (mkF m 130 #[.val (.int p1), .val (.int p2), .val (.int (p2 &&& (3 : Int32))), .val (.int c), .val (.int (0 : Int32)), .val (.int (0 : Int32)), .val (.int (0 : Int32)), .val (.int (0 : Int32))] [(.int c)])) (fun _ k => XS.iloadN X0.here hx rfl (hb hby at_129) rfl  k) ?_
      obtain ⟨_, _, ⟨T12, L12, k12, n12⟩, -, X12, ⟨Lc12, hQ12, l12, y12, z12⟩, st12⟩ := Jvm.LawKit.callS X0 hx (y := (⟨"com/example/aduana/aduana/web/LogLines", "isLineBreakOrControl", "(I)Z"⟩ : MethodName)) hown (mvT hZ (own_w hw 1 rfl)) (mvT hZ (own_w hw 2 rfl)) (mvT hZ (own_w hw 3 rfl)) (mvT hZ (own_w hw 4 rfl)) (by decide) (backOf (W := 0) (own_rm1 l Z a0 hw [] c h0 n0 (Nat.le_trans Z0 K0.1) ) hZ (own_w hw 4 rfl) (own_w hw 3 rfl) (by decide) (by decide)) (g := (mkF m 130 #[.val (.int p1), .val (.int p2), .val (.int (p2 &&& (3 : Int32))), .val (.int c), .val (.int (0 : Int32)), .val (.int (0 : Int32)), .val (.int (0 : Int32)), .val (.int (0 : Int32))] [(.int c)])) rfl (by rw [hml]; rfl) (argsL := [(.int c)]) (rest := []) (lenOf own_pd0 rfl) rfl (by show 2 * 0 + _ ≤ _; exact Nat.le_of_eq rfl) (hb hby at_130) (fun _ _ => ⟨rfl, e0, (by decide : 0 + 0 ≤ _), (by decide : 0 + 0 ≤ _)⟩)
      dsimp only [Pt.U, Pt.locs, Pt.cells, Pt.slots] at X12 l12 y12 z12 st12 hQ12
      subst l12 y12 z12
      obtain ⟨rfl, N12q, e12⟩ := hQ12
      have N12 := Fr.app N0 N12q
      refine own_go (B := T12.setTop (mkF m 133 #[.val (.int p1), .val (.int p2), .val (.int (p2 &&& (3 : Int32))), .val (.int c), .val (.int (0 : Int32)), .val (.int (0 : Int32)), .val (.int (0 : Int32)), .val (.int (0 : Int32))] [(.int (own_b (((0 ≤ c.toInt ∧ c.toInt ≤ 31) ∨ (127 ≤ c.toInt ∧ c.toInt ≤ 159)) ∨ c.toInt = 8232 ∨ c.toInt = 8233)))])) st12 ?_
      have hc13 : ¬ (((0 ≤ c.toInt ∧ c.toInt ≤ 31) ∨ (127 ≤ c.toInt ∧ c.toInt ≤ 159)) ∨ c.toInt = 8232 ∨ c.toInt = 8233) := (own_pl_rm0_4 c hc5 hc6 hc7 hc8)
      rw [own_b0 hc13]
      show own_Fin _ _ _ _ _ _ _ (T12.setTop (mkF m 133 #[.val (.int p1), .val (.int p2), .val (.int (p2 &&& (3 : Int32))), .val (.int c), .val (.int (0 : Int32)), .val (.int (0 : Int32)), .val (.int (0 : Int32)), .val (.int (0 : Int32))] [(.int (0 : Int32))]))
      refine own_go (B := T12.setTop (mkF m 135 #[.val (.int p1), .val (.int p2), .val (.int (p2 &&& (3 : Int32))), .val (.int c), .val (.int (0 : Int32)), .val (.int (0 : Int32)), .val (.int (0 : Int32)), .val (.int (0 : Int32))] [(.int (0 : Int32)), (.int (0 : Int32))])) (fun _ k => XS.iload X12.here hx rfl (hb hby at_133) rfl  k) ?_
      have hc14 : (0 : Int32) = (0 : Int32) := by decide
      refine own_go (B := T12.setTop (mkF m 138 #[.val (.int p1), .val (.int p2), .val (.int (p2 &&& (3 : Int32))), .val (.int c), .val (.int (0 : Int32)), .val (.int (0 : Int32)), .val (.int (0 : Int32)), .val (.int (0 : Int32))] [])) (fun _ k => XS.icmpNo X12.here hx rfl (hb hby at_135) rfl (teq hc14).2 k) ?_
      refine own_go (B := T12.setTop (mkF m 139 #[.val (.int p1), .val (.int p2), .val (.int (p2 &&& (3 : Int32))), .val (.int c), .val (.int (0 : Int32)), .val (.int (0 : Int32)), .val (.int (0 : Int32)), .val (.int (0 : Int32))] [(.int (1 : Int32))])) (fun _ k => XS.iconst X12.here hx rfl (hb hby at_138) k) ?_
      refine own_go (B := T12.setTop (mkF m 143 #[.val (.int p1), .val (.int p2), .val (.int (p2 &&& (3 : Int32))), .val (.int c), .val (.int (0 : Int32)), .val (.int (0 : Int32)), .val (.int (0 : Int32)), .val (.int (0 : Int32))] [(.int (1 : Int32))])) (fun _ k => XS.goto X12.here hx rfl (pc0 := 139) (pc' := 143) rfl (hb hby at_139) (by decide) (by decide) k) ?_
      exact own_retN X12 hx Bd.notSynchronized (t := .boolean) (w := (1 : Int32)) Bd.returns (by simp) (hb hby at_143) e12 rfl ⟨rfl, N12, rfl⟩ (by decide) (by decide)
    · skip
      refine own_go (B := s₁.setTop (mkF m 53 #[.val (.int p1), .val (.int p2), .val (.int (p2 &&& (3 : Int32))), .val (.int c), .unset, .unset, .unset, .unset] [])) (fun _ k => XS.ifNo X0.here hx rfl (hb hby at_50) rfl ((if0 _ _).trans (flt hc5).1) k) ?_
      refine own_go (B := s₁.setTop (mkF m 54 #[.val (.int p1), .val (.int p2), .val (.int (p2 &&& (3 : Int32))), .val (.int c), .unset, .unset, .unset, .unset] [(.int c)])) (fun _ k => XS.iloadN X0.here hx rfl (hb hby at_53) rfl  k) ?_
      refine own_go (B := s₁.setTop (mkF m 56 #[.val (.int p1), .val (.int p2), .val (.int (p2 &&& (3 : Int32))), .val (.int c), .unset, .unset, .unset, .unset] [(.int (31 : Int32)), (.int c)])) (fun _ k => XS.bipush X0.here hx rfl (hb hby at_54) k) ?_
      by_cases hc15 : (31 : Int32) < c
      · skip
        refine own_go (B := s₁.setTop (mkF m 63 #[.val (.int p1), .val (.int p2), .val (.int (p2 &&& (3 : Int32))), .val (.int c), .unset, .unset, .unset, .unset] [])) (fun _ k => XS.icmpYes X0.here hx rfl (pc0 := 56) (pc' := 63) rfl (hb hby at_56) rfl (tlt hc15).2.2.1 (by decide) (by decide) k) ?_
        refine own_go (B := s₁.setTop (mkF m 64 #[.val (.int p1), .val (.int p2), .val (.int (p2 &&& (3 : Int32))), .val (.int c), .unset, .unset, .unset, .unset] [(.int (0 : Int32))])) (fun _ k => XS.iconst X0.here hx rfl (hb hby at_63) k) ?_
        refine own_go (B := s₁.setTop (mkF m 66 #[.val (.int p1), .val (.int p2), .val (.int (p2 &&& (3 : Int32))), .val (.int c), .val (.int (0 : Int32)), .unset, .unset, .unset] [])) (fun _ k => XS.istore X0.here hx rfl (hb hby at_64) rfl (l' := #[.val (.int p1), .val (.int p2), .val (.int (p2 &&& (3 : Int32))), .val (.int c), .val (.int (0 : Int32)), .unset, .unset, .unset]) rfl k) ?_
        refine own_go (B := s₁.setTop (mkF m 67 #[.val (.int p1), .val (.int p2), .val (.int (p2 &&& (3 : Int32))), .val (.int c), .val (.int (0 : Int32)), .unset, .unset, .unset] [(.int c)])) (fun _ k => XS.iloadN X0.here hx rfl (hb hby at_66) rfl  k) ?_
        refine own_go (B := s₁.setTop (mkF m 69 #[.val (.int p1), .val (.int p2), .val (.int (p2 &&& (3 : Int32))), .val (.int c), .val (.int (0 : Int32)), .unset, .unset, .unset] [(.int (127 : Int32)), (.int c)])) (fun _ k => XS.bipush X0.here hx rfl (hb hby at_67) k) ?_
        by_cases hc16 : c < (127 : Int32)
        · skip
          refine own_go (B := s₁.setTop (mkF m 83 #[.val (.int p1), .val (.int p2), .val (.int (p2 &&& (3 : Int32))), .val (.int c), .val (.int (0 : Int32)), .unset, .unset, .unset] [])) (fun _ k => XS.icmpYes X0.here hx rfl (pc0 := 69) (pc' := 83) rfl (hb hby at_69) rfl (tlt hc16).1 (by decide) (by decide) k) ?_
          refine own_go (B := s₁.setTop (mkF m 84 #[.val (.int p1), .val (.int p2), .val (.int (p2 &&& (3 : Int32))), .val (.int c), .val (.int (0 : Int32)), .unset, .unset, .unset] [(.int (0 : Int32))])) (fun _ k => XS.iconst X0.here hx rfl (hb hby at_83) k) ?_
          refine own_go (B := s₁.setTop (mkF m 86 #[.val (.int p1), .val (.int p2), .val (.int (p2 &&& (3 : Int32))), .val (.int c), .val (.int (0 : Int32)), .val (.int (0 : Int32)), .unset, .unset] [])) (fun _ k => XS.istore X0.here hx rfl (hb hby at_84) rfl (l' := #[.val (.int p1), .val (.int p2), .val (.int (p2 &&& (3 : Int32))), .val (.int c), .val (.int (0 : Int32)), .val (.int (0 : Int32)), .unset, .unset]) rfl k) ?_
          refine own_go (B := s₁.setTop (mkF m 87 #[.val (.int p1), .val (.int p2), .val (.int (p2 &&& (3 : Int32))), .val (.int c), .val (.int (0 : Int32)), .val (.int (0 : Int32)), .unset, .unset] [(.int c)])) (fun _ k => XS.iloadN X0.here hx rfl (hb hby at_86) rfl  k) ?_
          refine own_go (B := s₁.setTop (mkF m 90 #[.val (.int p1), .val (.int p2), .val (.int (p2 &&& (3 : Int32))), .val (.int c), .val (.int (0 : Int32)), .val (.int (0 : Int32)), .unset, .unset] [(.int (8232 : Int32)), (.int c)])) (fun _ k => XS.sipush X0.here hx rfl (hb hby at_87) k) ?_
          have hc17 : ¬ (c = (8232 : Int32)) := (own_pl_rm0_5 c hc5 hc15 hc16)
          refine own_go (B := s₁.setTop (mkF m 93 #[.val (.int p1), .val (.int p2), .val (.int (p2 &&& (3 : Int32))), .val (.int c), .val (.int (0 : Int32)), .val (.int (0 : Int32)), .unset, .unset] [])) (fun _ k => XS.icmpNo X0.here hx rfl (hb hby at_90) rfl (feq hc17).1 k) ?_
          refine own_go (B := s₁.setTop (mkF m 94 #[.val (.int p1), .val (.int p2), .val (.int (p2 &&& (3 : Int32))), .val (.int c), .val (.int (0 : Int32)), .val (.int (0 : Int32)), .unset, .unset] [(.int c)])) (fun _ k => XS.iloadN X0.here hx rfl (hb hby at_93) rfl  k) ?_
          refine own_go (B := s₁.setTop (mkF m 97 #[.val (.int p1), .val (.int p2), .val (.int (p2 &&& (3 : Int32))), .val (.int c), .val (.int (0 : Int32)), .val (.int (0 : Int32)), .unset, .unset] [(.int (8233 : Int32)), (.int c)])) (fun _ k => XS.sipush X0.here hx rfl (hb hby at_94) k) ?_
          have hc18 : ¬ (c = (8233 : Int32)) := (own_pl_rm0_6 c hc5 hc15 hc16 hc17)
          refine own_go (B := s₁.setTop (mkF m 104 #[.val (.int p1), .val (.int p2), .val (.int (p2 &&& (3 : Int32))), .val (.int c), .val (.int (0 : Int32)), .val (.int (0 : Int32)), .unset, .unset] [])) (fun _ k => XS.icmpYes X0.here hx rfl (pc0 := 97) (pc' := 104) rfl (hb hby at_97) rfl (feq hc18).2 (by decide) (by decide) k) ?_
          refine own_go (B := s₁.setTop (mkF m 105 #[.val (.int p1), .val (.int p2), .val (.int (p2 &&& (3 : Int32))), .val (.int c), .val (.int (0 : Int32)), .val (.int (0 : Int32)), .unset, .unset] [(.int (0 : Int32))])) (fun _ k => XS.iconst X0.here hx rfl (hb hby at_104) k) ?_
          refine own_go (B := s₁.setTop (mkF m 107 #[.val (.int p1), .val (.int p2), .val (.int (p2 &&& (3 : Int32))), .val (.int c), .val (.int (0 : Int32)), .val (.int (0 : Int32)), .val (.int (0 : Int32)), .unset] [])) (fun _ k => XS.istore X0.here hx rfl (hb hby at_105) rfl (l' := #[.val (.int p1), .val (.int p2), .val (.int (p2 &&& (3 : Int32))), .val (.int c), .val (.int (0 : Int32)), .val (.int (0 : Int32)), .val (.int (0 : Int32)), .unset]) rfl k) ?_
          refine own_go (B := s₁.setTop (mkF m 109 #[.val (.int p1), .val (.int p2), .val (.int (p2 &&& (3 : Int32))), .val (.int c), .val (.int (0 : Int32)), .val (.int (0 : Int32)), .val (.int (0 : Int32)), .unset] [(.int (0 : Int32))])) (fun _ k => XS.iload X0.here hx rfl (hb hby at_107) rfl  k) ?_
          have hc19 : (0 : Int32) = (0 : Int32) := by decide
          refine own_go (B := s₁.setTop (mkF m 112 #[.val (.int p1), .val (.int p2), .val (.int (p2 &&& (3 : Int32))), .val (.int c), .val (.int (0 : Int32)), .val (.int (0 : Int32)), .val (.int (0 : Int32)), .unset] [])) (fun _ k => XS.ifNo X0.here hx rfl (hb hby at_109) rfl ((if0 _ _).trans (teq hc19).2) k) ?_
          refine own_go (B := s₁.setTop (mkF m 114 #[.val (.int p1), .val (.int p2), .val (.int (p2 &&& (3 : Int32))), .val (.int c), .val (.int (0 : Int32)), .val (.int (0 : Int32)), .val (.int (0 : Int32)), .unset] [(.int (0 : Int32))])) (fun _ k => XS.iload X0.here hx rfl (hb hby at_112) rfl  k) ?_
          have hc20 : (0 : Int32) = (0 : Int32) := by decide
          refine own_go (B := s₁.setTop (mkF m 117 #[.val (.int p1), .val (.int p2), .val (.int (p2 &&& (3 : Int32))), .val (.int c), .val (.int (0 : Int32)), .val (.int (0 : Int32)), .val (.int (0 : Int32)), .unset] [])) (fun _ k => XS.ifNo X0.here hx rfl (hb hby at_114) rfl ((if0 _ _).trans (teq hc20).2) k) ?_
          refine own_go (B := s₁.setTop (mkF m 119 #[.val (.int p1), .val (.int p2), .val (.int (p2 &&& (3 : Int32))), .val (.int c), .val (.int (0 : Int32)), .val (.int (0 : Int32)), .val (.int (0 : Int32)), .unset] [(.int (0 : Int32))])) (fun _ k => XS.iload X0.here hx rfl (hb hby at_117) rfl  k) ?_
          have hc21 : (0 : Int32) = (0 : Int32) := by decide
          refine own_go (B := s₁.setTop (mkF m 126 #[.val (.int p1), .val (.int p2), .val (.int (p2 &&& (3 : Int32))), .val (.int c), .val (.int (0 : Int32)), .val (.int (0 : Int32)), .val (.int (0 : Int32)), .unset] [])) (fun _ k => XS.ifYes X0.here hx rfl (pc0 := 119) (pc' := 126) rfl (hb hby at_119) rfl ((if0 _ _).trans (teq hc21).1) (by decide) (by decide) k) ?_
          refine own_go (B := s₁.setTop (mkF m 127 #[.val (.int p1), .val (.int p2), .val (.int (p2 &&& (3 : Int32))), .val (.int c), .val (.int (0 : Int32)), .val (.int (0 : Int32)), .val (.int (0 : Int32)), .unset] [(.int (0 : Int32))])) (fun _ k => XS.iconst X0.here hx rfl (hb hby at_126) k) ?_
          refine own_go (B := s₁.setTop (mkF m 129 #[.val (.int p1), .val (.int p2), .val (.int (p2 &&& (3 : Int32))), .val (.int c), .val (.int (0 : Int32)), .val (.int (0 : Int32)), .val (.int (0 : Int32)), .val (.int (0 : Int32))] [])) (fun _ k => XS.istore X0.here hx rfl (hb hby at_127) rfl (l' := #[.val (.int p1), .val (.int p2), .val (.int (p2 &&& (3 : Int32))), .val (.int c), .val (.int (0 : Int32)), .val (.int (0 : Int32)), .val (.int (0 : Int32)), .val (.int (0 : Int32))]) rfl k) ?_
          refine own_go (B := s₁.setTop (mkF m 130 #[.val (.int p1), .val (.int p2), .val (.int (p2 &&& (3 : Int32))), .val (.int c), .val (.int (0 : Int32)), .val (.int (0 : Int32)), .val (.int (0 : Int32)), .val (.int (0 : Int32))] [(.int c)])) (fun _ k => XS.iloadN X0.here hx rfl (hb hby at_129) rfl  k) ?_
          obtain ⟨_, _, ⟨T22, L22, k22, n22⟩, -, X22, ⟨Lc22, hQ22, l22, y22, z22⟩, st22⟩ := Jvm.LawKit.callS X0 hx (y := (⟨"com/example/aduana/aduana/web/LogLines", "isLineBreakOrControl", "(I)Z"⟩ : MethodName)) hown (mvT hZ (own_w hw 1 rfl)) (mvT hZ (own_w hw 2 rfl)) (mvT hZ (own_w hw 3 rfl)) (mvT hZ (own_w hw 4 rfl)) (by decide) (backOf (W := 0) (own_rm1 l Z a0 hw [] c h0 n0 (Nat.le_trans Z0 K0.1) ) hZ (own_w hw 4 rfl) (own_w hw 3 rfl) (by decide) (by decide)) (g := (mkF m 130 #[.val (.int p1), .val (.int p2), .val (.int (p2 &&& (3 : Int32))), .val (.int c), .val (.int (0 : Int32)), .val (.int (0 : Int32)), .val (.int (0 : Int32)), .val (.int (0 : Int32))] [(.int c)])) rfl (by rw [hml]; rfl) (argsL := [(.int c)]) (rest := []) (lenOf own_pd0 rfl) rfl (by show 2 * 0 + _ ≤ _; exact Nat.le_of_eq rfl) (hb hby at_130) (fun _ _ => ⟨rfl, e0, (by decide : 0 + 0 ≤ _), (by decide : 0 + 0 ≤ _)⟩)
          dsimp only [Pt.U, Pt.locs, Pt.cells, Pt.slots] at X22 l22 y22 z22 st22 hQ22
          subst l22 y22 z22
          obtain ⟨rfl, N22q, e22⟩ := hQ22
          have N22 := Fr.app N0 N22q
          refine own_go (B := T22.setTop (mkF m 133 #[.val (.int p1), .val (.int p2), .val (.int (p2 &&& (3 : Int32))), .val (.int c), .val (.int (0 : Int32)), .val (.int (0 : Int32)), .val (.int (0 : Int32)), .val (.int (0 : Int32))] [(.int (own_b (((0 ≤ c.toInt ∧ c.toInt ≤ 31) ∨ (127 ≤ c.toInt ∧ c.toInt ≤ 159)) ∨ c.toInt = 8232 ∨ c.toInt = 8233)))])) st22 ?_
          have hc23 : ¬ (((0 ≤ c.toInt ∧ c.toInt ≤ 31) ∨ (127 ≤ c.toInt ∧ c.toInt ≤ 159)) ∨ c.toInt = 8232 ∨ c.toInt = 8233) := (own_pl_rm0_7 c hc5 hc15 hc16 hc17 hc18)
          rw [own_b0 hc23]
          show own_Fin _ _ _ _ _ _ _ (T22.setTop (mkF m 133 #[.val (.int p1), .val (.int p2), .val (.int (p2 &&& (3 : Int32))), .val (.int c), .val (.int (0 : Int32)), .val (.int (0 : Int32)), .val (.int (0 : Int32)), .val (.int (0 : Int32))] [(.int (0 : Int32))]))
          refine own_go (B := T22.setTop (mkF m 135 #[.val (.int p1), .val (.int p2), .val (.int (p2 &&& (3 : Int32))), .val (.int c), .val (.int (0 : Int32)), .val (.int (0 : Int32)), .val (.int (0 : Int32)), .val (.int (0 : Int32))] [(.int (0 : Int32)), (.int (0 : Int32))])) (fun _ k => XS.iload X22.here hx rfl (hb hby at_133) rfl  k) ?_
          have hc24 : (0 : Int32) = (0 : Int32) := by decide
          refine own_go (B := T22.setTop (mkF m 138 #[.val (.int p1), .val (.int p2), .val (.int (p2 &&& (3 : Int32))), .val (.int c), .val (.int (0 : Int32)), .val (.int (0 : Int32)), .val (.int (0 : Int32)), .val (.int (0 : Int32))] [])) (fun _ k => XS.icmpNo X22.here hx rfl (hb hby at_135) rfl (teq hc24).2 k) ?_
          refine own_go (B := T22.setTop (mkF m 139 #[.val (.int p1), .val (.int p2), .val (.int (p2 &&& (3 : Int32))), .val (.int c), .val (.int (0 : Int32)), .val (.int (0 : Int32)), .val (.int (0 : Int32)), .val (.int (0 : Int32))] [(.int (1 : Int32))])) (fun _ k => XS.iconst X22.here hx rfl (hb hby at_138) k) ?_
          refine own_go (B := T22.setTop (mkF m 143 #[.val (.int p1), .val (.int p2), .val (.int (p2 &&& (3 : Int32))), .val (.int c), .val (.int (0 : Int32)), .val (.int (0 : Int32)), .val (.int (0 : Int32)), .val (.int (0 : Int32))] [(.int (1 : Int32))])) (fun _ k => XS.goto X22.here hx rfl (pc0 := 139) (pc' := 143) rfl (hb hby at_139) (by decide) (by decide) k) ?_
          exact own_retN X22 hx Bd.notSynchronized (t := .boolean) (w := (1 : Int32)) Bd.returns (by simp) (hb hby at_143) e22 rfl ⟨rfl, N22, rfl⟩ (by decide) (by decide)
        · skip
          refine own_go (B := s₁.setTop (mkF m 72 #[.val (.int p1), .val (.int p2), .val (.int (p2 &&& (3 : Int32))), .val (.int c), .val (.int (0 : Int32)), .unset, .unset, .unset] [])) (fun _ k => XS.icmpNo X0.here hx rfl (hb hby at_69) rfl (flt hc16).1 k) ?_
          refine own_go (B := s₁.setTop (mkF m 73 #[.val (.int p1), .val (.int p2), .val (.int (p2 &&& (3 : Int32))), .val (.int c), .val (.int (0 : Int32)), .unset, .unset, .unset] [(.int c)])) (fun _ k => XS.iloadN X0.here hx rfl (hb hby at_72) rfl  k) ?_
          refine own_go (B := s₁.setTop (mkF m 76 #[.val (.int p1), .val (.int p2), .val (.int (p2 &&& (3 : Int32))), .val (.int c), .val (.int (0 : Int32)), .unset, .unset, .unset] [(.int (159 : Int32)), (.int c)])) (fun _ k => XS.sipush X0.here hx rfl (hb hby at_73) k) ?_
          by_cases hc25 : (159 : Int32) < c
          · skip
            refine own_go (B := s₁.setTop (mkF m 83 #[.val (.int p1), .val (.int p2), .val (.int (p2 &&& (3 : Int32))), .val (.int c), .val (.int (0 : Int32)), .unset, .unset, .unset] [])) (fun _ k => XS.icmpYes X0.here hx rfl (pc0 := 76) (pc' := 83) rfl (hb hby at_76) rfl (tlt hc25).2.2.1 (by decide) (by decide) k) ?_
            refine own_go (B := s₁.setTop (mkF m 84 #[.val (.int p1), .val (.int p2), .val (.int (p2 &&& (3 : Int32))), .val (.int c), .val (.int (0 : Int32)), .unset, .unset, .unset] [(.int (0 : Int32))])) (fun _ k => XS.iconst X0.here hx rfl (hb hby at_83) k) ?_
            refine own_go (B := s₁.setTop (mkF m 86 #[.val (.int p1), .val (.int p2), .val (.int (p2 &&& (3 : Int32))), .val (.int c), .val (.int (0 : Int32)), .val (.int (0 : Int32)), .unset, .unset] [])) (fun _ k => XS.istore X0.here hx rfl (hb hby at_84) rfl (l' := #[.val (.int p1), .val (.int p2), .val (.int (p2 &&& (3 : Int32))), .val (.int c), .val (.int (0 : Int32)), .val (.int (0 : Int32)), .unset, .unset]) rfl k) ?_
            refine own_go (B := s₁.setTop (mkF m 87 #[.val (.int p1), .val (.int p2), .val (.int (p2 &&& (3 : Int32))), .val (.int c), .val (.int (0 : Int32)), .val (.int (0 : Int32)), .unset, .unset] [(.int c)])) (fun _ k => XS.iloadN X0.here hx rfl (hb hby at_86) rfl  k) ?_
            refine own_go (B := s₁.setTop (mkF m 90 #[.val (.int p1), .val (.int p2), .val (.int (p2 &&& (3 : Int32))), .val (.int c), .val (.int (0 : Int32)), .val (.int (0 : Int32)), .unset, .unset] [(.int (8232 : Int32)), (.int c)])) (fun _ k => XS.sipush X0.here hx rfl (hb hby at_87) k) ?_
            by_cases hc26 : c = (8232 : Int32)
            · skip
              refine own_go (B := s₁.setTop (mkF m 100 #[.val (.int p1), .val (.int p2), .val (.int (p2 &&& (3 : Int32))), .val (.int c), .val (.int (0 : Int32)), .val (.int (0 : Int32)), .unset, .unset] [])) (fun _ k => XS.icmpYes X0.here hx rfl (pc0 := 90) (pc' := 100) rfl (hb hby at_90) rfl (teq hc26).1 (by decide) (by decide) k) ?_
              refine own_go (B := s₁.setTop (mkF m 101 #[.val (.int p1), .val (.int p2), .val (.int (p2 &&& (3 : Int32))), .val (.int c), .val (.int (0 : Int32)), .val (.int (0 : Int32)), .unset, .unset] [(.int (1 : Int32))])) (fun _ k => XS.iconst X0.here hx rfl (hb hby at_100) k) ?_
              refine own_go (B := s₁.setTop (mkF m 105 #[.val (.int p1), .val (.int p2), .val (.int (p2 &&& (3 : Int32))), .val (.int c), .val (.int (0 : Int32)), .val (.int (0 : Int32)), .unset, .unset] [(.int (1 : Int32))])) (fun _ k => XS.goto X0.here hx rfl (pc0 := 101) (pc' := 105) rfl (hb hby at_101) (by decide) (by decide) k) ?_
              refine own_go (B := s₁.setTop (mkF m 107 #[.val (.int p1), .val (.int p2), .val (.int (p2 &&& (3 : Int32))), .val (.int c), .val (.int (0 : Int32)), .val (.int (0 : Int32)), .val (.int (1 : Int32)), .unset] [])) (fun _ k => XS.istore X0.here hx rfl (hb hby at_105) rfl (l' := #[.val (.int p1), .val (.int p2), .val (.int (p2 &&& (3 : Int32))), .val (.int c), .val (.int (0 : Int32)), .val (.int (0 : Int32)), .val (.int (1 : Int32)), .unset]) rfl k) ?_
              refine own_go (B := s₁.setTop (mkF m 109 #[.val (.int p1), .val (.int p2), .val (.int (p2 &&& (3 : Int32))), .val (.int c), .val (.int (0 : Int32)), .val (.int (0 : Int32)), .val (.int (1 : Int32)), .unset] [(.int (0 : Int32))])) (fun _ k => XS.iload X0.here hx rfl (hb hby at_107) rfl  k) ?_
              have hc27 : (0 : Int32) = (0 : Int32) := by decide
              refine own_go (B := s₁.setTop (mkF m 112 #[.val (.int p1), .val (.int p2), .val (.int (p2 &&& (3 : Int32))), .val (.int c), .val (.int (0 : Int32)), .val (.int (0 : Int32)), .val (.int (1 : Int32)), .unset] [])) (fun _ k => XS.ifNo X0.here hx rfl (hb hby at_109) rfl ((if0 _ _).trans (teq hc27).2) k) ?_
              refine own_go (B := s₁.setTop (mkF m 114 #[.val (.int p1), .val (.int p2), .val (.int (p2 &&& (3 : Int32))), .val (.int c), .val (.int (0 : Int32)), .val (.int (0 : Int32)), .val (.int (1 : Int32)), .unset] [(.int (0 : Int32))])) (fun _ k => XS.iload X0.here hx rfl (hb hby at_112) rfl  k) ?_
              have hc28 : (0 : Int32) = (0 : Int32) := by decide
              refine own_go (B := s₁.setTop (mkF m 117 #[.val (.int p1), .val (.int p2), .val (.int (p2 &&& (3 : Int32))), .val (.int c), .val (.int (0 : Int32)), .val (.int (0 : Int32)), .val (.int (1 : Int32)), .unset] [])) (fun _ k => XS.ifNo X0.here hx rfl (hb hby at_114) rfl ((if0 _ _).trans (teq hc28).2) k) ?_
              refine own_go (B := s₁.setTop (mkF m 119 #[.val (.int p1), .val (.int p2), .val (.int (p2 &&& (3 : Int32))), .val (.int c), .val (.int (0 : Int32)), .val (.int (0 : Int32)), .val (.int (1 : Int32)), .unset] [(.int (1 : Int32))])) (fun _ k => XS.iload X0.here hx rfl (hb hby at_117) rfl  k) ?_
              have hc29 : ¬ ((1 : Int32) = (0 : Int32)) := by decide
              refine own_go (B := s₁.setTop (mkF m 122 #[.val (.int p1), .val (.int p2), .val (.int (p2 &&& (3 : Int32))), .val (.int c), .val (.int (0 : Int32)), .val (.int (0 : Int32)), .val (.int (1 : Int32)), .unset] [])) (fun _ k => XS.ifNo X0.here hx rfl (hb hby at_119) rfl ((if0 _ _).trans (feq hc29).1) k) ?_
              refine own_go (B := s₁.setTop (mkF m 123 #[.val (.int p1), .val (.int p2), .val (.int (p2 &&& (3 : Int32))), .val (.int c), .val (.int (0 : Int32)), .val (.int (0 : Int32)), .val (.int (1 : Int32)), .unset] [(.int (1 : Int32))])) (fun _ k => XS.iconst X0.here hx rfl (hb hby at_122) k) ?_
              refine own_go (B := s₁.setTop (mkF m 127 #[.val (.int p1), .val (.int p2), .val (.int (p2 &&& (3 : Int32))), .val (.int c), .val (.int (0 : Int32)), .val (.int (0 : Int32)), .val (.int (1 : Int32)), .unset] [(.int (1 : Int32))])) (fun _ k => XS.goto X0.here hx rfl (pc0 := 123) (pc' := 127) rfl (hb hby at_123) (by decide) (by decide) k) ?_
              refine own_go (B := s₁.setTop (mkF m 129 #[.val (.int p1), .val (.int p2), .val (.int (p2 &&& (3 : Int32))), .val (.int c), .val (.int (0 : Int32)), .val (.int (0 : Int32)), .val (.int (1 : Int32)), .val (.int (1 : Int32))] [])) (fun _ k => XS.istore X0.here hx rfl (hb hby at_127) rfl (l' := #[.val (.int p1), .val (.int p2), .val (.int (p2 &&& (3 : Int32))), .val (.int c), .val (.int (0 : Int32)), .val (.int (0 : Int32)), .val (.int (1 : Int32)), .val (.int (1 : Int32))]) rfl k) ?_
              refine own_go (B := s₁.setTop (mkF m 130 #[.val (.int p1), .val (.int p2), .val (.int (p2 &&& (3 : Int32))), .val (.int c), .val (.int (0 : Int32)), .val (.int (0 : Int32)), .val (.int (1 : Int32)), .val (.int (1 : Int32))] [(.int c)])) (fun _ k => XS.iloadN X0.here hx rfl (hb hby at_129) rfl  k) ?_
              obtain ⟨_, _, ⟨T30, L30, k30, n30⟩, -, X30, ⟨Lc30, hQ30, l30, y30, z30⟩, st30⟩ := Jvm.LawKit.callS X0 hx (y := (⟨"com/example/aduana/aduana/web/LogLines", "isLineBreakOrControl", "(I)Z"⟩ : MethodName)) hown (mvT hZ (own_w hw 1 rfl)) (mvT hZ (own_w hw 2 rfl)) (mvT hZ (own_w hw 3 rfl)) (mvT hZ (own_w hw 4 rfl)) (by decide) (backOf (W := 0) (own_rm1 l Z a0 hw [] c h0 n0 (Nat.le_trans Z0 K0.1) ) hZ (own_w hw 4 rfl) (own_w hw 3 rfl) (by decide) (by decide)) (g := (mkF m 130 #[.val (.int p1), .val (.int p2), .val (.int (p2 &&& (3 : Int32))), .val (.int c), .val (.int (0 : Int32)), .val (.int (0 : Int32)), .val (.int (1 : Int32)), .val (.int (1 : Int32))] [(.int c)])) rfl (by rw [hml]; rfl) (argsL := [(.int c)]) (rest := []) (lenOf own_pd0 rfl) rfl (by show 2 * 0 + _ ≤ _; exact Nat.le_of_eq rfl) (hb hby at_130) (fun _ _ => ⟨rfl, e0, (by decide : 0 + 0 ≤ _), (by decide : 0 + 0 ≤ _)⟩)
              dsimp only [Pt.U, Pt.locs, Pt.cells, Pt.slots] at X30 l30 y30 z30 st30 hQ30
              subst l30 y30 z30
              obtain ⟨rfl, N30q, e30⟩ := hQ30
              have N30 := Fr.app N0 N30q
              refine own_go (B := T30.setTop (mkF m 133 #[.val (.int p1), .val (.int p2), .val (.int (p2 &&& (3 : Int32))), .val (.int c), .val (.int (0 : Int32)), .val (.int (0 : Int32)), .val (.int (1 : Int32)), .val (.int (1 : Int32))] [(.int (own_b (((0 ≤ c.toInt ∧ c.toInt ≤ 31) ∨ (127 ≤ c.toInt ∧ c.toInt ≤ 159)) ∨ c.toInt = 8232 ∨ c.toInt = 8233)))])) st30 ?_
              have hc31 : ((0 ≤ c.toInt ∧ c.toInt ≤ 31) ∨ (127 ≤ c.toInt ∧ c.toInt ≤ 159)) ∨ c.toInt = 8232 ∨ c.toInt = 8233 := (own_pl_rm0_8 c hc5 hc15 hc16 hc25 hc26)
              rw [own_b1 hc31]
              show own_Fin _ _ _ _ _ _ _ (T30.setTop (mkF m 133 #[.val (.int p1), .val (.int p2), .val (.int (p2 &&& (3 : Int32))), .val (.int c), .val (.int (0 : Int32)), .val (.int (0 : Int32)), .val (.int (1 : Int32)), .val (.int (1 : Int32))] [(.int (1 : Int32))]))
              refine own_go (B := T30.setTop (mkF m 135 #[.val (.int p1), .val (.int p2), .val (.int (p2 &&& (3 : Int32))), .val (.int c), .val (.int (0 : Int32)), .val (.int (0 : Int32)), .val (.int (1 : Int32)), .val (.int (1 : Int32))] [(.int (1 : Int32)), (.int (1 : Int32))])) (fun _ k => XS.iload X30.here hx rfl (hb hby at_133) rfl  k) ?_
              have hc32 : (1 : Int32) = (1 : Int32) := by decide
              refine own_go (B := T30.setTop (mkF m 138 #[.val (.int p1), .val (.int p2), .val (.int (p2 &&& (3 : Int32))), .val (.int c), .val (.int (0 : Int32)), .val (.int (0 : Int32)), .val (.int (1 : Int32)), .val (.int (1 : Int32))] [])) (fun _ k => XS.icmpNo X30.here hx rfl (hb hby at_135) rfl (teq hc32).2 k) ?_
              refine own_go (B := T30.setTop (mkF m 139 #[.val (.int p1), .val (.int p2), .val (.int (p2 &&& (3 : Int32))), .val (.int c), .val (.int (0 : Int32)), .val (.int (0 : Int32)), .val (.int (1 : Int32)), .val (.int (1 : Int32))] [(.int (1 : Int32))])) (fun _ k => XS.iconst X30.here hx rfl (hb hby at_138) k) ?_
              refine own_go (B := T30.setTop (mkF m 143 #[.val (.int p1), .val (.int p2), .val (.int (p2 &&& (3 : Int32))), .val (.int c), .val (.int (0 : Int32)), .val (.int (0 : Int32)), .val (.int (1 : Int32)), .val (.int (1 : Int32))] [(.int (1 : Int32))])) (fun _ k => XS.goto X30.here hx rfl (pc0 := 139) (pc' := 143) rfl (hb hby at_139) (by decide) (by decide) k) ?_
              exact own_retN X30 hx Bd.notSynchronized (t := .boolean) (w := (1 : Int32)) Bd.returns (by simp) (hb hby at_143) e30 rfl ⟨rfl, N30, rfl⟩ (by decide) (by decide)
            · skip
              refine own_go (B := s₁.setTop (mkF m 93 #[.val (.int p1), .val (.int p2), .val (.int (p2 &&& (3 : Int32))), .val (.int c), .val (.int (0 : Int32)), .val (.int (0 : Int32)), .unset, .unset] [])) (fun _ k => XS.icmpNo X0.here hx rfl (hb hby at_90) rfl (feq hc26).1 k) ?_
              refine own_go (B := s₁.setTop (mkF m 94 #[.val (.int p1), .val (.int p2), .val (.int (p2 &&& (3 : Int32))), .val (.int c), .val (.int (0 : Int32)), .val (.int (0 : Int32)), .unset, .unset] [(.int c)])) (fun _ k => XS.iloadN X0.here hx rfl (hb hby at_93) rfl  k) ?_
              refine own_go (B := s₁.setTop (mkF m 97 #[.val (.int p1), .val (.int p2), .val (.int (p2 &&& (3 : Int32))), .val (.int c), .val (.int (0 : Int32)), .val (.int (0 : Int32)), .unset, .unset] [(.int (8233 : Int32)), (.int c)])) (fun _ k => XS.sipush X0.here hx rfl (hb hby at_94) k) ?_
              by_cases hc33 : c = (8233 : Int32)
              · skip
                refine own_go (B := s₁.setTop (mkF m 100 #[.val (.int p1), .val (.int p2), .val (.int (p2 &&& (3 : Int32))), .val (.int c), .val (.int (0 : Int32)), .val (.int (0 : Int32)), .unset, .unset] [])) (fun _ k => XS.icmpNo X0.here hx rfl (hb hby at_97) rfl (teq hc33).2 k) ?_
                refine own_go (B := s₁.setTop (mkF m 101 #[.val (.int p1), .val (.int p2), .val (.int (p2 &&& (3 : Int32))), .val (.int c), .val (.int (0 : Int32)), .val (.int (0 : Int32)), .unset, .unset] [(.int (1 : Int32))])) (fun _ k => XS.iconst X0.here hx rfl (hb hby at_100) k) ?_
                refine own_go (B := s₁.setTop (mkF m 105 #[.val (.int p1), .val (.int p2), .val (.int (p2 &&& (3 : Int32))), .val (.int c), .val (.int (0 : Int32)), .val (.int (0 : Int32)), .unset, .unset] [(.int (1 : Int32))])) (fun _ k => XS.goto X0.here hx rfl (pc0 := 101) (pc' := 105) rfl (hb hby at_101) (by decide) (by decide) k) ?_
                refine own_go (B := s₁.setTop (mkF m 107 #[.val (.int p1), .val (.int p2), .val (.int (p2 &&& (3 : Int32))), .val (.int c), .val (.int (0 : Int32)), .val (.int (0 : Int32)), .val (.int (1 : Int32)), .unset] [])) (fun _ k => XS.istore X0.here hx rfl (hb hby at_105) rfl (l' := #[.val (.int p1), .val (.int p2), .val (.int (p2 &&& (3 : Int32))), .val (.int c), .val (.int (0 : Int32)), .val (.int (0 : Int32)), .val (.int (1 : Int32)), .unset]) rfl k) ?_
                refine own_go (B := s₁.setTop (mkF m 109 #[.val (.int p1), .val (.int p2), .val (.int (p2 &&& (3 : Int32))), .val (.int c), .val (.int (0 : Int32)), .val (.int (0 : Int32)), .val (.int (1 : Int32)), .unset] [(.int (0 : Int32))])) (fun _ k => XS.iload X0.here hx rfl (hb hby at_107) rfl  k) ?_
                have hc34 : (0 : Int32) = (0 : Int32) := by decide
                refine own_go (B := s₁.setTop (mkF m 112 #[.val (.int p1), .val (.int p2), .val (.int (p2 &&& (3 : Int32))), .val (.int c), .val (.int (0 : Int32)), .val (.int (0 : Int32)), .val (.int (1 : Int32)), .unset] [])) (fun _ k => XS.ifNo X0.here hx rfl (hb hby at_109) rfl ((if0 _ _).trans (teq hc34).2) k) ?_
                refine own_go (B := s₁.setTop (mkF m 114 #[.val (.int p1), .val (.int p2), .val (.int (p2 &&& (3 : Int32))), .val (.int c), .val (.int (0 : Int32)), .val (.int (0 : Int32)), .val (.int (1 : Int32)), .unset] [(.int (0 : Int32))])) (fun _ k => XS.iload X0.here hx rfl (hb hby at_112) rfl  k) ?_
                have hc35 : (0 : Int32) = (0 : Int32) := by decide
                refine own_go (B := s₁.setTop (mkF m 117 #[.val (.int p1), .val (.int p2), .val (.int (p2 &&& (3 : Int32))), .val (.int c), .val (.int (0 : Int32)), .val (.int (0 : Int32)), .val (.int (1 : Int32)), .unset] [])) (fun _ k => XS.ifNo X0.here hx rfl (hb hby at_114) rfl ((if0 _ _).trans (teq hc35).2) k) ?_
                refine own_go (B := s₁.setTop (mkF m 119 #[.val (.int p1), .val (.int p2), .val (.int (p2 &&& (3 : Int32))), .val (.int c), .val (.int (0 : Int32)), .val (.int (0 : Int32)), .val (.int (1 : Int32)), .unset] [(.int (1 : Int32))])) (fun _ k => XS.iload X0.here hx rfl (hb hby at_117) rfl  k) ?_
                have hc36 : ¬ ((1 : Int32) = (0 : Int32)) := by decide
                refine own_go (B := s₁.setTop (mkF m 122 #[.val (.int p1), .val (.int p2), .val (.int (p2 &&& (3 : Int32))), .val (.int c), .val (.int (0 : Int32)), .val (.int (0 : Int32)), .val (.int (1 : Int32)), .unset] [])) (fun _ k => XS.ifNo X0.here hx rfl (hb hby at_119) rfl ((if0 _ _).trans (feq hc36).1) k) ?_
                refine own_go (B := s₁.setTop (mkF m 123 #[.val (.int p1), .val (.int p2), .val (.int (p2 &&& (3 : Int32))), .val (.int c), .val (.int (0 : Int32)), .val (.int (0 : Int32)), .val (.int (1 : Int32)), .unset] [(.int (1 : Int32))])) (fun _ k => XS.iconst X0.here hx rfl (hb hby at_122) k) ?_
                refine own_go (B := s₁.setTop (mkF m 127 #[.val (.int p1), .val (.int p2), .val (.int (p2 &&& (3 : Int32))), .val (.int c), .val (.int (0 : Int32)), .val (.int (0 : Int32)), .val (.int (1 : Int32)), .unset] [(.int (1 : Int32))])) (fun _ k => XS.goto X0.here hx rfl (pc0 := 123) (pc' := 127) rfl (hb hby at_123) (by decide) (by decide) k) ?_
                refine own_go (B := s₁.setTop (mkF m 129 #[.val (.int p1), .val (.int p2), .val (.int (p2 &&& (3 : Int32))), .val (.int c), .val (.int (0 : Int32)), .val (.int (0 : Int32)), .val (.int (1 : Int32)), .val (.int (1 : Int32))] [])) (fun _ k => XS.istore X0.here hx rfl (hb hby at_127) rfl (l' := #[.val (.int p1), .val (.int p2), .val (.int (p2 &&& (3 : Int32))), .val (.int c), .val (.int (0 : Int32)), .val (.int (0 : Int32)), .val (.int (1 : Int32)), .val (.int (1 : Int32))]) rfl k) ?_
                refine own_go (B := s₁.setTop (mkF m 130 #[.val (.int p1), .val (.int p2), .val (.int (p2 &&& (3 : Int32))), .val (.int c), .val (.int (0 : Int32)), .val (.int (0 : Int32)), .val (.int (1 : Int32)), .val (.int (1 : Int32))] [(.int c)])) (fun _ k => XS.iloadN X0.here hx rfl (hb hby at_129) rfl  k) ?_
                obtain ⟨_, _, ⟨T37, L37, k37, n37⟩, -, X37, ⟨Lc37, hQ37, l37, y37, z37⟩, st37⟩ := Jvm.LawKit.callS X0 hx (y := (⟨"com/example/aduana/aduana/web/LogLines", "isLineBreakOrControl", "(I)Z"⟩ : MethodName)) hown (mvT hZ (own_w hw 1 rfl)) (mvT hZ (own_w hw 2 rfl)) (mvT hZ (own_w hw 3 rfl)) (mvT hZ (own_w hw 4 rfl)) (by decide) (backOf (W := 0) (own_rm1 l Z a0 hw [] c h0 n0 (Nat.le_trans Z0 K0.1) ) hZ (own_w hw 4 rfl) (own_w hw 3 rfl) (by decide) (by decide)) (g := (mkF m 130 #[.val (.int p1), .val (.int p2), .val (.int (p2 &&& (3 : Int32))), .val (.int c), .val (.int (0 : Int32)), .val (.int (0 : Int32)), .val (.int (1 : Int32)), .val (.int (1 : Int32))] [(.int c)])) rfl (by rw [hml]; rfl) (argsL := [(.int c)]) (rest := []) (lenOf own_pd0 rfl) rfl (by show 2 * 0 + _ ≤ _; exact Nat.le_of_eq rfl) (hb hby at_130) (fun _ _ => ⟨rfl, e0, (by decide : 0 + 0 ≤ _), (by decide : 0 + 0 ≤ _)⟩)
                dsimp only [Pt.U, Pt.locs, Pt.cells, Pt.slots] at X37 l37 y37 z37 st37 hQ37
                subst l37 y37 z37
                obtain ⟨rfl, N37q, e37⟩ := hQ37
                have N37 := Fr.app N0 N37q
                refine own_go (B := T37.setTop (mkF m 133 #[.val (.int p1), .val (.int p2), .val (.int (p2 &&& (3 : Int32))), .val (.int c), .val (.int (0 : Int32)), .val (.int (0 : Int32)), .val (.int (1 : Int32)), .val (.int (1 : Int32))] [(.int (own_b (((0 ≤ c.toInt ∧ c.toInt ≤ 31) ∨ (127 ≤ c.toInt ∧ c.toInt ≤ 159)) ∨ c.toInt = 8232 ∨ c.toInt = 8233)))])) st37 ?_
                have hc38 : ((0 ≤ c.toInt ∧ c.toInt ≤ 31) ∨ (127 ≤ c.toInt ∧ c.toInt ≤ 159)) ∨ c.toInt = 8232 ∨ c.toInt = 8233 := (own_pl_rm0_9 c hc5 hc15 hc16 hc25 hc26 hc33)
                rw [own_b1 hc38]
                show own_Fin _ _ _ _ _ _ _ (T37.setTop (mkF m 133 #[.val (.int p1), .val (.int p2), .val (.int (p2 &&& (3 : Int32))), .val (.int c), .val (.int (0 : Int32)), .val (.int (0 : Int32)), .val (.int (1 : Int32)), .val (.int (1 : Int32))] [(.int (1 : Int32))]))
                refine own_go (B := T37.setTop (mkF m 135 #[.val (.int p1), .val (.int p2), .val (.int (p2 &&& (3 : Int32))), .val (.int c), .val (.int (0 : Int32)), .val (.int (0 : Int32)), .val (.int (1 : Int32)), .val (.int (1 : Int32))] [(.int (1 : Int32)), (.int (1 : Int32))])) (fun _ k => XS.iload X37.here hx rfl (hb hby at_133) rfl  k) ?_
                have hc39 : (1 : Int32) = (1 : Int32) := by decide
                refine own_go (B := T37.setTop (mkF m 138 #[.val (.int p1), .val (.int p2), .val (.int (p2 &&& (3 : Int32))), .val (.int c), .val (.int (0 : Int32)), .val (.int (0 : Int32)), .val (.int (1 : Int32)), .val (.int (1 : Int32))] [])) (fun _ k => XS.icmpNo X37.here hx rfl (hb hby at_135) rfl (teq hc39).2 k) ?_
                refine own_go (B := T37.setTop (mkF m 139 #[.val (.int p1), .val (.int p2), .val (.int (p2 &&& (3 : Int32))), .val (.int c), .val (.int (0 : Int32)), .val (.int (0 : Int32)), .val (.int (1 : Int32)), .val (.int (1 : Int32))] [(.int (1 : Int32))])) (fun _ k => XS.iconst X37.here hx rfl (hb hby at_138) k) ?_
                refine own_go (B := T37.setTop (mkF m 143 #[.val (.int p1), .val (.int p2), .val (.int (p2 &&& (3 : Int32))), .val (.int c), .val (.int (0 : Int32)), .val (.int (0 : Int32)), .val (.int (1 : Int32)), .val (.int (1 : Int32))] [(.int (1 : Int32))])) (fun _ k => XS.goto X37.here hx rfl (pc0 := 139) (pc' := 143) rfl (hb hby at_139) (by decide) (by decide) k) ?_
                exact own_retN X37 hx Bd.notSynchronized (t := .boolean) (w := (1 : Int32)) Bd.returns (by simp) (hb hby at_143) e37 rfl ⟨rfl, N37, rfl⟩ (by decide) (by decide)
              · skip
                refine own_go (B := s₁.setTop (mkF m 104 #[.val (.int p1), .val (.int p2), .val (.int (p2 &&& (3 : Int32))), .val (.int c), .val (.int (0 : Int32)), .val (.int (0 : Int32)), .unset, .unset] [])) (fun _ k => XS.icmpYes X0.here hx rfl (pc0 := 97) (pc' := 104) rfl (hb hby at_97) rfl (feq hc33).2 (by decide) (by decide) k) ?_
                refine own_go (B := s₁.setTop (mkF m 105 #[.val (.int p1), .val (.int p2), .val (.int (p2 &&& (3 : Int32))), .val (.int c), .val (.int (0 : Int32)), .val (.int (0 : Int32)), .unset, .unset] [(.int (0 : Int32))])) (fun _ k => XS.iconst X0.here hx rfl (hb hby at_104) k) ?_
                refine own_go (B := s₁.setTop (mkF m 107 #[.val (.int p1), .val (.int p2), .val (.int (p2 &&& (3 : Int32))), .val (.int c), .val (.int (0 : Int32)), .val (.int (0 : Int32)), .val (.int (0 : Int32)), .unset] [])) (fun _ k => XS.istore X0.here hx rfl (hb hby at_105) rfl (l' := #[.val (.int p1), .val (.int p2), .val (.int (p2 &&& (3 : Int32))), .val (.int c), .val (.int (0 : Int32)), .val (.int (0 : Int32)), .val (.int (0 : Int32)), .unset]) rfl k) ?_
                refine own_go (B := s₁.setTop (mkF m 109 #[.val (.int p1), .val (.int p2), .val (.int (p2 &&& (3 : Int32))), .val (.int c), .val (.int (0 : Int32)), .val (.int (0 : Int32)), .val (.int (0 : Int32)), .unset] [(.int (0 : Int32))])) (fun _ k => XS.iload X0.here hx rfl (hb hby at_107) rfl  k) ?_
                have hc40 : (0 : Int32) = (0 : Int32) := by decide
                refine own_go (B := s₁.setTop (mkF m 112 #[.val (.int p1), .val (.int p2), .val (.int (p2 &&& (3 : Int32))), .val (.int c), .val (.int (0 : Int32)), .val (.int (0 : Int32)), .val (.int (0 : Int32)), .unset] [])) (fun _ k => XS.ifNo X0.here hx rfl (hb hby at_109) rfl ((if0 _ _).trans (teq hc40).2) k) ?_
                refine own_go (B := s₁.setTop (mkF m 114 #[.val (.int p1), .val (.int p2), .val (.int (p2 &&& (3 : Int32))), .val (.int c), .val (.int (0 : Int32)), .val (.int (0 : Int32)), .val (.int (0 : Int32)), .unset] [(.int (0 : Int32))])) (fun _ k => XS.iload X0.here hx rfl (hb hby at_112) rfl  k) ?_
                have hc41 : (0 : Int32) = (0 : Int32) := by decide
                refine own_go (B := s₁.setTop (mkF m 117 #[.val (.int p1), .val (.int p2), .val (.int (p2 &&& (3 : Int32))), .val (.int c), .val (.int (0 : Int32)), .val (.int (0 : Int32)), .val (.int (0 : Int32)), .unset] [])) (fun _ k => XS.ifNo X0.here hx rfl (hb hby at_114) rfl ((if0 _ _).trans (teq hc41).2) k) ?_
                refine own_go (B := s₁.setTop (mkF m 119 #[.val (.int p1), .val (.int p2), .val (.int (p2 &&& (3 : Int32))), .val (.int c), .val (.int (0 : Int32)), .val (.int (0 : Int32)), .val (.int (0 : Int32)), .unset] [(.int (0 : Int32))])) (fun _ k => XS.iload X0.here hx rfl (hb hby at_117) rfl  k) ?_
                have hc42 : (0 : Int32) = (0 : Int32) := by decide
                refine own_go (B := s₁.setTop (mkF m 126 #[.val (.int p1), .val (.int p2), .val (.int (p2 &&& (3 : Int32))), .val (.int c), .val (.int (0 : Int32)), .val (.int (0 : Int32)), .val (.int (0 : Int32)), .unset] [])) (fun _ k => XS.ifYes X0.here hx rfl (pc0 := 119) (pc' := 126) rfl (hb hby at_119) rfl ((if0 _ _).trans (teq hc42).1) (by decide) (by decide) k) ?_
                refine own_go (B := s₁.setTop (mkF m 127 #[.val (.int p1), .val (.int p2), .val (.int (p2 &&& (3 : Int32))), .val (.int c), .val (.int (0 : Int32)), .val (.int (0 : Int32)), .val (.int (0 : Int32)), .unset] [(.int (0 : Int32))])) (fun _ k => XS.iconst X0.here hx rfl (hb hby at_126) k) ?_
                refine own_go (B := s₁.setTop (mkF m 129 #[.val (.int p1), .val (.int p2), .val (.int (p2 &&& (3 : Int32))), .val (.int c), .val (.int (0 : Int32)), .val (.int (0 : Int32)), .val (.int (0 : Int32)), .val (.int (0 : Int32))] [])) (fun _ k => XS.istore X0.here hx rfl (hb hby at_127) rfl (l' := #[.val (.int p1), .val (.int p2), .val (.int (p2 &&& (3 : Int32))), .val (.int c), .val (.int (0 : Int32)), .val (.int (0 : Int32)), .val (.int (0 : Int32)), .val (.int (0 : Int32))]) rfl k) ?_
                refine own_go (B := s₁.setTop (mkF m 130 #[.val (.int p1), .val (.int p2), .val (.int (p2 &&& (3 : Int32))), .val (.int c), .val (.int (0 : Int32)), .val (.int (0 : Int32)), .val (.int (0 : Int32)), .val (.int (0 : Int32))] [(.int c)])) (fun _ k => XS.iloadN X0.here hx rfl (hb hby at_129) rfl  k) ?_
                obtain ⟨_, _, ⟨T43, L43, k43, n43⟩, -, X43, ⟨Lc43, hQ43, l43, y43, z43⟩, st43⟩ := Jvm.LawKit.callS X0 hx (y := (⟨"com/example/aduana/aduana/web/LogLines", "isLineBreakOrControl", "(I)Z"⟩ : MethodName)) hown (mvT hZ (own_w hw 1 rfl)) (mvT hZ (own_w hw 2 rfl)) (mvT hZ (own_w hw 3 rfl)) (mvT hZ (own_w hw 4 rfl)) (by decide) (backOf (W := 0) (own_rm1 l Z a0 hw [] c h0 n0 (Nat.le_trans Z0 K0.1) ) hZ (own_w hw 4 rfl) (own_w hw 3 rfl) (by decide) (by decide)) (g := (mkF m 130 #[.val (.int p1), .val (.int p2), .val (.int (p2 &&& (3 : Int32))), .val (.int c), .val (.int (0 : Int32)), .val (.int (0 : Int32)), .val (.int (0 : Int32)), .val (.int (0 : Int32))] [(.int c)])) rfl (by rw [hml]; rfl) (argsL := [(.int c)]) (rest := []) (lenOf own_pd0 rfl) rfl (by show 2 * 0 + _ ≤ _; exact Nat.le_of_eq rfl) (hb hby at_130) (fun _ _ => ⟨rfl, e0, (by decide : 0 + 0 ≤ _), (by decide : 0 + 0 ≤ _)⟩)
                dsimp only [Pt.U, Pt.locs, Pt.cells, Pt.slots] at X43 l43 y43 z43 st43 hQ43
                subst l43 y43 z43
                obtain ⟨rfl, N43q, e43⟩ := hQ43
                have N43 := Fr.app N0 N43q
                refine own_go (B := T43.setTop (mkF m 133 #[.val (.int p1), .val (.int p2), .val (.int (p2 &&& (3 : Int32))), .val (.int c), .val (.int (0 : Int32)), .val (.int (0 : Int32)), .val (.int (0 : Int32)), .val (.int (0 : Int32))] [(.int (own_b (((0 ≤ c.toInt ∧ c.toInt ≤ 31) ∨ (127 ≤ c.toInt ∧ c.toInt ≤ 159)) ∨ c.toInt = 8232 ∨ c.toInt = 8233)))])) st43 ?_
                have hc44 : ¬ (((0 ≤ c.toInt ∧ c.toInt ≤ 31) ∨ (127 ≤ c.toInt ∧ c.toInt ≤ 159)) ∨ c.toInt = 8232 ∨ c.toInt = 8233) := (own_pl_rm0_10 c hc5 hc15 hc16 hc25 hc26 hc33)
                rw [own_b0 hc44]
                show own_Fin _ _ _ _ _ _ _ (T43.setTop (mkF m 133 #[.val (.int p1), .val (.int p2), .val (.int (p2 &&& (3 : Int32))), .val (.int c), .val (.int (0 : Int32)), .val (.int (0 : Int32)), .val (.int (0 : Int32)), .val (.int (0 : Int32))] [(.int (0 : Int32))]))
                refine own_go (B := T43.setTop (mkF m 135 #[.val (.int p1), .val (.int p2), .val (.int (p2 &&& (3 : Int32))), .val (.int c), .val (.int (0 : Int32)), .val (.int (0 : Int32)), .val (.int (0 : Int32)), .val (.int (0 : Int32))] [(.int (0 : Int32)), (.int (0 : Int32))])) (fun _ k => XS.iload X43.here hx rfl (hb hby at_133) rfl  k) ?_
                have hc45 : (0 : Int32) = (0 : Int32) := by decide
                refine own_go (B := T43.setTop (mkF m 138 #[.val (.int p1), .val (.int p2), .val (.int (p2 &&& (3 : Int32))), .val (.int c), .val (.int (0 : Int32)), .val (.int (0 : Int32)), .val (.int (0 : Int32)), .val (.int (0 : Int32))] [])) (fun _ k => XS.icmpNo X43.here hx rfl (hb hby at_135) rfl (teq hc45).2 k) ?_
                refine own_go (B := T43.setTop (mkF m 139 #[.val (.int p1), .val (.int p2), .val (.int (p2 &&& (3 : Int32))), .val (.int c), .val (.int (0 : Int32)), .val (.int (0 : Int32)), .val (.int (0 : Int32)), .val (.int (0 : Int32))] [(.int (1 : Int32))])) (fun _ k => XS.iconst X43.here hx rfl (hb hby at_138) k) ?_
                refine own_go (B := T43.setTop (mkF m 143 #[.val (.int p1), .val (.int p2), .val (.int (p2 &&& (3 : Int32))), .val (.int c), .val (.int (0 : Int32)), .val (.int (0 : Int32)), .val (.int (0 : Int32)), .val (.int (0 : Int32))] [(.int (1 : Int32))])) (fun _ k => XS.goto X43.here hx rfl (pc0 := 139) (pc' := 143) rfl (hb hby at_139) (by decide) (by decide) k) ?_
                exact own_retN X43 hx Bd.notSynchronized (t := .boolean) (w := (1 : Int32)) Bd.returns (by simp) (hb hby at_143) e43 rfl ⟨rfl, N43, rfl⟩ (by decide) (by decide)
          · skip
            refine own_go (B := s₁.setTop (mkF m 79 #[.val (.int p1), .val (.int p2), .val (.int (p2 &&& (3 : Int32))), .val (.int c), .val (.int (0 : Int32)), .unset, .unset, .unset] [])) (fun _ k => XS.icmpNo X0.here hx rfl (hb hby at_76) rfl (flt hc25).2.2.1 k) ?_
            refine own_go (B := s₁.setTop (mkF m 80 #[.val (.int p1), .val (.int p2), .val (.int (p2 &&& (3 : Int32))), .val (.int c), .val (.int (0 : Int32)), .unset, .unset, .unset] [(.int (1 : Int32))])) (fun _ k => XS.iconst X0.here hx rfl (hb hby at_79) k) ?_
            refine own_go (B := s₁.setTop (mkF m 84 #[.val (.int p1), .val (.int p2), .val (.int (p2 &&& (3 : Int32))), .val (.int c), .val (.int (0 : Int32)), .unset, .unset, .unset] [(.int (1 : Int32))])) (fun _ k => XS.goto X0.here hx rfl (pc0 := 80) (pc' := 84) rfl (hb hby at_80) (by decide) (by decide) k) ?_
            refine own_go (B := s₁.setTop (mkF m 86 #[.val (.int p1), .val (.int p2), .val (.int (p2 &&& (3 : Int32))), .val (.int c), .val (.int (0 : Int32)), .val (.int (1 : Int32)), .unset, .unset] [])) (fun _ k => XS.istore X0.here hx rfl (hb hby at_84) rfl (l' := #[.val (.int p1), .val (.int p2), .val (.int (p2 &&& (3 : Int32))), .val (.int c), .val (.int (0 : Int32)), .val (.int (1 : Int32)), .unset, .unset]) rfl k) ?_
            refine own_go (B := s₁.setTop (mkF m 87 #[.val (.int p1), .val (.int p2), .val (.int (p2 &&& (3 : Int32))), .val (.int c), .val (.int (0 : Int32)), .val (.int (1 : Int32)), .unset, .unset] [(.int c)])) (fun _ k => XS.iloadN X0.here hx rfl (hb hby at_86) rfl  k) ?_
            refine own_go (B := s₁.setTop (mkF m 90 #[.val (.int p1), .val (.int p2), .val (.int (p2 &&& (3 : Int32))), .val (.int c), .val (.int (0 : Int32)), .val (.int (1 : Int32)), .unset, .unset] [(.int (8232 : Int32)), (.int c)])) (fun _ k => XS.sipush X0.here hx rfl (hb hby at_87) k) ?_
            have hc46 : ¬ (c = (8232 : Int32)) := (own_pl_rm0_11 c hc5 hc15 hc16 hc25)
            refine own_go (B := s₁.setTop (mkF m 93 #[.val (.int p1), .val (.int p2), .val (.int (p2 &&& (3 : Int32))), .val (.int c), .val (.int (0 : Int32)), .val (.int (1 : Int32)), .unset, .unset] [])) (fun _ k => XS.icmpNo X0.here hx rfl (hb hby at_90) rfl (feq hc46).1 k) ?_
            refine own_go (B := s₁.setTop (mkF m 94 #[.val (.int p1), .val (.int p2), .val (.int (p2 &&& (3 : Int32))), .val (.int c), .val (.int (0 : Int32)), .val (.int (1 : Int32)), .unset, .unset] [(.int c)])) (fun _ k => XS.iloadN X0.here hx rfl (hb hby at_93) rfl  k) ?_
            refine own_go (B := s₁.setTop (mkF m 97 #[.val (.int p1), .val (.int p2), .val (.int (p2 &&& (3 : Int32))), .val (.int c), .val (.int (0 : Int32)), .val (.int (1 : Int32)), .unset, .unset] [(.int (8233 : Int32)), (.int c)])) (fun _ k => XS.sipush X0.here hx rfl (hb hby at_94) k) ?_
            have hc47 : ¬ (c = (8233 : Int32)) := (own_pl_rm0_12 c hc5 hc15 hc16 hc25 hc46)
            refine own_go (B := s₁.setTop (mkF m 104 #[.val (.int p1), .val (.int p2), .val (.int (p2 &&& (3 : Int32))), .val (.int c), .val (.int (0 : Int32)), .val (.int (1 : Int32)), .unset, .unset] [])) (fun _ k => XS.icmpYes X0.here hx rfl (pc0 := 97) (pc' := 104) rfl (hb hby at_97) rfl (feq hc47).2 (by decide) (by decide) k) ?_
            refine own_go (B := s₁.setTop (mkF m 105 #[.val (.int p1), .val (.int p2), .val (.int (p2 &&& (3 : Int32))), .val (.int c), .val (.int (0 : Int32)), .val (.int (1 : Int32)), .unset, .unset] [(.int (0 : Int32))])) (fun _ k => XS.iconst X0.here hx rfl (hb hby at_104) k) ?_
            refine own_go (B := s₁.setTop (mkF m 107 #[.val (.int p1), .val (.int p2), .val (.int (p2 &&& (3 : Int32))), .val (.int c), .val (.int (0 : Int32)), .val (.int (1 : Int32)), .val (.int (0 : Int32)), .unset] [])) (fun _ k => XS.istore X0.here hx rfl (hb hby at_105) rfl (l' := #[.val (.int p1), .val (.int p2), .val (.int (p2 &&& (3 : Int32))), .val (.int c), .val (.int (0 : Int32)), .val (.int (1 : Int32)), .val (.int (0 : Int32)), .unset]) rfl k) ?_
            refine own_go (B := s₁.setTop (mkF m 109 #[.val (.int p1), .val (.int p2), .val (.int (p2 &&& (3 : Int32))), .val (.int c), .val (.int (0 : Int32)), .val (.int (1 : Int32)), .val (.int (0 : Int32)), .unset] [(.int (0 : Int32))])) (fun _ k => XS.iload X0.here hx rfl (hb hby at_107) rfl  k) ?_
            have hc48 : (0 : Int32) = (0 : Int32) := by decide
            refine own_go (B := s₁.setTop (mkF m 112 #[.val (.int p1), .val (.int p2), .val (.int (p2 &&& (3 : Int32))), .val (.int c), .val (.int (0 : Int32)), .val (.int (1 : Int32)), .val (.int (0 : Int32)), .unset] [])) (fun _ k => XS.ifNo X0.here hx rfl (hb hby at_109) rfl ((if0 _ _).trans (teq hc48).2) k) ?_
            refine own_go (B := s₁.setTop (mkF m 114 #[.val (.int p1), .val (.int p2), .val (.int (p2 &&& (3 : Int32))), .val (.int c), .val (.int (0 : Int32)), .val (.int (1 : Int32)), .val (.int (0 : Int32)), .unset] [(.int (1 : Int32))])) (fun _ k => XS.iload X0.here hx rfl (hb hby at_112) rfl  k) ?_
            have hc49 : ¬ ((1 : Int32) = (0 : Int32)) := by decide
            refine own_go (B := s₁.setTop (mkF m 122 #[.val (.int p1), .val (.int p2), .val (.int (p2 &&& (3 : Int32))), .val (.int c), .val (.int (0 : Int32)), .val (.int (1 : Int32)), .val (.int (0 : Int32)), .unset] [])) (fun _ k => XS.ifYes X0.here hx rfl (pc0 := 114) (pc' := 122) rfl (hb hby at_114) rfl ((if0 _ _).trans (feq hc49).2) (by decide) (by decide) k) ?_
            refine own_go (B := s₁.setTop (mkF m 123 #[.val (.int p1), .val (.int p2), .val (.int (p2 &&& (3 : Int32))), .val (.int c), .val (.int (0 : Int32)), .val (.int (1 : Int32)), .val (.int (0 : Int32)), .unset] [(.int (1 : Int32))])) (fun _ k => XS.iconst X0.here hx rfl (hb hby at_122) k) ?_
            refine own_go (B := s₁.setTop (mkF m 127 #[.val (.int p1), .val (.int p2), .val (.int (p2 &&& (3 : Int32))), .val (.int c), .val (.int (0 : Int32)), .val (.int (1 : Int32)), .val (.int (0 : Int32)), .unset] [(.int (1 : Int32))])) (fun _ k => XS.goto X0.here hx rfl (pc0 := 123) (pc' := 127) rfl (hb hby at_123) (by decide) (by decide) k) ?_
            refine own_go (B := s₁.setTop (mkF m 129 #[.val (.int p1), .val (.int p2), .val (.int (p2 &&& (3 : Int32))), .val (.int c), .val (.int (0 : Int32)), .val (.int (1 : Int32)), .val (.int (0 : Int32)), .val (.int (1 : Int32))] [])) (fun _ k => XS.istore X0.here hx rfl (hb hby at_127) rfl (l' := #[.val (.int p1), .val (.int p2), .val (.int (p2 &&& (3 : Int32))), .val (.int c), .val (.int (0 : Int32)), .val (.int (1 : Int32)), .val (.int (0 : Int32)), .val (.int (1 : Int32))]) rfl k) ?_
            refine own_go (B := s₁.setTop (mkF m 130 #[.val (.int p1), .val (.int p2), .val (.int (p2 &&& (3 : Int32))), .val (.int c), .val (.int (0 : Int32)), .val (.int (1 : Int32)), .val (.int (0 : Int32)), .val (.int (1 : Int32))] [(.int c)])) (fun _ k => XS.iloadN X0.here hx rfl (hb hby at_129) rfl  k) ?_
            obtain ⟨_, _, ⟨T50, L50, k50, n50⟩, -, X50, ⟨Lc50, hQ50, l50, y50, z50⟩, st50⟩ := Jvm.LawKit.callS X0 hx (y := (⟨"com/example/aduana/aduana/web/LogLines", "isLineBreakOrControl", "(I)Z"⟩ : MethodName)) hown (mvT hZ (own_w hw 1 rfl)) (mvT hZ (own_w hw 2 rfl)) (mvT hZ (own_w hw 3 rfl)) (mvT hZ (own_w hw 4 rfl)) (by decide) (backOf (W := 0) (own_rm1 l Z a0 hw [] c h0 n0 (Nat.le_trans Z0 K0.1) ) hZ (own_w hw 4 rfl) (own_w hw 3 rfl) (by decide) (by decide)) (g := (mkF m 130 #[.val (.int p1), .val (.int p2), .val (.int (p2 &&& (3 : Int32))), .val (.int c), .val (.int (0 : Int32)), .val (.int (1 : Int32)), .val (.int (0 : Int32)), .val (.int (1 : Int32))] [(.int c)])) rfl (by rw [hml]; rfl) (argsL := [(.int c)]) (rest := []) (lenOf own_pd0 rfl) rfl (by show 2 * 0 + _ ≤ _; exact Nat.le_of_eq rfl) (hb hby at_130) (fun _ _ => ⟨rfl, e0, (by decide : 0 + 0 ≤ _), (by decide : 0 + 0 ≤ _)⟩)
            dsimp only [Pt.U, Pt.locs, Pt.cells, Pt.slots] at X50 l50 y50 z50 st50 hQ50
            subst l50 y50 z50
            obtain ⟨rfl, N50q, e50⟩ := hQ50
            have N50 := Fr.app N0 N50q
            refine own_go (B := T50.setTop (mkF m 133 #[.val (.int p1), .val (.int p2), .val (.int (p2 &&& (3 : Int32))), .val (.int c), .val (.int (0 : Int32)), .val (.int (1 : Int32)), .val (.int (0 : Int32)), .val (.int (1 : Int32))] [(.int (own_b (((0 ≤ c.toInt ∧ c.toInt ≤ 31) ∨ (127 ≤ c.toInt ∧ c.toInt ≤ 159)) ∨ c.toInt = 8232 ∨ c.toInt = 8233)))])) st50 ?_
            have hc51 : ((0 ≤ c.toInt ∧ c.toInt ≤ 31) ∨ (127 ≤ c.toInt ∧ c.toInt ≤ 159)) ∨ c.toInt = 8232 ∨ c.toInt = 8233 := (own_pl_rm0_13 c hc5 hc15 hc16 hc25 hc46 hc47)
            rw [own_b1 hc51]
            show own_Fin _ _ _ _ _ _ _ (T50.setTop (mkF m 133 #[.val (.int p1), .val (.int p2), .val (.int (p2 &&& (3 : Int32))), .val (.int c), .val (.int (0 : Int32)), .val (.int (1 : Int32)), .val (.int (0 : Int32)), .val (.int (1 : Int32))] [(.int (1 : Int32))]))
            refine own_go (B := T50.setTop (mkF m 135 #[.val (.int p1), .val (.int p2), .val (.int (p2 &&& (3 : Int32))), .val (.int c), .val (.int (0 : Int32)), .val (.int (1 : Int32)), .val (.int (0 : Int32)), .val (.int (1 : Int32))] [(.int (1 : Int32)), (.int (1 : Int32))])) (fun _ k => XS.iload X50.here hx rfl (hb hby at_133) rfl  k) ?_
            have hc52 : (1 : Int32) = (1 : Int32) := by decide
            refine own_go (B := T50.setTop (mkF m 138 #[.val (.int p1), .val (.int p2), .val (.int (p2 &&& (3 : Int32))), .val (.int c), .val (.int (0 : Int32)), .val (.int (1 : Int32)), .val (.int (0 : Int32)), .val (.int (1 : Int32))] [])) (fun _ k => XS.icmpNo X50.here hx rfl (hb hby at_135) rfl (teq hc52).2 k) ?_
            refine own_go (B := T50.setTop (mkF m 139 #[.val (.int p1), .val (.int p2), .val (.int (p2 &&& (3 : Int32))), .val (.int c), .val (.int (0 : Int32)), .val (.int (1 : Int32)), .val (.int (0 : Int32)), .val (.int (1 : Int32))] [(.int (1 : Int32))])) (fun _ k => XS.iconst X50.here hx rfl (hb hby at_138) k) ?_
            refine own_go (B := T50.setTop (mkF m 143 #[.val (.int p1), .val (.int p2), .val (.int (p2 &&& (3 : Int32))), .val (.int c), .val (.int (0 : Int32)), .val (.int (1 : Int32)), .val (.int (0 : Int32)), .val (.int (1 : Int32))] [(.int (1 : Int32))])) (fun _ k => XS.goto X50.here hx rfl (pc0 := 139) (pc' := 143) rfl (hb hby at_139) (by decide) (by decide) k) ?_
            exact own_retN X50 hx Bd.notSynchronized (t := .boolean) (w := (1 : Int32)) Bd.returns (by simp) (hb hby at_143) e50 rfl ⟨rfl, N50, rfl⟩ (by decide) (by decide)
      · skip
        refine own_go (B := s₁.setTop (mkF m 59 #[.val (.int p1), .val (.int p2), .val (.int (p2 &&& (3 : Int32))), .val (.int c), .unset, .unset, .unset, .unset] [])) (fun _ k => XS.icmpNo X0.here hx rfl (hb hby at_56) rfl (flt hc15).2.2.1 k) ?_
        refine own_go (B := s₁.setTop (mkF m 60 #[.val (.int p1), .val (.int p2), .val (.int (p2 &&& (3 : Int32))), .val (.int c), .unset, .unset, .unset, .unset] [(.int (1 : Int32))])) (fun _ k => XS.iconst X0.here hx rfl (hb hby at_59) k) ?_
        refine own_go (B := s₁.setTop (mkF m 64 #[.val (.int p1), .val (.int p2), .val (.int (p2 &&& (3 : Int32))), .val (.int c), .unset, .unset, .unset, .unset] [(.int (1 : Int32))])) (fun _ k => XS.goto X0.here hx rfl (pc0 := 60) (pc' := 64) rfl (hb hby at_60) (by decide) (by decide) k) ?_
        refine own_go (B := s₁.setTop (mkF m 66 #[.val (.int p1), .val (.int p2), .val (.int (p2 &&& (3 : Int32))), .val (.int c), .val (.int (1 : Int32)), .unset, .unset, .unset] [])) (fun _ k => XS.istore X0.here hx rfl (hb hby at_64) rfl (l' := #[.val (.int p1), .val (.int p2), .val (.int (p2 &&& (3 : Int32))), .val (.int c), .val (.int (1 : Int32)), .unset, .unset, .unset]) rfl k) ?_
        refine own_go (B := s₁.setTop (mkF m 67 #[.val (.int p1), .val (.int p2), .val (.int (p2 &&& (3 : Int32))), .val (.int c), .val (.int (1 : Int32)), .unset, .unset, .unset] [(.int c)])) (fun _ k => XS.iloadN X0.here hx rfl (hb hby at_66) rfl  k) ?_
        refine own_go (B := s₁.setTop (mkF m 69 #[.val (.int p1), .val (.int p2), .val (.int (p2 &&& (3 : Int32))), .val (.int c), .val (.int (1 : Int32)), .unset, .unset, .unset] [(.int (127 : Int32)), (.int c)])) (fun _ k => XS.bipush X0.here hx rfl (hb hby at_67) k) ?_
        have hc53 : c < (127 : Int32) := (own_pl_rm0_14 c hc5 hc15)
        refine own_go (B := s₁.setTop (mkF m 83 #[.val (.int p1), .val (.int p2), .val (.int (p2 &&& (3 : Int32))), .val (.int c), .val (.int (1 : Int32)), .unset, .unset, .unset] [])) (fun _ k => XS.icmpYes X0.here hx rfl (pc0 := 69) (pc' := 83) rfl (hb hby at_69) rfl (tlt hc53).1 (by decide) (by decide) k) ?_
        refine own_go (B := s₁.setTop (mkF m 84 #[.val (.int p1), .val (.int p2), .val (.int (p2 &&& (3 : Int32))), .val (.int c), .val (.int (1 : Int32)), .unset, .unset, .unset] [(.int (0 : Int32))])) (fun _ k => XS.iconst X0.here hx rfl (hb hby at_83) k) ?_
        refine own_go (B := s₁.setTop (mkF m 86 #[.val (.int p1), .val (.int p2), .val (.int (p2 &&& (3 : Int32))), .val (.int c), .val (.int (1 : Int32)), .val (.int (0 : Int32)), .unset, .unset] [])) (fun _ k => XS.istore X0.here hx rfl (hb hby at_84) rfl (l' := #[.val (.int p1), .val (.int p2), .val (.int (p2 &&& (3 : Int32))), .val (.int c), .val (.int (1 : Int32)), .val (.int (0 : Int32)), .unset, .unset]) rfl k) ?_
        refine own_go (B := s₁.setTop (mkF m 87 #[.val (.int p1), .val (.int p2), .val (.int (p2 &&& (3 : Int32))), .val (.int c), .val (.int (1 : Int32)), .val (.int (0 : Int32)), .unset, .unset] [(.int c)])) (fun _ k => XS.iloadN X0.here hx rfl (hb hby at_86) rfl  k) ?_
        refine own_go (B := s₁.setTop (mkF m 90 #[.val (.int p1), .val (.int p2), .val (.int (p2 &&& (3 : Int32))), .val (.int c), .val (.int (1 : Int32)), .val (.int (0 : Int32)), .unset, .unset] [(.int (8232 : Int32)), (.int c)])) (fun _ k => XS.sipush X0.here hx rfl (hb hby at_87) k) ?_
        have hc54 : ¬ (c = (8232 : Int32)) := (own_pl_rm0_15 c hc5 hc15 hc53)
        refine own_go (B := s₁.setTop (mkF m 93 #[.val (.int p1), .val (.int p2), .val (.int (p2 &&& (3 : Int32))), .val (.int c), .val (.int (1 : Int32)), .val (.int (0 : Int32)), .unset, .unset] [])) (fun _ k => XS.icmpNo X0.here hx rfl (hb hby at_90) rfl (feq hc54).1 k) ?_
        refine own_go (B := s₁.setTop (mkF m 94 #[.val (.int p1), .val (.int p2), .val (.int (p2 &&& (3 : Int32))), .val (.int c), .val (.int (1 : Int32)), .val (.int (0 : Int32)), .unset, .unset] [(.int c)])) (fun _ k => XS.iloadN X0.here hx rfl (hb hby at_93) rfl  k) ?_
        refine own_go (B := s₁.setTop (mkF m 97 #[.val (.int p1), .val (.int p2), .val (.int (p2 &&& (3 : Int32))), .val (.int c), .val (.int (1 : Int32)), .val (.int (0 : Int32)), .unset, .unset] [(.int (8233 : Int32)), (.int c)])) (fun _ k => XS.sipush X0.here hx rfl (hb hby at_94) k) ?_
        have hc55 : ¬ (c = (8233 : Int32)) := (own_pl_rm0_16 c hc5 hc15 hc53 hc54)
        refine own_go (B := s₁.setTop (mkF m 104 #[.val (.int p1), .val (.int p2), .val (.int (p2 &&& (3 : Int32))), .val (.int c), .val (.int (1 : Int32)), .val (.int (0 : Int32)), .unset, .unset] [])) (fun _ k => XS.icmpYes X0.here hx rfl (pc0 := 97) (pc' := 104) rfl (hb hby at_97) rfl (feq hc55).2 (by decide) (by decide) k) ?_
        refine own_go (B := s₁.setTop (mkF m 105 #[.val (.int p1), .val (.int p2), .val (.int (p2 &&& (3 : Int32))), .val (.int c), .val (.int (1 : Int32)), .val (.int (0 : Int32)), .unset, .unset] [(.int (0 : Int32))])) (fun _ k => XS.iconst X0.here hx rfl (hb hby at_104) k) ?_
        refine own_go (B := s₁.setTop (mkF m 107 #[.val (.int p1), .val (.int p2), .val (.int (p2 &&& (3 : Int32))), .val (.int c), .val (.int (1 : Int32)), .val (.int (0 : Int32)), .val (.int (0 : Int32)), .unset] [])) (fun _ k => XS.istore X0.here hx rfl (hb hby at_105) rfl (l' := #[.val (.int p1), .val (.int p2), .val (.int (p2 &&& (3 : Int32))), .val (.int c), .val (.int (1 : Int32)), .val (.int (0 : Int32)), .val (.int (0 : Int32)), .unset]) rfl k) ?_
        refine own_go (B := s₁.setTop (mkF m 109 #[.val (.int p1), .val (.int p2), .val (.int (p2 &&& (3 : Int32))), .val (.int c), .val (.int (1 : Int32)), .val (.int (0 : Int32)), .val (.int (0 : Int32)), .unset] [(.int (1 : Int32))])) (fun _ k => XS.iload X0.here hx rfl (hb hby at_107) rfl  k) ?_
        have hc56 : ¬ ((1 : Int32) = (0 : Int32)) := by decide
        refine own_go (B := s₁.setTop (mkF m 122 #[.val (.int p1), .val (.int p2), .val (.int (p2 &&& (3 : Int32))), .val (.int c), .val (.int (1 : Int32)), .val (.int (0 : Int32)), .val (.int (0 : Int32)), .unset] [])) (fun _ k => XS.ifYes X0.here hx rfl (pc0 := 109) (pc' := 122) rfl (hb hby at_109) rfl ((if0 _ _).trans (feq hc56).2) (by decide) (by decide) k) ?_
        refine own_go (B := s₁.setTop (mkF m 123 #[.val (.int p1), .val (.int p2), .val (.int (p2 &&& (3 : Int32))), .val (.int c), .val (.int (1 : Int32)), .val (.int (0 : Int32)), .val (.int (0 : Int32)), .unset] [(.int (1 : Int32))])) (fun _ k => XS.iconst X0.here hx rfl (hb hby at_122) k) ?_
        refine own_go (B := s₁.setTop (mkF m 127 #[.val (.int p1), .val (.int p2), .val (.int (p2 &&& (3 : Int32))), .val (.int c), .val (.int (1 : Int32)), .val (.int (0 : Int32)), .val (.int (0 : Int32)), .unset] [(.int (1 : Int32))])) (fun _ k => XS.goto X0.here hx rfl (pc0 := 123) (pc' := 127) rfl (hb hby at_123) (by decide) (by decide) k) ?_
        refine own_go (B := s₁.setTop (mkF m 129 #[.val (.int p1), .val (.int p2), .val (.int (p2 &&& (3 : Int32))), .val (.int c), .val (.int (1 : Int32)), .val (.int (0 : Int32)), .val (.int (0 : Int32)), .val (.int (1 : Int32))] [])) (fun _ k => XS.istore X0.here hx rfl (hb hby at_127) rfl (l' := #[.val (.int p1), .val (.int p2), .val (.int (p2 &&& (3 : Int32))), .val (.int c), .val (.int (1 : Int32)), .val (.int (0 : Int32)), .val (.int (0 : Int32)), .val (.int (1 : Int32))]) rfl k) ?_
        refine own_go (B := s₁.setTop (mkF m 130 #[.val (.int p1), .val (.int p2), .val (.int (p2 &&& (3 : Int32))), .val (.int c), .val (.int (1 : Int32)), .val (.int (0 : Int32)), .val (.int (0 : Int32)), .val (.int (1 : Int32))] [(.int c)])) (fun _ k => XS.iloadN X0.here hx rfl (hb hby at_129) rfl  k) ?_
        obtain ⟨_, _, ⟨T57, L57, k57, n57⟩, -, X57, ⟨Lc57, hQ57, l57, y57, z57⟩, st57⟩ := Jvm.LawKit.callS X0 hx (y := (⟨"com/example/aduana/aduana/web/LogLines", "isLineBreakOrControl", "(I)Z"⟩ : MethodName)) hown (mvT hZ (own_w hw 1 rfl)) (mvT hZ (own_w hw 2 rfl)) (mvT hZ (own_w hw 3 rfl)) (mvT hZ (own_w hw 4 rfl)) (by decide) (backOf (W := 0) (own_rm1 l Z a0 hw [] c h0 n0 (Nat.le_trans Z0 K0.1) ) hZ (own_w hw 4 rfl) (own_w hw 3 rfl) (by decide) (by decide)) (g := (mkF m 130 #[.val (.int p1), .val (.int p2), .val (.int (p2 &&& (3 : Int32))), .val (.int c), .val (.int (1 : Int32)), .val (.int (0 : Int32)), .val (.int (0 : Int32)), .val (.int (1 : Int32))] [(.int c)])) rfl (by rw [hml]; rfl) (argsL := [(.int c)]) (rest := []) (lenOf own_pd0 rfl) rfl (by show 2 * 0 + _ ≤ _; exact Nat.le_of_eq rfl) (hb hby at_130) (fun _ _ => ⟨rfl, e0, (by decide : 0 + 0 ≤ _), (by decide : 0 + 0 ≤ _)⟩)
        dsimp only [Pt.U, Pt.locs, Pt.cells, Pt.slots] at X57 l57 y57 z57 st57 hQ57
        subst l57 y57 z57
        obtain ⟨rfl, N57q, e57⟩ := hQ57
        have N57 := Fr.app N0 N57q
        refine own_go (B := T57.setTop (mkF m 133 #[.val (.int p1), .val (.int p2), .val (.int (p2 &&& (3 : Int32))), .val (.int c), .val (.int (1 : Int32)), .val (.int (0 : Int32)), .val (.int (0 : Int32)), .val (.int (1 : Int32))] [(.int (own_b (((0 ≤ c.toInt ∧ c.toInt ≤ 31) ∨ (127 ≤ c.toInt ∧ c.toInt ≤ 159)) ∨ c.toInt = 8232 ∨ c.toInt = 8233)))])) st57 ?_
        have hc58 : ((0 ≤ c.toInt ∧ c.toInt ≤ 31) ∨ (127 ≤ c.toInt ∧ c.toInt ≤ 159)) ∨ c.toInt = 8232 ∨ c.toInt = 8233 := (own_pl_rm0_17 c hc5 hc15 hc53 hc54 hc55)
        rw [own_b1 hc58]
        show own_Fin _ _ _ _ _ _ _ (T57.setTop (mkF m 133 #[.val (.int p1), .val (.int p2), .val (.int (p2 &&& (3 : Int32))), .val (.int c), .val (.int (1 : Int32)), .val (.int (0 : Int32)), .val (.int (0 : Int32)), .val (.int (1 : Int32))] [(.int (1 : Int32))]))
        refine own_go (B := T57.setTop (mkF m 135 #[.val (.int p1), .val (.int p2), .val (.int (p2 &&& (3 : Int32))), .val (.int c), .val (.int (1 : Int32)), .val (.int (0 : Int32)), .val (.int (0 : Int32)), .val (.int (1 : Int32))] [(.int (1 : Int32)), (.int (1 : Int32))])) (fun _ k => XS.iload X57.here hx rfl (hb hby at_133) rfl  k) ?_
        have hc59 : (1 : Int32) = (1 : Int32) := by decide
        refine own_go (B := T57.setTop (mkF m 138 #[.val (.int p1), .val (.int p2), .val (.int (p2 &&& (3 : Int32))), .val (.int c), .val (.int (1 : Int32)), .val (.int (0 : Int32)), .val (.int (0 : Int32)), .val (.int (1 : Int32))] [])) (fun _ k => XS.icmpNo X57.here hx rfl (hb hby at_135) rfl (teq hc59).2 k) ?_
        refine own_go (B := T57.setTop (mkF m 139 #[.val (.int p1), .val (.int p2), .val (.int (p2 &&& (3 : Int32))), .val (.int c), .val (.int (1 : Int32)), .val (.int (0 : Int32)), .val (.int (0 : Int32)), .val (.int (1 : Int32))] [(.int (1 : Int32))])) (fun _ k => XS.iconst X57.here hx rfl (hb hby at_138) k) ?_
        refine own_go (B := T57.setTop (mkF m 143 #[.val (.int p1), .val (.int p2), .val (.int (p2 &&& (3 : Int32))), .val (.int c), .val (.int (1 : Int32)), .val (.int (0 : Int32)), .val (.int (0 : Int32)), .val (.int (1 : Int32))] [(.int (1 : Int32))])) (fun _ k => XS.goto X57.here hx rfl (pc0 := 139) (pc' := 143) rfl (hb hby at_139) (by decide) (by decide) k) ?_
        exact own_retN X57 hx Bd.notSynchronized (t := .boolean) (w := (1 : Int32)) Bd.returns (by simp) (hb hby at_143) e57 rfl ⟨rfl, N57, rfl⟩ (by decide) (by decide)
  refine own_go (B := s₁.setTop (mkF m 5 #[.val (.int p1), .val (.int p2), .val (.int (p2 &&& (3 : Int32))), .unset, .unset, .unset, .unset, .unset] [(.int (p2 &&& (3 : Int32)))])) (fun _ k => XS.iloadN X0.here hx rfl (hb hby at_4) rfl  k) ?_
  by_cases hc2 : (p2 &&& (3 : Int32)) = (0 : Int32)
  · skip
    refine own_go (B := s₁.setTop (mkF m 8 #[.val (.int p1), .val (.int p2), .val (.int (p2 &&& (3 : Int32))), .unset, .unset, .unset, .unset, .unset] [])) (fun _ k => XS.ifNo X0.here hx rfl (hb hby at_5) rfl ((if0 _ _).trans (teq hc2).2) k) ?_
    refine own_go (B := s₁.setTop (mkF m 9 #[.val (.int p1), .val (.int p2), .val (.int (p2 &&& (3 : Int32))), .unset, .unset, .unset, .unset, .unset] [(.int p1)])) (fun _ k => XS.iloadN X0.here hx rfl (hb hby at_8) rfl  k) ?_
    refine own_go (B := s₁.setTop (mkF m 10 #[.val (.int p1), .val (.int p2), .val (.int (p2 &&& (3 : Int32))), .val (.int p1), .unset, .unset, .unset, .unset] [])) (fun _ k => XS.istoreN X0.here hx rfl (hb hby at_9) rfl (l' := #[.val (.int p1), .val (.int p2), .val (.int (p2 &&& (3 : Int32))), .val (.int p1), .unset, .unset, .unset, .unset]) rfl k) ?_
    refine own_go (B := s₁.setTop (mkF m 49 #[.val (.int p1), .val (.int p2), .val (.int (p2 &&& (3 : Int32))), .val (.int p1), .unset, .unset, .unset, .unset] [])) (fun _ k => XS.goto X0.here hx rfl (pc0 := 10) (pc' := 49) rfl (hb hby at_10) (by decide) (by decide) k) ?_
    exact J1 p1
  · skip
    refine own_go (B := s₁.setTop (mkF m 13 #[.val (.int p1), .val (.int p2), .val (.int (p2 &&& (3 : Int32))), .unset, .unset, .unset, .unset, .unset] [])) (fun _ k => XS.ifYes X0.here hx rfl (pc0 := 5) (pc' := 13) rfl (hb hby at_5) rfl ((if0 _ _).trans (feq hc2).2) (by decide) (by decide) k) ?_
    refine own_go (B := s₁.setTop (mkF m 14 #[.val (.int p1), .val (.int p2), .val (.int (p2 &&& (3 : Int32))), .unset, .unset, .unset, .unset, .unset] [(.int (p2 &&& (3 : Int32)))])) (fun _ k => XS.iloadN X0.here hx rfl (hb hby at_13) rfl  k) ?_
    refine own_go (B := s₁.setTop (mkF m 15 #[.val (.int p1), .val (.int p2), .val (.int (p2 &&& (3 : Int32))), .unset, .unset, .unset, .unset, .unset] [(.int (1 : Int32)), (.int (p2 &&& (3 : Int32)))])) (fun _ k => XS.iconst X0.here hx rfl (hb hby at_14) k) ?_
    by_cases hc3 : (p2 &&& (3 : Int32)) = (1 : Int32)
    · skip
      refine own_go (B := s₁.setTop (mkF m 18 #[.val (.int p1), .val (.int p2), .val (.int (p2 &&& (3 : Int32))), .unset, .unset, .unset, .unset, .unset] [])) (fun _ k => XS.icmpNo X0.here hx rfl (hb hby at_15) rfl (teq hc3).2 k) ?_
      refine own_go (B := s₁.setTop (mkF m 19 #[.val (.int p1), .val (.int p2), .val (.int (p2 &&& (3 : Int32))), .unset, .unset, .unset, .unset, .unset] [(.int p1)])) (fun _ k => XS.iloadN X0.here hx rfl (hb hby at_18) rfl  k) ?_
      refine own_go (B := s₁.setTop (mkF m 22 #[.val (.int p1), .val (.int p2), .val (.int (p2 &&& (3 : Int32))), .unset, .unset, .unset, .unset, .unset] [(.int (255 : Int32)), (.int p1)])) (fun _ k => XS.sipush X0.here hx rfl (hb hby at_19) k) ?_
      refine own_go (B := s₁.setTop (mkF m 23 #[.val (.int p1), .val (.int p2), .val (.int (p2 &&& (3 : Int32))), .unset, .unset, .unset, .unset, .unset] [(.int (p1 &&& (255 : Int32)))])) (fun _ k => XS.iand X0.here hx rfl (hb hby at_22) rfl k) ?_
      refine own_go (B := s₁.setTop (mkF m 24 #[.val (.int p1), .val (.int p2), .val (.int (p2 &&& (3 : Int32))), .val (.int (p1 &&& (255 : Int32))), .unset, .unset, .unset, .unset] [])) (fun _ k => XS.istoreN X0.here hx rfl (hb hby at_23) rfl (l' := #[.val (.int p1), .val (.int p2), .val (.int (p2 &&& (3 : Int32))), .val (.int (p1 &&& (255 : Int32))), .unset, .unset, .unset, .unset]) rfl k) ?_
      refine own_go (B := s₁.setTop (mkF m 49 #[.val (.int p1), .val (.int p2), .val (.int (p2 &&& (3 : Int32))), .val (.int (p1 &&& (255 : Int32))), .unset, .unset, .unset, .unset] [])) (fun _ k => XS.goto X0.here hx rfl (pc0 := 24) (pc' := 49) rfl (hb hby at_24) (by decide) (by decide) k) ?_
      exact J1 (p1 &&& (255 : Int32))
    · skip
      refine own_go (B := s₁.setTop (mkF m 27 #[.val (.int p1), .val (.int p2), .val (.int (p2 &&& (3 : Int32))), .unset, .unset, .unset, .unset, .unset] [])) (fun _ k => XS.icmpYes X0.here hx rfl (pc0 := 15) (pc' := 27) rfl (hb hby at_15) rfl (feq hc3).2 (by decide) (by decide) k) ?_
      refine own_go (B := s₁.setTop (mkF m 28 #[.val (.int p1), .val (.int p2), .val (.int (p2 &&& (3 : Int32))), .unset, .unset, .unset, .unset, .unset] [(.int (p2 &&& (3 : Int32)))])) (fun _ k => XS.iloadN X0.here hx rfl (hb hby at_27) rfl  k) ?_
      refine own_go (B := s₁.setTop (mkF m 29 #[.val (.int p1), .val (.int p2), .val (.int (p2 &&& (3 : Int32))), .unset, .unset, .unset, .unset, .unset] [(.int (2 : Int32)), (.int (p2 &&& (3 : Int32)))])) (fun _ k => XS.iconst X0.here hx rfl (hb hby at_28) k) ?_
      by_cases hc4 : (p2 &&& (3 : Int32)) = (2 : Int32)
      · skip
        refine own_go (B := s₁.setTop (mkF m 32 #[.val (.int p1), .val (.int p2), .val (.int (p2 &&& (3 : Int32))), .unset, .unset, .unset, .unset, .unset] [])) (fun _ k => XS.icmpNo X0.here hx rfl (hb hby at_29) rfl (teq hc4).2 k) ?_
        refine own_go (B := s₁.setTop (mkF m 35 #[.val (.int p1), .val (.int p2), .val (.int (p2 &&& (3 : Int32))), .unset, .unset, .unset, .unset, .unset] [(.int (8224 : Int32))])) (fun _ k => XS.sipush X0.here hx rfl (hb hby at_32) k) ?_
        refine own_go (B := s₁.setTop (mkF m 36 #[.val (.int p1), .val (.int p2), .val (.int (p2 &&& (3 : Int32))), .unset, .unset, .unset, .unset, .unset] [(.int p1), (.int (8224 : Int32))])) (fun _ k => XS.iloadN X0.here hx rfl (hb hby at_35) rfl  k) ?_
        refine own_go (B := s₁.setTop (mkF m 38 #[.val (.int p1), .val (.int p2), .val (.int (p2 &&& (3 : Int32))), .unset, .unset, .unset, .unset, .unset] [(.int (15 : Int32)), (.int p1), (.int (8224 : Int32))])) (fun _ k => XS.bipush X0.here hx rfl (hb hby at_36) k) ?_
        refine own_go (B := s₁.setTop (mkF m 39 #[.val (.int p1), .val (.int p2), .val (.int (p2 &&& (3 : Int32))), .unset, .unset, .unset, .unset, .unset] [(.int (p1 &&& (15 : Int32))), (.int (8224 : Int32))])) (fun _ k => XS.iand X0.here hx rfl (hb hby at_38) rfl k) ?_
        refine own_go (B := s₁.setTop (mkF m 40 #[.val (.int p1), .val (.int p2), .val (.int (p2 &&& (3 : Int32))), .unset, .unset, .unset, .unset, .unset] [(.int ((8224 : Int32) + (p1 &&& (15 : Int32))))])) (fun _ k => XS.iadd X0.here hx rfl (hb hby at_39) rfl k) ?_
        refine own_go (B := s₁.setTop (mkF m 41 #[.val (.int p1), .val (.int p2), .val (.int (p2 &&& (3 : Int32))), .val (.int ((8224 : Int32) + (p1 &&& (15 : Int32)))), .unset, .unset, .unset, .unset] [])) (fun _ k => XS.istoreN X0.here hx rfl (hb hby at_40) rfl (l' := #[.val (.int p1), .val (.int p2), .val (.int (p2 &&& (3 : Int32))), .val (.int ((8224 : Int32) + (p1 &&& (15 : Int32)))), .unset, .unset, .unset, .unset]) rfl k) ?_
        refine own_go (B := s₁.setTop (mkF m 49 #[.val (.int p1), .val (.int p2), .val (.int (p2 &&& (3 : Int32))), .val (.int ((8224 : Int32) + (p1 &&& (15 : Int32)))), .unset, .unset, .unset, .unset] [])) (fun _ k => XS.goto X0.here hx rfl (pc0 := 41) (pc' := 49) rfl (hb hby at_41) (by decide) (by decide) k) ?_
        exact J1 ((8224 : Int32) + (p1 &&& (15 : Int32)))
      · skip
        refine own_go (B := s₁.setTop (mkF m 44 #[.val (.int p1), .val (.int p2), .val (.int (p2 &&& (3 : Int32))), .unset, .unset, .unset, .unset, .unset] [])) (fun _ k => XS.icmpYes X0.here hx rfl (pc0 := 29) (pc' := 44) rfl (hb hby at_29) rfl (feq hc4).2 (by decide) (by decide) k) ?_
        refine own_go (B := s₁.setTop (mkF m 45 #[.val (.int p1), .val (.int p2), .val (.int (p2 &&& (3 : Int32))), .unset, .unset, .unset, .unset, .unset] [(.int p1)])) (fun _ k => XS.iloadN X0.here hx rfl (hb hby at_44) rfl  k) ?_
        refine own_go (B := s₁.setTop (mkF m 47 #[.val (.int p1), .val (.int p2), .val (.int (p2 &&& (3 : Int32))), .unset, .unset, .unset, .unset, .unset] [(.int (2097151 : Int32)), (.int p1)])) (fun _ k => X0.ldcInt hx hown (mvT hZ (own_w hw 0 rfl)) (g := (mkF m 45 #[.val (.int p1), .val (.int p2), .val (.int (p2 &&& (3 : Int32))), .unset, .unset, .unset, .unset, .unset] [(.int p1)])) rfl (hb hby at_45) _ k) ?_
        refine own_go (B := s₁.setTop (mkF m 48 #[.val (.int p1), .val (.int p2), .val (.int (p2 &&& (3 : Int32))), .unset, .unset, .unset, .unset, .unset] [(.int (p1 &&& (2097151 : Int32)))])) (fun _ k => XS.iand X0.here hx rfl (hb hby at_47) rfl k) ?_
        refine own_go (B := s₁.setTop (mkF m 49 #[.val (.int p1), .val (.int p2), .val (.int (p2 &&& (3 : Int32))), .val (.int (p1 &&& (2097151 : Int32))), .unset, .unset, .unset, .unset] [])) (fun _ k => XS.istoreN X0.here hx rfl (hb hby at_48) rfl (l' := #[.val (.int p1), .val (.int p2), .val (.int (p2 &&& (3 : Int32))), .val (.int (p1 &&& (2097151 : Int32))), .unset, .unset, .unset, .unset]) rfl k) ?_
        exact J1 (p1 &&& (2097151 : Int32))
set_option maxRecDepth 65536 in
set_option maxHeartbeats 40000000 in
theorem comes_1 {Post : Tables → Env → Array Value → State → Outcome → State → Prop} (hpost : ∀ tb e args s v u, (limb_1_1.after args s (.returned v) u = true ∧ limb_1_2.after args s (.returned v) u = true ∧ True) → FrameEnd s (.returned v) u (Jvm.fieldLocs frame_1_writes args s ++ Jvm.arrayLocs frame_1_arrays args s ++ Jvm.staticLocs frame_1_statics s) 0 0 → Post tb e args s (.returned v) u) :
    ArmFor flags0 classFile x code maxLocals ret World_1 tables_1 room_1 Calls_1 rest_1 Pre_1 Post := by
  intro l hfl _ _ p e ha hc hk s m args below hf hA hF happ hP
  obtain ⟨hcalls, hrest, hpre⟩ := hP
  obtain ⟨-, -, -, hnamed, -, -, -, hat⟩ := (Spec.applies_iff hf).mp happ
  obtain ⟨hg, hn⟩ := and_e (Cond.before_iff.mp (show (Jvm.Cond.and given_1 narrow_1).before args s = true from hpre))
  obtain ⟨gg1, gg2⟩ := and_e hg
  obtain ⟨gg3, gg4⟩ := and_e gg2
  obtain ⟨w0, w1, rfl⟩ : ∃ w0 w1 : Value, args = #[w0, w1] := by
    have hs : args.size = 2 := by simpa [Cond.value, given_1] using gg1
    obtain ⟨L⟩ := args
    match L, hs with
    | [w0, w1], _ => exact ⟨w0, w1, rfl⟩
  have hw := fun d (hd : d ∈ tables_1) => atoms_spec (ws := Jvm.Cond.code x code maxLocals ret :: tables_1) hat d (List.mem_cons_of_mem _ hd)
  have hfit : Fit s := fun {y c} hc i hi => by
    obtain ⟨ha, rfl⟩ := Array.getElem?_eq_some_iff.mp hc
    have q := List.all_eq_true.mp ((Array.all_eq_true_iff_forall_mem.mp hF) _ (Array.getElem_mem ha)) i (List.mem_range.mpr hi)
    simpa [Array.getElem?_eq_getElem hi] using q
  obtain ⟨i0, ei0⟩ := is_v gg3
  obtain rfl : w0 = (.int i0) := Option.some.inj ei0
  obtain ⟨i1, ei1⟩ := is_v gg4
  obtain rfl : w1 = (.int i1) := Option.some.inj ei1
  obtain ⟨n, o, h1, h2, h3, _, L, rfl, ⟨rfl, N, _⟩, hq⟩ := own_rm0 l s _ hw tables_1 i0 i1 s.heap s.heap.size (Nat.le_refl _)  p e ha hc hk s m _ below hf ((Spec.applies_iff_loose hf).mp happ).1 ⟨rfl, State.Warmed39.refl s, rfl⟩ trivial
  refine ⟨n, _, h1, h2, h3, hpost _ _ _ _ _ _ ⟨Cond.after_iff.mpr rfl, Cond.after_iff.mpr (eq_i res_at (Term.int_eval (1)) rfl), trivial⟩ ⟨hq.1, hq.2.1, (hq.2.2.sift fun y hy => Or.inr (N y hy)).mono (by decide) (by decide)⟩⟩
theorem main_1_1 : Claimed_1_1 := comes_1 fun _ _ _ _ _ _ h hF => ⟨h.1, hF⟩
theorem main_1_2 : Claimed_1_2 := comes_1 fun _ _ _ _ _ _ h hF => ⟨h.2.1, hF⟩
end Jvm.Pilot.@@N@@
namespace Jvm.Pilot.@@N@@
open Jvm Jvm.ClassFile Sem Op Lib Jvm.Free Jvm.Stand Jvm.Pilot.@@N@@.Jvm.D
/-! MADE BY PROGRAM (witnessworld.py) out of the Statement's table words and the real class files: 12 classes; the members and pool entries that the words name. The judged class is class 1, her method 1. -/
namespace start1
open Jvm.ClassFile
def u (s : String) : CpInfo := .utf8 (stringToUtf16 s)
/-- a pool by its gaps: so many unusable entries, then the entry; so many at the end -/
def gap : Nat → List CpInfo → List CpInfo
  | 0, r => r
  | n + 1, r => .unusable :: gap n r
def poolList (es : List (Nat × CpInfo)) (last : Nat) : List CpInfo := es.foldr (fun e r => gap e.1 (e.2 :: r)) (gap last [])
def pool (es : List (Nat × CpInfo)) (last : Nat) : Array CpInfo := ⟨poolList es last⟩
def fileOf (pool : Array CpInfo) (this : Nat) (attrs : Array Attribute := #[]) (ms : Array MethodInfo := #[]) (fl : Nat := 33) (sup : Nat := 0) (ifs : Array Nat := #[]) (fds : Array FieldInfo := #[]) : ClassFile where
  minorVersion := 0
  majorVersion := 65
  constantPool := pool
  accessFlags := fl
  thisClass := this
  superClass := sup
  interfaces := ifs
  fields := fds
  methods := ms
  attributes := attrs
def plain (name : String) (sup : Option ClassId) : Class where
  name := name
  kind := .ordinary
  loader := none
  accessFlags := 33
  super := sup
  interfaces := #[]
  cf := none
  fields := #[]
  methods := #[]
  instanceTypes := #[]
  staticTypes := #[]
  resolved := #[]
  callSites := []
  init := .initialized
  statics := none
  mirror := none

def pool0 : Array CpInfo := pool [(5, u "<init>"), (0, u "()V"), (1, .class_ 10), (1, u "java/lang/Object")] 113

def k0m0 : Method := { name := "<init>", desc := "()V", sig := { parameters := [], returnType := none }, accessFlags := 1, code := none }
/-- java/lang/Object -/
def k0 : Class := { plain "java/lang/Object" none with
  accessFlags := 33
  interfaces := #[]
  cf := some (fileOf pool0 8 #[] #[{ accessFlags := 1, nameIndex := 5, descriptorIndex := 6, attributes := #[] }] 33 0 #[] #[])
  fields := #[]
  methods := #[k0m0]
  instanceTypes := #[]
  staticTypes := #[]
  resolved := Array.replicate 124 none
  statics := none }

def pool1 : Array CpInfo := pool [(2, .class_ 4), (1, u "java/lang/Object"), (0, u "<init>"), (0, u "()V"), (0, .integer 2097151), (0, .methodref 9 10), (0, .class_ 11), (0, .nameAndType 12 13), (0, u "com/example/aduana/aduana/web/LogLines"), (0, u "isLineBreakOrControl"), (0, u "(I)Z"), (0, .class_ 15), (0, u "com/example/aduana/aduana/web/LogLinesIsLineBreakOrControlPinLaw"), (2, u "law"), (0, u "(II)Z")] 3

def k1m0 : Method := { name := "<init>", desc := "()V", sig := { parameters := [], returnType := none }, accessFlags := 2, code := none }
def k1c1 : Code := { maxStack := 3, maxLocals := 8, code := code, exceptionTable := #[], attributes := #[] }
def k1m1 : Method := { name := "law", desc := "(II)Z", sig := { parameters := [.int, .int], returnType := some .boolean }, accessFlags := 9, code := some k1c1 }
/-- com/example/aduana/aduana/web/LogLinesIsLineBreakOrControlPinLaw -/
def k1 : Class := { plain "com/example/aduana/aduana/web/LogLinesIsLineBreakOrControlPinLaw" (some 0) with
  accessFlags := 49
  interfaces := #[]
  cf := some (fileOf pool1 14 #[] #[{ accessFlags := 2, nameIndex := 5, descriptorIndex := 6, attributes := #[] }, { accessFlags := 9, nameIndex := 18, descriptorIndex := 19, attributes := #[] }] 49 2 #[] #[])
  fields := #[]
  methods := #[k1m0, k1m1]
  instanceTypes := #[]
  staticTypes := #[]
  resolved := Array.replicate 23 none
  statics := none }

def pool2 : Array CpInfo := pool [(2, .class_ 4), (1, u "java/lang/Object"), (0, u "<init>"), (0, u "()V"), (10, .methodref 18 19), (0, .class_ 20), (0, .nameAndType 21 22), (0, u "java/lang/Character"), (0, u "isISOControl"), (0, u "(I)Z"), (0, .class_ 24), (0, u "com/example/aduana/aduana/web/LogLines"), (4, u "isLineBreakOrControl")] 21

def k2m0 : Method := { name := "<init>", desc := "()V", sig := { parameters := [], returnType := none }, accessFlags := 2, code := none }
def k2c1 : Code := { maxStack := 2, maxLocals := 1, code := prog_30_method_3_code, exceptionTable := #[], attributes := #[] }
def k2m1 : Method := { name := "isLineBreakOrControl", desc := "(I)Z", sig := { parameters := [.int], returnType := some .boolean }, accessFlags := 8, code := some k2c1 }
/-- com/example/aduana/aduana/web/LogLines -/
def k2 : Class := { plain "com/example/aduana/aduana/web/LogLines" (some 0) with
  accessFlags := 49
  interfaces := #[]
  cf := some (fileOf pool2 23 #[] #[{ accessFlags := 2, nameIndex := 5, descriptorIndex := 6, attributes := #[] }, { accessFlags := 8, nameIndex := 29, descriptorIndex := 22, attributes := #[] }] 49 2 #[] #[])
  fields := #[]
  methods := #[k2m0, k2m1]
  instanceTypes := #[]
  staticTypes := #[]
  resolved := Array.replicate 51 none
  statics := none }

def pool3 : Array CpInfo := pool [(1, .class_ 2), (0, u "java/io/Serializable"), (0, .class_ 4), (0, u "java/lang/Object")] 2

/-- java/io/Serializable -/
def k3 : Class := { plain "java/io/Serializable" (some 0) with
  accessFlags := 1537
  interfaces := #[]
  cf := some (fileOf pool3 1 #[] #[] 1537 3 #[] #[])
  fields := #[]
  methods := #[]
  instanceTypes := #[]
  staticTypes := #[]
  resolved := Array.replicate 7 none
  statics := none }

def pool4 : Array CpInfo := pool [(1, .class_ 2), (0, u "java/lang/Comparable"), (0, .class_ 4), (0, u "java/lang/Object")] 7

/-- java/lang/Comparable -/
def k4 : Class := { plain "java/lang/Comparable" (some 0) with
  accessFlags := 1537
  interfaces := #[]
  cf := some (fileOf pool4 1 #[] #[] 1537 3 #[] #[])
  fields := #[]
  methods := #[]
  instanceTypes := #[]
  staticTypes := #[]
  resolved := Array.replicate 12 none
  statics := none }

def pool5 : Array CpInfo := pool [(1, .class_ 2), (0, u "java/lang/constant/Constable"), (0, .class_ 4), (0, u "java/lang/Object")] 6

/-- java/lang/constant/Constable -/
def k5 : Class := { plain "java/lang/constant/Constable" (some 0) with
  accessFlags := 1537
  interfaces := #[]
  cf := some (fileOf pool5 1 #[] #[] 1537 3 #[] #[])
  fields := #[]
  methods := #[]
  instanceTypes := #[]
  staticTypes := #[]
  resolved := Array.replicate 11 none
  statics := none }

def pool6 : Array CpInfo := pool [(1, .class_ 2), (0, u "java/lang/Character"), (18, u "value"), (0, u "C"), (19, .class_ 44), (1, u "java/lang/Object"), (3, .class_ 50), (1, u "java/lang/Character$CharacterCache"), (63, u "(I)Z"), (153, u "isISOControl"), (15, u "$assertionsDisabled"), (0, u "Z"), (21, .class_ 309), (1, u "java/lang/Character$UnicodeBlock"), (73, u "TYPE"), (0, u "Ljava/lang/Class;"), (0, .class_ 386), (0, u "java/io/Serializable"), (0, .class_ 388), (0, u "java/lang/Comparable"), (0, .class_ 390), (0, u "java/lang/constant/Constable"), (0, u "MIN_RADIX"), (0, u "I"), (2, u "MAX_RADIX"), (1, u "MIN_VALUE"), (1, u "MAX_VALUE"), (3, u "UNASSIGNED"), (0, u "B"), (0, u "UPPERCASE_LETTER"), (1, u "LOWERCASE_LETTER"), (0, u "TITLECASE_LETTER"), (1, u "MODIFIER_LETTER"), (1, u "OTHER_LETTER"), (1, u "NON_SPACING_MARK"), (1, u "ENCLOSING_MARK"), (1, u "COMBINING_SPACING_MARK"), (1, u "DECIMAL_DIGIT_NUMBER"), (1, u "LETTER_NUMBER"), (1, u "OTHER_NUMBER"), (1, u "SPACE_SEPARATOR"), (1, u "LINE_SEPARATOR"), (1, u "PARAGRAPH_SEPARATOR"), (1, u "CONTROL"), (1, u "FORMAT"), (1, u "PRIVATE_USE"), (1, u "SURROGATE"), (1, u "DASH_PUNCTUATION"), (1, u "START_PUNCTUATION"), (1, u "END_PUNCTUATION"), (1, u "CONNECTOR_PUNCTUATION"), (1, u "OTHER_PUNCTUATION"), (1, u "MATH_SYMBOL"), (1, u "CURRENCY_SYMBOL"), (1, u "MODIFIER_SYMBOL"), (1, u "OTHER_SYMBOL"), (1, u "INITIAL_QUOTE_PUNCTUATION"), (1, u "FINAL_QUOTE_PUNCTUATION"), (1, u "ERROR"), (1, u "DIRECTIONALITY_UNDEFINED"), (0, u "DIRECTIONALITY_LEFT_TO_RIGHT"), (0, u "DIRECTIONALITY_RIGHT_TO_LEFT"), (0, u "DIRECTIONALITY_RIGHT_TO_LEFT_ARABIC"), (0, u "DIRECTIONALITY_EUROPEAN_NUMBER"), (0, u "DIRECTIONALITY_EUROPEAN_NUMBER_SEPARATOR"), (0, u "DIRECTIONALITY_EUROPEAN_NUMBER_TERMINATOR"), (0, u "DIRECTIONALITY_ARABIC_NUMBER"), (0, u "DIRECTIONALITY_COMMON_NUMBER_SEPARATOR"), (0, u "DIRECTIONALITY_NONSPACING_MARK"), (0, u "DIRECTIONALITY_BOUNDARY_NEUTRAL"), (0, u "DIRECTIONALITY_PARAGRAPH_SEPARATOR"), (0, u "DIRECTIONALITY_SEGMENT_SEPARATOR"), (0, u "DIRECTIONALITY_WHITESPACE"), (0, u "DIRECTIONALITY_OTHER_NEUTRALS"), (0, u "DIRECTIONALITY_LEFT_TO_RIGHT_EMBEDDING"), (0, u "DIRECTIONALITY_LEFT_TO_RIGHT_OVERRIDE"), (0, u "DIRECTIONALITY_RIGHT_TO_LEFT_EMBEDDING"), (0, u "DIRECTIONALITY_RIGHT_TO_LEFT_OVERRIDE"), (1, u "DIRECTIONALITY_POP_DIRECTIONAL_FORMAT"), (0, u "DIRECTIONALITY_LEFT_TO_RIGHT_ISOLATE"), (0, u "DIRECTIONALITY_RIGHT_TO_LEFT_ISOLATE"), (0, u "DIRECTIONALITY_FIRST_STRONG_ISOLATE"), (0, u "DIRECTIONALITY_POP_DIRECTIONAL_ISOLATE"), (0, u "MIN_HIGH_SURROGATE"), (0, u "MAX_HIGH_SURROGATE"), (1, u "MIN_LOW_SURROGATE"), (0, u "MAX_LOW_SURROGATE"), (1, u "MIN_SURROGATE"), (0, u "MAX_SURROGATE"), (0, u "MIN_SUPPLEMENTARY_CODE_POINT"), (0, u "MIN_CODE_POINT"), (0, u "MAX_CODE_POINT"), (1, u "serialVersionUID"), (0, u "J"), (2, u "SIZE"), (0, u "BYTES"), (88, .class_ 596), (0, u "java/lang/Character$UnicodeScript"), (0, .class_ 598), (0, u "java/lang/Character$Subset")] 5

def k6c0 : Code := { maxStack := 2, maxLocals := 1, code := jdk_89_method_89_code, exceptionTable := #[], attributes := #[] }
def k6m0 : Method := { name := "isISOControl", desc := "(I)Z", sig := { parameters := [.int], returnType := some .boolean }, accessFlags := 9, code := some k6c0 }
/-- java/lang/Character -/
def k6 : Class := { plain "java/lang/Character" (some 0) with
  accessFlags := 49
  interfaces := #[3, 4, 5]
  cf := some (fileOf pool6 1 #[.nestMembers #[48, 595, 307, 597]] #[{ accessFlags := 9, nameIndex := 268, descriptorIndex := 114, attributes := #[] }] 49 42 #[385, 387, 389] #[{ accessFlags := 25, nameIndex := 391, descriptorIndex := 392, attributes := #[] }, { accessFlags := 25, nameIndex := 395, descriptorIndex := 392, attributes := #[] }, { accessFlags := 25, nameIndex := 397, descriptorIndex := 22, attributes := #[] }, { accessFlags := 25, nameIndex := 399, descriptorIndex := 22, attributes := #[] }, { accessFlags := 25, nameIndex := 383, descriptorIndex := 384, attributes := #[] }, { accessFlags := 25, nameIndex := 403, descriptorIndex := 404, attributes := #[] }, { accessFlags := 25, nameIndex := 405, descriptorIndex := 404, attributes := #[] }, { accessFlags := 25, nameIndex := 407, descriptorIndex := 404, attributes := #[] }, { accessFlags := 25, nameIndex := 408, descriptorIndex := 404, attributes := #[] }, { accessFlags := 25, nameIndex := 410, descriptorIndex := 404, attributes := #[] }, { accessFlags := 25, nameIndex := 412, descriptorIndex := 404, attributes := #[] }, { accessFlags := 25, nameIndex := 414, descriptorIndex := 404, attributes := #[] }, { accessFlags := 25, nameIndex := 416, descriptorIndex := 404, attributes := #[] }, { accessFlags := 25, nameIndex := 418, descriptorIndex := 404, attributes := #[] }, { accessFlags := 25, nameIndex := 420, descriptorIndex := 404, attributes := #[] }, { accessFlags := 25, nameIndex := 422, descriptorIndex := 404, attributes := #[] }, { accessFlags := 25, nameIndex := 424, descriptorIndex := 404, attributes := #[] }, { accessFlags := 25, nameIndex := 426, descriptorIndex := 404, attributes := #[] }, { accessFlags := 25, nameIndex := 428, descriptorIndex := 404, attributes := #[] }, { accessFlags := 25, nameIndex := 430, descriptorIndex := 404, attributes := #[] }, { accessFlags := 25, nameIndex := 432, descriptorIndex := 404, attributes := #[] }, { accessFlags := 25, nameIndex := 434, descriptorIndex := 404, attributes := #[] }, { accessFlags := 25, nameIndex := 436, descriptorIndex := 404, attributes := #[] }, { accessFlags := 25, nameIndex := 438, descriptorIndex := 404, attributes := #[] }, { accessFlags := 25, nameIndex := 440, descriptorIndex := 404, attributes := #[] }, { accessFlags := 25, nameIndex := 442, descriptorIndex := 404, attributes := #[] }, { accessFlags := 25, nameIndex := 444, descriptorIndex := 404, attributes := #[] }, { accessFlags := 25, nameIndex := 446, descriptorIndex := 404, attributes := #[] }, { accessFlags := 25, nameIndex := 448, descriptorIndex := 404, attributes := #[] }, { accessFlags := 25, nameIndex := 450, descriptorIndex := 404, attributes := #[] }, { accessFlags := 25, nameIndex := 452, descriptorIndex := 404, attributes := #[] }, { accessFlags := 25, nameIndex := 454, descriptorIndex := 404, attributes := #[] }, { accessFlags := 25, nameIndex := 456, descriptorIndex := 404, attributes := #[] }, { accessFlags := 25, nameIndex := 458, descriptorIndex := 404, attributes := #[] }, { accessFlags := 25, nameIndex := 460, descriptorIndex := 404, attributes := #[] }, { accessFlags := 24, nameIndex := 462, descriptorIndex := 392, attributes := #[] }, { accessFlags := 25, nameIndex := 464, descriptorIndex := 404, attributes := #[] }, { accessFlags := 25, nameIndex := 465, descriptorIndex := 404, attributes := #[] }, { accessFlags := 25, nameIndex := 466, descriptorIndex := 404, attributes := #[] }, { accessFlags := 25, nameIndex := 467, descriptorIndex := 404, attributes := #[] }, { accessFlags := 25, nameIndex := 468, descriptorIndex := 404, attributes := #[] }, { accessFlags := 25, nameIndex := 469, descriptorIndex := 404, attributes := #[] }, { accessFlags := 25, nameIndex := 470, descriptorIndex := 404, attributes := #[] }, { accessFlags := 25, nameIndex := 471, descriptorIndex := 404, attributes := #[] }, { accessFlags := 25, nameIndex := 472, descriptorIndex := 404, attributes := #[] }, { accessFlags := 25, nameIndex := 473, descriptorIndex := 404, attributes := #[] }, { accessFlags := 25, nameIndex := 474, descriptorIndex := 404, attributes := #[] }, { accessFlags := 25, nameIndex := 475, descriptorIndex := 404, attributes := #[] }, { accessFlags := 25, nameIndex := 476, descriptorIndex := 404, attributes := #[] }, { accessFlags := 25, nameIndex := 477, descriptorIndex := 404, attributes := #[] }, { accessFlags := 25, nameIndex := 478, descriptorIndex := 404, attributes := #[] }, { accessFlags := 25, nameIndex := 479, descriptorIndex := 404, attributes := #[] }, { accessFlags := 25, nameIndex := 480, descriptorIndex := 404, attributes := #[] }, { accessFlags := 25, nameIndex := 481, descriptorIndex := 404, attributes := #[] }, { accessFlags := 25, nameIndex := 482, descriptorIndex := 404, attributes := #[] }, { accessFlags := 25, nameIndex := 484, descriptorIndex := 404, attributes := #[] }, { accessFlags := 25, nameIndex := 485, descriptorIndex := 404, attributes := #[] }, { accessFlags := 25, nameIndex := 486, descriptorIndex := 404, attributes := #[] }, { accessFlags := 25, nameIndex := 487, descriptorIndex := 404, attributes := #[] }, { accessFlags := 25, nameIndex := 488, descriptorIndex := 404, attributes := #[] }, { accessFlags := 25, nameIndex := 489, descriptorIndex := 22, attributes := #[] }, { accessFlags := 25, nameIndex := 490, descriptorIndex := 22, attributes := #[] }, { accessFlags := 25, nameIndex := 492, descriptorIndex := 22, attributes := #[] }, { accessFlags := 25, nameIndex := 493, descriptorIndex := 22, attributes := #[] }, { accessFlags := 25, nameIndex := 495, descriptorIndex := 22, attributes := #[] }, { accessFlags := 25, nameIndex := 496, descriptorIndex := 22, attributes := #[] }, { accessFlags := 25, nameIndex := 497, descriptorIndex := 392, attributes := #[] }, { accessFlags := 25, nameIndex := 498, descriptorIndex := 392, attributes := #[] }, { accessFlags := 25, nameIndex := 499, descriptorIndex := 392, attributes := #[] }, { accessFlags := 18, nameIndex := 21, descriptorIndex := 22, attributes := #[] }, { accessFlags := 26, nameIndex := 501, descriptorIndex := 502, attributes := #[] }, { accessFlags := 25, nameIndex := 505, descriptorIndex := 392, attributes := #[] }, { accessFlags := 25, nameIndex := 506, descriptorIndex := 392, attributes := #[] }, { accessFlags := 4120, nameIndex := 284, descriptorIndex := 285, attributes := #[] }])
  fields := #[{ name := "MIN_RADIX", type := .int, accessFlags := 25, slot := 0, constantValue := 0 }, { name := "MAX_RADIX", type := .int, accessFlags := 25, slot := 1, constantValue := 0 }, { name := "MIN_VALUE", type := .char, accessFlags := 25, slot := 2, constantValue := 0 }, { name := "MAX_VALUE", type := .char, accessFlags := 25, slot := 3, constantValue := 0 }, { name := "TYPE", type := (.object "java/lang/Class"), accessFlags := 25, slot := 4, constantValue := 0 }, { name := "UNASSIGNED", type := .byte, accessFlags := 25, slot := 5, constantValue := 0 }, { name := "UPPERCASE_LETTER", type := .byte, accessFlags := 25, slot := 6, constantValue := 0 }, { name := "LOWERCASE_LETTER", type := .byte, accessFlags := 25, slot := 7, constantValue := 0 }, { name := "TITLECASE_LETTER", type := .byte, accessFlags := 25, slot := 8, constantValue := 0 }, { name := "MODIFIER_LETTER", type := .byte, accessFlags := 25, slot := 9, constantValue := 0 }, { name := "OTHER_LETTER", type := .byte, accessFlags := 25, slot := 10, constantValue := 0 }, { name := "NON_SPACING_MARK", type := .byte, accessFlags := 25, slot := 11, constantValue := 0 }, { name := "ENCLOSING_MARK", type := .byte, accessFlags := 25, slot := 12, constantValue := 0 }, { name := "COMBINING_SPACING_MARK", type := .byte, accessFlags := 25, slot := 13, constantValue := 0 }, { name := "DECIMAL_DIGIT_NUMBER", type := .byte, accessFlags := 25, slot := 14, constantValue := 0 }, { name := "LETTER_NUMBER", type := .byte, accessFlags := 25, slot := 15, constantValue := 0 }, { name := "OTHER_NUMBER", type := .byte, accessFlags := 25, slot := 16, constantValue := 0 }, { name := "SPACE_SEPARATOR", type := .byte, accessFlags := 25, slot := 17, constantValue := 0 }, { name := "LINE_SEPARATOR", type := .byte, accessFlags := 25, slot := 18, constantValue := 0 }, { name := "PARAGRAPH_SEPARATOR", type := .byte, accessFlags := 25, slot := 19, constantValue := 0 }, { name := "CONTROL", type := .byte, accessFlags := 25, slot := 20, constantValue := 0 }, { name := "FORMAT", type := .byte, accessFlags := 25, slot := 21, constantValue := 0 }, { name := "PRIVATE_USE", type := .byte, accessFlags := 25, slot := 22, constantValue := 0 }, { name := "SURROGATE", type := .byte, accessFlags := 25, slot := 23, constantValue := 0 }, { name := "DASH_PUNCTUATION", type := .byte, accessFlags := 25, slot := 24, constantValue := 0 }, { name := "START_PUNCTUATION", type := .byte, accessFlags := 25, slot := 25, constantValue := 0 }, { name := "END_PUNCTUATION", type := .byte, accessFlags := 25, slot := 26, constantValue := 0 }, { name := "CONNECTOR_PUNCTUATION", type := .byte, accessFlags := 25, slot := 27, constantValue := 0 }, { name := "OTHER_PUNCTUATION", type := .byte, accessFlags := 25, slot := 28, constantValue := 0 }, { name := "MATH_SYMBOL", type := .byte, accessFlags := 25, slot := 29, constantValue := 0 }, { name := "CURRENCY_SYMBOL", type := .byte, accessFlags := 25, slot := 30, constantValue := 0 }, { name := "MODIFIER_SYMBOL", type := .byte, accessFlags := 25, slot := 31, constantValue := 0 }, { name := "OTHER_SYMBOL", type := .byte, accessFlags := 25, slot := 32, constantValue := 0 }, { name := "INITIAL_QUOTE_PUNCTUATION", type := .byte, accessFlags := 25, slot := 33, constantValue := 0 }, { name := "FINAL_QUOTE_PUNCTUATION", type := .byte, accessFlags := 25, slot := 34, constantValue := 0 }, { name := "ERROR", type := .int, accessFlags := 24, slot := 35, constantValue := 0 }, { name := "DIRECTIONALITY_UNDEFINED", type := .byte, accessFlags := 25, slot := 36, constantValue := 0 }, { name := "DIRECTIONALITY_LEFT_TO_RIGHT", type := .byte, accessFlags := 25, slot := 37, constantValue := 0 }, { name := "DIRECTIONALITY_RIGHT_TO_LEFT", type := .byte, accessFlags := 25, slot := 38, constantValue := 0 }, { name := "DIRECTIONALITY_RIGHT_TO_LEFT_ARABIC", type := .byte, accessFlags := 25, slot := 39, constantValue := 0 }, { name := "DIRECTIONALITY_EUROPEAN_NUMBER", type := .byte, accessFlags := 25, slot := 40, constantValue := 0 }, { name := "DIRECTIONALITY_EUROPEAN_NUMBER_SEPARATOR", type := .byte, accessFlags := 25, slot := 41, constantValue := 0 }, { name := "DIRECTIONALITY_EUROPEAN_NUMBER_TERMINATOR", type := .byte, accessFlags := 25, slot := 42, constantValue := 0 }, { name := "DIRECTIONALITY_ARABIC_NUMBER", type := .byte, accessFlags := 25, slot := 43, constantValue := 0 }, { name := "DIRECTIONALITY_COMMON_NUMBER_SEPARATOR", type := .byte, accessFlags := 25, slot := 44, constantValue := 0 }, { name := "DIRECTIONALITY_NONSPACING_MARK", type := .byte, accessFlags := 25, slot := 45, constantValue := 0 }, { name := "DIRECTIONALITY_BOUNDARY_NEUTRAL", type := .byte, accessFlags := 25, slot := 46, constantValue := 0 }, { name := "DIRECTIONALITY_PARAGRAPH_SEPARATOR", type := .byte, accessFlags := 25, slot := 47, constantValue := 0 }, { name := "DIRECTIONALITY_SEGMENT_SEPARATOR", type := .byte, accessFlags := 25, slot := 48, constantValue := 0 }, { name := "DIRECTIONALITY_WHITESPACE", type := .byte, accessFlags := 25, slot := 49, constantValue := 0 }, { name := "DIRECTIONALITY_OTHER_NEUTRALS", type := .byte, accessFlags := 25, slot := 50, constantValue := 0 }, { name := "DIRECTIONALITY_LEFT_TO_RIGHT_EMBEDDING", type := .byte, accessFlags := 25, slot := 51, constantValue := 0 }, { name := "DIRECTIONALITY_LEFT_TO_RIGHT_OVERRIDE", type := .byte, accessFlags := 25, slot := 52, constantValue := 0 }, { name := "DIRECTIONALITY_RIGHT_TO_LEFT_EMBEDDING", type := .byte, accessFlags := 25, slot := 53, constantValue := 0 }, { name := "DIRECTIONALITY_RIGHT_TO_LEFT_OVERRIDE", type := .byte, accessFlags := 25, slot := 54, constantValue := 0 }, { name := "DIRECTIONALITY_POP_DIRECTIONAL_FORMAT", type := .byte, accessFlags := 25, slot := 55, constantValue := 0 }, { name := "DIRECTIONALITY_LEFT_TO_RIGHT_ISOLATE", type := .byte, accessFlags := 25, slot := 56, constantValue := 0 }, { name := "DIRECTIONALITY_RIGHT_TO_LEFT_ISOLATE", type := .byte, accessFlags := 25, slot := 57, constantValue := 0 }, { name := "DIRECTIONALITY_FIRST_STRONG_ISOLATE", type := .byte, accessFlags := 25, slot := 58, constantValue := 0 }, { name := "DIRECTIONALITY_POP_DIRECTIONAL_ISOLATE", type := .byte, accessFlags := 25, slot := 59, constantValue := 0 }, { name := "MIN_HIGH_SURROGATE", type := .char, accessFlags := 25, slot := 60, constantValue := 0 }, { name := "MAX_HIGH_SURROGATE", type := .char, accessFlags := 25, slot := 61, constantValue := 0 }, { name := "MIN_LOW_SURROGATE", type := .char, accessFlags := 25, slot := 62, constantValue := 0 }, { name := "MAX_LOW_SURROGATE", type := .char, accessFlags := 25, slot := 63, constantValue := 0 }, { name := "MIN_SURROGATE", type := .char, accessFlags := 25, slot := 64, constantValue := 0 }, { name := "MAX_SURROGATE", type := .char, accessFlags := 25, slot := 65, constantValue := 0 }, { name := "MIN_SUPPLEMENTARY_CODE_POINT", type := .int, accessFlags := 25, slot := 66, constantValue := 0 }, { name := "MIN_CODE_POINT", type := .int, accessFlags := 25, slot := 67, constantValue := 0 }, { name := "MAX_CODE_POINT", type := .int, accessFlags := 25, slot := 68, constantValue := 0 }, { name := "value", type := .char, accessFlags := 18, slot := 0, constantValue := 0 }, { name := "serialVersionUID", type := .long, accessFlags := 26, slot := 69, constantValue := 0 }, { name := "SIZE", type := .int, accessFlags := 25, slot := 70, constantValue := 0 }, { name := "BYTES", type := .int, accessFlags := 25, slot := 71, constantValue := 0 }, { name := "$assertionsDisabled", type := .boolean, accessFlags := 4120, slot := 72, constantValue := 0 }]
  methods := #[k6m0]
  instanceTypes := #[.char]
  staticTypes := #[.int, .int, .char, .char, (.object "java/lang/Class"), .byte, .byte, .byte, .byte, .byte, .byte, .byte, .byte, .byte, .byte, .byte, .byte, .byte, .byte, .byte, .byte, .byte, .byte, .byte, .byte, .byte, .byte, .byte, .byte, .byte, .byte, .byte, .byte, .byte, .byte, .int, .byte, .byte, .byte, .byte, .byte, .byte, .byte, .byte, .byte, .byte, .byte, .byte, .byte, .byte, .byte, .byte, .byte, .byte, .byte, .byte, .byte, .byte, .byte, .byte, .char, .char, .char, .char, .char, .char, .int, .int, .int, .long, .int, .int, .boolean]
  resolved := Array.replicate 604 none
  statics := none }

def pool7 : Array CpInfo := pool [(1, u "java/lang/Cloneable"), (0, .class_ 1), (0, u "java/lang/Object"), (0, .class_ 3)] 3

/-- java/lang/Cloneable -/
def k7 : Class := { plain "java/lang/Cloneable" (some 0) with
  accessFlags := 1537
  interfaces := #[]
  cf := some (fileOf pool7 2 #[] #[] 1537 4 #[] #[])
  fields := #[]
  methods := #[]
  instanceTypes := #[]
  staticTypes := #[]
  resolved := Array.replicate 8 none
  statics := none }

/-- the primitive byte -/
def k8 : Class := { plain "byte" none with kind := .primitive 'B', accessFlags := 0x411 }
/-- [B -/
def k9 : Class := { plain "[B" (some 0) with kind := .array 8 .byte, interfaces := #[7, 3], accessFlags := 1041 }

/-- the primitive int -/
def k10 : Class := { plain "int" none with kind := .primitive 'I', accessFlags := 0x411 }
/-- [I -/
def k11 : Class := { plain "[I" (some 0) with kind := .array 10 .int, interfaces := #[7, 3], accessFlags := 1041 }

def heap : Heap := #[]
def classes : Array Class := #[k0, k1, k2, k3, k4, k5, k6, k7, k8, k9, k10, k11]
def interned : List (Array UInt16 × Addr) := []
def slotsUsed : Nat := 0
def theMethod : MethodId := ⟨1, 1⟩
def args0 : Array Value := #[.int 5, .int 5]
def aboutOver (below : List Frame) : State where
  vm := { classes := classes, interned := interned.toArray }
  heap := heap
  slotsUsed := slotsUsed
  threads := #[{ frames := .invoking theMethod args0 :: below }]
def below0 : List Frame := [.native { method := ⟨0, 0⟩, args := #[] }]
def about1 : State := aboutOver below0
def p0 : Program := .bare "" "" ""
def e0 : Env := launch0.env 0 0 0
theorem w_frames : about1.frames = Frame.invoking theMethod args0 :: below0 := rfl
set_option maxRecDepth 65536 in
theorem w_args : argsFit about1.vm theMethod args0 = true := by decide +kernel
set_option maxRecDepth 65536 in
theorem w_heap : heapFits about1 = true := by decide +kernel
set_option maxRecDepth 65536 in
theorem w_runnable : about1.curStatus? = some .runnable := by decide +kernel
set_option maxRecDepth 65536 in
theorem w_alone : about1.alone = true := by decide +kernel
set_option maxRecDepth 65536 in
theorem w_named : about1.methodNamed? x = some theMethod := by decide +kernel
set_option maxRecDepth 65536 in
theorem w_hears : about1.hears theMethod below0 = true := by decide +kernel
set_option maxRecDepth 65536 in
theorem w_ripe : about1.ripe theMethod args0 below0 = true := by decide +kernel
theorem w_running : about1.status = .running := rfl
set_option maxRecDepth 65536 in
theorem w_room : about1.hasRoom e0.platform room_1 = true :=
  launch0.hasRoom_least _ room_1 (by decide +kernel) (by decide +kernel) (by decide +kernel) (by decide +kernel) (by decide +kernel) (by decide +kernel)
theorem allAtoms_all (ts : List Jvm.Cond) (a : Array Jvm.Value) (st : Jvm.State) : (allAtoms ts).before a st = ts.all (fun c => c.before a st) := by
  induction ts with
  | nil => rfl
  | cons c t ih =>
    show (Jvm.Cond.and c (allAtoms t)).before a st = _
    rw [Jvm.Cond.before_and, ih, List.all_cons]
def words1 : List Jvm.Cond := Jvm.Cond.code x code maxLocals ret :: tables_1
/-- a 'code' word, met by the world's own term for the bytes: nothing is compared byte by byte -/
theorem code_word {y : MethodName} {bytes : ByteArray} {mx : Nat} {rt : Option FieldType} {a : Array Value} {s : State} {m : MethodId} {meth : Method} {c : Code} (h1 : s.methodNamed? y = some m) (h2 : s.vm.method? m = some meth) (h3 : meth.code = some c) (h4 : c.code = bytes)
    (h5 : (c.maxLocals == mx && c.exceptionTable.isEmpty && decide (c.maxStack ≤ mostOperands) && decide (meth.sig.returnType = rt) && !meth.locks && decide (parseMethodDescriptor y.desc = some meth.sig)) = true) : (Jvm.Cond.code y bytes mx rt).before a s = true := by
  simp only [Bool.and_eq_true, beq_iff_eq, Bool.not_eq_true', decide_eq_true_eq] at h5
  obtain ⟨⟨⟨⟨⟨g1, g2⟩, g3⟩, g4⟩, g5⟩, g6⟩ := h5
  simp [Cond.before, Cond.holds, Cond.value, h1, h2, h3, h4, g1, g2, g3, g4, g5, g6]
def isCode : Jvm.Cond → Bool
  | .code _ _ _ _ => true
  | _ => false
theorem all_split {L : List Jvm.Cond} {P : Jvm.Cond → Bool} (h1 : L.all (fun c => isCode c || P c) = true) (h2 : ∀ c ∈ L.filter isCode, P c = true) : L.all P = true := by
  refine List.all_eq_true.mpr fun c hc => ?_
  have h := List.all_eq_true.mp h1 c hc
  rcases Bool.eq_false_or_eq_true (isCode c) with hi | hi
  · exact h2 c (List.mem_filter.mpr ⟨hc, hi⟩)
  · simpa [hi] using h
set_option maxRecDepth 65536 in
theorem w_c0 : (Jvm.Cond.code x code maxLocals ret).before args0 about1 = true := code_word (m := ⟨1, 1⟩) (meth := k1m1) (c := k1c1) (by decide +kernel) rfl rfl rfl (by decide +kernel)
set_option maxRecDepth 65536 in
theorem w_c1 : (Jvm.Cond.code ({ cls := "com/example/aduana/aduana/web/LogLines", name := "isLineBreakOrControl", desc := "(I)Z" } : Jvm.MethodName) prog_30_method_3_code (1 : Nat) (Option.some Jvm.ClassFile.FieldType.boolean)).before args0 about1 = true := code_word (m := ⟨2, 1⟩) (meth := k2m1) (c := k2c1) (by decide +kernel) rfl rfl rfl (by decide +kernel)
set_option maxRecDepth 65536 in
theorem w_c2 : (Jvm.Cond.code ({ cls := "java/lang/Character", name := "isISOControl", desc := "(I)Z" } : Jvm.MethodName) jdk_89_method_89_code (1 : Nat) (Option.some Jvm.ClassFile.FieldType.boolean)).before args0 about1 = true := code_word (m := ⟨6, 0⟩) (meth := k6m0) (c := k6c0) (by decide +kernel) rfl rfl rfl (by decide +kernel)
def codes1 : List Jvm.Cond := [Jvm.Cond.code x code maxLocals ret, Jvm.Cond.code ({ cls := "com/example/aduana/aduana/web/LogLines", name := "isLineBreakOrControl", desc := "(I)Z" } : Jvm.MethodName) prog_30_method_3_code (1 : Nat) (Option.some Jvm.ClassFile.FieldType.boolean), Jvm.Cond.code ({ cls := "java/lang/Character", name := "isISOControl", desc := "(I)Z" } : Jvm.MethodName) jdk_89_method_89_code (1 : Nat) (Option.some Jvm.ClassFile.FieldType.boolean)]
set_option maxRecDepth 65536 in
theorem codes_eq : words1.filter isCode = codes1 := rfl
theorem w_codes : ∀ c ∈ words1.filter isCode, c.before args0 about1 = true := by
  rw [codes_eq]
  intro c hc
  simp only [codes1, List.mem_cons, List.not_mem_nil, or_false] at hc
  rcases hc with rfl | rfl | rfl
  · exact w_c0
  · exact w_c1
  · exact w_c2
set_option maxRecDepth 65536 in
theorem w_t1 : words1.all (fun c => isCode c || c.before args0 about1) = true := by decide +kernel
theorem w_tables : (allAtoms (Jvm.Cond.code x code maxLocals ret :: tables_1)).before args0 about1 = true := by
  rw [allAtoms_all]
  show words1.all (fun c => c.before args0 about1) = true
  refine all_split ?_ w_codes
  rw [w_t1]
set_option maxRecDepth 65536 in
theorem w_case : (Jvm.Cond.and given_1 narrow_1).before args0 about1 = true := by decide +kernel
theorem w_applies : (headSpec (Jvm.Cond.code x code maxLocals ret :: tables_1) room_1).applies x e0.platform about1 = true :=
  (Spec.applies_iff w_frames).mpr ⟨w_running, w_runnable, w_alone, w_named, w_hears, w_ripe, w_room, w_tables⟩
theorem atStart : AtStart classFile x code maxLocals ret World_1 tables_1 room_1 Calls_1 rest_1 Pre_1 launch0 p0 e0 about1 theMethod args0 below0 :=
  ⟨lists_1, trivial, launch0.admits_env _ _ _, launch0.least_env, fairChoices_fair.cas, fairChoices_fair.clock, w_frames, w_args, w_heap, w_applies, trivial, trivial, w_case⟩
end start1
theorem witness_1 : WitnessClaimed_1 := ⟨start1.p0, start1.e0, start1.about1, start1.theMethod, start1.args0, start1.below0, start1.atStart⟩
end Jvm.Pilot.@@N@@
