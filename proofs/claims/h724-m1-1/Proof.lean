import JvmDerived
import JvmDerived.Pilot.@@N@@Statement
import JvmDerived.Pilot.@@N@@Code
set_option linter.unusedVariables false
set_option linter.unusedSimpArgs false
@@BLOCK:NumsL.lean.txt@@
namespace Jvm.Pilot.@@N@@
open Jvm Jvm.ClassFile Sem Op Lib Jvm.Free Jvm.Stand Jvm.LawKit Jvm.RoadKit Bundle Jvm.Pilot.@@N@@.Jvm.D
section OwnKit
theorem own_w {Z : State} {a0 : Array Value} (hw : ∀ d ∈ tables_1, d.before a0 Z = true) {d : Jvm.Cond} (i : Nat) (h : tables_1[i]? = some d) : d.before a0 Z = true := hw d (List.mem_of_getElem? h)
theorem own_narb (x : Int32) : nar .byte (x.toInt8.toInt32) = x.toInt8.toInt32 := by
  show (x.toInt8.toInt32).toInt8.toInt32 = x.toInt8.toInt32
  rw [Int8.toInt8_toInt32]
theorem own_narc (x : Int32) : nar .char (x.toUInt32.toUInt16.toUInt32.toInt32) = x.toUInt32.toUInt16.toUInt32.toInt32 := by
  show (x.toUInt32.toUInt16.toUInt32.toInt32).toUInt32.toUInt16.toUInt32.toInt32 = _
  have : (x.toUInt32.toUInt16.toUInt32.toInt32).toUInt32 = x.toUInt32.toUInt16.toUInt32 := rfl
  rw [this]
  have : x.toUInt32.toUInt16.toUInt32.toUInt16 = x.toUInt32.toUInt16 := by rw [← UInt16.toNat_inj]; simp
  rw [this]
theorem own_plain {Z : State} {h : Heap} {a : Addr} {C : String} (F : Exa Z h a C) : ∃ c : Cell, h[a]? = some c ∧ c.vm.isStatics = false := by
  obtain ⟨c, _, h1, -, -, h4, -⟩ := F; exact ⟨c, h1, h4⟩
theorem own_plainV {Z : State} {h : Heap} {a : Addr} {k : ClassId} {ty : FieldType} {z : Int32} {vs : List Value} {d : Value} (F : Arv Z h a k ty z vs d) : ∃ c : Cell, h[a]? = some c ∧ c.vm.isStatics = false := by
  obtain ⟨c, A, -⟩ := F; exact ⟨c, A.1, A.plain⟩
theorem own_Sta_keep {Z : State} {h h' : Heap} {C n d : String} {v : Value} {ws : List Addr} (F : Sta Z h C n d v) (K : Keep h h' ws) (q : ∀ a ∈ ws, ∃ c : Cell, h[a]? = some c ∧ c.vm.isStatics = false) : Sta Z h' C n d v := by
  obtain ⟨cf, i, k, f, st, cell, h1, h2, h3, h4, h5, h6, h7⟩ := F
  have ne : st ∉ ws := fun hm => by
    obtain ⟨c, g1, g2⟩ := q st hm
    cases h5.symm.trans g1
    rw [h6] at g2; cases g2
  exact ⟨cf, i, k, f, st, cell, h1, h2, h3, h4, K.2.1 _ _ h5 ne, h6, h7⟩
theorem own_NSroot {Z : State} {a0 : Array Value} {O K : String} {j : Nat} (w : (Cond.noSuperclass O).before a0 Z = true) (wk : (Cond.instantiable K j).before a0 Z = true) (hn : O ≠ K) : NS Z O K := by
  obtain ⟨c, k, h1, h2, h3, -⟩ := Cond.noSuperclass_spec w
  obtain ⟨t, kt, g1, -⟩ := Cond.instantiable_spec wk
  refine ⟨c, t, h1, g1, fun fuel => ?_⟩
  cases fuel with
  | zero => rfl
  | succ f => simp [Vm.isSubclassAux, ids_ne h1 g1 hn, h2, h3]
theorem own_NSno {Z : State} {a0 : Array Value} {C S K : String} {j : Nat} (w : (Cond.superclass C S).before a0 Z = true) (wk : (Cond.instantiable K j).before a0 Z = true) (q : NS Z C K) (hn : C ≠ K) : ∃ c t, Z.vm.findClass C = some c ∧ Z.vm.findClass K = some t ∧ Z.vm.assignable c t = false := by
  obtain ⟨c, t, h0, g0, n3⟩ := q
  obtain ⟨_, k, _, _, h2, _, _, h5, -⟩ := Cond.superclass_spec h0 w
  obtain ⟨t', kt, g1, g2, g5, g7, -⟩ := Cond.instantiable_spec wk
  cases g0.symm.trans g1
  have g8 : kt.isInterface = false := by simpa using (Bool.or_eq_false_iff.mp g7).1
  refine ⟨c, t, h0, g0, ?_⟩
  show Z.vm.assignableAux (255 + 1) c t = false
  simp [Vm.assignableAux, ids_ne h0 g0 hn, h2, g2, h5, g5, g8, Vm.isSubclass, n3]
theorem own_hc {T : State} {h : Heap} {a : Addr} {c : Cell} (e : T.heap = h) (q : h[a]? = some c) : T.heap[a]? = some c := by subst e; exact q
def own_b (P : Prop) [Decidable P] : Int32 := if P then 1 else 0
theorem own_b1 {P : Prop} [Decidable P] (h : P) : own_b P = 1 := if_pos h
theorem own_b0 {P : Prop} [Decidable P] (h : ¬ P) : own_b P = 0 := if_neg h
variable {p : Program} {l : Launch} {e : Env} {R : Room} {s : State} {m : MethodId} {args : Array Value} {below : List Frame} {meth : Method} {c : Code} {T : State} {locs : List Loc} {cells slots : Nat}
def own_Fin (p : Program) (e : Env) (below : List Frame) (s : State) (Q : Option Value → Heap → List Loc → Prop) (k n : Nat) (A : State) : Prop := ∃ s₂ o, Steps p.tables e below A s₂ ∧ s₂.status = .running ∧ Ended s₂ below o ∧ ∃ v L, o = .returned v ∧ Q v s₂.heap L ∧ FrameEnd s o s₂ L k n
theorem own_go {Q : Option Value → Heap → List Loc → Prop} {k n : Nat} {A B : State} (h : ∀ t, Steps p.tables e below B t → Steps p.tables e below A t) (q : own_Fin p e below s Q k n B) : own_Fin p e below s Q k n A := by
  obtain ⟨s₂, o, h1, h2⟩ := q
  exact ⟨s₂, o, h _ h1, h2⟩
theorem own_retN {Q : Option Value → Heap → List Loc → Prop} {k n : Nat} (X : Stand p l e R s m args below meth c T locs cells slots) (hx : p.tables.exec = Jvm.exec) (hlk : meth.locks = false) {pc : Nat} {Ls : Array Slot} {z w : Int32} {t : FieldType} {rest : List Value} (hret : meth.sig.returnType = some t) (ht : t = .boolean ∨ t = .byte ∨ t = .char ∨ t = .short)
    (hd : decode c.code pc = .ok (.ireturn, 1)) {h : Heap} (eT : T.heap = h) (hz : nar t z = w) (hQ : Q (some (.int w)) h locs) (hk : cells ≤ k) (hn : slots ≤ n) : own_Fin p e below s Q k n (T.setTop (mkF m pc Ls (.int z :: rest))) := by
  subst hz eT
  obtain ⟨fs, hr, hrun, hended, hW, hsame⟩ := X.leave (v := some (.int (nar t z))) (fun h => by rw [hret] at h; cases h) hlk
  exact ⟨_, _, retN X hx hret ht hd hr, hrun, hended, _, _, rfl, hQ, ⟨_, rfl⟩, hW, hsame.mono hk hn⟩
theorem own_retI {Q : Option Value → Heap → List Loc → Prop} {k n : Nat} (X : Stand p l e R s m args below meth c T locs cells slots) (hx : p.tables.exec = Jvm.exec) (hlk : meth.locks = false) {pc : Nat} {Ls : Array Slot} {z : Int32} {rest : List Value} (hret : meth.sig.returnType = some .int)
    (hd : decode c.code pc = .ok (.ireturn, 1)) {h : Heap} (eT : T.heap = h) (hQ : Q (some (.int z)) h locs) (hk : cells ≤ k) (hn : slots ≤ n) : own_Fin p e below s Q k n (T.setTop (mkF m pc Ls (.int z :: rest))) := by
  subst eT
  obtain ⟨fs, hr, hrun, hended, hW, hsame⟩ := X.leave (v := some (.int z)) (fun h => by rw [hret] at h; cases h) hlk
  exact ⟨_, _, retOut X hx hret rfl (Or.inl ⟨rfl, Or.inl rfl, z, rfl⟩) hd hr, hrun, hended, _, _, rfl, hQ, ⟨_, rfl⟩, hW, hsame.mono hk hn⟩
theorem own_retJ {Q : Option Value → Heap → List Loc → Prop} {k n : Nat} (X : Stand p l e R s m args below meth c T locs cells slots) (hx : p.tables.exec = Jvm.exec) (hlk : meth.locks = false) {pc : Nat} {Ls : Array Slot} {z : Int64} {rest : List Value} (hret : meth.sig.returnType = some .long)
    (hd : decode c.code pc = .ok (.lreturn, 1)) {h : Heap} (eT : T.heap = h) (hQ : Q (some (.long z)) h locs) (hk : cells ≤ k) (hn : slots ≤ n) : own_Fin p e below s Q k n (T.setTop (mkF m pc Ls (.long z :: rest))) := by
  subst eT
  obtain ⟨fs, hr, hrun, hended, hW, hsame⟩ := X.leave (v := some (.long z)) (fun h => by rw [hret] at h; cases h) hlk
  exact ⟨_, _, retOut X hx hret rfl (Or.inr (Or.inl ⟨rfl, rfl, z, rfl⟩)) hd hr, hrun, hended, _, _, rfl, hQ, ⟨_, rfl⟩, hW, hsame.mono hk hn⟩
theorem own_retD {Q : Option Value → Heap → List Loc → Prop} {k n : Nat} (X : Stand p l e R s m args below meth c T locs cells slots) (hx : p.tables.exec = Jvm.exec) (hlk : meth.locks = false) {pc : Nat} {Ls : Array Slot} {z : UInt64} {rest : List Value} (hret : meth.sig.returnType = some .double)
    (hd : decode c.code pc = .ok (.dreturn, 1)) {h : Heap} (eT : T.heap = h) (hQ : Q (some (.double z)) h locs) (hk : cells ≤ k) (hn : slots ≤ n) : own_Fin p e below s Q k n (T.setTop (mkF m pc Ls (.double z :: rest))) := by
  subst eT
  obtain ⟨fs, hr, hrun, hended, hW, hsame⟩ := X.leave (v := some (.double z)) (fun h => by rw [hret] at h; cases h) hlk
  exact ⟨_, _, retOut X hx hret rfl (Or.inr (Or.inr (Or.inl ⟨rfl, rfl, z, rfl⟩))) hd hr, hrun, hended, _, _, rfl, hQ, ⟨_, rfl⟩, hW, hsame.mono hk hn⟩
theorem own_retA {Q : Option Value → Heap → List Loc → Prop} {k n : Nat} (X : Stand p l e R s m args below meth c T locs cells slots) (hx : p.tables.exec = Jvm.exec) (hlk : meth.locks = false) {pc : Nat} {Ls : Array Slot} {w : Value} {t : FieldType} {rest : List Value} (hret : meth.sig.returnType = some t) (ht : t.isReference = true) (hw : w.isRef = true)
    (hd : decode c.code pc = .ok (.areturn, 1)) {h : Heap} (eT : T.heap = h) (hQ : Q (some w) h locs) (hk : cells ≤ k) (hn : slots ≤ n) : own_Fin p e below s Q k n (T.setTop (mkF m pc Ls (w :: rest))) := by
  subst eT
  obtain ⟨fs, hr, hrun, hended, hW, hsame⟩ := X.leave (v := some w) (fun h => by rw [hret] at h; cases h) hlk
  have hnw : narrow t w = w := by
    rcases ref_cases hw with rfl | ⟨z, rfl⟩ <;> cases t <;> first | rfl | (cases ht; done)
  exact ⟨_, _, retOut X hx hret hnw (Or.inr (Or.inr (Or.inr (Or.inr ⟨rfl, ht, hw⟩)))) hd hr, hrun, hended, _, _, rfl, hQ, ⟨_, rfl⟩, hW, hsame.mono hk hn⟩
theorem own_retV {Q : Option Value → Heap → List Loc → Prop} {k n : Nat} (X : Stand p l e R s m args below meth c T locs cells slots) (hx : p.tables.exec = Jvm.exec) (hlk : meth.locks = false) {pc : Nat} {Ls : Array Slot} (hret : meth.sig.returnType = none)
    (hd : decode c.code pc = .ok (.return_, 1)) {h : Heap} (eT : T.heap = h) (hQ : Q none h locs) (hk : cells ≤ k) (hn : slots ≤ n) : own_Fin p e below s Q k n (T.setTop (mkF m pc Ls [])) := by
  subst eT
  obtain ⟨fs, hr, hrun, hended, hW, hsame⟩ := X.leave (v := none) (fun _ => rfl) hlk
  exact ⟨_, _, X.returnOut hx hret hd hr, hrun, hended, _, _, rfl, hQ, ⟨_, rfl⟩, hW, hsame.mono hk hn⟩
end OwnKit
section OwnNums
theorem own_iushr (x : Int32) {n : UInt32} {k : Nat} (hn : n.toNat = k) (h0 : 0 < k) (hk : k < 32) : ((x.toUInt32 >>> n).toInt32).toInt = (x.toInt % 4294967296) / 2 ^ k := by
  have e2 : ((x.toUInt32 >>> n).toInt32).toBitVec.toNat = x.toBitVec.toNat / 2 ^ k := by
    simp only [UInt32.toBitVec_toInt32, UInt32.toBitVec_shiftRight, Int32.toBitVec_toUInt32]
    simp [BitVec.toNat_ushiftRight, Nat.shiftRight_eq_div_pow, hn, Nat.mod_eq_of_lt hk]
  have hb := x.toBitVec.isLt
  have hp : 2 ^ 1 ≤ 2 ^ k := Nat.pow_le_pow_right (by decide) h0
  have hle : x.toBitVec.toNat / 2 ^ k ≤ x.toBitVec.toNat / 2 ^ 1 := Nat.div_le_div_left hp (by decide)
  have e3 : ((x.toUInt32 >>> n).toInt32).toInt = ((x.toBitVec.toNat / 2 ^ k : Nat) : Int) := by
    have : ((x.toUInt32 >>> n).toInt32).toInt = ((x.toUInt32 >>> n).toInt32).toBitVec.toInt := rfl
    rw [this, BitVec.toInt_eq_toNat_cond, e2, if_pos (by omega)]
  have e4 : x.toInt % 4294967296 = (x.toBitVec.toNat : Int) := by
    have : x.toInt = x.toBitVec.toInt := rfl
    rw [this, BitVec.toInt_eq_toNat_cond]
    split <;> omega
  rw [e3, e4, Int.natCast_ediv, Int.natCast_pow]
  rfl
theorem own_lushr (x : Int64) {n : UInt64} {k : Nat} (hn : n.toNat = k) (h0 : 0 < k) (hk : k < 64) : ((x.toUInt64 >>> n).toInt64).toInt = (x.toInt % 18446744073709551616) / 2 ^ k := by
  have e2 : ((x.toUInt64 >>> n).toInt64).toBitVec.toNat = x.toBitVec.toNat / 2 ^ k := by
    simp only [UInt64.toBitVec_toInt64, UInt64.toBitVec_shiftRight, Int64.toBitVec_toUInt64]
    simp [BitVec.toNat_ushiftRight, Nat.shiftRight_eq_div_pow, hn, Nat.mod_eq_of_lt hk]
  have hb := x.toBitVec.isLt
  have hp : 2 ^ 1 ≤ 2 ^ k := Nat.pow_le_pow_right (by decide) h0
  have hle : x.toBitVec.toNat / 2 ^ k ≤ x.toBitVec.toNat / 2 ^ 1 := Nat.div_le_div_left hp (by decide)
  have e3 : ((x.toUInt64 >>> n).toInt64).toInt = ((x.toBitVec.toNat / 2 ^ k : Nat) : Int) := by
    have : ((x.toUInt64 >>> n).toInt64).toInt = ((x.toUInt64 >>> n).toInt64).toBitVec.toInt := rfl
    rw [this, BitVec.toInt_eq_toNat_cond, e2, if_pos (by omega)]
  have e4 : x.toInt % 18446744073709551616 = (x.toBitVec.toNat : Int) := by
    have : x.toInt = x.toBitVec.toInt := rfl
    rw [this, BitVec.toInt_eq_toNat_cond]
    split <;> omega
  rw [e3, e4, Int.natCast_ediv, Int.natCast_pow]
  rfl
theorem own_l2i (x : Int64) : (x.toInt32.toInt - x.toInt) % 4294967296 = 0 := by rw [Int64.toInt_toInt32]; exact bm32 _
theorem own_div32 {x y : Int32} (hx : 0 ≤ x.toInt) (hy : 0 < y.toInt) : (x / y).toInt = x.toInt / y.toInt := by
  rw [Jvm.Kit.i32_div (by omega), Int.tdiv_eq_ediv_of_nonneg hx]
theorem own_div64 {x y : Int64} (hx : 0 ≤ x.toInt) (hy : 0 < y.toInt) : (x / y).toInt = x.toInt / y.toInt := by
  rw [Jvm.Kit.i64_div (by omega), Int.tdiv_eq_ediv_of_nonneg hx]
theorem own_i2c (x : Int32) : (x.toUInt32.toUInt16.toUInt32.toInt32).toInt = x.toInt % 65536 := by
  have e2 : (x.toUInt32.toUInt16.toUInt32.toInt32).toBitVec.toNat = x.toBitVec.toNat % 65536 := by
    show (x.toUInt32.toUInt16.toUInt32).toNat = _
    simp
    rfl
  have hb := x.toBitVec.isLt
  have e3 : (x.toUInt32.toUInt16.toUInt32.toInt32).toInt = (x.toUInt32.toUInt16.toUInt32.toInt32).toBitVec.toInt := rfl
  have e4 : x.toInt = x.toBitVec.toInt := rfl
  rw [e3, e4, BitVec.toInt_eq_toNat_cond, BitVec.toInt_eq_toNat_cond, e2]
  split <;> split <;> omega
theorem own_i2b (x : Int32) : ((x.toInt8.toInt32).toInt - x.toInt) % 256 = 0 ∧ -128 ≤ (x.toInt8.toInt32).toInt ∧ (x.toInt8.toInt32).toInt < 128 := by
  have h1 : (x.toInt8.toInt32).toInt = x.toInt8.toInt := Int8.toInt_toInt32 _
  have h2 := x.toInt8.toInt_lt; have h3 := x.toInt8.le_toInt
  have h4 : x.toInt8.toInt = x.toInt.bmod 256 := Int32.toInt_toInt8 x
  have h5 := Int.bmod_emod (x := x.toInt) (m := 256)
  rw [h1]; omega
end OwnNums
theorem own_pd0 : parseMethodDescriptor "()V" = some ⟨[], none⟩ := by decide +kernel
theorem own_pd1 : parseMethodDescriptor "()D" = some ⟨[], some .double⟩ := by decide +kernel
theorem own_pd2 : parseMethodDescriptor "(D)V" = some ⟨[.double], none⟩ := by decide +kernel
open FP Core in
theorem own_units {A C x y : Nat} {e : Int} (he : e + 1 = (x : Int) - y) (h : A * 2 ^ x = C * 2 ^ y) : A * 2 ^ (e - (-1)).toNat = C * 2 ^ ((-1) - e).toNat := by
  rcases Nat.le_total y x with q | q
  · obtain ⟨k, rfl⟩ := Nat.exists_eq_add_of_le q
    have e1 : (e - (-1)).toNat = k := by omega
    have e2 : ((-1) - e).toNat = 0 := by omega
    rw [e1, e2]
    rw [Nat.pow_add, Nat.mul_comm (2 ^ y), ← Nat.mul_assoc] at h
    have := Nat.eq_of_mul_eq_mul_right (Nat.two_pow_pos y) h
    simpa using this
  · obtain ⟨k, rfl⟩ := Nat.exists_eq_add_of_le q
    have e1 : (e - (-1)).toNat = 0 := by omega
    have e2 : ((-1) - e).toNat = k := by omega
    rw [e1, e2]
    rw [Nat.pow_add, Nat.mul_comm (2 ^ x), ← Nat.mul_assoc] at h
    have := Nat.eq_of_mul_eq_mul_right (Nat.two_pow_pos x) h
    simpa using this
/-- the double a is the number n / 2 -/
def own_H (n : Int) (a : UInt64) : Prop := n.natAbs < 2 ^ 53 ∧ ∃ s c q, FP.Core.val64 a = .fin s c q ∧ FP.Core.signed s (FP.Core.inUnits c q (-1074)) = n * 2 ^ 1073
open FP Core in
theorem own_rnd {sg : Bool} {A B : Nat} {e N : Int} (hB : 0 < B) (hN : N.natAbs < 2 ^ 53) (hs : signed sg N.natAbs = N) (h : A * 2 ^ (e - (-1)).toNat = N.natAbs * B * 2 ^ ((-1) - e).toNat) :
    ∃ c q, roundRatio b64 sg A B e = .fin sg c q ∧ signed sg (inUnits c q (-1074)) = N * 2 ^ 1073 := by
  rw [roundRatio_congr (A' := N.natAbs) (B' := 1) (e' := -1) hB (by decide) (by simpa using h)]
  obtain ⟨c, q, h1, h2⟩ := round_exact good_b64 sg (c := N.natAbs) (q := -1) (by exact hN) (by decide) (by decide)
  refine ⟨c, q, h1, ?_⟩
  have e1 : inUnits c q (-1074) = N.natAbs * 2 ^ 1073 := by
    have : inUnits N.natAbs (-1) b64.qmin = N.natAbs * 2 ^ 1073 := by rw [qmin_b64]; rfl
    rw [← this, ← h2, qmin_b64]
  rw [e1, signed_mul, hs]
  norm_cast
open FP Core in
theorem own_H.i2d (k : Int32) : own_H (2 * k.toInt) (FP.i2d k) := by
  have b := rng32 k
  have hN : (2 * k.toInt).natAbs < 2 ^ 53 := by omega
  refine ⟨hN, ?_⟩
  obtain ⟨c, q, h1, h2⟩ := own_rnd (sg := decide (k.toInt < 0)) (A := k.toInt.natAbs) (B := 1) (e := 0) (N := 2 * k.toInt) (by decide) hN
    (by unfold signed; by_cases q : k.toInt < 0 <;> simp [q] <;> omega) (by simp; omega)
  exact ⟨_, c, q, by show val64 (Core.i2d k) = _; rw [val64_i2d]; exact h1, h2⟩
open FP Core in
theorem own_q {a : UInt64} {s c q} (h : val64 a = .fin s c q) : -1074 ≤ q := by
  have := val64_fits a
  rw [h] at this
  have := this.2.1
  rw [qmin_b64] at this
  exact this
open FP Core in
theorem own_sum {i j n : Int} {s t : Bool} {c d : Nat} {q r : Int} (hq : -1074 ≤ q) (hr : -1074 ≤ r) (h1 : signed s (inUnits c q (-1074)) = i * 2 ^ 1073) (h2 : signed t (inUnits d r (-1074)) = j * 2 ^ 1073) (hn : i + j = n) (hN : n.natAbs < 2 ^ 53) :
    ∃ sg c' q', round b64 (exactSum (.fin s c q) (.fin t d r)) = .fin sg c' q' ∧ signed sg (inUnits c' q' (-1074)) = n * 2 ^ 1073 := by
  have key : sumUnits s c q t d r (min q r) * 2 ^ (min q r + 1074).toNat = n * 2 ^ 1073 := by
    have a1 : inUnits c q (-1074) = inUnits c q (min q r) * 2 ^ (min q r + 1074).toNat := by
      unfold inUnits; rw [Nat.mul_assoc, ← Nat.pow_add]; congr 2; omega
    have a2 : inUnits d r (-1074) = inUnits d r (min q r) * 2 ^ (min q r + 1074).toNat := by
      unfold inUnits; rw [Nat.mul_assoc, ← Nat.pow_add]; congr 2; omega
    rw [a1, signed_mul] at h1
    rw [a2, signed_mul] at h2
    unfold sumUnits
    rw [Int.add_mul, ← hn, Int.add_mul, ← h1, ← h2]
    push_cast
    rfl
  generalize hv : sumUnits s c q t d r (min q r) = v at key
  have sz : (v.natAbs * 2 ^ (min q r + 1074).toNat : Nat) = n.natAbs * 2 ^ 1073 := by
    have := congrArg Int.natAbs key
    simpa [Int.natAbs_mul, Int.natAbs_pow] using this
  have sg : signed (sumSign s t v) n.natAbs = n := by
    have p1 : 0 < (2 : Int) ^ (min q r + 1074).toNat := Int.pow_pos (by decide)
    have p2 : 0 < (2 : Int) ^ 1073 := Int.pow_pos (by decide)
    have e := signed_sumSign s t v
    generalize sumSign s t v = g at e
    unfold signed at e ⊢
    cases g
    · simp only [Bool.false_eq_true, if_false] at e ⊢
      have : 0 ≤ n := by
        apply Int.le_of_mul_le_mul_right (a := (2 : Int) ^ 1073) _ p2
        rw [← key, Int.zero_mul]
        exact Int.mul_nonneg (by omega) (Int.le_of_lt p1)
      omega
    · simp only [if_true] at e ⊢
      have : n ≤ 0 := by
        apply Int.le_of_mul_le_mul_right (a := (2 : Int) ^ 1073) _ p2
        rw [← key, Int.zero_mul]
        exact Int.mul_nonpos_of_nonpos_of_nonneg (by omega) (Int.le_of_lt p1)
      omega
  obtain ⟨c', q', g1, g2⟩ := own_rnd (sg := sumSign s t v) (A := v.natAbs) (B := 1) (e := min q r) (N := n) (by decide) hN sg
    (own_units (x := (min q r + 1074).toNat) (y := 1073) (by omega) (by rw [Nat.mul_one]; exact sz))
  exact ⟨_, c', q', by show round b64 (.fin (sumSign s t (sumUnits s c q t d r (min q r))) (sumUnits s c q t d r (min q r)).natAbs (min q r)) = _; rw [hv]; exact g1, g2⟩
open FP Core in
theorem own_H.add {i j n : Int} {a b : UInt64} (ha : own_H i a) (hb : own_H j b) (hn : i + j = n) (hN : n.natAbs < 2 ^ 53) : own_H n (FP.dadd a b) := by
  obtain ⟨-, s, c, q, e1, v1⟩ := ha
  obtain ⟨-, t, d, r, e2, v2⟩ := hb
  obtain ⟨sg, c', q', g1, g2⟩ := own_sum (own_q e1) (own_q e2) v1 v2 hn hN
  exact ⟨hN, sg, c', q', by show val64 (Core.dadd a b) = _; rw [val64_dadd, e1, e2]; exact g1, g2⟩
open FP Core in
theorem own_H.sub {i j n : Int} {a b : UInt64} (ha : own_H i a) (hb : own_H j b) (hn : i - j = n) (hN : n.natAbs < 2 ^ 53) : own_H n (FP.dsub a b) := by
  obtain ⟨-, s, c, q, e1, v1⟩ := ha
  obtain ⟨-, t, d, r, e2, v2⟩ := hb
  have v2' : signed (!t) (inUnits d r (-1074)) = (-j) * 2 ^ 1073 := by rw [Int.neg_mul, ← v2]; cases t <;> simp [signed]
  obtain ⟨sg, c', q', g1, g2⟩ := own_sum (own_q e1) (own_q e2) v1 v2' (n := n) (by omega) hN
  exact ⟨hN, sg, c', q', by show val64 (Core.dsub a b) = _; rw [val64_dsub, e1, e2]; exact g1, g2⟩
open FP Core in
theorem own_sgn {s t : Bool} {i j n : Int} {A B : Nat} (h1 : signed s A = i * 2 ^ 1073) (h2 : signed t B = j * 2 ^ 1073) (h : (0 ≤ i ∧ 0 ≤ j) ∨ (i ≤ 0 ∧ j ≤ 0) → 0 ≤ n) (h' : (0 ≤ i ∧ j ≤ 0) ∨ (i ≤ 0 ∧ 0 ≤ j) → n ≤ 0) : signed (s != t) n.natAbs = n := by
  have p2 : 0 < (2 : Int) ^ 1073 := Int.pow_pos (by decide)
  have key : ∀ {s : Bool} {A : Nat} {i : Int}, signed s A = i * 2 ^ 1073 → (s = false → 0 ≤ i) ∧ (s = true → i ≤ 0) := by
    intro s A i h
    constructor
    · rintro rfl
      apply Int.le_of_mul_le_mul_right (a := (2 : Int) ^ 1073) _ p2
      rw [← h, Int.zero_mul]; simp [signed]
    · rintro rfl
      apply Int.le_of_mul_le_mul_right (a := (2 : Int) ^ 1073) _ p2
      rw [← h, Int.zero_mul]; simp [signed]
  have k1 := key h1
  have k2 := key h2
  cases s <;> cases t <;> simp [signed] at k1 k2 ⊢ <;> omega
theorem own_m2 {c d X Y I J n P : Nat} (m1 : c * X = I * P) (m2 : d * Y = J * P) (m3 : I * J = 2 * n) : c * d * (X * Y) = n * (2 * (P * P)) := by
  calc c * d * (X * Y) = (c * X) * (d * Y) := by ac_rfl
    _ = (I * J) * (P * P) := by rw [m1, m2]; ac_rfl
    _ = _ := by rw [m3]; ac_rfl
theorem own_d2 {c d X Y I J n P : Nat} (m1 : c * X = I * P) (m2 : d * Y = J * P) (m3 : 2 * I = n * J) : c * (X * 2) = n * d * Y := by
  calc c * (X * 2) = 2 * (c * X) := by ac_rfl
    _ = (2 * I) * P := by rw [m1]; ac_rfl
    _ = n * (J * P) := by rw [m3]; ac_rfl
    _ = _ := by rw [← m2]; ac_rfl
theorem own_p2147 : (2 : Nat) ^ 2147 = 2 * (2 ^ 1073 * 2 ^ 1073) := by decide +kernel
open FP Core in
theorem own_H.mul {i j n : Int} {a b : UInt64} (ha : own_H i a) (hb : own_H j b) (hn : i * j = 2 * n) (hN : n.natAbs < 2 ^ 53) (h : (0 ≤ i ∧ 0 ≤ j) ∨ (i ≤ 0 ∧ j ≤ 0) → 0 ≤ n) (h' : (0 ≤ i ∧ j ≤ 0) ∨ (i ≤ 0 ∧ 0 ≤ j) → n ≤ 0) : own_H n (FP.dmul a b) := by
  obtain ⟨-, s, c, q, e1, v1⟩ := ha
  obtain ⟨-, t, d, r, e2, v2⟩ := hb
  have q1 := own_q e1
  have q2 := own_q e2
  have sg := own_sgn v1 v2 h h'
  have m1 : inUnits c q (-1074) = i.natAbs * 2 ^ 1073 := by have := congrArg Int.natAbs v1; rw [natAbs_signed] at this; simpa [Int.natAbs_mul, Int.natAbs_pow] using this
  have m2 : inUnits d r (-1074) = j.natAbs * 2 ^ 1073 := by have := congrArg Int.natAbs v2; rw [natAbs_signed] at this; simpa [Int.natAbs_mul, Int.natAbs_pow] using this
  have m3 : i.natAbs * j.natAbs = 2 * n.natAbs := by have := congrArg Int.natAbs hn; simpa [Int.natAbs_mul] using this
  unfold inUnits at m1 m2
  have big : c * d * 2 ^ ((q - -1074).toNat + (r - -1074).toNat) = n.natAbs * 1 * 2 ^ 2147 := by
    rw [Nat.pow_add, Nat.mul_one, own_p2147]
    exact own_m2 m1 m2 m3
  obtain ⟨c', q', g1, g2⟩ := own_rnd (sg := (s != t)) (A := c * d) (B := 1) (e := q + r) (N := n) (by decide) hN sg (own_units (by omega) big)
  exact ⟨hN, _, c', q', by show val64 (Core.dmul a b) = _; rw [val64_dmul, e1, e2]; exact g1, g2⟩
open FP Core in
theorem own_H.div {i j n : Int} {a b : UInt64} (ha : own_H i a) (hb : own_H j b) (h0 : j ≠ 0) (hn : 2 * i = n * j) (hN : n.natAbs < 2 ^ 53) (h : (0 ≤ i ∧ 0 ≤ j) ∨ (i ≤ 0 ∧ j ≤ 0) → 0 ≤ n) (h' : (0 ≤ i ∧ j ≤ 0) ∨ (i ≤ 0 ∧ 0 ≤ j) → n ≤ 0) : own_H n (FP.ddiv a b) := by
  obtain ⟨-, s, c, q, e1, v1⟩ := ha
  obtain ⟨-, t, d, r, e2, v2⟩ := hb
  have q1 := own_q e1
  have q2 := own_q e2
  have sg := own_sgn v1 v2 h h'
  have m1 : inUnits c q (-1074) = i.natAbs * 2 ^ 1073 := by have := congrArg Int.natAbs v1; rw [natAbs_signed] at this; simpa [Int.natAbs_mul, Int.natAbs_pow] using this
  have m2 : inUnits d r (-1074) = j.natAbs * 2 ^ 1073 := by have := congrArg Int.natAbs v2; rw [natAbs_signed] at this; simpa [Int.natAbs_mul, Int.natAbs_pow] using this
  have m3 : 2 * i.natAbs = n.natAbs * j.natAbs := by have := congrArg Int.natAbs hn; simpa [Int.natAbs_mul] using this
  unfold inUnits at m1 m2
  have hd : d ≠ 0 := by
    rintro rfl
    rw [Nat.zero_mul] at m2
    have := Nat.two_pow_pos 1073
    rcases Nat.mul_eq_zero.mp m2.symm with q | q <;> omega
  have big : c * 2 ^ ((q - -1074).toNat + 1) = n.natAbs * d * 2 ^ (r - -1074).toNat := by
    rw [Nat.pow_add, Nat.pow_one]
    exact own_d2 m1 m2 m3
  obtain ⟨c', q', g1, g2⟩ := own_rnd (sg := (s != t)) (A := c) (B := d) (e := q - r) (N := n) (Nat.pos_of_ne_zero hd) hN sg (own_units (by omega) big)
  exact ⟨hN, _, c', q', by show val64 (Core.ddiv a b) = _; rw [val64_ddiv, e1, e2]; show (if d = 0 then _ else _) = _; rw [if_neg hd]; exact g1, g2⟩
open FP Core in
theorem own_H.mag {n : Int} {a : UInt64} (ha : own_H n a) : Jvm.Free.Fl.Mag64 1075 a := by
  obtain ⟨hN, s, c, q, e1, v1⟩ := ha
  have m1 : inUnits c q (-1074) = n.natAbs * 2 ^ 1073 := by have := congrArg Int.natAbs v1; rw [natAbs_signed] at this; simpa [Int.natAbs_mul, Int.natAbs_pow] using this
  have z := zmag_bits (a := a) (by rw [e1]; exact fun h => nomatch h)
  rw [e1] at z
  have z' : unitsOf b64 (a.toNat % 2 ^ 63) = n.natAbs * 2 ^ 1073 := by rw [← z, ← m1, ← qmin_b64]; rfl
  have st := unitsOf_start (f := b64) (K := 1075) (by decide)
  show a.toNat % 2 ^ 63 < 1075 * 2 ^ 52
  have : unitsOf b64 (a.toNat % 2 ^ 63) < unitsOf b64 (1075 * b64.tails) := by
    rw [z', st, tails_b64, ← Nat.pow_add]
    calc n.natAbs * 2 ^ 1073 < 2 ^ 53 * 2 ^ 1073 := Nat.mul_lt_mul_of_pos_right hN (Nat.two_pow_pos _)
      _ = 2 ^ (52 + (1075 - 1)) := by rw [← Nat.pow_add]
  have := unitsOf_lt_iff.mp this
  rwa [tails_b64] at this
theorem own_H.nn {n : Int} {a : UInt64} (ha : own_H n a) : Jvm.Free.Fl.NoNaN64 a := (ha.mag.fin (by decide)).noNaN
open FP Core in
theorem own_H.cmp {n : Int} {a b : UInt64} (ha : own_H n a) (hb : own_H n b) (o : CmpOp) : cmpValue (FP.dcmp a b) o = 0 := by
  obtain ⟨-, s, c, q, e1, v1⟩ := ha
  obtain ⟨-, t, d, r, e2, v2⟩ := hb
  have z1 : zval b64 (val64 a) = n * 2 ^ 1073 := by rw [e1, ← v1, ← qmin_b64]; rfl
  have z2 : zval b64 (val64 b) = n * 2 ^ 1073 := by rw [e2, ← v2, ← qmin_b64]; rfl
  show cmpValue (Core.dcmp a b) o = 0
  rw [dcmp_zval (by rw [e1]; exact fun h => nomatch h) (by rw [e2]; exact fun h => nomatch h), z1, z2]
  rw [compare_ite, if_neg (Int.lt_irrefl _), if_pos rfl]
  cases o <;> rfl
theorem own_Hi (k : Int32) : own_H (2 * k.toInt) (FP.l2d (k.toInt64)) := by rw [← i2d_w]; exact own_H.i2d k
theorem own_Hc {k : Int32} {c : Int64} {z : Int} (h : k.toInt64 = c) (h' : 2 * k.toInt = z) : own_H z (FP.l2d c) := by subst h; subst h'; exact own_Hi k
theorem own_Hr {a b : Int} {d : UInt64} (h : own_H a d) (e : a = b) : own_H b d := e ▸ h
theorem own_H0 : own_H 0 0 := by
  have h := own_Hi 0
  rw [show FP.l2d (0 : Int32).toInt64 = 0 from l2d_zero] at h
  exact own_Hr h (by decide)
theorem own_lit2 : FP.l2d 2 = 4611686018427387904 := by decide +kernel
theorem own_lit3 : FP.l2d 3 = 4613937818241073152 := by decide +kernel
theorem own_lit4 : FP.l2d 4 = 4616189618054758400 := by decide +kernel
theorem own_H2 : own_H 4 4611686018427387904 := own_lit2 ▸ own_Hc (k := 2) (by decide) (by decide)
theorem own_H3 : own_H 6 4613937818241073152 := own_lit3 ▸ own_Hc (k := 3) (by decide) (by decide)
theorem own_H4 : own_H 8 4616189618054758400 := own_lit4 ▸ own_Hc (k := 4) (by decide) (by decide)
/-- the small numbers of the sample -/
def own_bd (i j n : Int) : Prop := i.natAbs < 2 ^ 45 ∧ j.natAbs < 2 ^ 45 ∧ n.natAbs < 2 ^ 45
section
variable {i j n z : Int} {x m y : UInt64} {c : Int64} {K : Nat}
theorem own_st1 (hx : own_H i x) (hm : own_H j m) (b : own_bd i j n) : own_H (i - j) (FP.dsub x m) := hx.sub hm rfl (by have := b.1; have := b.2.1; omega)
theorem own_st2 (hx : own_H i x) (hm : own_H j m) (b : own_bd i j n) (hc : own_H (2 * z) (FP.l2d c)) (z0 : 0 < z) (hz : i - j = n * z) : own_H n (FP.ddiv (FP.dsub x m) (FP.l2d c)) := by
  refine (own_st1 hx hm b).div hc (by omega) (by rw [hz]; rw [Int.mul_left_comm]) (by have := b.2.2; omega) (fun q => ?_) (fun q => ?_)
  · rcases Int.le_total 0 n with r | r
    · exact r
    · have := Int.mul_nonpos_of_nonpos_of_nonneg r (Int.le_of_lt z0)
      have : n * z = 0 := by omega
      rcases Int.mul_eq_zero.mp this with e | e <;> omega
  · rcases Int.le_total 0 n with r | r
    · have := Int.mul_nonneg r (Int.le_of_lt z0)
      have : n * z = 0 := by omega
      rcases Int.mul_eq_zero.mp this with e | e <;> omega
    · exact r
theorem own_st3 (hx : own_H i x) (hm : own_H j m) (b : own_bd i j n) (hc : own_H (2 * z) (FP.l2d c)) (z0 : 0 < z) (hz : i - j = n * z) : own_H (j + n) (FP.dadd m (FP.ddiv (FP.dsub x m) (FP.l2d c))) :=
  hm.add (own_st2 hx hm b hc z0 hz) rfl (by have := b.2.1; have := b.2.2; omega)
theorem own_st4 (hx : own_H i x) (hm : own_H j m) (b : own_bd i j n) (hc : own_H (2 * z) (FP.l2d c)) (z0 : 0 < z) (hz : i - j = n * z) : own_H (i - (j + n)) (FP.dsub x (FP.dadd m (FP.ddiv (FP.dsub x m) (FP.l2d c)))) :=
  hx.sub (own_st3 hx hm b hc z0 hz) rfl (by have := b.1; have := b.2.1; have := b.2.2; omega)
theorem own_st5 (hx : own_H i x) (hm : own_H j m) (b : own_bd i j n) (hc : own_H (2 * z) (FP.l2d c)) (z0 : 0 < z) (hz : i - j = n * z) : Jvm.Free.Fl.Mag64 1128 (FP.dmul (FP.dsub x m) (FP.dsub x (FP.dadd m (FP.ddiv (FP.dsub x m) (FP.l2d c))))) :=
  (Jvm.Free.Fl.dmul_mag (own_st1 hx hm b).mag (own_st4 hx hm b hc z0 hz).mag (by decide) (by decide)).mono (by decide)
theorem own_st6 (hx : own_H i x) (hm : own_H j m) (b : own_bd i j n) (hc : own_H (2 * z) (FP.l2d c)) (z0 : 0 < z) (hz : i - j = n * z) (hy : Jvm.Free.Fl.Mag64 K y) (k1 : 1128 ≤ K) (k2 : K ≤ 2047) : Jvm.Free.Fl.Mag64 (K + 2) (FP.dadd y (FP.dmul (FP.dsub x m) (FP.dsub x (FP.dadd m (FP.ddiv (FP.dsub x m) (FP.l2d c)))))) :=
  Jvm.Free.Fl.dadd_mag hy ((own_st5 hx hm b hc z0 hz).mono k1) k2
theorem own_y0 : Jvm.Free.Fl.Mag64 1128 0 := by unfold Jvm.Free.Fl.Mag64; decide
end
abbrev R_own_rm1 : Room := { frames := 1, cells := 0, slots := 0, locals := 12 }
theorem d1_0 : decode prog_36_method_1_code 0 = .ok (.aload_n 0, 1) := by decide +kernel
theorem d1_1 : decode prog_36_method_1_code 1 = .ok (.invokespecial 1, 3) := by decide +kernel
theorem d1_4 : decode prog_36_method_1_code 4 = .ok (.return_, 1) := by decide +kernel
theorem own_pn0 : plainName "com/example/kin_bloom/kinbloom/eval/Sample" = true := by first | (simp [plainName, overriddenIn]; done) | decide +kernel
theorem ef_own_rm1 (m : MethodId) (x0 : Addr) : entryFrame m #[(.ref x0)] 1 = mkF m 0 #[.val (.ref x0)] [] := by first | (simp [entryFrame, mkF, argsToLocals, Value.category]; done) | rfl
def Q_own_rm1 (Z : State) (a1 : Addr) (h0 : Heap) (n0 : Nat) (v : Option Value) (h : Heap) (L : List Loc) : Prop := v = none ∧ Fr n0 L ∧ h = h0
set_option maxRecDepth 65536 in
set_option maxHeartbeats 400000000 in
theorem own_rm1 (l : Launch) (Z : State) (a0 : Array Value) (hw : ∀ d ∈ tables_1, d.before a0 Z = true) (ws : List Jvm.Cond) (a1 : Addr) (h0 : Heap) (n0 : Nat) (Z0 : n0 ≤ h0.size)  :
    MetFree l (⟨"com/example/kin_bloom/kinbloom/eval/Sample", "<init>", "()V"⟩ : MethodName) (head1 (Jvm.Cond.code (⟨"com/example/kin_bloom/kinbloom/eval/Sample", "<init>", "()V"⟩ : MethodName) prog_36_method_1_code 1 none :: ws) R_own_rm1) (fun a U => a = #[(.ref a1)] ∧ Z.Warmed39 U.vm ∧ U.heap = h0) (fun _ _ _ _ _ => True) (fun _ U o U' => ∃ v L, o = .returned v ∧ Q_own_rm1 Z a1 h0 n0 v U'.heap L ∧ FrameEnd U o U' L R_own_rm1.cells R_own_rm1.slots) := by
  refine MetFree.of_bodySF (plainFor_of_name own_pn0) hisR ?_
  intro p e s m args below meth c s₁ Bd hml0 hP hK
  obtain ⟨rfl, hZ, hh⟩ := hP
  have hx := Bd.exec
  have hby := Bd.bytes
  have hml : c.maxLocals = 1 := hml0
  have hown : s.vm.findClass "com/example/kin_bloom/kinbloom/eval/Sample" = some m.cls := findClass_of_methodNamed Bd.named
  have hnm := (name_of_methodNamed Bd.named Bd.method).1
  have X0 : Stand p l e R_own_rm1 s m #[(.ref a1)] below meth c s₁ [] 0 0 := Stand.of_body Bd
  have e0 : s₁.heap = h0 := by rw [← hh, Bd.state]; rfl
  have N0 := Fr.nil n0
  have K0 : Keep h0 h0 [] := Keep.refl h0 []
  show own_Fin p e below s (Q_own_rm1 Z a1 h0 n0) R_own_rm1.cells R_own_rm1.slots (s₁.setTop (entryFrame m #[(.ref a1)] 1))
  refine own_go (fun _ k => castTop (ef_own_rm1 m a1) k) ?_
  show own_Fin _ _ _ _ _ _ _ (s₁.setTop (mkF m 0 #[.val (.ref a1)] []))
  refine own_go (B := s₁.setTop (mkF m 1 #[.val (.ref a1)] [(.ref a1)])) (fun _ k => XS.aloadN X0.here hx rfl (hb hby d1_0) rfl rfl k) ?_
  obtain ⟨T1, X1, e1, st1⟩ := initO X0 hx hZ hown (own_w hw 9 rfl) (own_w hw 10 rfl) (own_w hw 11 rfl) e0 (g := (mkF m 1 #[.val (.ref a1)] [(.ref a1)])) rfl (by rw [hml]; rfl) rfl (hb hby d1_1) (by decide) (W := 0) (by show 2 * 0 + _ ≤ _; exact Nat.le_of_eq rfl) (by decide)
  refine own_go (B := T1.setTop (mkF m 4 #[.val (.ref a1)] [])) st1 ?_
  exact own_retV X1 hx Bd.notSynchronized Bd.returns (hb hby d1_4) e1 ⟨rfl, N0, rfl⟩ (by decide) (by decide)
abbrev R_own_rm3 : Room := { frames := 0, cells := 0, slots := 0, locals := 0 }
theorem d3_0 : decode prog_36_method_3_code 0 = .ok (.aload_n 0, 1) := by decide +kernel
theorem d3_1 : decode prog_36_method_3_code 1 = .ok (.getfield 13, 3) := by decide +kernel
theorem d3_4 : decode prog_36_method_3_code 4 = .ok (.dreturn, 1) := by decide +kernel
theorem ef_own_rm3 (m : MethodId) (x0 : Addr) : entryFrame m #[(.ref x0)] 1 = mkF m 0 #[.val (.ref x0)] [] := by first | (simp [entryFrame, mkF, argsToLocals, Value.category]; done) | rfl
def Q_own_rm3 (Z : State) (a1 : Addr) (dm : UInt64) (h0 : Heap) (n0 : Nat) (v : Option Value) (h : Heap) (L : List Loc) : Prop := v = some (.double dm) ∧ Fr n0 L ∧ h = h0
set_option maxRecDepth 65536 in
set_option maxHeartbeats 400000000 in
theorem own_rm3 (l : Launch) (Z : State) (a0 : Array Value) (hw : ∀ d ∈ tables_1, d.before a0 Z = true) (ws : List Jvm.Cond) (a1 : Addr) (dm : UInt64) (h0 : Heap) (n0 : Nat) (Z0 : n0 ≤ h0.size) (P_F_a1_mean : Fld Z h0 a1 "com/example/kin_bloom/kinbloom/eval/Sample" "mean" "D" (.double dm)) :
    MetFree l (⟨"com/example/kin_bloom/kinbloom/eval/Sample", "mean", "()D"⟩ : MethodName) (head1 (Jvm.Cond.code (⟨"com/example/kin_bloom/kinbloom/eval/Sample", "mean", "()D"⟩ : MethodName) prog_36_method_3_code 1 (some .double) :: ws) R_own_rm3) (fun a U => a = #[(.ref a1)] ∧ Z.Warmed39 U.vm ∧ U.heap = h0) (fun _ _ _ _ _ => True) (fun _ U o U' => ∃ v L, o = .returned v ∧ Q_own_rm3 Z a1 dm h0 n0 v U'.heap L ∧ FrameEnd U o U' L R_own_rm3.cells R_own_rm3.slots) := by
  refine MetFree.of_bodySF (plainFor_of_name own_pn0) hisR ?_
  intro p e s m args below meth c s₁ Bd hml0 hP hK
  obtain ⟨rfl, hZ, hh⟩ := hP
  have hx := Bd.exec
  have hby := Bd.bytes
  have hml : c.maxLocals = 1 := hml0
  have hown : s.vm.findClass "com/example/kin_bloom/kinbloom/eval/Sample" = some m.cls := findClass_of_methodNamed Bd.named
  have hnm := (name_of_methodNamed Bd.named Bd.method).1
  have X0 : Stand p l e R_own_rm3 s m #[(.ref a1)] below meth c s₁ [] 0 0 := Stand.of_body Bd
  have e0 : s₁.heap = h0 := by rw [← hh, Bd.state]; rfl
  have N0 := Fr.nil n0
  have K0 : Keep h0 h0 [] := Keep.refl h0 []
  show own_Fin p e below s (Q_own_rm3 Z a1 dm h0 n0) R_own_rm3.cells R_own_rm3.slots (s₁.setTop (entryFrame m #[(.ref a1)] 1))
  refine own_go (fun _ k => castTop (ef_own_rm3 m a1) k) ?_
  show own_Fin _ _ _ _ _ _ _ (s₁.setTop (mkF m 0 #[.val (.ref a1)] []))
  refine own_go (B := s₁.setTop (mkF m 1 #[.val (.ref a1)] [(.ref a1)])) (fun _ k => XS.aloadN X0.here hx rfl (hb hby d3_0) rfl rfl k) ?_
  obtain ⟨T1, X1, e1, st1⟩ := getF X0 hx hZ hown (host := "") (Or.inl (own_w hw 17 rfl)) Via.refl e0 P_F_a1_mean (g := (mkF m 1 #[.val (.ref a1)] [(.ref a1)])) rfl rfl (hb hby d3_1)
  refine own_go (B := T1.setTop (mkF m 4 #[.val (.ref a1)] [(.double dm)])) st1 ?_
  exact own_retD X1 hx Bd.notSynchronized Bd.returns (hb hby d3_4) e1 ⟨rfl, N0, rfl⟩ (by decide) (by decide)
theorem own_c1 : own_H (2 * 1) (FP.l2d (1 : Int64)) := own_Hc (k := 1) (by decide) (by decide)
abbrev R_own_add0 : Room := { frames := 0, cells := 0, slots := 0, locals := 0 }
theorem d4_0 : decode prog_36_method_2_code 0 = .ok (.aload_n 0, 1) := by decide +kernel
theorem d4_1 : decode prog_36_method_2_code 1 = .ok (.dup, 1) := by decide +kernel
theorem d4_2 : decode prog_36_method_2_code 2 = .ok (.getfield 7, 3) := by decide +kernel
theorem d4_5 : decode prog_36_method_2_code 5 = .ok (.lconst 1, 1) := by decide +kernel
theorem d4_6 : decode prog_36_method_2_code 6 = .ok (.ladd, 1) := by decide +kernel
theorem d4_7 : decode prog_36_method_2_code 7 = .ok (.putfield 7, 3) := by decide +kernel
theorem d4_10 : decode prog_36_method_2_code 10 = .ok (.dload_n 1, 1) := by decide +kernel
theorem d4_11 : decode prog_36_method_2_code 11 = .ok (.aload_n 0, 1) := by decide +kernel
theorem d4_12 : decode prog_36_method_2_code 12 = .ok (.getfield 13, 3) := by decide +kernel
theorem d4_15 : decode prog_36_method_2_code 15 = .ok (.dsub, 1) := by decide +kernel
theorem d4_16 : decode prog_36_method_2_code 16 = .ok (.dstore_n 3, 1) := by decide +kernel
theorem d4_17 : decode prog_36_method_2_code 17 = .ok (.aload_n 0, 1) := by decide +kernel
theorem d4_18 : decode prog_36_method_2_code 18 = .ok (.dup, 1) := by decide +kernel
theorem d4_19 : decode prog_36_method_2_code 19 = .ok (.getfield 13, 3) := by decide +kernel
theorem d4_22 : decode prog_36_method_2_code 22 = .ok (.dload_n 3, 1) := by decide +kernel
theorem d4_23 : decode prog_36_method_2_code 23 = .ok (.aload_n 0, 1) := by decide +kernel
theorem d4_24 : decode prog_36_method_2_code 24 = .ok (.getfield 7, 3) := by decide +kernel
theorem d4_27 : decode prog_36_method_2_code 27 = .ok (.l2d, 1) := by decide +kernel
theorem d4_28 : decode prog_36_method_2_code 28 = .ok (.ddiv, 1) := by decide +kernel
theorem d4_29 : decode prog_36_method_2_code 29 = .ok (.dadd, 1) := by decide +kernel
theorem d4_30 : decode prog_36_method_2_code 30 = .ok (.putfield 13, 3) := by decide +kernel
theorem d4_33 : decode prog_36_method_2_code 33 = .ok (.aload_n 0, 1) := by decide +kernel
theorem d4_34 : decode prog_36_method_2_code 34 = .ok (.dup, 1) := by decide +kernel
theorem d4_35 : decode prog_36_method_2_code 35 = .ok (.getfield 17, 3) := by decide +kernel
theorem d4_38 : decode prog_36_method_2_code 38 = .ok (.dload_n 3, 1) := by decide +kernel
theorem d4_39 : decode prog_36_method_2_code 39 = .ok (.dload_n 1, 1) := by decide +kernel
theorem d4_40 : decode prog_36_method_2_code 40 = .ok (.aload_n 0, 1) := by decide +kernel
theorem d4_41 : decode prog_36_method_2_code 41 = .ok (.getfield 13, 3) := by decide +kernel
theorem d4_44 : decode prog_36_method_2_code 44 = .ok (.dsub, 1) := by decide +kernel
theorem d4_45 : decode prog_36_method_2_code 45 = .ok (.dmul, 1) := by decide +kernel
theorem d4_46 : decode prog_36_method_2_code 46 = .ok (.dadd, 1) := by decide +kernel
theorem d4_47 : decode prog_36_method_2_code 47 = .ok (.putfield 17, 3) := by decide +kernel
theorem d4_50 : decode prog_36_method_2_code 50 = .ok (.return_, 1) := by decide +kernel
theorem ef_own_add0 (m : MethodId) (x0 : Addr) (x1 : UInt64) : entryFrame m #[(.ref x0), (.double x1)] 5 = mkF m 0 #[.val (.ref x0), .val (.double x1), .second, .unset, .unset] [] := by first | (simp [entryFrame, mkF, argsToLocals, Value.category]; done) | rfl
def Q_own_add0 (Z : State) (a1 : Addr) (dx : UInt64) (dm : UInt64) (dy : UInt64) (zi : Int) (zj : Int) (zn : Int) (h0 : Heap) (n0 : Nat) (v : Option Value) (h : Heap) (L : List Loc) : Prop := ∃ mm : UInt64, ∃ yy : UInt64, v = none ∧ Fr n0 L ∧ Keep h0 h [a1] ∧ Exa Z h a1 "com/example/kin_bloom/kinbloom/eval/Sample" ∧ Fld Z h a1 "com/example/kin_bloom/kinbloom/eval/Sample" "count" "J" (.long (1 : Int64)) ∧ Fld Z h a1 "com/example/kin_bloom/kinbloom/eval/Sample" "mean" "D" (.double mm) ∧ Fld Z h a1 "com/example/kin_bloom/kinbloom/eval/Sample" "squaredDeviations" "D" (.double yy) ∧ (own_H (zj + zn) mm) ∧ (Jvm.Free.Fl.Mag64 1130 yy)
set_option maxRecDepth 65536 in
set_option maxHeartbeats 400000000 in
theorem own_add0 (l : Launch) (Z : State) (a0 : Array Value) (hw : ∀ d ∈ tables_1, d.before a0 Z = true) (ws : List Jvm.Cond) (a1 : Addr) (dx : UInt64) (dm : UInt64) (dy : UInt64) (zi : Int) (zj : Int) (zn : Int) (h0 : Heap) (n0 : Nat) (Z0 : n0 ≤ h0.size) (P_E_a1 : Exa Z h0 a1 "com/example/kin_bloom/kinbloom/eval/Sample") (P_F_a1_count : Fld Z h0 a1 "com/example/kin_bloom/kinbloom/eval/Sample" "count" "J" (.long (0 : Int64))) (P_F_a1_mean : Fld Z h0 a1 "com/example/kin_bloom/kinbloom/eval/Sample" "mean" "D" (.double dm)) (P_F_a1_squaredDeviations : Fld Z h0 a1 "com/example/kin_bloom/kinbloom/eval/Sample" "squaredDeviations" "D" (.double dy)) (g_a1 : n0 ≤ a1) (Hx : own_H zi dx) (Hm : own_H zj dm) (Hb : own_bd zi zj zn) (Hz : zi - zj = zn * 1) (Hy : Jvm.Free.Fl.Mag64 1128 dy) :
    MetFree l (⟨"com/example/kin_bloom/kinbloom/eval/Sample", "add", "(D)V"⟩ : MethodName) (head1 (Jvm.Cond.code (⟨"com/example/kin_bloom/kinbloom/eval/Sample", "add", "(D)V"⟩ : MethodName) prog_36_method_2_code 5 none :: ws) R_own_add0) (fun a U => a = #[(.ref a1), (.double dx)] ∧ Z.Warmed39 U.vm ∧ U.heap = h0) (fun _ _ _ _ _ => True) (fun _ U o U' => ∃ v L, o = .returned v ∧ Q_own_add0 Z a1 dx dm dy zi zj zn h0 n0 v U'.heap L ∧ FrameEnd U o U' L R_own_add0.cells R_own_add0.slots) := by
  refine MetFree.of_bodySF (plainFor_of_name own_pn0) hisR ?_
  intro p e s m args below meth c s₁ Bd hml0 hP hK
  obtain ⟨rfl, hZ, hh⟩ := hP
  have hx := Bd.exec
  have hby := Bd.bytes
  have hml : c.maxLocals = 5 := hml0
  have hown : s.vm.findClass "com/example/kin_bloom/kinbloom/eval/Sample" = some m.cls := findClass_of_methodNamed Bd.named
  have hnm := (name_of_methodNamed Bd.named Bd.method).1
  have X0 : Stand p l e R_own_add0 s m #[(.ref a1), (.double dx)] below meth c s₁ [] 0 0 := Stand.of_body Bd
  have e0 : s₁.heap = h0 := by rw [← hh, Bd.state]; rfl
  have N0 := Fr.nil n0
  have K0 : Keep h0 h0 [a1] := Keep.refl h0 [a1]
  show own_Fin p e below s (Q_own_add0 Z a1 dx dm dy zi zj zn h0 n0) R_own_add0.cells R_own_add0.slots (s₁.setTop (entryFrame m #[(.ref a1), (.double dx)] 5))
  refine own_go (fun _ k => castTop (ef_own_add0 m a1 dx) k) ?_
  show own_Fin _ _ _ _ _ _ _ (s₁.setTop (mkF m 0 #[.val (.ref a1), .val (.double dx), .second, .unset, .unset] []))
  refine own_go (B := s₁.setTop (mkF m 1 #[.val (.ref a1), .val (.double dx), .second, .unset, .unset] [(.ref a1)])) (fun _ k => XS.aloadN X0.here hx rfl (hb hby d4_0) rfl rfl k) ?_
  refine own_go (B := s₁.setTop (mkF m 2 #[.val (.ref a1), .val (.double dx), .second, .unset, .unset] [(.ref a1), (.ref a1)])) (fun _ k => XS.dup X0.here hx rfl (hb hby d4_1) rfl rfl k) ?_
  obtain ⟨T1, X1, e1, st1⟩ := getF X0 hx hZ hown (host := "") (Or.inl (own_w hw 24 rfl)) Via.refl e0 P_F_a1_count (g := (mkF m 2 #[.val (.ref a1), .val (.double dx), .second, .unset, .unset] [(.ref a1), (.ref a1)])) rfl rfl (hb hby d4_2)
  refine own_go (B := T1.setTop (mkF m 5 #[.val (.ref a1), .val (.double dx), .second, .unset, .unset] [(.long (0 : Int64)), (.ref a1)])) st1 ?_
  refine own_go (B := T1.setTop (mkF m 6 #[.val (.ref a1), .val (.double dx), .second, .unset, .unset] [(.long (1 : Int64)), (.long (0 : Int64)), (.ref a1)])) (fun _ k => XS.lconst X1.here hx rfl (hb hby d4_5) k) ?_
  refine own_go (B := T1.setTop (mkF m 7 #[.val (.ref a1), .val (.double dx), .second, .unset, .unset] [(.long ((0 : Int64) + (1 : Int64))), (.ref a1)])) (fun _ k => XS.ladd X1.here hx rfl (hb hby d4_6) rfl k) ?_
  rw [show ((0 : Int64) + (1 : Int64)) = (1 : Int64) from by decide]
  show own_Fin _ _ _ _ _ _ _ (T1.setTop (mkF m 7 #[.val (.ref a1), .val (.double dx), .second, .unset, .unset] [(.long (1 : Int64)), (.ref a1)]))
  obtain ⟨T2, h2, X2, e2, W2, st2⟩ := putF X1 hx hZ hown (host := "") (Or.inl (own_w hw 24 rfl)) Via.refl e1 P_F_a1_count P_E_a1 (Or.inl (own_w hw 25 rfl)) (own_w hw 4 rfl) (ty := .long) (by decide) rfl rfl (g := (mkF m 7 #[.val (.ref a1), .val (.double dx), .second, .unset, .unset] [(.long (1 : Int64)), (.ref a1)])) rfl rfl (hb hby d4_7)
  have F_w2 : Fld Z h2 a1 "com/example/kin_bloom/kinbloom/eval/Sample" "count" "J" (.long (1 : Int64)) := P_F_a1_count.same W2
  have E_4 := P_E_a1.wr W2
  have F_6 := P_F_a1_mean.other W2 (Or.inr (slot_ne (Or.inl (own_w hw 18 rfl)) (Or.inl (own_w hw 25 rfl)) (by decide) (t := .double) (t' := .long) (by decide) (by decide)))
  have F_7 := P_F_a1_squaredDeviations.other W2 (Or.inr (slot_ne (Or.inl (own_w hw 27 rfl)) (Or.inl (own_w hw 25 rfl)) (by decide) (t := .double) (t' := .long) (by decide) (by decide)))
  have K8 : Keep h0 h2 [a1] := K0.wr W2 (Or.inl (List.mem_of_getElem? (i := 0) rfl))
  have N2 := Fr.snoc X2 N0 g_a1
  refine own_go (B := T2.setTop (mkF m 10 #[.val (.ref a1), .val (.double dx), .second, .unset, .unset] [])) st2 ?_
  refine own_go (B := T2.setTop (mkF m 11 #[.val (.ref a1), .val (.double dx), .second, .unset, .unset] [(.double dx)])) (fun _ k => XS.dloadN X2.here hx rfl (hb hby d4_10) rfl  k) ?_
  refine own_go (B := T2.setTop (mkF m 12 #[.val (.ref a1), .val (.double dx), .second, .unset, .unset] [(.ref a1), (.double dx)])) (fun _ k => XS.aloadN X2.here hx rfl (hb hby d4_11) rfl rfl k) ?_
  obtain ⟨T9, X9, e9, st9⟩ := getF X2 hx hZ hown (host := "") (Or.inl (own_w hw 17 rfl)) Via.refl e2 F_6 (g := (mkF m 12 #[.val (.ref a1), .val (.double dx), .second, .unset, .unset] [(.ref a1), (.double dx)])) rfl rfl (hb hby d4_12)
  refine own_go (B := T9.setTop (mkF m 15 #[.val (.ref a1), .val (.double dx), .second, .unset, .unset] [(.double dm), (.double dx)])) st9 ?_
  refine own_go (B := T9.setTop (mkF m 16 #[.val (.ref a1), .val (.double dx), .second, .unset, .unset] [(.double (FP.dsub dx dm))])) (fun _ k => XS.dsubS X9.here hx rfl (hb hby d4_15) rfl (own_st1 Hx Hm Hb).nn rfl k) ?_
  refine own_go (B := T9.setTop (mkF m 17 #[.val (.ref a1), .val (.double dx), .second, .val (.double (FP.dsub dx dm)), .second] [])) (fun _ k => XS.dstoreN X9.here hx rfl (hb hby d4_16) rfl (l' := #[.val (.ref a1), .val (.double dx), .second, .val (.double (FP.dsub dx dm)), .second]) rfl k) ?_
  refine own_go (B := T9.setTop (mkF m 18 #[.val (.ref a1), .val (.double dx), .second, .val (.double (FP.dsub dx dm)), .second] [(.ref a1)])) (fun _ k => XS.aloadN X9.here hx rfl (hb hby d4_17) rfl rfl k) ?_
  refine own_go (B := T9.setTop (mkF m 19 #[.val (.ref a1), .val (.double dx), .second, .val (.double (FP.dsub dx dm)), .second] [(.ref a1), (.ref a1)])) (fun _ k => XS.dup X9.here hx rfl (hb hby d4_18) rfl rfl k) ?_
  obtain ⟨T10, X10, e10, st10⟩ := getF X9 hx hZ hown (host := "") (Or.inl (own_w hw 17 rfl)) Via.refl e9 F_6 (g := (mkF m 19 #[.val (.ref a1), .val (.double dx), .second, .val (.double (FP.dsub dx dm)), .second] [(.ref a1), (.ref a1)])) rfl rfl (hb hby d4_19)
  refine own_go (B := T10.setTop (mkF m 22 #[.val (.ref a1), .val (.double dx), .second, .val (.double (FP.dsub dx dm)), .second] [(.double dm), (.ref a1)])) st10 ?_
  refine own_go (B := T10.setTop (mkF m 23 #[.val (.ref a1), .val (.double dx), .second, .val (.double (FP.dsub dx dm)), .second] [(.double (FP.dsub dx dm)), (.double dm), (.ref a1)])) (fun _ k => XS.dloadN X10.here hx rfl (hb hby d4_22) rfl  k) ?_
  refine own_go (B := T10.setTop (mkF m 24 #[.val (.ref a1), .val (.double dx), .second, .val (.double (FP.dsub dx dm)), .second] [(.ref a1), (.double (FP.dsub dx dm)), (.double dm), (.ref a1)])) (fun _ k => XS.aloadN X10.here hx rfl (hb hby d4_23) rfl rfl k) ?_
  obtain ⟨T11, X11, e11, st11⟩ := getF X10 hx hZ hown (host := "") (Or.inl (own_w hw 24 rfl)) Via.refl e10 F_w2 (g := (mkF m 24 #[.val (.ref a1), .val (.double dx), .second, .val (.double (FP.dsub dx dm)), .second] [(.ref a1), (.double (FP.dsub dx dm)), (.double dm), (.ref a1)])) rfl rfl (hb hby d4_24)
  refine own_go (B := T11.setTop (mkF m 27 #[.val (.ref a1), .val (.double dx), .second, .val (.double (FP.dsub dx dm)), .second] [(.long (1 : Int64)), (.double (FP.dsub dx dm)), (.double dm), (.ref a1)])) st11 ?_
  refine own_go (B := T11.setTop (mkF m 28 #[.val (.ref a1), .val (.double dx), .second, .val (.double (FP.dsub dx dm)), .second] [(.double (FP.l2d (1 : Int64))), (.double (FP.dsub dx dm)), (.double dm), (.ref a1)])) (fun _ k => XS.l2dS X11.here hx rfl (hb hby d4_27) rfl rfl k) ?_
  refine own_go (B := T11.setTop (mkF m 29 #[.val (.ref a1), .val (.double dx), .second, .val (.double (FP.dsub dx dm)), .second] [(.double (FP.ddiv (FP.dsub dx dm) (FP.l2d (1 : Int64)))), (.double dm), (.ref a1)])) (fun _ k => XS.ddivS X11.here hx rfl (hb hby d4_28) rfl (own_st2 Hx Hm Hb own_c1 (by decide) Hz).nn rfl k) ?_
  refine own_go (B := T11.setTop (mkF m 30 #[.val (.ref a1), .val (.double dx), .second, .val (.double (FP.dsub dx dm)), .second] [(.double (FP.dadd dm (FP.ddiv (FP.dsub dx dm) (FP.l2d (1 : Int64))))), (.ref a1)])) (fun _ k => XS.daddS X11.here hx rfl (hb hby d4_29) rfl (own_st3 Hx Hm Hb own_c1 (by decide) Hz).nn rfl k) ?_
  obtain ⟨T12, h12, X12, e12, W12, st12⟩ := putF X11 hx hZ hown (host := "") (Or.inl (own_w hw 17 rfl)) Via.refl e11 F_6 E_4 (Or.inl (own_w hw 18 rfl)) (own_w hw 4 rfl) (ty := .double) (by decide) rfl rfl (g := (mkF m 30 #[.val (.ref a1), .val (.double dx), .second, .val (.double (FP.dsub dx dm)), .second] [(.double (FP.dadd dm (FP.ddiv (FP.dsub dx dm) (FP.l2d (1 : Int64))))), (.ref a1)])) rfl rfl (hb hby d4_30)
  have F_w12 : Fld Z h12 a1 "com/example/kin_bloom/kinbloom/eval/Sample" "mean" "D" (.double (FP.dadd dm (FP.ddiv (FP.dsub dx dm) (FP.l2d (1 : Int64))))) := F_6.same W12
  have E_14 := E_4.wr W12
  have F_16 := F_7.other W12 (Or.inr (slot_ne (Or.inl (own_w hw 27 rfl)) (Or.inl (own_w hw 18 rfl)) (by decide) (t := .double) (t' := .double) (by decide) (by decide)))
  have F_17 := F_w2.other W12 (Or.inr (slot_ne (Or.inl (own_w hw 25 rfl)) (Or.inl (own_w hw 18 rfl)) (by decide) (t := .long) (t' := .double) (by decide) (by decide)))
  have K18 : Keep h0 h12 [a1] := K8.wr W12 (Or.inl (List.mem_of_getElem? (i := 0) rfl))
  have N12 := Fr.snoc X12 N2 g_a1
  refine own_go (B := T12.setTop (mkF m 33 #[.val (.ref a1), .val (.double dx), .second, .val (.double (FP.dsub dx dm)), .second] [])) st12 ?_
  refine own_go (B := T12.setTop (mkF m 34 #[.val (.ref a1), .val (.double dx), .second, .val (.double (FP.dsub dx dm)), .second] [(.ref a1)])) (fun _ k => XS.aloadN X12.here hx rfl (hb hby d4_33) rfl rfl k) ?_
  refine own_go (B := T12.setTop (mkF m 35 #[.val (.ref a1), .val (.double dx), .second, .val (.double (FP.dsub dx dm)), .second] [(.ref a1), (.ref a1)])) (fun _ k => XS.dup X12.here hx rfl (hb hby d4_34) rfl rfl k) ?_
  obtain ⟨T19, X19, e19, st19⟩ := getF X12 hx hZ hown (host := "") (Or.inl (own_w hw 26 rfl)) Via.refl e12 F_16 (g := (mkF m 35 #[.val (.ref a1), .val (.double dx), .second, .val (.double (FP.dsub dx dm)), .second] [(.ref a1), (.ref a1)])) rfl rfl (hb hby d4_35)
  refine own_go (B := T19.setTop (mkF m 38 #[.val (.ref a1), .val (.double dx), .second, .val (.double (FP.dsub dx dm)), .second] [(.double dy), (.ref a1)])) st19 ?_
  refine own_go (B := T19.setTop (mkF m 39 #[.val (.ref a1), .val (.double dx), .second, .val (.double (FP.dsub dx dm)), .second] [(.double (FP.dsub dx dm)), (.double dy), (.ref a1)])) (fun _ k => XS.dloadN X19.here hx rfl (hb hby d4_38) rfl  k) ?_
  refine own_go (B := T19.setTop (mkF m 40 #[.val (.ref a1), .val (.double dx), .second, .val (.double (FP.dsub dx dm)), .second] [(.double dx), (.double (FP.dsub dx dm)), (.double dy), (.ref a1)])) (fun _ k => XS.dloadN X19.here hx rfl (hb hby d4_39) rfl  k) ?_
  refine own_go (B := T19.setTop (mkF m 41 #[.val (.ref a1), .val (.double dx), .second, .val (.double (FP.dsub dx dm)), .second] [(.ref a1), (.double dx), (.double (FP.dsub dx dm)), (.double dy), (.ref a1)])) (fun _ k => XS.aloadN X19.here hx rfl (hb hby d4_40) rfl rfl k) ?_
  obtain ⟨T20, X20, e20, st20⟩ := getF X19 hx hZ hown (host := "") (Or.inl (own_w hw 17 rfl)) Via.refl e19 F_w12 (g := (mkF m 41 #[.val (.ref a1), .val (.double dx), .second, .val (.double (FP.dsub dx dm)), .second] [(.ref a1), (.double dx), (.double (FP.dsub dx dm)), (.double dy), (.ref a1)])) rfl rfl (hb hby d4_41)
  refine own_go (B := T20.setTop (mkF m 44 #[.val (.ref a1), .val (.double dx), .second, .val (.double (FP.dsub dx dm)), .second] [(.double (FP.dadd dm (FP.ddiv (FP.dsub dx dm) (FP.l2d (1 : Int64))))), (.double dx), (.double (FP.dsub dx dm)), (.double dy), (.ref a1)])) st20 ?_
  refine own_go (B := T20.setTop (mkF m 45 #[.val (.ref a1), .val (.double dx), .second, .val (.double (FP.dsub dx dm)), .second] [(.double (FP.dsub dx (FP.dadd dm (FP.ddiv (FP.dsub dx dm) (FP.l2d (1 : Int64)))))), (.double (FP.dsub dx dm)), (.double dy), (.ref a1)])) (fun _ k => XS.dsubS X20.here hx rfl (hb hby d4_44) rfl (own_st4 Hx Hm Hb own_c1 (by decide) Hz).nn rfl k) ?_
  refine own_go (B := T20.setTop (mkF m 46 #[.val (.ref a1), .val (.double dx), .second, .val (.double (FP.dsub dx dm)), .second] [(.double (FP.dmul (FP.dsub dx dm) (FP.dsub dx (FP.dadd dm (FP.ddiv (FP.dsub dx dm) (FP.l2d (1 : Int64))))))), (.double dy), (.ref a1)])) (fun _ k => XS.dmulS X20.here hx rfl (hb hby d4_45) rfl ((own_st5 Hx Hm Hb own_c1 (by decide) Hz).fin (by decide)).noNaN rfl k) ?_
  refine own_go (B := T20.setTop (mkF m 47 #[.val (.ref a1), .val (.double dx), .second, .val (.double (FP.dsub dx dm)), .second] [(.double (FP.dadd dy (FP.dmul (FP.dsub dx dm) (FP.dsub dx (FP.dadd dm (FP.ddiv (FP.dsub dx dm) (FP.l2d (1 : Int64)))))))), (.ref a1)])) (fun _ k => XS.daddS X20.here hx rfl (hb hby d4_46) rfl ((own_st6 Hx Hm Hb own_c1 (by decide) Hz Hy (by decide) (by decide)).fin (by decide)).noNaN rfl k) ?_
  obtain ⟨T21, h21, X21, e21, W21, st21⟩ := putF X20 hx hZ hown (host := "") (Or.inl (own_w hw 26 rfl)) Via.refl e20 F_16 E_14 (Or.inl (own_w hw 27 rfl)) (own_w hw 4 rfl) (ty := .double) (by decide) rfl rfl (g := (mkF m 47 #[.val (.ref a1), .val (.double dx), .second, .val (.double (FP.dsub dx dm)), .second] [(.double (FP.dadd dy (FP.dmul (FP.dsub dx dm) (FP.dsub dx (FP.dadd dm (FP.ddiv (FP.dsub dx dm) (FP.l2d (1 : Int64)))))))), (.ref a1)])) rfl rfl (hb hby d4_47)
  have F_w21 : Fld Z h21 a1 "com/example/kin_bloom/kinbloom/eval/Sample" "squaredDeviations" "D" (.double (FP.dadd dy (FP.dmul (FP.dsub dx dm) (FP.dsub dx (FP.dadd dm (FP.ddiv (FP.dsub dx dm) (FP.l2d (1 : Int64)))))))) := F_16.same W21
  have E_23 := E_14.wr W21
  have F_25 := F_17.other W21 (Or.inr (slot_ne (Or.inl (own_w hw 25 rfl)) (Or.inl (own_w hw 27 rfl)) (by decide) (t := .long) (t' := .double) (by decide) (by decide)))
  have F_26 := F_w12.other W21 (Or.inr (slot_ne (Or.inl (own_w hw 18 rfl)) (Or.inl (own_w hw 27 rfl)) (by decide) (t := .double) (t' := .double) (by decide) (by decide)))
  have K27 : Keep h0 h21 [a1] := K18.wr W21 (Or.inl (List.mem_of_getElem? (i := 0) rfl))
  have N21 := Fr.snoc X21 N12 g_a1
  refine own_go (B := T21.setTop (mkF m 50 #[.val (.ref a1), .val (.double dx), .second, .val (.double (FP.dsub dx dm)), .second] [])) st21 ?_
  have HM := own_st3 Hx Hm Hb own_c1 (by decide) Hz
  have HY := own_st6 Hx Hm Hb own_c1 (by decide) Hz Hy (by decide) (by decide)
  exact own_retV X21 hx Bd.notSynchronized Bd.returns (hb hby d4_50) e21 ⟨(FP.dadd dm (FP.ddiv (FP.dsub dx dm) (FP.l2d (1 : Int64)))), (FP.dadd dy (FP.dmul (FP.dsub dx dm) (FP.dsub dx (FP.dadd dm (FP.ddiv (FP.dsub dx dm) (FP.l2d (1 : Int64))))))), rfl, N21, K27, E_23, F_25, F_26, F_w21, HM, HY⟩ (by decide) (by decide)
theorem own_c2 : own_H (2 * 2) (FP.l2d (2 : Int64)) := own_Hc (k := 2) (by decide) (by decide)
abbrev R_own_add1 : Room := { frames := 0, cells := 0, slots := 0, locals := 0 }
theorem ef_own_add1 (m : MethodId) (x0 : Addr) (x1 : UInt64) : entryFrame m #[(.ref x0), (.double x1)] 5 = mkF m 0 #[.val (.ref x0), .val (.double x1), .second, .unset, .unset] [] := by first | (simp [entryFrame, mkF, argsToLocals, Value.category]; done) | rfl
def Q_own_add1 (Z : State) (a1 : Addr) (dx : UInt64) (dm : UInt64) (dy : UInt64) (zi : Int) (zj : Int) (zn : Int) (h0 : Heap) (n0 : Nat) (v : Option Value) (h : Heap) (L : List Loc) : Prop := ∃ mm : UInt64, ∃ yy : UInt64, v = none ∧ Fr n0 L ∧ Keep h0 h [a1] ∧ Exa Z h a1 "com/example/kin_bloom/kinbloom/eval/Sample" ∧ Fld Z h a1 "com/example/kin_bloom/kinbloom/eval/Sample" "count" "J" (.long (2 : Int64)) ∧ Fld Z h a1 "com/example/kin_bloom/kinbloom/eval/Sample" "mean" "D" (.double mm) ∧ Fld Z h a1 "com/example/kin_bloom/kinbloom/eval/Sample" "squaredDeviations" "D" (.double yy) ∧ (own_H (zj + zn) mm) ∧ (Jvm.Free.Fl.Mag64 1132 yy)
set_option maxRecDepth 65536 in
set_option maxHeartbeats 400000000 in
theorem own_add1 (l : Launch) (Z : State) (a0 : Array Value) (hw : ∀ d ∈ tables_1, d.before a0 Z = true) (ws : List Jvm.Cond) (a1 : Addr) (dx : UInt64) (dm : UInt64) (dy : UInt64) (zi : Int) (zj : Int) (zn : Int) (h0 : Heap) (n0 : Nat) (Z0 : n0 ≤ h0.size) (P_E_a1 : Exa Z h0 a1 "com/example/kin_bloom/kinbloom/eval/Sample") (P_F_a1_count : Fld Z h0 a1 "com/example/kin_bloom/kinbloom/eval/Sample" "count" "J" (.long (1 : Int64))) (P_F_a1_mean : Fld Z h0 a1 "com/example/kin_bloom/kinbloom/eval/Sample" "mean" "D" (.double dm)) (P_F_a1_squaredDeviations : Fld Z h0 a1 "com/example/kin_bloom/kinbloom/eval/Sample" "squaredDeviations" "D" (.double dy)) (g_a1 : n0 ≤ a1) (Hx : own_H zi dx) (Hm : own_H zj dm) (Hb : own_bd zi zj zn) (Hz : zi - zj = zn * 2) (Hy : Jvm.Free.Fl.Mag64 1130 dy) :
    MetFree l (⟨"com/example/kin_bloom/kinbloom/eval/Sample", "add", "(D)V"⟩ : MethodName) (head1 (Jvm.Cond.code (⟨"com/example/kin_bloom/kinbloom/eval/Sample", "add", "(D)V"⟩ : MethodName) prog_36_method_2_code 5 none :: ws) R_own_add1) (fun a U => a = #[(.ref a1), (.double dx)] ∧ Z.Warmed39 U.vm ∧ U.heap = h0) (fun _ _ _ _ _ => True) (fun _ U o U' => ∃ v L, o = .returned v ∧ Q_own_add1 Z a1 dx dm dy zi zj zn h0 n0 v U'.heap L ∧ FrameEnd U o U' L R_own_add1.cells R_own_add1.slots) := by
  refine MetFree.of_bodySF (plainFor_of_name own_pn0) hisR ?_
  intro p e s m args below meth c s₁ Bd hml0 hP hK
  obtain ⟨rfl, hZ, hh⟩ := hP
  have hx := Bd.exec
  have hby := Bd.bytes
  have hml : c.maxLocals = 5 := hml0
  have hown : s.vm.findClass "com/example/kin_bloom/kinbloom/eval/Sample" = some m.cls := findClass_of_methodNamed Bd.named
  have hnm := (name_of_methodNamed Bd.named Bd.method).1
  have X0 : Stand p l e R_own_add1 s m #[(.ref a1), (.double dx)] below meth c s₁ [] 0 0 := Stand.of_body Bd
  have e0 : s₁.heap = h0 := by rw [← hh, Bd.state]; rfl
  have N0 := Fr.nil n0
  have K0 : Keep h0 h0 [a1] := Keep.refl h0 [a1]
  show own_Fin p e below s (Q_own_add1 Z a1 dx dm dy zi zj zn h0 n0) R_own_add1.cells R_own_add1.slots (s₁.setTop (entryFrame m #[(.ref a1), (.double dx)] 5))
  refine own_go (fun _ k => castTop (ef_own_add1 m a1 dx) k) ?_
  show own_Fin _ _ _ _ _ _ _ (s₁.setTop (mkF m 0 #[.val (.ref a1), .val (.double dx), .second, .unset, .unset] []))
  refine own_go (B := s₁.setTop (mkF m 1 #[.val (.ref a1), .val (.double dx), .second, .unset, .unset] [(.ref a1)])) (fun _ k => XS.aloadN X0.here hx rfl (hb hby d4_0) rfl rfl k) ?_
  refine own_go (B := s₁.setTop (mkF m 2 #[.val (.ref a1), .val (.double dx), .second, .unset, .unset] [(.ref a1), (.ref a1)])) (fun _ k => XS.dup X0.here hx rfl (hb hby d4_1) rfl rfl k) ?_
  obtain ⟨T1, X1, e1, st1⟩ := getF X0 hx hZ hown (host := "") (Or.inl (own_w hw 24 rfl)) Via.refl e0 P_F_a1_count (g := (mkF m 2 #[.val (.ref a1), .val (.double dx), .second, .unset, .unset] [(.ref a1), (.ref a1)])) rfl rfl (hb hby d4_2)
  refine own_go (B := T1.setTop (mkF m 5 #[.val (.ref a1), .val (.double dx), .second, .unset, .unset] [(.long (1 : Int64)), (.ref a1)])) st1 ?_
  refine own_go (B := T1.setTop (mkF m 6 #[.val (.ref a1), .val (.double dx), .second, .unset, .unset] [(.long (1 : Int64)), (.long (1 : Int64)), (.ref a1)])) (fun _ k => XS.lconst X1.here hx rfl (hb hby d4_5) k) ?_
  refine own_go (B := T1.setTop (mkF m 7 #[.val (.ref a1), .val (.double dx), .second, .unset, .unset] [(.long ((1 : Int64) + (1 : Int64))), (.ref a1)])) (fun _ k => XS.ladd X1.here hx rfl (hb hby d4_6) rfl k) ?_
  rw [show ((1 : Int64) + (1 : Int64)) = (2 : Int64) from by decide]
  show own_Fin _ _ _ _ _ _ _ (T1.setTop (mkF m 7 #[.val (.ref a1), .val (.double dx), .second, .unset, .unset] [(.long (2 : Int64)), (.ref a1)]))
  obtain ⟨T2, h2, X2, e2, W2, st2⟩ := putF X1 hx hZ hown (host := "") (Or.inl (own_w hw 24 rfl)) Via.refl e1 P_F_a1_count P_E_a1 (Or.inl (own_w hw 25 rfl)) (own_w hw 4 rfl) (ty := .long) (by decide) rfl rfl (g := (mkF m 7 #[.val (.ref a1), .val (.double dx), .second, .unset, .unset] [(.long (2 : Int64)), (.ref a1)])) rfl rfl (hb hby d4_7)
  have F_w2 : Fld Z h2 a1 "com/example/kin_bloom/kinbloom/eval/Sample" "count" "J" (.long (2 : Int64)) := P_F_a1_count.same W2
  have E_4 := P_E_a1.wr W2
  have F_6 := P_F_a1_mean.other W2 (Or.inr (slot_ne (Or.inl (own_w hw 18 rfl)) (Or.inl (own_w hw 25 rfl)) (by decide) (t := .double) (t' := .long) (by decide) (by decide)))
  have F_7 := P_F_a1_squaredDeviations.other W2 (Or.inr (slot_ne (Or.inl (own_w hw 27 rfl)) (Or.inl (own_w hw 25 rfl)) (by decide) (t := .double) (t' := .long) (by decide) (by decide)))
  have K8 : Keep h0 h2 [a1] := K0.wr W2 (Or.inl (List.mem_of_getElem? (i := 0) rfl))
  have N2 := Fr.snoc X2 N0 g_a1
  refine own_go (B := T2.setTop (mkF m 10 #[.val (.ref a1), .val (.double dx), .second, .unset, .unset] [])) st2 ?_
  refine own_go (B := T2.setTop (mkF m 11 #[.val (.ref a1), .val (.double dx), .second, .unset, .unset] [(.double dx)])) (fun _ k => XS.dloadN X2.here hx rfl (hb hby d4_10) rfl  k) ?_
  refine own_go (B := T2.setTop (mkF m 12 #[.val (.ref a1), .val (.double dx), .second, .unset, .unset] [(.ref a1), (.double dx)])) (fun _ k => XS.aloadN X2.here hx rfl (hb hby d4_11) rfl rfl k) ?_
  obtain ⟨T9, X9, e9, st9⟩ := getF X2 hx hZ hown (host := "") (Or.inl (own_w hw 17 rfl)) Via.refl e2 F_6 (g := (mkF m 12 #[.val (.ref a1), .val (.double dx), .second, .unset, .unset] [(.ref a1), (.double dx)])) rfl rfl (hb hby d4_12)
  refine own_go (B := T9.setTop (mkF m 15 #[.val (.ref a1), .val (.double dx), .second, .unset, .unset] [(.double dm), (.double dx)])) st9 ?_
  refine own_go (B := T9.setTop (mkF m 16 #[.val (.ref a1), .val (.double dx), .second, .unset, .unset] [(.double (FP.dsub dx dm))])) (fun _ k => XS.dsubS X9.here hx rfl (hb hby d4_15) rfl (own_st1 Hx Hm Hb).nn rfl k) ?_
  refine own_go (B := T9.setTop (mkF m 17 #[.val (.ref a1), .val (.double dx), .second, .val (.double (FP.dsub dx dm)), .second] [])) (fun _ k => XS.dstoreN X9.here hx rfl (hb hby d4_16) rfl (l' := #[.val (.ref a1), .val (.double dx), .second, .val (.double (FP.dsub dx dm)), .second]) rfl k) ?_
  refine own_go (B := T9.setTop (mkF m 18 #[.val (.ref a1), .val (.double dx), .second, .val (.double (FP.dsub dx dm)), .second] [(.ref a1)])) (fun _ k => XS.aloadN X9.here hx rfl (hb hby d4_17) rfl rfl k) ?_
  refine own_go (B := T9.setTop (mkF m 19 #[.val (.ref a1), .val (.double dx), .second, .val (.double (FP.dsub dx dm)), .second] [(.ref a1), (.ref a1)])) (fun _ k => XS.dup X9.here hx rfl (hb hby d4_18) rfl rfl k) ?_
  obtain ⟨T10, X10, e10, st10⟩ := getF X9 hx hZ hown (host := "") (Or.inl (own_w hw 17 rfl)) Via.refl e9 F_6 (g := (mkF m 19 #[.val (.ref a1), .val (.double dx), .second, .val (.double (FP.dsub dx dm)), .second] [(.ref a1), (.ref a1)])) rfl rfl (hb hby d4_19)
  refine own_go (B := T10.setTop (mkF m 22 #[.val (.ref a1), .val (.double dx), .second, .val (.double (FP.dsub dx dm)), .second] [(.double dm), (.ref a1)])) st10 ?_
  refine own_go (B := T10.setTop (mkF m 23 #[.val (.ref a1), .val (.double dx), .second, .val (.double (FP.dsub dx dm)), .second] [(.double (FP.dsub dx dm)), (.double dm), (.ref a1)])) (fun _ k => XS.dloadN X10.here hx rfl (hb hby d4_22) rfl  k) ?_
  refine own_go (B := T10.setTop (mkF m 24 #[.val (.ref a1), .val (.double dx), .second, .val (.double (FP.dsub dx dm)), .second] [(.ref a1), (.double (FP.dsub dx dm)), (.double dm), (.ref a1)])) (fun _ k => XS.aloadN X10.here hx rfl (hb hby d4_23) rfl rfl k) ?_
  obtain ⟨T11, X11, e11, st11⟩ := getF X10 hx hZ hown (host := "") (Or.inl (own_w hw 24 rfl)) Via.refl e10 F_w2 (g := (mkF m 24 #[.val (.ref a1), .val (.double dx), .second, .val (.double (FP.dsub dx dm)), .second] [(.ref a1), (.double (FP.dsub dx dm)), (.double dm), (.ref a1)])) rfl rfl (hb hby d4_24)
  refine own_go (B := T11.setTop (mkF m 27 #[.val (.ref a1), .val (.double dx), .second, .val (.double (FP.dsub dx dm)), .second] [(.long (2 : Int64)), (.double (FP.dsub dx dm)), (.double dm), (.ref a1)])) st11 ?_
  refine own_go (B := T11.setTop (mkF m 28 #[.val (.ref a1), .val (.double dx), .second, .val (.double (FP.dsub dx dm)), .second] [(.double (FP.l2d (2 : Int64))), (.double (FP.dsub dx dm)), (.double dm), (.ref a1)])) (fun _ k => XS.l2dS X11.here hx rfl (hb hby d4_27) rfl rfl k) ?_
  refine own_go (B := T11.setTop (mkF m 29 #[.val (.ref a1), .val (.double dx), .second, .val (.double (FP.dsub dx dm)), .second] [(.double (FP.ddiv (FP.dsub dx dm) (FP.l2d (2 : Int64)))), (.double dm), (.ref a1)])) (fun _ k => XS.ddivS X11.here hx rfl (hb hby d4_28) rfl (own_st2 Hx Hm Hb own_c2 (by decide) Hz).nn rfl k) ?_
  refine own_go (B := T11.setTop (mkF m 30 #[.val (.ref a1), .val (.double dx), .second, .val (.double (FP.dsub dx dm)), .second] [(.double (FP.dadd dm (FP.ddiv (FP.dsub dx dm) (FP.l2d (2 : Int64))))), (.ref a1)])) (fun _ k => XS.daddS X11.here hx rfl (hb hby d4_29) rfl (own_st3 Hx Hm Hb own_c2 (by decide) Hz).nn rfl k) ?_
  obtain ⟨T12, h12, X12, e12, W12, st12⟩ := putF X11 hx hZ hown (host := "") (Or.inl (own_w hw 17 rfl)) Via.refl e11 F_6 E_4 (Or.inl (own_w hw 18 rfl)) (own_w hw 4 rfl) (ty := .double) (by decide) rfl rfl (g := (mkF m 30 #[.val (.ref a1), .val (.double dx), .second, .val (.double (FP.dsub dx dm)), .second] [(.double (FP.dadd dm (FP.ddiv (FP.dsub dx dm) (FP.l2d (2 : Int64))))), (.ref a1)])) rfl rfl (hb hby d4_30)
  have F_w12 : Fld Z h12 a1 "com/example/kin_bloom/kinbloom/eval/Sample" "mean" "D" (.double (FP.dadd dm (FP.ddiv (FP.dsub dx dm) (FP.l2d (2 : Int64))))) := F_6.same W12
  have E_14 := E_4.wr W12
  have F_16 := F_7.other W12 (Or.inr (slot_ne (Or.inl (own_w hw 27 rfl)) (Or.inl (own_w hw 18 rfl)) (by decide) (t := .double) (t' := .double) (by decide) (by decide)))
  have F_17 := F_w2.other W12 (Or.inr (slot_ne (Or.inl (own_w hw 25 rfl)) (Or.inl (own_w hw 18 rfl)) (by decide) (t := .long) (t' := .double) (by decide) (by decide)))
  have K18 : Keep h0 h12 [a1] := K8.wr W12 (Or.inl (List.mem_of_getElem? (i := 0) rfl))
  have N12 := Fr.snoc X12 N2 g_a1
  refine own_go (B := T12.setTop (mkF m 33 #[.val (.ref a1), .val (.double dx), .second, .val (.double (FP.dsub dx dm)), .second] [])) st12 ?_
  refine own_go (B := T12.setTop (mkF m 34 #[.val (.ref a1), .val (.double dx), .second, .val (.double (FP.dsub dx dm)), .second] [(.ref a1)])) (fun _ k => XS.aloadN X12.here hx rfl (hb hby d4_33) rfl rfl k) ?_
  refine own_go (B := T12.setTop (mkF m 35 #[.val (.ref a1), .val (.double dx), .second, .val (.double (FP.dsub dx dm)), .second] [(.ref a1), (.ref a1)])) (fun _ k => XS.dup X12.here hx rfl (hb hby d4_34) rfl rfl k) ?_
  obtain ⟨T19, X19, e19, st19⟩ := getF X12 hx hZ hown (host := "") (Or.inl (own_w hw 26 rfl)) Via.refl e12 F_16 (g := (mkF m 35 #[.val (.ref a1), .val (.double dx), .second, .val (.double (FP.dsub dx dm)), .second] [(.ref a1), (.ref a1)])) rfl rfl (hb hby d4_35)
  refine own_go (B := T19.setTop (mkF m 38 #[.val (.ref a1), .val (.double dx), .second, .val (.double (FP.dsub dx dm)), .second] [(.double dy), (.ref a1)])) st19 ?_
  refine own_go (B := T19.setTop (mkF m 39 #[.val (.ref a1), .val (.double dx), .second, .val (.double (FP.dsub dx dm)), .second] [(.double (FP.dsub dx dm)), (.double dy), (.ref a1)])) (fun _ k => XS.dloadN X19.here hx rfl (hb hby d4_38) rfl  k) ?_
  refine own_go (B := T19.setTop (mkF m 40 #[.val (.ref a1), .val (.double dx), .second, .val (.double (FP.dsub dx dm)), .second] [(.double dx), (.double (FP.dsub dx dm)), (.double dy), (.ref a1)])) (fun _ k => XS.dloadN X19.here hx rfl (hb hby d4_39) rfl  k) ?_
  refine own_go (B := T19.setTop (mkF m 41 #[.val (.ref a1), .val (.double dx), .second, .val (.double (FP.dsub dx dm)), .second] [(.ref a1), (.double dx), (.double (FP.dsub dx dm)), (.double dy), (.ref a1)])) (fun _ k => XS.aloadN X19.here hx rfl (hb hby d4_40) rfl rfl k) ?_
  obtain ⟨T20, X20, e20, st20⟩ := getF X19 hx hZ hown (host := "") (Or.inl (own_w hw 17 rfl)) Via.refl e19 F_w12 (g := (mkF m 41 #[.val (.ref a1), .val (.double dx), .second, .val (.double (FP.dsub dx dm)), .second] [(.ref a1), (.double dx), (.double (FP.dsub dx dm)), (.double dy), (.ref a1)])) rfl rfl (hb hby d4_41)
  refine own_go (B := T20.setTop (mkF m 44 #[.val (.ref a1), .val (.double dx), .second, .val (.double (FP.dsub dx dm)), .second] [(.double (FP.dadd dm (FP.ddiv (FP.dsub dx dm) (FP.l2d (2 : Int64))))), (.double dx), (.double (FP.dsub dx dm)), (.double dy), (.ref a1)])) st20 ?_
  refine own_go (B := T20.setTop (mkF m 45 #[.val (.ref a1), .val (.double dx), .second, .val (.double (FP.dsub dx dm)), .second] [(.double (FP.dsub dx (FP.dadd dm (FP.ddiv (FP.dsub dx dm) (FP.l2d (2 : Int64)))))), (.double (FP.dsub dx dm)), (.double dy), (.ref a1)])) (fun _ k => XS.dsubS X20.here hx rfl (hb hby d4_44) rfl (own_st4 Hx Hm Hb own_c2 (by decide) Hz).nn rfl k) ?_
  refine own_go (B := T20.setTop (mkF m 46 #[.val (.ref a1), .val (.double dx), .second, .val (.double (FP.dsub dx dm)), .second] [(.double (FP.dmul (FP.dsub dx dm) (FP.dsub dx (FP.dadd dm (FP.ddiv (FP.dsub dx dm) (FP.l2d (2 : Int64))))))), (.double dy), (.ref a1)])) (fun _ k => XS.dmulS X20.here hx rfl (hb hby d4_45) rfl ((own_st5 Hx Hm Hb own_c2 (by decide) Hz).fin (by decide)).noNaN rfl k) ?_
  refine own_go (B := T20.setTop (mkF m 47 #[.val (.ref a1), .val (.double dx), .second, .val (.double (FP.dsub dx dm)), .second] [(.double (FP.dadd dy (FP.dmul (FP.dsub dx dm) (FP.dsub dx (FP.dadd dm (FP.ddiv (FP.dsub dx dm) (FP.l2d (2 : Int64)))))))), (.ref a1)])) (fun _ k => XS.daddS X20.here hx rfl (hb hby d4_46) rfl ((own_st6 Hx Hm Hb own_c2 (by decide) Hz Hy (by decide) (by decide)).fin (by decide)).noNaN rfl k) ?_
  obtain ⟨T21, h21, X21, e21, W21, st21⟩ := putF X20 hx hZ hown (host := "") (Or.inl (own_w hw 26 rfl)) Via.refl e20 F_16 E_14 (Or.inl (own_w hw 27 rfl)) (own_w hw 4 rfl) (ty := .double) (by decide) rfl rfl (g := (mkF m 47 #[.val (.ref a1), .val (.double dx), .second, .val (.double (FP.dsub dx dm)), .second] [(.double (FP.dadd dy (FP.dmul (FP.dsub dx dm) (FP.dsub dx (FP.dadd dm (FP.ddiv (FP.dsub dx dm) (FP.l2d (2 : Int64)))))))), (.ref a1)])) rfl rfl (hb hby d4_47)
  have F_w21 : Fld Z h21 a1 "com/example/kin_bloom/kinbloom/eval/Sample" "squaredDeviations" "D" (.double (FP.dadd dy (FP.dmul (FP.dsub dx dm) (FP.dsub dx (FP.dadd dm (FP.ddiv (FP.dsub dx dm) (FP.l2d (2 : Int64)))))))) := F_16.same W21
  have E_23 := E_14.wr W21
  have F_25 := F_17.other W21 (Or.inr (slot_ne (Or.inl (own_w hw 25 rfl)) (Or.inl (own_w hw 27 rfl)) (by decide) (t := .long) (t' := .double) (by decide) (by decide)))
  have F_26 := F_w12.other W21 (Or.inr (slot_ne (Or.inl (own_w hw 18 rfl)) (Or.inl (own_w hw 27 rfl)) (by decide) (t := .double) (t' := .double) (by decide) (by decide)))
  have K27 : Keep h0 h21 [a1] := K18.wr W21 (Or.inl (List.mem_of_getElem? (i := 0) rfl))
  have N21 := Fr.snoc X21 N12 g_a1
  refine own_go (B := T21.setTop (mkF m 50 #[.val (.ref a1), .val (.double dx), .second, .val (.double (FP.dsub dx dm)), .second] [])) st21 ?_
  have HM := own_st3 Hx Hm Hb own_c2 (by decide) Hz
  have HY := own_st6 Hx Hm Hb own_c2 (by decide) Hz Hy (by decide) (by decide)
  exact own_retV X21 hx Bd.notSynchronized Bd.returns (hb hby d4_50) e21 ⟨(FP.dadd dm (FP.ddiv (FP.dsub dx dm) (FP.l2d (2 : Int64)))), (FP.dadd dy (FP.dmul (FP.dsub dx dm) (FP.dsub dx (FP.dadd dm (FP.ddiv (FP.dsub dx dm) (FP.l2d (2 : Int64))))))), rfl, N21, K27, E_23, F_25, F_26, F_w21, HM, HY⟩ (by decide) (by decide)
theorem own_c3 : own_H (2 * 3) (FP.l2d (3 : Int64)) := own_Hc (k := 3) (by decide) (by decide)
abbrev R_own_add2 : Room := { frames := 0, cells := 0, slots := 0, locals := 0 }
theorem ef_own_add2 (m : MethodId) (x0 : Addr) (x1 : UInt64) : entryFrame m #[(.ref x0), (.double x1)] 5 = mkF m 0 #[.val (.ref x0), .val (.double x1), .second, .unset, .unset] [] := by first | (simp [entryFrame, mkF, argsToLocals, Value.category]; done) | rfl
def Q_own_add2 (Z : State) (a1 : Addr) (dx : UInt64) (dm : UInt64) (dy : UInt64) (zi : Int) (zj : Int) (zn : Int) (h0 : Heap) (n0 : Nat) (v : Option Value) (h : Heap) (L : List Loc) : Prop := ∃ mm : UInt64, ∃ yy : UInt64, v = none ∧ Fr n0 L ∧ Keep h0 h [a1] ∧ Exa Z h a1 "com/example/kin_bloom/kinbloom/eval/Sample" ∧ Fld Z h a1 "com/example/kin_bloom/kinbloom/eval/Sample" "count" "J" (.long (3 : Int64)) ∧ Fld Z h a1 "com/example/kin_bloom/kinbloom/eval/Sample" "mean" "D" (.double mm) ∧ Fld Z h a1 "com/example/kin_bloom/kinbloom/eval/Sample" "squaredDeviations" "D" (.double yy) ∧ (own_H (zj + zn) mm) ∧ (Jvm.Free.Fl.Mag64 1134 yy)
set_option maxRecDepth 65536 in
set_option maxHeartbeats 400000000 in
theorem own_add2 (l : Launch) (Z : State) (a0 : Array Value) (hw : ∀ d ∈ tables_1, d.before a0 Z = true) (ws : List Jvm.Cond) (a1 : Addr) (dx : UInt64) (dm : UInt64) (dy : UInt64) (zi : Int) (zj : Int) (zn : Int) (h0 : Heap) (n0 : Nat) (Z0 : n0 ≤ h0.size) (P_E_a1 : Exa Z h0 a1 "com/example/kin_bloom/kinbloom/eval/Sample") (P_F_a1_count : Fld Z h0 a1 "com/example/kin_bloom/kinbloom/eval/Sample" "count" "J" (.long (2 : Int64))) (P_F_a1_mean : Fld Z h0 a1 "com/example/kin_bloom/kinbloom/eval/Sample" "mean" "D" (.double dm)) (P_F_a1_squaredDeviations : Fld Z h0 a1 "com/example/kin_bloom/kinbloom/eval/Sample" "squaredDeviations" "D" (.double dy)) (g_a1 : n0 ≤ a1) (Hx : own_H zi dx) (Hm : own_H zj dm) (Hb : own_bd zi zj zn) (Hz : zi - zj = zn * 3) (Hy : Jvm.Free.Fl.Mag64 1132 dy) :
    MetFree l (⟨"com/example/kin_bloom/kinbloom/eval/Sample", "add", "(D)V"⟩ : MethodName) (head1 (Jvm.Cond.code (⟨"com/example/kin_bloom/kinbloom/eval/Sample", "add", "(D)V"⟩ : MethodName) prog_36_method_2_code 5 none :: ws) R_own_add2) (fun a U => a = #[(.ref a1), (.double dx)] ∧ Z.Warmed39 U.vm ∧ U.heap = h0) (fun _ _ _ _ _ => True) (fun _ U o U' => ∃ v L, o = .returned v ∧ Q_own_add2 Z a1 dx dm dy zi zj zn h0 n0 v U'.heap L ∧ FrameEnd U o U' L R_own_add2.cells R_own_add2.slots) := by
  refine MetFree.of_bodySF (plainFor_of_name own_pn0) hisR ?_
  intro p e s m args below meth c s₁ Bd hml0 hP hK
  obtain ⟨rfl, hZ, hh⟩ := hP
  have hx := Bd.exec
  have hby := Bd.bytes
  have hml : c.maxLocals = 5 := hml0
  have hown : s.vm.findClass "com/example/kin_bloom/kinbloom/eval/Sample" = some m.cls := findClass_of_methodNamed Bd.named
  have hnm := (name_of_methodNamed Bd.named Bd.method).1
  have X0 : Stand p l e R_own_add2 s m #[(.ref a1), (.double dx)] below meth c s₁ [] 0 0 := Stand.of_body Bd
  have e0 : s₁.heap = h0 := by rw [← hh, Bd.state]; rfl
  have N0 := Fr.nil n0
  have K0 : Keep h0 h0 [a1] := Keep.refl h0 [a1]
  show own_Fin p e below s (Q_own_add2 Z a1 dx dm dy zi zj zn h0 n0) R_own_add2.cells R_own_add2.slots (s₁.setTop (entryFrame m #[(.ref a1), (.double dx)] 5))
  refine own_go (fun _ k => castTop (ef_own_add2 m a1 dx) k) ?_
  show own_Fin _ _ _ _ _ _ _ (s₁.setTop (mkF m 0 #[.val (.ref a1), .val (.double dx), .second, .unset, .unset] []))
  refine own_go (B := s₁.setTop (mkF m 1 #[.val (.ref a1), .val (.double dx), .second, .unset, .unset] [(.ref a1)])) (fun _ k => XS.aloadN X0.here hx rfl (hb hby d4_0) rfl rfl k) ?_
  refine own_go (B := s₁.setTop (mkF m 2 #[.val (.ref a1), .val (.double dx), .second, .unset, .unset] [(.ref a1), (.ref a1)])) (fun _ k => XS.dup X0.here hx rfl (hb hby d4_1) rfl rfl k) ?_
  obtain ⟨T1, X1, e1, st1⟩ := getF X0 hx hZ hown (host := "") (Or.inl (own_w hw 24 rfl)) Via.refl e0 P_F_a1_count (g := (mkF m 2 #[.val (.ref a1), .val (.double dx), .second, .unset, .unset] [(.ref a1), (.ref a1)])) rfl rfl (hb hby d4_2)
  refine own_go (B := T1.setTop (mkF m 5 #[.val (.ref a1), .val (.double dx), .second, .unset, .unset] [(.long (2 : Int64)), (.ref a1)])) st1 ?_
  refine own_go (B := T1.setTop (mkF m 6 #[.val (.ref a1), .val (.double dx), .second, .unset, .unset] [(.long (1 : Int64)), (.long (2 : Int64)), (.ref a1)])) (fun _ k => XS.lconst X1.here hx rfl (hb hby d4_5) k) ?_
  refine own_go (B := T1.setTop (mkF m 7 #[.val (.ref a1), .val (.double dx), .second, .unset, .unset] [(.long ((2 : Int64) + (1 : Int64))), (.ref a1)])) (fun _ k => XS.ladd X1.here hx rfl (hb hby d4_6) rfl k) ?_
  rw [show ((2 : Int64) + (1 : Int64)) = (3 : Int64) from by decide]
  show own_Fin _ _ _ _ _ _ _ (T1.setTop (mkF m 7 #[.val (.ref a1), .val (.double dx), .second, .unset, .unset] [(.long (3 : Int64)), (.ref a1)]))
  obtain ⟨T2, h2, X2, e2, W2, st2⟩ := putF X1 hx hZ hown (host := "") (Or.inl (own_w hw 24 rfl)) Via.refl e1 P_F_a1_count P_E_a1 (Or.inl (own_w hw 25 rfl)) (own_w hw 4 rfl) (ty := .long) (by decide) rfl rfl (g := (mkF m 7 #[.val (.ref a1), .val (.double dx), .second, .unset, .unset] [(.long (3 : Int64)), (.ref a1)])) rfl rfl (hb hby d4_7)
  have F_w2 : Fld Z h2 a1 "com/example/kin_bloom/kinbloom/eval/Sample" "count" "J" (.long (3 : Int64)) := P_F_a1_count.same W2
  have E_4 := P_E_a1.wr W2
  have F_6 := P_F_a1_mean.other W2 (Or.inr (slot_ne (Or.inl (own_w hw 18 rfl)) (Or.inl (own_w hw 25 rfl)) (by decide) (t := .double) (t' := .long) (by decide) (by decide)))
  have F_7 := P_F_a1_squaredDeviations.other W2 (Or.inr (slot_ne (Or.inl (own_w hw 27 rfl)) (Or.inl (own_w hw 25 rfl)) (by decide) (t := .double) (t' := .long) (by decide) (by decide)))
  have K8 : Keep h0 h2 [a1] := K0.wr W2 (Or.inl (List.mem_of_getElem? (i := 0) rfl))
  have N2 := Fr.snoc X2 N0 g_a1
  refine own_go (B := T2.setTop (mkF m 10 #[.val (.ref a1), .val (.double dx), .second, .unset, .unset] [])) st2 ?_
  refine own_go (B := T2.setTop (mkF m 11 #[.val (.ref a1), .val (.double dx), .second, .unset, .unset] [(.double dx)])) (fun _ k => XS.dloadN X2.here hx rfl (hb hby d4_10) rfl  k) ?_
  refine own_go (B := T2.setTop (mkF m 12 #[.val (.ref a1), .val (.double dx), .second, .unset, .unset] [(.ref a1), (.double dx)])) (fun _ k => XS.aloadN X2.here hx rfl (hb hby d4_11) rfl rfl k) ?_
  obtain ⟨T9, X9, e9, st9⟩ := getF X2 hx hZ hown (host := "") (Or.inl (own_w hw 17 rfl)) Via.refl e2 F_6 (g := (mkF m 12 #[.val (.ref a1), .val (.double dx), .second, .unset, .unset] [(.ref a1), (.double dx)])) rfl rfl (hb hby d4_12)
  refine own_go (B := T9.setTop (mkF m 15 #[.val (.ref a1), .val (.double dx), .second, .unset, .unset] [(.double dm), (.double dx)])) st9 ?_
  refine own_go (B := T9.setTop (mkF m 16 #[.val (.ref a1), .val (.double dx), .second, .unset, .unset] [(.double (FP.dsub dx dm))])) (fun _ k => XS.dsubS X9.here hx rfl (hb hby d4_15) rfl (own_st1 Hx Hm Hb).nn rfl k) ?_
  refine own_go (B := T9.setTop (mkF m 17 #[.val (.ref a1), .val (.double dx), .second, .val (.double (FP.dsub dx dm)), .second] [])) (fun _ k => XS.dstoreN X9.here hx rfl (hb hby d4_16) rfl (l' := #[.val (.ref a1), .val (.double dx), .second, .val (.double (FP.dsub dx dm)), .second]) rfl k) ?_
  refine own_go (B := T9.setTop (mkF m 18 #[.val (.ref a1), .val (.double dx), .second, .val (.double (FP.dsub dx dm)), .second] [(.ref a1)])) (fun _ k => XS.aloadN X9.here hx rfl (hb hby d4_17) rfl rfl k) ?_
  refine own_go (B := T9.setTop (mkF m 19 #[.val (.ref a1), .val (.double dx), .second, .val (.double (FP.dsub dx dm)), .second] [(.ref a1), (.ref a1)])) (fun _ k => XS.dup X9.here hx rfl (hb hby d4_18) rfl rfl k) ?_
  obtain ⟨T10, X10, e10, st10⟩ := getF X9 hx hZ hown (host := "") (Or.inl (own_w hw 17 rfl)) Via.refl e9 F_6 (g := (mkF m 19 #[.val (.ref a1), .val (.double dx), .second, .val (.double (FP.dsub dx dm)), .second] [(.ref a1), (.ref a1)])) rfl rfl (hb hby d4_19)
  refine own_go (B := T10.setTop (mkF m 22 #[.val (.ref a1), .val (.double dx), .second, .val (.double (FP.dsub dx dm)), .second] [(.double dm), (.ref a1)])) st10 ?_
  refine own_go (B := T10.setTop (mkF m 23 #[.val (.ref a1), .val (.double dx), .second, .val (.double (FP.dsub dx dm)), .second] [(.double (FP.dsub dx dm)), (.double dm), (.ref a1)])) (fun _ k => XS.dloadN X10.here hx rfl (hb hby d4_22) rfl  k) ?_
  refine own_go (B := T10.setTop (mkF m 24 #[.val (.ref a1), .val (.double dx), .second, .val (.double (FP.dsub dx dm)), .second] [(.ref a1), (.double (FP.dsub dx dm)), (.double dm), (.ref a1)])) (fun _ k => XS.aloadN X10.here hx rfl (hb hby d4_23) rfl rfl k) ?_
  obtain ⟨T11, X11, e11, st11⟩ := getF X10 hx hZ hown (host := "") (Or.inl (own_w hw 24 rfl)) Via.refl e10 F_w2 (g := (mkF m 24 #[.val (.ref a1), .val (.double dx), .second, .val (.double (FP.dsub dx dm)), .second] [(.ref a1), (.double (FP.dsub dx dm)), (.double dm), (.ref a1)])) rfl rfl (hb hby d4_24)
  refine own_go (B := T11.setTop (mkF m 27 #[.val (.ref a1), .val (.double dx), .second, .val (.double (FP.dsub dx dm)), .second] [(.long (3 : Int64)), (.double (FP.dsub dx dm)), (.double dm), (.ref a1)])) st11 ?_
  refine own_go (B := T11.setTop (mkF m 28 #[.val (.ref a1), .val (.double dx), .second, .val (.double (FP.dsub dx dm)), .second] [(.double (FP.l2d (3 : Int64))), (.double (FP.dsub dx dm)), (.double dm), (.ref a1)])) (fun _ k => XS.l2dS X11.here hx rfl (hb hby d4_27) rfl rfl k) ?_
  refine own_go (B := T11.setTop (mkF m 29 #[.val (.ref a1), .val (.double dx), .second, .val (.double (FP.dsub dx dm)), .second] [(.double (FP.ddiv (FP.dsub dx dm) (FP.l2d (3 : Int64)))), (.double dm), (.ref a1)])) (fun _ k => XS.ddivS X11.here hx rfl (hb hby d4_28) rfl (own_st2 Hx Hm Hb own_c3 (by decide) Hz).nn rfl k) ?_
  refine own_go (B := T11.setTop (mkF m 30 #[.val (.ref a1), .val (.double dx), .second, .val (.double (FP.dsub dx dm)), .second] [(.double (FP.dadd dm (FP.ddiv (FP.dsub dx dm) (FP.l2d (3 : Int64))))), (.ref a1)])) (fun _ k => XS.daddS X11.here hx rfl (hb hby d4_29) rfl (own_st3 Hx Hm Hb own_c3 (by decide) Hz).nn rfl k) ?_
  obtain ⟨T12, h12, X12, e12, W12, st12⟩ := putF X11 hx hZ hown (host := "") (Or.inl (own_w hw 17 rfl)) Via.refl e11 F_6 E_4 (Or.inl (own_w hw 18 rfl)) (own_w hw 4 rfl) (ty := .double) (by decide) rfl rfl (g := (mkF m 30 #[.val (.ref a1), .val (.double dx), .second, .val (.double (FP.dsub dx dm)), .second] [(.double (FP.dadd dm (FP.ddiv (FP.dsub dx dm) (FP.l2d (3 : Int64))))), (.ref a1)])) rfl rfl (hb hby d4_30)
  have F_w12 : Fld Z h12 a1 "com/example/kin_bloom/kinbloom/eval/Sample" "mean" "D" (.double (FP.dadd dm (FP.ddiv (FP.dsub dx dm) (FP.l2d (3 : Int64))))) := F_6.same W12
  have E_14 := E_4.wr W12
  have F_16 := F_7.other W12 (Or.inr (slot_ne (Or.inl (own_w hw 27 rfl)) (Or.inl (own_w hw 18 rfl)) (by decide) (t := .double) (t' := .double) (by decide) (by decide)))
  have F_17 := F_w2.other W12 (Or.inr (slot_ne (Or.inl (own_w hw 25 rfl)) (Or.inl (own_w hw 18 rfl)) (by decide) (t := .long) (t' := .double) (by decide) (by decide)))
  have K18 : Keep h0 h12 [a1] := K8.wr W12 (Or.inl (List.mem_of_getElem? (i := 0) rfl))
  have N12 := Fr.snoc X12 N2 g_a1
  refine own_go (B := T12.setTop (mkF m 33 #[.val (.ref a1), .val (.double dx), .second, .val (.double (FP.dsub dx dm)), .second] [])) st12 ?_
  refine own_go (B := T12.setTop (mkF m 34 #[.val (.ref a1), .val (.double dx), .second, .val (.double (FP.dsub dx dm)), .second] [(.ref a1)])) (fun _ k => XS.aloadN X12.here hx rfl (hb hby d4_33) rfl rfl k) ?_
  refine own_go (B := T12.setTop (mkF m 35 #[.val (.ref a1), .val (.double dx), .second, .val (.double (FP.dsub dx dm)), .second] [(.ref a1), (.ref a1)])) (fun _ k => XS.dup X12.here hx rfl (hb hby d4_34) rfl rfl k) ?_
  obtain ⟨T19, X19, e19, st19⟩ := getF X12 hx hZ hown (host := "") (Or.inl (own_w hw 26 rfl)) Via.refl e12 F_16 (g := (mkF m 35 #[.val (.ref a1), .val (.double dx), .second, .val (.double (FP.dsub dx dm)), .second] [(.ref a1), (.ref a1)])) rfl rfl (hb hby d4_35)
  refine own_go (B := T19.setTop (mkF m 38 #[.val (.ref a1), .val (.double dx), .second, .val (.double (FP.dsub dx dm)), .second] [(.double dy), (.ref a1)])) st19 ?_
  refine own_go (B := T19.setTop (mkF m 39 #[.val (.ref a1), .val (.double dx), .second, .val (.double (FP.dsub dx dm)), .second] [(.double (FP.dsub dx dm)), (.double dy), (.ref a1)])) (fun _ k => XS.dloadN X19.here hx rfl (hb hby d4_38) rfl  k) ?_
  refine own_go (B := T19.setTop (mkF m 40 #[.val (.ref a1), .val (.double dx), .second, .val (.double (FP.dsub dx dm)), .second] [(.double dx), (.double (FP.dsub dx dm)), (.double dy), (.ref a1)])) (fun _ k => XS.dloadN X19.here hx rfl (hb hby d4_39) rfl  k) ?_
  refine own_go (B := T19.setTop (mkF m 41 #[.val (.ref a1), .val (.double dx), .second, .val (.double (FP.dsub dx dm)), .second] [(.ref a1), (.double dx), (.double (FP.dsub dx dm)), (.double dy), (.ref a1)])) (fun _ k => XS.aloadN X19.here hx rfl (hb hby d4_40) rfl rfl k) ?_
  obtain ⟨T20, X20, e20, st20⟩ := getF X19 hx hZ hown (host := "") (Or.inl (own_w hw 17 rfl)) Via.refl e19 F_w12 (g := (mkF m 41 #[.val (.ref a1), .val (.double dx), .second, .val (.double (FP.dsub dx dm)), .second] [(.ref a1), (.double dx), (.double (FP.dsub dx dm)), (.double dy), (.ref a1)])) rfl rfl (hb hby d4_41)
  refine own_go (B := T20.setTop (mkF m 44 #[.val (.ref a1), .val (.double dx), .second, .val (.double (FP.dsub dx dm)), .second] [(.double (FP.dadd dm (FP.ddiv (FP.dsub dx dm) (FP.l2d (3 : Int64))))), (.double dx), (.double (FP.dsub dx dm)), (.double dy), (.ref a1)])) st20 ?_
  refine own_go (B := T20.setTop (mkF m 45 #[.val (.ref a1), .val (.double dx), .second, .val (.double (FP.dsub dx dm)), .second] [(.double (FP.dsub dx (FP.dadd dm (FP.ddiv (FP.dsub dx dm) (FP.l2d (3 : Int64)))))), (.double (FP.dsub dx dm)), (.double dy), (.ref a1)])) (fun _ k => XS.dsubS X20.here hx rfl (hb hby d4_44) rfl (own_st4 Hx Hm Hb own_c3 (by decide) Hz).nn rfl k) ?_
  refine own_go (B := T20.setTop (mkF m 46 #[.val (.ref a1), .val (.double dx), .second, .val (.double (FP.dsub dx dm)), .second] [(.double (FP.dmul (FP.dsub dx dm) (FP.dsub dx (FP.dadd dm (FP.ddiv (FP.dsub dx dm) (FP.l2d (3 : Int64))))))), (.double dy), (.ref a1)])) (fun _ k => XS.dmulS X20.here hx rfl (hb hby d4_45) rfl ((own_st5 Hx Hm Hb own_c3 (by decide) Hz).fin (by decide)).noNaN rfl k) ?_
  refine own_go (B := T20.setTop (mkF m 47 #[.val (.ref a1), .val (.double dx), .second, .val (.double (FP.dsub dx dm)), .second] [(.double (FP.dadd dy (FP.dmul (FP.dsub dx dm) (FP.dsub dx (FP.dadd dm (FP.ddiv (FP.dsub dx dm) (FP.l2d (3 : Int64)))))))), (.ref a1)])) (fun _ k => XS.daddS X20.here hx rfl (hb hby d4_46) rfl ((own_st6 Hx Hm Hb own_c3 (by decide) Hz Hy (by decide) (by decide)).fin (by decide)).noNaN rfl k) ?_
  obtain ⟨T21, h21, X21, e21, W21, st21⟩ := putF X20 hx hZ hown (host := "") (Or.inl (own_w hw 26 rfl)) Via.refl e20 F_16 E_14 (Or.inl (own_w hw 27 rfl)) (own_w hw 4 rfl) (ty := .double) (by decide) rfl rfl (g := (mkF m 47 #[.val (.ref a1), .val (.double dx), .second, .val (.double (FP.dsub dx dm)), .second] [(.double (FP.dadd dy (FP.dmul (FP.dsub dx dm) (FP.dsub dx (FP.dadd dm (FP.ddiv (FP.dsub dx dm) (FP.l2d (3 : Int64)))))))), (.ref a1)])) rfl rfl (hb hby d4_47)
  have F_w21 : Fld Z h21 a1 "com/example/kin_bloom/kinbloom/eval/Sample" "squaredDeviations" "D" (.double (FP.dadd dy (FP.dmul (FP.dsub dx dm) (FP.dsub dx (FP.dadd dm (FP.ddiv (FP.dsub dx dm) (FP.l2d (3 : Int64)))))))) := F_16.same W21
  have E_23 := E_14.wr W21
  have F_25 := F_17.other W21 (Or.inr (slot_ne (Or.inl (own_w hw 25 rfl)) (Or.inl (own_w hw 27 rfl)) (by decide) (t := .long) (t' := .double) (by decide) (by decide)))
  have F_26 := F_w12.other W21 (Or.inr (slot_ne (Or.inl (own_w hw 18 rfl)) (Or.inl (own_w hw 27 rfl)) (by decide) (t := .double) (t' := .double) (by decide) (by decide)))
  have K27 : Keep h0 h21 [a1] := K18.wr W21 (Or.inl (List.mem_of_getElem? (i := 0) rfl))
  have N21 := Fr.snoc X21 N12 g_a1
  refine own_go (B := T21.setTop (mkF m 50 #[.val (.ref a1), .val (.double dx), .second, .val (.double (FP.dsub dx dm)), .second] [])) st21 ?_
  have HM := own_st3 Hx Hm Hb own_c3 (by decide) Hz
  have HY := own_st6 Hx Hm Hb own_c3 (by decide) Hz Hy (by decide) (by decide)
  exact own_retV X21 hx Bd.notSynchronized Bd.returns (hb hby d4_50) e21 ⟨(FP.dadd dm (FP.ddiv (FP.dsub dx dm) (FP.l2d (3 : Int64)))), (FP.dadd dy (FP.dmul (FP.dsub dx dm) (FP.dsub dx (FP.dadd dm (FP.ddiv (FP.dsub dx dm) (FP.l2d (3 : Int64))))))), rfl, N21, K27, E_23, F_25, F_26, F_w21, HM, HY⟩ (by decide) (by decide)
theorem own_c4 : own_H (2 * 4) (FP.l2d (4 : Int64)) := own_Hc (k := 4) (by decide) (by decide)
abbrev R_own_add3 : Room := { frames := 0, cells := 0, slots := 0, locals := 0 }
theorem ef_own_add3 (m : MethodId) (x0 : Addr) (x1 : UInt64) : entryFrame m #[(.ref x0), (.double x1)] 5 = mkF m 0 #[.val (.ref x0), .val (.double x1), .second, .unset, .unset] [] := by first | (simp [entryFrame, mkF, argsToLocals, Value.category]; done) | rfl
def Q_own_add3 (Z : State) (a1 : Addr) (dx : UInt64) (dm : UInt64) (dy : UInt64) (zi : Int) (zj : Int) (zn : Int) (h0 : Heap) (n0 : Nat) (v : Option Value) (h : Heap) (L : List Loc) : Prop := ∃ mm : UInt64, ∃ yy : UInt64, v = none ∧ Fr n0 L ∧ Keep h0 h [a1] ∧ Exa Z h a1 "com/example/kin_bloom/kinbloom/eval/Sample" ∧ Fld Z h a1 "com/example/kin_bloom/kinbloom/eval/Sample" "count" "J" (.long (4 : Int64)) ∧ Fld Z h a1 "com/example/kin_bloom/kinbloom/eval/Sample" "mean" "D" (.double mm) ∧ Fld Z h a1 "com/example/kin_bloom/kinbloom/eval/Sample" "squaredDeviations" "D" (.double yy) ∧ (own_H (zj + zn) mm) ∧ (Jvm.Free.Fl.Mag64 1136 yy)
set_option maxRecDepth 65536 in
set_option maxHeartbeats 400000000 in
theorem own_add3 (l : Launch) (Z : State) (a0 : Array Value) (hw : ∀ d ∈ tables_1, d.before a0 Z = true) (ws : List Jvm.Cond) (a1 : Addr) (dx : UInt64) (dm : UInt64) (dy : UInt64) (zi : Int) (zj : Int) (zn : Int) (h0 : Heap) (n0 : Nat) (Z0 : n0 ≤ h0.size) (P_E_a1 : Exa Z h0 a1 "com/example/kin_bloom/kinbloom/eval/Sample") (P_F_a1_count : Fld Z h0 a1 "com/example/kin_bloom/kinbloom/eval/Sample" "count" "J" (.long (3 : Int64))) (P_F_a1_mean : Fld Z h0 a1 "com/example/kin_bloom/kinbloom/eval/Sample" "mean" "D" (.double dm)) (P_F_a1_squaredDeviations : Fld Z h0 a1 "com/example/kin_bloom/kinbloom/eval/Sample" "squaredDeviations" "D" (.double dy)) (g_a1 : n0 ≤ a1) (Hx : own_H zi dx) (Hm : own_H zj dm) (Hb : own_bd zi zj zn) (Hz : zi - zj = zn * 4) (Hy : Jvm.Free.Fl.Mag64 1134 dy) :
    MetFree l (⟨"com/example/kin_bloom/kinbloom/eval/Sample", "add", "(D)V"⟩ : MethodName) (head1 (Jvm.Cond.code (⟨"com/example/kin_bloom/kinbloom/eval/Sample", "add", "(D)V"⟩ : MethodName) prog_36_method_2_code 5 none :: ws) R_own_add3) (fun a U => a = #[(.ref a1), (.double dx)] ∧ Z.Warmed39 U.vm ∧ U.heap = h0) (fun _ _ _ _ _ => True) (fun _ U o U' => ∃ v L, o = .returned v ∧ Q_own_add3 Z a1 dx dm dy zi zj zn h0 n0 v U'.heap L ∧ FrameEnd U o U' L R_own_add3.cells R_own_add3.slots) := by
  refine MetFree.of_bodySF (plainFor_of_name own_pn0) hisR ?_
  intro p e s m args below meth c s₁ Bd hml0 hP hK
  obtain ⟨rfl, hZ, hh⟩ := hP
  have hx := Bd.exec
  have hby := Bd.bytes
  have hml : c.maxLocals = 5 := hml0
  have hown : s.vm.findClass "com/example/kin_bloom/kinbloom/eval/Sample" = some m.cls := findClass_of_methodNamed Bd.named
  have hnm := (name_of_methodNamed Bd.named Bd.method).1
  have X0 : Stand p l e R_own_add3 s m #[(.ref a1), (.double dx)] below meth c s₁ [] 0 0 := Stand.of_body Bd
  have e0 : s₁.heap = h0 := by rw [← hh, Bd.state]; rfl
  have N0 := Fr.nil n0
  have K0 : Keep h0 h0 [a1] := Keep.refl h0 [a1]
  show own_Fin p e below s (Q_own_add3 Z a1 dx dm dy zi zj zn h0 n0) R_own_add3.cells R_own_add3.slots (s₁.setTop (entryFrame m #[(.ref a1), (.double dx)] 5))
  refine own_go (fun _ k => castTop (ef_own_add3 m a1 dx) k) ?_
  show own_Fin _ _ _ _ _ _ _ (s₁.setTop (mkF m 0 #[.val (.ref a1), .val (.double dx), .second, .unset, .unset] []))
  refine own_go (B := s₁.setTop (mkF m 1 #[.val (.ref a1), .val (.double dx), .second, .unset, .unset] [(.ref a1)])) (fun _ k => XS.aloadN X0.here hx rfl (hb hby d4_0) rfl rfl k) ?_
  refine own_go (B := s₁.setTop (mkF m 2 #[.val (.ref a1), .val (.double dx), .second, .unset, .unset] [(.ref a1), (.ref a1)])) (fun _ k => XS.dup X0.here hx rfl (hb hby d4_1) rfl rfl k) ?_
  obtain ⟨T1, X1, e1, st1⟩ := getF X0 hx hZ hown (host := "") (Or.inl (own_w hw 24 rfl)) Via.refl e0 P_F_a1_count (g := (mkF m 2 #[.val (.ref a1), .val (.double dx), .second, .unset, .unset] [(.ref a1), (.ref a1)])) rfl rfl (hb hby d4_2)
  refine own_go (B := T1.setTop (mkF m 5 #[.val (.ref a1), .val (.double dx), .second, .unset, .unset] [(.long (3 : Int64)), (.ref a1)])) st1 ?_
  refine own_go (B := T1.setTop (mkF m 6 #[.val (.ref a1), .val (.double dx), .second, .unset, .unset] [(.long (1 : Int64)), (.long (3 : Int64)), (.ref a1)])) (fun _ k => XS.lconst X1.here hx rfl (hb hby d4_5) k) ?_
  refine own_go (B := T1.setTop (mkF m 7 #[.val (.ref a1), .val (.double dx), .second, .unset, .unset] [(.long ((3 : Int64) + (1 : Int64))), (.ref a1)])) (fun _ k => XS.ladd X1.here hx rfl (hb hby d4_6) rfl k) ?_
  rw [show ((3 : Int64) + (1 : Int64)) = (4 : Int64) from by decide]
  show own_Fin _ _ _ _ _ _ _ (T1.setTop (mkF m 7 #[.val (.ref a1), .val (.double dx), .second, .unset, .unset] [(.long (4 : Int64)), (.ref a1)]))
  obtain ⟨T2, h2, X2, e2, W2, st2⟩ := putF X1 hx hZ hown (host := "") (Or.inl (own_w hw 24 rfl)) Via.refl e1 P_F_a1_count P_E_a1 (Or.inl (own_w hw 25 rfl)) (own_w hw 4 rfl) (ty := .long) (by decide) rfl rfl (g := (mkF m 7 #[.val (.ref a1), .val (.double dx), .second, .unset, .unset] [(.long (4 : Int64)), (.ref a1)])) rfl rfl (hb hby d4_7)
  have F_w2 : Fld Z h2 a1 "com/example/kin_bloom/kinbloom/eval/Sample" "count" "J" (.long (4 : Int64)) := P_F_a1_count.same W2
  have E_4 := P_E_a1.wr W2
  have F_6 := P_F_a1_mean.other W2 (Or.inr (slot_ne (Or.inl (own_w hw 18 rfl)) (Or.inl (own_w hw 25 rfl)) (by decide) (t := .double) (t' := .long) (by decide) (by decide)))
  have F_7 := P_F_a1_squaredDeviations.other W2 (Or.inr (slot_ne (Or.inl (own_w hw 27 rfl)) (Or.inl (own_w hw 25 rfl)) (by decide) (t := .double) (t' := .long) (by decide) (by decide)))
  have K8 : Keep h0 h2 [a1] := K0.wr W2 (Or.inl (List.mem_of_getElem? (i := 0) rfl))
  have N2 := Fr.snoc X2 N0 g_a1
  refine own_go (B := T2.setTop (mkF m 10 #[.val (.ref a1), .val (.double dx), .second, .unset, .unset] [])) st2 ?_
  refine own_go (B := T2.setTop (mkF m 11 #[.val (.ref a1), .val (.double dx), .second, .unset, .unset] [(.double dx)])) (fun _ k => XS.dloadN X2.here hx rfl (hb hby d4_10) rfl  k) ?_
  refine own_go (B := T2.setTop (mkF m 12 #[.val (.ref a1), .val (.double dx), .second, .unset, .unset] [(.ref a1), (.double dx)])) (fun _ k => XS.aloadN X2.here hx rfl (hb hby d4_11) rfl rfl k) ?_
  obtain ⟨T9, X9, e9, st9⟩ := getF X2 hx hZ hown (host := "") (Or.inl (own_w hw 17 rfl)) Via.refl e2 F_6 (g := (mkF m 12 #[.val (.ref a1), .val (.double dx), .second, .unset, .unset] [(.ref a1), (.double dx)])) rfl rfl (hb hby d4_12)
  refine own_go (B := T9.setTop (mkF m 15 #[.val (.ref a1), .val (.double dx), .second, .unset, .unset] [(.double dm), (.double dx)])) st9 ?_
  refine own_go (B := T9.setTop (mkF m 16 #[.val (.ref a1), .val (.double dx), .second, .unset, .unset] [(.double (FP.dsub dx dm))])) (fun _ k => XS.dsubS X9.here hx rfl (hb hby d4_15) rfl (own_st1 Hx Hm Hb).nn rfl k) ?_
  refine own_go (B := T9.setTop (mkF m 17 #[.val (.ref a1), .val (.double dx), .second, .val (.double (FP.dsub dx dm)), .second] [])) (fun _ k => XS.dstoreN X9.here hx rfl (hb hby d4_16) rfl (l' := #[.val (.ref a1), .val (.double dx), .second, .val (.double (FP.dsub dx dm)), .second]) rfl k) ?_
  refine own_go (B := T9.setTop (mkF m 18 #[.val (.ref a1), .val (.double dx), .second, .val (.double (FP.dsub dx dm)), .second] [(.ref a1)])) (fun _ k => XS.aloadN X9.here hx rfl (hb hby d4_17) rfl rfl k) ?_
  refine own_go (B := T9.setTop (mkF m 19 #[.val (.ref a1), .val (.double dx), .second, .val (.double (FP.dsub dx dm)), .second] [(.ref a1), (.ref a1)])) (fun _ k => XS.dup X9.here hx rfl (hb hby d4_18) rfl rfl k) ?_
  obtain ⟨T10, X10, e10, st10⟩ := getF X9 hx hZ hown (host := "") (Or.inl (own_w hw 17 rfl)) Via.refl e9 F_6 (g := (mkF m 19 #[.val (.ref a1), .val (.double dx), .second, .val (.double (FP.dsub dx dm)), .second] [(.ref a1), (.ref a1)])) rfl rfl (hb hby d4_19)
  refine own_go (B := T10.setTop (mkF m 22 #[.val (.ref a1), .val (.double dx), .second, .val (.double (FP.dsub dx dm)), .second] [(.double dm), (.ref a1)])) st10 ?_
  refine own_go (B := T10.setTop (mkF m 23 #[.val (.ref a1), .val (.double dx), .second, .val (.double (FP.dsub dx dm)), .second] [(.double (FP.dsub dx dm)), (.double dm), (.ref a1)])) (fun _ k => XS.dloadN X10.here hx rfl (hb hby d4_22) rfl  k) ?_
  refine own_go (B := T10.setTop (mkF m 24 #[.val (.ref a1), .val (.double dx), .second, .val (.double (FP.dsub dx dm)), .second] [(.ref a1), (.double (FP.dsub dx dm)), (.double dm), (.ref a1)])) (fun _ k => XS.aloadN X10.here hx rfl (hb hby d4_23) rfl rfl k) ?_
  obtain ⟨T11, X11, e11, st11⟩ := getF X10 hx hZ hown (host := "") (Or.inl (own_w hw 24 rfl)) Via.refl e10 F_w2 (g := (mkF m 24 #[.val (.ref a1), .val (.double dx), .second, .val (.double (FP.dsub dx dm)), .second] [(.ref a1), (.double (FP.dsub dx dm)), (.double dm), (.ref a1)])) rfl rfl (hb hby d4_24)
  refine own_go (B := T11.setTop (mkF m 27 #[.val (.ref a1), .val (.double dx), .second, .val (.double (FP.dsub dx dm)), .second] [(.long (4 : Int64)), (.double (FP.dsub dx dm)), (.double dm), (.ref a1)])) st11 ?_
  refine own_go (B := T11.setTop (mkF m 28 #[.val (.ref a1), .val (.double dx), .second, .val (.double (FP.dsub dx dm)), .second] [(.double (FP.l2d (4 : Int64))), (.double (FP.dsub dx dm)), (.double dm), (.ref a1)])) (fun _ k => XS.l2dS X11.here hx rfl (hb hby d4_27) rfl rfl k) ?_
  refine own_go (B := T11.setTop (mkF m 29 #[.val (.ref a1), .val (.double dx), .second, .val (.double (FP.dsub dx dm)), .second] [(.double (FP.ddiv (FP.dsub dx dm) (FP.l2d (4 : Int64)))), (.double dm), (.ref a1)])) (fun _ k => XS.ddivS X11.here hx rfl (hb hby d4_28) rfl (own_st2 Hx Hm Hb own_c4 (by decide) Hz).nn rfl k) ?_
  refine own_go (B := T11.setTop (mkF m 30 #[.val (.ref a1), .val (.double dx), .second, .val (.double (FP.dsub dx dm)), .second] [(.double (FP.dadd dm (FP.ddiv (FP.dsub dx dm) (FP.l2d (4 : Int64))))), (.ref a1)])) (fun _ k => XS.daddS X11.here hx rfl (hb hby d4_29) rfl (own_st3 Hx Hm Hb own_c4 (by decide) Hz).nn rfl k) ?_
  obtain ⟨T12, h12, X12, e12, W12, st12⟩ := putF X11 hx hZ hown (host := "") (Or.inl (own_w hw 17 rfl)) Via.refl e11 F_6 E_4 (Or.inl (own_w hw 18 rfl)) (own_w hw 4 rfl) (ty := .double) (by decide) rfl rfl (g := (mkF m 30 #[.val (.ref a1), .val (.double dx), .second, .val (.double (FP.dsub dx dm)), .second] [(.double (FP.dadd dm (FP.ddiv (FP.dsub dx dm) (FP.l2d (4 : Int64))))), (.ref a1)])) rfl rfl (hb hby d4_30)
  have F_w12 : Fld Z h12 a1 "com/example/kin_bloom/kinbloom/eval/Sample" "mean" "D" (.double (FP.dadd dm (FP.ddiv (FP.dsub dx dm) (FP.l2d (4 : Int64))))) := F_6.same W12
  have E_14 := E_4.wr W12
  have F_16 := F_7.other W12 (Or.inr (slot_ne (Or.inl (own_w hw 27 rfl)) (Or.inl (own_w hw 18 rfl)) (by decide) (t := .double) (t' := .double) (by decide) (by decide)))
  have F_17 := F_w2.other W12 (Or.inr (slot_ne (Or.inl (own_w hw 25 rfl)) (Or.inl (own_w hw 18 rfl)) (by decide) (t := .long) (t' := .double) (by decide) (by decide)))
  have K18 : Keep h0 h12 [a1] := K8.wr W12 (Or.inl (List.mem_of_getElem? (i := 0) rfl))
  have N12 := Fr.snoc X12 N2 g_a1
  refine own_go (B := T12.setTop (mkF m 33 #[.val (.ref a1), .val (.double dx), .second, .val (.double (FP.dsub dx dm)), .second] [])) st12 ?_
  refine own_go (B := T12.setTop (mkF m 34 #[.val (.ref a1), .val (.double dx), .second, .val (.double (FP.dsub dx dm)), .second] [(.ref a1)])) (fun _ k => XS.aloadN X12.here hx rfl (hb hby d4_33) rfl rfl k) ?_
  refine own_go (B := T12.setTop (mkF m 35 #[.val (.ref a1), .val (.double dx), .second, .val (.double (FP.dsub dx dm)), .second] [(.ref a1), (.ref a1)])) (fun _ k => XS.dup X12.here hx rfl (hb hby d4_34) rfl rfl k) ?_
  obtain ⟨T19, X19, e19, st19⟩ := getF X12 hx hZ hown (host := "") (Or.inl (own_w hw 26 rfl)) Via.refl e12 F_16 (g := (mkF m 35 #[.val (.ref a1), .val (.double dx), .second, .val (.double (FP.dsub dx dm)), .second] [(.ref a1), (.ref a1)])) rfl rfl (hb hby d4_35)
  refine own_go (B := T19.setTop (mkF m 38 #[.val (.ref a1), .val (.double dx), .second, .val (.double (FP.dsub dx dm)), .second] [(.double dy), (.ref a1)])) st19 ?_
  refine own_go (B := T19.setTop (mkF m 39 #[.val (.ref a1), .val (.double dx), .second, .val (.double (FP.dsub dx dm)), .second] [(.double (FP.dsub dx dm)), (.double dy), (.ref a1)])) (fun _ k => XS.dloadN X19.here hx rfl (hb hby d4_38) rfl  k) ?_
  refine own_go (B := T19.setTop (mkF m 40 #[.val (.ref a1), .val (.double dx), .second, .val (.double (FP.dsub dx dm)), .second] [(.double dx), (.double (FP.dsub dx dm)), (.double dy), (.ref a1)])) (fun _ k => XS.dloadN X19.here hx rfl (hb hby d4_39) rfl  k) ?_
  refine own_go (B := T19.setTop (mkF m 41 #[.val (.ref a1), .val (.double dx), .second, .val (.double (FP.dsub dx dm)), .second] [(.ref a1), (.double dx), (.double (FP.dsub dx dm)), (.double dy), (.ref a1)])) (fun _ k => XS.aloadN X19.here hx rfl (hb hby d4_40) rfl rfl k) ?_
  obtain ⟨T20, X20, e20, st20⟩ := getF X19 hx hZ hown (host := "") (Or.inl (own_w hw 17 rfl)) Via.refl e19 F_w12 (g := (mkF m 41 #[.val (.ref a1), .val (.double dx), .second, .val (.double (FP.dsub dx dm)), .second] [(.ref a1), (.double dx), (.double (FP.dsub dx dm)), (.double dy), (.ref a1)])) rfl rfl (hb hby d4_41)
  refine own_go (B := T20.setTop (mkF m 44 #[.val (.ref a1), .val (.double dx), .second, .val (.double (FP.dsub dx dm)), .second] [(.double (FP.dadd dm (FP.ddiv (FP.dsub dx dm) (FP.l2d (4 : Int64))))), (.double dx), (.double (FP.dsub dx dm)), (.double dy), (.ref a1)])) st20 ?_
  refine own_go (B := T20.setTop (mkF m 45 #[.val (.ref a1), .val (.double dx), .second, .val (.double (FP.dsub dx dm)), .second] [(.double (FP.dsub dx (FP.dadd dm (FP.ddiv (FP.dsub dx dm) (FP.l2d (4 : Int64)))))), (.double (FP.dsub dx dm)), (.double dy), (.ref a1)])) (fun _ k => XS.dsubS X20.here hx rfl (hb hby d4_44) rfl (own_st4 Hx Hm Hb own_c4 (by decide) Hz).nn rfl k) ?_
  refine own_go (B := T20.setTop (mkF m 46 #[.val (.ref a1), .val (.double dx), .second, .val (.double (FP.dsub dx dm)), .second] [(.double (FP.dmul (FP.dsub dx dm) (FP.dsub dx (FP.dadd dm (FP.ddiv (FP.dsub dx dm) (FP.l2d (4 : Int64))))))), (.double dy), (.ref a1)])) (fun _ k => XS.dmulS X20.here hx rfl (hb hby d4_45) rfl ((own_st5 Hx Hm Hb own_c4 (by decide) Hz).fin (by decide)).noNaN rfl k) ?_
  refine own_go (B := T20.setTop (mkF m 47 #[.val (.ref a1), .val (.double dx), .second, .val (.double (FP.dsub dx dm)), .second] [(.double (FP.dadd dy (FP.dmul (FP.dsub dx dm) (FP.dsub dx (FP.dadd dm (FP.ddiv (FP.dsub dx dm) (FP.l2d (4 : Int64)))))))), (.ref a1)])) (fun _ k => XS.daddS X20.here hx rfl (hb hby d4_46) rfl ((own_st6 Hx Hm Hb own_c4 (by decide) Hz Hy (by decide) (by decide)).fin (by decide)).noNaN rfl k) ?_
  obtain ⟨T21, h21, X21, e21, W21, st21⟩ := putF X20 hx hZ hown (host := "") (Or.inl (own_w hw 26 rfl)) Via.refl e20 F_16 E_14 (Or.inl (own_w hw 27 rfl)) (own_w hw 4 rfl) (ty := .double) (by decide) rfl rfl (g := (mkF m 47 #[.val (.ref a1), .val (.double dx), .second, .val (.double (FP.dsub dx dm)), .second] [(.double (FP.dadd dy (FP.dmul (FP.dsub dx dm) (FP.dsub dx (FP.dadd dm (FP.ddiv (FP.dsub dx dm) (FP.l2d (4 : Int64)))))))), (.ref a1)])) rfl rfl (hb hby d4_47)
  have F_w21 : Fld Z h21 a1 "com/example/kin_bloom/kinbloom/eval/Sample" "squaredDeviations" "D" (.double (FP.dadd dy (FP.dmul (FP.dsub dx dm) (FP.dsub dx (FP.dadd dm (FP.ddiv (FP.dsub dx dm) (FP.l2d (4 : Int64)))))))) := F_16.same W21
  have E_23 := E_14.wr W21
  have F_25 := F_17.other W21 (Or.inr (slot_ne (Or.inl (own_w hw 25 rfl)) (Or.inl (own_w hw 27 rfl)) (by decide) (t := .long) (t' := .double) (by decide) (by decide)))
  have F_26 := F_w12.other W21 (Or.inr (slot_ne (Or.inl (own_w hw 18 rfl)) (Or.inl (own_w hw 27 rfl)) (by decide) (t := .double) (t' := .double) (by decide) (by decide)))
  have K27 : Keep h0 h21 [a1] := K18.wr W21 (Or.inl (List.mem_of_getElem? (i := 0) rfl))
  have N21 := Fr.snoc X21 N12 g_a1
  refine own_go (B := T21.setTop (mkF m 50 #[.val (.ref a1), .val (.double dx), .second, .val (.double (FP.dsub dx dm)), .second] [])) st21 ?_
  have HM := own_st3 Hx Hm Hb own_c4 (by decide) Hz
  have HY := own_st6 Hx Hm Hb own_c4 (by decide) Hz Hy (by decide) (by decide)
  exact own_retV X21 hx Bd.notSynchronized Bd.returns (hb hby d4_50) e21 ⟨(FP.dadd dm (FP.ddiv (FP.dsub dx dm) (FP.l2d (4 : Int64)))), (FP.dadd dy (FP.dmul (FP.dsub dx dm) (FP.dsub dx (FP.dadd dm (FP.ddiv (FP.dsub dx dm) (FP.l2d (4 : Int64))))))), rfl, N21, K27, E_23, F_25, F_26, F_w21, HM, HY⟩ (by decide) (by decide)
theorem own_pn1 : plainName "com/example/kin_bloom/kinbloom/eval/SampleAddPinLaw" = true := by first | (simp [plainName, overriddenIn]; done) | decide +kernel
theorem ef_own_rm0 (m : MethodId) (x0 : Int32) (x1 : Int32) (x2 : Int32) (x3 : Int32) : entryFrame m #[(.int x0), (.int x1), (.int x2), (.int x3)] maxLocals = mkF m 0 #[.val (.int x0), .val (.int x1), .val (.int x2), .val (.int x3), .unset, .unset, .unset, .unset, .unset, .unset, .unset, .unset, .unset, .unset, .unset, .unset, .unset, .unset, .unset] [] := by first | (simp [entryFrame, mkF, argsToLocals, Value.category, maxLocals]; done) | rfl
def Q_own_rm0 (Z : State) (p1 : Int32) (p2 : Int32) (p3 : Int32) (p4 : Int32) (h0 : Heap) (n0 : Nat) (v : Option Value) (h : Heap) (L : List Loc) : Prop := v = some (.int (1 : Int32)) ∧ Fr n0 L ∧ Keep h0 h []
set_option maxRecDepth 65536 in
set_option maxHeartbeats 400000000 in
theorem own_rm0 (l : Launch) (Z : State) (a0 : Array Value) (hw : ∀ d ∈ tables_1, d.before a0 Z = true) (ws : List Jvm.Cond) (p1 : Int32) (p2 : Int32) (p3 : Int32) (p4 : Int32) (h0 : Heap) (n0 : Nat) (Z0 : n0 ≤ h0.size)  :
    MetFree l x (head1 (Jvm.Cond.code x code maxLocals ret :: ws) room_1) (fun a U => a = #[(.int p1), (.int p2), (.int p3), (.int p4)] ∧ Z.Warmed39 U.vm ∧ U.heap = h0) (fun _ _ _ _ _ => True) (fun _ U o U' => ∃ v L, o = .returned v ∧ Q_own_rm0 Z p1 p2 p3 p4 h0 n0 v U'.heap L ∧ FrameEnd U o U' L 1 3) := by
  refine MetFree.of_bodySF (plainFor_of_name own_pn1) hisR ?_
  intro p e s m args below meth c s₁ Bd hml0 hP hK
  obtain ⟨rfl, hZ, hh⟩ := hP
  have hx := Bd.exec
  have hby := Bd.bytes
  have hml : c.maxLocals = 19 := hml0
  have hown : s.vm.findClass "com/example/kin_bloom/kinbloom/eval/SampleAddPinLaw" = some m.cls := findClass_of_methodNamed Bd.named
  have hnm := (name_of_methodNamed Bd.named Bd.method).1
  have X0 : Stand p l e room_1 s m #[(.int p1), (.int p2), (.int p3), (.int p4)] below meth c s₁ [] 0 0 := Stand.of_body Bd
  have e0 : s₁.heap = h0 := by rw [← hh, Bd.state]; rfl
  have N0 := Fr.nil n0
  have K0 : Keep h0 h0 [] := Keep.refl h0 []
  show own_Fin p e below s (Q_own_rm0 Z p1 p2 p3 p4 h0 n0) 1 3 (s₁.setTop (entryFrame m #[(.int p1), (.int p2), (.int p3), (.int p4)] maxLocals))
  refine own_go (fun _ k => castTop (ef_own_rm0 m p1 p2 p3 p4) k) ?_
  show own_Fin _ _ _ _ _ _ _ (s₁.setTop (mkF m 0 #[.val (.int p1), .val (.int p2), .val (.int p3), .val (.int p4), .unset, .unset, .unset, .unset, .unset, .unset, .unset, .unset, .unset, .unset, .unset, .unset, .unset, .unset, .unset] []))
  have Ha := own_Hi p1
  have Ba := rng32 p1
  have Hb := own_Hi p2
  have Bb := rng32 p2
  have Hk := own_Hi p3
  have Bk := rng32 p3
  have Hj := own_Hi p4
  have Bj := rng32 p4
  have H12 : own_H (2 * p1.toInt + 2 * p2.toInt) (FP.dadd (FP.l2d (p1.toInt64)) (FP.l2d (p2.toInt64))) := Ha.add Hb rfl (by omega)
  have H16 : own_H (p1.toInt + p2.toInt) (FP.ddiv (FP.dadd (FP.l2d (p1.toInt64)) (FP.l2d (p2.toInt64))) (4611686018427387904 : UInt64)) := H12.div own_H2 (by decide) (by omega) (by omega) (by omega) (by omega)
  have H26 : own_H (6 * p3.toInt) (FP.dmul (4613937818241073152 : UInt64) (FP.l2d (p3.toInt64))) := own_H3.mul Hk (by omega) (by omega) (by omega) (by omega)
  have H27 : own_H (p1.toInt + p2.toInt + 6 * p3.toInt) (FP.dadd (FP.ddiv (FP.dadd (FP.l2d (p1.toInt64)) (FP.l2d (p2.toInt64))) (4611686018427387904 : UInt64)) (FP.dmul (4613937818241073152 : UInt64) (FP.l2d (p3.toInt64)))) := H16.add H26 rfl (by omega)
  have H34 : own_H (p1.toInt + p2.toInt + 2 * p3.toInt) (FP.dadd (FP.ddiv (FP.dadd (FP.l2d (p1.toInt64)) (FP.l2d (p2.toInt64))) (4611686018427387904 : UInt64)) (FP.l2d (p3.toInt64))) := H16.add Hk rfl (by omega)
  have H44 : own_H (8 * p4.toInt) (FP.dmul (4616189618054758400 : UInt64) (FP.l2d (p4.toInt64))) := own_H4.mul Hj (by omega) (by omega) (by omega) (by omega)
  have H45 : own_H (p1.toInt + p2.toInt + 2 * p3.toInt + 8 * p4.toInt) (FP.dadd (FP.dadd (FP.ddiv (FP.dadd (FP.l2d (p1.toInt64)) (FP.l2d (p2.toInt64))) (4611686018427387904 : UInt64)) (FP.l2d (p3.toInt64))) (FP.dmul (4616189618054758400 : UInt64) (FP.l2d (p4.toInt64)))) := H34.add H44 rfl (by omega)
  have H53 : own_H (p1.toInt + p2.toInt + 2 * p3.toInt + 2 * p4.toInt) (FP.dadd (FP.dadd (FP.ddiv (FP.dadd (FP.l2d (p1.toInt64)) (FP.l2d (p2.toInt64))) (4611686018427387904 : UInt64)) (FP.l2d (p3.toInt64))) (FP.l2d (p4.toInt64))) := H34.add Hj rfl (by omega)
  refine own_go (B := s₁.setTop (mkF m 1 #[.val (.int p1), .val (.int p2), .val (.int p3), .val (.int p4), .unset, .unset, .unset, .unset, .unset, .unset, .unset, .unset, .unset, .unset, .unset, .unset, .unset, .unset, .unset] [(.int p1)])) (fun _ k => XS.iloadN X0.here hx rfl (hb hby at_0) rfl  k) ?_
  refine own_go (B := s₁.setTop (mkF m 2 #[.val (.int p1), .val (.int p2), .val (.int p3), .val (.int p4), .unset, .unset, .unset, .unset, .unset, .unset, .unset, .unset, .unset, .unset, .unset, .unset, .unset, .unset, .unset] [(.double (FP.l2d (p1.toInt64)))])) (fun _ k => XS.i2dS X0.here hx rfl (hb hby at_1) rfl (i2d_w _) k) ?_
  refine own_go (B := s₁.setTop (mkF m 4 #[.val (.int p1), .val (.int p2), .val (.int p3), .val (.int p4), .val (.double (FP.l2d (p1.toInt64))), .second, .unset, .unset, .unset, .unset, .unset, .unset, .unset, .unset, .unset, .unset, .unset, .unset, .unset] [])) (fun _ k => XS.dstore X0.here hx rfl (hb hby at_2) rfl (l' := #[.val (.int p1), .val (.int p2), .val (.int p3), .val (.int p4), .val (.double (FP.l2d (p1.toInt64))), .second, .unset, .unset, .unset, .unset, .unset, .unset, .unset, .unset, .unset, .unset, .unset, .unset, .unset]) rfl k) ?_
  refine own_go (B := s₁.setTop (mkF m 5 #[.val (.int p1), .val (.int p2), .val (.int p3), .val (.int p4), .val (.double (FP.l2d (p1.toInt64))), .second, .unset, .unset, .unset, .unset, .unset, .unset, .unset, .unset, .unset, .unset, .unset, .unset, .unset] [(.int p2)])) (fun _ k => XS.iloadN X0.here hx rfl (hb hby at_4) rfl  k) ?_
  refine own_go (B := s₁.setTop (mkF m 6 #[.val (.int p1), .val (.int p2), .val (.int p3), .val (.int p4), .val (.double (FP.l2d (p1.toInt64))), .second, .unset, .unset, .unset, .unset, .unset, .unset, .unset, .unset, .unset, .unset, .unset, .unset, .unset] [(.double (FP.l2d (p2.toInt64)))])) (fun _ k => XS.i2dS X0.here hx rfl (hb hby at_5) rfl (i2d_w _) k) ?_
  refine own_go (B := s₁.setTop (mkF m 8 #[.val (.int p1), .val (.int p2), .val (.int p3), .val (.int p4), .val (.double (FP.l2d (p1.toInt64))), .second, .val (.double (FP.l2d (p2.toInt64))), .second, .unset, .unset, .unset, .unset, .unset, .unset, .unset, .unset, .unset, .unset, .unset] [])) (fun _ k => XS.dstore X0.here hx rfl (hb hby at_6) rfl (l' := #[.val (.int p1), .val (.int p2), .val (.int p3), .val (.int p4), .val (.double (FP.l2d (p1.toInt64))), .second, .val (.double (FP.l2d (p2.toInt64))), .second, .unset, .unset, .unset, .unset, .unset, .unset, .unset, .unset, .unset, .unset, .unset]) rfl k) ?_
  refine own_go (B := s₁.setTop (mkF m 10 #[.val (.int p1), .val (.int p2), .val (.int p3), .val (.int p4), .val (.double (FP.l2d (p1.toInt64))), .second, .val (.double (FP.l2d (p2.toInt64))), .second, .unset, .unset, .unset, .unset, .unset, .unset, .unset, .unset, .unset, .unset, .unset] [(.double (FP.l2d (p1.toInt64)))])) (fun _ k => XS.dload X0.here hx rfl (hb hby at_8) rfl  k) ?_
  refine own_go (B := s₁.setTop (mkF m 12 #[.val (.int p1), .val (.int p2), .val (.int p3), .val (.int p4), .val (.double (FP.l2d (p1.toInt64))), .second, .val (.double (FP.l2d (p2.toInt64))), .second, .unset, .unset, .unset, .unset, .unset, .unset, .unset, .unset, .unset, .unset, .unset] [(.double (FP.l2d (p2.toInt64))), (.double (FP.l2d (p1.toInt64)))])) (fun _ k => XS.dload X0.here hx rfl (hb hby at_10) rfl  k) ?_
  refine own_go (B := s₁.setTop (mkF m 13 #[.val (.int p1), .val (.int p2), .val (.int p3), .val (.int p4), .val (.double (FP.l2d (p1.toInt64))), .second, .val (.double (FP.l2d (p2.toInt64))), .second, .unset, .unset, .unset, .unset, .unset, .unset, .unset, .unset, .unset, .unset, .unset] [(.double (FP.dadd (FP.l2d (p1.toInt64)) (FP.l2d (p2.toInt64))))])) (fun _ k => XS.daddS X0.here hx rfl (hb hby at_12) rfl H12.nn rfl k) ?_
  refine own_go (B := s₁.setTop (mkF m 16 #[.val (.int p1), .val (.int p2), .val (.int p3), .val (.int p4), .val (.double (FP.l2d (p1.toInt64))), .second, .val (.double (FP.l2d (p2.toInt64))), .second, .unset, .unset, .unset, .unset, .unset, .unset, .unset, .unset, .unset, .unset, .unset] [(.double (4611686018427387904 : UInt64)), (.double (FP.dadd (FP.l2d (p1.toInt64)) (FP.l2d (p2.toInt64))))])) (fun _ k => X0.ldc2DoubleC hx hown (mvT hZ (own_w hw 0 rfl)) (g := (mkF m 13 #[.val (.int p1), .val (.int p2), .val (.int p3), .val (.int p4), .val (.double (FP.l2d (p1.toInt64))), .second, .val (.double (FP.l2d (p2.toInt64))), .second, .unset, .unset, .unset, .unset, .unset, .unset, .unset, .unset, .unset, .unset, .unset] [(.double (FP.dadd (FP.l2d (p1.toInt64)) (FP.l2d (p2.toInt64))))])) rfl (hb hby at_13) _ k) ?_
  refine own_go (B := s₁.setTop (mkF m 17 #[.val (.int p1), .val (.int p2), .val (.int p3), .val (.int p4), .val (.double (FP.l2d (p1.toInt64))), .second, .val (.double (FP.l2d (p2.toInt64))), .second, .unset, .unset, .unset, .unset, .unset, .unset, .unset, .unset, .unset, .unset, .unset] [(.double (FP.ddiv (FP.dadd (FP.l2d (p1.toInt64)) (FP.l2d (p2.toInt64))) (4611686018427387904 : UInt64)))])) (fun _ k => XS.ddivS X0.here hx rfl (hb hby at_16) rfl H16.nn rfl k) ?_
  refine own_go (B := s₁.setTop (mkF m 19 #[.val (.int p1), .val (.int p2), .val (.int p3), .val (.int p4), .val (.double (FP.l2d (p1.toInt64))), .second, .val (.double (FP.l2d (p2.toInt64))), .second, .val (.double (FP.ddiv (FP.dadd (FP.l2d (p1.toInt64)) (FP.l2d (p2.toInt64))) (4611686018427387904 : UInt64))), .second, .unset, .unset, .unset, .unset, .unset, .unset, .unset, .unset, .unset] [])) (fun _ k => XS.dstore X0.here hx rfl (hb hby at_17) rfl (l' := #[.val (.int p1), .val (.int p2), .val (.int p3), .val (.int p4), .val (.double (FP.l2d (p1.toInt64))), .second, .val (.double (FP.l2d (p2.toInt64))), .second, .val (.double (FP.ddiv (FP.dadd (FP.l2d (p1.toInt64)) (FP.l2d (p2.toInt64))) (4611686018427387904 : UInt64))), .second, .unset, .unset, .unset, .unset, .unset, .unset, .unset, .unset, .unset]) rfl k) ?_
  refine own_go (B := s₁.setTop (mkF m 21 #[.val (.int p1), .val (.int p2), .val (.int p3), .val (.int p4), .val (.double (FP.l2d (p1.toInt64))), .second, .val (.double (FP.l2d (p2.toInt64))), .second, .val (.double (FP.ddiv (FP.dadd (FP.l2d (p1.toInt64)) (FP.l2d (p2.toInt64))) (4611686018427387904 : UInt64))), .second, .unset, .unset, .unset, .unset, .unset, .unset, .unset, .unset, .unset] [(.double (FP.ddiv (FP.dadd (FP.l2d (p1.toInt64)) (FP.l2d (p2.toInt64))) (4611686018427387904 : UInt64)))])) (fun _ k => XS.dload X0.here hx rfl (hb hby at_19) rfl  k) ?_
  refine own_go (B := s₁.setTop (mkF m 24 #[.val (.int p1), .val (.int p2), .val (.int p3), .val (.int p4), .val (.double (FP.l2d (p1.toInt64))), .second, .val (.double (FP.l2d (p2.toInt64))), .second, .val (.double (FP.ddiv (FP.dadd (FP.l2d (p1.toInt64)) (FP.l2d (p2.toInt64))) (4611686018427387904 : UInt64))), .second, .unset, .unset, .unset, .unset, .unset, .unset, .unset, .unset, .unset] [(.double (4613937818241073152 : UInt64)), (.double (FP.ddiv (FP.dadd (FP.l2d (p1.toInt64)) (FP.l2d (p2.toInt64))) (4611686018427387904 : UInt64)))])) (fun _ k => X0.ldc2DoubleC hx hown (mvT hZ (own_w hw 1 rfl)) (g := (mkF m 21 #[.val (.int p1), .val (.int p2), .val (.int p3), .val (.int p4), .val (.double (FP.l2d (p1.toInt64))), .second, .val (.double (FP.l2d (p2.toInt64))), .second, .val (.double (FP.ddiv (FP.dadd (FP.l2d (p1.toInt64)) (FP.l2d (p2.toInt64))) (4611686018427387904 : UInt64))), .second, .unset, .unset, .unset, .unset, .unset, .unset, .unset, .unset, .unset] [(.double (FP.ddiv (FP.dadd (FP.l2d (p1.toInt64)) (FP.l2d (p2.toInt64))) (4611686018427387904 : UInt64)))])) rfl (hb hby at_21) _ k) ?_
  refine own_go (B := s₁.setTop (mkF m 25 #[.val (.int p1), .val (.int p2), .val (.int p3), .val (.int p4), .val (.double (FP.l2d (p1.toInt64))), .second, .val (.double (FP.l2d (p2.toInt64))), .second, .val (.double (FP.ddiv (FP.dadd (FP.l2d (p1.toInt64)) (FP.l2d (p2.toInt64))) (4611686018427387904 : UInt64))), .second, .unset, .unset, .unset, .unset, .unset, .unset, .unset, .unset, .unset] [(.int p3), (.double (4613937818241073152 : UInt64)), (.double (FP.ddiv (FP.dadd (FP.l2d (p1.toInt64)) (FP.l2d (p2.toInt64))) (4611686018427387904 : UInt64)))])) (fun _ k => XS.iloadN X0.here hx rfl (hb hby at_24) rfl  k) ?_
  refine own_go (B := s₁.setTop (mkF m 26 #[.val (.int p1), .val (.int p2), .val (.int p3), .val (.int p4), .val (.double (FP.l2d (p1.toInt64))), .second, .val (.double (FP.l2d (p2.toInt64))), .second, .val (.double (FP.ddiv (FP.dadd (FP.l2d (p1.toInt64)) (FP.l2d (p2.toInt64))) (4611686018427387904 : UInt64))), .second, .unset, .unset, .unset, .unset, .unset, .unset, .unset, .unset, .unset] [(.double (FP.l2d (p3.toInt64))), (.double (4613937818241073152 : UInt64)), (.double (FP.ddiv (FP.dadd (FP.l2d (p1.toInt64)) (FP.l2d (p2.toInt64))) (4611686018427387904 : UInt64)))])) (fun _ k => XS.i2dS X0.here hx rfl (hb hby at_25) rfl (i2d_w _) k) ?_
  refine own_go (B := s₁.setTop (mkF m 27 #[.val (.int p1), .val (.int p2), .val (.int p3), .val (.int p4), .val (.double (FP.l2d (p1.toInt64))), .second, .val (.double (FP.l2d (p2.toInt64))), .second, .val (.double (FP.ddiv (FP.dadd (FP.l2d (p1.toInt64)) (FP.l2d (p2.toInt64))) (4611686018427387904 : UInt64))), .second, .unset, .unset, .unset, .unset, .unset, .unset, .unset, .unset, .unset] [(.double (FP.dmul (4613937818241073152 : UInt64) (FP.l2d (p3.toInt64)))), (.double (FP.ddiv (FP.dadd (FP.l2d (p1.toInt64)) (FP.l2d (p2.toInt64))) (4611686018427387904 : UInt64)))])) (fun _ k => XS.dmulS X0.here hx rfl (hb hby at_26) rfl H26.nn rfl k) ?_
  refine own_go (B := s₁.setTop (mkF m 28 #[.val (.int p1), .val (.int p2), .val (.int p3), .val (.int p4), .val (.double (FP.l2d (p1.toInt64))), .second, .val (.double (FP.l2d (p2.toInt64))), .second, .val (.double (FP.ddiv (FP.dadd (FP.l2d (p1.toInt64)) (FP.l2d (p2.toInt64))) (4611686018427387904 : UInt64))), .second, .unset, .unset, .unset, .unset, .unset, .unset, .unset, .unset, .unset] [(.double (FP.dadd (FP.ddiv (FP.dadd (FP.l2d (p1.toInt64)) (FP.l2d (p2.toInt64))) (4611686018427387904 : UInt64)) (FP.dmul (4613937818241073152 : UInt64) (FP.l2d (p3.toInt64)))))])) (fun _ k => XS.daddS X0.here hx rfl (hb hby at_27) rfl H27.nn rfl k) ?_
  refine own_go (B := s₁.setTop (mkF m 30 #[.val (.int p1), .val (.int p2), .val (.int p3), .val (.int p4), .val (.double (FP.l2d (p1.toInt64))), .second, .val (.double (FP.l2d (p2.toInt64))), .second, .val (.double (FP.ddiv (FP.dadd (FP.l2d (p1.toInt64)) (FP.l2d (p2.toInt64))) (4611686018427387904 : UInt64))), .second, .val (.double (FP.dadd (FP.ddiv (FP.dadd (FP.l2d (p1.toInt64)) (FP.l2d (p2.toInt64))) (4611686018427387904 : UInt64)) (FP.dmul (4613937818241073152 : UInt64) (FP.l2d (p3.toInt64))))), .second, .unset, .unset, .unset, .unset, .unset, .unset, .unset] [])) (fun _ k => XS.dstore X0.here hx rfl (hb hby at_28) rfl (l' := #[.val (.int p1), .val (.int p2), .val (.int p3), .val (.int p4), .val (.double (FP.l2d (p1.toInt64))), .second, .val (.double (FP.l2d (p2.toInt64))), .second, .val (.double (FP.ddiv (FP.dadd (FP.l2d (p1.toInt64)) (FP.l2d (p2.toInt64))) (4611686018427387904 : UInt64))), .second, .val (.double (FP.dadd (FP.ddiv (FP.dadd (FP.l2d (p1.toInt64)) (FP.l2d (p2.toInt64))) (4611686018427387904 : UInt64)) (FP.dmul (4613937818241073152 : UInt64) (FP.l2d (p3.toInt64))))), .second, .unset, .unset, .unset, .unset, .unset, .unset, .unset]) rfl k) ?_
  refine own_go (B := s₁.setTop (mkF m 32 #[.val (.int p1), .val (.int p2), .val (.int p3), .val (.int p4), .val (.double (FP.l2d (p1.toInt64))), .second, .val (.double (FP.l2d (p2.toInt64))), .second, .val (.double (FP.ddiv (FP.dadd (FP.l2d (p1.toInt64)) (FP.l2d (p2.toInt64))) (4611686018427387904 : UInt64))), .second, .val (.double (FP.dadd (FP.ddiv (FP.dadd (FP.l2d (p1.toInt64)) (FP.l2d (p2.toInt64))) (4611686018427387904 : UInt64)) (FP.dmul (4613937818241073152 : UInt64) (FP.l2d (p3.toInt64))))), .second, .unset, .unset, .unset, .unset, .unset, .unset, .unset] [(.double (FP.ddiv (FP.dadd (FP.l2d (p1.toInt64)) (FP.l2d (p2.toInt64))) (4611686018427387904 : UInt64)))])) (fun _ k => XS.dload X0.here hx rfl (hb hby at_30) rfl  k) ?_
  refine own_go (B := s₁.setTop (mkF m 33 #[.val (.int p1), .val (.int p2), .val (.int p3), .val (.int p4), .val (.double (FP.l2d (p1.toInt64))), .second, .val (.double (FP.l2d (p2.toInt64))), .second, .val (.double (FP.ddiv (FP.dadd (FP.l2d (p1.toInt64)) (FP.l2d (p2.toInt64))) (4611686018427387904 : UInt64))), .second, .val (.double (FP.dadd (FP.ddiv (FP.dadd (FP.l2d (p1.toInt64)) (FP.l2d (p2.toInt64))) (4611686018427387904 : UInt64)) (FP.dmul (4613937818241073152 : UInt64) (FP.l2d (p3.toInt64))))), .second, .unset, .unset, .unset, .unset, .unset, .unset, .unset] [(.int p3), (.double (FP.ddiv (FP.dadd (FP.l2d (p1.toInt64)) (FP.l2d (p2.toInt64))) (4611686018427387904 : UInt64)))])) (fun _ k => XS.iloadN X0.here hx rfl (hb hby at_32) rfl  k) ?_
  refine own_go (B := s₁.setTop (mkF m 34 #[.val (.int p1), .val (.int p2), .val (.int p3), .val (.int p4), .val (.double (FP.l2d (p1.toInt64))), .second, .val (.double (FP.l2d (p2.toInt64))), .second, .val (.double (FP.ddiv (FP.dadd (FP.l2d (p1.toInt64)) (FP.l2d (p2.toInt64))) (4611686018427387904 : UInt64))), .second, .val (.double (FP.dadd (FP.ddiv (FP.dadd (FP.l2d (p1.toInt64)) (FP.l2d (p2.toInt64))) (4611686018427387904 : UInt64)) (FP.dmul (4613937818241073152 : UInt64) (FP.l2d (p3.toInt64))))), .second, .unset, .unset, .unset, .unset, .unset, .unset, .unset] [(.double (FP.l2d (p3.toInt64))), (.double (FP.ddiv (FP.dadd (FP.l2d (p1.toInt64)) (FP.l2d (p2.toInt64))) (4611686018427387904 : UInt64)))])) (fun _ k => XS.i2dS X0.here hx rfl (hb hby at_33) rfl (i2d_w _) k) ?_
  refine own_go (B := s₁.setTop (mkF m 35 #[.val (.int p1), .val (.int p2), .val (.int p3), .val (.int p4), .val (.double (FP.l2d (p1.toInt64))), .second, .val (.double (FP.l2d (p2.toInt64))), .second, .val (.double (FP.ddiv (FP.dadd (FP.l2d (p1.toInt64)) (FP.l2d (p2.toInt64))) (4611686018427387904 : UInt64))), .second, .val (.double (FP.dadd (FP.ddiv (FP.dadd (FP.l2d (p1.toInt64)) (FP.l2d (p2.toInt64))) (4611686018427387904 : UInt64)) (FP.dmul (4613937818241073152 : UInt64) (FP.l2d (p3.toInt64))))), .second, .unset, .unset, .unset, .unset, .unset, .unset, .unset] [(.double (FP.dadd (FP.ddiv (FP.dadd (FP.l2d (p1.toInt64)) (FP.l2d (p2.toInt64))) (4611686018427387904 : UInt64)) (FP.l2d (p3.toInt64))))])) (fun _ k => XS.daddS X0.here hx rfl (hb hby at_34) rfl H34.nn rfl k) ?_
  refine own_go (B := s₁.setTop (mkF m 37 #[.val (.int p1), .val (.int p2), .val (.int p3), .val (.int p4), .val (.double (FP.l2d (p1.toInt64))), .second, .val (.double (FP.l2d (p2.toInt64))), .second, .val (.double (FP.ddiv (FP.dadd (FP.l2d (p1.toInt64)) (FP.l2d (p2.toInt64))) (4611686018427387904 : UInt64))), .second, .val (.double (FP.dadd (FP.ddiv (FP.dadd (FP.l2d (p1.toInt64)) (FP.l2d (p2.toInt64))) (4611686018427387904 : UInt64)) (FP.dmul (4613937818241073152 : UInt64) (FP.l2d (p3.toInt64))))), .second, .val (.double (FP.dadd (FP.ddiv (FP.dadd (FP.l2d (p1.toInt64)) (FP.l2d (p2.toInt64))) (4611686018427387904 : UInt64)) (FP.l2d (p3.toInt64)))), .second, .unset, .unset, .unset, .unset, .unset] [])) (fun _ k => XS.dstore X0.here hx rfl (hb hby at_35) rfl (l' := #[.val (.int p1), .val (.int p2), .val (.int p3), .val (.int p4), .val (.double (FP.l2d (p1.toInt64))), .second, .val (.double (FP.l2d (p2.toInt64))), .second, .val (.double (FP.ddiv (FP.dadd (FP.l2d (p1.toInt64)) (FP.l2d (p2.toInt64))) (4611686018427387904 : UInt64))), .second, .val (.double (FP.dadd (FP.ddiv (FP.dadd (FP.l2d (p1.toInt64)) (FP.l2d (p2.toInt64))) (4611686018427387904 : UInt64)) (FP.dmul (4613937818241073152 : UInt64) (FP.l2d (p3.toInt64))))), .second, .val (.double (FP.dadd (FP.ddiv (FP.dadd (FP.l2d (p1.toInt64)) (FP.l2d (p2.toInt64))) (4611686018427387904 : UInt64)) (FP.l2d (p3.toInt64)))), .second, .unset, .unset, .unset, .unset, .unset]) rfl k) ?_
  refine own_go (B := s₁.setTop (mkF m 39 #[.val (.int p1), .val (.int p2), .val (.int p3), .val (.int p4), .val (.double (FP.l2d (p1.toInt64))), .second, .val (.double (FP.l2d (p2.toInt64))), .second, .val (.double (FP.ddiv (FP.dadd (FP.l2d (p1.toInt64)) (FP.l2d (p2.toInt64))) (4611686018427387904 : UInt64))), .second, .val (.double (FP.dadd (FP.ddiv (FP.dadd (FP.l2d (p1.toInt64)) (FP.l2d (p2.toInt64))) (4611686018427387904 : UInt64)) (FP.dmul (4613937818241073152 : UInt64) (FP.l2d (p3.toInt64))))), .second, .val (.double (FP.dadd (FP.ddiv (FP.dadd (FP.l2d (p1.toInt64)) (FP.l2d (p2.toInt64))) (4611686018427387904 : UInt64)) (FP.l2d (p3.toInt64)))), .second, .unset, .unset, .unset, .unset, .unset] [(.double (FP.dadd (FP.ddiv (FP.dadd (FP.l2d (p1.toInt64)) (FP.l2d (p2.toInt64))) (4611686018427387904 : UInt64)) (FP.l2d (p3.toInt64))))])) (fun _ k => XS.dload X0.here hx rfl (hb hby at_37) rfl  k) ?_
  refine own_go (B := s₁.setTop (mkF m 42 #[.val (.int p1), .val (.int p2), .val (.int p3), .val (.int p4), .val (.double (FP.l2d (p1.toInt64))), .second, .val (.double (FP.l2d (p2.toInt64))), .second, .val (.double (FP.ddiv (FP.dadd (FP.l2d (p1.toInt64)) (FP.l2d (p2.toInt64))) (4611686018427387904 : UInt64))), .second, .val (.double (FP.dadd (FP.ddiv (FP.dadd (FP.l2d (p1.toInt64)) (FP.l2d (p2.toInt64))) (4611686018427387904 : UInt64)) (FP.dmul (4613937818241073152 : UInt64) (FP.l2d (p3.toInt64))))), .second, .val (.double (FP.dadd (FP.ddiv (FP.dadd (FP.l2d (p1.toInt64)) (FP.l2d (p2.toInt64))) (4611686018427387904 : UInt64)) (FP.l2d (p3.toInt64)))), .second, .unset, .unset, .unset, .unset, .unset] [(.double (4616189618054758400 : UInt64)), (.double (FP.dadd (FP.ddiv (FP.dadd (FP.l2d (p1.toInt64)) (FP.l2d (p2.toInt64))) (4611686018427387904 : UInt64)) (FP.l2d (p3.toInt64))))])) (fun _ k => X0.ldc2DoubleC hx hown (mvT hZ (own_w hw 2 rfl)) (g := (mkF m 39 #[.val (.int p1), .val (.int p2), .val (.int p3), .val (.int p4), .val (.double (FP.l2d (p1.toInt64))), .second, .val (.double (FP.l2d (p2.toInt64))), .second, .val (.double (FP.ddiv (FP.dadd (FP.l2d (p1.toInt64)) (FP.l2d (p2.toInt64))) (4611686018427387904 : UInt64))), .second, .val (.double (FP.dadd (FP.ddiv (FP.dadd (FP.l2d (p1.toInt64)) (FP.l2d (p2.toInt64))) (4611686018427387904 : UInt64)) (FP.dmul (4613937818241073152 : UInt64) (FP.l2d (p3.toInt64))))), .second, .val (.double (FP.dadd (FP.ddiv (FP.dadd (FP.l2d (p1.toInt64)) (FP.l2d (p2.toInt64))) (4611686018427387904 : UInt64)) (FP.l2d (p3.toInt64)))), .second, .unset, .unset, .unset, .unset, .unset] [(.double (FP.dadd (FP.ddiv (FP.dadd (FP.l2d (p1.toInt64)) (FP.l2d (p2.toInt64))) (4611686018427387904 : UInt64)) (FP.l2d (p3.toInt64))))])) rfl (hb hby at_39) _ k) ?_
  refine own_go (B := s₁.setTop (mkF m 43 #[.val (.int p1), .val (.int p2), .val (.int p3), .val (.int p4), .val (.double (FP.l2d (p1.toInt64))), .second, .val (.double (FP.l2d (p2.toInt64))), .second, .val (.double (FP.ddiv (FP.dadd (FP.l2d (p1.toInt64)) (FP.l2d (p2.toInt64))) (4611686018427387904 : UInt64))), .second, .val (.double (FP.dadd (FP.ddiv (FP.dadd (FP.l2d (p1.toInt64)) (FP.l2d (p2.toInt64))) (4611686018427387904 : UInt64)) (FP.dmul (4613937818241073152 : UInt64) (FP.l2d (p3.toInt64))))), .second, .val (.double (FP.dadd (FP.ddiv (FP.dadd (FP.l2d (p1.toInt64)) (FP.l2d (p2.toInt64))) (4611686018427387904 : UInt64)) (FP.l2d (p3.toInt64)))), .second, .unset, .unset, .unset, .unset, .unset] [(.int p4), (.double (4616189618054758400 : UInt64)), (.double (FP.dadd (FP.ddiv (FP.dadd (FP.l2d (p1.toInt64)) (FP.l2d (p2.toInt64))) (4611686018427387904 : UInt64)) (FP.l2d (p3.toInt64))))])) (fun _ k => XS.iloadN X0.here hx rfl (hb hby at_42) rfl  k) ?_
  refine own_go (B := s₁.setTop (mkF m 44 #[.val (.int p1), .val (.int p2), .val (.int p3), .val (.int p4), .val (.double (FP.l2d (p1.toInt64))), .second, .val (.double (FP.l2d (p2.toInt64))), .second, .val (.double (FP.ddiv (FP.dadd (FP.l2d (p1.toInt64)) (FP.l2d (p2.toInt64))) (4611686018427387904 : UInt64))), .second, .val (.double (FP.dadd (FP.ddiv (FP.dadd (FP.l2d (p1.toInt64)) (FP.l2d (p2.toInt64))) (4611686018427387904 : UInt64)) (FP.dmul (4613937818241073152 : UInt64) (FP.l2d (p3.toInt64))))), .second, .val (.double (FP.dadd (FP.ddiv (FP.dadd (FP.l2d (p1.toInt64)) (FP.l2d (p2.toInt64))) (4611686018427387904 : UInt64)) (FP.l2d (p3.toInt64)))), .second, .unset, .unset, .unset, .unset, .unset] [(.double (FP.l2d (p4.toInt64))), (.double (4616189618054758400 : UInt64)), (.double (FP.dadd (FP.ddiv (FP.dadd (FP.l2d (p1.toInt64)) (FP.l2d (p2.toInt64))) (4611686018427387904 : UInt64)) (FP.l2d (p3.toInt64))))])) (fun _ k => XS.i2dS X0.here hx rfl (hb hby at_43) rfl (i2d_w _) k) ?_
  refine own_go (B := s₁.setTop (mkF m 45 #[.val (.int p1), .val (.int p2), .val (.int p3), .val (.int p4), .val (.double (FP.l2d (p1.toInt64))), .second, .val (.double (FP.l2d (p2.toInt64))), .second, .val (.double (FP.ddiv (FP.dadd (FP.l2d (p1.toInt64)) (FP.l2d (p2.toInt64))) (4611686018427387904 : UInt64))), .second, .val (.double (FP.dadd (FP.ddiv (FP.dadd (FP.l2d (p1.toInt64)) (FP.l2d (p2.toInt64))) (4611686018427387904 : UInt64)) (FP.dmul (4613937818241073152 : UInt64) (FP.l2d (p3.toInt64))))), .second, .val (.double (FP.dadd (FP.ddiv (FP.dadd (FP.l2d (p1.toInt64)) (FP.l2d (p2.toInt64))) (4611686018427387904 : UInt64)) (FP.l2d (p3.toInt64)))), .second, .unset, .unset, .unset, .unset, .unset] [(.double (FP.dmul (4616189618054758400 : UInt64) (FP.l2d (p4.toInt64)))), (.double (FP.dadd (FP.ddiv (FP.dadd (FP.l2d (p1.toInt64)) (FP.l2d (p2.toInt64))) (4611686018427387904 : UInt64)) (FP.l2d (p3.toInt64))))])) (fun _ k => XS.dmulS X0.here hx rfl (hb hby at_44) rfl H44.nn rfl k) ?_
  refine own_go (B := s₁.setTop (mkF m 46 #[.val (.int p1), .val (.int p2), .val (.int p3), .val (.int p4), .val (.double (FP.l2d (p1.toInt64))), .second, .val (.double (FP.l2d (p2.toInt64))), .second, .val (.double (FP.ddiv (FP.dadd (FP.l2d (p1.toInt64)) (FP.l2d (p2.toInt64))) (4611686018427387904 : UInt64))), .second, .val (.double (FP.dadd (FP.ddiv (FP.dadd (FP.l2d (p1.toInt64)) (FP.l2d (p2.toInt64))) (4611686018427387904 : UInt64)) (FP.dmul (4613937818241073152 : UInt64) (FP.l2d (p3.toInt64))))), .second, .val (.double (FP.dadd (FP.ddiv (FP.dadd (FP.l2d (p1.toInt64)) (FP.l2d (p2.toInt64))) (4611686018427387904 : UInt64)) (FP.l2d (p3.toInt64)))), .second, .unset, .unset, .unset, .unset, .unset] [(.double (FP.dadd (FP.dadd (FP.ddiv (FP.dadd (FP.l2d (p1.toInt64)) (FP.l2d (p2.toInt64))) (4611686018427387904 : UInt64)) (FP.l2d (p3.toInt64))) (FP.dmul (4616189618054758400 : UInt64) (FP.l2d (p4.toInt64)))))])) (fun _ k => XS.daddS X0.here hx rfl (hb hby at_45) rfl H45.nn rfl k) ?_
  refine own_go (B := s₁.setTop (mkF m 48 #[.val (.int p1), .val (.int p2), .val (.int p3), .val (.int p4), .val (.double (FP.l2d (p1.toInt64))), .second, .val (.double (FP.l2d (p2.toInt64))), .second, .val (.double (FP.ddiv (FP.dadd (FP.l2d (p1.toInt64)) (FP.l2d (p2.toInt64))) (4611686018427387904 : UInt64))), .second, .val (.double (FP.dadd (FP.ddiv (FP.dadd (FP.l2d (p1.toInt64)) (FP.l2d (p2.toInt64))) (4611686018427387904 : UInt64)) (FP.dmul (4613937818241073152 : UInt64) (FP.l2d (p3.toInt64))))), .second, .val (.double (FP.dadd (FP.ddiv (FP.dadd (FP.l2d (p1.toInt64)) (FP.l2d (p2.toInt64))) (4611686018427387904 : UInt64)) (FP.l2d (p3.toInt64)))), .second, .val (.double (FP.dadd (FP.dadd (FP.ddiv (FP.dadd (FP.l2d (p1.toInt64)) (FP.l2d (p2.toInt64))) (4611686018427387904 : UInt64)) (FP.l2d (p3.toInt64))) (FP.dmul (4616189618054758400 : UInt64) (FP.l2d (p4.toInt64))))), .second, .unset, .unset, .unset] [])) (fun _ k => XS.dstore X0.here hx rfl (hb hby at_46) rfl (l' := #[.val (.int p1), .val (.int p2), .val (.int p3), .val (.int p4), .val (.double (FP.l2d (p1.toInt64))), .second, .val (.double (FP.l2d (p2.toInt64))), .second, .val (.double (FP.ddiv (FP.dadd (FP.l2d (p1.toInt64)) (FP.l2d (p2.toInt64))) (4611686018427387904 : UInt64))), .second, .val (.double (FP.dadd (FP.ddiv (FP.dadd (FP.l2d (p1.toInt64)) (FP.l2d (p2.toInt64))) (4611686018427387904 : UInt64)) (FP.dmul (4613937818241073152 : UInt64) (FP.l2d (p3.toInt64))))), .second, .val (.double (FP.dadd (FP.ddiv (FP.dadd (FP.l2d (p1.toInt64)) (FP.l2d (p2.toInt64))) (4611686018427387904 : UInt64)) (FP.l2d (p3.toInt64)))), .second, .val (.double (FP.dadd (FP.dadd (FP.ddiv (FP.dadd (FP.l2d (p1.toInt64)) (FP.l2d (p2.toInt64))) (4611686018427387904 : UInt64)) (FP.l2d (p3.toInt64))) (FP.dmul (4616189618054758400 : UInt64) (FP.l2d (p4.toInt64))))), .second, .unset, .unset, .unset]) rfl k) ?_
  refine own_go (B := s₁.setTop (mkF m 50 #[.val (.int p1), .val (.int p2), .val (.int p3), .val (.int p4), .val (.double (FP.l2d (p1.toInt64))), .second, .val (.double (FP.l2d (p2.toInt64))), .second, .val (.double (FP.ddiv (FP.dadd (FP.l2d (p1.toInt64)) (FP.l2d (p2.toInt64))) (4611686018427387904 : UInt64))), .second, .val (.double (FP.dadd (FP.ddiv (FP.dadd (FP.l2d (p1.toInt64)) (FP.l2d (p2.toInt64))) (4611686018427387904 : UInt64)) (FP.dmul (4613937818241073152 : UInt64) (FP.l2d (p3.toInt64))))), .second, .val (.double (FP.dadd (FP.ddiv (FP.dadd (FP.l2d (p1.toInt64)) (FP.l2d (p2.toInt64))) (4611686018427387904 : UInt64)) (FP.l2d (p3.toInt64)))), .second, .val (.double (FP.dadd (FP.dadd (FP.ddiv (FP.dadd (FP.l2d (p1.toInt64)) (FP.l2d (p2.toInt64))) (4611686018427387904 : UInt64)) (FP.l2d (p3.toInt64))) (FP.dmul (4616189618054758400 : UInt64) (FP.l2d (p4.toInt64))))), .second, .unset, .unset, .unset] [(.double (FP.dadd (FP.ddiv (FP.dadd (FP.l2d (p1.toInt64)) (FP.l2d (p2.toInt64))) (4611686018427387904 : UInt64)) (FP.l2d (p3.toInt64))))])) (fun _ k => XS.dload X0.here hx rfl (hb hby at_48) rfl  k) ?_
  refine own_go (B := s₁.setTop (mkF m 51 #[.val (.int p1), .val (.int p2), .val (.int p3), .val (.int p4), .val (.double (FP.l2d (p1.toInt64))), .second, .val (.double (FP.l2d (p2.toInt64))), .second, .val (.double (FP.ddiv (FP.dadd (FP.l2d (p1.toInt64)) (FP.l2d (p2.toInt64))) (4611686018427387904 : UInt64))), .second, .val (.double (FP.dadd (FP.ddiv (FP.dadd (FP.l2d (p1.toInt64)) (FP.l2d (p2.toInt64))) (4611686018427387904 : UInt64)) (FP.dmul (4613937818241073152 : UInt64) (FP.l2d (p3.toInt64))))), .second, .val (.double (FP.dadd (FP.ddiv (FP.dadd (FP.l2d (p1.toInt64)) (FP.l2d (p2.toInt64))) (4611686018427387904 : UInt64)) (FP.l2d (p3.toInt64)))), .second, .val (.double (FP.dadd (FP.dadd (FP.ddiv (FP.dadd (FP.l2d (p1.toInt64)) (FP.l2d (p2.toInt64))) (4611686018427387904 : UInt64)) (FP.l2d (p3.toInt64))) (FP.dmul (4616189618054758400 : UInt64) (FP.l2d (p4.toInt64))))), .second, .unset, .unset, .unset] [(.int p4), (.double (FP.dadd (FP.ddiv (FP.dadd (FP.l2d (p1.toInt64)) (FP.l2d (p2.toInt64))) (4611686018427387904 : UInt64)) (FP.l2d (p3.toInt64))))])) (fun _ k => XS.iloadN X0.here hx rfl (hb hby at_50) rfl  k) ?_
  refine own_go (B := s₁.setTop (mkF m 52 #[.val (.int p1), .val (.int p2), .val (.int p3), .val (.int p4), .val (.double (FP.l2d (p1.toInt64))), .second, .val (.double (FP.l2d (p2.toInt64))), .second, .val (.double (FP.ddiv (FP.dadd (FP.l2d (p1.toInt64)) (FP.l2d (p2.toInt64))) (4611686018427387904 : UInt64))), .second, .val (.double (FP.dadd (FP.ddiv (FP.dadd (FP.l2d (p1.toInt64)) (FP.l2d (p2.toInt64))) (4611686018427387904 : UInt64)) (FP.dmul (4613937818241073152 : UInt64) (FP.l2d (p3.toInt64))))), .second, .val (.double (FP.dadd (FP.ddiv (FP.dadd (FP.l2d (p1.toInt64)) (FP.l2d (p2.toInt64))) (4611686018427387904 : UInt64)) (FP.l2d (p3.toInt64)))), .second, .val (.double (FP.dadd (FP.dadd (FP.ddiv (FP.dadd (FP.l2d (p1.toInt64)) (FP.l2d (p2.toInt64))) (4611686018427387904 : UInt64)) (FP.l2d (p3.toInt64))) (FP.dmul (4616189618054758400 : UInt64) (FP.l2d (p4.toInt64))))), .second, .unset, .unset, .unset] [(.double (FP.l2d (p4.toInt64))), (.double (FP.dadd (FP.ddiv (FP.dadd (FP.l2d (p1.toInt64)) (FP.l2d (p2.toInt64))) (4611686018427387904 : UInt64)) (FP.l2d (p3.toInt64))))])) (fun _ k => XS.i2dS X0.here hx rfl (hb hby at_51) rfl (i2d_w _) k) ?_
  refine own_go (B := s₁.setTop (mkF m 53 #[.val (.int p1), .val (.int p2), .val (.int p3), .val (.int p4), .val (.double (FP.l2d (p1.toInt64))), .second, .val (.double (FP.l2d (p2.toInt64))), .second, .val (.double (FP.ddiv (FP.dadd (FP.l2d (p1.toInt64)) (FP.l2d (p2.toInt64))) (4611686018427387904 : UInt64))), .second, .val (.double (FP.dadd (FP.ddiv (FP.dadd (FP.l2d (p1.toInt64)) (FP.l2d (p2.toInt64))) (4611686018427387904 : UInt64)) (FP.dmul (4613937818241073152 : UInt64) (FP.l2d (p3.toInt64))))), .second, .val (.double (FP.dadd (FP.ddiv (FP.dadd (FP.l2d (p1.toInt64)) (FP.l2d (p2.toInt64))) (4611686018427387904 : UInt64)) (FP.l2d (p3.toInt64)))), .second, .val (.double (FP.dadd (FP.dadd (FP.ddiv (FP.dadd (FP.l2d (p1.toInt64)) (FP.l2d (p2.toInt64))) (4611686018427387904 : UInt64)) (FP.l2d (p3.toInt64))) (FP.dmul (4616189618054758400 : UInt64) (FP.l2d (p4.toInt64))))), .second, .unset, .unset, .unset] [(.double (FP.dadd (FP.dadd (FP.ddiv (FP.dadd (FP.l2d (p1.toInt64)) (FP.l2d (p2.toInt64))) (4611686018427387904 : UInt64)) (FP.l2d (p3.toInt64))) (FP.l2d (p4.toInt64))))])) (fun _ k => XS.daddS X0.here hx rfl (hb hby at_52) rfl H53.nn rfl k) ?_
  refine own_go (B := s₁.setTop (mkF m 55 #[.val (.int p1), .val (.int p2), .val (.int p3), .val (.int p4), .val (.double (FP.l2d (p1.toInt64))), .second, .val (.double (FP.l2d (p2.toInt64))), .second, .val (.double (FP.ddiv (FP.dadd (FP.l2d (p1.toInt64)) (FP.l2d (p2.toInt64))) (4611686018427387904 : UInt64))), .second, .val (.double (FP.dadd (FP.ddiv (FP.dadd (FP.l2d (p1.toInt64)) (FP.l2d (p2.toInt64))) (4611686018427387904 : UInt64)) (FP.dmul (4613937818241073152 : UInt64) (FP.l2d (p3.toInt64))))), .second, .val (.double (FP.dadd (FP.ddiv (FP.dadd (FP.l2d (p1.toInt64)) (FP.l2d (p2.toInt64))) (4611686018427387904 : UInt64)) (FP.l2d (p3.toInt64)))), .second, .val (.double (FP.dadd (FP.dadd (FP.ddiv (FP.dadd (FP.l2d (p1.toInt64)) (FP.l2d (p2.toInt64))) (4611686018427387904 : UInt64)) (FP.l2d (p3.toInt64))) (FP.dmul (4616189618054758400 : UInt64) (FP.l2d (p4.toInt64))))), .second, .val (.double (FP.dadd (FP.dadd (FP.ddiv (FP.dadd (FP.l2d (p1.toInt64)) (FP.l2d (p2.toInt64))) (4611686018427387904 : UInt64)) (FP.l2d (p3.toInt64))) (FP.l2d (p4.toInt64)))), .second, .unset] [])) (fun _ k => XS.dstore X0.here hx rfl (hb hby at_53) rfl (l' := #[.val (.int p1), .val (.int p2), .val (.int p3), .val (.int p4), .val (.double (FP.l2d (p1.toInt64))), .second, .val (.double (FP.l2d (p2.toInt64))), .second, .val (.double (FP.ddiv (FP.dadd (FP.l2d (p1.toInt64)) (FP.l2d (p2.toInt64))) (4611686018427387904 : UInt64))), .second, .val (.double (FP.dadd (FP.ddiv (FP.dadd (FP.l2d (p1.toInt64)) (FP.l2d (p2.toInt64))) (4611686018427387904 : UInt64)) (FP.dmul (4613937818241073152 : UInt64) (FP.l2d (p3.toInt64))))), .second, .val (.double (FP.dadd (FP.ddiv (FP.dadd (FP.l2d (p1.toInt64)) (FP.l2d (p2.toInt64))) (4611686018427387904 : UInt64)) (FP.l2d (p3.toInt64)))), .second, .val (.double (FP.dadd (FP.dadd (FP.ddiv (FP.dadd (FP.l2d (p1.toInt64)) (FP.l2d (p2.toInt64))) (4611686018427387904 : UInt64)) (FP.l2d (p3.toInt64))) (FP.dmul (4616189618054758400 : UInt64) (FP.l2d (p4.toInt64))))), .second, .val (.double (FP.dadd (FP.dadd (FP.ddiv (FP.dadd (FP.l2d (p1.toInt64)) (FP.l2d (p2.toInt64))) (4611686018427387904 : UInt64)) (FP.l2d (p3.toInt64))) (FP.l2d (p4.toInt64)))), .second, .unset]) rfl k) ?_
  obtain ⟨T1, h1, X1, e1, E1, A1, D1, -, st1⟩ := newO X0 hx hZ hown (own_w hw 3 rfl) (own_w hw 4 rfl) (own_w hw 5 rfl) e0 (g := (mkF m 55 #[.val (.int p1), .val (.int p2), .val (.int p3), .val (.int p4), .val (.double (FP.l2d (p1.toInt64))), .second, .val (.double (FP.l2d (p2.toInt64))), .second, .val (.double (FP.ddiv (FP.dadd (FP.l2d (p1.toInt64)) (FP.l2d (p2.toInt64))) (4611686018427387904 : UInt64))), .second, .val (.double (FP.dadd (FP.ddiv (FP.dadd (FP.l2d (p1.toInt64)) (FP.l2d (p2.toInt64))) (4611686018427387904 : UInt64)) (FP.dmul (4613937818241073152 : UInt64) (FP.l2d (p3.toInt64))))), .second, .val (.double (FP.dadd (FP.ddiv (FP.dadd (FP.l2d (p1.toInt64)) (FP.l2d (p2.toInt64))) (4611686018427387904 : UInt64)) (FP.l2d (p3.toInt64)))), .second, .val (.double (FP.dadd (FP.dadd (FP.ddiv (FP.dadd (FP.l2d (p1.toInt64)) (FP.l2d (p2.toInt64))) (4611686018427387904 : UInt64)) (FP.l2d (p3.toInt64))) (FP.dmul (4616189618054758400 : UInt64) (FP.l2d (p4.toInt64))))), .second, .val (.double (FP.dadd (FP.dadd (FP.ddiv (FP.dadd (FP.l2d (p1.toInt64)) (FP.l2d (p2.toInt64))) (4611686018427387904 : UInt64)) (FP.l2d (p3.toInt64))) (FP.l2d (p4.toInt64)))), .second, .unset] [])) rfl (hb hby at_55) (by decide) (by decide)
  obtain ⟨b1, g1⟩ : ∃ z, z = h0.size := ⟨_, rfl⟩
  rw [← g1] at A1 D1 st1
  have sz_b1 : h0.size ≤ b1 := Nat.le_trans K0.1 (Nat.le_of_eq g1.symm)
  have g_b1 : n0 ≤ b1 := Nat.le_trans Z0 sz_b1
  have F_mean_b1 : Fld Z h1 b1 "com/example/kin_bloom/kinbloom/eval/Sample" "mean" "D" (.double (0 : UInt64)) := D1 (Or.inl (own_w hw 18 rfl)) (ty := .double) (by decide)
  have F_count_b1 : Fld Z h1 b1 "com/example/kin_bloom/kinbloom/eval/Sample" "count" "J" (.long (0 : Int64)) := D1 (Or.inl (own_w hw 25 rfl)) (ty := .long) (by decide)
  have F_squaredDeviations_b1 : Fld Z h1 b1 "com/example/kin_bloom/kinbloom/eval/Sample" "squaredDeviations" "D" (.double (0 : UInt64)) := D1 (Or.inl (own_w hw 27 rfl)) (ty := .double) (by decide)
  have K3 : Keep h0 h1 [] := K0.ext E1
  refine own_go (B := T1.setTop (mkF m 58 #[.val (.int p1), .val (.int p2), .val (.int p3), .val (.int p4), .val (.double (FP.l2d (p1.toInt64))), .second, .val (.double (FP.l2d (p2.toInt64))), .second, .val (.double (FP.ddiv (FP.dadd (FP.l2d (p1.toInt64)) (FP.l2d (p2.toInt64))) (4611686018427387904 : UInt64))), .second, .val (.double (FP.dadd (FP.ddiv (FP.dadd (FP.l2d (p1.toInt64)) (FP.l2d (p2.toInt64))) (4611686018427387904 : UInt64)) (FP.dmul (4613937818241073152 : UInt64) (FP.l2d (p3.toInt64))))), .second, .val (.double (FP.dadd (FP.ddiv (FP.dadd (FP.l2d (p1.toInt64)) (FP.l2d (p2.toInt64))) (4611686018427387904 : UInt64)) (FP.l2d (p3.toInt64)))), .second, .val (.double (FP.dadd (FP.dadd (FP.ddiv (FP.dadd (FP.l2d (p1.toInt64)) (FP.l2d (p2.toInt64))) (4611686018427387904 : UInt64)) (FP.l2d (p3.toInt64))) (FP.dmul (4616189618054758400 : UInt64) (FP.l2d (p4.toInt64))))), .second, .val (.double (FP.dadd (FP.dadd (FP.ddiv (FP.dadd (FP.l2d (p1.toInt64)) (FP.l2d (p2.toInt64))) (4611686018427387904 : UInt64)) (FP.l2d (p3.toInt64))) (FP.l2d (p4.toInt64)))), .second, .unset] [(.ref b1)])) st1 ?_
  refine own_go (B := T1.setTop (mkF m 59 #[.val (.int p1), .val (.int p2), .val (.int p3), .val (.int p4), .val (.double (FP.l2d (p1.toInt64))), .second, .val (.double (FP.l2d (p2.toInt64))), .second, .val (.double (FP.ddiv (FP.dadd (FP.l2d (p1.toInt64)) (FP.l2d (p2.toInt64))) (4611686018427387904 : UInt64))), .second, .val (.double (FP.dadd (FP.ddiv (FP.dadd (FP.l2d (p1.toInt64)) (FP.l2d (p2.toInt64))) (4611686018427387904 : UInt64)) (FP.dmul (4613937818241073152 : UInt64) (FP.l2d (p3.toInt64))))), .second, .val (.double (FP.dadd (FP.ddiv (FP.dadd (FP.l2d (p1.toInt64)) (FP.l2d (p2.toInt64))) (4611686018427387904 : UInt64)) (FP.l2d (p3.toInt64)))), .second, .val (.double (FP.dadd (FP.dadd (FP.ddiv (FP.dadd (FP.l2d (p1.toInt64)) (FP.l2d (p2.toInt64))) (4611686018427387904 : UInt64)) (FP.l2d (p3.toInt64))) (FP.dmul (4616189618054758400 : UInt64) (FP.l2d (p4.toInt64))))), .second, .val (.double (FP.dadd (FP.dadd (FP.ddiv (FP.dadd (FP.l2d (p1.toInt64)) (FP.l2d (p2.toInt64))) (4611686018427387904 : UInt64)) (FP.l2d (p3.toInt64))) (FP.l2d (p4.toInt64)))), .second, .unset] [(.ref b1), (.ref b1)])) (fun _ k => XS.dup X1.here hx rfl (hb hby at_58) rfl rfl k) ?_
  obtain ⟨_, _, ⟨T4, L4, k4, n4⟩, -, X4, ⟨Lc4, hQ4, l4, y4, z4⟩, st4⟩ := X1.specialBack hx (y := (⟨"com/example/kin_bloom/kinbloom/eval/Sample", "<init>", "()V"⟩ : MethodName)) rfl hown (mvT hZ (own_w hw 6 rfl)) (mvT hZ (own_w hw 7 rfl)) (mvT hZ (own_w hw 8 rfl)) (by decide) (backOf (W := 1) (own_rm1 l Z a0 hw [] b1 h1 n0 (Nat.le_trans Z0 K3.1) ) hZ (own_w hw 8 rfl) (own_w hw 5 rfl) (by decide) (by decide)) (g := (mkF m 59 #[.val (.int p1), .val (.int p2), .val (.int p3), .val (.int p4), .val (.double (FP.l2d (p1.toInt64))), .second, .val (.double (FP.l2d (p2.toInt64))), .second, .val (.double (FP.ddiv (FP.dadd (FP.l2d (p1.toInt64)) (FP.l2d (p2.toInt64))) (4611686018427387904 : UInt64))), .second, .val (.double (FP.dadd (FP.ddiv (FP.dadd (FP.l2d (p1.toInt64)) (FP.l2d (p2.toInt64))) (4611686018427387904 : UInt64)) (FP.dmul (4613937818241073152 : UInt64) (FP.l2d (p3.toInt64))))), .second, .val (.double (FP.dadd (FP.ddiv (FP.dadd (FP.l2d (p1.toInt64)) (FP.l2d (p2.toInt64))) (4611686018427387904 : UInt64)) (FP.l2d (p3.toInt64)))), .second, .val (.double (FP.dadd (FP.dadd (FP.ddiv (FP.dadd (FP.l2d (p1.toInt64)) (FP.l2d (p2.toInt64))) (4611686018427387904 : UInt64)) (FP.l2d (p3.toInt64))) (FP.dmul (4616189618054758400 : UInt64) (FP.l2d (p4.toInt64))))), .second, .val (.double (FP.dadd (FP.dadd (FP.ddiv (FP.dadd (FP.l2d (p1.toInt64)) (FP.l2d (p2.toInt64))) (4611686018427387904 : UInt64)) (FP.l2d (p3.toInt64))) (FP.l2d (p4.toInt64)))), .second, .unset] [(.ref b1), (.ref b1)])) rfl (by rw [hml]; rfl) (Steps.refl _) (a := b1) (argsL := []) (rest := [(.ref b1)]) (lenOf own_pd0 rfl) rfl (by show 2 * 0 + _ ≤ _; exact Nat.le_of_eq rfl) (hb hby at_59) (fun _ _ => ⟨rfl, e1, (by decide : 1 + 0 ≤ _), (by decide : 3 + 0 ≤ _)⟩)
  dsimp only [Pt.U, Pt.locs, Pt.cells, Pt.slots] at X4 l4 y4 z4 st4 hQ4
  subst l4 y4 z4
  obtain ⟨rfl, N4q, e4⟩ := hQ4
  have N4 := Fr.app N0 N4q
  refine own_go (B := T4.setTop (mkF m 62 #[.val (.int p1), .val (.int p2), .val (.int p3), .val (.int p4), .val (.double (FP.l2d (p1.toInt64))), .second, .val (.double (FP.l2d (p2.toInt64))), .second, .val (.double (FP.ddiv (FP.dadd (FP.l2d (p1.toInt64)) (FP.l2d (p2.toInt64))) (4611686018427387904 : UInt64))), .second, .val (.double (FP.dadd (FP.ddiv (FP.dadd (FP.l2d (p1.toInt64)) (FP.l2d (p2.toInt64))) (4611686018427387904 : UInt64)) (FP.dmul (4613937818241073152 : UInt64) (FP.l2d (p3.toInt64))))), .second, .val (.double (FP.dadd (FP.ddiv (FP.dadd (FP.l2d (p1.toInt64)) (FP.l2d (p2.toInt64))) (4611686018427387904 : UInt64)) (FP.l2d (p3.toInt64)))), .second, .val (.double (FP.dadd (FP.dadd (FP.ddiv (FP.dadd (FP.l2d (p1.toInt64)) (FP.l2d (p2.toInt64))) (4611686018427387904 : UInt64)) (FP.l2d (p3.toInt64))) (FP.dmul (4616189618054758400 : UInt64) (FP.l2d (p4.toInt64))))), .second, .val (.double (FP.dadd (FP.dadd (FP.ddiv (FP.dadd (FP.l2d (p1.toInt64)) (FP.l2d (p2.toInt64))) (4611686018427387904 : UInt64)) (FP.l2d (p3.toInt64))) (FP.l2d (p4.toInt64)))), .second, .unset] [(.ref b1)])) (fun _ k => st4.trans k) ?_
  refine own_go (B := T4.setTop (mkF m 64 #[.val (.int p1), .val (.int p2), .val (.int p3), .val (.int p4), .val (.double (FP.l2d (p1.toInt64))), .second, .val (.double (FP.l2d (p2.toInt64))), .second, .val (.double (FP.ddiv (FP.dadd (FP.l2d (p1.toInt64)) (FP.l2d (p2.toInt64))) (4611686018427387904 : UInt64))), .second, .val (.double (FP.dadd (FP.ddiv (FP.dadd (FP.l2d (p1.toInt64)) (FP.l2d (p2.toInt64))) (4611686018427387904 : UInt64)) (FP.dmul (4613937818241073152 : UInt64) (FP.l2d (p3.toInt64))))), .second, .val (.double (FP.dadd (FP.ddiv (FP.dadd (FP.l2d (p1.toInt64)) (FP.l2d (p2.toInt64))) (4611686018427387904 : UInt64)) (FP.l2d (p3.toInt64)))), .second, .val (.double (FP.dadd (FP.dadd (FP.ddiv (FP.dadd (FP.l2d (p1.toInt64)) (FP.l2d (p2.toInt64))) (4611686018427387904 : UInt64)) (FP.l2d (p3.toInt64))) (FP.dmul (4616189618054758400 : UInt64) (FP.l2d (p4.toInt64))))), .second, .val (.double (FP.dadd (FP.dadd (FP.ddiv (FP.dadd (FP.l2d (p1.toInt64)) (FP.l2d (p2.toInt64))) (4611686018427387904 : UInt64)) (FP.l2d (p3.toInt64))) (FP.l2d (p4.toInt64)))), .second, .val (.ref b1)] [])) (fun _ k => XS.astore X4.here hx rfl (hb hby at_62) rfl rfl (l' := #[.val (.int p1), .val (.int p2), .val (.int p3), .val (.int p4), .val (.double (FP.l2d (p1.toInt64))), .second, .val (.double (FP.l2d (p2.toInt64))), .second, .val (.double (FP.ddiv (FP.dadd (FP.l2d (p1.toInt64)) (FP.l2d (p2.toInt64))) (4611686018427387904 : UInt64))), .second, .val (.double (FP.dadd (FP.ddiv (FP.dadd (FP.l2d (p1.toInt64)) (FP.l2d (p2.toInt64))) (4611686018427387904 : UInt64)) (FP.dmul (4613937818241073152 : UInt64) (FP.l2d (p3.toInt64))))), .second, .val (.double (FP.dadd (FP.ddiv (FP.dadd (FP.l2d (p1.toInt64)) (FP.l2d (p2.toInt64))) (4611686018427387904 : UInt64)) (FP.l2d (p3.toInt64)))), .second, .val (.double (FP.dadd (FP.dadd (FP.ddiv (FP.dadd (FP.l2d (p1.toInt64)) (FP.l2d (p2.toInt64))) (4611686018427387904 : UInt64)) (FP.l2d (p3.toInt64))) (FP.dmul (4616189618054758400 : UInt64) (FP.l2d (p4.toInt64))))), .second, .val (.double (FP.dadd (FP.dadd (FP.ddiv (FP.dadd (FP.l2d (p1.toInt64)) (FP.l2d (p2.toInt64))) (4611686018427387904 : UInt64)) (FP.l2d (p3.toInt64))) (FP.l2d (p4.toInt64)))), .second, .val (.ref b1)]) rfl k) ?_
  refine own_go (B := T4.setTop (mkF m 66 #[.val (.int p1), .val (.int p2), .val (.int p3), .val (.int p4), .val (.double (FP.l2d (p1.toInt64))), .second, .val (.double (FP.l2d (p2.toInt64))), .second, .val (.double (FP.ddiv (FP.dadd (FP.l2d (p1.toInt64)) (FP.l2d (p2.toInt64))) (4611686018427387904 : UInt64))), .second, .val (.double (FP.dadd (FP.ddiv (FP.dadd (FP.l2d (p1.toInt64)) (FP.l2d (p2.toInt64))) (4611686018427387904 : UInt64)) (FP.dmul (4613937818241073152 : UInt64) (FP.l2d (p3.toInt64))))), .second, .val (.double (FP.dadd (FP.ddiv (FP.dadd (FP.l2d (p1.toInt64)) (FP.l2d (p2.toInt64))) (4611686018427387904 : UInt64)) (FP.l2d (p3.toInt64)))), .second, .val (.double (FP.dadd (FP.dadd (FP.ddiv (FP.dadd (FP.l2d (p1.toInt64)) (FP.l2d (p2.toInt64))) (4611686018427387904 : UInt64)) (FP.l2d (p3.toInt64))) (FP.dmul (4616189618054758400 : UInt64) (FP.l2d (p4.toInt64))))), .second, .val (.double (FP.dadd (FP.dadd (FP.ddiv (FP.dadd (FP.l2d (p1.toInt64)) (FP.l2d (p2.toInt64))) (4611686018427387904 : UInt64)) (FP.l2d (p3.toInt64))) (FP.l2d (p4.toInt64)))), .second, .val (.ref b1)] [(.ref b1)])) (fun _ k => XS.aload X4.here hx rfl (hb hby at_64) rfl rfl k) ?_
  obtain ⟨cq5, kq5, q5a, q5b, q5c⟩ := isOf hZ e4 A1
  obtain ⟨_, _, ⟨T5, L5, k5, n5⟩, -, X5, ⟨Lc5, hQ5, l5, y5, z5⟩, st5⟩ := X4.virtualBack hx (y := (⟨"com/example/kin_bloom/kinbloom/eval/Sample", "mean", "()D"⟩ : MethodName)) (z := (⟨"com/example/kin_bloom/kinbloom/eval/Sample", "mean", "()D"⟩ : MethodName)) hown (mvT hZ (own_w hw 12 rfl)) (mvT hZ (own_w hw 13 rfl)) (notFace_of_selects (args := #[]) (mvT hZ (own_w hw 15 rfl))) (mvT hZ (own_w hw 15 rfl)) (mvT hZ (own_w hw 14 rfl)) (by decide) (backOf (W := 0) (own_rm3 l Z a0 hw [] b1 (0 : UInt64) h1 n0 (Nat.le_trans Z0 K3.1) F_mean_b1) hZ (own_w hw 16 rfl) (own_w hw 5 rfl) (by decide) (by decide)) q5a q5c (g := (mkF m 66 #[.val (.int p1), .val (.int p2), .val (.int p3), .val (.int p4), .val (.double (FP.l2d (p1.toInt64))), .second, .val (.double (FP.l2d (p2.toInt64))), .second, .val (.double (FP.ddiv (FP.dadd (FP.l2d (p1.toInt64)) (FP.l2d (p2.toInt64))) (4611686018427387904 : UInt64))), .second, .val (.double (FP.dadd (FP.ddiv (FP.dadd (FP.l2d (p1.toInt64)) (FP.l2d (p2.toInt64))) (4611686018427387904 : UInt64)) (FP.dmul (4613937818241073152 : UInt64) (FP.l2d (p3.toInt64))))), .second, .val (.double (FP.dadd (FP.ddiv (FP.dadd (FP.l2d (p1.toInt64)) (FP.l2d (p2.toInt64))) (4611686018427387904 : UInt64)) (FP.l2d (p3.toInt64)))), .second, .val (.double (FP.dadd (FP.dadd (FP.ddiv (FP.dadd (FP.l2d (p1.toInt64)) (FP.l2d (p2.toInt64))) (4611686018427387904 : UInt64)) (FP.l2d (p3.toInt64))) (FP.dmul (4616189618054758400 : UInt64) (FP.l2d (p4.toInt64))))), .second, .val (.double (FP.dadd (FP.dadd (FP.ddiv (FP.dadd (FP.l2d (p1.toInt64)) (FP.l2d (p2.toInt64))) (4611686018427387904 : UInt64)) (FP.l2d (p3.toInt64))) (FP.l2d (p4.toInt64)))), .second, .val (.ref b1)] [(.ref b1)])) rfl (by rw [hml]; rfl) (Steps.refl _) (argsL := []) (rest := []) (lenOf own_pd1 rfl) rfl (by show 2 * 0 + _ ≤ _; exact Nat.le_of_eq rfl) (hb hby at_66) (fun _ _ => ⟨rfl, e4, (by decide : 1 + 0 ≤ _), (by decide : 3 + 0 ≤ _)⟩)
  dsimp only [Pt.U, Pt.locs, Pt.cells, Pt.slots] at X5 l5 y5 z5 st5 hQ5
  subst l5 y5 z5
  obtain ⟨rfl, N5q, e5⟩ := hQ5
  have N5 := Fr.app N4 N5q
  refine own_go (B := T5.setTop (mkF m 69 #[.val (.int p1), .val (.int p2), .val (.int p3), .val (.int p4), .val (.double (FP.l2d (p1.toInt64))), .second, .val (.double (FP.l2d (p2.toInt64))), .second, .val (.double (FP.ddiv (FP.dadd (FP.l2d (p1.toInt64)) (FP.l2d (p2.toInt64))) (4611686018427387904 : UInt64))), .second, .val (.double (FP.dadd (FP.ddiv (FP.dadd (FP.l2d (p1.toInt64)) (FP.l2d (p2.toInt64))) (4611686018427387904 : UInt64)) (FP.dmul (4613937818241073152 : UInt64) (FP.l2d (p3.toInt64))))), .second, .val (.double (FP.dadd (FP.ddiv (FP.dadd (FP.l2d (p1.toInt64)) (FP.l2d (p2.toInt64))) (4611686018427387904 : UInt64)) (FP.l2d (p3.toInt64)))), .second, .val (.double (FP.dadd (FP.dadd (FP.ddiv (FP.dadd (FP.l2d (p1.toInt64)) (FP.l2d (p2.toInt64))) (4611686018427387904 : UInt64)) (FP.l2d (p3.toInt64))) (FP.dmul (4616189618054758400 : UInt64) (FP.l2d (p4.toInt64))))), .second, .val (.double (FP.dadd (FP.dadd (FP.ddiv (FP.dadd (FP.l2d (p1.toInt64)) (FP.l2d (p2.toInt64))) (4611686018427387904 : UInt64)) (FP.l2d (p3.toInt64))) (FP.l2d (p4.toInt64)))), .second, .val (.ref b1)] [(.double (0 : UInt64))])) (fun _ k => st5.trans k) ?_
  refine own_go (B := T5.setTop (mkF m 70 #[.val (.int p1), .val (.int p2), .val (.int p3), .val (.int p4), .val (.double (FP.l2d (p1.toInt64))), .second, .val (.double (FP.l2d (p2.toInt64))), .second, .val (.double (FP.ddiv (FP.dadd (FP.l2d (p1.toInt64)) (FP.l2d (p2.toInt64))) (4611686018427387904 : UInt64))), .second, .val (.double (FP.dadd (FP.ddiv (FP.dadd (FP.l2d (p1.toInt64)) (FP.l2d (p2.toInt64))) (4611686018427387904 : UInt64)) (FP.dmul (4613937818241073152 : UInt64) (FP.l2d (p3.toInt64))))), .second, .val (.double (FP.dadd (FP.ddiv (FP.dadd (FP.l2d (p1.toInt64)) (FP.l2d (p2.toInt64))) (4611686018427387904 : UInt64)) (FP.l2d (p3.toInt64)))), .second, .val (.double (FP.dadd (FP.dadd (FP.ddiv (FP.dadd (FP.l2d (p1.toInt64)) (FP.l2d (p2.toInt64))) (4611686018427387904 : UInt64)) (FP.l2d (p3.toInt64))) (FP.dmul (4616189618054758400 : UInt64) (FP.l2d (p4.toInt64))))), .second, .val (.double (FP.dadd (FP.dadd (FP.ddiv (FP.dadd (FP.l2d (p1.toInt64)) (FP.l2d (p2.toInt64))) (4611686018427387904 : UInt64)) (FP.l2d (p3.toInt64))) (FP.l2d (p4.toInt64)))), .second, .val (.ref b1)] [(.double (0 : UInt64)), (.double (0 : UInt64))])) (fun _ k => XS.dconst0 X5.here hx rfl (hb hby at_69) rfl k) ?_
  refine own_go (B := T5.setTop (mkF m 71 #[.val (.int p1), .val (.int p2), .val (.int p3), .val (.int p4), .val (.double (FP.l2d (p1.toInt64))), .second, .val (.double (FP.l2d (p2.toInt64))), .second, .val (.double (FP.ddiv (FP.dadd (FP.l2d (p1.toInt64)) (FP.l2d (p2.toInt64))) (4611686018427387904 : UInt64))), .second, .val (.double (FP.dadd (FP.ddiv (FP.dadd (FP.l2d (p1.toInt64)) (FP.l2d (p2.toInt64))) (4611686018427387904 : UInt64)) (FP.dmul (4613937818241073152 : UInt64) (FP.l2d (p3.toInt64))))), .second, .val (.double (FP.dadd (FP.ddiv (FP.dadd (FP.l2d (p1.toInt64)) (FP.l2d (p2.toInt64))) (4611686018427387904 : UInt64)) (FP.l2d (p3.toInt64)))), .second, .val (.double (FP.dadd (FP.dadd (FP.ddiv (FP.dadd (FP.l2d (p1.toInt64)) (FP.l2d (p2.toInt64))) (4611686018427387904 : UInt64)) (FP.l2d (p3.toInt64))) (FP.dmul (4616189618054758400 : UInt64) (FP.l2d (p4.toInt64))))), .second, .val (.double (FP.dadd (FP.dadd (FP.ddiv (FP.dadd (FP.l2d (p1.toInt64)) (FP.l2d (p2.toInt64))) (4611686018427387904 : UInt64)) (FP.l2d (p3.toInt64))) (FP.l2d (p4.toInt64)))), .second, .val (.ref b1)] [(.int (0 : Int32))])) (fun _ k => XS.dcmpS X5.here hx rfl (hb hby at_70) rfl (own_H0.cmp own_H0 _) k) ?_
  have hc6 : (0 : Int32) = (0 : Int32) := by decide
  refine own_go (B := T5.setTop (mkF m 76 #[.val (.int p1), .val (.int p2), .val (.int p3), .val (.int p4), .val (.double (FP.l2d (p1.toInt64))), .second, .val (.double (FP.l2d (p2.toInt64))), .second, .val (.double (FP.ddiv (FP.dadd (FP.l2d (p1.toInt64)) (FP.l2d (p2.toInt64))) (4611686018427387904 : UInt64))), .second, .val (.double (FP.dadd (FP.ddiv (FP.dadd (FP.l2d (p1.toInt64)) (FP.l2d (p2.toInt64))) (4611686018427387904 : UInt64)) (FP.dmul (4613937818241073152 : UInt64) (FP.l2d (p3.toInt64))))), .second, .val (.double (FP.dadd (FP.ddiv (FP.dadd (FP.l2d (p1.toInt64)) (FP.l2d (p2.toInt64))) (4611686018427387904 : UInt64)) (FP.l2d (p3.toInt64)))), .second, .val (.double (FP.dadd (FP.dadd (FP.ddiv (FP.dadd (FP.l2d (p1.toInt64)) (FP.l2d (p2.toInt64))) (4611686018427387904 : UInt64)) (FP.l2d (p3.toInt64))) (FP.dmul (4616189618054758400 : UInt64) (FP.l2d (p4.toInt64))))), .second, .val (.double (FP.dadd (FP.dadd (FP.ddiv (FP.dadd (FP.l2d (p1.toInt64)) (FP.l2d (p2.toInt64))) (4611686018427387904 : UInt64)) (FP.l2d (p3.toInt64))) (FP.l2d (p4.toInt64)))), .second, .val (.ref b1)] [])) (fun _ k => XS.ifYes X5.here hx rfl (pc0 := 71) (pc' := 76) rfl (hb hby at_71) rfl ((if0 _ _).trans (teq hc6).1) (by decide) (by decide) k) ?_
  refine own_go (B := T5.setTop (mkF m 78 #[.val (.int p1), .val (.int p2), .val (.int p3), .val (.int p4), .val (.double (FP.l2d (p1.toInt64))), .second, .val (.double (FP.l2d (p2.toInt64))), .second, .val (.double (FP.ddiv (FP.dadd (FP.l2d (p1.toInt64)) (FP.l2d (p2.toInt64))) (4611686018427387904 : UInt64))), .second, .val (.double (FP.dadd (FP.ddiv (FP.dadd (FP.l2d (p1.toInt64)) (FP.l2d (p2.toInt64))) (4611686018427387904 : UInt64)) (FP.dmul (4613937818241073152 : UInt64) (FP.l2d (p3.toInt64))))), .second, .val (.double (FP.dadd (FP.ddiv (FP.dadd (FP.l2d (p1.toInt64)) (FP.l2d (p2.toInt64))) (4611686018427387904 : UInt64)) (FP.l2d (p3.toInt64)))), .second, .val (.double (FP.dadd (FP.dadd (FP.ddiv (FP.dadd (FP.l2d (p1.toInt64)) (FP.l2d (p2.toInt64))) (4611686018427387904 : UInt64)) (FP.l2d (p3.toInt64))) (FP.dmul (4616189618054758400 : UInt64) (FP.l2d (p4.toInt64))))), .second, .val (.double (FP.dadd (FP.dadd (FP.ddiv (FP.dadd (FP.l2d (p1.toInt64)) (FP.l2d (p2.toInt64))) (4611686018427387904 : UInt64)) (FP.l2d (p3.toInt64))) (FP.l2d (p4.toInt64)))), .second, .val (.ref b1)] [(.ref b1)])) (fun _ k => XS.aload X5.here hx rfl (hb hby at_76) rfl rfl k) ?_
  refine own_go (B := T5.setTop (mkF m 80 #[.val (.int p1), .val (.int p2), .val (.int p3), .val (.int p4), .val (.double (FP.l2d (p1.toInt64))), .second, .val (.double (FP.l2d (p2.toInt64))), .second, .val (.double (FP.ddiv (FP.dadd (FP.l2d (p1.toInt64)) (FP.l2d (p2.toInt64))) (4611686018427387904 : UInt64))), .second, .val (.double (FP.dadd (FP.ddiv (FP.dadd (FP.l2d (p1.toInt64)) (FP.l2d (p2.toInt64))) (4611686018427387904 : UInt64)) (FP.dmul (4613937818241073152 : UInt64) (FP.l2d (p3.toInt64))))), .second, .val (.double (FP.dadd (FP.ddiv (FP.dadd (FP.l2d (p1.toInt64)) (FP.l2d (p2.toInt64))) (4611686018427387904 : UInt64)) (FP.l2d (p3.toInt64)))), .second, .val (.double (FP.dadd (FP.dadd (FP.ddiv (FP.dadd (FP.l2d (p1.toInt64)) (FP.l2d (p2.toInt64))) (4611686018427387904 : UInt64)) (FP.l2d (p3.toInt64))) (FP.dmul (4616189618054758400 : UInt64) (FP.l2d (p4.toInt64))))), .second, .val (.double (FP.dadd (FP.dadd (FP.ddiv (FP.dadd (FP.l2d (p1.toInt64)) (FP.l2d (p2.toInt64))) (4611686018427387904 : UInt64)) (FP.l2d (p3.toInt64))) (FP.l2d (p4.toInt64)))), .second, .val (.ref b1)] [(.double (FP.l2d (p1.toInt64))), (.ref b1)])) (fun _ k => XS.dload X5.here hx rfl (hb hby at_78) rfl  k) ?_
  have Rx0 : own_H (2 * p1.toInt) (FP.l2d (p1.toInt64)) := Ha
  have Rm0 : own_H (0) (0 : UInt64) := own_H0
  have Rb0 : own_bd (2 * p1.toInt) (0) (2 * p1.toInt) := ⟨(by omega), (by omega), (by omega)⟩
  have Rz0 : (2 * p1.toInt) - (0) = (2 * p1.toInt) * 1 := (by omega)
  have Ry0 : Jvm.Free.Fl.Mag64 1128 (0 : UInt64) := own_y0
  obtain ⟨cq7, kq7, q7a, q7b, q7c⟩ := isOf hZ e5 A1
  obtain ⟨_, _, ⟨T7, L7, k7, n7⟩, -, X7, ⟨Lc7, hQ7, l7, y7, z7⟩, st7⟩ := X5.virtualBack hx (y := (⟨"com/example/kin_bloom/kinbloom/eval/Sample", "add", "(D)V"⟩ : MethodName)) (z := (⟨"com/example/kin_bloom/kinbloom/eval/Sample", "add", "(D)V"⟩ : MethodName)) hown (mvT hZ (own_w hw 19 rfl)) (mvT hZ (own_w hw 20 rfl)) (notFace_of_selects (args := #[]) (mvT hZ (own_w hw 22 rfl))) (mvT hZ (own_w hw 22 rfl)) (mvT hZ (own_w hw 21 rfl)) (by decide) (backOf (W := 0) (own_add0 l Z a0 hw [] b1 (FP.l2d (p1.toInt64)) (0 : UInt64) (0 : UInt64) (2 * p1.toInt) (0) (2 * p1.toInt) h1 n0 (Nat.le_trans Z0 K3.1) A1 F_count_b1 F_mean_b1 F_squaredDeviations_b1 g_b1 Rx0 Rm0 Rb0 Rz0 Ry0) hZ (own_w hw 23 rfl) (own_w hw 5 rfl) (by decide) (by decide)) q7a q7c (g := (mkF m 80 #[.val (.int p1), .val (.int p2), .val (.int p3), .val (.int p4), .val (.double (FP.l2d (p1.toInt64))), .second, .val (.double (FP.l2d (p2.toInt64))), .second, .val (.double (FP.ddiv (FP.dadd (FP.l2d (p1.toInt64)) (FP.l2d (p2.toInt64))) (4611686018427387904 : UInt64))), .second, .val (.double (FP.dadd (FP.ddiv (FP.dadd (FP.l2d (p1.toInt64)) (FP.l2d (p2.toInt64))) (4611686018427387904 : UInt64)) (FP.dmul (4613937818241073152 : UInt64) (FP.l2d (p3.toInt64))))), .second, .val (.double (FP.dadd (FP.ddiv (FP.dadd (FP.l2d (p1.toInt64)) (FP.l2d (p2.toInt64))) (4611686018427387904 : UInt64)) (FP.l2d (p3.toInt64)))), .second, .val (.double (FP.dadd (FP.dadd (FP.ddiv (FP.dadd (FP.l2d (p1.toInt64)) (FP.l2d (p2.toInt64))) (4611686018427387904 : UInt64)) (FP.l2d (p3.toInt64))) (FP.dmul (4616189618054758400 : UInt64) (FP.l2d (p4.toInt64))))), .second, .val (.double (FP.dadd (FP.dadd (FP.ddiv (FP.dadd (FP.l2d (p1.toInt64)) (FP.l2d (p2.toInt64))) (4611686018427387904 : UInt64)) (FP.l2d (p3.toInt64))) (FP.l2d (p4.toInt64)))), .second, .val (.ref b1)] [(.double (FP.l2d (p1.toInt64))), (.ref b1)])) rfl (by rw [hml]; rfl) (Steps.refl _) (argsL := [(.double (FP.l2d (p1.toInt64)))]) (rest := []) (lenOf own_pd2 rfl) rfl (by show 2 * 0 + _ ≤ _; exact Nat.le_of_eq rfl) (hb hby at_80) (fun _ _ => ⟨rfl, e5, (by decide : 1 + 0 ≤ _), (by decide : 3 + 0 ≤ _)⟩)
  dsimp only [Pt.U, Pt.locs, Pt.cells, Pt.slots] at X7 l7 y7 z7 st7 hQ7
  subst l7 y7 z7
  obtain ⟨mm_7, yy_7, rfl, N7q, K7q, Q7_0, Q7_1, Q7_2, Q7_3, x7_0, x7_1⟩ := hQ7
  have N7 := Fr.app N5 N7q
  have K13 : Keep h0 T7.heap [] := K3.trans K7q (allS (Or.inr sz_b1) all0)
  refine own_go (B := T7.setTop (mkF m 83 #[.val (.int p1), .val (.int p2), .val (.int p3), .val (.int p4), .val (.double (FP.l2d (p1.toInt64))), .second, .val (.double (FP.l2d (p2.toInt64))), .second, .val (.double (FP.ddiv (FP.dadd (FP.l2d (p1.toInt64)) (FP.l2d (p2.toInt64))) (4611686018427387904 : UInt64))), .second, .val (.double (FP.dadd (FP.ddiv (FP.dadd (FP.l2d (p1.toInt64)) (FP.l2d (p2.toInt64))) (4611686018427387904 : UInt64)) (FP.dmul (4613937818241073152 : UInt64) (FP.l2d (p3.toInt64))))), .second, .val (.double (FP.dadd (FP.ddiv (FP.dadd (FP.l2d (p1.toInt64)) (FP.l2d (p2.toInt64))) (4611686018427387904 : UInt64)) (FP.l2d (p3.toInt64)))), .second, .val (.double (FP.dadd (FP.dadd (FP.ddiv (FP.dadd (FP.l2d (p1.toInt64)) (FP.l2d (p2.toInt64))) (4611686018427387904 : UInt64)) (FP.l2d (p3.toInt64))) (FP.dmul (4616189618054758400 : UInt64) (FP.l2d (p4.toInt64))))), .second, .val (.double (FP.dadd (FP.dadd (FP.ddiv (FP.dadd (FP.l2d (p1.toInt64)) (FP.l2d (p2.toInt64))) (4611686018427387904 : UInt64)) (FP.l2d (p3.toInt64))) (FP.l2d (p4.toInt64)))), .second, .val (.ref b1)] [])) (fun _ k => st7.trans k) ?_
  have HM1 : own_H (2 * p1.toInt) mm_7 := own_Hr x7_0 (by omega)
  have HY1 := x7_1
  refine own_go (B := T7.setTop (mkF m 85 #[.val (.int p1), .val (.int p2), .val (.int p3), .val (.int p4), .val (.double (FP.l2d (p1.toInt64))), .second, .val (.double (FP.l2d (p2.toInt64))), .second, .val (.double (FP.ddiv (FP.dadd (FP.l2d (p1.toInt64)) (FP.l2d (p2.toInt64))) (4611686018427387904 : UInt64))), .second, .val (.double (FP.dadd (FP.ddiv (FP.dadd (FP.l2d (p1.toInt64)) (FP.l2d (p2.toInt64))) (4611686018427387904 : UInt64)) (FP.dmul (4613937818241073152 : UInt64) (FP.l2d (p3.toInt64))))), .second, .val (.double (FP.dadd (FP.ddiv (FP.dadd (FP.l2d (p1.toInt64)) (FP.l2d (p2.toInt64))) (4611686018427387904 : UInt64)) (FP.l2d (p3.toInt64)))), .second, .val (.double (FP.dadd (FP.dadd (FP.ddiv (FP.dadd (FP.l2d (p1.toInt64)) (FP.l2d (p2.toInt64))) (4611686018427387904 : UInt64)) (FP.l2d (p3.toInt64))) (FP.dmul (4616189618054758400 : UInt64) (FP.l2d (p4.toInt64))))), .second, .val (.double (FP.dadd (FP.dadd (FP.ddiv (FP.dadd (FP.l2d (p1.toInt64)) (FP.l2d (p2.toInt64))) (4611686018427387904 : UInt64)) (FP.l2d (p3.toInt64))) (FP.l2d (p4.toInt64)))), .second, .val (.ref b1)] [(.ref b1)])) (fun _ k => XS.aload X7.here hx rfl (hb hby at_83) rfl rfl k) ?_
  obtain ⟨cq14, kq14, q14a, q14b, q14c⟩ := isOf hZ rfl Q7_0
  obtain ⟨_, _, ⟨T14, L14, k14, n14⟩, -, X14, ⟨Lc14, hQ14, l14, y14, z14⟩, st14⟩ := X7.virtualBack hx (y := (⟨"com/example/kin_bloom/kinbloom/eval/Sample", "mean", "()D"⟩ : MethodName)) (z := (⟨"com/example/kin_bloom/kinbloom/eval/Sample", "mean", "()D"⟩ : MethodName)) hown (mvT hZ (own_w hw 12 rfl)) (mvT hZ (own_w hw 13 rfl)) (notFace_of_selects (args := #[]) (mvT hZ (own_w hw 15 rfl))) (mvT hZ (own_w hw 15 rfl)) (mvT hZ (own_w hw 14 rfl)) (by decide) (backOf (W := 0) (own_rm3 l Z a0 hw [] b1 mm_7 T7.heap n0 (Nat.le_trans Z0 K13.1) Q7_2) hZ (own_w hw 16 rfl) (own_w hw 5 rfl) (by decide) (by decide)) q14a q14c (g := (mkF m 85 #[.val (.int p1), .val (.int p2), .val (.int p3), .val (.int p4), .val (.double (FP.l2d (p1.toInt64))), .second, .val (.double (FP.l2d (p2.toInt64))), .second, .val (.double (FP.ddiv (FP.dadd (FP.l2d (p1.toInt64)) (FP.l2d (p2.toInt64))) (4611686018427387904 : UInt64))), .second, .val (.double (FP.dadd (FP.ddiv (FP.dadd (FP.l2d (p1.toInt64)) (FP.l2d (p2.toInt64))) (4611686018427387904 : UInt64)) (FP.dmul (4613937818241073152 : UInt64) (FP.l2d (p3.toInt64))))), .second, .val (.double (FP.dadd (FP.ddiv (FP.dadd (FP.l2d (p1.toInt64)) (FP.l2d (p2.toInt64))) (4611686018427387904 : UInt64)) (FP.l2d (p3.toInt64)))), .second, .val (.double (FP.dadd (FP.dadd (FP.ddiv (FP.dadd (FP.l2d (p1.toInt64)) (FP.l2d (p2.toInt64))) (4611686018427387904 : UInt64)) (FP.l2d (p3.toInt64))) (FP.dmul (4616189618054758400 : UInt64) (FP.l2d (p4.toInt64))))), .second, .val (.double (FP.dadd (FP.dadd (FP.ddiv (FP.dadd (FP.l2d (p1.toInt64)) (FP.l2d (p2.toInt64))) (4611686018427387904 : UInt64)) (FP.l2d (p3.toInt64))) (FP.l2d (p4.toInt64)))), .second, .val (.ref b1)] [(.ref b1)])) rfl (by rw [hml]; rfl) (Steps.refl _) (argsL := []) (rest := []) (lenOf own_pd1 rfl) rfl (by show 2 * 0 + _ ≤ _; exact Nat.le_of_eq rfl) (hb hby at_85) (fun _ _ => ⟨rfl, rfl, (by decide : 1 + 0 ≤ _), (by decide : 3 + 0 ≤ _)⟩)
  dsimp only [Pt.U, Pt.locs, Pt.cells, Pt.slots] at X14 l14 y14 z14 st14 hQ14
  subst l14 y14 z14
  obtain ⟨rfl, N14q, e14⟩ := hQ14
  have N14 := Fr.app N7 N14q
  refine own_go (B := T14.setTop (mkF m 88 #[.val (.int p1), .val (.int p2), .val (.int p3), .val (.int p4), .val (.double (FP.l2d (p1.toInt64))), .second, .val (.double (FP.l2d (p2.toInt64))), .second, .val (.double (FP.ddiv (FP.dadd (FP.l2d (p1.toInt64)) (FP.l2d (p2.toInt64))) (4611686018427387904 : UInt64))), .second, .val (.double (FP.dadd (FP.ddiv (FP.dadd (FP.l2d (p1.toInt64)) (FP.l2d (p2.toInt64))) (4611686018427387904 : UInt64)) (FP.dmul (4613937818241073152 : UInt64) (FP.l2d (p3.toInt64))))), .second, .val (.double (FP.dadd (FP.ddiv (FP.dadd (FP.l2d (p1.toInt64)) (FP.l2d (p2.toInt64))) (4611686018427387904 : UInt64)) (FP.l2d (p3.toInt64)))), .second, .val (.double (FP.dadd (FP.dadd (FP.ddiv (FP.dadd (FP.l2d (p1.toInt64)) (FP.l2d (p2.toInt64))) (4611686018427387904 : UInt64)) (FP.l2d (p3.toInt64))) (FP.dmul (4616189618054758400 : UInt64) (FP.l2d (p4.toInt64))))), .second, .val (.double (FP.dadd (FP.dadd (FP.ddiv (FP.dadd (FP.l2d (p1.toInt64)) (FP.l2d (p2.toInt64))) (4611686018427387904 : UInt64)) (FP.l2d (p3.toInt64))) (FP.l2d (p4.toInt64)))), .second, .val (.ref b1)] [(.double mm_7)])) (fun _ k => st14.trans k) ?_
  refine own_go (B := T14.setTop (mkF m 90 #[.val (.int p1), .val (.int p2), .val (.int p3), .val (.int p4), .val (.double (FP.l2d (p1.toInt64))), .second, .val (.double (FP.l2d (p2.toInt64))), .second, .val (.double (FP.ddiv (FP.dadd (FP.l2d (p1.toInt64)) (FP.l2d (p2.toInt64))) (4611686018427387904 : UInt64))), .second, .val (.double (FP.dadd (FP.ddiv (FP.dadd (FP.l2d (p1.toInt64)) (FP.l2d (p2.toInt64))) (4611686018427387904 : UInt64)) (FP.dmul (4613937818241073152 : UInt64) (FP.l2d (p3.toInt64))))), .second, .val (.double (FP.dadd (FP.ddiv (FP.dadd (FP.l2d (p1.toInt64)) (FP.l2d (p2.toInt64))) (4611686018427387904 : UInt64)) (FP.l2d (p3.toInt64)))), .second, .val (.double (FP.dadd (FP.dadd (FP.ddiv (FP.dadd (FP.l2d (p1.toInt64)) (FP.l2d (p2.toInt64))) (4611686018427387904 : UInt64)) (FP.l2d (p3.toInt64))) (FP.dmul (4616189618054758400 : UInt64) (FP.l2d (p4.toInt64))))), .second, .val (.double (FP.dadd (FP.dadd (FP.ddiv (FP.dadd (FP.l2d (p1.toInt64)) (FP.l2d (p2.toInt64))) (4611686018427387904 : UInt64)) (FP.l2d (p3.toInt64))) (FP.l2d (p4.toInt64)))), .second, .val (.ref b1)] [(.double (FP.l2d (p1.toInt64))), (.double mm_7)])) (fun _ k => XS.dload X14.here hx rfl (hb hby at_88) rfl  k) ?_
  refine own_go (B := T14.setTop (mkF m 91 #[.val (.int p1), .val (.int p2), .val (.int p3), .val (.int p4), .val (.double (FP.l2d (p1.toInt64))), .second, .val (.double (FP.l2d (p2.toInt64))), .second, .val (.double (FP.ddiv (FP.dadd (FP.l2d (p1.toInt64)) (FP.l2d (p2.toInt64))) (4611686018427387904 : UInt64))), .second, .val (.double (FP.dadd (FP.ddiv (FP.dadd (FP.l2d (p1.toInt64)) (FP.l2d (p2.toInt64))) (4611686018427387904 : UInt64)) (FP.dmul (4613937818241073152 : UInt64) (FP.l2d (p3.toInt64))))), .second, .val (.double (FP.dadd (FP.ddiv (FP.dadd (FP.l2d (p1.toInt64)) (FP.l2d (p2.toInt64))) (4611686018427387904 : UInt64)) (FP.l2d (p3.toInt64)))), .second, .val (.double (FP.dadd (FP.dadd (FP.ddiv (FP.dadd (FP.l2d (p1.toInt64)) (FP.l2d (p2.toInt64))) (4611686018427387904 : UInt64)) (FP.l2d (p3.toInt64))) (FP.dmul (4616189618054758400 : UInt64) (FP.l2d (p4.toInt64))))), .second, .val (.double (FP.dadd (FP.dadd (FP.ddiv (FP.dadd (FP.l2d (p1.toInt64)) (FP.l2d (p2.toInt64))) (4611686018427387904 : UInt64)) (FP.l2d (p3.toInt64))) (FP.l2d (p4.toInt64)))), .second, .val (.ref b1)] [(.int (0 : Int32))])) (fun _ k => XS.dcmpS X14.here hx rfl (hb hby at_90) rfl (HM1.cmp Ha _) k) ?_
  have hc15 : (0 : Int32) = (0 : Int32) := by decide
  refine own_go (B := T14.setTop (mkF m 96 #[.val (.int p1), .val (.int p2), .val (.int p3), .val (.int p4), .val (.double (FP.l2d (p1.toInt64))), .second, .val (.double (FP.l2d (p2.toInt64))), .second, .val (.double (FP.ddiv (FP.dadd (FP.l2d (p1.toInt64)) (FP.l2d (p2.toInt64))) (4611686018427387904 : UInt64))), .second, .val (.double (FP.dadd (FP.ddiv (FP.dadd (FP.l2d (p1.toInt64)) (FP.l2d (p2.toInt64))) (4611686018427387904 : UInt64)) (FP.dmul (4613937818241073152 : UInt64) (FP.l2d (p3.toInt64))))), .second, .val (.double (FP.dadd (FP.ddiv (FP.dadd (FP.l2d (p1.toInt64)) (FP.l2d (p2.toInt64))) (4611686018427387904 : UInt64)) (FP.l2d (p3.toInt64)))), .second, .val (.double (FP.dadd (FP.dadd (FP.ddiv (FP.dadd (FP.l2d (p1.toInt64)) (FP.l2d (p2.toInt64))) (4611686018427387904 : UInt64)) (FP.l2d (p3.toInt64))) (FP.dmul (4616189618054758400 : UInt64) (FP.l2d (p4.toInt64))))), .second, .val (.double (FP.dadd (FP.dadd (FP.ddiv (FP.dadd (FP.l2d (p1.toInt64)) (FP.l2d (p2.toInt64))) (4611686018427387904 : UInt64)) (FP.l2d (p3.toInt64))) (FP.l2d (p4.toInt64)))), .second, .val (.ref b1)] [])) (fun _ k => XS.ifYes X14.here hx rfl (pc0 := 91) (pc' := 96) rfl (hb hby at_91) rfl ((if0 _ _).trans (teq hc15).1) (by decide) (by decide) k) ?_
  refine own_go (B := T14.setTop (mkF m 98 #[.val (.int p1), .val (.int p2), .val (.int p3), .val (.int p4), .val (.double (FP.l2d (p1.toInt64))), .second, .val (.double (FP.l2d (p2.toInt64))), .second, .val (.double (FP.ddiv (FP.dadd (FP.l2d (p1.toInt64)) (FP.l2d (p2.toInt64))) (4611686018427387904 : UInt64))), .second, .val (.double (FP.dadd (FP.ddiv (FP.dadd (FP.l2d (p1.toInt64)) (FP.l2d (p2.toInt64))) (4611686018427387904 : UInt64)) (FP.dmul (4613937818241073152 : UInt64) (FP.l2d (p3.toInt64))))), .second, .val (.double (FP.dadd (FP.ddiv (FP.dadd (FP.l2d (p1.toInt64)) (FP.l2d (p2.toInt64))) (4611686018427387904 : UInt64)) (FP.l2d (p3.toInt64)))), .second, .val (.double (FP.dadd (FP.dadd (FP.ddiv (FP.dadd (FP.l2d (p1.toInt64)) (FP.l2d (p2.toInt64))) (4611686018427387904 : UInt64)) (FP.l2d (p3.toInt64))) (FP.dmul (4616189618054758400 : UInt64) (FP.l2d (p4.toInt64))))), .second, .val (.double (FP.dadd (FP.dadd (FP.ddiv (FP.dadd (FP.l2d (p1.toInt64)) (FP.l2d (p2.toInt64))) (4611686018427387904 : UInt64)) (FP.l2d (p3.toInt64))) (FP.l2d (p4.toInt64)))), .second, .val (.ref b1)] [(.ref b1)])) (fun _ k => XS.aload X14.here hx rfl (hb hby at_96) rfl rfl k) ?_
  refine own_go (B := T14.setTop (mkF m 100 #[.val (.int p1), .val (.int p2), .val (.int p3), .val (.int p4), .val (.double (FP.l2d (p1.toInt64))), .second, .val (.double (FP.l2d (p2.toInt64))), .second, .val (.double (FP.ddiv (FP.dadd (FP.l2d (p1.toInt64)) (FP.l2d (p2.toInt64))) (4611686018427387904 : UInt64))), .second, .val (.double (FP.dadd (FP.ddiv (FP.dadd (FP.l2d (p1.toInt64)) (FP.l2d (p2.toInt64))) (4611686018427387904 : UInt64)) (FP.dmul (4613937818241073152 : UInt64) (FP.l2d (p3.toInt64))))), .second, .val (.double (FP.dadd (FP.ddiv (FP.dadd (FP.l2d (p1.toInt64)) (FP.l2d (p2.toInt64))) (4611686018427387904 : UInt64)) (FP.l2d (p3.toInt64)))), .second, .val (.double (FP.dadd (FP.dadd (FP.ddiv (FP.dadd (FP.l2d (p1.toInt64)) (FP.l2d (p2.toInt64))) (4611686018427387904 : UInt64)) (FP.l2d (p3.toInt64))) (FP.dmul (4616189618054758400 : UInt64) (FP.l2d (p4.toInt64))))), .second, .val (.double (FP.dadd (FP.dadd (FP.ddiv (FP.dadd (FP.l2d (p1.toInt64)) (FP.l2d (p2.toInt64))) (4611686018427387904 : UInt64)) (FP.l2d (p3.toInt64))) (FP.l2d (p4.toInt64)))), .second, .val (.ref b1)] [(.double (FP.l2d (p2.toInt64))), (.ref b1)])) (fun _ k => XS.dload X14.here hx rfl (hb hby at_98) rfl  k) ?_
  have Rx1 : own_H (2 * p2.toInt) (FP.l2d (p2.toInt64)) := Hb
  have Rm1 : own_H (2 * p1.toInt) mm_7 := HM1
  have Rb1 : own_bd (2 * p2.toInt) (2 * p1.toInt) (p2.toInt - p1.toInt) := ⟨(by omega), (by omega), (by omega)⟩
  have Rz1 : (2 * p2.toInt) - (2 * p1.toInt) = (p2.toInt - p1.toInt) * 2 := (by omega)
  have Ry1 : Jvm.Free.Fl.Mag64 1130 yy_7 := HY1
  obtain ⟨cq16, kq16, q16a, q16b, q16c⟩ := isOf hZ e14 Q7_0
  obtain ⟨_, _, ⟨T16, L16, k16, n16⟩, -, X16, ⟨Lc16, hQ16, l16, y16, z16⟩, st16⟩ := X14.virtualBack hx (y := (⟨"com/example/kin_bloom/kinbloom/eval/Sample", "add", "(D)V"⟩ : MethodName)) (z := (⟨"com/example/kin_bloom/kinbloom/eval/Sample", "add", "(D)V"⟩ : MethodName)) hown (mvT hZ (own_w hw 19 rfl)) (mvT hZ (own_w hw 20 rfl)) (notFace_of_selects (args := #[]) (mvT hZ (own_w hw 22 rfl))) (mvT hZ (own_w hw 22 rfl)) (mvT hZ (own_w hw 21 rfl)) (by decide) (backOf (W := 0) (own_add1 l Z a0 hw [] b1 (FP.l2d (p2.toInt64)) mm_7 yy_7 (2 * p2.toInt) (2 * p1.toInt) (p2.toInt - p1.toInt) T7.heap n0 (Nat.le_trans Z0 K13.1) Q7_0 Q7_1 Q7_2 Q7_3 g_b1 Rx1 Rm1 Rb1 Rz1 x7_1) hZ (own_w hw 23 rfl) (own_w hw 5 rfl) (by decide) (by decide)) q16a q16c (g := (mkF m 100 #[.val (.int p1), .val (.int p2), .val (.int p3), .val (.int p4), .val (.double (FP.l2d (p1.toInt64))), .second, .val (.double (FP.l2d (p2.toInt64))), .second, .val (.double (FP.ddiv (FP.dadd (FP.l2d (p1.toInt64)) (FP.l2d (p2.toInt64))) (4611686018427387904 : UInt64))), .second, .val (.double (FP.dadd (FP.ddiv (FP.dadd (FP.l2d (p1.toInt64)) (FP.l2d (p2.toInt64))) (4611686018427387904 : UInt64)) (FP.dmul (4613937818241073152 : UInt64) (FP.l2d (p3.toInt64))))), .second, .val (.double (FP.dadd (FP.ddiv (FP.dadd (FP.l2d (p1.toInt64)) (FP.l2d (p2.toInt64))) (4611686018427387904 : UInt64)) (FP.l2d (p3.toInt64)))), .second, .val (.double (FP.dadd (FP.dadd (FP.ddiv (FP.dadd (FP.l2d (p1.toInt64)) (FP.l2d (p2.toInt64))) (4611686018427387904 : UInt64)) (FP.l2d (p3.toInt64))) (FP.dmul (4616189618054758400 : UInt64) (FP.l2d (p4.toInt64))))), .second, .val (.double (FP.dadd (FP.dadd (FP.ddiv (FP.dadd (FP.l2d (p1.toInt64)) (FP.l2d (p2.toInt64))) (4611686018427387904 : UInt64)) (FP.l2d (p3.toInt64))) (FP.l2d (p4.toInt64)))), .second, .val (.ref b1)] [(.double (FP.l2d (p2.toInt64))), (.ref b1)])) rfl (by rw [hml]; rfl) (Steps.refl _) (argsL := [(.double (FP.l2d (p2.toInt64)))]) (rest := []) (lenOf own_pd2 rfl) rfl (by show 2 * 0 + _ ≤ _; exact Nat.le_of_eq rfl) (hb hby at_100) (fun _ _ => ⟨rfl, e14, (by decide : 1 + 0 ≤ _), (by decide : 3 + 0 ≤ _)⟩)
  dsimp only [Pt.U, Pt.locs, Pt.cells, Pt.slots] at X16 l16 y16 z16 st16 hQ16
  subst l16 y16 z16
  obtain ⟨mm_16, yy_16, rfl, N16q, K16q, Q16_0, Q16_1, Q16_2, Q16_3, x16_0, x16_1⟩ := hQ16
  have N16 := Fr.app N14 N16q
  have K22 : Keep h0 T16.heap [] := K13.trans K16q (allS (Or.inr sz_b1) all0)
  refine own_go (B := T16.setTop (mkF m 103 #[.val (.int p1), .val (.int p2), .val (.int p3), .val (.int p4), .val (.double (FP.l2d (p1.toInt64))), .second, .val (.double (FP.l2d (p2.toInt64))), .second, .val (.double (FP.ddiv (FP.dadd (FP.l2d (p1.toInt64)) (FP.l2d (p2.toInt64))) (4611686018427387904 : UInt64))), .second, .val (.double (FP.dadd (FP.ddiv (FP.dadd (FP.l2d (p1.toInt64)) (FP.l2d (p2.toInt64))) (4611686018427387904 : UInt64)) (FP.dmul (4613937818241073152 : UInt64) (FP.l2d (p3.toInt64))))), .second, .val (.double (FP.dadd (FP.ddiv (FP.dadd (FP.l2d (p1.toInt64)) (FP.l2d (p2.toInt64))) (4611686018427387904 : UInt64)) (FP.l2d (p3.toInt64)))), .second, .val (.double (FP.dadd (FP.dadd (FP.ddiv (FP.dadd (FP.l2d (p1.toInt64)) (FP.l2d (p2.toInt64))) (4611686018427387904 : UInt64)) (FP.l2d (p3.toInt64))) (FP.dmul (4616189618054758400 : UInt64) (FP.l2d (p4.toInt64))))), .second, .val (.double (FP.dadd (FP.dadd (FP.ddiv (FP.dadd (FP.l2d (p1.toInt64)) (FP.l2d (p2.toInt64))) (4611686018427387904 : UInt64)) (FP.l2d (p3.toInt64))) (FP.l2d (p4.toInt64)))), .second, .val (.ref b1)] [])) (fun _ k => st16.trans k) ?_
  have HM2 : own_H (p1.toInt + p2.toInt) mm_16 := own_Hr x16_0 (by omega)
  have HY2 := x16_1
  refine own_go (B := T16.setTop (mkF m 105 #[.val (.int p1), .val (.int p2), .val (.int p3), .val (.int p4), .val (.double (FP.l2d (p1.toInt64))), .second, .val (.double (FP.l2d (p2.toInt64))), .second, .val (.double (FP.ddiv (FP.dadd (FP.l2d (p1.toInt64)) (FP.l2d (p2.toInt64))) (4611686018427387904 : UInt64))), .second, .val (.double (FP.dadd (FP.ddiv (FP.dadd (FP.l2d (p1.toInt64)) (FP.l2d (p2.toInt64))) (4611686018427387904 : UInt64)) (FP.dmul (4613937818241073152 : UInt64) (FP.l2d (p3.toInt64))))), .second, .val (.double (FP.dadd (FP.ddiv (FP.dadd (FP.l2d (p1.toInt64)) (FP.l2d (p2.toInt64))) (4611686018427387904 : UInt64)) (FP.l2d (p3.toInt64)))), .second, .val (.double (FP.dadd (FP.dadd (FP.ddiv (FP.dadd (FP.l2d (p1.toInt64)) (FP.l2d (p2.toInt64))) (4611686018427387904 : UInt64)) (FP.l2d (p3.toInt64))) (FP.dmul (4616189618054758400 : UInt64) (FP.l2d (p4.toInt64))))), .second, .val (.double (FP.dadd (FP.dadd (FP.ddiv (FP.dadd (FP.l2d (p1.toInt64)) (FP.l2d (p2.toInt64))) (4611686018427387904 : UInt64)) (FP.l2d (p3.toInt64))) (FP.l2d (p4.toInt64)))), .second, .val (.ref b1)] [(.ref b1)])) (fun _ k => XS.aload X16.here hx rfl (hb hby at_103) rfl rfl k) ?_
  obtain ⟨cq23, kq23, q23a, q23b, q23c⟩ := isOf hZ rfl Q16_0
  obtain ⟨_, _, ⟨T23, L23, k23, n23⟩, -, X23, ⟨Lc23, hQ23, l23, y23, z23⟩, st23⟩ := X16.virtualBack hx (y := (⟨"com/example/kin_bloom/kinbloom/eval/Sample", "mean", "()D"⟩ : MethodName)) (z := (⟨"com/example/kin_bloom/kinbloom/eval/Sample", "mean", "()D"⟩ : MethodName)) hown (mvT hZ (own_w hw 12 rfl)) (mvT hZ (own_w hw 13 rfl)) (notFace_of_selects (args := #[]) (mvT hZ (own_w hw 15 rfl))) (mvT hZ (own_w hw 15 rfl)) (mvT hZ (own_w hw 14 rfl)) (by decide) (backOf (W := 0) (own_rm3 l Z a0 hw [] b1 mm_16 T16.heap n0 (Nat.le_trans Z0 K22.1) Q16_2) hZ (own_w hw 16 rfl) (own_w hw 5 rfl) (by decide) (by decide)) q23a q23c (g := (mkF m 105 #[.val (.int p1), .val (.int p2), .val (.int p3), .val (.int p4), .val (.double (FP.l2d (p1.toInt64))), .second, .val (.double (FP.l2d (p2.toInt64))), .second, .val (.double (FP.ddiv (FP.dadd (FP.l2d (p1.toInt64)) (FP.l2d (p2.toInt64))) (4611686018427387904 : UInt64))), .second, .val (.double (FP.dadd (FP.ddiv (FP.dadd (FP.l2d (p1.toInt64)) (FP.l2d (p2.toInt64))) (4611686018427387904 : UInt64)) (FP.dmul (4613937818241073152 : UInt64) (FP.l2d (p3.toInt64))))), .second, .val (.double (FP.dadd (FP.ddiv (FP.dadd (FP.l2d (p1.toInt64)) (FP.l2d (p2.toInt64))) (4611686018427387904 : UInt64)) (FP.l2d (p3.toInt64)))), .second, .val (.double (FP.dadd (FP.dadd (FP.ddiv (FP.dadd (FP.l2d (p1.toInt64)) (FP.l2d (p2.toInt64))) (4611686018427387904 : UInt64)) (FP.l2d (p3.toInt64))) (FP.dmul (4616189618054758400 : UInt64) (FP.l2d (p4.toInt64))))), .second, .val (.double (FP.dadd (FP.dadd (FP.ddiv (FP.dadd (FP.l2d (p1.toInt64)) (FP.l2d (p2.toInt64))) (4611686018427387904 : UInt64)) (FP.l2d (p3.toInt64))) (FP.l2d (p4.toInt64)))), .second, .val (.ref b1)] [(.ref b1)])) rfl (by rw [hml]; rfl) (Steps.refl _) (argsL := []) (rest := []) (lenOf own_pd1 rfl) rfl (by show 2 * 0 + _ ≤ _; exact Nat.le_of_eq rfl) (hb hby at_105) (fun _ _ => ⟨rfl, rfl, (by decide : 1 + 0 ≤ _), (by decide : 3 + 0 ≤ _)⟩)
  dsimp only [Pt.U, Pt.locs, Pt.cells, Pt.slots] at X23 l23 y23 z23 st23 hQ23
  subst l23 y23 z23
  obtain ⟨rfl, N23q, e23⟩ := hQ23
  have N23 := Fr.app N16 N23q
  refine own_go (B := T23.setTop (mkF m 108 #[.val (.int p1), .val (.int p2), .val (.int p3), .val (.int p4), .val (.double (FP.l2d (p1.toInt64))), .second, .val (.double (FP.l2d (p2.toInt64))), .second, .val (.double (FP.ddiv (FP.dadd (FP.l2d (p1.toInt64)) (FP.l2d (p2.toInt64))) (4611686018427387904 : UInt64))), .second, .val (.double (FP.dadd (FP.ddiv (FP.dadd (FP.l2d (p1.toInt64)) (FP.l2d (p2.toInt64))) (4611686018427387904 : UInt64)) (FP.dmul (4613937818241073152 : UInt64) (FP.l2d (p3.toInt64))))), .second, .val (.double (FP.dadd (FP.ddiv (FP.dadd (FP.l2d (p1.toInt64)) (FP.l2d (p2.toInt64))) (4611686018427387904 : UInt64)) (FP.l2d (p3.toInt64)))), .second, .val (.double (FP.dadd (FP.dadd (FP.ddiv (FP.dadd (FP.l2d (p1.toInt64)) (FP.l2d (p2.toInt64))) (4611686018427387904 : UInt64)) (FP.l2d (p3.toInt64))) (FP.dmul (4616189618054758400 : UInt64) (FP.l2d (p4.toInt64))))), .second, .val (.double (FP.dadd (FP.dadd (FP.ddiv (FP.dadd (FP.l2d (p1.toInt64)) (FP.l2d (p2.toInt64))) (4611686018427387904 : UInt64)) (FP.l2d (p3.toInt64))) (FP.l2d (p4.toInt64)))), .second, .val (.ref b1)] [(.double mm_16)])) (fun _ k => st23.trans k) ?_
  refine own_go (B := T23.setTop (mkF m 110 #[.val (.int p1), .val (.int p2), .val (.int p3), .val (.int p4), .val (.double (FP.l2d (p1.toInt64))), .second, .val (.double (FP.l2d (p2.toInt64))), .second, .val (.double (FP.ddiv (FP.dadd (FP.l2d (p1.toInt64)) (FP.l2d (p2.toInt64))) (4611686018427387904 : UInt64))), .second, .val (.double (FP.dadd (FP.ddiv (FP.dadd (FP.l2d (p1.toInt64)) (FP.l2d (p2.toInt64))) (4611686018427387904 : UInt64)) (FP.dmul (4613937818241073152 : UInt64) (FP.l2d (p3.toInt64))))), .second, .val (.double (FP.dadd (FP.ddiv (FP.dadd (FP.l2d (p1.toInt64)) (FP.l2d (p2.toInt64))) (4611686018427387904 : UInt64)) (FP.l2d (p3.toInt64)))), .second, .val (.double (FP.dadd (FP.dadd (FP.ddiv (FP.dadd (FP.l2d (p1.toInt64)) (FP.l2d (p2.toInt64))) (4611686018427387904 : UInt64)) (FP.l2d (p3.toInt64))) (FP.dmul (4616189618054758400 : UInt64) (FP.l2d (p4.toInt64))))), .second, .val (.double (FP.dadd (FP.dadd (FP.ddiv (FP.dadd (FP.l2d (p1.toInt64)) (FP.l2d (p2.toInt64))) (4611686018427387904 : UInt64)) (FP.l2d (p3.toInt64))) (FP.l2d (p4.toInt64)))), .second, .val (.ref b1)] [(.double (FP.ddiv (FP.dadd (FP.l2d (p1.toInt64)) (FP.l2d (p2.toInt64))) (4611686018427387904 : UInt64))), (.double mm_16)])) (fun _ k => XS.dload X23.here hx rfl (hb hby at_108) rfl  k) ?_
  refine own_go (B := T23.setTop (mkF m 111 #[.val (.int p1), .val (.int p2), .val (.int p3), .val (.int p4), .val (.double (FP.l2d (p1.toInt64))), .second, .val (.double (FP.l2d (p2.toInt64))), .second, .val (.double (FP.ddiv (FP.dadd (FP.l2d (p1.toInt64)) (FP.l2d (p2.toInt64))) (4611686018427387904 : UInt64))), .second, .val (.double (FP.dadd (FP.ddiv (FP.dadd (FP.l2d (p1.toInt64)) (FP.l2d (p2.toInt64))) (4611686018427387904 : UInt64)) (FP.dmul (4613937818241073152 : UInt64) (FP.l2d (p3.toInt64))))), .second, .val (.double (FP.dadd (FP.ddiv (FP.dadd (FP.l2d (p1.toInt64)) (FP.l2d (p2.toInt64))) (4611686018427387904 : UInt64)) (FP.l2d (p3.toInt64)))), .second, .val (.double (FP.dadd (FP.dadd (FP.ddiv (FP.dadd (FP.l2d (p1.toInt64)) (FP.l2d (p2.toInt64))) (4611686018427387904 : UInt64)) (FP.l2d (p3.toInt64))) (FP.dmul (4616189618054758400 : UInt64) (FP.l2d (p4.toInt64))))), .second, .val (.double (FP.dadd (FP.dadd (FP.ddiv (FP.dadd (FP.l2d (p1.toInt64)) (FP.l2d (p2.toInt64))) (4611686018427387904 : UInt64)) (FP.l2d (p3.toInt64))) (FP.l2d (p4.toInt64)))), .second, .val (.ref b1)] [(.int (0 : Int32))])) (fun _ k => XS.dcmpS X23.here hx rfl (hb hby at_110) rfl (HM2.cmp H16 _) k) ?_
  have hc24 : (0 : Int32) = (0 : Int32) := by decide
  refine own_go (B := T23.setTop (mkF m 116 #[.val (.int p1), .val (.int p2), .val (.int p3), .val (.int p4), .val (.double (FP.l2d (p1.toInt64))), .second, .val (.double (FP.l2d (p2.toInt64))), .second, .val (.double (FP.ddiv (FP.dadd (FP.l2d (p1.toInt64)) (FP.l2d (p2.toInt64))) (4611686018427387904 : UInt64))), .second, .val (.double (FP.dadd (FP.ddiv (FP.dadd (FP.l2d (p1.toInt64)) (FP.l2d (p2.toInt64))) (4611686018427387904 : UInt64)) (FP.dmul (4613937818241073152 : UInt64) (FP.l2d (p3.toInt64))))), .second, .val (.double (FP.dadd (FP.ddiv (FP.dadd (FP.l2d (p1.toInt64)) (FP.l2d (p2.toInt64))) (4611686018427387904 : UInt64)) (FP.l2d (p3.toInt64)))), .second, .val (.double (FP.dadd (FP.dadd (FP.ddiv (FP.dadd (FP.l2d (p1.toInt64)) (FP.l2d (p2.toInt64))) (4611686018427387904 : UInt64)) (FP.l2d (p3.toInt64))) (FP.dmul (4616189618054758400 : UInt64) (FP.l2d (p4.toInt64))))), .second, .val (.double (FP.dadd (FP.dadd (FP.ddiv (FP.dadd (FP.l2d (p1.toInt64)) (FP.l2d (p2.toInt64))) (4611686018427387904 : UInt64)) (FP.l2d (p3.toInt64))) (FP.l2d (p4.toInt64)))), .second, .val (.ref b1)] [])) (fun _ k => XS.ifYes X23.here hx rfl (pc0 := 111) (pc' := 116) rfl (hb hby at_111) rfl ((if0 _ _).trans (teq hc24).1) (by decide) (by decide) k) ?_
  refine own_go (B := T23.setTop (mkF m 118 #[.val (.int p1), .val (.int p2), .val (.int p3), .val (.int p4), .val (.double (FP.l2d (p1.toInt64))), .second, .val (.double (FP.l2d (p2.toInt64))), .second, .val (.double (FP.ddiv (FP.dadd (FP.l2d (p1.toInt64)) (FP.l2d (p2.toInt64))) (4611686018427387904 : UInt64))), .second, .val (.double (FP.dadd (FP.ddiv (FP.dadd (FP.l2d (p1.toInt64)) (FP.l2d (p2.toInt64))) (4611686018427387904 : UInt64)) (FP.dmul (4613937818241073152 : UInt64) (FP.l2d (p3.toInt64))))), .second, .val (.double (FP.dadd (FP.ddiv (FP.dadd (FP.l2d (p1.toInt64)) (FP.l2d (p2.toInt64))) (4611686018427387904 : UInt64)) (FP.l2d (p3.toInt64)))), .second, .val (.double (FP.dadd (FP.dadd (FP.ddiv (FP.dadd (FP.l2d (p1.toInt64)) (FP.l2d (p2.toInt64))) (4611686018427387904 : UInt64)) (FP.l2d (p3.toInt64))) (FP.dmul (4616189618054758400 : UInt64) (FP.l2d (p4.toInt64))))), .second, .val (.double (FP.dadd (FP.dadd (FP.ddiv (FP.dadd (FP.l2d (p1.toInt64)) (FP.l2d (p2.toInt64))) (4611686018427387904 : UInt64)) (FP.l2d (p3.toInt64))) (FP.l2d (p4.toInt64)))), .second, .val (.ref b1)] [(.ref b1)])) (fun _ k => XS.aload X23.here hx rfl (hb hby at_116) rfl rfl k) ?_
  refine own_go (B := T23.setTop (mkF m 120 #[.val (.int p1), .val (.int p2), .val (.int p3), .val (.int p4), .val (.double (FP.l2d (p1.toInt64))), .second, .val (.double (FP.l2d (p2.toInt64))), .second, .val (.double (FP.ddiv (FP.dadd (FP.l2d (p1.toInt64)) (FP.l2d (p2.toInt64))) (4611686018427387904 : UInt64))), .second, .val (.double (FP.dadd (FP.ddiv (FP.dadd (FP.l2d (p1.toInt64)) (FP.l2d (p2.toInt64))) (4611686018427387904 : UInt64)) (FP.dmul (4613937818241073152 : UInt64) (FP.l2d (p3.toInt64))))), .second, .val (.double (FP.dadd (FP.ddiv (FP.dadd (FP.l2d (p1.toInt64)) (FP.l2d (p2.toInt64))) (4611686018427387904 : UInt64)) (FP.l2d (p3.toInt64)))), .second, .val (.double (FP.dadd (FP.dadd (FP.ddiv (FP.dadd (FP.l2d (p1.toInt64)) (FP.l2d (p2.toInt64))) (4611686018427387904 : UInt64)) (FP.l2d (p3.toInt64))) (FP.dmul (4616189618054758400 : UInt64) (FP.l2d (p4.toInt64))))), .second, .val (.double (FP.dadd (FP.dadd (FP.ddiv (FP.dadd (FP.l2d (p1.toInt64)) (FP.l2d (p2.toInt64))) (4611686018427387904 : UInt64)) (FP.l2d (p3.toInt64))) (FP.l2d (p4.toInt64)))), .second, .val (.ref b1)] [(.double (FP.dadd (FP.ddiv (FP.dadd (FP.l2d (p1.toInt64)) (FP.l2d (p2.toInt64))) (4611686018427387904 : UInt64)) (FP.dmul (4613937818241073152 : UInt64) (FP.l2d (p3.toInt64))))), (.ref b1)])) (fun _ k => XS.dload X23.here hx rfl (hb hby at_118) rfl  k) ?_
  have Rx2 : own_H (p1.toInt + p2.toInt + 6 * p3.toInt) (FP.dadd (FP.ddiv (FP.dadd (FP.l2d (p1.toInt64)) (FP.l2d (p2.toInt64))) (4611686018427387904 : UInt64)) (FP.dmul (4613937818241073152 : UInt64) (FP.l2d (p3.toInt64)))) := H27
  have Rm2 : own_H (p1.toInt + p2.toInt) mm_16 := HM2
  have Rb2 : own_bd (p1.toInt + p2.toInt + 6 * p3.toInt) (p1.toInt + p2.toInt) (2 * p3.toInt) := ⟨(by omega), (by omega), (by omega)⟩
  have Rz2 : (p1.toInt + p2.toInt + 6 * p3.toInt) - (p1.toInt + p2.toInt) = (2 * p3.toInt) * 3 := (by omega)
  have Ry2 : Jvm.Free.Fl.Mag64 1132 yy_16 := HY2
  obtain ⟨cq25, kq25, q25a, q25b, q25c⟩ := isOf hZ e23 Q16_0
  obtain ⟨_, _, ⟨T25, L25, k25, n25⟩, -, X25, ⟨Lc25, hQ25, l25, y25, z25⟩, st25⟩ := X23.virtualBack hx (y := (⟨"com/example/kin_bloom/kinbloom/eval/Sample", "add", "(D)V"⟩ : MethodName)) (z := (⟨"com/example/kin_bloom/kinbloom/eval/Sample", "add", "(D)V"⟩ : MethodName)) hown (mvT hZ (own_w hw 19 rfl)) (mvT hZ (own_w hw 20 rfl)) (notFace_of_selects (args := #[]) (mvT hZ (own_w hw 22 rfl))) (mvT hZ (own_w hw 22 rfl)) (mvT hZ (own_w hw 21 rfl)) (by decide) (backOf (W := 0) (own_add2 l Z a0 hw [] b1 (FP.dadd (FP.ddiv (FP.dadd (FP.l2d (p1.toInt64)) (FP.l2d (p2.toInt64))) (4611686018427387904 : UInt64)) (FP.dmul (4613937818241073152 : UInt64) (FP.l2d (p3.toInt64)))) mm_16 yy_16 (p1.toInt + p2.toInt + 6 * p3.toInt) (p1.toInt + p2.toInt) (2 * p3.toInt) T16.heap n0 (Nat.le_trans Z0 K22.1) Q16_0 Q16_1 Q16_2 Q16_3 g_b1 Rx2 Rm2 Rb2 Rz2 x16_1) hZ (own_w hw 23 rfl) (own_w hw 5 rfl) (by decide) (by decide)) q25a q25c (g := (mkF m 120 #[.val (.int p1), .val (.int p2), .val (.int p3), .val (.int p4), .val (.double (FP.l2d (p1.toInt64))), .second, .val (.double (FP.l2d (p2.toInt64))), .second, .val (.double (FP.ddiv (FP.dadd (FP.l2d (p1.toInt64)) (FP.l2d (p2.toInt64))) (4611686018427387904 : UInt64))), .second, .val (.double (FP.dadd (FP.ddiv (FP.dadd (FP.l2d (p1.toInt64)) (FP.l2d (p2.toInt64))) (4611686018427387904 : UInt64)) (FP.dmul (4613937818241073152 : UInt64) (FP.l2d (p3.toInt64))))), .second, .val (.double (FP.dadd (FP.ddiv (FP.dadd (FP.l2d (p1.toInt64)) (FP.l2d (p2.toInt64))) (4611686018427387904 : UInt64)) (FP.l2d (p3.toInt64)))), .second, .val (.double (FP.dadd (FP.dadd (FP.ddiv (FP.dadd (FP.l2d (p1.toInt64)) (FP.l2d (p2.toInt64))) (4611686018427387904 : UInt64)) (FP.l2d (p3.toInt64))) (FP.dmul (4616189618054758400 : UInt64) (FP.l2d (p4.toInt64))))), .second, .val (.double (FP.dadd (FP.dadd (FP.ddiv (FP.dadd (FP.l2d (p1.toInt64)) (FP.l2d (p2.toInt64))) (4611686018427387904 : UInt64)) (FP.l2d (p3.toInt64))) (FP.l2d (p4.toInt64)))), .second, .val (.ref b1)] [(.double (FP.dadd (FP.ddiv (FP.dadd (FP.l2d (p1.toInt64)) (FP.l2d (p2.toInt64))) (4611686018427387904 : UInt64)) (FP.dmul (4613937818241073152 : UInt64) (FP.l2d (p3.toInt64))))), (.ref b1)])) rfl (by rw [hml]; rfl) (Steps.refl _) (argsL := [(.double (FP.dadd (FP.ddiv (FP.dadd (FP.l2d (p1.toInt64)) (FP.l2d (p2.toInt64))) (4611686018427387904 : UInt64)) (FP.dmul (4613937818241073152 : UInt64) (FP.l2d (p3.toInt64)))))]) (rest := []) (lenOf own_pd2 rfl) rfl (by show 2 * 0 + _ ≤ _; exact Nat.le_of_eq rfl) (hb hby at_120) (fun _ _ => ⟨rfl, e23, (by decide : 1 + 0 ≤ _), (by decide : 3 + 0 ≤ _)⟩)
  dsimp only [Pt.U, Pt.locs, Pt.cells, Pt.slots] at X25 l25 y25 z25 st25 hQ25
  subst l25 y25 z25
  obtain ⟨mm_25, yy_25, rfl, N25q, K25q, Q25_0, Q25_1, Q25_2, Q25_3, x25_0, x25_1⟩ := hQ25
  have N25 := Fr.app N23 N25q
  have K31 : Keep h0 T25.heap [] := K22.trans K25q (allS (Or.inr sz_b1) all0)
  refine own_go (B := T25.setTop (mkF m 123 #[.val (.int p1), .val (.int p2), .val (.int p3), .val (.int p4), .val (.double (FP.l2d (p1.toInt64))), .second, .val (.double (FP.l2d (p2.toInt64))), .second, .val (.double (FP.ddiv (FP.dadd (FP.l2d (p1.toInt64)) (FP.l2d (p2.toInt64))) (4611686018427387904 : UInt64))), .second, .val (.double (FP.dadd (FP.ddiv (FP.dadd (FP.l2d (p1.toInt64)) (FP.l2d (p2.toInt64))) (4611686018427387904 : UInt64)) (FP.dmul (4613937818241073152 : UInt64) (FP.l2d (p3.toInt64))))), .second, .val (.double (FP.dadd (FP.ddiv (FP.dadd (FP.l2d (p1.toInt64)) (FP.l2d (p2.toInt64))) (4611686018427387904 : UInt64)) (FP.l2d (p3.toInt64)))), .second, .val (.double (FP.dadd (FP.dadd (FP.ddiv (FP.dadd (FP.l2d (p1.toInt64)) (FP.l2d (p2.toInt64))) (4611686018427387904 : UInt64)) (FP.l2d (p3.toInt64))) (FP.dmul (4616189618054758400 : UInt64) (FP.l2d (p4.toInt64))))), .second, .val (.double (FP.dadd (FP.dadd (FP.ddiv (FP.dadd (FP.l2d (p1.toInt64)) (FP.l2d (p2.toInt64))) (4611686018427387904 : UInt64)) (FP.l2d (p3.toInt64))) (FP.l2d (p4.toInt64)))), .second, .val (.ref b1)] [])) (fun _ k => st25.trans k) ?_
  have HM3 : own_H (p1.toInt + p2.toInt + 2 * p3.toInt) mm_25 := own_Hr x25_0 (by omega)
  have HY3 := x25_1
  refine own_go (B := T25.setTop (mkF m 125 #[.val (.int p1), .val (.int p2), .val (.int p3), .val (.int p4), .val (.double (FP.l2d (p1.toInt64))), .second, .val (.double (FP.l2d (p2.toInt64))), .second, .val (.double (FP.ddiv (FP.dadd (FP.l2d (p1.toInt64)) (FP.l2d (p2.toInt64))) (4611686018427387904 : UInt64))), .second, .val (.double (FP.dadd (FP.ddiv (FP.dadd (FP.l2d (p1.toInt64)) (FP.l2d (p2.toInt64))) (4611686018427387904 : UInt64)) (FP.dmul (4613937818241073152 : UInt64) (FP.l2d (p3.toInt64))))), .second, .val (.double (FP.dadd (FP.ddiv (FP.dadd (FP.l2d (p1.toInt64)) (FP.l2d (p2.toInt64))) (4611686018427387904 : UInt64)) (FP.l2d (p3.toInt64)))), .second, .val (.double (FP.dadd (FP.dadd (FP.ddiv (FP.dadd (FP.l2d (p1.toInt64)) (FP.l2d (p2.toInt64))) (4611686018427387904 : UInt64)) (FP.l2d (p3.toInt64))) (FP.dmul (4616189618054758400 : UInt64) (FP.l2d (p4.toInt64))))), .second, .val (.double (FP.dadd (FP.dadd (FP.ddiv (FP.dadd (FP.l2d (p1.toInt64)) (FP.l2d (p2.toInt64))) (4611686018427387904 : UInt64)) (FP.l2d (p3.toInt64))) (FP.l2d (p4.toInt64)))), .second, .val (.ref b1)] [(.ref b1)])) (fun _ k => XS.aload X25.here hx rfl (hb hby at_123) rfl rfl k) ?_
  obtain ⟨cq32, kq32, q32a, q32b, q32c⟩ := isOf hZ rfl Q25_0
  obtain ⟨_, _, ⟨T32, L32, k32, n32⟩, -, X32, ⟨Lc32, hQ32, l32, y32, z32⟩, st32⟩ := X25.virtualBack hx (y := (⟨"com/example/kin_bloom/kinbloom/eval/Sample", "mean", "()D"⟩ : MethodName)) (z := (⟨"com/example/kin_bloom/kinbloom/eval/Sample", "mean", "()D"⟩ : MethodName)) hown (mvT hZ (own_w hw 12 rfl)) (mvT hZ (own_w hw 13 rfl)) (notFace_of_selects (args := #[]) (mvT hZ (own_w hw 15 rfl))) (mvT hZ (own_w hw 15 rfl)) (mvT hZ (own_w hw 14 rfl)) (by decide) (backOf (W := 0) (own_rm3 l Z a0 hw [] b1 mm_25 T25.heap n0 (Nat.le_trans Z0 K31.1) Q25_2) hZ (own_w hw 16 rfl) (own_w hw 5 rfl) (by decide) (by decide)) q32a q32c (g := (mkF m 125 #[.val (.int p1), .val (.int p2), .val (.int p3), .val (.int p4), .val (.double (FP.l2d (p1.toInt64))), .second, .val (.double (FP.l2d (p2.toInt64))), .second, .val (.double (FP.ddiv (FP.dadd (FP.l2d (p1.toInt64)) (FP.l2d (p2.toInt64))) (4611686018427387904 : UInt64))), .second, .val (.double (FP.dadd (FP.ddiv (FP.dadd (FP.l2d (p1.toInt64)) (FP.l2d (p2.toInt64))) (4611686018427387904 : UInt64)) (FP.dmul (4613937818241073152 : UInt64) (FP.l2d (p3.toInt64))))), .second, .val (.double (FP.dadd (FP.ddiv (FP.dadd (FP.l2d (p1.toInt64)) (FP.l2d (p2.toInt64))) (4611686018427387904 : UInt64)) (FP.l2d (p3.toInt64)))), .second, .val (.double (FP.dadd (FP.dadd (FP.ddiv (FP.dadd (FP.l2d (p1.toInt64)) (FP.l2d (p2.toInt64))) (4611686018427387904 : UInt64)) (FP.l2d (p3.toInt64))) (FP.dmul (4616189618054758400 : UInt64) (FP.l2d (p4.toInt64))))), .second, .val (.double (FP.dadd (FP.dadd (FP.ddiv (FP.dadd (FP.l2d (p1.toInt64)) (FP.l2d (p2.toInt64))) (4611686018427387904 : UInt64)) (FP.l2d (p3.toInt64))) (FP.l2d (p4.toInt64)))), .second, .val (.ref b1)] [(.ref b1)])) rfl (by rw [hml]; rfl) (Steps.refl _) (argsL := []) (rest := []) (lenOf own_pd1 rfl) rfl (by show 2 * 0 + _ ≤ _; exact Nat.le_of_eq rfl) (hb hby at_125) (fun _ _ => ⟨rfl, rfl, (by decide : 1 + 0 ≤ _), (by decide : 3 + 0 ≤ _)⟩)
  dsimp only [Pt.U, Pt.locs, Pt.cells, Pt.slots] at X32 l32 y32 z32 st32 hQ32
  subst l32 y32 z32
  obtain ⟨rfl, N32q, e32⟩ := hQ32
  have N32 := Fr.app N25 N32q
  refine own_go (B := T32.setTop (mkF m 128 #[.val (.int p1), .val (.int p2), .val (.int p3), .val (.int p4), .val (.double (FP.l2d (p1.toInt64))), .second, .val (.double (FP.l2d (p2.toInt64))), .second, .val (.double (FP.ddiv (FP.dadd (FP.l2d (p1.toInt64)) (FP.l2d (p2.toInt64))) (4611686018427387904 : UInt64))), .second, .val (.double (FP.dadd (FP.ddiv (FP.dadd (FP.l2d (p1.toInt64)) (FP.l2d (p2.toInt64))) (4611686018427387904 : UInt64)) (FP.dmul (4613937818241073152 : UInt64) (FP.l2d (p3.toInt64))))), .second, .val (.double (FP.dadd (FP.ddiv (FP.dadd (FP.l2d (p1.toInt64)) (FP.l2d (p2.toInt64))) (4611686018427387904 : UInt64)) (FP.l2d (p3.toInt64)))), .second, .val (.double (FP.dadd (FP.dadd (FP.ddiv (FP.dadd (FP.l2d (p1.toInt64)) (FP.l2d (p2.toInt64))) (4611686018427387904 : UInt64)) (FP.l2d (p3.toInt64))) (FP.dmul (4616189618054758400 : UInt64) (FP.l2d (p4.toInt64))))), .second, .val (.double (FP.dadd (FP.dadd (FP.ddiv (FP.dadd (FP.l2d (p1.toInt64)) (FP.l2d (p2.toInt64))) (4611686018427387904 : UInt64)) (FP.l2d (p3.toInt64))) (FP.l2d (p4.toInt64)))), .second, .val (.ref b1)] [(.double mm_25)])) (fun _ k => st32.trans k) ?_
  refine own_go (B := T32.setTop (mkF m 130 #[.val (.int p1), .val (.int p2), .val (.int p3), .val (.int p4), .val (.double (FP.l2d (p1.toInt64))), .second, .val (.double (FP.l2d (p2.toInt64))), .second, .val (.double (FP.ddiv (FP.dadd (FP.l2d (p1.toInt64)) (FP.l2d (p2.toInt64))) (4611686018427387904 : UInt64))), .second, .val (.double (FP.dadd (FP.ddiv (FP.dadd (FP.l2d (p1.toInt64)) (FP.l2d (p2.toInt64))) (4611686018427387904 : UInt64)) (FP.dmul (4613937818241073152 : UInt64) (FP.l2d (p3.toInt64))))), .second, .val (.double (FP.dadd (FP.ddiv (FP.dadd (FP.l2d (p1.toInt64)) (FP.l2d (p2.toInt64))) (4611686018427387904 : UInt64)) (FP.l2d (p3.toInt64)))), .second, .val (.double (FP.dadd (FP.dadd (FP.ddiv (FP.dadd (FP.l2d (p1.toInt64)) (FP.l2d (p2.toInt64))) (4611686018427387904 : UInt64)) (FP.l2d (p3.toInt64))) (FP.dmul (4616189618054758400 : UInt64) (FP.l2d (p4.toInt64))))), .second, .val (.double (FP.dadd (FP.dadd (FP.ddiv (FP.dadd (FP.l2d (p1.toInt64)) (FP.l2d (p2.toInt64))) (4611686018427387904 : UInt64)) (FP.l2d (p3.toInt64))) (FP.l2d (p4.toInt64)))), .second, .val (.ref b1)] [(.double (FP.dadd (FP.ddiv (FP.dadd (FP.l2d (p1.toInt64)) (FP.l2d (p2.toInt64))) (4611686018427387904 : UInt64)) (FP.l2d (p3.toInt64)))), (.double mm_25)])) (fun _ k => XS.dload X32.here hx rfl (hb hby at_128) rfl  k) ?_
  refine own_go (B := T32.setTop (mkF m 131 #[.val (.int p1), .val (.int p2), .val (.int p3), .val (.int p4), .val (.double (FP.l2d (p1.toInt64))), .second, .val (.double (FP.l2d (p2.toInt64))), .second, .val (.double (FP.ddiv (FP.dadd (FP.l2d (p1.toInt64)) (FP.l2d (p2.toInt64))) (4611686018427387904 : UInt64))), .second, .val (.double (FP.dadd (FP.ddiv (FP.dadd (FP.l2d (p1.toInt64)) (FP.l2d (p2.toInt64))) (4611686018427387904 : UInt64)) (FP.dmul (4613937818241073152 : UInt64) (FP.l2d (p3.toInt64))))), .second, .val (.double (FP.dadd (FP.ddiv (FP.dadd (FP.l2d (p1.toInt64)) (FP.l2d (p2.toInt64))) (4611686018427387904 : UInt64)) (FP.l2d (p3.toInt64)))), .second, .val (.double (FP.dadd (FP.dadd (FP.ddiv (FP.dadd (FP.l2d (p1.toInt64)) (FP.l2d (p2.toInt64))) (4611686018427387904 : UInt64)) (FP.l2d (p3.toInt64))) (FP.dmul (4616189618054758400 : UInt64) (FP.l2d (p4.toInt64))))), .second, .val (.double (FP.dadd (FP.dadd (FP.ddiv (FP.dadd (FP.l2d (p1.toInt64)) (FP.l2d (p2.toInt64))) (4611686018427387904 : UInt64)) (FP.l2d (p3.toInt64))) (FP.l2d (p4.toInt64)))), .second, .val (.ref b1)] [(.int (0 : Int32))])) (fun _ k => XS.dcmpS X32.here hx rfl (hb hby at_130) rfl (HM3.cmp H34 _) k) ?_
  have hc33 : (0 : Int32) = (0 : Int32) := by decide
  refine own_go (B := T32.setTop (mkF m 136 #[.val (.int p1), .val (.int p2), .val (.int p3), .val (.int p4), .val (.double (FP.l2d (p1.toInt64))), .second, .val (.double (FP.l2d (p2.toInt64))), .second, .val (.double (FP.ddiv (FP.dadd (FP.l2d (p1.toInt64)) (FP.l2d (p2.toInt64))) (4611686018427387904 : UInt64))), .second, .val (.double (FP.dadd (FP.ddiv (FP.dadd (FP.l2d (p1.toInt64)) (FP.l2d (p2.toInt64))) (4611686018427387904 : UInt64)) (FP.dmul (4613937818241073152 : UInt64) (FP.l2d (p3.toInt64))))), .second, .val (.double (FP.dadd (FP.ddiv (FP.dadd (FP.l2d (p1.toInt64)) (FP.l2d (p2.toInt64))) (4611686018427387904 : UInt64)) (FP.l2d (p3.toInt64)))), .second, .val (.double (FP.dadd (FP.dadd (FP.ddiv (FP.dadd (FP.l2d (p1.toInt64)) (FP.l2d (p2.toInt64))) (4611686018427387904 : UInt64)) (FP.l2d (p3.toInt64))) (FP.dmul (4616189618054758400 : UInt64) (FP.l2d (p4.toInt64))))), .second, .val (.double (FP.dadd (FP.dadd (FP.ddiv (FP.dadd (FP.l2d (p1.toInt64)) (FP.l2d (p2.toInt64))) (4611686018427387904 : UInt64)) (FP.l2d (p3.toInt64))) (FP.l2d (p4.toInt64)))), .second, .val (.ref b1)] [])) (fun _ k => XS.ifYes X32.here hx rfl (pc0 := 131) (pc' := 136) rfl (hb hby at_131) rfl ((if0 _ _).trans (teq hc33).1) (by decide) (by decide) k) ?_
  refine own_go (B := T32.setTop (mkF m 138 #[.val (.int p1), .val (.int p2), .val (.int p3), .val (.int p4), .val (.double (FP.l2d (p1.toInt64))), .second, .val (.double (FP.l2d (p2.toInt64))), .second, .val (.double (FP.ddiv (FP.dadd (FP.l2d (p1.toInt64)) (FP.l2d (p2.toInt64))) (4611686018427387904 : UInt64))), .second, .val (.double (FP.dadd (FP.ddiv (FP.dadd (FP.l2d (p1.toInt64)) (FP.l2d (p2.toInt64))) (4611686018427387904 : UInt64)) (FP.dmul (4613937818241073152 : UInt64) (FP.l2d (p3.toInt64))))), .second, .val (.double (FP.dadd (FP.ddiv (FP.dadd (FP.l2d (p1.toInt64)) (FP.l2d (p2.toInt64))) (4611686018427387904 : UInt64)) (FP.l2d (p3.toInt64)))), .second, .val (.double (FP.dadd (FP.dadd (FP.ddiv (FP.dadd (FP.l2d (p1.toInt64)) (FP.l2d (p2.toInt64))) (4611686018427387904 : UInt64)) (FP.l2d (p3.toInt64))) (FP.dmul (4616189618054758400 : UInt64) (FP.l2d (p4.toInt64))))), .second, .val (.double (FP.dadd (FP.dadd (FP.ddiv (FP.dadd (FP.l2d (p1.toInt64)) (FP.l2d (p2.toInt64))) (4611686018427387904 : UInt64)) (FP.l2d (p3.toInt64))) (FP.l2d (p4.toInt64)))), .second, .val (.ref b1)] [(.ref b1)])) (fun _ k => XS.aload X32.here hx rfl (hb hby at_136) rfl rfl k) ?_
  refine own_go (B := T32.setTop (mkF m 140 #[.val (.int p1), .val (.int p2), .val (.int p3), .val (.int p4), .val (.double (FP.l2d (p1.toInt64))), .second, .val (.double (FP.l2d (p2.toInt64))), .second, .val (.double (FP.ddiv (FP.dadd (FP.l2d (p1.toInt64)) (FP.l2d (p2.toInt64))) (4611686018427387904 : UInt64))), .second, .val (.double (FP.dadd (FP.ddiv (FP.dadd (FP.l2d (p1.toInt64)) (FP.l2d (p2.toInt64))) (4611686018427387904 : UInt64)) (FP.dmul (4613937818241073152 : UInt64) (FP.l2d (p3.toInt64))))), .second, .val (.double (FP.dadd (FP.ddiv (FP.dadd (FP.l2d (p1.toInt64)) (FP.l2d (p2.toInt64))) (4611686018427387904 : UInt64)) (FP.l2d (p3.toInt64)))), .second, .val (.double (FP.dadd (FP.dadd (FP.ddiv (FP.dadd (FP.l2d (p1.toInt64)) (FP.l2d (p2.toInt64))) (4611686018427387904 : UInt64)) (FP.l2d (p3.toInt64))) (FP.dmul (4616189618054758400 : UInt64) (FP.l2d (p4.toInt64))))), .second, .val (.double (FP.dadd (FP.dadd (FP.ddiv (FP.dadd (FP.l2d (p1.toInt64)) (FP.l2d (p2.toInt64))) (4611686018427387904 : UInt64)) (FP.l2d (p3.toInt64))) (FP.l2d (p4.toInt64)))), .second, .val (.ref b1)] [(.double (FP.dadd (FP.dadd (FP.ddiv (FP.dadd (FP.l2d (p1.toInt64)) (FP.l2d (p2.toInt64))) (4611686018427387904 : UInt64)) (FP.l2d (p3.toInt64))) (FP.dmul (4616189618054758400 : UInt64) (FP.l2d (p4.toInt64))))), (.ref b1)])) (fun _ k => XS.dload X32.here hx rfl (hb hby at_138) rfl  k) ?_
  have Rx3 : own_H (p1.toInt + p2.toInt + 2 * p3.toInt + 8 * p4.toInt) (FP.dadd (FP.dadd (FP.ddiv (FP.dadd (FP.l2d (p1.toInt64)) (FP.l2d (p2.toInt64))) (4611686018427387904 : UInt64)) (FP.l2d (p3.toInt64))) (FP.dmul (4616189618054758400 : UInt64) (FP.l2d (p4.toInt64)))) := H45
  have Rm3 : own_H (p1.toInt + p2.toInt + 2 * p3.toInt) mm_25 := HM3
  have Rb3 : own_bd (p1.toInt + p2.toInt + 2 * p3.toInt + 8 * p4.toInt) (p1.toInt + p2.toInt + 2 * p3.toInt) (2 * p4.toInt) := ⟨(by omega), (by omega), (by omega)⟩
  have Rz3 : (p1.toInt + p2.toInt + 2 * p3.toInt + 8 * p4.toInt) - (p1.toInt + p2.toInt + 2 * p3.toInt) = (2 * p4.toInt) * 4 := (by omega)
  have Ry3 : Jvm.Free.Fl.Mag64 1134 yy_25 := HY3
  obtain ⟨cq34, kq34, q34a, q34b, q34c⟩ := isOf hZ e32 Q25_0
  obtain ⟨_, _, ⟨T34, L34, k34, n34⟩, -, X34, ⟨Lc34, hQ34, l34, y34, z34⟩, st34⟩ := X32.virtualBack hx (y := (⟨"com/example/kin_bloom/kinbloom/eval/Sample", "add", "(D)V"⟩ : MethodName)) (z := (⟨"com/example/kin_bloom/kinbloom/eval/Sample", "add", "(D)V"⟩ : MethodName)) hown (mvT hZ (own_w hw 19 rfl)) (mvT hZ (own_w hw 20 rfl)) (notFace_of_selects (args := #[]) (mvT hZ (own_w hw 22 rfl))) (mvT hZ (own_w hw 22 rfl)) (mvT hZ (own_w hw 21 rfl)) (by decide) (backOf (W := 0) (own_add3 l Z a0 hw [] b1 (FP.dadd (FP.dadd (FP.ddiv (FP.dadd (FP.l2d (p1.toInt64)) (FP.l2d (p2.toInt64))) (4611686018427387904 : UInt64)) (FP.l2d (p3.toInt64))) (FP.dmul (4616189618054758400 : UInt64) (FP.l2d (p4.toInt64)))) mm_25 yy_25 (p1.toInt + p2.toInt + 2 * p3.toInt + 8 * p4.toInt) (p1.toInt + p2.toInt + 2 * p3.toInt) (2 * p4.toInt) T25.heap n0 (Nat.le_trans Z0 K31.1) Q25_0 Q25_1 Q25_2 Q25_3 g_b1 Rx3 Rm3 Rb3 Rz3 x25_1) hZ (own_w hw 23 rfl) (own_w hw 5 rfl) (by decide) (by decide)) q34a q34c (g := (mkF m 140 #[.val (.int p1), .val (.int p2), .val (.int p3), .val (.int p4), .val (.double (FP.l2d (p1.toInt64))), .second, .val (.double (FP.l2d (p2.toInt64))), .second, .val (.double (FP.ddiv (FP.dadd (FP.l2d (p1.toInt64)) (FP.l2d (p2.toInt64))) (4611686018427387904 : UInt64))), .second, .val (.double (FP.dadd (FP.ddiv (FP.dadd (FP.l2d (p1.toInt64)) (FP.l2d (p2.toInt64))) (4611686018427387904 : UInt64)) (FP.dmul (4613937818241073152 : UInt64) (FP.l2d (p3.toInt64))))), .second, .val (.double (FP.dadd (FP.ddiv (FP.dadd (FP.l2d (p1.toInt64)) (FP.l2d (p2.toInt64))) (4611686018427387904 : UInt64)) (FP.l2d (p3.toInt64)))), .second, .val (.double (FP.dadd (FP.dadd (FP.ddiv (FP.dadd (FP.l2d (p1.toInt64)) (FP.l2d (p2.toInt64))) (4611686018427387904 : UInt64)) (FP.l2d (p3.toInt64))) (FP.dmul (4616189618054758400 : UInt64) (FP.l2d (p4.toInt64))))), .second, .val (.double (FP.dadd (FP.dadd (FP.ddiv (FP.dadd (FP.l2d (p1.toInt64)) (FP.l2d (p2.toInt64))) (4611686018427387904 : UInt64)) (FP.l2d (p3.toInt64))) (FP.l2d (p4.toInt64)))), .second, .val (.ref b1)] [(.double (FP.dadd (FP.dadd (FP.ddiv (FP.dadd (FP.l2d (p1.toInt64)) (FP.l2d (p2.toInt64))) (4611686018427387904 : UInt64)) (FP.l2d (p3.toInt64))) (FP.dmul (4616189618054758400 : UInt64) (FP.l2d (p4.toInt64))))), (.ref b1)])) rfl (by rw [hml]; rfl) (Steps.refl _) (argsL := [(.double (FP.dadd (FP.dadd (FP.ddiv (FP.dadd (FP.l2d (p1.toInt64)) (FP.l2d (p2.toInt64))) (4611686018427387904 : UInt64)) (FP.l2d (p3.toInt64))) (FP.dmul (4616189618054758400 : UInt64) (FP.l2d (p4.toInt64)))))]) (rest := []) (lenOf own_pd2 rfl) rfl (by show 2 * 0 + _ ≤ _; exact Nat.le_of_eq rfl) (hb hby at_140) (fun _ _ => ⟨rfl, e32, (by decide : 1 + 0 ≤ _), (by decide : 3 + 0 ≤ _)⟩)
  dsimp only [Pt.U, Pt.locs, Pt.cells, Pt.slots] at X34 l34 y34 z34 st34 hQ34
  subst l34 y34 z34
  obtain ⟨mm_34, yy_34, rfl, N34q, K34q, Q34_0, Q34_1, Q34_2, Q34_3, x34_0, x34_1⟩ := hQ34
  have N34 := Fr.app N32 N34q
  have K40 : Keep h0 T34.heap [] := K31.trans K34q (allS (Or.inr sz_b1) all0)
  refine own_go (B := T34.setTop (mkF m 143 #[.val (.int p1), .val (.int p2), .val (.int p3), .val (.int p4), .val (.double (FP.l2d (p1.toInt64))), .second, .val (.double (FP.l2d (p2.toInt64))), .second, .val (.double (FP.ddiv (FP.dadd (FP.l2d (p1.toInt64)) (FP.l2d (p2.toInt64))) (4611686018427387904 : UInt64))), .second, .val (.double (FP.dadd (FP.ddiv (FP.dadd (FP.l2d (p1.toInt64)) (FP.l2d (p2.toInt64))) (4611686018427387904 : UInt64)) (FP.dmul (4613937818241073152 : UInt64) (FP.l2d (p3.toInt64))))), .second, .val (.double (FP.dadd (FP.ddiv (FP.dadd (FP.l2d (p1.toInt64)) (FP.l2d (p2.toInt64))) (4611686018427387904 : UInt64)) (FP.l2d (p3.toInt64)))), .second, .val (.double (FP.dadd (FP.dadd (FP.ddiv (FP.dadd (FP.l2d (p1.toInt64)) (FP.l2d (p2.toInt64))) (4611686018427387904 : UInt64)) (FP.l2d (p3.toInt64))) (FP.dmul (4616189618054758400 : UInt64) (FP.l2d (p4.toInt64))))), .second, .val (.double (FP.dadd (FP.dadd (FP.ddiv (FP.dadd (FP.l2d (p1.toInt64)) (FP.l2d (p2.toInt64))) (4611686018427387904 : UInt64)) (FP.l2d (p3.toInt64))) (FP.l2d (p4.toInt64)))), .second, .val (.ref b1)] [])) (fun _ k => st34.trans k) ?_
  have HM4 : own_H (p1.toInt + p2.toInt + 2 * p3.toInt + 2 * p4.toInt) mm_34 := own_Hr x34_0 (by omega)
  have HY4 := x34_1
  refine own_go (B := T34.setTop (mkF m 145 #[.val (.int p1), .val (.int p2), .val (.int p3), .val (.int p4), .val (.double (FP.l2d (p1.toInt64))), .second, .val (.double (FP.l2d (p2.toInt64))), .second, .val (.double (FP.ddiv (FP.dadd (FP.l2d (p1.toInt64)) (FP.l2d (p2.toInt64))) (4611686018427387904 : UInt64))), .second, .val (.double (FP.dadd (FP.ddiv (FP.dadd (FP.l2d (p1.toInt64)) (FP.l2d (p2.toInt64))) (4611686018427387904 : UInt64)) (FP.dmul (4613937818241073152 : UInt64) (FP.l2d (p3.toInt64))))), .second, .val (.double (FP.dadd (FP.ddiv (FP.dadd (FP.l2d (p1.toInt64)) (FP.l2d (p2.toInt64))) (4611686018427387904 : UInt64)) (FP.l2d (p3.toInt64)))), .second, .val (.double (FP.dadd (FP.dadd (FP.ddiv (FP.dadd (FP.l2d (p1.toInt64)) (FP.l2d (p2.toInt64))) (4611686018427387904 : UInt64)) (FP.l2d (p3.toInt64))) (FP.dmul (4616189618054758400 : UInt64) (FP.l2d (p4.toInt64))))), .second, .val (.double (FP.dadd (FP.dadd (FP.ddiv (FP.dadd (FP.l2d (p1.toInt64)) (FP.l2d (p2.toInt64))) (4611686018427387904 : UInt64)) (FP.l2d (p3.toInt64))) (FP.l2d (p4.toInt64)))), .second, .val (.ref b1)] [(.ref b1)])) (fun _ k => XS.aload X34.here hx rfl (hb hby at_143) rfl rfl k) ?_
  obtain ⟨cq41, kq41, q41a, q41b, q41c⟩ := isOf hZ rfl Q34_0
  obtain ⟨_, _, ⟨T41, L41, k41, n41⟩, -, X41, ⟨Lc41, hQ41, l41, y41, z41⟩, st41⟩ := X34.virtualBack hx (y := (⟨"com/example/kin_bloom/kinbloom/eval/Sample", "mean", "()D"⟩ : MethodName)) (z := (⟨"com/example/kin_bloom/kinbloom/eval/Sample", "mean", "()D"⟩ : MethodName)) hown (mvT hZ (own_w hw 12 rfl)) (mvT hZ (own_w hw 13 rfl)) (notFace_of_selects (args := #[]) (mvT hZ (own_w hw 15 rfl))) (mvT hZ (own_w hw 15 rfl)) (mvT hZ (own_w hw 14 rfl)) (by decide) (backOf (W := 0) (own_rm3 l Z a0 hw [] b1 mm_34 T34.heap n0 (Nat.le_trans Z0 K40.1) Q34_2) hZ (own_w hw 16 rfl) (own_w hw 5 rfl) (by decide) (by decide)) q41a q41c (g := (mkF m 145 #[.val (.int p1), .val (.int p2), .val (.int p3), .val (.int p4), .val (.double (FP.l2d (p1.toInt64))), .second, .val (.double (FP.l2d (p2.toInt64))), .second, .val (.double (FP.ddiv (FP.dadd (FP.l2d (p1.toInt64)) (FP.l2d (p2.toInt64))) (4611686018427387904 : UInt64))), .second, .val (.double (FP.dadd (FP.ddiv (FP.dadd (FP.l2d (p1.toInt64)) (FP.l2d (p2.toInt64))) (4611686018427387904 : UInt64)) (FP.dmul (4613937818241073152 : UInt64) (FP.l2d (p3.toInt64))))), .second, .val (.double (FP.dadd (FP.ddiv (FP.dadd (FP.l2d (p1.toInt64)) (FP.l2d (p2.toInt64))) (4611686018427387904 : UInt64)) (FP.l2d (p3.toInt64)))), .second, .val (.double (FP.dadd (FP.dadd (FP.ddiv (FP.dadd (FP.l2d (p1.toInt64)) (FP.l2d (p2.toInt64))) (4611686018427387904 : UInt64)) (FP.l2d (p3.toInt64))) (FP.dmul (4616189618054758400 : UInt64) (FP.l2d (p4.toInt64))))), .second, .val (.double (FP.dadd (FP.dadd (FP.ddiv (FP.dadd (FP.l2d (p1.toInt64)) (FP.l2d (p2.toInt64))) (4611686018427387904 : UInt64)) (FP.l2d (p3.toInt64))) (FP.l2d (p4.toInt64)))), .second, .val (.ref b1)] [(.ref b1)])) rfl (by rw [hml]; rfl) (Steps.refl _) (argsL := []) (rest := []) (lenOf own_pd1 rfl) rfl (by show 2 * 0 + _ ≤ _; exact Nat.le_of_eq rfl) (hb hby at_145) (fun _ _ => ⟨rfl, rfl, (by decide : 1 + 0 ≤ _), (by decide : 3 + 0 ≤ _)⟩)
  dsimp only [Pt.U, Pt.locs, Pt.cells, Pt.slots] at X41 l41 y41 z41 st41 hQ41
  subst l41 y41 z41
  obtain ⟨rfl, N41q, e41⟩ := hQ41
  have N41 := Fr.app N34 N41q
  refine own_go (B := T41.setTop (mkF m 148 #[.val (.int p1), .val (.int p2), .val (.int p3), .val (.int p4), .val (.double (FP.l2d (p1.toInt64))), .second, .val (.double (FP.l2d (p2.toInt64))), .second, .val (.double (FP.ddiv (FP.dadd (FP.l2d (p1.toInt64)) (FP.l2d (p2.toInt64))) (4611686018427387904 : UInt64))), .second, .val (.double (FP.dadd (FP.ddiv (FP.dadd (FP.l2d (p1.toInt64)) (FP.l2d (p2.toInt64))) (4611686018427387904 : UInt64)) (FP.dmul (4613937818241073152 : UInt64) (FP.l2d (p3.toInt64))))), .second, .val (.double (FP.dadd (FP.ddiv (FP.dadd (FP.l2d (p1.toInt64)) (FP.l2d (p2.toInt64))) (4611686018427387904 : UInt64)) (FP.l2d (p3.toInt64)))), .second, .val (.double (FP.dadd (FP.dadd (FP.ddiv (FP.dadd (FP.l2d (p1.toInt64)) (FP.l2d (p2.toInt64))) (4611686018427387904 : UInt64)) (FP.l2d (p3.toInt64))) (FP.dmul (4616189618054758400 : UInt64) (FP.l2d (p4.toInt64))))), .second, .val (.double (FP.dadd (FP.dadd (FP.ddiv (FP.dadd (FP.l2d (p1.toInt64)) (FP.l2d (p2.toInt64))) (4611686018427387904 : UInt64)) (FP.l2d (p3.toInt64))) (FP.l2d (p4.toInt64)))), .second, .val (.ref b1)] [(.double mm_34)])) (fun _ k => st41.trans k) ?_
  refine own_go (B := T41.setTop (mkF m 150 #[.val (.int p1), .val (.int p2), .val (.int p3), .val (.int p4), .val (.double (FP.l2d (p1.toInt64))), .second, .val (.double (FP.l2d (p2.toInt64))), .second, .val (.double (FP.ddiv (FP.dadd (FP.l2d (p1.toInt64)) (FP.l2d (p2.toInt64))) (4611686018427387904 : UInt64))), .second, .val (.double (FP.dadd (FP.ddiv (FP.dadd (FP.l2d (p1.toInt64)) (FP.l2d (p2.toInt64))) (4611686018427387904 : UInt64)) (FP.dmul (4613937818241073152 : UInt64) (FP.l2d (p3.toInt64))))), .second, .val (.double (FP.dadd (FP.ddiv (FP.dadd (FP.l2d (p1.toInt64)) (FP.l2d (p2.toInt64))) (4611686018427387904 : UInt64)) (FP.l2d (p3.toInt64)))), .second, .val (.double (FP.dadd (FP.dadd (FP.ddiv (FP.dadd (FP.l2d (p1.toInt64)) (FP.l2d (p2.toInt64))) (4611686018427387904 : UInt64)) (FP.l2d (p3.toInt64))) (FP.dmul (4616189618054758400 : UInt64) (FP.l2d (p4.toInt64))))), .second, .val (.double (FP.dadd (FP.dadd (FP.ddiv (FP.dadd (FP.l2d (p1.toInt64)) (FP.l2d (p2.toInt64))) (4611686018427387904 : UInt64)) (FP.l2d (p3.toInt64))) (FP.l2d (p4.toInt64)))), .second, .val (.ref b1)] [(.double (FP.dadd (FP.dadd (FP.ddiv (FP.dadd (FP.l2d (p1.toInt64)) (FP.l2d (p2.toInt64))) (4611686018427387904 : UInt64)) (FP.l2d (p3.toInt64))) (FP.l2d (p4.toInt64)))), (.double mm_34)])) (fun _ k => XS.dload X41.here hx rfl (hb hby at_148) rfl  k) ?_
  refine own_go (B := T41.setTop (mkF m 151 #[.val (.int p1), .val (.int p2), .val (.int p3), .val (.int p4), .val (.double (FP.l2d (p1.toInt64))), .second, .val (.double (FP.l2d (p2.toInt64))), .second, .val (.double (FP.ddiv (FP.dadd (FP.l2d (p1.toInt64)) (FP.l2d (p2.toInt64))) (4611686018427387904 : UInt64))), .second, .val (.double (FP.dadd (FP.ddiv (FP.dadd (FP.l2d (p1.toInt64)) (FP.l2d (p2.toInt64))) (4611686018427387904 : UInt64)) (FP.dmul (4613937818241073152 : UInt64) (FP.l2d (p3.toInt64))))), .second, .val (.double (FP.dadd (FP.ddiv (FP.dadd (FP.l2d (p1.toInt64)) (FP.l2d (p2.toInt64))) (4611686018427387904 : UInt64)) (FP.l2d (p3.toInt64)))), .second, .val (.double (FP.dadd (FP.dadd (FP.ddiv (FP.dadd (FP.l2d (p1.toInt64)) (FP.l2d (p2.toInt64))) (4611686018427387904 : UInt64)) (FP.l2d (p3.toInt64))) (FP.dmul (4616189618054758400 : UInt64) (FP.l2d (p4.toInt64))))), .second, .val (.double (FP.dadd (FP.dadd (FP.ddiv (FP.dadd (FP.l2d (p1.toInt64)) (FP.l2d (p2.toInt64))) (4611686018427387904 : UInt64)) (FP.l2d (p3.toInt64))) (FP.l2d (p4.toInt64)))), .second, .val (.ref b1)] [(.int (0 : Int32))])) (fun _ k => XS.dcmpS X41.here hx rfl (hb hby at_150) rfl (HM4.cmp H53 _) k) ?_
  have hc42 : (0 : Int32) = (0 : Int32) := by decide
  refine own_go (B := T41.setTop (mkF m 154 #[.val (.int p1), .val (.int p2), .val (.int p3), .val (.int p4), .val (.double (FP.l2d (p1.toInt64))), .second, .val (.double (FP.l2d (p2.toInt64))), .second, .val (.double (FP.ddiv (FP.dadd (FP.l2d (p1.toInt64)) (FP.l2d (p2.toInt64))) (4611686018427387904 : UInt64))), .second, .val (.double (FP.dadd (FP.ddiv (FP.dadd (FP.l2d (p1.toInt64)) (FP.l2d (p2.toInt64))) (4611686018427387904 : UInt64)) (FP.dmul (4613937818241073152 : UInt64) (FP.l2d (p3.toInt64))))), .second, .val (.double (FP.dadd (FP.ddiv (FP.dadd (FP.l2d (p1.toInt64)) (FP.l2d (p2.toInt64))) (4611686018427387904 : UInt64)) (FP.l2d (p3.toInt64)))), .second, .val (.double (FP.dadd (FP.dadd (FP.ddiv (FP.dadd (FP.l2d (p1.toInt64)) (FP.l2d (p2.toInt64))) (4611686018427387904 : UInt64)) (FP.l2d (p3.toInt64))) (FP.dmul (4616189618054758400 : UInt64) (FP.l2d (p4.toInt64))))), .second, .val (.double (FP.dadd (FP.dadd (FP.ddiv (FP.dadd (FP.l2d (p1.toInt64)) (FP.l2d (p2.toInt64))) (4611686018427387904 : UInt64)) (FP.l2d (p3.toInt64))) (FP.l2d (p4.toInt64)))), .second, .val (.ref b1)] [])) (fun _ k => XS.ifNo X41.here hx rfl (hb hby at_151) rfl ((if0 _ _).trans (teq hc42).2) k) ?_
  refine own_go (B := T41.setTop (mkF m 155 #[.val (.int p1), .val (.int p2), .val (.int p3), .val (.int p4), .val (.double (FP.l2d (p1.toInt64))), .second, .val (.double (FP.l2d (p2.toInt64))), .second, .val (.double (FP.ddiv (FP.dadd (FP.l2d (p1.toInt64)) (FP.l2d (p2.toInt64))) (4611686018427387904 : UInt64))), .second, .val (.double (FP.dadd (FP.ddiv (FP.dadd (FP.l2d (p1.toInt64)) (FP.l2d (p2.toInt64))) (4611686018427387904 : UInt64)) (FP.dmul (4613937818241073152 : UInt64) (FP.l2d (p3.toInt64))))), .second, .val (.double (FP.dadd (FP.ddiv (FP.dadd (FP.l2d (p1.toInt64)) (FP.l2d (p2.toInt64))) (4611686018427387904 : UInt64)) (FP.l2d (p3.toInt64)))), .second, .val (.double (FP.dadd (FP.dadd (FP.ddiv (FP.dadd (FP.l2d (p1.toInt64)) (FP.l2d (p2.toInt64))) (4611686018427387904 : UInt64)) (FP.l2d (p3.toInt64))) (FP.dmul (4616189618054758400 : UInt64) (FP.l2d (p4.toInt64))))), .second, .val (.double (FP.dadd (FP.dadd (FP.ddiv (FP.dadd (FP.l2d (p1.toInt64)) (FP.l2d (p2.toInt64))) (4611686018427387904 : UInt64)) (FP.l2d (p3.toInt64))) (FP.l2d (p4.toInt64)))), .second, .val (.ref b1)] [(.int (1 : Int32))])) (fun _ k => XS.iconst X41.here hx rfl (hb hby at_154) k) ?_
  refine own_go (B := T41.setTop (mkF m 159 #[.val (.int p1), .val (.int p2), .val (.int p3), .val (.int p4), .val (.double (FP.l2d (p1.toInt64))), .second, .val (.double (FP.l2d (p2.toInt64))), .second, .val (.double (FP.ddiv (FP.dadd (FP.l2d (p1.toInt64)) (FP.l2d (p2.toInt64))) (4611686018427387904 : UInt64))), .second, .val (.double (FP.dadd (FP.ddiv (FP.dadd (FP.l2d (p1.toInt64)) (FP.l2d (p2.toInt64))) (4611686018427387904 : UInt64)) (FP.dmul (4613937818241073152 : UInt64) (FP.l2d (p3.toInt64))))), .second, .val (.double (FP.dadd (FP.ddiv (FP.dadd (FP.l2d (p1.toInt64)) (FP.l2d (p2.toInt64))) (4611686018427387904 : UInt64)) (FP.l2d (p3.toInt64)))), .second, .val (.double (FP.dadd (FP.dadd (FP.ddiv (FP.dadd (FP.l2d (p1.toInt64)) (FP.l2d (p2.toInt64))) (4611686018427387904 : UInt64)) (FP.l2d (p3.toInt64))) (FP.dmul (4616189618054758400 : UInt64) (FP.l2d (p4.toInt64))))), .second, .val (.double (FP.dadd (FP.dadd (FP.ddiv (FP.dadd (FP.l2d (p1.toInt64)) (FP.l2d (p2.toInt64))) (4611686018427387904 : UInt64)) (FP.l2d (p3.toInt64))) (FP.l2d (p4.toInt64)))), .second, .val (.ref b1)] [(.int (1 : Int32))])) (fun _ k => XS.goto X41.here hx rfl (pc0 := 155) (pc' := 159) rfl (hb hby at_155) (by decide) (by decide) k) ?_
  exact own_retN X41 hx Bd.notSynchronized (t := .boolean) (w := (1 : Int32)) Bd.returns (by simp) (hb hby at_159) e41 rfl ⟨rfl, N41, K40⟩ (by decide) (by decide)
set_option maxRecDepth 65536 in
set_option maxHeartbeats 40000000 in
theorem comes_1 {Post : Tables → Env → Array Value → State → Outcome → State → Prop} (hpost : ∀ tb e args s v u, (limb_1_1.after args s (.returned v) u = true ∧ limb_1_2.after args s (.returned v) u = true ∧ True) → FrameEnd s (.returned v) u (Jvm.fieldLocs frame_1_writes args s ++ Jvm.arrayLocs frame_1_arrays args s ++ Jvm.staticLocs frame_1_statics s) 16 128 → Post tb e args s (.returned v) u) :
    ArmFor flags0 classFile x code maxLocals ret World_1 tables_1 room_1 Calls_1 rest_1 Pre_1 Post := by
  intro l hfl _ _ p e ha hc hk s m args below hf hA hF happ hP
  obtain ⟨hcalls, hrest, hpre⟩ := hP
  obtain ⟨-, -, -, hnamed, -, -, -, hat⟩ := (Spec.applies_iff hf).mp happ
  obtain ⟨hg, hn⟩ := and_e (Cond.before_iff.mp (show (Jvm.Cond.and given_1 narrow_1).before args s = true from hpre))
  obtain ⟨gg1, gg2⟩ := and_e hg
  obtain ⟨gg3, gg4⟩ := and_e gg2
  obtain ⟨gg5, gg6⟩ := and_e gg4
  obtain ⟨gg7, gg8⟩ := and_e gg6
  obtain ⟨w0, w1, w2, w3, rfl⟩ : ∃ w0 w1 w2 w3 : Value, args = #[w0, w1, w2, w3] := by
    have hs : args.size = 4 := by simpa [Cond.value, given_1] using gg1
    obtain ⟨L⟩ := args
    match L, hs with
    | [w0, w1, w2, w3], _ => exact ⟨w0, w1, w2, w3, rfl⟩
  have hw := fun d (hd : d ∈ tables_1) => atoms_spec (ws := Jvm.Cond.code x code maxLocals ret :: tables_1) hat d (List.mem_cons_of_mem _ hd)
  have hfit : Fit s := fun {y c} hc i hi => by
    obtain ⟨ha, rfl⟩ := Array.getElem?_eq_some_iff.mp hc
    have q := List.all_eq_true.mp ((Array.all_eq_true_iff_forall_mem.mp hF) _ (Array.getElem_mem ha)) i (List.mem_range.mpr hi)
    simpa [Array.getElem?_eq_getElem hi] using q
  obtain ⟨i0, ei0⟩ := is_v gg3
  obtain rfl : w0 = (.int i0) := Option.some.inj ei0
  obtain ⟨i1, ei1⟩ := is_v gg5
  obtain rfl : w1 = (.int i1) := Option.some.inj ei1
  obtain ⟨i2, ei2⟩ := is_v gg7
  obtain rfl : w2 = (.int i2) := Option.some.inj ei2
  obtain ⟨i3, ei3⟩ := is_v gg8
  obtain rfl : w3 = (.int i3) := Option.some.inj ei3
  obtain ⟨n, o, h1, h2, h3, _, L, rfl, ⟨rfl, N, _⟩, hq⟩ := own_rm0 l s _ hw tables_1 i0 i1 i2 i3 s.heap s.heap.size (Nat.le_refl _)  p e ha hc hk s m _ below hf ((Spec.applies_iff_loose hf).mp happ).1 ⟨rfl, State.Warmed39.refl s, rfl⟩ trivial
  refine ⟨n, _, h1, h2, h3, hpost _ _ _ _ _ _ ⟨Cond.after_iff.mpr rfl, Cond.after_iff.mpr (eq_i res_at (Term.int_eval (1)) rfl), trivial⟩ ⟨hq.1, hq.2.1, (hq.2.2.sift fun y hy => Or.inr (N y hy)).mono (by decide) (by decide)⟩⟩
theorem main_1_1 : Claimed_1_1 := comes_1 fun _ _ _ _ _ _ h hF => ⟨h.1, hF⟩
theorem main_1_2 : Claimed_1_2 := comes_1 fun _ _ _ _ _ _ h hF => ⟨h.2.1, hF⟩
end Jvm.Pilot.@@N@@
namespace Jvm.Pilot.@@N@@
open Jvm Jvm.ClassFile Sem Op Lib Jvm.Free Jvm.Stand Jvm.Pilot.@@N@@.Jvm.D
/-! MADE BY PROGRAM (witnessworld.py) out of the Statement's table words and the real class files: 9 classes; the members and pool entries that the words name. The judged class is class 1, her method 1. -/
namespace start1
open Jvm.ClassFile
def u (s : String) : CpInfo := .utf8 (stringToUtf16 s)
/-- a pool by its gaps: so many unusable entries, then the entry; so many at the end -/
def gap : Nat → List CpInfo → List CpInfo
  | 0, r => r
  | n + 1, r => .unusable :: gap n r
def poolList (es : List (Nat × CpInfo)) (last : Nat) : List CpInfo := es.foldr (fun e r => gap e.1 (e.2 :: r)) (gap last [])
def pool (es : List (Nat × CpInfo)) (last : Nat) : Array CpInfo := ⟨poolList es last⟩
def fileOf (pool : Array CpInfo) (this : Nat) (attrs : Array Attribute := #[]) (ms : Array MethodInfo := #[]) (fl : Nat := 33) (sup : Nat := 0) (ifs : Array Nat := #[]) (fds : Array FieldInfo := #[]) : ClassFile where
  minorVersion := 0
  majorVersion := 65
  constantPool := pool
  accessFlags := fl
  thisClass := this
  superClass := sup
  interfaces := ifs
  fields := fds
  methods := ms
  attributes := attrs
def plain (name : String) (sup : Option ClassId) : Class where
  name := name
  kind := .ordinary
  loader := none
  accessFlags := 33
  super := sup
  interfaces := #[]
  cf := none
  fields := #[]
  methods := #[]
  instanceTypes := #[]
  staticTypes := #[]
  resolved := #[]
  callSites := []
  init := .initialized
  statics := none
  mirror := none

def pool0 : Array CpInfo := pool [(5, u "<init>"), (0, u "()V"), (1, .class_ 10), (1, u "java/lang/Object")] 113

def k0c0 : Code := { maxStack := 0, maxLocals := 1, code := object_method_1_code, exceptionTable := #[], attributes := #[] }
def k0m0 : Method := { name := "<init>", desc := "()V", sig := { parameters := [], returnType := none }, accessFlags := 1, code := some k0c0 }
/-- java/lang/Object -/
def k0 : Class := { plain "java/lang/Object" none with
  accessFlags := 33
  interfaces := #[]
  cf := some (fileOf pool0 8 #[] #[{ accessFlags := 1, nameIndex := 5, descriptorIndex := 6, attributes := #[] }] 33 0 #[] #[])
  fields := #[]
  methods := #[k0m0]
  instanceTypes := #[]
  staticTypes := #[]
  resolved := Array.replicate 124 none
  statics := none }

def pool1 : Array CpInfo := pool [(2, .class_ 4), (0, .nameAndType 5 6), (0, u "java/lang/Object"), (0, u "<init>"), (0, u "()V"), (0, .double 4611686018427387904), (1, .double 4613937818241073152), (1, .double 4616189618054758400), (1, .class_ 14), (0, u "com/example/kin_bloom/kinbloom/eval/Sample"), (0, .methodref 13 3), (0, .methodref 13 17), (0, .nameAndType 18 19), (0, u "mean"), (0, u "()D"), (0, .methodref 13 21), (0, .nameAndType 22 23), (0, u "add"), (0, u "(D)V"), (0, .class_ 25), (0, u "com/example/kin_bloom/kinbloom/eval/SampleAddPinLaw"), (2, u "law"), (0, u "(IIII)Z")] 3

def k1m0 : Method := { name := "<init>", desc := "()V", sig := { parameters := [], returnType := none }, accessFlags := 2, code := none }
def k1c1 : Code := { maxStack := 6, maxLocals := 19, code := code, exceptionTable := #[], attributes := #[] }
def k1m1 : Method := { name := "law", desc := "(IIII)Z", sig := { parameters := [.int, .int, .int, .int], returnType := some .boolean }, accessFlags := 9, code := some k1c1 }
/-- com/example/kin_bloom/kinbloom/eval/SampleAddPinLaw -/
def k1 : Class := { plain "com/example/kin_bloom/kinbloom/eval/SampleAddPinLaw" (some 0) with
  accessFlags := 49
  interfaces := #[]
  cf := some (fileOf pool1 24 #[] #[{ accessFlags := 2, nameIndex := 5, descriptorIndex := 6, attributes := #[] }, { accessFlags := 9, nameIndex := 28, descriptorIndex := 29, attributes := #[] }] 49 2 #[] #[])
  fields := #[]
  methods := #[k1m0, k1m1]
  instanceTypes := #[]
  staticTypes := #[]
  resolved := Array.replicate 33 none
  statics := none }

def pool2 : Array CpInfo := pool [(1, .methodref 2 3), (0, .class_ 4), (0, .nameAndType 5 6), (0, u "java/lang/Object"), (0, u "<init>"), (0, u "()V"), (0, .fieldref 8 9), (0, .class_ 10), (0, .nameAndType 11 12), (0, u "com/example/kin_bloom/kinbloom/eval/Sample"), (0, u "count"), (0, u "J"), (0, .fieldref 8 14), (0, .nameAndType 15 16), (0, u "mean"), (0, u "D"), (0, .fieldref 8 18), (0, .nameAndType 19 16), (0, u "squaredDeviations"), (18, u "add"), (0, u "(D)V"), (0, u "()D")] 4

def k2c0 : Code := { maxStack := 1, maxLocals := 1, code := prog_36_method_1_code, exceptionTable := #[], attributes := #[] }
def k2m0 : Method := { name := "<init>", desc := "()V", sig := { parameters := [], returnType := none }, accessFlags := 0, code := some k2c0 }
def k2c1 : Code := { maxStack := 9, maxLocals := 5, code := prog_36_method_2_code, exceptionTable := #[], attributes := #[] }
def k2m1 : Method := { name := "add", desc := "(D)V", sig := { parameters := [.double], returnType := none }, accessFlags := 0, code := some k2c1 }
def k2c2 : Code := { maxStack := 2, maxLocals := 1, code := prog_36_method_3_code, exceptionTable := #[], attributes := #[] }
def k2m2 : Method := { name := "mean", desc := "()D", sig := { parameters := [], returnType := some .double }, accessFlags := 0, code := some k2c2 }
/-- com/example/kin_bloom/kinbloom/eval/Sample -/
def k2 : Class := { plain "com/example/kin_bloom/kinbloom/eval/Sample" (some 0) with
  accessFlags := 48
  interfaces := #[]
  cf := some (fileOf pool2 8 #[] #[{ accessFlags := 0, nameIndex := 5, descriptorIndex := 6, attributes := #[] }, { accessFlags := 0, nameIndex := 38, descriptorIndex := 39, attributes := #[] }, { accessFlags := 0, nameIndex := 15, descriptorIndex := 40, attributes := #[] }] 48 2 #[] #[{ accessFlags := 2, nameIndex := 11, descriptorIndex := 12, attributes := #[] }, { accessFlags := 2, nameIndex := 15, descriptorIndex := 16, attributes := #[] }, { accessFlags := 2, nameIndex := 19, descriptorIndex := 16, attributes := #[] }])
  fields := #[{ name := "count", type := .long, accessFlags := 2, slot := 0, constantValue := 0 }, { name := "mean", type := .double, accessFlags := 2, slot := 1, constantValue := 0 }, { name := "squaredDeviations", type := .double, accessFlags := 2, slot := 2, constantValue := 0 }]
  methods := #[k2m0, k2m1, k2m2]
  instanceTypes := #[.long, .double, .double]
  staticTypes := #[]
  resolved := Array.replicate 45 none
  statics := none }

def pool3 : Array CpInfo := pool [(1, u "java/lang/Cloneable"), (0, .class_ 1), (0, u "java/lang/Object"), (0, .class_ 3)] 3

/-- java/lang/Cloneable -/
def k3 : Class := { plain "java/lang/Cloneable" (some 0) with
  accessFlags := 1537
  interfaces := #[]
  cf := some (fileOf pool3 2 #[] #[] 1537 4 #[] #[])
  fields := #[]
  methods := #[]
  instanceTypes := #[]
  staticTypes := #[]
  resolved := Array.replicate 8 none
  statics := none }

def pool4 : Array CpInfo := pool [(1, u "java/io/Serializable"), (0, .class_ 1), (0, u "java/lang/Object"), (0, .class_ 3)] 3

/-- java/io/Serializable -/
def k4 : Class := { plain "java/io/Serializable" (some 0) with
  accessFlags := 1537
  interfaces := #[]
  cf := some (fileOf pool4 2 #[] #[] 1537 4 #[] #[])
  fields := #[]
  methods := #[]
  instanceTypes := #[]
  staticTypes := #[]
  resolved := Array.replicate 8 none
  statics := none }

/-- the primitive byte -/
def k5 : Class := { plain "byte" none with kind := .primitive 'B', accessFlags := 0x411 }
/-- [B -/
def k6 : Class := { plain "[B" (some 0) with kind := .array 5 .byte, interfaces := #[3, 4], accessFlags := 1041 }

/-- the primitive int -/
def k7 : Class := { plain "int" none with kind := .primitive 'I', accessFlags := 0x411 }
/-- [I -/
def k8 : Class := { plain "[I" (some 0) with kind := .array 7 .int, interfaces := #[3, 4], accessFlags := 1041 }

def heap : Heap := #[]
def classes : Array Class := #[k0, k1, k2, k3, k4, k5, k6, k7, k8]
def interned : List (Array UInt16 × Addr) := []
def slotsUsed : Nat := 0
def theMethod : MethodId := ⟨1, 1⟩
def args0 : Array Value := #[.int 5, .int 5, .int 5, .int 5]
def aboutOver (below : List Frame) : State where
  vm := { classes := classes, interned := interned.toArray }
  heap := heap
  slotsUsed := slotsUsed
  threads := #[{ frames := .invoking theMethod args0 :: below }]
def below0 : List Frame := [.native { method := ⟨0, 0⟩, args := #[] }]
def about1 : State := aboutOver below0
def p0 : Program := .bare "" "" ""
def e0 : Env := launch0.env 0 0 0
theorem w_frames : about1.frames = Frame.invoking theMethod args0 :: below0 := rfl
set_option maxRecDepth 65536 in
theorem w_args : argsFit about1.vm theMethod args0 = true := by decide +kernel
set_option maxRecDepth 65536 in
theorem w_heap : heapFits about1 = true := by decide +kernel
set_option maxRecDepth 65536 in
theorem w_runnable : about1.curStatus? = some .runnable := by decide +kernel
set_option maxRecDepth 65536 in
theorem w_alone : about1.alone = true := by decide +kernel
set_option maxRecDepth 65536 in
theorem w_named : about1.methodNamed? x = some theMethod := by decide +kernel
set_option maxRecDepth 65536 in
theorem w_hears : about1.hears theMethod below0 = true := by decide +kernel
set_option maxRecDepth 65536 in
theorem w_ripe : about1.ripe theMethod args0 below0 = true := by decide +kernel
theorem w_running : about1.status = .running := rfl
set_option maxRecDepth 65536 in
theorem w_room : about1.hasRoom e0.platform room_1 = true :=
  launch0.hasRoom_least _ room_1 (by decide +kernel) (by decide +kernel) (by decide +kernel) (by decide +kernel) (by decide +kernel) (by decide +kernel)
theorem allAtoms_all (ts : List Jvm.Cond) (a : Array Jvm.Value) (st : Jvm.State) : (allAtoms ts).before a st = ts.all (fun c => c.before a st) := by
  induction ts with
  | nil => rfl
  | cons c t ih =>
    show (Jvm.Cond.and c (allAtoms t)).before a st = _
    rw [Jvm.Cond.before_and, ih, List.all_cons]
def words1 : List Jvm.Cond := Jvm.Cond.code x code maxLocals ret :: tables_1
/-- a 'code' word, met by the world's own term for the bytes: nothing is compared byte by byte -/
theorem code_word {y : MethodName} {bytes : ByteArray} {mx : Nat} {rt : Option FieldType} {a : Array Value} {s : State} {m : MethodId} {meth : Method} {c : Code} (h1 : s.methodNamed? y = some m) (h2 : s.vm.method? m = some meth) (h3 : meth.code = some c) (h4 : c.code = bytes)
    (h5 : (c.maxLocals == mx && c.exceptionTable.isEmpty && decide (c.maxStack ≤ mostOperands) && decide (meth.sig.returnType = rt) && !meth.locks && decide (parseMethodDescriptor y.desc = some meth.sig)) = true) : (Jvm.Cond.code y bytes mx rt).before a s = true := by
  simp only [Bool.and_eq_true, beq_iff_eq, Bool.not_eq_true', decide_eq_true_eq] at h5
  obtain ⟨⟨⟨⟨⟨g1, g2⟩, g3⟩, g4⟩, g5⟩, g6⟩ := h5
  simp [Cond.before, Cond.holds, Cond.value, h1, h2, h3, h4, g1, g2, g3, g4, g5, g6]
def isCode : Jvm.Cond → Bool
  | .code _ _ _ _ => true
  | _ => false
theorem all_split {L : List Jvm.Cond} {P : Jvm.Cond → Bool} (h1 : L.all (fun c => isCode c || P c) = true) (h2 : ∀ c ∈ L.filter isCode, P c = true) : L.all P = true := by
  refine List.all_eq_true.mpr fun c hc => ?_
  have h := List.all_eq_true.mp h1 c hc
  rcases Bool.eq_false_or_eq_true (isCode c) with hi | hi
  · exact h2 c (List.mem_filter.mpr ⟨hc, hi⟩)
  · simpa [hi] using h
set_option maxRecDepth 65536 in
theorem w_c0 : (Jvm.Cond.code x code maxLocals ret).before args0 about1 = true := code_word (m := ⟨1, 1⟩) (meth := k1m1) (c := k1c1) (by decide +kernel) rfl rfl rfl (by decide +kernel)
set_option maxRecDepth 65536 in
theorem w_c1 : (Jvm.Cond.code ({ cls := "com/example/kin_bloom/kinbloom/eval/Sample", name := "<init>", desc := "()V" } : Jvm.MethodName) prog_36_method_1_code (1 : Nat) (Option.none : Option Jvm.ClassFile.FieldType)).before args0 about1 = true := code_word (m := ⟨2, 0⟩) (meth := k2m0) (c := k2c0) (by decide +kernel) rfl rfl rfl (by decide +kernel)
set_option maxRecDepth 65536 in
theorem w_c2 : (Jvm.Cond.code ({ cls := "java/lang/Object", name := "<init>", desc := "()V" } : Jvm.MethodName) object_method_1_code (1 : Nat) (Option.none : Option Jvm.ClassFile.FieldType)).before args0 about1 = true := code_word (m := ⟨0, 0⟩) (meth := k0m0) (c := k0c0) (by decide +kernel) rfl rfl rfl (by decide +kernel)
set_option maxRecDepth 65536 in
theorem w_c3 : (Jvm.Cond.code ({ cls := "com/example/kin_bloom/kinbloom/eval/Sample", name := "mean", desc := "()D" } : Jvm.MethodName) prog_36_method_3_code (1 : Nat) (Option.some Jvm.ClassFile.FieldType.double)).before args0 about1 = true := code_word (m := ⟨2, 2⟩) (meth := k2m2) (c := k2c2) (by decide +kernel) rfl rfl rfl (by decide +kernel)
set_option maxRecDepth 65536 in
theorem w_c4 : (Jvm.Cond.code ({ cls := "com/example/kin_bloom/kinbloom/eval/Sample", name := "add", desc := "(D)V" } : Jvm.MethodName) prog_36_method_2_code (5 : Nat) (Option.none : Option Jvm.ClassFile.FieldType)).before args0 about1 = true := code_word (m := ⟨2, 1⟩) (meth := k2m1) (c := k2c1) (by decide +kernel) rfl rfl rfl (by decide +kernel)
def codes1 : List Jvm.Cond := [Jvm.Cond.code x code maxLocals ret, Jvm.Cond.code ({ cls := "com/example/kin_bloom/kinbloom/eval/Sample", name := "<init>", desc := "()V" } : Jvm.MethodName) prog_36_method_1_code (1 : Nat) (Option.none : Option Jvm.ClassFile.FieldType), Jvm.Cond.code ({ cls := "java/lang/Object", name := "<init>", desc := "()V" } : Jvm.MethodName) object_method_1_code (1 : Nat) (Option.none : Option Jvm.ClassFile.FieldType), Jvm.Cond.code ({ cls := "com/example/kin_bloom/kinbloom/eval/Sample", name := "mean", desc := "()D" } : Jvm.MethodName) prog_36_method_3_code (1 : Nat) (Option.some Jvm.ClassFile.FieldType.double), Jvm.Cond.code ({ cls := "com/example/kin_bloom/kinbloom/eval/Sample", name := "add", desc := "(D)V" } : Jvm.MethodName) prog_36_method_2_code (5 : Nat) (Option.none : Option Jvm.ClassFile.FieldType)]
set_option maxRecDepth 65536 in
theorem codes_eq : words1.filter isCode = codes1 := rfl
theorem w_codes : ∀ c ∈ words1.filter isCode, c.before args0 about1 = true := by
  rw [codes_eq]
  intro c hc
  simp only [codes1, List.mem_cons, List.not_mem_nil, or_false] at hc
  rcases hc with rfl | rfl | rfl | rfl | rfl
  · exact w_c0
  · exact w_c1
  · exact w_c2
  · exact w_c3
  · exact w_c4
set_option maxRecDepth 65536 in
theorem w_t1 : (words1.take 24).all (fun c => isCode c || c.before args0 about1) = true := by decide +kernel
set_option maxRecDepth 65536 in
theorem w_t2 : (words1.drop 24).all (fun c => isCode c || c.before args0 about1) = true := by decide +kernel
theorem w_tables : (allAtoms (Jvm.Cond.code x code maxLocals ret :: tables_1)).before args0 about1 = true := by
  rw [allAtoms_all]
  show words1.all (fun c => c.before args0 about1) = true
  refine all_split ?_ w_codes
  rw [← List.take_append_drop 24 words1, List.all_append, w_t1, w_t2]
  rfl
set_option maxRecDepth 65536 in
theorem w_case : (Jvm.Cond.and given_1 narrow_1).before args0 about1 = true := by decide +kernel
theorem w_applies : (headSpec (Jvm.Cond.code x code maxLocals ret :: tables_1) room_1).applies x e0.platform about1 = true :=
  (Spec.applies_iff w_frames).mpr ⟨w_running, w_runnable, w_alone, w_named, w_hears, w_ripe, w_room, w_tables⟩
theorem atStart : AtStart classFile x code maxLocals ret World_1 tables_1 room_1 Calls_1 rest_1 Pre_1 launch0 p0 e0 about1 theMethod args0 below0 :=
  ⟨lists_1, trivial, launch0.admits_env _ _ _, launch0.least_env, fairChoices_fair.cas, fairChoices_fair.clock, w_frames, w_args, w_heap, w_applies, trivial, trivial, w_case⟩
end start1
theorem witness_1 : WitnessClaimed_1 := ⟨start1.p0, start1.e0, start1.about1, start1.theMethod, start1.args0, start1.below0, start1.atStart⟩
end Jvm.Pilot.@@N@@
