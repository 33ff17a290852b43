import JvmDerived
import JvmDerived.Pilot.@@N@@Statement
import JvmDerived.Pilot.@@N@@Code
set_option linter.unusedVariables false
set_option linter.unusedSimpArgs false
@@BLOCK:NumsL.lean.txt@@
namespace Jvm.Pilot.@@N@@
open Jvm Jvm.ClassFile Sem Op Lib Jvm.Free Jvm.Stand Jvm.LawKit Jvm.RoadKit Bundle Jvm.Pilot.@@N@@.Jvm.D
section OwnKit
theorem own_w {Z : State} {a0 : Array Value} (hw : ∀ d ∈ tables_1, d.before a0 Z = true) {d : Jvm.Cond} (i : Nat) (h : tables_1[i]? = some d) : d.before a0 Z = true := hw d (List.mem_of_getElem? h)
theorem own_narb (x : Int32) : nar .byte (x.toInt8.toInt32) = x.toInt8.toInt32 := by
  show (x.toInt8.toInt32).toInt8.toInt32 = x.toInt8.toInt32
  rw [Int8.toInt8_toInt32]
theorem own_narc (x : Int32) : nar .char (x.toUInt32.toUInt16.toUInt32.toInt32) = x.toUInt32.toUInt16.toUInt32.toInt32 := by
  show (x.toUInt32.toUInt16.toUInt32.toInt32).toUInt32.toUInt16.toUInt32.toInt32 = _
  have : (x.toUInt32.toUInt16.toUInt32.toInt32).toUInt32 = x.toUInt32.toUInt16.toUInt32 := rfl
  rw [this]
  have : x.toUInt32.toUInt16.toUInt32.toUInt16 = x.toUInt32.toUInt16 := by rw [← UInt16.toNat_inj]; simp
  rw [this]
theorem own_plain {Z : State} {h : Heap} {a : Addr} {C : String} (F : Exa Z h a C) : ∃ c : Cell, h[a]? = some c ∧ c.vm.isStatics = false := by
  obtain ⟨c, _, h1, -, -, h4, -⟩ := F; exact ⟨c, h1, h4⟩
theorem own_plainV {Z : State} {h : Heap} {a : Addr} {k : ClassId} {ty : FieldType} {z : Int32} {vs : List Value} {d : Value} (F : Arv Z h a k ty z vs d) : ∃ c : Cell, h[a]? = some c ∧ c.vm.isStatics = false := by
  obtain ⟨c, A, -⟩ := F; exact ⟨c, A.1, A.plain⟩
theorem own_Sta_keep {Z : State} {h h' : Heap} {C n d : String} {v : Value} {ws : List Addr} (F : Sta Z h C n d v) (K : Keep h h' ws) (q : ∀ a ∈ ws, ∃ c : Cell, h[a]? = some c ∧ c.vm.isStatics = false) : Sta Z h' C n d v := by
  obtain ⟨cf, i, k, f, st, cell, h1, h2, h3, h4, h5, h6, h7⟩ := F
  have ne : st ∉ ws := fun hm => by
    obtain ⟨c, g1, g2⟩ := q st hm
    cases h5.symm.trans g1
    rw [h6] at g2; cases g2
  exact ⟨cf, i, k, f, st, cell, h1, h2, h3, h4, K.2.1 _ _ h5 ne, h6, h7⟩
theorem own_NSroot {Z : State} {a0 : Array Value} {O K : String} {j : Nat} (w : (Cond.noSuperclass O).before a0 Z = true) (wk : (Cond.instantiable K j).before a0 Z = true) (hn : O ≠ K) : NS Z O K := by
  obtain ⟨c, k, h1, h2, h3, -⟩ := Cond.noSuperclass_spec w
  obtain ⟨t, kt, g1, -⟩ := Cond.instantiable_spec wk
  refine ⟨c, t, h1, g1, fun fuel => ?_⟩
  cases fuel with
  | zero => rfl
  | succ f => simp [Vm.isSubclassAux, ids_ne h1 g1 hn, h2, h3]
theorem own_NSno {Z : State} {a0 : Array Value} {C S K : String} {j : Nat} (w : (Cond.superclass C S).before a0 Z = true) (wk : (Cond.instantiable K j).before a0 Z = true) (q : NS Z C K) (hn : C ≠ K) : ∃ c t, Z.vm.findClass C = some c ∧ Z.vm.findClass K = some t ∧ Z.vm.assignable c t = false := by
  obtain ⟨c, t, h0, g0, n3⟩ := q
  obtain ⟨_, k, _, _, h2, _, _, h5, -⟩ := Cond.superclass_spec h0 w
  obtain ⟨t', kt, g1, g2, g5, g7, -⟩ := Cond.instantiable_spec wk
  cases g0.symm.trans g1
  have g8 : kt.isInterface = false := by simpa using (Bool.or_eq_false_iff.mp g7).1
  refine ⟨c, t, h0, g0, ?_⟩
  show Z.vm.assignableAux (255 + 1) c t = false
  simp [Vm.assignableAux, ids_ne h0 g0 hn, h2, g2, h5, g5, g8, Vm.isSubclass, n3]
theorem own_hc {T : State} {h : Heap} {a : Addr} {c : Cell} (e : T.heap = h) (q : h[a]? = some c) : T.heap[a]? = some c := by subst e; exact q
def own_b (P : Prop) [Decidable P] : Int32 := if P then 1 else 0
theorem own_b1 {P : Prop} [Decidable P] (h : P) : own_b P = 1 := if_pos h
theorem own_b0 {P : Prop} [Decidable P] (h : ¬ P) : own_b P = 0 := if_neg h
variable {p : Program} {l : Launch} {e : Env} {R : Room} {s : State} {m : MethodId} {args : Array Value} {below : List Frame} {meth : Method} {c : Code} {T : State} {locs : List Loc} {cells slots : Nat}
def own_Fin (p : Program) (e : Env) (below : List Frame) (s : State) (Q : Option Value → Heap → List Loc → Prop) (k n : Nat) (A : State) : Prop := ∃ s₂ o, Steps p.tables e below A s₂ ∧ s₂.status = .running ∧ Ended s₂ below o ∧ ∃ v L, o = .returned v ∧ Q v s₂.heap L ∧ FrameEnd s o s₂ L k n
theorem own_go {Q : Option Value → Heap → List Loc → Prop} {k n : Nat} {A B : State} (h : ∀ t, Steps p.tables e below B t → Steps p.tables e below A t) (q : own_Fin p e below s Q k n B) : own_Fin p e below s Q k n A := by
  obtain ⟨s₂, o, h1, h2⟩ := q
  exact ⟨s₂, o, h _ h1, h2⟩
theorem own_retN {Q : Option Value → Heap → List Loc → Prop} {k n : Nat} (X : Stand p l e R s m args below meth c T locs cells slots) (hx : p.tables.exec = Jvm.exec) (hlk : meth.locks = false) {pc : Nat} {Ls : Array Slot} {z w : Int32} {t : FieldType} {rest : List Value} (hret : meth.sig.returnType = some t) (ht : t = .boolean ∨ t = .byte ∨ t = .char ∨ t = .short)
    (hd : decode c.code pc = .ok (.ireturn, 1)) {h : Heap} (eT : T.heap = h) (hz : nar t z = w) (hQ : Q (some (.int w)) h locs) (hk : cells ≤ k) (hn : slots ≤ n) : own_Fin p e below s Q k n (T.setTop (mkF m pc Ls (.int z :: rest))) := by
  subst hz eT
  obtain ⟨fs, hr, hrun, hended, hW, hsame⟩ := X.leave (v := some (.int (nar t z))) (fun h => by rw [hret] at h; cases h) hlk
  exact ⟨_, _, retN X hx hret ht hd hr, hrun, hended, _, _, rfl, hQ, ⟨_, rfl⟩, hW, hsame.mono hk hn⟩
theorem own_retI {Q : Option Value → Heap → List Loc → Prop} {k n : Nat} (X : Stand p l e R s m args below meth c T locs cells slots) (hx : p.tables.exec = Jvm.exec) (hlk : meth.locks = false) {pc : Nat} {Ls : Array Slot} {z : Int32} {rest : List Value} (hret : meth.sig.returnType = some .int)
    (hd : decode c.code pc = .ok (.ireturn, 1)) {h : Heap} (eT : T.heap = h) (hQ : Q (some (.int z)) h locs) (hk : cells ≤ k) (hn : slots ≤ n) : own_Fin p e below s Q k n (T.setTop (mkF m pc Ls (.int z :: rest))) := by
  subst eT
  obtain ⟨fs, hr, hrun, hended, hW, hsame⟩ := X.leave (v := some (.int z)) (fun h => by rw [hret] at h; cases h) hlk
  exact ⟨_, _, retOut X hx hret rfl (Or.inl ⟨rfl, Or.inl rfl, z, rfl⟩) hd hr, hrun, hended, _, _, rfl, hQ, ⟨_, rfl⟩, hW, hsame.mono hk hn⟩
theorem own_retJ {Q : Option Value → Heap → List Loc → Prop} {k n : Nat} (X : Stand p l e R s m args below meth c T locs cells slots) (hx : p.tables.exec = Jvm.exec) (hlk : meth.locks = false) {pc : Nat} {Ls : Array Slot} {z : Int64} {rest : List Value} (hret : meth.sig.returnType = some .long)
    (hd : decode c.code pc = .ok (.lreturn, 1)) {h : Heap} (eT : T.heap = h) (hQ : Q (some (.long z)) h locs) (hk : cells ≤ k) (hn : slots ≤ n) : own_Fin p e below s Q k n (T.setTop (mkF m pc Ls (.long z :: rest))) := by
  subst eT
  obtain ⟨fs, hr, hrun, hended, hW, hsame⟩ := X.leave (v := some (.long z)) (fun h => by rw [hret] at h; cases h) hlk
  exact ⟨_, _, retOut X hx hret rfl (Or.inr (Or.inl ⟨rfl, rfl, z, rfl⟩)) hd hr, hrun, hended, _, _, rfl, hQ, ⟨_, rfl⟩, hW, hsame.mono hk hn⟩
theorem own_retD {Q : Option Value → Heap → List Loc → Prop} {k n : Nat} (X : Stand p l e R s m args below meth c T locs cells slots) (hx : p.tables.exec = Jvm.exec) (hlk : meth.locks = false) {pc : Nat} {Ls : Array Slot} {z : UInt64} {rest : List Value} (hret : meth.sig.returnType = some .double)
    (hd : decode c.code pc = .ok (.dreturn, 1)) {h : Heap} (eT : T.heap = h) (hQ : Q (some (.double z)) h locs) (hk : cells ≤ k) (hn : slots ≤ n) : own_Fin p e below s Q k n (T.setTop (mkF m pc Ls (.double z :: rest))) := by
  subst eT
  obtain ⟨fs, hr, hrun, hended, hW, hsame⟩ := X.leave (v := some (.double z)) (fun h => by rw [hret] at h; cases h) hlk
  exact ⟨_, _, retOut X hx hret rfl (Or.inr (Or.inr (Or.inl ⟨rfl, rfl, z, rfl⟩))) hd hr, hrun, hended, _, _, rfl, hQ, ⟨_, rfl⟩, hW, hsame.mono hk hn⟩
theorem own_retA {Q : Option Value → Heap → List Loc → Prop} {k n : Nat} (X : Stand p l e R s m args below meth c T locs cells slots) (hx : p.tables.exec = Jvm.exec) (hlk : meth.locks = false) {pc : Nat} {Ls : Array Slot} {w : Value} {t : FieldType} {rest : List Value} (hret : meth.sig.returnType = some t) (ht : t.isReference = true) (hw : w.isRef = true)
    (hd : decode c.code pc = .ok (.areturn, 1)) {h : Heap} (eT : T.heap = h) (hQ : Q (some w) h locs) (hk : cells ≤ k) (hn : slots ≤ n) : own_Fin p e below s Q k n (T.setTop (mkF m pc Ls (w :: rest))) := by
  subst eT
  obtain ⟨fs, hr, hrun, hended, hW, hsame⟩ := X.leave (v := some w) (fun h => by rw [hret] at h; cases h) hlk
  have hnw : narrow t w = w := by
    rcases ref_cases hw with rfl | ⟨z, rfl⟩ <;> cases t <;> first | rfl | (cases ht; done)
  exact ⟨_, _, retOut X hx hret hnw (Or.inr (Or.inr (Or.inr (Or.inr ⟨rfl, ht, hw⟩)))) hd hr, hrun, hended, _, _, rfl, hQ, ⟨_, rfl⟩, hW, hsame.mono hk hn⟩
theorem own_retV {Q : Option Value → Heap → List Loc → Prop} {k n : Nat} (X : Stand p l e R s m args below meth c T locs cells slots) (hx : p.tables.exec = Jvm.exec) (hlk : meth.locks = false) {pc : Nat} {Ls : Array Slot} (hret : meth.sig.returnType = none)
    (hd : decode c.code pc = .ok (.return_, 1)) {h : Heap} (eT : T.heap = h) (hQ : Q none h locs) (hk : cells ≤ k) (hn : slots ≤ n) : own_Fin p e below s Q k n (T.setTop (mkF m pc Ls [])) := by
  subst eT
  obtain ⟨fs, hr, hrun, hended, hW, hsame⟩ := X.leave (v := none) (fun _ => rfl) hlk
  exact ⟨_, _, X.returnOut hx hret hd hr, hrun, hended, _, _, rfl, hQ, ⟨_, rfl⟩, hW, hsame.mono hk hn⟩
end OwnKit
section OwnNums
theorem own_iushr (x : Int32) {n : UInt32} {k : Nat} (hn : n.toNat = k) (h0 : 0 < k) (hk : k < 32) : ((x.toUInt32 >>> n).toInt32).toInt = (x.toInt % 4294967296) / 2 ^ k := by
  have e2 : ((x.toUInt32 >>> n).toInt32).toBitVec.toNat = x.toBitVec.toNat / 2 ^ k := by
    simp only [UInt32.toBitVec_toInt32, UInt32.toBitVec_shiftRight, Int32.toBitVec_toUInt32]
    simp [BitVec.toNat_ushiftRight, Nat.shiftRight_eq_div_pow, hn, Nat.mod_eq_of_lt hk]
  have hb := x.toBitVec.isLt
  have hp : 2 ^ 1 ≤ 2 ^ k := Nat.pow_le_pow_right (by decide) h0
  have hle : x.toBitVec.toNat / 2 ^ k ≤ x.toBitVec.toNat / 2 ^ 1 := Nat.div_le_div_left hp (by decide)
  have e3 : ((x.toUInt32 >>> n).toInt32).toInt = ((x.toBitVec.toNat / 2 ^ k : Nat) : Int) := by
    have : ((x.toUInt32 >>> n).toInt32).toInt = ((x.toUInt32 >>> n).toInt32).toBitVec.toInt := rfl
    rw [this, BitVec.toInt_eq_toNat_cond, e2, if_pos (by omega)]
  have e4 : x.toInt % 4294967296 = (x.toBitVec.toNat : Int) := by
    have : x.toInt = x.toBitVec.toInt := rfl
    rw [this, BitVec.toInt_eq_toNat_cond]
    split <;> omega
  rw [e3, e4, Int.natCast_ediv, Int.natCast_pow]
  rfl
theorem own_lushr (x : Int64) {n : UInt64} {k : Nat} (hn : n.toNat = k) (h0 : 0 < k) (hk : k < 64) : ((x.toUInt64 >>> n).toInt64).toInt = (x.toInt % 18446744073709551616) / 2 ^ k := by
  have e2 : ((x.toUInt64 >>> n).toInt64).toBitVec.toNat = x.toBitVec.toNat / 2 ^ k := by
    simp only [UInt64.toBitVec_toInt64, UInt64.toBitVec_shiftRight, Int64.toBitVec_toUInt64]
    simp [BitVec.toNat_ushiftRight, Nat.shiftRight_eq_div_pow, hn, Nat.mod_eq_of_lt hk]
  have hb := x.toBitVec.isLt
  have hp : 2 ^ 1 ≤ 2 ^ k := Nat.pow_le_pow_right (by decide) h0
  have hle : x.toBitVec.toNat / 2 ^ k ≤ x.toBitVec.toNat / 2 ^ 1 := Nat.div_le_div_left hp (by decide)
  have e3 : ((x.toUInt64 >>> n).toInt64).toInt = ((x.toBitVec.toNat / 2 ^ k : Nat) : Int) := by
    have : ((x.toUInt64 >>> n).toInt64).toInt = ((x.toUInt64 >>> n).toInt64).toBitVec.toInt := rfl
    rw [this, BitVec.toInt_eq_toNat_cond, e2, if_pos (by omega)]
  have e4 : x.toInt % 18446744073709551616 = (x.toBitVec.toNat : Int) := by
    have : x.toInt = x.toBitVec.toInt := rfl
    rw [this, BitVec.toInt_eq_toNat_cond]
    split <;> omega
  rw [e3, e4, Int.natCast_ediv, Int.natCast_pow]
  rfl
theorem own_l2i (x : Int64) : (x.toInt32.toInt - x.toInt) % 4294967296 = 0 := by rw [Int64.toInt_toInt32]; exact bm32 _
theorem own_div32 {x y : Int32} (hx : 0 ≤ x.toInt) (hy : 0 < y.toInt) : (x / y).toInt = x.toInt / y.toInt := by
  rw [Jvm.Kit.i32_div (by omega), Int.tdiv_eq_ediv_of_nonneg hx]
theorem own_div64 {x y : Int64} (hx : 0 ≤ x.toInt) (hy : 0 < y.toInt) : (x / y).toInt = x.toInt / y.toInt := by
  rw [Jvm.Kit.i64_div (by omega), Int.tdiv_eq_ediv_of_nonneg hx]
theorem own_i2c (x : Int32) : (x.toUInt32.toUInt16.toUInt32.toInt32).toInt = x.toInt % 65536 := by
  have e2 : (x.toUInt32.toUInt16.toUInt32.toInt32).toBitVec.toNat = x.toBitVec.toNat % 65536 := by
    show (x.toUInt32.toUInt16.toUInt32).toNat = _
    simp
    rfl
  have hb := x.toBitVec.isLt
  have e3 : (x.toUInt32.toUInt16.toUInt32.toInt32).toInt = (x.toUInt32.toUInt16.toUInt32.toInt32).toBitVec.toInt := rfl
  have e4 : x.toInt = x.toBitVec.toInt := rfl
  rw [e3, e4, BitVec.toInt_eq_toNat_cond, BitVec.toInt_eq_toNat_cond, e2]
  split <;> split <;> omega
theorem own_i2b (x : Int32) : ((x.toInt8.toInt32).toInt - x.toInt) % 256 = 0 ∧ -128 ≤ (x.toInt8.toInt32).toInt ∧ (x.toInt8.toInt32).toInt < 128 := by
  have h1 : (x.toInt8.toInt32).toInt = x.toInt8.toInt := Int8.toInt_toInt32 _
  have h2 := x.toInt8.toInt_lt; have h3 := x.toInt8.le_toInt
  have h4 : x.toInt8.toInt = x.toInt.bmod 256 := Int32.toInt_toInt8 x
  have h5 := Int.bmod_emod (x := x.toInt) (m := 256)
  rw [h1]; omega
end OwnNums
theorem own_pd0 : parseMethodDescriptor "(J[B)V" = some ⟨[.long, (.array .byte)], none⟩ := by decide +kernel
theorem own_pd1 : parseMethodDescriptor "(BI)J" = some ⟨[.byte, .int], some .long⟩ := by decide +kernel
theorem own_i32_56 : (56 : Int32).toInt = 56 := by decide
theorem own_i32_255 : (255 : Int32).toInt = 255 := by decide
theorem own_i32_48 : (48 : Int32).toInt = 48 := by decide
theorem own_i32_40 : (40 : Int32).toInt = 40 := by decide
theorem own_i32_32 : (32 : Int32).toInt = 32 := by decide
theorem own_i32_24 : (24 : Int32).toInt = 24 := by decide
theorem own_i32_16 : (16 : Int32).toInt = 16 := by decide
theorem own_i32_8 : (8 : Int32).toInt = 8 := by decide
theorem own_i32_0 : (0 : Int32).toInt = 0 := by decide
theorem own_ext64 {x y : Int64} (h : x.toBitVec.toNat = y.toBitVec.toNat) : x = y := Int64.toBitVec_inj.mp (BitVec.eq_of_toNat_eq h)
theorem own_Nor (x y : Int64) : (x ||| y).toBitVec.toNat = x.toBitVec.toNat ||| y.toBitVec.toNat := by
  rw [Int64.toBitVec_or, BitVec.toNat_or]
theorem own_Nnn (x : Int64) (h : 0 ≤ x.toInt) : (x.toBitVec.toNat : Int) = x.toInt := by
  have e : x.toInt = x.toBitVec.toInt := rfl
  have hb := x.toBitVec.isLt
  rw [e, BitVec.toInt_eq_toNat_cond] at h ⊢
  split at h <;> omega
theorem own_Nmod (x : Int64) : x.toInt % 18446744073709551616 = (x.toBitVec.toNat : Int) := by
  have e : x.toInt = x.toBitVec.toInt := rfl
  have hb := x.toBitVec.isLt
  rw [e, BitVec.toInt_eq_toNat_cond]
  split <;> omega
theorem own_Nushr (x : Int64) : ((x.toUInt64 >>> ((8 : Int32) &&& 0x3f).toInt64.toUInt64).toInt64).toBitVec.toNat = x.toBitVec.toNat / 256 := by
  have h1 := own_lushr x (n := ((8 : Int32) &&& 0x3f).toInt64.toUInt64) (k := 8) (by decide) (by decide) (by decide)
  have h2 := own_Nmod x
  have h3 := own_Nnn ((x.toUInt64 >>> ((8 : Int32) &&& 0x3f).toInt64.toUInt64).toInt64) (by rw [h1]; omega)
  rw [h1, h2] at h3
  omega
theorem own_Nbyte (x : Int64) : (((x.toInt32).toInt8.toInt32).toInt % 256).toNat = x.toBitVec.toNat % 256 := by
  have h1 := own_i2b (x.toInt32)
  have h2 := own_l2i x
  have h3 := own_Nmod x
  omega
theorem own_ush (p : Int32) (n : Int64) {k : Nat} (hn : (n.toBitVec.smod 64).toNat = k) (hk : k ≤ 56) : (((p &&& (255 : Int32)).toInt64) <<< n).toBitVec.toNat = (p.toInt % 256).toNat * 2 ^ k := by
  have e1 : ((p &&& (255 : Int32)).toInt64).toInt = p.toInt % 256 := by
    rw [Int32.toInt_toInt64, Jvm.Kit.i32_mask p 255 (k := 8) (by decide) (by decide)]
    rfl
  have e2 := own_Nnn ((p &&& (255 : Int32)).toInt64) (by omega)
  have e3 : ((p &&& (255 : Int32)).toInt64).toBitVec.toNat = (p.toInt % 256).toNat := by omega
  have e4 : (((p &&& (255 : Int32)).toInt64) <<< n).toBitVec.toNat = (((p &&& (255 : Int32)).toInt64).toBitVec <<< (n.toBitVec.smod 64)).toNat := rfl
  rw [e4, BitVec.shiftLeft_eq', BitVec.toNat_shiftLeft, hn, e3, Nat.shiftLeft_eq]
  have hp : 2 ^ k ≤ 2 ^ 56 := Nat.pow_le_pow_right (by decide) hk
  have hlt : (p.toInt % 256).toNat < 256 := by omega
  have hm : (p.toInt % 256).toNat * 2 ^ k < 256 * 2 ^ 56 := Nat.mul_lt_mul_of_lt_of_le hlt hp (by decide)
  exact Nat.mod_eq_of_lt (by simpa using hm)
theorem own_or8 {i a b c : Nat} (hb : b < 2 ^ i) (h : 2 ^ i * a + b = c) : 2 ^ i * a ||| b = c := by rw [← Nat.two_pow_add_eq_or_of_lt hb, h]
theorem own_bytes {U a b c d e f g h : Nat} (hU : U < 2 ^ 64) (h0 : a = (U / 2 ^ 56) % 256 * 2 ^ 56) (h1 : b = (U / 2 ^ 48) % 256 * 2 ^ 48) (h2 : c = (U / 2 ^ 40) % 256 * 2 ^ 40) (h3 : d = (U / 2 ^ 32) % 256 * 2 ^ 32)
    (h4 : e = (U / 2 ^ 24) % 256 * 2 ^ 24) (h5 : f = (U / 2 ^ 16) % 256 * 2 ^ 16) (h6 : g = (U / 2 ^ 8) % 256 * 2 ^ 8) (h7 : h = U % 256) : (((((((a ||| b) ||| c) ||| d) ||| e) ||| f) ||| g) ||| h) = U := by
  have s0 : a = 2 ^ 56 * (U / 2 ^ 56) := by omega
  have s1 : a ||| b = 2 ^ 48 * (U / 2 ^ 48) := by rw [s0]; exact own_or8 (by omega) (by omega)
  have s2 : (a ||| b) ||| c = 2 ^ 40 * (U / 2 ^ 40) := by rw [s1]; exact own_or8 (by omega) (by omega)
  have s3 : ((a ||| b) ||| c) ||| d = 2 ^ 32 * (U / 2 ^ 32) := by rw [s2]; exact own_or8 (by omega) (by omega)
  have s4 : (((a ||| b) ||| c) ||| d) ||| e = 2 ^ 24 * (U / 2 ^ 24) := by rw [s3]; exact own_or8 (by omega) (by omega)
  have s5 : ((((a ||| b) ||| c) ||| d) ||| e) ||| f = 2 ^ 16 * (U / 2 ^ 16) := by rw [s4]; exact own_or8 (by omega) (by omega)
  have s6 : (((((a ||| b) ||| c) ||| d) ||| e) ||| f) ||| g = 2 ^ 8 * (U / 2 ^ 8) := by rw [s5]; exact own_or8 (by omega) (by omega)
  rw [s6]; exact own_or8 (by omega) (by omega)
abbrev R_own_rm1 : Room := { frames := 0, cells := 0, slots := 0, locals := 0 }
theorem d1_0 : decode prog_26_method_3_code 0 = .ok (.bipush 7, 2) := by decide +kernel
theorem d1_2 : decode prog_26_method_3_code 2 = .ok (.istore_n 3, 1) := by decide +kernel
theorem d1_3 : decode prog_26_method_3_code 3 = .ok (.iload_n 3, 1) := by decide +kernel
theorem d1_4 : decode prog_26_method_3_code 4 = .ok (.ifCond .lt 20, 3) := by decide +kernel
theorem d1_7 : decode prog_26_method_3_code 7 = .ok (.aload_n 2, 1) := by decide +kernel
theorem d1_8 : decode prog_26_method_3_code 8 = .ok (.iload_n 3, 1) := by decide +kernel
theorem d1_9 : decode prog_26_method_3_code 9 = .ok (.lload_n 0, 1) := by decide +kernel
theorem d1_10 : decode prog_26_method_3_code 10 = .ok (.l2i, 1) := by decide +kernel
theorem d1_11 : decode prog_26_method_3_code 11 = .ok (.i2b, 1) := by decide +kernel
theorem d1_12 : decode prog_26_method_3_code 12 = .ok (.bastore, 1) := by decide +kernel
theorem d1_13 : decode prog_26_method_3_code 13 = .ok (.lload_n 0, 1) := by decide +kernel
theorem d1_14 : decode prog_26_method_3_code 14 = .ok (.bipush 8, 2) := by decide +kernel
theorem d1_16 : decode prog_26_method_3_code 16 = .ok (.lushr, 1) := by decide +kernel
theorem d1_17 : decode prog_26_method_3_code 17 = .ok (.lstore_n 0, 1) := by decide +kernel
theorem d1_18 : decode prog_26_method_3_code 18 = .ok (.iinc 3 (-1), 3) := by decide +kernel
theorem d1_21 : decode prog_26_method_3_code 21 = .ok (.goto (-18), 3) := by decide +kernel
theorem d1_24 : decode prog_26_method_3_code 24 = .ok (.return_, 1) := by decide +kernel
theorem own_pn0 : plainName "com/example/kin_bloom/kinbloom/eval/IntegerKeys" = true := by first | (simp [plainName, overriddenIn]; done) | decide +kernel
theorem ef_own_rm1 (m : MethodId) (x0 : Int64) (x1 : Addr) : entryFrame m #[(.long x0), (.ref x1)] 4 = mkF m 0 #[.val (.long x0), .second, .val (.ref x1), .unset] [] := by first | (simp [entryFrame, mkF, argsToLocals, Value.category]; done) | rfl
def Q_own_rm1 (Z : State) (q1 : Int64) (a2 : Addr) (kk : ClassId) (u0 : Int32) (u1 : Int32) (u2 : Int32) (u3 : Int32) (u4 : Int32) (u5 : Int32) (u6 : Int32) (u7 : Int32) (u8 : Int32) (u9 : Int32) (h0 : Heap) (n0 : Nat) (v : Option Value) (h : Heap) (L : List Loc) : Prop := v = none ∧ Fr n0 L ∧ Keep h0 h [a2] ∧ Arv Z h a2 kk .byte (10 : Int32) [(.int ((((((((((((((((q1.toUInt64 >>> ((8 : Int32) &&& 0x3f).toInt64.toUInt64).toInt64).toUInt64 >>> ((8 : Int32) &&& 0x3f).toInt64.toUInt64).toInt64).toUInt64 >>> ((8 : Int32) &&& 0x3f).toInt64.toUInt64).toInt64).toUInt64 >>> ((8 : Int32) &&& 0x3f).toInt64.toUInt64).toInt64).toUInt64 >>> ((8 : Int32) &&& 0x3f).toInt64.toUInt64).toInt64).toUInt64 >>> ((8 : Int32) &&& 0x3f).toInt64.toUInt64).toInt64).toUInt64 >>> ((8 : Int32) &&& 0x3f).toInt64.toUInt64).toInt64).toInt32).toInt8.toInt32)), (.int ((((((((((((((q1.toUInt64 >>> ((8 : Int32) &&& 0x3f).toInt64.toUInt64).toInt64).toUInt64 >>> ((8 : Int32) &&& 0x3f).toInt64.toUInt64).toInt64).toUInt64 >>> ((8 : Int32) &&& 0x3f).toInt64.toUInt64).toInt64).toUInt64 >>> ((8 : Int32) &&& 0x3f).toInt64.toUInt64).toInt64).toUInt64 >>> ((8 : Int32) &&& 0x3f).toInt64.toUInt64).toInt64).toUInt64 >>> ((8 : Int32) &&& 0x3f).toInt64.toUInt64).toInt64).toInt32).toInt8.toInt32)), (.int ((((((((((((q1.toUInt64 >>> ((8 : Int32) &&& 0x3f).toInt64.toUInt64).toInt64).toUInt64 >>> ((8 : Int32) &&& 0x3f).toInt64.toUInt64).toInt64).toUInt64 >>> ((8 : Int32) &&& 0x3f).toInt64.toUInt64).toInt64).toUInt64 >>> ((8 : Int32) &&& 0x3f).toInt64.toUInt64).toInt64).toUInt64 >>> ((8 : Int32) &&& 0x3f).toInt64.toUInt64).toInt64).toInt32).toInt8.toInt32)), (.int ((((((((((q1.toUInt64 >>> ((8 : Int32) &&& 0x3f).toInt64.toUInt64).toInt64).toUInt64 >>> ((8 : Int32) &&& 0x3f).toInt64.toUInt64).toInt64).toUInt64 >>> ((8 : Int32) &&& 0x3f).toInt64.toUInt64).toInt64).toUInt64 >>> ((8 : Int32) &&& 0x3f).toInt64.toUInt64).toInt64).toInt32).toInt8.toInt32)), (.int ((((((((q1.toUInt64 >>> ((8 : Int32) &&& 0x3f).toInt64.toUInt64).toInt64).toUInt64 >>> ((8 : Int32) &&& 0x3f).toInt64.toUInt64).toInt64).toUInt64 >>> ((8 : Int32) &&& 0x3f).toInt64.toUInt64).toInt64).toInt32).toInt8.toInt32)), (.int ((((((q1.toUInt64 >>> ((8 : Int32) &&& 0x3f).toInt64.toUInt64).toInt64).toUInt64 >>> ((8 : Int32) &&& 0x3f).toInt64.toUInt64).toInt64).toInt32).toInt8.toInt32)), (.int ((((q1.toUInt64 >>> ((8 : Int32) &&& 0x3f).toInt64.toUInt64).toInt64).toInt32).toInt8.toInt32)), (.int ((q1.toInt32).toInt8.toInt32)), (.int u8), (.int u9)] (.int (0 : Int32))
set_option maxRecDepth 65536 in
set_option maxHeartbeats 400000000 in
theorem own_rm1 (l : Launch) (Z : State) (a0 : Array Value) (hw : ∀ d ∈ tables_1, d.before a0 Z = true) (ws : List Jvm.Cond) (q1 : Int64) (a2 : Addr) (kk : ClassId) (u0 : Int32) (u1 : Int32) (u2 : Int32) (u3 : Int32) (u4 : Int32) (u5 : Int32) (u6 : Int32) (u7 : Int32) (u8 : Int32) (u9 : Int32) (h0 : Heap) (n0 : Nat) (Z0 : n0 ≤ h0.size) (P_V_a2 : Arv Z h0 a2 kk .byte (10 : Int32) [(.int u0), (.int u1), (.int u2), (.int u3), (.int u4), (.int u5), (.int u6), (.int u7), (.int u8), (.int u9)] (.int (0 : Int32))) (g_a2 : n0 ≤ a2) :
    MetFree l (⟨"com/example/kin_bloom/kinbloom/eval/IntegerKeys", "write", "(J[B)V"⟩ : MethodName) (head1 (Jvm.Cond.code (⟨"com/example/kin_bloom/kinbloom/eval/IntegerKeys", "write", "(J[B)V"⟩ : MethodName) prog_26_method_3_code 4 none :: ws) R_own_rm1) (fun a U => a = #[(.long q1), (.ref a2)] ∧ Z.Warmed39 U.vm ∧ U.heap = h0) (fun _ _ _ _ _ => True) (fun _ U o U' => ∃ v L, o = .returned v ∧ Q_own_rm1 Z q1 a2 kk u0 u1 u2 u3 u4 u5 u6 u7 u8 u9 h0 n0 v U'.heap L ∧ FrameEnd U o U' L R_own_rm1.cells R_own_rm1.slots) := by
  refine MetFree.of_bodySF (plainFor_of_name own_pn0) hisR ?_
  intro p e s m args below meth c s₁ Bd hml0 hP hK
  obtain ⟨rfl, hZ, hh⟩ := hP
  have hx := Bd.exec
  have hby := Bd.bytes
  have hml : c.maxLocals = 4 := hml0
  have hown : s.vm.findClass "com/example/kin_bloom/kinbloom/eval/IntegerKeys" = some m.cls := findClass_of_methodNamed Bd.named
  have hnm := (name_of_methodNamed Bd.named Bd.method).1
  have X0 : Stand p l e R_own_rm1 s m #[(.long q1), (.ref a2)] below meth c s₁ [] 0 0 := Stand.of_body Bd
  have e0 : s₁.heap = h0 := by rw [← hh, Bd.state]; rfl
  have N0 := Fr.nil n0
  have K0 : Keep h0 h0 [a2] := Keep.refl h0 [a2]
  show own_Fin p e below s (Q_own_rm1 Z q1 a2 kk u0 u1 u2 u3 u4 u5 u6 u7 u8 u9 h0 n0) R_own_rm1.cells R_own_rm1.slots (s₁.setTop (entryFrame m #[(.long q1), (.ref a2)] 4))
  refine own_go (fun _ k => castTop (ef_own_rm1 m q1 a2) k) ?_
  show own_Fin _ _ _ _ _ _ _ (s₁.setTop (mkF m 0 #[.val (.long q1), .second, .val (.ref a2), .unset] []))
  refine own_go (B := s₁.setTop (mkF m 2 #[.val (.long q1), .second, .val (.ref a2), .unset] [(.int (7 : Int32))])) (fun _ k => XS.bipush X0.here hx rfl (hb hby d1_0) k) ?_
  refine own_go (B := s₁.setTop (mkF m 3 #[.val (.long q1), .second, .val (.ref a2), .val (.int (7 : Int32))] [])) (fun _ k => XS.istoreN X0.here hx rfl (hb hby d1_2) rfl (l' := #[.val (.long q1), .second, .val (.ref a2), .val (.int (7 : Int32))]) rfl k) ?_
  refine own_go (B := s₁.setTop (mkF m 4 #[.val (.long q1), .second, .val (.ref a2), .val (.int (7 : Int32))] [(.int (7 : Int32))])) (fun _ k => XS.iloadN X0.here hx rfl (hb hby d1_3) rfl  k) ?_
  have hc1 : ¬ ((7 : Int32) < (0 : Int32)) := by decide
  refine own_go (B := s₁.setTop (mkF m 7 #[.val (.long q1), .second, .val (.ref a2), .val (.int (7 : Int32))] [])) (fun _ k => XS.ifNo X0.here hx rfl (hb hby d1_4) rfl ((if0 _ _).trans (flt hc1).1) k) ?_
  refine own_go (B := s₁.setTop (mkF m 8 #[.val (.long q1), .second, .val (.ref a2), .val (.int (7 : Int32))] [(.ref a2)])) (fun _ k => XS.aloadN X0.here hx rfl (hb hby d1_7) rfl rfl k) ?_
  refine own_go (B := s₁.setTop (mkF m 9 #[.val (.long q1), .second, .val (.ref a2), .val (.int (7 : Int32))] [(.int (7 : Int32)), (.ref a2)])) (fun _ k => XS.iloadN X0.here hx rfl (hb hby d1_8) rfl  k) ?_
  refine own_go (B := s₁.setTop (mkF m 10 #[.val (.long q1), .second, .val (.ref a2), .val (.int (7 : Int32))] [(.long q1), (.int (7 : Int32)), (.ref a2)])) (fun _ k => XS.lloadN X0.here hx rfl (hb hby d1_9) rfl  k) ?_
  refine own_go (B := s₁.setTop (mkF m 11 #[.val (.long q1), .second, .val (.ref a2), .val (.int (7 : Int32))] [(.int (q1.toInt32)), (.int (7 : Int32)), (.ref a2)])) (fun _ k => XS.l2i X0.here hx rfl (hb hby d1_10) rfl k) ?_
  refine own_go (B := s₁.setTop (mkF m 12 #[.val (.long q1), .second, .val (.ref a2), .val (.int (7 : Int32))] [(.int ((q1.toInt32).toInt8.toInt32)), (.int (7 : Int32)), (.ref a2)])) (fun _ k => XS.i2b X0.here hx rfl (hb hby d1_11) rfl k) ?_
  obtain ⟨cl2, Ar2, q2, S2, N2n, H2, G2⟩ := id P_V_a2
  have hin3 : ¬ ((7 : Int32) < 0 ∨ cl2.slots.size ≤ ((7 : Int32)).toNatClampNeg) := inb_of S2 ⟨by decide, by decide⟩
  obtain ⟨T3, h3, X3, e3, W3, st3⟩ := stB X0 hx hZ e0 Ar2 (j := (7 : Int32)) hin3 (g := (mkF m 12 #[.val (.long q1), .second, .val (.ref a2), .val (.int (7 : Int32))] [(.int ((q1.toInt32).toInt8.toInt32)), (.int (7 : Int32)), (.ref a2)])) rfl rfl (hb hby d1_12)
  rw [own_narb] at W3
  have V_a2_3 : Arv Z h3 a2 kk .byte (10 : Int32) [(.int u0), (.int u1), (.int u2), (.int u3), (.int u4), (.int u5), (.int u6), (.int ((q1.toInt32).toInt8.toInt32)), (.int u8), (.int u9)] (.int (0 : Int32)) := Arv.set Ar2 q2 S2 N2n H2 G2 (fits_nar_byte _) W3 7 rfl (Nat.le_of_ble_eq_true rfl)
  have K6 : Keep h0 h3 [a2] := K0.wr W3 (Or.inl (List.mem_of_getElem? (i := 0) rfl))
  have N3 := Fr.snoc X3 N0 g_a2
  refine own_go (B := T3.setTop (mkF m 13 #[.val (.long q1), .second, .val (.ref a2), .val (.int (7 : Int32))] [])) st3 ?_
  refine own_go (B := T3.setTop (mkF m 14 #[.val (.long q1), .second, .val (.ref a2), .val (.int (7 : Int32))] [(.long q1)])) (fun _ k => XS.lloadN X3.here hx rfl (hb hby d1_13) rfl  k) ?_
  refine own_go (B := T3.setTop (mkF m 16 #[.val (.long q1), .second, .val (.ref a2), .val (.int (7 : Int32))] [(.int (8 : Int32)), (.long q1)])) (fun _ k => XS.bipush X3.here hx rfl (hb hby d1_14) k) ?_
  refine own_go (B := T3.setTop (mkF m 17 #[.val (.long q1), .second, .val (.ref a2), .val (.int (7 : Int32))] [(.long ((q1.toUInt64 >>> ((8 : Int32) &&& 0x3f).toInt64.toUInt64).toInt64))])) (fun _ k => XS.lushr X3.here hx rfl (hb hby d1_16) rfl k) ?_
  refine own_go (B := T3.setTop (mkF m 18 #[.val (.long ((q1.toUInt64 >>> ((8 : Int32) &&& 0x3f).toInt64.toUInt64).toInt64)), .second, .val (.ref a2), .val (.int (7 : Int32))] [])) (fun _ k => XS.lstoreN X3.here hx rfl (hb hby d1_17) rfl (l' := #[.val (.long ((q1.toUInt64 >>> ((8 : Int32) &&& 0x3f).toInt64.toUInt64).toInt64)), .second, .val (.ref a2), .val (.int (7 : Int32))]) rfl k) ?_
  refine own_go (B := T3.setTop (mkF m 21 #[.val (.long ((q1.toUInt64 >>> ((8 : Int32) &&& 0x3f).toInt64.toUInt64).toInt64)), .second, .val (.ref a2), .val (.int ((7 : Int32) + (-1 : Int32)))] [])) (fun _ k => XS.iinc X3.here hx rfl (hb hby d1_18) rfl (l' := #[.val (.long ((q1.toUInt64 >>> ((8 : Int32) &&& 0x3f).toInt64.toUInt64).toInt64)), .second, .val (.ref a2), .val (.int ((7 : Int32) + (-1 : Int32)))]) rfl k) ?_
  rw [show ((7 : Int32) + (-1 : Int32)) = (6 : Int32) from by decide]
  show own_Fin _ _ _ _ _ _ _ (T3.setTop (mkF m 21 #[.val (.long ((q1.toUInt64 >>> ((8 : Int32) &&& 0x3f).toInt64.toUInt64).toInt64)), .second, .val (.ref a2), .val (.int (6 : Int32))] []))
  refine own_go (B := T3.setTop (mkF m 3 #[.val (.long ((q1.toUInt64 >>> ((8 : Int32) &&& 0x3f).toInt64.toUInt64).toInt64)), .second, .val (.ref a2), .val (.int (6 : Int32))] [])) (fun _ k => XS.goto X3.here hx rfl (pc0 := 21) (pc' := 3) rfl (hb hby d1_21) (by decide) (by decide) k) ?_
  refine own_go (B := T3.setTop (mkF m 4 #[.val (.long ((q1.toUInt64 >>> ((8 : Int32) &&& 0x3f).toInt64.toUInt64).toInt64)), .second, .val (.ref a2), .val (.int (6 : Int32))] [(.int (6 : Int32))])) (fun _ k => XS.iloadN X3.here hx rfl (hb hby d1_3) rfl  k) ?_
  have hc7 : ¬ ((6 : Int32) < (0 : Int32)) := by decide
  refine own_go (B := T3.setTop (mkF m 7 #[.val (.long ((q1.toUInt64 >>> ((8 : Int32) &&& 0x3f).toInt64.toUInt64).toInt64)), .second, .val (.ref a2), .val (.int (6 : Int32))] [])) (fun _ k => XS.ifNo X3.here hx rfl (hb hby d1_4) rfl ((if0 _ _).trans (flt hc7).1) k) ?_
  refine own_go (B := T3.setTop (mkF m 8 #[.val (.long ((q1.toUInt64 >>> ((8 : Int32) &&& 0x3f).toInt64.toUInt64).toInt64)), .second, .val (.ref a2), .val (.int (6 : Int32))] [(.ref a2)])) (fun _ k => XS.aloadN X3.here hx rfl (hb hby d1_7) rfl rfl k) ?_
  refine own_go (B := T3.setTop (mkF m 9 #[.val (.long ((q1.toUInt64 >>> ((8 : Int32) &&& 0x3f).toInt64.toUInt64).toInt64)), .second, .val (.ref a2), .val (.int (6 : Int32))] [(.int (6 : Int32)), (.ref a2)])) (fun _ k => XS.iloadN X3.here hx rfl (hb hby d1_8) rfl  k) ?_
  refine own_go (B := T3.setTop (mkF m 10 #[.val (.long ((q1.toUInt64 >>> ((8 : Int32) &&& 0x3f).toInt64.toUInt64).toInt64)), .second, .val (.ref a2), .val (.int (6 : Int32))] [(.long ((q1.toUInt64 >>> ((8 : Int32) &&& 0x3f).toInt64.toUInt64).toInt64)), (.int (6 : Int32)), (.ref a2)])) (fun _ k => XS.lloadN X3.here hx rfl (hb hby d1_9) rfl  k) ?_
  refine own_go (B := T3.setTop (mkF m 11 #[.val (.long ((q1.toUInt64 >>> ((8 : Int32) &&& 0x3f).toInt64.toUInt64).toInt64)), .second, .val (.ref a2), .val (.int (6 : Int32))] [(.int (((q1.toUInt64 >>> ((8 : Int32) &&& 0x3f).toInt64.toUInt64).toInt64).toInt32)), (.int (6 : Int32)), (.ref a2)])) (fun _ k => XS.l2i X3.here hx rfl (hb hby d1_10) rfl k) ?_
  refine own_go (B := T3.setTop (mkF m 12 #[.val (.long ((q1.toUInt64 >>> ((8 : Int32) &&& 0x3f).toInt64.toUInt64).toInt64)), .second, .val (.ref a2), .val (.int (6 : Int32))] [(.int ((((q1.toUInt64 >>> ((8 : Int32) &&& 0x3f).toInt64.toUInt64).toInt64).toInt32).toInt8.toInt32)), (.int (6 : Int32)), (.ref a2)])) (fun _ k => XS.i2b X3.here hx rfl (hb hby d1_11) rfl k) ?_
  obtain ⟨cl8, Ar8, q8, S8, N8n, H8, G8⟩ := id V_a2_3
  have hin9 : ¬ ((6 : Int32) < 0 ∨ cl8.slots.size ≤ ((6 : Int32)).toNatClampNeg) := inb_of S8 ⟨by decide, by decide⟩
  obtain ⟨T9, h9, X9, e9, W9, st9⟩ := stB X3 hx hZ e3 Ar8 (j := (6 : Int32)) hin9 (g := (mkF m 12 #[.val (.long ((q1.toUInt64 >>> ((8 : Int32) &&& 0x3f).toInt64.toUInt64).toInt64)), .second, .val (.ref a2), .val (.int (6 : Int32))] [(.int ((((q1.toUInt64 >>> ((8 : Int32) &&& 0x3f).toInt64.toUInt64).toInt64).toInt32).toInt8.toInt32)), (.int (6 : Int32)), (.ref a2)])) rfl rfl (hb hby d1_12)
  rw [own_narb] at W9
  have V_a2_9 : Arv Z h9 a2 kk .byte (10 : Int32) [(.int u0), (.int u1), (.int u2), (.int u3), (.int u4), (.int u5), (.int ((((q1.toUInt64 >>> ((8 : Int32) &&& 0x3f).toInt64.toUInt64).toInt64).toInt32).toInt8.toInt32)), (.int ((q1.toInt32).toInt8.toInt32)), (.int u8), (.int u9)] (.int (0 : Int32)) := Arv.set Ar8 q8 S8 N8n H8 G8 (fits_nar_byte _) W9 6 rfl (Nat.le_of_ble_eq_true rfl)
  have K12 : Keep h0 h9 [a2] := K6.wr W9 (Or.inl (List.mem_of_getElem? (i := 0) rfl))
  have N9 := Fr.snoc X9 N3 g_a2
  refine own_go (B := T9.setTop (mkF m 13 #[.val (.long ((q1.toUInt64 >>> ((8 : Int32) &&& 0x3f).toInt64.toUInt64).toInt64)), .second, .val (.ref a2), .val (.int (6 : Int32))] [])) st9 ?_
  refine own_go (B := T9.setTop (mkF m 14 #[.val (.long ((q1.toUInt64 >>> ((8 : Int32) &&& 0x3f).toInt64.toUInt64).toInt64)), .second, .val (.ref a2), .val (.int (6 : Int32))] [(.long ((q1.toUInt64 >>> ((8 : Int32) &&& 0x3f).toInt64.toUInt64).toInt64))])) (fun _ k => XS.lloadN X9.here hx rfl (hb hby d1_13) rfl  k) ?_
  refine own_go (B := T9.setTop (mkF m 16 #[.val (.long ((q1.toUInt64 >>> ((8 : Int32) &&& 0x3f).toInt64.toUInt64).toInt64)), .second, .val (.ref a2), .val (.int (6 : Int32))] [(.int (8 : Int32)), (.long ((q1.toUInt64 >>> ((8 : Int32) &&& 0x3f).toInt64.toUInt64).toInt64))])) (fun _ k => XS.bipush X9.here hx rfl (hb hby d1_14) k) ?_
  refine own_go (B := T9.setTop (mkF m 17 #[.val (.long ((q1.toUInt64 >>> ((8 : Int32) &&& 0x3f).toInt64.toUInt64).toInt64)), .second, .val (.ref a2), .val (.int (6 : Int32))] [(.long ((((q1.toUInt64 >>> ((8 : Int32) &&& 0x3f).toInt64.toUInt64).toInt64).toUInt64 >>> ((8 : Int32) &&& 0x3f).toInt64.toUInt64).toInt64))])) (fun _ k => XS.lushr X9.here hx rfl (hb hby d1_16) rfl k) ?_
  refine own_go (B := T9.setTop (mkF m 18 #[.val (.long ((((q1.toUInt64 >>> ((8 : Int32) &&& 0x3f).toInt64.toUInt64).toInt64).toUInt64 >>> ((8 : Int32) &&& 0x3f).toInt64.toUInt64).toInt64)), .second, .val (.ref a2), .val (.int (6 : Int32))] [])) (fun _ k => XS.lstoreN X9.here hx rfl (hb hby d1_17) rfl (l' := #[.val (.long ((((q1.toUInt64 >>> ((8 : Int32) &&& 0x3f).toInt64.toUInt64).toInt64).toUInt64 >>> ((8 : Int32) &&& 0x3f).toInt64.toUInt64).toInt64)), .second, .val (.ref a2), .val (.int (6 : Int32))]) rfl k) ?_
  refine own_go (B := T9.setTop (mkF m 21 #[.val (.long ((((q1.toUInt64 >>> ((8 : Int32) &&& 0x3f).toInt64.toUInt64).toInt64).toUInt64 >>> ((8 : Int32) &&& 0x3f).toInt64.toUInt64).toInt64)), .second, .val (.ref a2), .val (.int ((6 : Int32) + (-1 : Int32)))] [])) (fun _ k => XS.iinc X9.here hx rfl (hb hby d1_18) rfl (l' := #[.val (.long ((((q1.toUInt64 >>> ((8 : Int32) &&& 0x3f).toInt64.toUInt64).toInt64).toUInt64 >>> ((8 : Int32) &&& 0x3f).toInt64.toUInt64).toInt64)), .second, .val (.ref a2), .val (.int ((6 : Int32) + (-1 : Int32)))]) rfl k) ?_
  rw [show ((6 : Int32) + (-1 : Int32)) = (5 : Int32) from by decide]
  show own_Fin _ _ _ _ _ _ _ (T9.setTop (mkF m 21 #[.val (.long ((((q1.toUInt64 >>> ((8 : Int32) &&& 0x3f).toInt64.toUInt64).toInt64).toUInt64 >>> ((8 : Int32) &&& 0x3f).toInt64.toUInt64).toInt64)), .second, .val (.ref a2), .val (.int (5 : Int32))] []))
  refine own_go (B := T9.setTop (mkF m 3 #[.val (.long ((((q1.toUInt64 >>> ((8 : Int32) &&& 0x3f).toInt64.toUInt64).toInt64).toUInt64 >>> ((8 : Int32) &&& 0x3f).toInt64.toUInt64).toInt64)), .second, .val (.ref a2), .val (.int (5 : Int32))] [])) (fun _ k => XS.goto X9.here hx rfl (pc0 := 21) (pc' := 3) rfl (hb hby d1_21) (by decide) (by decide) k) ?_
  refine own_go (B := T9.setTop (mkF m 4 #[.val (.long ((((q1.toUInt64 >>> ((8 : Int32) &&& 0x3f).toInt64.toUInt64).toInt64).toUInt64 >>> ((8 : Int32) &&& 0x3f).toInt64.toUInt64).toInt64)), .second, .val (.ref a2), .val (.int (5 : Int32))] [(.int (5 : Int32))])) (fun _ k => XS.iloadN X9.here hx rfl (hb hby d1_3) rfl  k) ?_
  have hc13 : ¬ ((5 : Int32) < (0 : Int32)) := by decide
  refine own_go (B := T9.setTop (mkF m 7 #[.val (.long ((((q1.toUInt64 >>> ((8 : Int32) &&& 0x3f).toInt64.toUInt64).toInt64).toUInt64 >>> ((8 : Int32) &&& 0x3f).toInt64.toUInt64).toInt64)), .second, .val (.ref a2), .val (.int (5 : Int32))] [])) (fun _ k => XS.ifNo X9.here hx rfl (hb hby d1_4) rfl ((if0 _ _).trans (flt hc13).1) k) ?_
  refine own_go (B := T9.setTop (mkF m 8 #[.val (.long ((((q1.toUInt64 >>> ((8 : Int32) &&& 0x3f).toInt64.toUInt64).toInt64).toUInt64 >>> ((8 : Int32) &&& 0x3f).toInt64.toUInt64).toInt64)), .second, .val (.ref a2), .val (.int (5 : Int32))] [(.ref a2)])) (fun _ k => XS.aloadN X9.here hx rfl (hb hby d1_7) rfl rfl k) ?_
  refine own_go (B := T9.setTop (mkF m 9 #[.val (.long ((((q1.toUInt64 >>> ((8 : Int32) &&& 0x3f).toInt64.toUInt64).toInt64).toUInt64 >>> ((8 : Int32) &&& 0x3f).toInt64.toUInt64).toInt64)), .second, .val (.ref a2), .val (.int (5 : Int32))] [(.int (5 : Int32)), (.ref a2)])) (fun _ k => XS.iloadN X9.here hx rfl (hb hby d1_8) rfl  k) ?_
  refine own_go (B := T9.setTop (mkF m 10 #[.val (.long ((((q1.toUInt64 >>> ((8 : Int32) &&& 0x3f).toInt64.toUInt64).toInt64).toUInt64 >>> ((8 : Int32) &&& 0x3f).toInt64.toUInt64).toInt64)), .second, .val (.ref a2), .val (.int (5 : Int32))] [(.long ((((q1.toUInt64 >>> ((8 : Int32) &&& 0x3f).toInt64.toUInt64).toInt64).toUInt64 >>> ((8 : Int32) &&& 0x3f).toInt64.toUInt64).toInt64)), (.int (5 : Int32)), (.ref a2)])) (fun _ k => XS.lloadN X9.here hx rfl (hb hby d1_9) rfl  k) ?_
  refine own_go (B := T9.setTop (mkF m 11 #[.val (.long ((((q1.toUInt64 >>> ((8 : Int32) &&& 0x3f).toInt64.toUInt64).toInt64).toUInt64 >>> ((8 : Int32) &&& 0x3f).toInt64.toUInt64).toInt64)), .second, .val (.ref a2), .val (.int (5 : Int32))] [(.int (((((q1.toUInt64 >>> ((8 : Int32) &&& 0x3f).toInt64.toUInt64).toInt64).toUInt64 >>> ((8 : Int32) &&& 0x3f).toInt64.toUInt64).toInt64).toInt32)), (.int (5 : Int32)), (.ref a2)])) (fun _ k => XS.l2i X9.here hx rfl (hb hby d1_10) rfl k) ?_
  refine own_go (B := T9.setTop (mkF m 12 #[.val (.long ((((q1.toUInt64 >>> ((8 : Int32) &&& 0x3f).toInt64.toUInt64).toInt64).toUInt64 >>> ((8 : Int32) &&& 0x3f).toInt64.toUInt64).toInt64)), .second, .val (.ref a2), .val (.int (5 : Int32))] [(.int ((((((q1.toUInt64 >>> ((8 : Int32) &&& 0x3f).toInt64.toUInt64).toInt64).toUInt64 >>> ((8 : Int32) &&& 0x3f).toInt64.toUInt64).toInt64).toInt32).toInt8.toInt32)), (.int (5 : Int32)), (.ref a2)])) (fun _ k => XS.i2b X9.here hx rfl (hb hby d1_11) rfl k) ?_
  obtain ⟨cl14, Ar14, q14, S14, N14n, H14, G14⟩ := id V_a2_9
  have hin15 : ¬ ((5 : Int32) < 0 ∨ cl14.slots.size ≤ ((5 : Int32)).toNatClampNeg) := inb_of S14 ⟨by decide, by decide⟩
  obtain ⟨T15, h15, X15, e15, W15, st15⟩ := stB X9 hx hZ e9 Ar14 (j := (5 : Int32)) hin15 (g := (mkF m 12 #[.val (.long ((((q1.toUInt64 >>> ((8 : Int32) &&& 0x3f).toInt64.toUInt64).toInt64).toUInt64 >>> ((8 : Int32) &&& 0x3f).toInt64.toUInt64).toInt64)), .second, .val (.ref a2), .val (.int (5 : Int32))] [(.int ((((((q1.toUInt64 >>> ((8 : Int32) &&& 0x3f).toInt64.toUInt64).toInt64).toUInt64 >>> ((8 : Int32) &&& 0x3f).toInt64.toUInt64).toInt64).toInt32).toInt8.toInt32)), (.int (5 : Int32)), (.ref a2)])) rfl rfl (hb hby d1_12)
  rw [own_narb] at W15
  have V_a2_15 : Arv Z h15 a2 kk .byte (10 : Int32) [(.int u0), (.int u1), (.int u2), (.int u3), (.int u4), (.int ((((((q1.toUInt64 >>> ((8 : Int32) &&& 0x3f).toInt64.toUInt64).toInt64).toUInt64 >>> ((8 : Int32) &&& 0x3f).toInt64.toUInt64).toInt64).toInt32).toInt8.toInt32)), (.int ((((q1.toUInt64 >>> ((8 : Int32) &&& 0x3f).toInt64.toUInt64).toInt64).toInt32).toInt8.toInt32)), (.int ((q1.toInt32).toInt8.toInt32)), (.int u8), (.int u9)] (.int (0 : Int32)) := Arv.set Ar14 q14 S14 N14n H14 G14 (fits_nar_byte _) W15 5 rfl (Nat.le_of_ble_eq_true rfl)
  have K18 : Keep h0 h15 [a2] := K12.wr W15 (Or.inl (List.mem_of_getElem? (i := 0) rfl))
  have N15 := Fr.snoc X15 N9 g_a2
  refine own_go (B := T15.setTop (mkF m 13 #[.val (.long ((((q1.toUInt64 >>> ((8 : Int32) &&& 0x3f).toInt64.toUInt64).toInt64).toUInt64 >>> ((8 : Int32) &&& 0x3f).toInt64.toUInt64).toInt64)), .second, .val (.ref a2), .val (.int (5 : Int32))] [])) st15 ?_
  refine own_go (B := T15.setTop (mkF m 14 #[.val (.long ((((q1.toUInt64 >>> ((8 : Int32) &&& 0x3f).toInt64.toUInt64).toInt64).toUInt64 >>> ((8 : Int32) &&& 0x3f).toInt64.toUInt64).toInt64)), .second, .val (.ref a2), .val (.int (5 : Int32))] [(.long ((((q1.toUInt64 >>> ((8 : Int32) &&& 0x3f).toInt64.toUInt64).toInt64).toUInt64 >>> ((8 : Int32) &&& 0x3f).toInt64.toUInt64).toInt64))])) (fun _ k => XS.lloadN X15.here hx rfl (hb hby d1_13) rfl  k) ?_
  refine own_go (B := T15.setTop (mkF m 16 #[.val (.long ((((q1.toUInt64 >>> ((8 : Int32) &&& 0x3f).toInt64.toUInt64).toInt64).toUInt64 >>> ((8 : Int32) &&& 0x3f).toInt64.toUInt64).toInt64)), .second, .val (.ref a2), .val (.int (5 : Int32))] [(.int (8 : Int32)), (.long ((((q1.toUInt64 >>> ((8 : Int32) &&& 0x3f).toInt64.toUInt64).toInt64).toUInt64 >>> ((8 : Int32) &&& 0x3f).toInt64.toUInt64).toInt64))])) (fun _ k => XS.bipush X15.here hx rfl (hb hby d1_14) k) ?_
  refine own_go (B := T15.setTop (mkF m 17 #[.val (.long ((((q1.toUInt64 >>> ((8 : Int32) &&& 0x3f).toInt64.toUInt64).toInt64).toUInt64 >>> ((8 : Int32) &&& 0x3f).toInt64.toUInt64).toInt64)), .second, .val (.ref a2), .val (.int (5 : Int32))] [(.long ((((((q1.toUInt64 >>> ((8 : Int32) &&& 0x3f).toInt64.toUInt64).toInt64).toUInt64 >>> ((8 : Int32) &&& 0x3f).toInt64.toUInt64).toInt64).toUInt64 >>> ((8 : Int32) &&& 0x3f).toInt64.toUInt64).toInt64))])) (fun _ k => XS.lushr X15.here hx rfl (hb hby d1_16) rfl k) ?_
  refine own_go (B := T15.setTop (mkF m 18 #[.val (.long ((((((q1.toUInt64 >>> ((8 : Int32) &&& 0x3f).toInt64.toUInt64).toInt64).toUInt64 >>> ((8 : Int32) &&& 0x3f).toInt64.toUInt64).toInt64).toUInt64 >>> ((8 : Int32) &&& 0x3f).toInt64.toUInt64).toInt64)), .second, .val (.ref a2), .val (.int (5 : Int32))] [])) (fun _ k => XS.lstoreN X15.here hx rfl (hb hby d1_17) rfl (l' := #[.val (.long ((((((q1.toUInt64 >>> ((8 : Int32) &&& 0x3f).toInt64.toUInt64).toInt64).toUInt64 >>> ((8 : Int32) &&& 0x3f).toInt64.toUInt64).toInt64).toUInt64 >>> ((8 : Int32) &&& 0x3f).toInt64.toUInt64).toInt64)), .second, .val (.ref a2), .val (.int (5 : Int32))]) rfl k) ?_
  refine own_go (B := T15.setTop (mkF m 21 #[.val (.long ((((((q1.toUInt64 >>> ((8 : Int32) &&& 0x3f).toInt64.toUInt64).toInt64).toUInt64 >>> ((8 : Int32) &&& 0x3f).toInt64.toUInt64).toInt64).toUInt64 >>> ((8 : Int32) &&& 0x3f).toInt64.toUInt64).toInt64)), .second, .val (.ref a2), .val (.int ((5 : Int32) + (-1 : Int32)))] [])) (fun _ k => XS.iinc X15.here hx rfl (hb hby d1_18) rfl (l' := #[.val (.long ((((((q1.toUInt64 >>> ((8 : Int32) &&& 0x3f).toInt64.toUInt64).toInt64).toUInt64 >>> ((8 : Int32) &&& 0x3f).toInt64.toUInt64).toInt64).toUInt64 >>> ((8 : Int32) &&& 0x3f).toInt64.toUInt64).toInt64)), .second, .val (.ref a2), .val (.int ((5 : Int32) + (-1 : Int32)))]) rfl k) ?_
  rw [show ((5 : Int32) + (-1 : Int32)) = (4 : Int32) from by decide]
  show own_Fin _ _ _ _ _ _ _ (T15.setTop (mkF m 21 #[.val (.long ((((((q1.toUInt64 >>> ((8 : Int32) &&& 0x3f).toInt64.toUInt64).toInt64).toUInt64 >>> ((8 : Int32) &&& 0x3f).toInt64.toUInt64).toInt64).toUInt64 >>> ((8 : Int32) &&& 0x3f).toInt64.toUInt64).toInt64)), .second, .val (.ref a2), .val (.int (4 : Int32))] []))
  refine own_go (B := T15.setTop (mkF m 3 #[.val (.long ((((((q1.toUInt64 >>> ((8 : Int32) &&& 0x3f).toInt64.toUInt64).toInt64).toUInt64 >>> ((8 : Int32) &&& 0x3f).toInt64.toUInt64).toInt64).toUInt64 >>> ((8 : Int32) &&& 0x3f).toInt64.toUInt64).toInt64)), .second, .val (.ref a2), .val (.int (4 : Int32))] [])) (fun _ k => XS.goto X15.here hx rfl (pc0 := 21) (pc' := 3) rfl (hb hby d1_21) (by decide) (by decide) k) ?_
  refine own_go (B := T15.setTop (mkF m 4 #[.val (.long ((((((q1.toUInt64 >>> ((8 : Int32) &&& 0x3f).toInt64.toUInt64).toInt64).toUInt64 >>> ((8 : Int32) &&& 0x3f).toInt64.toUInt64).toInt64).toUInt64 >>> ((8 : Int32) &&& 0x3f).toInt64.toUInt64).toInt64)), .second, .val (.ref a2), .val (.int (4 : Int32))] [(.int (4 : Int32))])) (fun _ k => XS.iloadN X15.here hx rfl (hb hby d1_3) rfl  k) ?_
  have hc19 : ¬ ((4 : Int32) < (0 : Int32)) := by decide
  refine own_go (B := T15.setTop (mkF m 7 #[.val (.long ((((((q1.toUInt64 >>> ((8 : Int32) &&& 0x3f).toInt64.toUInt64).toInt64).toUInt64 >>> ((8 : Int32) &&& 0x3f).toInt64.toUInt64).toInt64).toUInt64 >>> ((8 : Int32) &&& 0x3f).toInt64.toUInt64).toInt64)), .second, .val (.ref a2), .val (.int (4 : Int32))] [])) (fun _ k => XS.ifNo X15.here hx rfl (hb hby d1_4) rfl ((if0 _ _).trans (flt hc19).1) k) ?_
  refine own_go (B := T15.setTop (mkF m 8 #[.val (.long ((((((q1.toUInt64 >>> ((8 : Int32) &&& 0x3f).toInt64.toUInt64).toInt64).toUInt64 >>> ((8 : Int32) &&& 0x3f).toInt64.toUInt64).toInt64).toUInt64 >>> ((8 : Int32) &&& 0x3f).toInt64.toUInt64).toInt64)), .second, .val (.ref a2), .val (.int (4 : Int32))] [(.ref a2)])) (fun _ k => XS.aloadN X15.here hx rfl (hb hby d1_7) rfl rfl k) ?_
  refine own_go (B := T15.setTop (mkF m 9 #[.val (.long ((((((q1.toUInt64 >>> ((8 : Int32) &&& 0x3f).toInt64.toUInt64).toInt64).toUInt64 >>> ((8 : Int32) &&& 0x3f).toInt64.toUInt64).toInt64).toUInt64 >>> ((8 : Int32) &&& 0x3f).toInt64.toUInt64).toInt64)), .second, .val (.ref a2), .val (.int (4 : Int32))] [(.int (4 : Int32)), (.ref a2)])) (fun _ k => XS.iloadN X15.here hx rfl (hb hby d1_8) rfl  k) ?_
  refine own_go (B := T15.setTop (mkF m 10 #[.val (.long ((((((q1.toUInt64 >>> ((8 : Int32) &&& 0x3f).toInt64.toUInt64).toInt64).toUInt64 >>> ((8 : Int32) &&& 0x3f).toInt64.toUInt64).toInt64).toUInt64 >>> ((8 : Int32) &&& 0x3f).toInt64.toUInt64).toInt64)), .second, .val (.ref a2), .val (.int (4 : Int32))] [(.long ((((((q1.toUInt64 >>> ((8 : Int32) &&& 0x3f).toInt64.toUInt64).toInt64).toUInt64 >>> ((8 : Int32) &&& 0x3f).toInt64.toUInt64).toInt64).toUInt64 >>> ((8 : Int32) &&& 0x3f).toInt64.toUInt64).toInt64)), (.int (4 : Int32)), (.ref a2)])) (fun _ k => XS.lloadN X15.here hx rfl (hb hby d1_9) rfl  k) ?_
  refine own_go (B := T15.setTop (mkF m 11 #[.val (.long ((((((q1.toUInt64 >>> ((8 : Int32) &&& 0x3f).toInt64.toUInt64).toInt64).toUInt64 >>> ((8 : Int32) &&& 0x3f).toInt64.toUInt64).toInt64).toUInt64 >>> ((8 : Int32) &&& 0x3f).toInt64.toUInt64).toInt64)), .second, .val (.ref a2), .val (.int (4 : Int32))] [(.int (((((((q1.toUInt64 >>> ((8 : Int32) &&& 0x3f).toInt64.toUInt64).toInt64).toUInt64 >>> ((8 : Int32) &&& 0x3f).toInt64.toUInt64).toInt64).toUInt64 >>> ((8 : Int32) &&& 0x3f).toInt64.toUInt64).toInt64).toInt32)), (.int (4 : Int32)), (.ref a2)])) (fun _ k => XS.l2i X15.here hx rfl (hb hby d1_10) rfl k) ?_
  refine own_go (B := T15.setTop (mkF m 12 #[.val (.long ((((((q1.toUInt64 >>> ((8 : Int32) &&& 0x3f).toInt64.toUInt64).toInt64).toUInt64 >>> ((8 : Int32) &&& 0x3f).toInt64.toUInt64).toInt64).toUInt64 >>> ((8 : Int32) &&& 0x3f).toInt64.toUInt64).toInt64)), .second, .val (.ref a2), .val (.int (4 : Int32))] [(.int ((((((((q1.toUInt64 >>> ((8 : Int32) &&& 0x3f).toInt64.toUInt64).toInt64).toUInt64 >>> ((8 : Int32) &&& 0x3f).toInt64.toUInt64).toInt64).toUInt64 >>> ((8 : Int32) &&& 0x3f).toInt64.toUInt64).toInt64).toInt32).toInt8.toInt32)), (.int (4 : Int32)), (.ref a2)])) (fun _ k => XS.i2b X15.here hx rfl (hb hby d1_11) rfl k) ?_
  obtain ⟨cl20, Ar20, q20, S20, N20n, H20, G20⟩ := id V_a2_15
  have hin21 : ¬ ((4 : Int32) < 0 ∨ cl20.slots.size ≤ ((4 : Int32)).toNatClampNeg) := inb_of S20 ⟨by decide, by decide⟩
  obtain ⟨T21, h21, X21, e21, W21, st21⟩ := stB X15 hx hZ e15 Ar20 (j := (4 : Int32)) hin21 (g := (mkF m 12 #[.val (.long ((((((q1.toUInt64 >>> ((8 : Int32) &&& 0x3f).toInt64.toUInt64).toInt64).toUInt64 >>> ((8 : Int32) &&& 0x3f).toInt64.toUInt64).toInt64).toUInt64 >>> ((8 : Int32) &&& 0x3f).toInt64.toUInt64).toInt64)), .second, .val (.ref a2), .val (.int (4 : Int32))] [(.int ((((((((q1.toUInt64 >>> ((8 : Int32) &&& 0x3f).toInt64.toUInt64).toInt64).toUInt64 >>> ((8 : Int32) &&& 0x3f).toInt64.toUInt64).toInt64).toUInt64 >>> ((8 : Int32) &&& 0x3f).toInt64.toUInt64).toInt64).toInt32).toInt8.toInt32)), (.int (4 : Int32)), (.ref a2)])) rfl rfl (hb hby d1_12)
  rw [own_narb] at W21
  have V_a2_21 : Arv Z h21 a2 kk .byte (10 : Int32) [(.int u0), (.int u1), (.int u2), (.int u3), (.int ((((((((q1.toUInt64 >>> ((8 : Int32) &&& 0x3f).toInt64.toUInt64).toInt64).toUInt64 >>> ((8 : Int32) &&& 0x3f).toInt64.toUInt64).toInt64).toUInt64 >>> ((8 : Int32) &&& 0x3f).toInt64.toUInt64).toInt64).toInt32).toInt8.toInt32)), (.int ((((((q1.toUInt64 >>> ((8 : Int32) &&& 0x3f).toInt64.toUInt64).toInt64).toUInt64 >>> ((8 : Int32) &&& 0x3f).toInt64.toUInt64).toInt64).toInt32).toInt8.toInt32)), (.int ((((q1.toUInt64 >>> ((8 : Int32) &&& 0x3f).toInt64.toUInt64).toInt64).toInt32).toInt8.toInt32)), (.int ((q1.toInt32).toInt8.toInt32)), (.int u8), (.int u9)] (.int (0 : Int32)) := Arv.set Ar20 q20 S20 N20n H20 G20 (fits_nar_byte _) W21 4 rfl (Nat.le_of_ble_eq_true rfl)
  have K24 : Keep h0 h21 [a2] := K18.wr W21 (Or.inl (List.mem_of_getElem? (i := 0) rfl))
  have N21 := Fr.snoc X21 N15 g_a2
  refine own_go (B := T21.setTop (mkF m 13 #[.val (.long ((((((q1.toUInt64 >>> ((8 : Int32) &&& 0x3f).toInt64.toUInt64).toInt64).toUInt64 >>> ((8 : Int32) &&& 0x3f).toInt64.toUInt64).toInt64).toUInt64 >>> ((8 : Int32) &&& 0x3f).toInt64.toUInt64).toInt64)), .second, .val (.ref a2), .val (.int (4 : Int32))] [])) st21 ?_
  refine own_go (B := T21.setTop (mkF m 14 #[.val (.long ((((((q1.toUInt64 >>> ((8 : Int32) &&& 0x3f).toInt64.toUInt64).toInt64).toUInt64 >>> ((8 : Int32) &&& 0x3f).toInt64.toUInt64).toInt64).toUInt64 >>> ((8 : Int32) &&& 0x3f).toInt64.toUInt64).toInt64)), .second, .val (.ref a2), .val (.int (4 : Int32))] [(.long ((((((q1.toUInt64 >>> ((8 : Int32) &&& 0x3f).toInt64.toUInt64).toInt64).toUInt64 >>> ((8 : Int32) &&& 0x3f).toInt64.toUInt64).toInt64).toUInt64 >>> ((8 : Int32) &&& 0x3f).toInt64.toUInt64).toInt64))])) (fun _ k => XS.lloadN X21.here hx rfl (hb hby d1_13) rfl  k) ?_
  refine own_go (B := T21.setTop (mkF m 16 #[.val (.long ((((((q1.toUInt64 >>> ((8 : Int32) &&& 0x3f).toInt64.toUInt64).toInt64).toUInt64 >>> ((8 : Int32) &&& 0x3f).toInt64.toUInt64).toInt64).toUInt64 >>> ((8 : Int32) &&& 0x3f).toInt64.toUInt64).toInt64)), .second, .val (.ref a2), .val (.int (4 : Int32))] [(.int (8 : Int32)), (.long ((((((q1.toUInt64 >>> ((8 : Int32) &&& 0x3f).toInt64.toUInt64).toInt64).toUInt64 >>> ((8 : Int32) &&& 0x3f).toInt64.toUInt64).toInt64).toUInt64 >>> ((8 : Int32) &&& 0x3f).toInt64.toUInt64).toInt64))])) (fun _ k => XS.bipush X21.here hx rfl (hb hby d1_14) k) ?_
  refine own_go (B := T21.setTop (mkF m 17 #[.val (.long ((((((q1.toUInt64 >>> ((8 : Int32) &&& 0x3f).toInt64.toUInt64).toInt64).toUInt64 >>> ((8 : Int32) &&& 0x3f).toInt64.toUInt64).toInt64).toUInt64 >>> ((8 : Int32) &&& 0x3f).toInt64.toUInt64).toInt64)), .second, .val (.ref a2), .val (.int (4 : Int32))] [(.long ((((((((q1.toUInt64 >>> ((8 : Int32) &&& 0x3f).toInt64.toUInt64).toInt64).toUInt64 >>> ((8 : Int32) &&& 0x3f).toInt64.toUInt64).toInt64).toUInt64 >>> ((8 : Int32) &&& 0x3f).toInt64.toUInt64).toInt64).toUInt64 >>> ((8 : Int32) &&& 0x3f).toInt64.toUInt64).toInt64))])) (fun _ k => XS.lushr X21.here hx rfl (hb hby d1_16) rfl k) ?_
  refine own_go (B := T21.setTop (mkF m 18 #[.val (.long ((((((((q1.toUInt64 >>> ((8 : Int32) &&& 0x3f).toInt64.toUInt64).toInt64).toUInt64 >>> ((8 : Int32) &&& 0x3f).toInt64.toUInt64).toInt64).toUInt64 >>> ((8 : Int32) &&& 0x3f).toInt64.toUInt64).toInt64).toUInt64 >>> ((8 : Int32) &&& 0x3f).toInt64.toUInt64).toInt64)), .second, .val (.ref a2), .val (.int (4 : Int32))] [])) (fun _ k => XS.lstoreN X21.here hx rfl (hb hby d1_17) rfl (l' := #[.val (.long ((((((((q1.toUInt64 >>> ((8 : Int32) &&& 0x3f).toInt64.toUInt64).toInt64).toUInt64 >>> ((8 : Int32) &&& 0x3f).toInt64.toUInt64).toInt64).toUInt64 >>> ((8 : Int32) &&& 0x3f).toInt64.toUInt64).toInt64).toUInt64 >>> ((8 : Int32) &&& 0x3f).toInt64.toUInt64).toInt64)), .second, .val (.ref a2), .val (.int (4 : Int32))]) rfl k) ?_
  refine own_go (B := T21.setTop (mkF m 21 #[.val (.long ((((((((q1.toUInt64 >>> ((8 : Int32) &&& 0x3f).toInt64.toUInt64).toInt64).toUInt64 >>> ((8 : Int32) &&& 0x3f).toInt64.toUInt64).toInt64).toUInt64 >>> ((8 : Int32) &&& 0x3f).toInt64.toUInt64).toInt64).toUInt64 >>> ((8 : Int32) &&& 0x3f).toInt64.toUInt64).toInt64)), .second, .val (.ref a2), .val (.int ((4 : Int32) + (-1 : Int32)))] [])) (fun _ k => XS.iinc X21.here hx rfl (hb hby d1_18) rfl (l' := #[.val (.long ((((((((q1.toUInt64 >>> ((8 : Int32) &&& 0x3f).toInt64.toUInt64).toInt64).toUInt64 >>> ((8 : Int32) &&& 0x3f).toInt64.toUInt64).toInt64).toUInt64 >>> ((8 : Int32) &&& 0x3f).toInt64.toUInt64).toInt64).toUInt64 >>> ((8 : Int32) &&& 0x3f).toInt64.toUInt64).toInt64)), .second, .val (.ref a2), .val (.int ((4 : Int32) + (-1 : Int32)))]) rfl k) ?_
  rw [show ((4 : Int32) + (-1 : Int32)) = (3 : Int32) from by decide]
  show own_Fin _ _ _ _ _ _ _ (T21.setTop (mkF m 21 #[.val (.long ((((((((q1.toUInt64 >>> ((8 : Int32) &&& 0x3f).toInt64.toUInt64).toInt64).toUInt64 >>> ((8 : Int32) &&& 0x3f).toInt64.toUInt64).toInt64).toUInt64 >>> ((8 : Int32) &&& 0x3f).toInt64.toUInt64).toInt64).toUInt64 >>> ((8 : Int32) &&& 0x3f).toInt64.toUInt64).toInt64)), .second, .val (.ref a2), .val (.int (3 : Int32))] []))
  refine own_go (B := T21.setTop (mkF m 3 #[.val (.long ((((((((q1.toUInt64 >>> ((8 : Int32) &&& 0x3f).toInt64.toUInt64).toInt64).toUInt64 >>> ((8 : Int32) &&& 0x3f).toInt64.toUInt64).toInt64).toUInt64 >>> ((8 : Int32) &&& 0x3f).toInt64.toUInt64).toInt64).toUInt64 >>> ((8 : Int32) &&& 0x3f).toInt64.toUInt64).toInt64)), .second, .val (.ref a2), .val (.int (3 : Int32))] [])) (fun _ k => XS.goto X21.here hx rfl (pc0 := 21) (pc' := 3) rfl (hb hby d1_21) (by decide) (by decide) k) ?_
  refine own_go (B := T21.setTop (mkF m 4 #[.val (.long ((((((((q1.toUInt64 >>> ((8 : Int32) &&& 0x3f).toInt64.toUInt64).toInt64).toUInt64 >>> ((8 : Int32) &&& 0x3f).toInt64.toUInt64).toInt64).toUInt64 >>> ((8 : Int32) &&& 0x3f).toInt64.toUInt64).toInt64).toUInt64 >>> ((8 : Int32) &&& 0x3f).toInt64.toUInt64).toInt64)), .second, .val (.ref a2), .val (.int (3 : Int32))] [(.int (3 : Int32))])) (fun _ k => XS.iloadN X21.here hx rfl (hb hby d1_3) rfl  k) ?_
  have hc25 : ¬ ((3 : Int32) < (0 : Int32)) := by decide
  refine own_go (B := T21.setTop (mkF m 7 #[.val (.long ((((((((q1.toUInt64 >>> ((8 : Int32) &&& 0x3f).toInt64.toUInt64).toInt64).toUInt64 >>> ((8 : Int32) &&& 0x3f).toInt64.toUInt64).toInt64).toUInt64 >>> ((8 : Int32) &&& 0x3f).toInt64.toUInt64).toInt64).toUInt64 >>> ((8 : Int32) &&& 0x3f).toInt64.toUInt64).toInt64)), .second, .val (.ref a2), .val (.int (3 : Int32))] [])) (fun _ k => XS.ifNo X21.here hx rfl (hb hby d1_4) rfl ((if0 _ _).trans (flt hc25).1) k) ?_
  refine own_go (B := T21.setTop (mkF m 8 #[.val (.long ((((((((q1.toUInt64 >>> ((8 : Int32) &&& 0x3f).toInt64.toUInt64).toInt64).toUInt64 >>> ((8 : Int32) &&& 0x3f).toInt64.toUInt64).toInt64).toUInt64 >>> ((8 : Int32) &&& 0x3f).toInt64.toUInt64).toInt64).toUInt64 >>> ((8 : Int32) &&& 0x3f).toInt64.toUInt64).toInt64)), .second, .val (.ref a2), .val (.int (3 : Int32))] [(.ref a2)])) (fun _ k => XS.aloadN X21.here hx rfl (hb hby d1_7) rfl rfl k) ?_
  refine own_go (B := T21.setTop (mkF m 9 #[.val (.long ((((((((q1.toUInt64 >>> ((8 : Int32) &&& 0x3f).toInt64.toUInt64).toInt64).toUInt64 >>> ((8 : Int32) &&& 0x3f).toInt64.toUInt64).toInt64).toUInt64 >>> ((8 : Int32) &&& 0x3f).toInt64.toUInt64).toInt64).toUInt64 >>> ((8 : Int32) &&& 0x3f).toInt64.toUInt64).toInt64)), .second, .val (.ref a2), .val (.int (3 : Int32))] [(.int (3 : Int32)), (.ref a2)])) (fun _ k => XS.iloadN X21.here hx rfl (hb hby d1_8) rfl  k) ?_
  refine own_go (B := T21.setTop (mkF m 10 #[.val (.long ((((((((q1.toUInt64 >>> ((8 : Int32) &&& 0x3f).toInt64.toUInt64).toInt64).toUInt64 >>> ((8 : Int32) &&& 0x3f).toInt64.toUInt64).toInt64).toUInt64 >>> ((8 : Int32) &&& 0x3f).toInt64.toUInt64).toInt64).toUInt64 >>> ((8 : Int32) &&& 0x3f).toInt64.toUInt64).toInt64)), .second, .val (.ref a2), .val (.int (3 : Int32))] [(.long ((((((((q1.toUInt64 >>> ((8 : Int32) &&& 0x3f).toInt64.toUInt64).toInt64).toUInt64 >>> ((8 : Int32) &&& 0x3f).toInt64.toUInt64).toInt64).toUInt64 >>> ((8 : Int32) &&& 0x3f).toInt64.toUInt64).toInt64).toUInt64 >>> ((8 : Int32) &&& 0x3f).toInt64.toUInt64).toInt64)), (.int (3 : Int32)), (.ref a2)])) (fun _ k => XS.lloadN X21.here hx rfl (hb hby d1_9) rfl  k) ?_
  refine own_go (B := T21.setTop (mkF m 11 #[.val (.long ((((((((q1.toUInt64 >>> ((8 : Int32) &&& 0x3f).toInt64.toUInt64).toInt64).toUInt64 >>> ((8 : Int32) &&& 0x3f).toInt64.toUInt64).toInt64).toUInt64 >>> ((8 : Int32) &&& 0x3f).toInt64.toUInt64).toInt64).toUInt64 >>> ((8 : Int32) &&& 0x3f).toInt64.toUInt64).toInt64)), .second, .val (.ref a2), .val (.int (3 : Int32))] [(.int (((((((((q1.toUInt64 >>> ((8 : Int32) &&& 0x3f).toInt64.toUInt64).toInt64).toUInt64 >>> ((8 : Int32) &&& 0x3f).toInt64.toUInt64).toInt64).toUInt64 >>> ((8 : Int32) &&& 0x3f).toInt64.toUInt64).toInt64).toUInt64 >>> ((8 : Int32) &&& 0x3f).toInt64.toUInt64).toInt64).toInt32)), (.int (3 : Int32)), (.ref a2)])) (fun _ k => XS.l2i X21.here hx rfl (hb hby d1_10) rfl k) ?_
  refine own_go (B := T21.setTop (mkF m 12 #[.val (.long ((((((((q1.toUInt64 >>> ((8 : Int32) &&& 0x3f).toInt64.toUInt64).toInt64).toUInt64 >>> ((8 : Int32) &&& 0x3f).toInt64.toUInt64).toInt64).toUInt64 >>> ((8 : Int32) &&& 0x3f).toInt64.toUInt64).toInt64).toUInt64 >>> ((8 : Int32) &&& 0x3f).toInt64.toUInt64).toInt64)), .second, .val (.ref a2), .val (.int (3 : Int32))] [(.int ((((((((((q1.toUInt64 >>> ((8 : Int32) &&& 0x3f).toInt64.toUInt64).toInt64).toUInt64 >>> ((8 : Int32) &&& 0x3f).toInt64.toUInt64).toInt64).toUInt64 >>> ((8 : Int32) &&& 0x3f).toInt64.toUInt64).toInt64).toUInt64 >>> ((8 : Int32) &&& 0x3f).toInt64.toUInt64).toInt64).toInt32).toInt8.toInt32)), (.int (3 : Int32)), (.ref a2)])) (fun _ k => XS.i2b X21.here hx rfl (hb hby d1_11) rfl k) ?_
  obtain ⟨cl26, Ar26, q26, S26, N26n, H26, G26⟩ := id V_a2_21
  have hin27 : ¬ ((3 : Int32) < 0 ∨ cl26.slots.size ≤ ((3 : Int32)).toNatClampNeg) := inb_of S26 ⟨by decide, by decide⟩
  obtain ⟨T27, h27, X27, e27, W27, st27⟩ := stB X21 hx hZ e21 Ar26 (j := (3 : Int32)) hin27 (g := (mkF m 12 #[.val (.long ((((((((q1.toUInt64 >>> ((8 : Int32) &&& 0x3f).toInt64.toUInt64).toInt64).toUInt64 >>> ((8 : Int32) &&& 0x3f).toInt64.toUInt64).toInt64).toUInt64 >>> ((8 : Int32) &&& 0x3f).toInt64.toUInt64).toInt64).toUInt64 >>> ((8 : Int32) &&& 0x3f).toInt64.toUInt64).toInt64)), .second, .val (.ref a2), .val (.int (3 : Int32))] [(.int ((((((((((q1.toUInt64 >>> ((8 : Int32) &&& 0x3f).toInt64.toUInt64).toInt64).toUInt64 >>> ((8 : Int32) &&& 0x3f).toInt64.toUInt64).toInt64).toUInt64 >>> ((8 : Int32) &&& 0x3f).toInt64.toUInt64).toInt64).toUInt64 >>> ((8 : Int32) &&& 0x3f).toInt64.toUInt64).toInt64).toInt32).toInt8.toInt32)), (.int (3 : Int32)), (.ref a2)])) rfl rfl (hb hby d1_12)
  rw [own_narb] at W27
  have V_a2_27 : Arv Z h27 a2 kk .byte (10 : Int32) [(.int u0), (.int u1), (.int u2), (.int ((((((((((q1.toUInt64 >>> ((8 : Int32) &&& 0x3f).toInt64.toUInt64).toInt64).toUInt64 >>> ((8 : Int32) &&& 0x3f).toInt64.toUInt64).toInt64).toUInt64 >>> ((8 : Int32) &&& 0x3f).toInt64.toUInt64).toInt64).toUInt64 >>> ((8 : Int32) &&& 0x3f).toInt64.toUInt64).toInt64).toInt32).toInt8.toInt32)), (.int ((((((((q1.toUInt64 >>> ((8 : Int32) &&& 0x3f).toInt64.toUInt64).toInt64).toUInt64 >>> ((8 : Int32) &&& 0x3f).toInt64.toUInt64).toInt64).toUInt64 >>> ((8 : Int32) &&& 0x3f).toInt64.toUInt64).toInt64).toInt32).toInt8.toInt32)), (.int ((((((q1.toUInt64 >>> ((8 : Int32) &&& 0x3f).toInt64.toUInt64).toInt64).toUInt64 >>> ((8 : Int32) &&& 0x3f).toInt64.toUInt64).toInt64).toInt32).toInt8.toInt32)), (.int ((((q1.toUInt64 >>> ((8 : Int32) &&& 0x3f).toInt64.toUInt64).toInt64).toInt32).toInt8.toInt32)), (.int ((q1.toInt32).toInt8.toInt32)), (.int u8), (.int u9)] (.int (0 : Int32)) := Arv.set Ar26 q26 S26 N26n H26 G26 (fits_nar_byte _) W27 3 rfl (Nat.le_of_ble_eq_true rfl)
  have K30 : Keep h0 h27 [a2] := K24.wr W27 (Or.inl (List.mem_of_getElem? (i := 0) rfl))
  have N27 := Fr.snoc X27 N21 g_a2
  refine own_go (B := T27.setTop (mkF m 13 #[.val (.long ((((((((q1.toUInt64 >>> ((8 : Int32) &&& 0x3f).toInt64.toUInt64).toInt64).toUInt64 >>> ((8 : Int32) &&& 0x3f).toInt64.toUInt64).toInt64).toUInt64 >>> ((8 : Int32) &&& 0x3f).toInt64.toUInt64).toInt64).toUInt64 >>> ((8 : Int32) &&& 0x3f).toInt64.toUInt64).toInt64)), .second, .val (.ref a2), .val (.int (3 : Int32))] [])) st27 ?_
  refine own_go (B := T27.setTop (mkF m 14 #[.val (.long ((((((((q1.toUInt64 >>> ((8 : Int32) &&& 0x3f).toInt64.toUInt64).toInt64).toUInt64 >>> ((8 : Int32) &&& 0x3f).toInt64.toUInt64).toInt64).toUInt64 >>> ((8 : Int32) &&& 0x3f).toInt64.toUInt64).toInt64).toUInt64 >>> ((8 : Int32) &&& 0x3f).toInt64.toUInt64).toInt64)), .second, .val (.ref a2), .val (.int (3 : Int32))] [(.long ((((((((q1.toUInt64 >>> ((8 : Int32) &&& 0x3f).toInt64.toUInt64).toInt64).toUInt64 >>> ((8 : Int32) &&& 0x3f).toInt64.toUInt64).toInt64).toUInt64 >>> ((8 : Int32) &&& 0x3f).toInt64.toUInt64).toInt64).toUInt64 >>> ((8 : Int32) &&& 0x3f).toInt64.toUInt64).toInt64))])) (fun _ k => XS.lloadN X27.here hx rfl (hb hby d1_13) rfl  k) ?_
  refine own_go (B := T27.setTop (mkF m 16 #[.val (.long ((((((((q1.toUInt64 >>> ((8 : Int32) &&& 0x3f).toInt64.toUInt64).toInt64).toUInt64 >>> ((8 : Int32) &&& 0x3f).toInt64.toUInt64).toInt64).toUInt64 >>> ((8 : Int32) &&& 0x3f).toInt64.toUInt64).toInt64).toUInt64 >>> ((8 : Int32) &&& 0x3f).toInt64.toUInt64).toInt64)), .second, .val (.ref a2), .val (.int (3 : Int32))] [(.int (8 : Int32)), (.long ((((((((q1.toUInt64 >>> ((8 : Int32) &&& 0x3f).toInt64.toUInt64).toInt64).toUInt64 >>> ((8 : Int32) &&& 0x3f).toInt64.toUInt64).toInt64).toUInt64 >>> ((8 : Int32) &&& 0x3f).toInt64.toUInt64).toInt64).toUInt64 >>> ((8 : Int32) &&& 0x3f).toInt64.toUInt64).toInt64))])) (fun _ k => XS.bipush X27.here hx rfl (hb hby d1_14) k) ?_
  refine own_go (B := T27.setTop (mkF m 17 #[.val (.long ((((((((q1.toUInt64 >>> ((8 : Int32) &&& 0x3f).toInt64.toUInt64).toInt64).toUInt64 >>> ((8 : Int32) &&& 0x3f).toInt64.toUInt64).toInt64).toUInt64 >>> ((8 : Int32) &&& 0x3f).toInt64.toUInt64).toInt64).toUInt64 >>> ((8 : Int32) &&& 0x3f).toInt64.toUInt64).toInt64)), .second, .val (.ref a2), .val (.int (3 : Int32))] [(.long ((((((((((q1.toUInt64 >>> ((8 : Int32) &&& 0x3f).toInt64.toUInt64).toInt64).toUInt64 >>> ((8 : Int32) &&& 0x3f).toInt64.toUInt64).toInt64).toUInt64 >>> ((8 : Int32) &&& 0x3f).toInt64.toUInt64).toInt64).toUInt64 >>> ((8 : Int32) &&& 0x3f).toInt64.toUInt64).toInt64).toUInt64 >>> ((8 : Int32) &&& 0x3f).toInt64.toUInt64).toInt64))])) (fun _ k => XS.lushr X27.here hx rfl (hb hby d1_16) rfl k) ?_
  refine own_go (B := T27.setTop (mkF m 18 #[.val (.long ((((((((((q1.toUInt64 >>> ((8 : Int32) &&& 0x3f).toInt64.toUInt64).toInt64).toUInt64 >>> ((8 : Int32) &&& 0x3f).toInt64.toUInt64).toInt64).toUInt64 >>> ((8 : Int32) &&& 0x3f).toInt64.toUInt64).toInt64).toUInt64 >>> ((8 : Int32) &&& 0x3f).toInt64.toUInt64).toInt64).toUInt64 >>> ((8 : Int32) &&& 0x3f).toInt64.toUInt64).toInt64)), .second, .val (.ref a2), .val (.int (3 : Int32))] [])) (fun _ k => XS.lstoreN X27.here hx rfl (hb hby d1_17) rfl (l' := #[.val (.long ((((((((((q1.toUInt64 >>> ((8 : Int32) &&& 0x3f).toInt64.toUInt64).toInt64).toUInt64 >>> ((8 : Int32) &&& 0x3f).toInt64.toUInt64).toInt64).toUInt64 >>> ((8 : Int32) &&& 0x3f).toInt64.toUInt64).toInt64).toUInt64 >>> ((8 : Int32) &&& 0x3f).toInt64.toUInt64).toInt64).toUInt64 >>> ((8 : Int32) &&& 0x3f).toInt64.toUInt64).toInt64)), .second, .val (.ref a2), .val (.int (3 : Int32))]) rfl k) ?_
  refine own_go (B := T27.setTop (mkF m 21 #[.val (.long ((((((((((q1.toUInt64 >>> ((8 : Int32) &&& 0x3f).toInt64.toUInt64).toInt64).toUInt64 >>> ((8 : Int32) &&& 0x3f).toInt64.toUInt64).toInt64).toUInt64 >>> ((8 : Int32) &&& 0x3f).toInt64.toUInt64).toInt64).toUInt64 >>> ((8 : Int32) &&& 0x3f).toInt64.toUInt64).toInt64).toUInt64 >>> ((8 : Int32) &&& 0x3f).toInt64.toUInt64).toInt64)), .second, .val (.ref a2), .val (.int ((3 : Int32) + (-1 : Int32)))] [])) (fun _ k => XS.iinc X27.here hx rfl (hb hby d1_18) rfl (l' := #[.val (.long ((((((((((q1.toUInt64 >>> ((8 : Int32) &&& 0x3f).toInt64.toUInt64).toInt64).toUInt64 >>> ((8 : Int32) &&& 0x3f).toInt64.toUInt64).toInt64).toUInt64 >>> ((8 : Int32) &&& 0x3f).toInt64.toUInt64).toInt64).toUInt64 >>> ((8 : Int32) &&& 0x3f).toInt64.toUInt64).toInt64).toUInt64 >>> ((8 : Int32) &&& 0x3f).toInt64.toUInt64).toInt64)), .second, .val (.ref a2), .val (.int ((3 : Int32) + (-1 : Int32)))]) rfl k) ?_
  rw [show ((3 : Int32) + (-1 : Int32)) = (2 : Int32) from by decide]
  show own_Fin _ _ _ _ _ _ _ (T27.setTop (mkF m 21 #[.val (.long ((((((((((q1.toUInt64 >>> ((8 : Int32) &&& 0x3f).toInt64.toUInt64).toInt64).toUInt64 >>> ((8 : Int32) &&& 0x3f).toInt64.toUInt64).toInt64).toUInt64 >>> ((8 : Int32) &&& 0x3f).toInt64.toUInt64).toInt64).toUInt64 >>> ((8 : Int32) &&& 0x3f).toInt64.toUInt64).toInt64).toUInt64 >>> ((8 : Int32) &&& 0x3f).toInt64.toUInt64).toInt64)), .second, .val (.ref a2), .val (.int (2 : Int32))] []))
  refine own_go (B := T27.setTop (mkF m 3 #[.val (.long ((((((((((q1.toUInt64 >>> ((8 : Int32) &&& 0x3f).toInt64.toUInt64).toInt64).toUInt64 >>> ((8 : Int32) &&& 0x3f).toInt64.toUInt64).toInt64).toUInt64 >>> ((8 : Int32) &&& 0x3f).toInt64.toUInt64).toInt64).toUInt64 >>> ((8 : Int32) &&& 0x3f).toInt64.toUInt64).toInt64).toUInt64 >>> ((8 : Int32) &&& 0x3f).toInt64.toUInt64).toInt64)), .second, .val (.ref a2), .val (.int (2 : Int32))] [])) (fun _ k => XS.goto X27.here hx rfl (pc0 := 21) (pc' := 3) rfl (hb hby d1_21) (by decide) (by decide) k) ?_
  refine own_go (B := T27.setTop (mkF m 4 #[.val (.long ((((((((((q1.toUInt64 >>> ((8 : Int32) &&& 0x3f).toInt64.toUInt64).toInt64).toUInt64 >>> ((8 : Int32) &&& 0x3f).toInt64.toUInt64).toInt64).toUInt64 >>> ((8 : Int32) &&& 0x3f).toInt64.toUInt64).toInt64).toUInt64 >>> ((8 : Int32) &&& 0x3f).toInt64.toUInt64).toInt64).toUInt64 >>> ((8 : Int32) &&& 0x3f).toInt64.toUInt64).toInt64)), .second, .val (.ref a2), .val (.int (2 : Int32))] [(.int (2 : Int32))])) (fun _ k => XS.iloadN X27.here hx rfl (hb hby d1_3) rfl  k) ?_
  have hc31 : ¬ ((2 : Int32) < (0 : Int32)) := by decide
  refine own_go (B := T27.setTop (mkF m 7 #[.val (.long ((((((((((q1.toUInt64 >>> ((8 : Int32) &&& 0x3f).toInt64.toUInt64).toInt64).toUInt64 >>> ((8 : Int32) &&& 0x3f).toInt64.toUInt64).toInt64).toUInt64 >>> ((8 : Int32) &&& 0x3f).toInt64.toUInt64).toInt64).toUInt64 >>> ((8 : Int32) &&& 0x3f).toInt64.toUInt64).toInt64).toUInt64 >>> ((8 : Int32) &&& 0x3f).toInt64.toUInt64).toInt64)), .second, .val (.ref a2), .val (.int (2 : Int32))] [])) (fun _ k => XS.ifNo X27.here hx rfl (hb hby d1_4) rfl ((if0 _ _).trans (flt hc31).1) k) ?_
  refine own_go (B := T27.setTop (mkF m 8 #[.val (.long ((((((((((q1.toUInt64 >>> ((8 : Int32) &&& 0x3f).toInt64.toUInt64).toInt64).toUInt64 >>> ((8 : Int32) &&& 0x3f).toInt64.toUInt64).toInt64).toUInt64 >>> ((8 : Int32) &&& 0x3f).toInt64.toUInt64).toInt64).toUInt64 >>> ((8 : Int32) &&& 0x3f).toInt64.toUInt64).toInt64).toUInt64 >>> ((8 : Int32) &&& 0x3f).toInt64.toUInt64).toInt64)), .second, .val (.ref a2), .val (.int (2 : Int32))] [(.ref a2)])) (fun _ k => XS.aloadN X27.here hx rfl (hb hby d1_7) rfl rfl k) ?_
  refine own_go (B := T27.setTop (mkF m 9 #[.val (.long ((((((((((q1.toUInt64 >>> ((8 : Int32) &&& 0x3f).toInt64.toUInt64).toInt64).toUInt64 >>> ((8 : Int32) &&& 0x3f).toInt64.toUInt64).toInt64).toUInt64 >>> ((8 : Int32) &&& 0x3f).toInt64.toUInt64).toInt64).toUInt64 >>> ((8 : Int32) &&& 0x3f).toInt64.toUInt64).toInt64).toUInt64 >>> ((8 : Int32) &&& 0x3f).toInt64.toUInt64).toInt64)), .second, .val (.ref a2), .val (.int (2 : Int32))] [(.int (2 : Int32)), (.ref a2)])) (fun _ k => XS.iloadN X27.here hx rfl (hb hby d1_8) rfl  k) ?_
  refine own_go (B := T27.setTop (mkF m 10 #[.val (.long ((((((((((q1.toUInt64 >>> ((8 : Int32) &&& 0x3f).toInt64.toUInt64).toInt64).toUInt64 >>> ((8 : Int32) &&& 0x3f).toInt64.toUInt64).toInt64).toUInt64 >>> ((8 : Int32) &&& 0x3f).toInt64.toUInt64).toInt64).toUInt64 >>> ((8 : Int32) &&& 0x3f).toInt64.toUInt64).toInt64).toUInt64 >>> ((8 : Int32) &&& 0x3f).toInt64.toUInt64).toInt64)), .second, .val (.ref a2), .val (.int (2 : Int32))] [(.long ((((((((((q1.toUInt64 >>> ((8 : Int32) &&& 0x3f).toInt64.toUInt64).toInt64).toUInt64 >>> ((8 : Int32) &&& 0x3f).toInt64.toUInt64).toInt64).toUInt64 >>> ((8 : Int32) &&& 0x3f).toInt64.toUInt64).toInt64).toUInt64 >>> ((8 : Int32) &&& 0x3f).toInt64.toUInt64).toInt64).toUInt64 >>> ((8 : Int32) &&& 0x3f).toInt64.toUInt64).toInt64)), (.int (2 : Int32)), (.ref a2)])) (fun _ k => XS.lloadN X27.here hx rfl (hb hby d1_9) rfl  k) ?_
  refine own_go (B := T27.setTop (mkF m 11 #[.val (.long ((((((((((q1.toUInt64 >>> ((8 : Int32) &&& 0x3f).toInt64.toUInt64).toInt64).toUInt64 >>> ((8 : Int32) &&& 0x3f).toInt64.toUInt64).toInt64).toUInt64 >>> ((8 : Int32) &&& 0x3f).toInt64.toUInt64).toInt64).toUInt64 >>> ((8 : Int32) &&& 0x3f).toInt64.toUInt64).toInt64).toUInt64 >>> ((8 : Int32) &&& 0x3f).toInt64.toUInt64).toInt64)), .second, .val (.ref a2), .val (.int (2 : Int32))] [(.int (((((((((((q1.toUInt64 >>> ((8 : Int32) &&& 0x3f).toInt64.toUInt64).toInt64).toUInt64 >>> ((8 : Int32) &&& 0x3f).toInt64.toUInt64).toInt64).toUInt64 >>> ((8 : Int32) &&& 0x3f).toInt64.toUInt64).toInt64).toUInt64 >>> ((8 : Int32) &&& 0x3f).toInt64.toUInt64).toInt64).toUInt64 >>> ((8 : Int32) &&& 0x3f).toInt64.toUInt64).toInt64).toInt32)), (.int (2 : Int32)), (.ref a2)])) (fun _ k => XS.l2i X27.here hx rfl (hb hby d1_10) rfl k) ?_
  refine own_go (B := T27.setTop (mkF m 12 #[.val (.long ((((((((((q1.toUInt64 >>> ((8 : Int32) &&& 0x3f).toInt64.toUInt64).toInt64).toUInt64 >>> ((8 : Int32) &&& 0x3f).toInt64.toUInt64).toInt64).toUInt64 >>> ((8 : Int32) &&& 0x3f).toInt64.toUInt64).toInt64).toUInt64 >>> ((8 : Int32) &&& 0x3f).toInt64.toUInt64).toInt64).toUInt64 >>> ((8 : Int32) &&& 0x3f).toInt64.toUInt64).toInt64)), .second, .val (.ref a2), .val (.int (2 : Int32))] [(.int ((((((((((((q1.toUInt64 >>> ((8 : Int32) &&& 0x3f).toInt64.toUInt64).toInt64).toUInt64 >>> ((8 : Int32) &&& 0x3f).toInt64.toUInt64).toInt64).toUInt64 >>> ((8 : Int32) &&& 0x3f).toInt64.toUInt64).toInt64).toUInt64 >>> ((8 : Int32) &&& 0x3f).toInt64.toUInt64).toInt64).toUInt64 >>> ((8 : Int32) &&& 0x3f).toInt64.toUInt64).toInt64).toInt32).toInt8.toInt32)), (.int (2 : Int32)), (.ref a2)])) (fun _ k => XS.i2b X27.here hx rfl (hb hby d1_11) rfl k) ?_
  obtain ⟨cl32, Ar32, q32, S32, N32n, H32, G32⟩ := id V_a2_27
  have hin33 : ¬ ((2 : Int32) < 0 ∨ cl32.slots.size ≤ ((2 : Int32)).toNatClampNeg) := inb_of S32 ⟨by decide, by decide⟩
  obtain ⟨T33, h33, X33, e33, W33, st33⟩ := stB X27 hx hZ e27 Ar32 (j := (2 : Int32)) hin33 (g := (mkF m 12 #[.val (.long ((((((((((q1.toUInt64 >>> ((8 : Int32) &&& 0x3f).toInt64.toUInt64).toInt64).toUInt64 >>> ((8 : Int32) &&& 0x3f).toInt64.toUInt64).toInt64).toUInt64 >>> ((8 : Int32) &&& 0x3f).toInt64.toUInt64).toInt64).toUInt64 >>> ((8 : Int32) &&& 0x3f).toInt64.toUInt64).toInt64).toUInt64 >>> ((8 : Int32) &&& 0x3f).toInt64.toUInt64).toInt64)), .second, .val (.ref a2), .val (.int (2 : Int32))] [(.int ((((((((((((q1.toUInt64 >>> ((8 : Int32) &&& 0x3f).toInt64.toUInt64).toInt64).toUInt64 >>> ((8 : Int32) &&& 0x3f).toInt64.toUInt64).toInt64).toUInt64 >>> ((8 : Int32) &&& 0x3f).toInt64.toUInt64).toInt64).toUInt64 >>> ((8 : Int32) &&& 0x3f).toInt64.toUInt64).toInt64).toUInt64 >>> ((8 : Int32) &&& 0x3f).toInt64.toUInt64).toInt64).toInt32).toInt8.toInt32)), (.int (2 : Int32)), (.ref a2)])) rfl rfl (hb hby d1_12)
  rw [own_narb] at W33
  have V_a2_33 : Arv Z h33 a2 kk .byte (10 : Int32) [(.int u0), (.int u1), (.int ((((((((((((q1.toUInt64 >>> ((8 : Int32) &&& 0x3f).toInt64.toUInt64).toInt64).toUInt64 >>> ((8 : Int32) &&& 0x3f).toInt64.toUInt64).toInt64).toUInt64 >>> ((8 : Int32) &&& 0x3f).toInt64.toUInt64).toInt64).toUInt64 >>> ((8 : Int32) &&& 0x3f).toInt64.toUInt64).toInt64).toUInt64 >>> ((8 : Int32) &&& 0x3f).toInt64.toUInt64).toInt64).toInt32).toInt8.toInt32)), (.int ((((((((((q1.toUInt64 >>> ((8 : Int32) &&& 0x3f).toInt64.toUInt64).toInt64).toUInt64 >>> ((8 : Int32) &&& 0x3f).toInt64.toUInt64).toInt64).toUInt64 >>> ((8 : Int32) &&& 0x3f).toInt64.toUInt64).toInt64).toUInt64 >>> ((8 : Int32) &&& 0x3f).toInt64.toUInt64).toInt64).toInt32).toInt8.toInt32)), (.int ((((((((q1.toUInt64 >>> ((8 : Int32) &&& 0x3f).toInt64.toUInt64).toInt64).toUInt64 >>> ((8 : Int32) &&& 0x3f).toInt64.toUInt64).toInt64).toUInt64 >>> ((8 : Int32) &&& 0x3f).toInt64.toUInt64).toInt64).toInt32).toInt8.toInt32)), (.int ((((((q1.toUInt64 >>> ((8 : Int32) &&& 0x3f).toInt64.toUInt64).toInt64).toUInt64 >>> ((8 : Int32) &&& 0x3f).toInt64.toUInt64).toInt64).toInt32).toInt8.toInt32)), (.int ((((q1.toUInt64 >>> ((8 : Int32) &&& 0x3f).toInt64.toUInt64).toInt64).toInt32).toInt8.toInt32)), (.int ((q1.toInt32).toInt8.toInt32)), (.int u8), (.int u9)] (.int (0 : Int32)) := Arv.set Ar32 q32 S32 N32n H32 G32 (fits_nar_byte _) W33 2 rfl (Nat.le_of_ble_eq_true rfl)
  have K36 : Keep h0 h33 [a2] := K30.wr W33 (Or.inl (List.mem_of_getElem? (i := 0) rfl))
  have N33 := Fr.snoc X33 N27 g_a2
  refine own_go (B := T33.setTop (mkF m 13 #[.val (.long ((((((((((q1.toUInt64 >>> ((8 : Int32) &&& 0x3f).toInt64.toUInt64).toInt64).toUInt64 >>> ((8 : Int32) &&& 0x3f).toInt64.toUInt64).toInt64).toUInt64 >>> ((8 : Int32) &&& 0x3f).toInt64.toUInt64).toInt64).toUInt64 >>> ((8 : Int32) &&& 0x3f).toInt64.toUInt64).toInt64).toUInt64 >>> ((8 : Int32) &&& 0x3f).toInt64.toUInt64).toInt64)), .second, .val (.ref a2), .val (.int (2 : Int32))] [])) st33 ?_
  refine own_go (B := T33.setTop (mkF m 14 #[.val (.long ((((((((((q1.toUInt64 >>> ((8 : Int32) &&& 0x3f).toInt64.toUInt64).toInt64).toUInt64 >>> ((8 : Int32) &&& 0x3f).toInt64.toUInt64).toInt64).toUInt64 >>> ((8 : Int32) &&& 0x3f).toInt64.toUInt64).toInt64).toUInt64 >>> ((8 : Int32) &&& 0x3f).toInt64.toUInt64).toInt64).toUInt64 >>> ((8 : Int32) &&& 0x3f).toInt64.toUInt64).toInt64)), .second, .val (.ref a2), .val (.int (2 : Int32))] [(.long ((((((((((q1.toUInt64 >>> ((8 : Int32) &&& 0x3f).toInt64.toUInt64).toInt64).toUInt64 >>> ((8 : Int32) &&& 0x3f).toInt64.toUInt64).toInt64).toUInt64 >>> ((8 : Int32) &&& 0x3f).toInt64.toUInt64).toInt64).toUInt64 >>> ((8 : Int32) &&& 0x3f).toInt64.toUInt64).toInt64).toUInt64 >>> ((8 : Int32) &&& 0x3f).toInt64.toUInt64).toInt64))])) (fun _ k => XS.lloadN X33.here hx rfl (hb hby d1_13) rfl  k) ?_
  refine own_go (B := T33.setTop (mkF m 16 #[.val (.long ((((((((((q1.toUInt64 >>> ((8 : Int32) &&& 0x3f).toInt64.toUInt64).toInt64).toUInt64 >>> ((8 : Int32) &&& 0x3f).toInt64.toUInt64).toInt64).toUInt64 >>> ((8 : Int32) &&& 0x3f).toInt64.toUInt64).toInt64).toUInt64 >>> ((8 : Int32) &&& 0x3f).toInt64.toUInt64).toInt64).toUInt64 >>> ((8 : Int32) &&& 0x3f).toInt64.toUInt64).toInt64)), .second, .val (.ref a2), .val (.int (2 : Int32))] [(.int (8 : Int32)), (.long ((((((((((q1.toUInt64 >>> ((8 : Int32) &&& 0x3f).toInt64.toUInt64).toInt64).toUInt64 >>> ((8 : Int32) &&& 0x3f).toInt64.toUInt64).toInt64).toUInt64 >>> ((8 : Int32) &&& 0x3f).toInt64.toUInt64).toInt64).toUInt64 >>> ((8 : Int32) &&& 0x3f).toInt64.toUInt64).toInt64).toUInt64 >>> ((8 : Int32) &&& 0x3f).toInt64.toUInt64).toInt64))])) (fun _ k => XS.bipush X33.here hx rfl (hb hby d1_14) k) ?_
  refine own_go (B := T33.setTop (mkF m 17 #[.val (.long ((((((((((q1.toUInt64 >>> ((8 : Int32) &&& 0x3f).toInt64.toUInt64).toInt64).toUInt64 >>> ((8 : Int32) &&& 0x3f).toInt64.toUInt64).toInt64).toUInt64 >>> ((8 : Int32) &&& 0x3f).toInt64.toUInt64).toInt64).toUInt64 >>> ((8 : Int32) &&& 0x3f).toInt64.toUInt64).toInt64).toUInt64 >>> ((8 : Int32) &&& 0x3f).toInt64.toUInt64).toInt64)), .second, .val (.ref a2), .val (.int (2 : Int32))] [(.long ((((((((((((q1.toUInt64 >>> ((8 : Int32) &&& 0x3f).toInt64.toUInt64).toInt64).toUInt64 >>> ((8 : Int32) &&& 0x3f).toInt64.toUInt64).toInt64).toUInt64 >>> ((8 : Int32) &&& 0x3f).toInt64.toUInt64).toInt64).toUInt64 >>> ((8 : Int32) &&& 0x3f).toInt64.toUInt64).toInt64).toUInt64 >>> ((8 : Int32) &&& 0x3f).toInt64.toUInt64).toInt64).toUInt64 >>> ((8 : Int32) &&& 0x3f).toInt64.toUInt64).toInt64))])) (fun _ k => XS.lushr X33.here hx rfl (hb hby d1_16) rfl k) ?_
  refine own_go (B := T33.setTop (mkF m 18 #[.val (.long ((((((((((((q1.toUInt64 >>> ((8 : Int32) &&& 0x3f).toInt64.toUInt64).toInt64).toUInt64 >>> ((8 : Int32) &&& 0x3f).toInt64.toUInt64).toInt64).toUInt64 >>> ((8 : Int32) &&& 0x3f).toInt64.toUInt64).toInt64).toUInt64 >>> ((8 : Int32) &&& 0x3f).toInt64.toUInt64).toInt64).toUInt64 >>> ((8 : Int32) &&& 0x3f).toInt64.toUInt64).toInt64).toUInt64 >>> ((8 : Int32) &&& 0x3f).toInt64.toUInt64).toInt64)), .second, .val (.ref a2), .val (.int (2 : Int32))] [])) (fun _ k => XS.lstoreN X33.here hx rfl (hb hby d1_17) rfl (l' := #[.val (.long ((((((((((((q1.toUInt64 >>> ((8 : Int32) &&& 0x3f).toInt64.toUInt64).toInt64).toUInt64 >>> ((8 : Int32) &&& 0x3f).toInt64.toUInt64).toInt64).toUInt64 >>> ((8 : Int32) &&& 0x3f).toInt64.toUInt64).toInt64).toUInt64 >>> ((8 : Int32) &&& 0x3f).toInt64.toUInt64).toInt64).toUInt64 >>> ((8 : Int32) &&& 0x3f).toInt64.toUInt64).toInt64).toUInt64 >>> ((8 : Int32) &&& 0x3f).toInt64.toUInt64).toInt64)), .second, .val (.ref a2), .val (.int (2 : Int32))]) rfl k) ?_
  refine own_go (B := T33.setTop (mkF m 21 #[.val (.long ((((((((((((q1.toUInt64 >>> ((8 : Int32) &&& 0x3f).toInt64.toUInt64).toInt64).toUInt64 >>> ((8 : Int32) &&& 0x3f).toInt64.toUInt64).toInt64).toUInt64 >>> ((8 : Int32) &&& 0x3f).toInt64.toUInt64).toInt64).toUInt64 >>> ((8 : Int32) &&& 0x3f).toInt64.toUInt64).toInt64).toUInt64 >>> ((8 : Int32) &&& 0x3f).toInt64.toUInt64).toInt64).toUInt64 >>> ((8 : Int32) &&& 0x3f).toInt64.toUInt64).toInt64)), .second, .val (.ref a2), .val (.int ((2 : Int32) + (-1 : Int32)))] [])) (fun _ k => XS.iinc X33.here hx rfl (hb hby d1_18) rfl (l' := #[.val (.long ((((((((((((q1.toUInt64 >>> ((8 : Int32) &&& 0x3f).toInt64.toUInt64).toInt64).toUInt64 >>> ((8 : Int32) &&& 0x3f).toInt64.toUInt64).toInt64).toUInt64 >>> ((8 : Int32) &&& 0x3f).toInt64.toUInt64).toInt64).toUInt64 >>> ((8 : Int32) &&& 0x3f).toInt64.toUInt64).toInt64).toUInt64 >>> ((8 : Int32) &&& 0x3f).toInt64.toUInt64).toInt64).toUInt64 >>> ((8 : Int32) &&& 0x3f).toInt64.toUInt64).toInt64)), .second, .val (.ref a2), .val (.int ((2 : Int32) + (-1 : Int32)))]) rfl k) ?_
  rw [show ((2 : Int32) + (-1 : Int32)) = (1 : Int32) from by decide]
  show own_Fin _ _ _ _ _ _ _ (T33.setTop (mkF m 21 #[.val (.long ((((((((((((q1.toUInt64 >>> ((8 : Int32) &&& 0x3f).toInt64.toUInt64).toInt64).toUInt64 >>> ((8 : Int32) &&& 0x3f).toInt64.toUInt64).toInt64).toUInt64 >>> ((8 : Int32) &&& 0x3f).toInt64.toUInt64).toInt64).toUInt64 >>> ((8 : Int32) &&& 0x3f).toInt64.toUInt64).toInt64).toUInt64 >>> ((8 : Int32) &&& 0x3f).toInt64.toUInt64).toInt64).toUInt64 >>> ((8 : Int32) &&& 0x3f).toInt64.toUInt64).toInt64)), .second, .val (.ref a2), .val (.int (1 : Int32))] []))
  refine own_go (B := T33.setTop (mkF m 3 #[.val (.long ((((((((((((q1.toUInt64 >>> ((8 : Int32) &&& 0x3f).toInt64.toUInt64).toInt64).toUInt64 >>> ((8 : Int32) &&& 0x3f).toInt64.toUInt64).toInt64).toUInt64 >>> ((8 : Int32) &&& 0x3f).toInt64.toUInt64).toInt64).toUInt64 >>> ((8 : Int32) &&& 0x3f).toInt64.toUInt64).toInt64).toUInt64 >>> ((8 : Int32) &&& 0x3f).toInt64.toUInt64).toInt64).toUInt64 >>> ((8 : Int32) &&& 0x3f).toInt64.toUInt64).toInt64)), .second, .val (.ref a2), .val (.int (1 : Int32))] [])) (fun _ k => XS.goto X33.here hx rfl (pc0 := 21) (pc' := 3) rfl (hb hby d1_21) (by decide) (by decide) k) ?_
  refine own_go (B := T33.setTop (mkF m 4 #[.val (.long ((((((((((((q1.toUInt64 >>> ((8 : Int32) &&& 0x3f).toInt64.toUInt64).toInt64).toUInt64 >>> ((8 : Int32) &&& 0x3f).toInt64.toUInt64).toInt64).toUInt64 >>> ((8 : Int32) &&& 0x3f).toInt64.toUInt64).toInt64).toUInt64 >>> ((8 : Int32) &&& 0x3f).toInt64.toUInt64).toInt64).toUInt64 >>> ((8 : Int32) &&& 0x3f).toInt64.toUInt64).toInt64).toUInt64 >>> ((8 : Int32) &&& 0x3f).toInt64.toUInt64).toInt64)), .second, .val (.ref a2), .val (.int (1 : Int32))] [(.int (1 : Int32))])) (fun _ k => XS.iloadN X33.here hx rfl (hb hby d1_3) rfl  k) ?_
  have hc37 : ¬ ((1 : Int32) < (0 : Int32)) := by decide
  refine own_go (B := T33.setTop (mkF m 7 #[.val (.long ((((((((((((q1.toUInt64 >>> ((8 : Int32) &&& 0x3f).toInt64.toUInt64).toInt64).toUInt64 >>> ((8 : Int32) &&& 0x3f).toInt64.toUInt64).toInt64).toUInt64 >>> ((8 : Int32) &&& 0x3f).toInt64.toUInt64).toInt64).toUInt64 >>> ((8 : Int32) &&& 0x3f).toInt64.toUInt64).toInt64).toUInt64 >>> ((8 : Int32) &&& 0x3f).toInt64.toUInt64).toInt64).toUInt64 >>> ((8 : Int32) &&& 0x3f).toInt64.toUInt64).toInt64)), .second, .val (.ref a2), .val (.int (1 : Int32))] [])) (fun _ k => XS.ifNo X33.here hx rfl (hb hby d1_4) rfl ((if0 _ _).trans (flt hc37).1) k) ?_
  refine own_go (B := T33.setTop (mkF m 8 #[.val (.long ((((((((((((q1.toUInt64 >>> ((8 : Int32) &&& 0x3f).toInt64.toUInt64).toInt64).toUInt64 >>> ((8 : Int32) &&& 0x3f).toInt64.toUInt64).toInt64).toUInt64 >>> ((8 : Int32) &&& 0x3f).toInt64.toUInt64).toInt64).toUInt64 >>> ((8 : Int32) &&& 0x3f).toInt64.toUInt64).toInt64).toUInt64 >>> ((8 : Int32) &&& 0x3f).toInt64.toUInt64).toInt64).toUInt64 >>> ((8 : Int32) &&& 0x3f).toInt64.toUInt64).toInt64)), .second, .val (.ref a2), .val (.int (1 : Int32))] [(.ref a2)])) (fun _ k => XS.aloadN X33.here hx rfl (hb hby d1_7) rfl rfl k) ?_
  refine own_go (B := T33.setTop (mkF m 9 #[.val (.long ((((((((((((q1.toUInt64 >>> ((8 : Int32) &&& 0x3f).toInt64.toUInt64).toInt64).toUInt64 >>> ((8 : Int32) &&& 0x3f).toInt64.toUInt64).toInt64).toUInt64 >>> ((8 : Int32) &&& 0x3f).toInt64.toUInt64).toInt64).toUInt64 >>> ((8 : Int32) &&& 0x3f).toInt64.toUInt64).toInt64).toUInt64 >>> ((8 : Int32) &&& 0x3f).toInt64.toUInt64).toInt64).toUInt64 >>> ((8 : Int32) &&& 0x3f).toInt64.toUInt64).toInt64)), .second, .val (.ref a2), .val (.int (1 : Int32))] [(.int (1 : Int32)), (.ref a2)])) (fun _ k => XS.iloadN X33.here hx rfl (hb hby d1_8) rfl  k) ?_
  refine own_go (B := T33.setTop (mkF m 10 #[.val (.long ((((((((((((q1.toUInt64 >>> ((8 : Int32) &&& 0x3f).toInt64.toUInt64).toInt64).toUInt64 >>> ((8 : Int32) &&& 0x3f).toInt64.toUInt64).toInt64).toUInt64 >>> ((8 : Int32) &&& 0x3f).toInt64.toUInt64).toInt64).toUInt64 >>> ((8 : Int32) &&& 0x3f).toInt64.toUInt64).toInt64).toUInt64 >>> ((8 : Int32) &&& 0x3f).toInt64.toUInt64).toInt64).toUInt64 >>> ((8 : Int32) &&& 0x3f).toInt64.toUInt64).toInt64)), .second, .val (.ref a2), .val (.int (1 : Int32))] [(.long ((((((((((((q1.toUInt64 >>> ((8 : Int32) &&& 0x3f).toInt64.toUInt64).toInt64).toUInt64 >>> ((8 : Int32) &&& 0x3f).toInt64.toUInt64).toInt64).toUInt64 >>> ((8 : Int32) &&& 0x3f).toInt64.toUInt64).toInt64).toUInt64 >>> ((8 : Int32) &&& 0x3f).toInt64.toUInt64).toInt64).toUInt64 >>> ((8 : Int32) &&& 0x3f).toInt64.toUInt64).toInt64).toUInt64 >>> ((8 : Int32) &&& 0x3f).toInt64.toUInt64).toInt64)), (.int (1 : Int32)), (.ref a2)])) (fun _ k => XS.lloadN X33.here hx rfl (hb hby d1_9) rfl  k) ?_
  refine own_go (B := T33.setTop (mkF m 11 #[.val (.long ((((((((((((q1.toUInt64 >>> ((8 : Int32) &&& 0x3f).toInt64.toUInt64).toInt64).toUInt64 >>> ((8 : Int32) &&& 0x3f).toInt64.toUInt64).toInt64).toUInt64 >>> ((8 : Int32) &&& 0x3f).toInt64.toUInt64).toInt64).toUInt64 >>> ((8 : Int32) &&& 0x3f).toInt64.toUInt64).toInt64).toUInt64 >>> ((8 : Int32) &&& 0x3f).toInt64.toUInt64).toInt64).toUInt64 >>> ((8 : Int32) &&& 0x3f).toInt64.toUInt64).toInt64)), .second, .val (.ref a2), .val (.int (1 : Int32))] [(.int (((((((((((((q1.toUInt64 >>> ((8 : Int32) &&& 0x3f).toInt64.toUInt64).toInt64).toUInt64 >>> ((8 : Int32) &&& 0x3f).toInt64.toUInt64).toInt64).toUInt64 >>> ((8 : Int32) &&& 0x3f).toInt64.toUInt64).toInt64).toUInt64 >>> ((8 : Int32) &&& 0x3f).toInt64.toUInt64).toInt64).toUInt64 >>> ((8 : Int32) &&& 0x3f).toInt64.toUInt64).toInt64).toUInt64 >>> ((8 : Int32) &&& 0x3f).toInt64.toUInt64).toInt64).toInt32)), (.int (1 : Int32)), (.ref a2)])) (fun _ k => XS.l2i X33.here hx rfl (hb hby d1_10) rfl k) ?_
  refine own_go (B := T33.setTop (mkF m 12 #[.val (.long ((((((((((((q1.toUInt64 >>> ((8 : Int32) &&& 0x3f).toInt64.toUInt64).toInt64).toUInt64 >>> ((8 : Int32) &&& 0x3f).toInt64.toUInt64).toInt64).toUInt64 >>> ((8 : Int32) &&& 0x3f).toInt64.toUInt64).toInt64).toUInt64 >>> ((8 : Int32) &&& 0x3f).toInt64.toUInt64).toInt64).toUInt64 >>> ((8 : Int32) &&& 0x3f).toInt64.toUInt64).toInt64).toUInt64 >>> ((8 : Int32) &&& 0x3f).toInt64.toUInt64).toInt64)), .second, .val (.ref a2), .val (.int (1 : Int32))] [(.int ((((((((((((((q1.toUInt64 >>> ((8 : Int32) &&& 0x3f).toInt64.toUInt64).toInt64).toUInt64 >>> ((8 : Int32) &&& 0x3f).toInt64.toUInt64).toInt64).toUInt64 >>> ((8 : Int32) &&& 0x3f).toInt64.toUInt64).toInt64).toUInt64 >>> ((8 : Int32) &&& 0x3f).toInt64.toUInt64).toInt64).toUInt64 >>> ((8 : Int32) &&& 0x3f).toInt64.toUInt64).toInt64).toUInt64 >>> ((8 : Int32) &&& 0x3f).toInt64.toUInt64).toInt64).toInt32).toInt8.toInt32)), (.int (1 : Int32)), (.ref a2)])) (fun _ k => XS.i2b X33.here hx rfl (hb hby d1_11) rfl k) ?_
  obtain ⟨cl38, Ar38, q38, S38, N38n, H38, G38⟩ := id V_a2_33
  have hin39 : ¬ ((1 : Int32) < 0 ∨ cl38.slots.size ≤ ((1 : Int32)).toNatClampNeg) := inb_of S38 ⟨by decide, by decide⟩
  obtain ⟨T39, h39, X39, e39, W39, st39⟩ := stB X33 hx hZ e33 Ar38 (j := (1 : Int32)) hin39 (g := (mkF m 12 #[.val (.long ((((((((((((q1.toUInt64 >>> ((8 : Int32) &&& 0x3f).toInt64.toUInt64).toInt64).toUInt64 >>> ((8 : Int32) &&& 0x3f).toInt64.toUInt64).toInt64).toUInt64 >>> ((8 : Int32) &&& 0x3f).toInt64.toUInt64).toInt64).toUInt64 >>> ((8 : Int32) &&& 0x3f).toInt64.toUInt64).toInt64).toUInt64 >>> ((8 : Int32) &&& 0x3f).toInt64.toUInt64).toInt64).toUInt64 >>> ((8 : Int32) &&& 0x3f).toInt64.toUInt64).toInt64)), .second, .val (.ref a2), .val (.int (1 : Int32))] [(.int ((((((((((((((q1.toUInt64 >>> ((8 : Int32) &&& 0x3f).toInt64.toUInt64).toInt64).toUInt64 >>> ((8 : Int32) &&& 0x3f).toInt64.toUInt64).toInt64).toUInt64 >>> ((8 : Int32) &&& 0x3f).toInt64.toUInt64).toInt64).toUInt64 >>> ((8 : Int32) &&& 0x3f).toInt64.toUInt64).toInt64).toUInt64 >>> ((8 : Int32) &&& 0x3f).toInt64.toUInt64).toInt64).toUInt64 >>> ((8 : Int32) &&& 0x3f).toInt64.toUInt64).toInt64).toInt32).toInt8.toInt32)), (.int (1 : Int32)), (.ref a2)])) rfl rfl (hb hby d1_12)
  rw [own_narb] at W39
  have V_a2_39 : Arv Z h39 a2 kk .byte (10 : Int32) [(.int u0), (.int ((((((((((((((q1.toUInt64 >>> ((8 : Int32) &&& 0x3f).toInt64.toUInt64).toInt64).toUInt64 >>> ((8 : Int32) &&& 0x3f).toInt64.toUInt64).toInt64).toUInt64 >>> ((8 : Int32) &&& 0x3f).toInt64.toUInt64).toInt64).toUInt64 >>> ((8 : Int32) &&& 0x3f).toInt64.toUInt64).toInt64).toUInt64 >>> ((8 : Int32) &&& 0x3f).toInt64.toUInt64).toInt64).toUInt64 >>> ((8 : Int32) &&& 0x3f).toInt64.toUInt64).toInt64).toInt32).toInt8.toInt32)), (.int ((((((((((((q1.toUInt64 >>> ((8 : Int32) &&& 0x3f).toInt64.toUInt64).toInt64).toUInt64 >>> ((8 : Int32) &&& 0x3f).toInt64.toUInt64).toInt64).toUInt64 >>> ((8 : Int32) &&& 0x3f).toInt64.toUInt64).toInt64).toUInt64 >>> ((8 : Int32) &&& 0x3f).toInt64.toUInt64).toInt64).toUInt64 >>> ((8 : Int32) &&& 0x3f).toInt64.toUInt64).toInt64).toInt32).toInt8.toInt32)), (.int ((((((((((q1.toUInt64 >>> ((8 : Int32) &&& 0x3f).toInt64.toUInt64).toInt64).toUInt64 >>> ((8 : Int32) &&& 0x3f).toInt64.toUInt64).toInt64).toUInt64 >>> ((8 : Int32) &&& 0x3f).toInt64.toUInt64).toInt64).toUInt64 >>> ((8 : Int32) &&& 0x3f).toInt64.toUInt64).toInt64).toInt32).toInt8.toInt32)), (.int ((((((((q1.toUInt64 >>> ((8 : Int32) &&& 0x3f).toInt64.toUInt64).toInt64).toUInt64 >>> ((8 : Int32) &&& 0x3f).toInt64.toUInt64).toInt64).toUInt64 >>> ((8 : Int32) &&& 0x3f).toInt64.toUInt64).toInt64).toInt32).toInt8.toInt32)), (.int ((((((q1.toUInt64 >>> ((8 : Int32) &&& 0x3f).toInt64.toUInt64).toInt64).toUInt64 >>> ((8 : Int32) &&& 0x3f).toInt64.toUInt64).toInt64).toInt32).toInt8.toInt32)), (.int ((((q1.toUInt64 >>> ((8 : Int32) &&& 0x3f).toInt64.toUInt64).toInt64).toInt32).toInt8.toInt32)), (.int ((q1.toInt32).toInt8.toInt32)), (.int u8), (.int u9)] (.int (0 : Int32)) := Arv.set Ar38 q38 S38 N38n H38 G38 (fits_nar_byte _) W39 1 rfl (Nat.le_of_ble_eq_true rfl)
  have K42 : Keep h0 h39 [a2] := K36.wr W39 (Or.inl (List.mem_of_getElem? (i := 0) rfl))
  have N39 := Fr.snoc X39 N33 g_a2
  refine own_go (B := T39.setTop (mkF m 13 #[.val (.long ((((((((((((q1.toUInt64 >>> ((8 : Int32) &&& 0x3f).toInt64.toUInt64).toInt64).toUInt64 >>> ((8 : Int32) &&& 0x3f).toInt64.toUInt64).toInt64).toUInt64 >>> ((8 : Int32) &&& 0x3f).toInt64.toUInt64).toInt64).toUInt64 >>> ((8 : Int32) &&& 0x3f).toInt64.toUInt64).toInt64).toUInt64 >>> ((8 : Int32) &&& 0x3f).toInt64.toUInt64).toInt64).toUInt64 >>> ((8 : Int32) &&& 0x3f).toInt64.toUInt64).toInt64)), .second, .val (.ref a2), .val (.int (1 : Int32))] [])) st39 ?_
  refine own_go (B := T39.setTop (mkF m 14 #[.val (.long ((((((((((((q1.toUInt64 >>> ((8 : Int32) &&& 0x3f).toInt64.toUInt64).toInt64).toUInt64 >>> ((8 : Int32) &&& 0x3f).toInt64.toUInt64).toInt64).toUInt64 >>> ((8 : Int32) &&& 0x3f).toInt64.toUInt64).toInt64).toUInt64 >>> ((8 : Int32) &&& 0x3f).toInt64.toUInt64).toInt64).toUInt64 >>> ((8 : Int32) &&& 0x3f).toInt64.toUInt64).toInt64).toUInt64 >>> ((8 : Int32) &&& 0x3f).toInt64.toUInt64).toInt64)), .second, .val (.ref a2), .val (.int (1 : Int32))] [(.long ((((((((((((q1.toUInt64 >>> ((8 : Int32) &&& 0x3f).toInt64.toUInt64).toInt64).toUInt64 >>> ((8 : Int32) &&& 0x3f).toInt64.toUInt64).toInt64).toUInt64 >>> ((8 : Int32) &&& 0x3f).toInt64.toUInt64).toInt64).toUInt64 >>> ((8 : Int32) &&& 0x3f).toInt64.toUInt64).toInt64).toUInt64 >>> ((8 : Int32) &&& 0x3f).toInt64.toUInt64).toInt64).toUInt64 >>> ((8 : Int32) &&& 0x3f).toInt64.toUInt64).toInt64))])) (fun _ k => XS.lloadN X39.here hx rfl (hb hby d1_13) rfl  k) ?_
  refine own_go (B := T39.setTop (mkF m 16 #[.val (.long ((((((((((((q1.toUInt64 >>> ((8 : Int32) &&& 0x3f).toInt64.toUInt64).toInt64).toUInt64 >>> ((8 : Int32) &&& 0x3f).toInt64.toUInt64).toInt64).toUInt64 >>> ((8 : Int32) &&& 0x3f).toInt64.toUInt64).toInt64).toUInt64 >>> ((8 : Int32) &&& 0x3f).toInt64.toUInt64).toInt64).toUInt64 >>> ((8 : Int32) &&& 0x3f).toInt64.toUInt64).toInt64).toUInt64 >>> ((8 : Int32) &&& 0x3f).toInt64.toUInt64).toInt64)), .second, .val (.ref a2), .val (.int (1 : Int32))] [(.int (8 : Int32)), (.long ((((((((((((q1.toUInt64 >>> ((8 : Int32) &&& 0x3f).toInt64.toUInt64).toInt64).toUInt64 >>> ((8 : Int32) &&& 0x3f).toInt64.toUInt64).toInt64).toUInt64 >>> ((8 : Int32) &&& 0x3f).toInt64.toUInt64).toInt64).toUInt64 >>> ((8 : Int32) &&& 0x3f).toInt64.toUInt64).toInt64).toUInt64 >>> ((8 : Int32) &&& 0x3f).toInt64.toUInt64).toInt64).toUInt64 >>> ((8 : Int32) &&& 0x3f).toInt64.toUInt64).toInt64))])) (fun _ k => XS.bipush X39.here hx rfl (hb hby d1_14) k) ?_
  refine own_go (B := T39.setTop (mkF m 17 #[.val (.long ((((((((((((q1.toUInt64 >>> ((8 : Int32) &&& 0x3f).toInt64.toUInt64).toInt64).toUInt64 >>> ((8 : Int32) &&& 0x3f).toInt64.toUInt64).toInt64).toUInt64 >>> ((8 : Int32) &&& 0x3f).toInt64.toUInt64).toInt64).toUInt64 >>> ((8 : Int32) &&& 0x3f).toInt64.toUInt64).toInt64).toUInt64 >>> ((8 : Int32) &&& 0x3f).toInt64.toUInt64).toInt64).toUInt64 >>> ((8 : Int32) &&& 0x3f).toInt64.toUInt64).toInt64)), .second, .val (.ref a2), .val (.int (1 : Int32))] [(.long ((((((((((((((q1.toUInt64 >>> ((8 : Int32) &&& 0x3f).toInt64.toUInt64).toInt64).toUInt64 >>> ((8 : Int32) &&& 0x3f).toInt64.toUInt64).toInt64).toUInt64 >>> ((8 : Int32) &&& 0x3f).toInt64.toUInt64).toInt64).toUInt64 >>> ((8 : Int32) &&& 0x3f).toInt64.toUInt64).toInt64).toUInt64 >>> ((8 : Int32) &&& 0x3f).toInt64.toUInt64).toInt64).toUInt64 >>> ((8 : Int32) &&& 0x3f).toInt64.toUInt64).toInt64).toUInt64 >>> ((8 : Int32) &&& 0x3f).toInt64.toUInt64).toInt64))])) (fun _ k => XS.lushr X39.here hx rfl (hb hby d1_16) rfl k) ?_
  refine own_go (B := T39.setTop (mkF m 18 #[.val (.long ((((((((((((((q1.toUInt64 >>> ((8 : Int32) &&& 0x3f).toInt64.toUInt64).toInt64).toUInt64 >>> ((8 : Int32) &&& 0x3f).toInt64.toUInt64).toInt64).toUInt64 >>> ((8 : Int32) &&& 0x3f).toInt64.toUInt64).toInt64).toUInt64 >>> ((8 : Int32) &&& 0x3f).toInt64.toUInt64).toInt64).toUInt64 >>> ((8 : Int32) &&& 0x3f).toInt64.toUInt64).toInt64).toUInt64 >>> ((8 : Int32) &&& 0x3f).toInt64.toUInt64).toInt64).toUInt64 >>> ((8 : Int32) &&& 0x3f).toInt64.toUInt64).toInt64)), .second, .val (.ref a2), .val (.int (1 : Int32))] [])) (fun _ k => XS.lstoreN X39.here hx rfl (hb hby d1_17) rfl (l' := #[.val (.long ((((((((((((((q1.toUInt64 >>> ((8 : Int32) &&& 0x3f).toInt64.toUInt64).toInt64).toUInt64 >>> ((8 : Int32) &&& 0x3f).toInt64.toUInt64).toInt64).toUInt64 >>> ((8 : Int32) &&& 0x3f).toInt64.toUInt64).toInt64).toUInt64 >>> ((8 : Int32) &&& 0x3f).toInt64.toUInt64).toInt64).toUInt64 >>> ((8 : Int32) &&& 0x3f).toInt64.toUInt64).toInt64).toUInt64 >>> ((8 : Int32) &&& 0x3f).toInt64.toUInt64).toInt64).toUInt64 >>> ((8 : Int32) &&& 0x3f).toInt64.toUInt64).toInt64)), .second, .val (.ref a2), .val (.int (1 : Int32))]) rfl k) ?_
  refine own_go (B := T39.setTop (mkF m 21 #[.val (.long ((((((((((((((q1.toUInt64 >>> ((8 : Int32) &&& 0x3f).toInt64.toUInt64).toInt64).toUInt64 >>> ((8 : Int32) &&& 0x3f).toInt64.toUInt64).toInt64).toUInt64 >>> ((8 : Int32) &&& 0x3f).toInt64.toUInt64).toInt64).toUInt64 >>> ((8 : Int32) &&& 0x3f).toInt64.toUInt64).toInt64).toUInt64 >>> ((8 : Int32) &&& 0x3f).toInt64.toUInt64).toInt64).toUInt64 >>> ((8 : Int32) &&& 0x3f).toInt64.toUInt64).toInt64).toUInt64 >>> ((8 : Int32) &&& 0x3f).toInt64.toUInt64).toInt64)), .second, .val (.ref a2), .val (.int ((1 : Int32) + (-1 : Int32)))] [])) (fun _ k => XS.iinc X39.here hx rfl (hb hby d1_18) rfl (l' := #[.val (.long ((((((((((((((q1.toUInt64 >>> ((8 : Int32) &&& 0x3f).toInt64.toUInt64).toInt64).toUInt64 >>> ((8 : Int32) &&& 0x3f).toInt64.toUInt64).toInt64).toUInt64 >>> ((8 : Int32) &&& 0x3f).toInt64.toUInt64).toInt64).toUInt64 >>> ((8 : Int32) &&& 0x3f).toInt64.toUInt64).toInt64).toUInt64 >>> ((8 : Int32) &&& 0x3f).toInt64.toUInt64).toInt64).toUInt64 >>> ((8 : Int32) &&& 0x3f).toInt64.toUInt64).toInt64).toUInt64 >>> ((8 : Int32) &&& 0x3f).toInt64.toUInt64).toInt64)), .second, .val (.ref a2), .val (.int ((1 : Int32) + (-1 : Int32)))]) rfl k) ?_
  rw [show ((1 : Int32) + (-1 : Int32)) = (0 : Int32) from by decide]
  show own_Fin _ _ _ _ _ _ _ (T39.setTop (mkF m 21 #[.val (.long ((((((((((((((q1.toUInt64 >>> ((8 : Int32) &&& 0x3f).toInt64.toUInt64).toInt64).toUInt64 >>> ((8 : Int32) &&& 0x3f).toInt64.toUInt64).toInt64).toUInt64 >>> ((8 : Int32) &&& 0x3f).toInt64.toUInt64).toInt64).toUInt64 >>> ((8 : Int32) &&& 0x3f).toInt64.toUInt64).toInt64).toUInt64 >>> ((8 : Int32) &&& 0x3f).toInt64.toUInt64).toInt64).toUInt64 >>> ((8 : Int32) &&& 0x3f).toInt64.toUInt64).toInt64).toUInt64 >>> ((8 : Int32) &&& 0x3f).toInt64.toUInt64).toInt64)), .second, .val (.ref a2), .val (.int (0 : Int32))] []))
  refine own_go (B := T39.setTop (mkF m 3 #[.val (.long ((((((((((((((q1.toUInt64 >>> ((8 : Int32) &&& 0x3f).toInt64.toUInt64).toInt64).toUInt64 >>> ((8 : Int32) &&& 0x3f).toInt64.toUInt64).toInt64).toUInt64 >>> ((8 : Int32) &&& 0x3f).toInt64.toUInt64).toInt64).toUInt64 >>> ((8 : Int32) &&& 0x3f).toInt64.toUInt64).toInt64).toUInt64 >>> ((8 : Int32) &&& 0x3f).toInt64.toUInt64).toInt64).toUInt64 >>> ((8 : Int32) &&& 0x3f).toInt64.toUInt64).toInt64).toUInt64 >>> ((8 : Int32) &&& 0x3f).toInt64.toUInt64).toInt64)), .second, .val (.ref a2), .val (.int (0 : Int32))] [])) (fun _ k => XS.goto X39.here hx rfl (pc0 := 21) (pc' := 3) rfl (hb hby d1_21) (by decide) (by decide) k) ?_
  refine own_go (B := T39.setTop (mkF m 4 #[.val (.long ((((((((((((((q1.toUInt64 >>> ((8 : Int32) &&& 0x3f).toInt64.toUInt64).toInt64).toUInt64 >>> ((8 : Int32) &&& 0x3f).toInt64.toUInt64).toInt64).toUInt64 >>> ((8 : Int32) &&& 0x3f).toInt64.toUInt64).toInt64).toUInt64 >>> ((8 : Int32) &&& 0x3f).toInt64.toUInt64).toInt64).toUInt64 >>> ((8 : Int32) &&& 0x3f).toInt64.toUInt64).toInt64).toUInt64 >>> ((8 : Int32) &&& 0x3f).toInt64.toUInt64).toInt64).toUInt64 >>> ((8 : Int32) &&& 0x3f).toInt64.toUInt64).toInt64)), .second, .val (.ref a2), .val (.int (0 : Int32))] [(.int (0 : Int32))])) (fun _ k => XS.iloadN X39.here hx rfl (hb hby d1_3) rfl  k) ?_
  have hc43 : ¬ ((0 : Int32) < (0 : Int32)) := by decide
  refine own_go (B := T39.setTop (mkF m 7 #[.val (.long ((((((((((((((q1.toUInt64 >>> ((8 : Int32) &&& 0x3f).toInt64.toUInt64).toInt64).toUInt64 >>> ((8 : Int32) &&& 0x3f).toInt64.toUInt64).toInt64).toUInt64 >>> ((8 : Int32) &&& 0x3f).toInt64.toUInt64).toInt64).toUInt64 >>> ((8 : Int32) &&& 0x3f).toInt64.toUInt64).toInt64).toUInt64 >>> ((8 : Int32) &&& 0x3f).toInt64.toUInt64).toInt64).toUInt64 >>> ((8 : Int32) &&& 0x3f).toInt64.toUInt64).toInt64).toUInt64 >>> ((8 : Int32) &&& 0x3f).toInt64.toUInt64).toInt64)), .second, .val (.ref a2), .val (.int (0 : Int32))] [])) (fun _ k => XS.ifNo X39.here hx rfl (hb hby d1_4) rfl ((if0 _ _).trans (flt hc43).1) k) ?_
  refine own_go (B := T39.setTop (mkF m 8 #[.val (.long ((((((((((((((q1.toUInt64 >>> ((8 : Int32) &&& 0x3f).toInt64.toUInt64).toInt64).toUInt64 >>> ((8 : Int32) &&& 0x3f).toInt64.toUInt64).toInt64).toUInt64 >>> ((8 : Int32) &&& 0x3f).toInt64.toUInt64).toInt64).toUInt64 >>> ((8 : Int32) &&& 0x3f).toInt64.toUInt64).toInt64).toUInt64 >>> ((8 : Int32) &&& 0x3f).toInt64.toUInt64).toInt64).toUInt64 >>> ((8 : Int32) &&& 0x3f).toInt64.toUInt64).toInt64).toUInt64 >>> ((8 : Int32) &&& 0x3f).toInt64.toUInt64).toInt64)), .second, .val (.ref a2), .val (.int (0 : Int32))] [(.ref a2)])) (fun _ k => XS.aloadN X39.here hx rfl (hb hby d1_7) rfl rfl k) ?_
  refine own_go (B := T39.setTop (mkF m 9 #[.val (.long ((((((((((((((q1.toUInt64 >>> ((8 : Int32) &&& 0x3f).toInt64.toUInt64).toInt64).toUInt64 >>> ((8 : Int32) &&& 0x3f).toInt64.toUInt64).toInt64).toUInt64 >>> ((8 : Int32) &&& 0x3f).toInt64.toUInt64).toInt64).toUInt64 >>> ((8 : Int32) &&& 0x3f).toInt64.toUInt64).toInt64).toUInt64 >>> ((8 : Int32) &&& 0x3f).toInt64.toUInt64).toInt64).toUInt64 >>> ((8 : Int32) &&& 0x3f).toInt64.toUInt64).toInt64).toUInt64 >>> ((8 : Int32) &&& 0x3f).toInt64.toUInt64).toInt64)), .second, .val (.ref a2), .val (.int (0 : Int32))] [(.int (0 : Int32)), (.ref a2)])) (fun _ k => XS.iloadN X39.here hx rfl (hb hby d1_8) rfl  k) ?_
  refine own_go (B := T39.setTop (mkF m 10 #[.val (.long ((((((((((((((q1.toUInt64 >>> ((8 : Int32) &&& 0x3f).toInt64.toUInt64).toInt64).toUInt64 >>> ((8 : Int32) &&& 0x3f).toInt64.toUInt64).toInt64).toUInt64 >>> ((8 : Int32) &&& 0x3f).toInt64.toUInt64).toInt64).toUInt64 >>> ((8 : Int32) &&& 0x3f).toInt64.toUInt64).toInt64).toUInt64 >>> ((8 : Int32) &&& 0x3f).toInt64.toUInt64).toInt64).toUInt64 >>> ((8 : Int32) &&& 0x3f).toInt64.toUInt64).toInt64).toUInt64 >>> ((8 : Int32) &&& 0x3f).toInt64.toUInt64).toInt64)), .second, .val (.ref a2), .val (.int (0 : Int32))] [(.long ((((((((((((((q1.toUInt64 >>> ((8 : Int32) &&& 0x3f).toInt64.toUInt64).toInt64).toUInt64 >>> ((8 : Int32) &&& 0x3f).toInt64.toUInt64).toInt64).toUInt64 >>> ((8 : Int32) &&& 0x3f).toInt64.toUInt64).toInt64).toUInt64 >>> ((8 : Int32) &&& 0x3f).toInt64.toUInt64).toInt64).toUInt64 >>> ((8 : Int32) &&& 0x3f).toInt64.toUInt64).toInt64).toUInt64 >>> ((8 : Int32) &&& 0x3f).toInt64.toUInt64).toInt64).toUInt64 >>> ((8 : Int32) &&& 0x3f).toInt64.toUInt64).toInt64)), (.int (0 : Int32)), (.ref a2)])) (fun _ k => XS.lloadN X39.here hx rfl (hb hby d1_9) rfl  k) ?_
  refine own_go (B := T39.setTop (mkF m 11 #[.val (.long ((((((((((((((q1.toUInt64 >>> ((8 : Int32) &&& 0x3f).toInt64.toUInt64).toInt64).toUInt64 >>> ((8 : Int32) &&& 0x3f).toInt64.toUInt64).toInt64).toUInt64 >>> ((8 : Int32) &&& 0x3f).toInt64.toUInt64).toInt64).toUInt64 >>> ((8 : Int32) &&& 0x3f).toInt64.toUInt64).toInt64).toUInt64 >>> ((8 : Int32) &&& 0x3f).toInt64.toUInt64).toInt64).toUInt64 >>> ((8 : Int32) &&& 0x3f).toInt64.toUInt64).toInt64).toUInt64 >>> ((8 : Int32) &&& 0x3f).toInt64.toUInt64).toInt64)), .second, .val (.ref a2), .val (.int (0 : Int32))] [(.int (((((((((((((((q1.toUInt64 >>> ((8 : Int32) &&& 0x3f).toInt64.toUInt64).toInt64).toUInt64 >>> ((8 : Int32) &&& 0x3f).toInt64.toUInt64).toInt64).toUInt64 >>> ((8 : Int32) &&& 0x3f).toInt64.toUInt64).toInt64).toUInt64 >>> ((8 : Int32) &&& 0x3f).toInt64.toUInt64).toInt64).toUInt64 >>> ((8 : Int32) &&& 0x3f).toInt64.toUInt64).toInt64).toUInt64 >>> ((8 : Int32) &&& 0x3f).toInt64.toUInt64).toInt64).toUInt64 >>> ((8 : Int32) &&& 0x3f).toInt64.toUInt64).toInt64).toInt32)), (.int (0 : Int32)), (.ref a2)])) (fun _ k => XS.l2i X39.here hx rfl (hb hby d1_10) rfl k) ?_
  refine own_go (B := T39.setTop (mkF m 12 #[.val (.long ((((((((((((((q1.toUInt64 >>> ((8 : Int32) &&& 0x3f).toInt64.toUInt64).toInt64).toUInt64 >>> ((8 : Int32) &&& 0x3f).toInt64.toUInt64).toInt64).toUInt64 >>> ((8 : Int32) &&& 0x3f).toInt64.toUInt64).toInt64).toUInt64 >>> ((8 : Int32) &&& 0x3f).toInt64.toUInt64).toInt64).toUInt64 >>> ((8 : Int32) &&& 0x3f).toInt64.toUInt64).toInt64).toUInt64 >>> ((8 : Int32) &&& 0x3f).toInt64.toUInt64).toInt64).toUInt64 >>> ((8 : Int32) &&& 0x3f).toInt64.toUInt64).toInt64)), .second, .val (.ref a2), .val (.int (0 : Int32))] [(.int ((((((((((((((((q1.toUInt64 >>> ((8 : Int32) &&& 0x3f).toInt64.toUInt64).toInt64).toUInt64 >>> ((8 : Int32) &&& 0x3f).toInt64.toUInt64).toInt64).toUInt64 >>> ((8 : Int32) &&& 0x3f).toInt64.toUInt64).toInt64).toUInt64 >>> ((8 : Int32) &&& 0x3f).toInt64.toUInt64).toInt64).toUInt64 >>> ((8 : Int32) &&& 0x3f).toInt64.toUInt64).toInt64).toUInt64 >>> ((8 : Int32) &&& 0x3f).toInt64.toUInt64).toInt64).toUInt64 >>> ((8 : Int32) &&& 0x3f).toInt64.toUInt64).toInt64).toInt32).toInt8.toInt32)), (.int (0 : Int32)), (.ref a2)])) (fun _ k => XS.i2b X39.here hx rfl (hb hby d1_11) rfl k) ?_
  obtain ⟨cl44, Ar44, q44, S44, N44n, H44, G44⟩ := id V_a2_39
  have hin45 : ¬ ((0 : Int32) < 0 ∨ cl44.slots.size ≤ ((0 : Int32)).toNatClampNeg) := inb_of S44 ⟨by decide, by decide⟩
  obtain ⟨T45, h45, X45, e45, W45, st45⟩ := stB X39 hx hZ e39 Ar44 (j := (0 : Int32)) hin45 (g := (mkF m 12 #[.val (.long ((((((((((((((q1.toUInt64 >>> ((8 : Int32) &&& 0x3f).toInt64.toUInt64).toInt64).toUInt64 >>> ((8 : Int32) &&& 0x3f).toInt64.toUInt64).toInt64).toUInt64 >>> ((8 : Int32) &&& 0x3f).toInt64.toUInt64).toInt64).toUInt64 >>> ((8 : Int32) &&& 0x3f).toInt64.toUInt64).toInt64).toUInt64 >>> ((8 : Int32) &&& 0x3f).toInt64.toUInt64).toInt64).toUInt64 >>> ((8 : Int32) &&& 0x3f).toInt64.toUInt64).toInt64).toUInt64 >>> ((8 : Int32) &&& 0x3f).toInt64.toUInt64).toInt64)), .second, .val (.ref a2), .val (.int (0 : Int32))] [(.int ((((((((((((((((q1.toUInt64 >>> ((8 : Int32) &&& 0x3f).toInt64.toUInt64).toInt64).toUInt64 >>> ((8 : Int32) &&& 0x3f).toInt64.toUInt64).toInt64).toUInt64 >>> ((8 : Int32) &&& 0x3f).toInt64.toUInt64).toInt64).toUInt64 >>> ((8 : Int32) &&& 0x3f).toInt64.toUInt64).toInt64).toUInt64 >>> ((8 : Int32) &&& 0x3f).toInt64.toUInt64).toInt64).toUInt64 >>> ((8 : Int32) &&& 0x3f).toInt64.toUInt64).toInt64).toUInt64 >>> ((8 : Int32) &&& 0x3f).toInt64.toUInt64).toInt64).toInt32).toInt8.toInt32)), (.int (0 : Int32)), (.ref a2)])) rfl rfl (hb hby d1_12)
  rw [own_narb] at W45
  have V_a2_45 : Arv Z h45 a2 kk .byte (10 : Int32) [(.int ((((((((((((((((q1.toUInt64 >>> ((8 : Int32) &&& 0x3f).toInt64.toUInt64).toInt64).toUInt64 >>> ((8 : Int32) &&& 0x3f).toInt64.toUInt64).toInt64).toUInt64 >>> ((8 : Int32) &&& 0x3f).toInt64.toUInt64).toInt64).toUInt64 >>> ((8 : Int32) &&& 0x3f).toInt64.toUInt64).toInt64).toUInt64 >>> ((8 : Int32) &&& 0x3f).toInt64.toUInt64).toInt64).toUInt64 >>> ((8 : Int32) &&& 0x3f).toInt64.toUInt64).toInt64).toUInt64 >>> ((8 : Int32) &&& 0x3f).toInt64.toUInt64).toInt64).toInt32).toInt8.toInt32)), (.int ((((((((((((((q1.toUInt64 >>> ((8 : Int32) &&& 0x3f).toInt64.toUInt64).toInt64).toUInt64 >>> ((8 : Int32) &&& 0x3f).toInt64.toUInt64).toInt64).toUInt64 >>> ((8 : Int32) &&& 0x3f).toInt64.toUInt64).toInt64).toUInt64 >>> ((8 : Int32) &&& 0x3f).toInt64.toUInt64).toInt64).toUInt64 >>> ((8 : Int32) &&& 0x3f).toInt64.toUInt64).toInt64).toUInt64 >>> ((8 : Int32) &&& 0x3f).toInt64.toUInt64).toInt64).toInt32).toInt8.toInt32)), (.int ((((((((((((q1.toUInt64 >>> ((8 : Int32) &&& 0x3f).toInt64.toUInt64).toInt64).toUInt64 >>> ((8 : Int32) &&& 0x3f).toInt64.toUInt64).toInt64).toUInt64 >>> ((8 : Int32) &&& 0x3f).toInt64.toUInt64).toInt64).toUInt64 >>> ((8 : Int32) &&& 0x3f).toInt64.toUInt64).toInt64).toUInt64 >>> ((8 : Int32) &&& 0x3f).toInt64.toUInt64).toInt64).toInt32).toInt8.toInt32)), (.int ((((((((((q1.toUInt64 >>> ((8 : Int32) &&& 0x3f).toInt64.toUInt64).toInt64).toUInt64 >>> ((8 : Int32) &&& 0x3f).toInt64.toUInt64).toInt64).toUInt64 >>> ((8 : Int32) &&& 0x3f).toInt64.toUInt64).toInt64).toUInt64 >>> ((8 : Int32) &&& 0x3f).toInt64.toUInt64).toInt64).toInt32).toInt8.toInt32)), (.int ((((((((q1.toUInt64 >>> ((8 : Int32) &&& 0x3f).toInt64.toUInt64).toInt64).toUInt64 >>> ((8 : Int32) &&& 0x3f).toInt64.toUInt64).toInt64).toUInt64 >>> ((8 : Int32) &&& 0x3f).toInt64.toUInt64).toInt64).toInt32).toInt8.toInt32)), (.int ((((((q1.toUInt64 >>> ((8 : Int32) &&& 0x3f).toInt64.toUInt64).toInt64).toUInt64 >>> ((8 : Int32) &&& 0x3f).toInt64.toUInt64).toInt64).toInt32).toInt8.toInt32)), (.int ((((q1.toUInt64 >>> ((8 : Int32) &&& 0x3f).toInt64.toUInt64).toInt64).toInt32).toInt8.toInt32)), (.int ((q1.toInt32).toInt8.toInt32)), (.int u8), (.int u9)] (.int (0 : Int32)) := Arv.set Ar44 q44 S44 N44n H44 G44 (fits_nar_byte _) W45 0 rfl (Nat.le_of_ble_eq_true rfl)
  have K48 : Keep h0 h45 [a2] := K42.wr W45 (Or.inl (List.mem_of_getElem? (i := 0) rfl))
  have N45 := Fr.snoc X45 N39 g_a2
  refine own_go (B := T45.setTop (mkF m 13 #[.val (.long ((((((((((((((q1.toUInt64 >>> ((8 : Int32) &&& 0x3f).toInt64.toUInt64).toInt64).toUInt64 >>> ((8 : Int32) &&& 0x3f).toInt64.toUInt64).toInt64).toUInt64 >>> ((8 : Int32) &&& 0x3f).toInt64.toUInt64).toInt64).toUInt64 >>> ((8 : Int32) &&& 0x3f).toInt64.toUInt64).toInt64).toUInt64 >>> ((8 : Int32) &&& 0x3f).toInt64.toUInt64).toInt64).toUInt64 >>> ((8 : Int32) &&& 0x3f).toInt64.toUInt64).toInt64).toUInt64 >>> ((8 : Int32) &&& 0x3f).toInt64.toUInt64).toInt64)), .second, .val (.ref a2), .val (.int (0 : Int32))] [])) st45 ?_
  refine own_go (B := T45.setTop (mkF m 14 #[.val (.long ((((((((((((((q1.toUInt64 >>> ((8 : Int32) &&& 0x3f).toInt64.toUInt64).toInt64).toUInt64 >>> ((8 : Int32) &&& 0x3f).toInt64.toUInt64).toInt64).toUInt64 >>> ((8 : Int32) &&& 0x3f).toInt64.toUInt64).toInt64).toUInt64 >>> ((8 : Int32) &&& 0x3f).toInt64.toUInt64).toInt64).toUInt64 >>> ((8 : Int32) &&& 0x3f).toInt64.toUInt64).toInt64).toUInt64 >>> ((8 : Int32) &&& 0x3f).toInt64.toUInt64).toInt64).toUInt64 >>> ((8 : Int32) &&& 0x3f).toInt64.toUInt64).toInt64)), .second, .val (.ref a2), .val (.int (0 : Int32))] [(.long ((((((((((((((q1.toUInt64 >>> ((8 : Int32) &&& 0x3f).toInt64.toUInt64).toInt64).toUInt64 >>> ((8 : Int32) &&& 0x3f).toInt64.toUInt64).toInt64).toUInt64 >>> ((8 : Int32) &&& 0x3f).toInt64.toUInt64).toInt64).toUInt64 >>> ((8 : Int32) &&& 0x3f).toInt64.toUInt64).toInt64).toUInt64 >>> ((8 : Int32) &&& 0x3f).toInt64.toUInt64).toInt64).toUInt64 >>> ((8 : Int32) &&& 0x3f).toInt64.toUInt64).toInt64).toUInt64 >>> ((8 : Int32) &&& 0x3f).toInt64.toUInt64).toInt64))])) (fun _ k => XS.lloadN X45.here hx rfl (hb hby d1_13) rfl  k) ?_
  refine own_go (B := T45.setTop (mkF m 16 #[.val (.long ((((((((((((((q1.toUInt64 >>> ((8 : Int32) &&& 0x3f).toInt64.toUInt64).toInt64).toUInt64 >>> ((8 : Int32) &&& 0x3f).toInt64.toUInt64).toInt64).toUInt64 >>> ((8 : Int32) &&& 0x3f).toInt64.toUInt64).toInt64).toUInt64 >>> ((8 : Int32) &&& 0x3f).toInt64.toUInt64).toInt64).toUInt64 >>> ((8 : Int32) &&& 0x3f).toInt64.toUInt64).toInt64).toUInt64 >>> ((8 : Int32) &&& 0x3f).toInt64.toUInt64).toInt64).toUInt64 >>> ((8 : Int32) &&& 0x3f).toInt64.toUInt64).toInt64)), .second, .val (.ref a2), .val (.int (0 : Int32))] [(.int (8 : Int32)), (.long ((((((((((((((q1.toUInt64 >>> ((8 : Int32) &&& 0x3f).toInt64.toUInt64).toInt64).toUInt64 >>> ((8 : Int32) &&& 0x3f).toInt64.toUInt64).toInt64).toUInt64 >>> ((8 : Int32) &&& 0x3f).toInt64.toUInt64).toInt64).toUInt64 >>> ((8 : Int32) &&& 0x3f).toInt64.toUInt64).toInt64).toUInt64 >>> ((8 : Int32) &&& 0x3f).toInt64.toUInt64).toInt64).toUInt64 >>> ((8 : Int32) &&& 0x3f).toInt64.toUInt64).toInt64).toUInt64 >>> ((8 : Int32) &&& 0x3f).toInt64.toUInt64).toInt64))])) (fun _ k => XS.bipush X45.here hx rfl (hb hby d1_14) k) ?_
  refine own_go (B := T45.setTop (mkF m 17 #[.val (.long ((((((((((((((q1.toUInt64 >>> ((8 : Int32) &&& 0x3f).toInt64.toUInt64).toInt64).toUInt64 >>> ((8 : Int32) &&& 0x3f).toInt64.toUInt64).toInt64).toUInt64 >>> ((8 : Int32) &&& 0x3f).toInt64.toUInt64).toInt64).toUInt64 >>> ((8 : Int32) &&& 0x3f).toInt64.toUInt64).toInt64).toUInt64 >>> ((8 : Int32) &&& 0x3f).toInt64.toUInt64).toInt64).toUInt64 >>> ((8 : Int32) &&& 0x3f).toInt64.toUInt64).toInt64).toUInt64 >>> ((8 : Int32) &&& 0x3f).toInt64.toUInt64).toInt64)), .second, .val (.ref a2), .val (.int (0 : Int32))] [(.long ((((((((((((((((q1.toUInt64 >>> ((8 : Int32) &&& 0x3f).toInt64.toUInt64).toInt64).toUInt64 >>> ((8 : Int32) &&& 0x3f).toInt64.toUInt64).toInt64).toUInt64 >>> ((8 : Int32) &&& 0x3f).toInt64.toUInt64).toInt64).toUInt64 >>> ((8 : Int32) &&& 0x3f).toInt64.toUInt64).toInt64).toUInt64 >>> ((8 : Int32) &&& 0x3f).toInt64.toUInt64).toInt64).toUInt64 >>> ((8 : Int32) &&& 0x3f).toInt64.toUInt64).toInt64).toUInt64 >>> ((8 : Int32) &&& 0x3f).toInt64.toUInt64).toInt64).toUInt64 >>> ((8 : Int32) &&& 0x3f).toInt64.toUInt64).toInt64))])) (fun _ k => XS.lushr X45.here hx rfl (hb hby d1_16) rfl k) ?_
  refine own_go (B := T45.setTop (mkF m 18 #[.val (.long ((((((((((((((((q1.toUInt64 >>> ((8 : Int32) &&& 0x3f).toInt64.toUInt64).toInt64).toUInt64 >>> ((8 : Int32) &&& 0x3f).toInt64.toUInt64).toInt64).toUInt64 >>> ((8 : Int32) &&& 0x3f).toInt64.toUInt64).toInt64).toUInt64 >>> ((8 : Int32) &&& 0x3f).toInt64.toUInt64).toInt64).toUInt64 >>> ((8 : Int32) &&& 0x3f).toInt64.toUInt64).toInt64).toUInt64 >>> ((8 : Int32) &&& 0x3f).toInt64.toUInt64).toInt64).toUInt64 >>> ((8 : Int32) &&& 0x3f).toInt64.toUInt64).toInt64).toUInt64 >>> ((8 : Int32) &&& 0x3f).toInt64.toUInt64).toInt64)), .second, .val (.ref a2), .val (.int (0 : Int32))] [])) (fun _ k => XS.lstoreN X45.here hx rfl (hb hby d1_17) rfl (l' := #[.val (.long ((((((((((((((((q1.toUInt64 >>> ((8 : Int32) &&& 0x3f).toInt64.toUInt64).toInt64).toUInt64 >>> ((8 : Int32) &&& 0x3f).toInt64.toUInt64).toInt64).toUInt64 >>> ((8 : Int32) &&& 0x3f).toInt64.toUInt64).toInt64).toUInt64 >>> ((8 : Int32) &&& 0x3f).toInt64.toUInt64).toInt64).toUInt64 >>> ((8 : Int32) &&& 0x3f).toInt64.toUInt64).toInt64).toUInt64 >>> ((8 : Int32) &&& 0x3f).toInt64.toUInt64).toInt64).toUInt64 >>> ((8 : Int32) &&& 0x3f).toInt64.toUInt64).toInt64).toUInt64 >>> ((8 : Int32) &&& 0x3f).toInt64.toUInt64).toInt64)), .second, .val (.ref a2), .val (.int (0 : Int32))]) rfl k) ?_
  refine own_go (B := T45.setTop (mkF m 21 #[.val (.long ((((((((((((((((q1.toUInt64 >>> ((8 : Int32) &&& 0x3f).toInt64.toUInt64).toInt64).toUInt64 >>> ((8 : Int32) &&& 0x3f).toInt64.toUInt64).toInt64).toUInt64 >>> ((8 : Int32) &&& 0x3f).toInt64.toUInt64).toInt64).toUInt64 >>> ((8 : Int32) &&& 0x3f).toInt64.toUInt64).toInt64).toUInt64 >>> ((8 : Int32) &&& 0x3f).toInt64.toUInt64).toInt64).toUInt64 >>> ((8 : Int32) &&& 0x3f).toInt64.toUInt64).toInt64).toUInt64 >>> ((8 : Int32) &&& 0x3f).toInt64.toUInt64).toInt64).toUInt64 >>> ((8 : Int32) &&& 0x3f).toInt64.toUInt64).toInt64)), .second, .val (.ref a2), .val (.int ((0 : Int32) + (-1 : Int32)))] [])) (fun _ k => XS.iinc X45.here hx rfl (hb hby d1_18) rfl (l' := #[.val (.long ((((((((((((((((q1.toUInt64 >>> ((8 : Int32) &&& 0x3f).toInt64.toUInt64).toInt64).toUInt64 >>> ((8 : Int32) &&& 0x3f).toInt64.toUInt64).toInt64).toUInt64 >>> ((8 : Int32) &&& 0x3f).toInt64.toUInt64).toInt64).toUInt64 >>> ((8 : Int32) &&& 0x3f).toInt64.toUInt64).toInt64).toUInt64 >>> ((8 : Int32) &&& 0x3f).toInt64.toUInt64).toInt64).toUInt64 >>> ((8 : Int32) &&& 0x3f).toInt64.toUInt64).toInt64).toUInt64 >>> ((8 : Int32) &&& 0x3f).toInt64.toUInt64).toInt64).toUInt64 >>> ((8 : Int32) &&& 0x3f).toInt64.toUInt64).toInt64)), .second, .val (.ref a2), .val (.int ((0 : Int32) + (-1 : Int32)))]) rfl k) ?_
  rw [show ((0 : Int32) + (-1 : Int32)) = (-1 : Int32) from by decide]
  show own_Fin _ _ _ _ _ _ _ (T45.setTop (mkF m 21 #[.val (.long ((((((((((((((((q1.toUInt64 >>> ((8 : Int32) &&& 0x3f).toInt64.toUInt64).toInt64).toUInt64 >>> ((8 : Int32) &&& 0x3f).toInt64.toUInt64).toInt64).toUInt64 >>> ((8 : Int32) &&& 0x3f).toInt64.toUInt64).toInt64).toUInt64 >>> ((8 : Int32) &&& 0x3f).toInt64.toUInt64).toInt64).toUInt64 >>> ((8 : Int32) &&& 0x3f).toInt64.toUInt64).toInt64).toUInt64 >>> ((8 : Int32) &&& 0x3f).toInt64.toUInt64).toInt64).toUInt64 >>> ((8 : Int32) &&& 0x3f).toInt64.toUInt64).toInt64).toUInt64 >>> ((8 : Int32) &&& 0x3f).toInt64.toUInt64).toInt64)), .second, .val (.ref a2), .val (.int (-1 : Int32))] []))
  refine own_go (B := T45.setTop (mkF m 3 #[.val (.long ((((((((((((((((q1.toUInt64 >>> ((8 : Int32) &&& 0x3f).toInt64.toUInt64).toInt64).toUInt64 >>> ((8 : Int32) &&& 0x3f).toInt64.toUInt64).toInt64).toUInt64 >>> ((8 : Int32) &&& 0x3f).toInt64.toUInt64).toInt64).toUInt64 >>> ((8 : Int32) &&& 0x3f).toInt64.toUInt64).toInt64).toUInt64 >>> ((8 : Int32) &&& 0x3f).toInt64.toUInt64).toInt64).toUInt64 >>> ((8 : Int32) &&& 0x3f).toInt64.toUInt64).toInt64).toUInt64 >>> ((8 : Int32) &&& 0x3f).toInt64.toUInt64).toInt64).toUInt64 >>> ((8 : Int32) &&& 0x3f).toInt64.toUInt64).toInt64)), .second, .val (.ref a2), .val (.int (-1 : Int32))] [])) (fun _ k => XS.goto X45.here hx rfl (pc0 := 21) (pc' := 3) rfl (hb hby d1_21) (by decide) (by decide) k) ?_
  refine own_go (B := T45.setTop (mkF m 4 #[.val (.long ((((((((((((((((q1.toUInt64 >>> ((8 : Int32) &&& 0x3f).toInt64.toUInt64).toInt64).toUInt64 >>> ((8 : Int32) &&& 0x3f).toInt64.toUInt64).toInt64).toUInt64 >>> ((8 : Int32) &&& 0x3f).toInt64.toUInt64).toInt64).toUInt64 >>> ((8 : Int32) &&& 0x3f).toInt64.toUInt64).toInt64).toUInt64 >>> ((8 : Int32) &&& 0x3f).toInt64.toUInt64).toInt64).toUInt64 >>> ((8 : Int32) &&& 0x3f).toInt64.toUInt64).toInt64).toUInt64 >>> ((8 : Int32) &&& 0x3f).toInt64.toUInt64).toInt64).toUInt64 >>> ((8 : Int32) &&& 0x3f).toInt64.toUInt64).toInt64)), .second, .val (.ref a2), .val (.int (-1 : Int32))] [(.int (-1 : Int32))])) (fun _ k => XS.iloadN X45.here hx rfl (hb hby d1_3) rfl  k) ?_
  have hc49 : (-1 : Int32) < (0 : Int32) := by decide
  refine own_go (B := T45.setTop (mkF m 24 #[.val (.long ((((((((((((((((q1.toUInt64 >>> ((8 : Int32) &&& 0x3f).toInt64.toUInt64).toInt64).toUInt64 >>> ((8 : Int32) &&& 0x3f).toInt64.toUInt64).toInt64).toUInt64 >>> ((8 : Int32) &&& 0x3f).toInt64.toUInt64).toInt64).toUInt64 >>> ((8 : Int32) &&& 0x3f).toInt64.toUInt64).toInt64).toUInt64 >>> ((8 : Int32) &&& 0x3f).toInt64.toUInt64).toInt64).toUInt64 >>> ((8 : Int32) &&& 0x3f).toInt64.toUInt64).toInt64).toUInt64 >>> ((8 : Int32) &&& 0x3f).toInt64.toUInt64).toInt64).toUInt64 >>> ((8 : Int32) &&& 0x3f).toInt64.toUInt64).toInt64)), .second, .val (.ref a2), .val (.int (-1 : Int32))] [])) (fun _ k => XS.ifYes X45.here hx rfl (pc0 := 4) (pc' := 24) rfl (hb hby d1_4) rfl ((if0 _ _).trans (tlt hc49).1) (by decide) (by decide) k) ?_
  exact own_retV X45 hx Bd.notSynchronized Bd.returns (hb hby d1_24) e45 ⟨rfl, N45, K48, V_a2_45⟩ (by decide) (by decide)
abbrev R_own_u56 : Room := { frames := 0, cells := 0, slots := 0, locals := 0 }
theorem d2_0 : decode method_2_code 0 = .ok (.iload_n 0, 1) := by decide +kernel
theorem d2_1 : decode method_2_code 1 = .ok (.sipush 255, 3) := by decide +kernel
theorem d2_4 : decode method_2_code 4 = .ok (.iand, 1) := by decide +kernel
theorem d2_5 : decode method_2_code 5 = .ok (.i2l, 1) := by decide +kernel
theorem d2_6 : decode method_2_code 6 = .ok (.iload_n 1, 1) := by decide +kernel
theorem d2_7 : decode method_2_code 7 = .ok (.lshl, 1) := by decide +kernel
theorem d2_8 : decode method_2_code 8 = .ok (.lreturn, 1) := by decide +kernel
theorem own_pn1 : plainName "com/example/kin_bloom/kinbloom/eval/IntegerKeysWritePinLaw" = true := by first | (simp [plainName, overriddenIn]; done) | decide +kernel
theorem ef_own_u56 (m : MethodId) (x0 : Int32) : entryFrame m #[(.int x0), (.int (56 : Int32))] 2 = mkF m 0 #[.val (.int x0), .val (.int (56 : Int32))] [] := by first | (simp [entryFrame, mkF, argsToLocals, Value.category]; done) | rfl
set_option maxRecDepth 65536 in
set_option maxHeartbeats 4000000 in
theorem own_pl_u56_1 (p1 : Int32) : (((p1 &&& (255 : Int32)).toInt64) <<< ((56 : Int32) &&& 0x3f).toInt64).toBitVec.toNat = (p1.toInt % 256).toNat * 2 ^ 56 := by
  exact own_ush p1 _ (by decide) (by decide)
def Q_own_u56 (Z : State) (p1 : Int32) (h0 : Heap) (n0 : Nat) (v : Option Value) (h : Heap) (L : List Loc) : Prop := ∃ r : Int64, v = some (.long r) ∧ Fr n0 L ∧ h = h0 ∧ (r.toBitVec.toNat = (p1.toInt % 256).toNat * 2 ^ 56)
set_option maxRecDepth 65536 in
set_option maxHeartbeats 400000000 in
theorem own_u56 (l : Launch) (Z : State) (a0 : Array Value) (hw : ∀ d ∈ tables_1, d.before a0 Z = true) (ws : List Jvm.Cond) (p1 : Int32) (h0 : Heap) (n0 : Nat) (Z0 : n0 ≤ h0.size)  :
    MetFree l (⟨"com/example/kin_bloom/kinbloom/eval/IntegerKeysWritePinLaw", "u", "(BI)J"⟩ : MethodName) (head1 (Jvm.Cond.code (⟨"com/example/kin_bloom/kinbloom/eval/IntegerKeysWritePinLaw", "u", "(BI)J"⟩ : MethodName) method_2_code 2 (some .long) :: ws) R_own_u56) (fun a U => a = #[(.int p1), (.int (56 : Int32))] ∧ Z.Warmed39 U.vm ∧ U.heap = h0) (fun _ _ _ _ _ => True) (fun _ U o U' => ∃ v L, o = .returned v ∧ Q_own_u56 Z p1 h0 n0 v U'.heap L ∧ FrameEnd U o U' L R_own_u56.cells R_own_u56.slots) := by
  refine MetFree.of_bodySF (plainFor_of_name own_pn1) hisR ?_
  intro p e s m args below meth c s₁ Bd hml0 hP hK
  obtain ⟨rfl, hZ, hh⟩ := hP
  have hx := Bd.exec
  have hby := Bd.bytes
  have hml : c.maxLocals = 2 := hml0
  have hown : s.vm.findClass "com/example/kin_bloom/kinbloom/eval/IntegerKeysWritePinLaw" = some m.cls := findClass_of_methodNamed Bd.named
  have hnm := (name_of_methodNamed Bd.named Bd.method).1
  have X0 : Stand p l e R_own_u56 s m #[(.int p1), (.int (56 : Int32))] below meth c s₁ [] 0 0 := Stand.of_body Bd
  have e0 : s₁.heap = h0 := by rw [← hh, Bd.state]; rfl
  have N0 := Fr.nil n0
  have K0 : Keep h0 h0 [] := Keep.refl h0 []
  show own_Fin p e below s (Q_own_u56 Z p1 h0 n0) R_own_u56.cells R_own_u56.slots (s₁.setTop (entryFrame m #[(.int p1), (.int (56 : Int32))] 2))
  refine own_go (fun _ k => castTop (ef_own_u56 m p1) k) ?_
  show own_Fin _ _ _ _ _ _ _ (s₁.setTop (mkF m 0 #[.val (.int p1), .val (.int (56 : Int32))] []))
  refine own_go (B := s₁.setTop (mkF m 1 #[.val (.int p1), .val (.int (56 : Int32))] [(.int p1)])) (fun _ k => XS.iloadN X0.here hx rfl (hb hby d2_0) rfl  k) ?_
  refine own_go (B := s₁.setTop (mkF m 4 #[.val (.int p1), .val (.int (56 : Int32))] [(.int (255 : Int32)), (.int p1)])) (fun _ k => XS.sipush X0.here hx rfl (hb hby d2_1) k) ?_
  refine own_go (B := s₁.setTop (mkF m 5 #[.val (.int p1), .val (.int (56 : Int32))] [(.int (p1 &&& (255 : Int32)))])) (fun _ k => XS.iand X0.here hx rfl (hb hby d2_4) rfl k) ?_
  refine own_go (B := s₁.setTop (mkF m 6 #[.val (.int p1), .val (.int (56 : Int32))] [(.long ((p1 &&& (255 : Int32)).toInt64))])) (fun _ k => XS.i2l X0.here hx rfl (hb hby d2_5) rfl k) ?_
  refine own_go (B := s₁.setTop (mkF m 7 #[.val (.int p1), .val (.int (56 : Int32))] [(.int (56 : Int32)), (.long ((p1 &&& (255 : Int32)).toInt64))])) (fun _ k => XS.iloadN X0.here hx rfl (hb hby d2_6) rfl  k) ?_
  refine own_go (B := s₁.setTop (mkF m 8 #[.val (.int p1), .val (.int (56 : Int32))] [(.long (((p1 &&& (255 : Int32)).toInt64) <<< ((56 : Int32) &&& 0x3f).toInt64))])) (fun _ k => XS.lshl X0.here hx rfl (hb hby d2_7) rfl k) ?_
  exact own_retJ X0 hx Bd.notSynchronized Bd.returns (hb hby d2_8) e0 ⟨(((p1 &&& (255 : Int32)).toInt64) <<< ((56 : Int32) &&& 0x3f).toInt64), rfl, N0, rfl, (own_pl_u56_1 p1)⟩ (by decide) (by decide)
abbrev R_own_u48 : Room := { frames := 0, cells := 0, slots := 0, locals := 0 }
theorem ef_own_u48 (m : MethodId) (x0 : Int32) : entryFrame m #[(.int x0), (.int (48 : Int32))] 2 = mkF m 0 #[.val (.int x0), .val (.int (48 : Int32))] [] := by first | (simp [entryFrame, mkF, argsToLocals, Value.category]; done) | rfl
set_option maxRecDepth 65536 in
set_option maxHeartbeats 4000000 in
theorem own_pl_u48_1 (p1 : Int32) : (((p1 &&& (255 : Int32)).toInt64) <<< ((48 : Int32) &&& 0x3f).toInt64).toBitVec.toNat = (p1.toInt % 256).toNat * 2 ^ 48 := by
  exact own_ush p1 _ (by decide) (by decide)
def Q_own_u48 (Z : State) (p1 : Int32) (h0 : Heap) (n0 : Nat) (v : Option Value) (h : Heap) (L : List Loc) : Prop := ∃ r : Int64, v = some (.long r) ∧ Fr n0 L ∧ h = h0 ∧ (r.toBitVec.toNat = (p1.toInt % 256).toNat * 2 ^ 48)
set_option maxRecDepth 65536 in
set_option maxHeartbeats 400000000 in
theorem own_u48 (l : Launch) (Z : State) (a0 : Array Value) (hw : ∀ d ∈ tables_1, d.before a0 Z = true) (ws : List Jvm.Cond) (p1 : Int32) (h0 : Heap) (n0 : Nat) (Z0 : n0 ≤ h0.size)  :
    MetFree l (⟨"com/example/kin_bloom/kinbloom/eval/IntegerKeysWritePinLaw", "u", "(BI)J"⟩ : MethodName) (head1 (Jvm.Cond.code (⟨"com/example/kin_bloom/kinbloom/eval/IntegerKeysWritePinLaw", "u", "(BI)J"⟩ : MethodName) method_2_code 2 (some .long) :: ws) R_own_u48) (fun a U => a = #[(.int p1), (.int (48 : Int32))] ∧ Z.Warmed39 U.vm ∧ U.heap = h0) (fun _ _ _ _ _ => True) (fun _ U o U' => ∃ v L, o = .returned v ∧ Q_own_u48 Z p1 h0 n0 v U'.heap L ∧ FrameEnd U o U' L R_own_u48.cells R_own_u48.slots) := by
  refine MetFree.of_bodySF (plainFor_of_name own_pn1) hisR ?_
  intro p e s m args below meth c s₁ Bd hml0 hP hK
  obtain ⟨rfl, hZ, hh⟩ := hP
  have hx := Bd.exec
  have hby := Bd.bytes
  have hml : c.maxLocals = 2 := hml0
  have hown : s.vm.findClass "com/example/kin_bloom/kinbloom/eval/IntegerKeysWritePinLaw" = some m.cls := findClass_of_methodNamed Bd.named
  have hnm := (name_of_methodNamed Bd.named Bd.method).1
  have X0 : Stand p l e R_own_u48 s m #[(.int p1), (.int (48 : Int32))] below meth c s₁ [] 0 0 := Stand.of_body Bd
  have e0 : s₁.heap = h0 := by rw [← hh, Bd.state]; rfl
  have N0 := Fr.nil n0
  have K0 : Keep h0 h0 [] := Keep.refl h0 []
  show own_Fin p e below s (Q_own_u48 Z p1 h0 n0) R_own_u48.cells R_own_u48.slots (s₁.setTop (entryFrame m #[(.int p1), (.int (48 : Int32))] 2))
  refine own_go (fun _ k => castTop (ef_own_u48 m p1) k) ?_
  show own_Fin _ _ _ _ _ _ _ (s₁.setTop (mkF m 0 #[.val (.int p1), .val (.int (48 : Int32))] []))
  refine own_go (B := s₁.setTop (mkF m 1 #[.val (.int p1), .val (.int (48 : Int32))] [(.int p1)])) (fun _ k => XS.iloadN X0.here hx rfl (hb hby d2_0) rfl  k) ?_
  refine own_go (B := s₁.setTop (mkF m 4 #[.val (.int p1), .val (.int (48 : Int32))] [(.int (255 : Int32)), (.int p1)])) (fun _ k => XS.sipush X0.here hx rfl (hb hby d2_1) k) ?_
  refine own_go (B := s₁.setTop (mkF m 5 #[.val (.int p1), .val (.int (48 : Int32))] [(.int (p1 &&& (255 : Int32)))])) (fun _ k => XS.iand X0.here hx rfl (hb hby d2_4) rfl k) ?_
  refine own_go (B := s₁.setTop (mkF m 6 #[.val (.int p1), .val (.int (48 : Int32))] [(.long ((p1 &&& (255 : Int32)).toInt64))])) (fun _ k => XS.i2l X0.here hx rfl (hb hby d2_5) rfl k) ?_
  refine own_go (B := s₁.setTop (mkF m 7 #[.val (.int p1), .val (.int (48 : Int32))] [(.int (48 : Int32)), (.long ((p1 &&& (255 : Int32)).toInt64))])) (fun _ k => XS.iloadN X0.here hx rfl (hb hby d2_6) rfl  k) ?_
  refine own_go (B := s₁.setTop (mkF m 8 #[.val (.int p1), .val (.int (48 : Int32))] [(.long (((p1 &&& (255 : Int32)).toInt64) <<< ((48 : Int32) &&& 0x3f).toInt64))])) (fun _ k => XS.lshl X0.here hx rfl (hb hby d2_7) rfl k) ?_
  exact own_retJ X0 hx Bd.notSynchronized Bd.returns (hb hby d2_8) e0 ⟨(((p1 &&& (255 : Int32)).toInt64) <<< ((48 : Int32) &&& 0x3f).toInt64), rfl, N0, rfl, (own_pl_u48_1 p1)⟩ (by decide) (by decide)
abbrev R_own_u40 : Room := { frames := 0, cells := 0, slots := 0, locals := 0 }
theorem ef_own_u40 (m : MethodId) (x0 : Int32) : entryFrame m #[(.int x0), (.int (40 : Int32))] 2 = mkF m 0 #[.val (.int x0), .val (.int (40 : Int32))] [] := by first | (simp [entryFrame, mkF, argsToLocals, Value.category]; done) | rfl
set_option maxRecDepth 65536 in
set_option maxHeartbeats 4000000 in
theorem own_pl_u40_1 (p1 : Int32) : (((p1 &&& (255 : Int32)).toInt64) <<< ((40 : Int32) &&& 0x3f).toInt64).toBitVec.toNat = (p1.toInt % 256).toNat * 2 ^ 40 := by
  exact own_ush p1 _ (by decide) (by decide)
def Q_own_u40 (Z : State) (p1 : Int32) (h0 : Heap) (n0 : Nat) (v : Option Value) (h : Heap) (L : List Loc) : Prop := ∃ r : Int64, v = some (.long r) ∧ Fr n0 L ∧ h = h0 ∧ (r.toBitVec.toNat = (p1.toInt % 256).toNat * 2 ^ 40)
set_option maxRecDepth 65536 in
set_option maxHeartbeats 400000000 in
theorem own_u40 (l : Launch) (Z : State) (a0 : Array Value) (hw : ∀ d ∈ tables_1, d.before a0 Z = true) (ws : List Jvm.Cond) (p1 : Int32) (h0 : Heap) (n0 : Nat) (Z0 : n0 ≤ h0.size)  :
    MetFree l (⟨"com/example/kin_bloom/kinbloom/eval/IntegerKeysWritePinLaw", "u", "(BI)J"⟩ : MethodName) (head1 (Jvm.Cond.code (⟨"com/example/kin_bloom/kinbloom/eval/IntegerKeysWritePinLaw", "u", "(BI)J"⟩ : MethodName) method_2_code 2 (some .long) :: ws) R_own_u40) (fun a U => a = #[(.int p1), (.int (40 : Int32))] ∧ Z.Warmed39 U.vm ∧ U.heap = h0) (fun _ _ _ _ _ => True) (fun _ U o U' => ∃ v L, o = .returned v ∧ Q_own_u40 Z p1 h0 n0 v U'.heap L ∧ FrameEnd U o U' L R_own_u40.cells R_own_u40.slots) := by
  refine MetFree.of_bodySF (plainFor_of_name own_pn1) hisR ?_
  intro p e s m args below meth c s₁ Bd hml0 hP hK
  obtain ⟨rfl, hZ, hh⟩ := hP
  have hx := Bd.exec
  have hby := Bd.bytes
  have hml : c.maxLocals = 2 := hml0
  have hown : s.vm.findClass "com/example/kin_bloom/kinbloom/eval/IntegerKeysWritePinLaw" = some m.cls := findClass_of_methodNamed Bd.named
  have hnm := (name_of_methodNamed Bd.named Bd.method).1
  have X0 : Stand p l e R_own_u40 s m #[(.int p1), (.int (40 : Int32))] below meth c s₁ [] 0 0 := Stand.of_body Bd
  have e0 : s₁.heap = h0 := by rw [← hh, Bd.state]; rfl
  have N0 := Fr.nil n0
  have K0 : Keep h0 h0 [] := Keep.refl h0 []
  show own_Fin p e below s (Q_own_u40 Z p1 h0 n0) R_own_u40.cells R_own_u40.slots (s₁.setTop (entryFrame m #[(.int p1), (.int (40 : Int32))] 2))
  refine own_go (fun _ k => castTop (ef_own_u40 m p1) k) ?_
  show own_Fin _ _ _ _ _ _ _ (s₁.setTop (mkF m 0 #[.val (.int p1), .val (.int (40 : Int32))] []))
  refine own_go (B := s₁.setTop (mkF m 1 #[.val (.int p1), .val (.int (40 : Int32))] [(.int p1)])) (fun _ k => XS.iloadN X0.here hx rfl (hb hby d2_0) rfl  k) ?_
  refine own_go (B := s₁.setTop (mkF m 4 #[.val (.int p1), .val (.int (40 : Int32))] [(.int (255 : Int32)), (.int p1)])) (fun _ k => XS.sipush X0.here hx rfl (hb hby d2_1) k) ?_
  refine own_go (B := s₁.setTop (mkF m 5 #[.val (.int p1), .val (.int (40 : Int32))] [(.int (p1 &&& (255 : Int32)))])) (fun _ k => XS.iand X0.here hx rfl (hb hby d2_4) rfl k) ?_
  refine own_go (B := s₁.setTop (mkF m 6 #[.val (.int p1), .val (.int (40 : Int32))] [(.long ((p1 &&& (255 : Int32)).toInt64))])) (fun _ k => XS.i2l X0.here hx rfl (hb hby d2_5) rfl k) ?_
  refine own_go (B := s₁.setTop (mkF m 7 #[.val (.int p1), .val (.int (40 : Int32))] [(.int (40 : Int32)), (.long ((p1 &&& (255 : Int32)).toInt64))])) (fun _ k => XS.iloadN X0.here hx rfl (hb hby d2_6) rfl  k) ?_
  refine own_go (B := s₁.setTop (mkF m 8 #[.val (.int p1), .val (.int (40 : Int32))] [(.long (((p1 &&& (255 : Int32)).toInt64) <<< ((40 : Int32) &&& 0x3f).toInt64))])) (fun _ k => XS.lshl X0.here hx rfl (hb hby d2_7) rfl k) ?_
  exact own_retJ X0 hx Bd.notSynchronized Bd.returns (hb hby d2_8) e0 ⟨(((p1 &&& (255 : Int32)).toInt64) <<< ((40 : Int32) &&& 0x3f).toInt64), rfl, N0, rfl, (own_pl_u40_1 p1)⟩ (by decide) (by decide)
abbrev R_own_u32 : Room := { frames := 0, cells := 0, slots := 0, locals := 0 }
theorem ef_own_u32 (m : MethodId) (x0 : Int32) : entryFrame m #[(.int x0), (.int (32 : Int32))] 2 = mkF m 0 #[.val (.int x0), .val (.int (32 : Int32))] [] := by first | (simp [entryFrame, mkF, argsToLocals, Value.category]; done) | rfl
set_option maxRecDepth 65536 in
set_option maxHeartbeats 4000000 in
theorem own_pl_u32_1 (p1 : Int32) : (((p1 &&& (255 : Int32)).toInt64) <<< ((32 : Int32) &&& 0x3f).toInt64).toBitVec.toNat = (p1.toInt % 256).toNat * 2 ^ 32 := by
  exact own_ush p1 _ (by decide) (by decide)
def Q_own_u32 (Z : State) (p1 : Int32) (h0 : Heap) (n0 : Nat) (v : Option Value) (h : Heap) (L : List Loc) : Prop := ∃ r : Int64, v = some (.long r) ∧ Fr n0 L ∧ h = h0 ∧ (r.toBitVec.toNat = (p1.toInt % 256).toNat * 2 ^ 32)
set_option maxRecDepth 65536 in
set_option maxHeartbeats 400000000 in
theorem own_u32 (l : Launch) (Z : State) (a0 : Array Value) (hw : ∀ d ∈ tables_1, d.before a0 Z = true) (ws : List Jvm.Cond) (p1 : Int32) (h0 : Heap) (n0 : Nat) (Z0 : n0 ≤ h0.size)  :
    MetFree l (⟨"com/example/kin_bloom/kinbloom/eval/IntegerKeysWritePinLaw", "u", "(BI)J"⟩ : MethodName) (head1 (Jvm.Cond.code (⟨"com/example/kin_bloom/kinbloom/eval/IntegerKeysWritePinLaw", "u", "(BI)J"⟩ : MethodName) method_2_code 2 (some .long) :: ws) R_own_u32) (fun a U => a = #[(.int p1), (.int (32 : Int32))] ∧ Z.Warmed39 U.vm ∧ U.heap = h0) (fun _ _ _ _ _ => True) (fun _ U o U' => ∃ v L, o = .returned v ∧ Q_own_u32 Z p1 h0 n0 v U'.heap L ∧ FrameEnd U o U' L R_own_u32.cells R_own_u32.slots) := by
  refine MetFree.of_bodySF (plainFor_of_name own_pn1) hisR ?_
  intro p e s m args below meth c s₁ Bd hml0 hP hK
  obtain ⟨rfl, hZ, hh⟩ := hP
  have hx := Bd.exec
  have hby := Bd.bytes
  have hml : c.maxLocals = 2 := hml0
  have hown : s.vm.findClass "com/example/kin_bloom/kinbloom/eval/IntegerKeysWritePinLaw" = some m.cls := findClass_of_methodNamed Bd.named
  have hnm := (name_of_methodNamed Bd.named Bd.method).1
  have X0 : Stand p l e R_own_u32 s m #[(.int p1), (.int (32 : Int32))] below meth c s₁ [] 0 0 := Stand.of_body Bd
  have e0 : s₁.heap = h0 := by rw [← hh, Bd.state]; rfl
  have N0 := Fr.nil n0
  have K0 : Keep h0 h0 [] := Keep.refl h0 []
  show own_Fin p e below s (Q_own_u32 Z p1 h0 n0) R_own_u32.cells R_own_u32.slots (s₁.setTop (entryFrame m #[(.int p1), (.int (32 : Int32))] 2))
  refine own_go (fun _ k => castTop (ef_own_u32 m p1) k) ?_
  show own_Fin _ _ _ _ _ _ _ (s₁.setTop (mkF m 0 #[.val (.int p1), .val (.int (32 : Int32))] []))
  refine own_go (B := s₁.setTop (mkF m 1 #[.val (.int p1), .val (.int (32 : Int32))] [(.int p1)])) (fun _ k => XS.iloadN X0.here hx rfl (hb hby d2_0) rfl  k) ?_
  refine own_go (B := s₁.setTop (mkF m 4 #[.val (.int p1), .val (.int (32 : Int32))] [(.int (255 : Int32)), (.int p1)])) (fun _ k => XS.sipush X0.here hx rfl (hb hby d2_1) k) ?_
  refine own_go (B := s₁.setTop (mkF m 5 #[.val (.int p1), .val (.int (32 : Int32))] [(.int (p1 &&& (255 : Int32)))])) (fun _ k => XS.iand X0.here hx rfl (hb hby d2_4) rfl k) ?_
  refine own_go (B := s₁.setTop (mkF m 6 #[.val (.int p1), .val (.int (32 : Int32))] [(.long ((p1 &&& (255 : Int32)).toInt64))])) (fun _ k => XS.i2l X0.here hx rfl (hb hby d2_5) rfl k) ?_
  refine own_go (B := s₁.setTop (mkF m 7 #[.val (.int p1), .val (.int (32 : Int32))] [(.int (32 : Int32)), (.long ((p1 &&& (255 : Int32)).toInt64))])) (fun _ k => XS.iloadN X0.here hx rfl (hb hby d2_6) rfl  k) ?_
  refine own_go (B := s₁.setTop (mkF m 8 #[.val (.int p1), .val (.int (32 : Int32))] [(.long (((p1 &&& (255 : Int32)).toInt64) <<< ((32 : Int32) &&& 0x3f).toInt64))])) (fun _ k => XS.lshl X0.here hx rfl (hb hby d2_7) rfl k) ?_
  exact own_retJ X0 hx Bd.notSynchronized Bd.returns (hb hby d2_8) e0 ⟨(((p1 &&& (255 : Int32)).toInt64) <<< ((32 : Int32) &&& 0x3f).toInt64), rfl, N0, rfl, (own_pl_u32_1 p1)⟩ (by decide) (by decide)
abbrev R_own_u24 : Room := { frames := 0, cells := 0, slots := 0, locals := 0 }
theorem ef_own_u24 (m : MethodId) (x0 : Int32) : entryFrame m #[(.int x0), (.int (24 : Int32))] 2 = mkF m 0 #[.val (.int x0), .val (.int (24 : Int32))] [] := by first | (simp [entryFrame, mkF, argsToLocals, Value.category]; done) | rfl
set_option maxRecDepth 65536 in
set_option maxHeartbeats 4000000 in
theorem own_pl_u24_1 (p1 : Int32) : (((p1 &&& (255 : Int32)).toInt64) <<< ((24 : Int32) &&& 0x3f).toInt64).toBitVec.toNat = (p1.toInt % 256).toNat * 2 ^ 24 := by
  exact own_ush p1 _ (by decide) (by decide)
def Q_own_u24 (Z : State) (p1 : Int32) (h0 : Heap) (n0 : Nat) (v : Option Value) (h : Heap) (L : List Loc) : Prop := ∃ r : Int64, v = some (.long r) ∧ Fr n0 L ∧ h = h0 ∧ (r.toBitVec.toNat = (p1.toInt % 256).toNat * 2 ^ 24)
set_option maxRecDepth 65536 in
set_option maxHeartbeats 400000000 in
theorem own_u24 (l : Launch) (Z : State) (a0 : Array Value) (hw : ∀ d ∈ tables_1, d.before a0 Z = true) (ws : List Jvm.Cond) (p1 : Int32) (h0 : Heap) (n0 : Nat) (Z0 : n0 ≤ h0.size)  :
    MetFree l (⟨"com/example/kin_bloom/kinbloom/eval/IntegerKeysWritePinLaw", "u", "(BI)J"⟩ : MethodName) (head1 (Jvm.Cond.code (⟨"com/example/kin_bloom/kinbloom/eval/IntegerKeysWritePinLaw", "u", "(BI)J"⟩ : MethodName) method_2_code 2 (some .long) :: ws) R_own_u24) (fun a U => a = #[(.int p1), (.int (24 : Int32))] ∧ Z.Warmed39 U.vm ∧ U.heap = h0) (fun _ _ _ _ _ => True) (fun _ U o U' => ∃ v L, o = .returned v ∧ Q_own_u24 Z p1 h0 n0 v U'.heap L ∧ FrameEnd U o U' L R_own_u24.cells R_own_u24.slots) := by
  refine MetFree.of_bodySF (plainFor_of_name own_pn1) hisR ?_
  intro p e s m args below meth c s₁ Bd hml0 hP hK
  obtain ⟨rfl, hZ, hh⟩ := hP
  have hx := Bd.exec
  have hby := Bd.bytes
  have hml : c.maxLocals = 2 := hml0
  have hown : s.vm.findClass "com/example/kin_bloom/kinbloom/eval/IntegerKeysWritePinLaw" = some m.cls := findClass_of_methodNamed Bd.named
  have hnm := (name_of_methodNamed Bd.named Bd.method).1
  have X0 : Stand p l e R_own_u24 s m #[(.int p1), (.int (24 : Int32))] below meth c s₁ [] 0 0 := Stand.of_body Bd
  have e0 : s₁.heap = h0 := by rw [← hh, Bd.state]; rfl
  have N0 := Fr.nil n0
  have K0 : Keep h0 h0 [] := Keep.refl h0 []
  show own_Fin p e below s (Q_own_u24 Z p1 h0 n0) R_own_u24.cells R_own_u24.slots (s₁.setTop (entryFrame m #[(.int p1), (.int (24 : Int32))] 2))
  refine own_go (fun _ k => castTop (ef_own_u24 m p1) k) ?_
  show own_Fin _ _ _ _ _ _ _ (s₁.setTop (mkF m 0 #[.val (.int p1), .val (.int (24 : Int32))] []))
  refine own_go (B := s₁.setTop (mkF m 1 #[.val (.int p1), .val (.int (24 : Int32))] [(.int p1)])) (fun _ k => XS.iloadN X0.here hx rfl (hb hby d2_0) rfl  k) ?_
  refine own_go (B := s₁.setTop (mkF m 4 #[.val (.int p1), .val (.int (24 : Int32))] [(.int (255 : Int32)), (.int p1)])) (fun _ k => XS.sipush X0.here hx rfl (hb hby d2_1) k) ?_
  refine own_go (B := s₁.setTop (mkF m 5 #[.val (.int p1), .val (.int (24 : Int32))] [(.int (p1 &&& (255 : Int32)))])) (fun _ k => XS.iand X0.here hx rfl (hb hby d2_4) rfl k) ?_
  refine own_go (B := s₁.setTop (mkF m 6 #[.val (.int p1), .val (.int (24 : Int32))] [(.long ((p1 &&& (255 : Int32)).toInt64))])) (fun _ k => XS.i2l X0.here hx rfl (hb hby d2_5) rfl k) ?_
  refine own_go (B := s₁.setTop (mkF m 7 #[.val (.int p1), .val (.int (24 : Int32))] [(.int (24 : Int32)), (.long ((p1 &&& (255 : Int32)).toInt64))])) (fun _ k => XS.iloadN X0.here hx rfl (hb hby d2_6) rfl  k) ?_
  refine own_go (B := s₁.setTop (mkF m 8 #[.val (.int p1), .val (.int (24 : Int32))] [(.long (((p1 &&& (255 : Int32)).toInt64) <<< ((24 : Int32) &&& 0x3f).toInt64))])) (fun _ k => XS.lshl X0.here hx rfl (hb hby d2_7) rfl k) ?_
  exact own_retJ X0 hx Bd.notSynchronized Bd.returns (hb hby d2_8) e0 ⟨(((p1 &&& (255 : Int32)).toInt64) <<< ((24 : Int32) &&& 0x3f).toInt64), rfl, N0, rfl, (own_pl_u24_1 p1)⟩ (by decide) (by decide)
abbrev R_own_u16 : Room := { frames := 0, cells := 0, slots := 0, locals := 0 }
theorem ef_own_u16 (m : MethodId) (x0 : Int32) : entryFrame m #[(.int x0), (.int (16 : Int32))] 2 = mkF m 0 #[.val (.int x0), .val (.int (16 : Int32))] [] := by first | (simp [entryFrame, mkF, argsToLocals, Value.category]; done) | rfl
set_option maxRecDepth 65536 in
set_option maxHeartbeats 4000000 in
theorem own_pl_u16_1 (p1 : Int32) : (((p1 &&& (255 : Int32)).toInt64) <<< ((16 : Int32) &&& 0x3f).toInt64).toBitVec.toNat = (p1.toInt % 256).toNat * 2 ^ 16 := by
  exact own_ush p1 _ (by decide) (by decide)
def Q_own_u16 (Z : State) (p1 : Int32) (h0 : Heap) (n0 : Nat) (v : Option Value) (h : Heap) (L : List Loc) : Prop := ∃ r : Int64, v = some (.long r) ∧ Fr n0 L ∧ h = h0 ∧ (r.toBitVec.toNat = (p1.toInt % 256).toNat * 2 ^ 16)
set_option maxRecDepth 65536 in
set_option maxHeartbeats 400000000 in
theorem own_u16 (l : Launch) (Z : State) (a0 : Array Value) (hw : ∀ d ∈ tables_1, d.before a0 Z = true) (ws : List Jvm.Cond) (p1 : Int32) (h0 : Heap) (n0 : Nat) (Z0 : n0 ≤ h0.size)  :
    MetFree l (⟨"com/example/kin_bloom/kinbloom/eval/IntegerKeysWritePinLaw", "u", "(BI)J"⟩ : MethodName) (head1 (Jvm.Cond.code (⟨"com/example/kin_bloom/kinbloom/eval/IntegerKeysWritePinLaw", "u", "(BI)J"⟩ : MethodName) method_2_code 2 (some .long) :: ws) R_own_u16) (fun a U => a = #[(.int p1), (.int (16 : Int32))] ∧ Z.Warmed39 U.vm ∧ U.heap = h0) (fun _ _ _ _ _ => True) (fun _ U o U' => ∃ v L, o = .returned v ∧ Q_own_u16 Z p1 h0 n0 v U'.heap L ∧ FrameEnd U o U' L R_own_u16.cells R_own_u16.slots) := by
  refine MetFree.of_bodySF (plainFor_of_name own_pn1) hisR ?_
  intro p e s m args below meth c s₁ Bd hml0 hP hK
  obtain ⟨rfl, hZ, hh⟩ := hP
  have hx := Bd.exec
  have hby := Bd.bytes
  have hml : c.maxLocals = 2 := hml0
  have hown : s.vm.findClass "com/example/kin_bloom/kinbloom/eval/IntegerKeysWritePinLaw" = some m.cls := findClass_of_methodNamed Bd.named
  have hnm := (name_of_methodNamed Bd.named Bd.method).1
  have X0 : Stand p l e R_own_u16 s m #[(.int p1), (.int (16 : Int32))] below meth c s₁ [] 0 0 := Stand.of_body Bd
  have e0 : s₁.heap = h0 := by rw [← hh, Bd.state]; rfl
  have N0 := Fr.nil n0
  have K0 : Keep h0 h0 [] := Keep.refl h0 []
  show own_Fin p e below s (Q_own_u16 Z p1 h0 n0) R_own_u16.cells R_own_u16.slots (s₁.setTop (entryFrame m #[(.int p1), (.int (16 : Int32))] 2))
  refine own_go (fun _ k => castTop (ef_own_u16 m p1) k) ?_
  show own_Fin _ _ _ _ _ _ _ (s₁.setTop (mkF m 0 #[.val (.int p1), .val (.int (16 : Int32))] []))
  refine own_go (B := s₁.setTop (mkF m 1 #[.val (.int p1), .val (.int (16 : Int32))] [(.int p1)])) (fun _ k => XS.iloadN X0.here hx rfl (hb hby d2_0) rfl  k) ?_
  refine own_go (B := s₁.setTop (mkF m 4 #[.val (.int p1), .val (.int (16 : Int32))] [(.int (255 : Int32)), (.int p1)])) (fun _ k => XS.sipush X0.here hx rfl (hb hby d2_1) k) ?_
  refine own_go (B := s₁.setTop (mkF m 5 #[.val (.int p1), .val (.int (16 : Int32))] [(.int (p1 &&& (255 : Int32)))])) (fun _ k => XS.iand X0.here hx rfl (hb hby d2_4) rfl k) ?_
  refine own_go (B := s₁.setTop (mkF m 6 #[.val (.int p1), .val (.int (16 : Int32))] [(.long ((p1 &&& (255 : Int32)).toInt64))])) (fun _ k => XS.i2l X0.here hx rfl (hb hby d2_5) rfl k) ?_
  refine own_go (B := s₁.setTop (mkF m 7 #[.val (.int p1), .val (.int (16 : Int32))] [(.int (16 : Int32)), (.long ((p1 &&& (255 : Int32)).toInt64))])) (fun _ k => XS.iloadN X0.here hx rfl (hb hby d2_6) rfl  k) ?_
  refine own_go (B := s₁.setTop (mkF m 8 #[.val (.int p1), .val (.int (16 : Int32))] [(.long (((p1 &&& (255 : Int32)).toInt64) <<< ((16 : Int32) &&& 0x3f).toInt64))])) (fun _ k => XS.lshl X0.here hx rfl (hb hby d2_7) rfl k) ?_
  exact own_retJ X0 hx Bd.notSynchronized Bd.returns (hb hby d2_8) e0 ⟨(((p1 &&& (255 : Int32)).toInt64) <<< ((16 : Int32) &&& 0x3f).toInt64), rfl, N0, rfl, (own_pl_u16_1 p1)⟩ (by decide) (by decide)
abbrev R_own_u8 : Room := { frames := 0, cells := 0, slots := 0, locals := 0 }
theorem ef_own_u8 (m : MethodId) (x0 : Int32) : entryFrame m #[(.int x0), (.int (8 : Int32))] 2 = mkF m 0 #[.val (.int x0), .val (.int (8 : Int32))] [] := by first | (simp [entryFrame, mkF, argsToLocals, Value.category]; done) | rfl
set_option maxRecDepth 65536 in
set_option maxHeartbeats 4000000 in
theorem own_pl_u8_1 (p1 : Int32) : (((p1 &&& (255 : Int32)).toInt64) <<< ((8 : Int32) &&& 0x3f).toInt64).toBitVec.toNat = (p1.toInt % 256).toNat * 2 ^ 8 := by
  exact own_ush p1 _ (by decide) (by decide)
def Q_own_u8 (Z : State) (p1 : Int32) (h0 : Heap) (n0 : Nat) (v : Option Value) (h : Heap) (L : List Loc) : Prop := ∃ r : Int64, v = some (.long r) ∧ Fr n0 L ∧ h = h0 ∧ (r.toBitVec.toNat = (p1.toInt % 256).toNat * 2 ^ 8)
set_option maxRecDepth 65536 in
set_option maxHeartbeats 400000000 in
theorem own_u8 (l : Launch) (Z : State) (a0 : Array Value) (hw : ∀ d ∈ tables_1, d.before a0 Z = true) (ws : List Jvm.Cond) (p1 : Int32) (h0 : Heap) (n0 : Nat) (Z0 : n0 ≤ h0.size)  :
    MetFree l (⟨"com/example/kin_bloom/kinbloom/eval/IntegerKeysWritePinLaw", "u", "(BI)J"⟩ : MethodName) (head1 (Jvm.Cond.code (⟨"com/example/kin_bloom/kinbloom/eval/IntegerKeysWritePinLaw", "u", "(BI)J"⟩ : MethodName) method_2_code 2 (some .long) :: ws) R_own_u8) (fun a U => a = #[(.int p1), (.int (8 : Int32))] ∧ Z.Warmed39 U.vm ∧ U.heap = h0) (fun _ _ _ _ _ => True) (fun _ U o U' => ∃ v L, o = .returned v ∧ Q_own_u8 Z p1 h0 n0 v U'.heap L ∧ FrameEnd U o U' L R_own_u8.cells R_own_u8.slots) := by
  refine MetFree.of_bodySF (plainFor_of_name own_pn1) hisR ?_
  intro p e s m args below meth c s₁ Bd hml0 hP hK
  obtain ⟨rfl, hZ, hh⟩ := hP
  have hx := Bd.exec
  have hby := Bd.bytes
  have hml : c.maxLocals = 2 := hml0
  have hown : s.vm.findClass "com/example/kin_bloom/kinbloom/eval/IntegerKeysWritePinLaw" = some m.cls := findClass_of_methodNamed Bd.named
  have hnm := (name_of_methodNamed Bd.named Bd.method).1
  have X0 : Stand p l e R_own_u8 s m #[(.int p1), (.int (8 : Int32))] below meth c s₁ [] 0 0 := Stand.of_body Bd
  have e0 : s₁.heap = h0 := by rw [← hh, Bd.state]; rfl
  have N0 := Fr.nil n0
  have K0 : Keep h0 h0 [] := Keep.refl h0 []
  show own_Fin p e below s (Q_own_u8 Z p1 h0 n0) R_own_u8.cells R_own_u8.slots (s₁.setTop (entryFrame m #[(.int p1), (.int (8 : Int32))] 2))
  refine own_go (fun _ k => castTop (ef_own_u8 m p1) k) ?_
  show own_Fin _ _ _ _ _ _ _ (s₁.setTop (mkF m 0 #[.val (.int p1), .val (.int (8 : Int32))] []))
  refine own_go (B := s₁.setTop (mkF m 1 #[.val (.int p1), .val (.int (8 : Int32))] [(.int p1)])) (fun _ k => XS.iloadN X0.here hx rfl (hb hby d2_0) rfl  k) ?_
  refine own_go (B := s₁.setTop (mkF m 4 #[.val (.int p1), .val (.int (8 : Int32))] [(.int (255 : Int32)), (.int p1)])) (fun _ k => XS.sipush X0.here hx rfl (hb hby d2_1) k) ?_
  refine own_go (B := s₁.setTop (mkF m 5 #[.val (.int p1), .val (.int (8 : Int32))] [(.int (p1 &&& (255 : Int32)))])) (fun _ k => XS.iand X0.here hx rfl (hb hby d2_4) rfl k) ?_
  refine own_go (B := s₁.setTop (mkF m 6 #[.val (.int p1), .val (.int (8 : Int32))] [(.long ((p1 &&& (255 : Int32)).toInt64))])) (fun _ k => XS.i2l X0.here hx rfl (hb hby d2_5) rfl k) ?_
  refine own_go (B := s₁.setTop (mkF m 7 #[.val (.int p1), .val (.int (8 : Int32))] [(.int (8 : Int32)), (.long ((p1 &&& (255 : Int32)).toInt64))])) (fun _ k => XS.iloadN X0.here hx rfl (hb hby d2_6) rfl  k) ?_
  refine own_go (B := s₁.setTop (mkF m 8 #[.val (.int p1), .val (.int (8 : Int32))] [(.long (((p1 &&& (255 : Int32)).toInt64) <<< ((8 : Int32) &&& 0x3f).toInt64))])) (fun _ k => XS.lshl X0.here hx rfl (hb hby d2_7) rfl k) ?_
  exact own_retJ X0 hx Bd.notSynchronized Bd.returns (hb hby d2_8) e0 ⟨(((p1 &&& (255 : Int32)).toInt64) <<< ((8 : Int32) &&& 0x3f).toInt64), rfl, N0, rfl, (own_pl_u8_1 p1)⟩ (by decide) (by decide)
abbrev R_own_u0 : Room := { frames := 0, cells := 0, slots := 0, locals := 0 }
theorem ef_own_u0 (m : MethodId) (x0 : Int32) : entryFrame m #[(.int x0), (.int (0 : Int32))] 2 = mkF m 0 #[.val (.int x0), .val (.int (0 : Int32))] [] := by first | (simp [entryFrame, mkF, argsToLocals, Value.category]; done) | rfl
set_option maxRecDepth 65536 in
set_option maxHeartbeats 4000000 in
theorem own_pl_u0_1 (p1 : Int32) : (((p1 &&& (255 : Int32)).toInt64) <<< ((0 : Int32) &&& 0x3f).toInt64).toBitVec.toNat = (p1.toInt % 256).toNat * 2 ^ 0 := by
  exact own_ush p1 _ (by decide) (by decide)
def Q_own_u0 (Z : State) (p1 : Int32) (h0 : Heap) (n0 : Nat) (v : Option Value) (h : Heap) (L : List Loc) : Prop := ∃ r : Int64, v = some (.long r) ∧ Fr n0 L ∧ h = h0 ∧ (r.toBitVec.toNat = (p1.toInt % 256).toNat * 2 ^ 0)
set_option maxRecDepth 65536 in
set_option maxHeartbeats 400000000 in
theorem own_u0 (l : Launch) (Z : State) (a0 : Array Value) (hw : ∀ d ∈ tables_1, d.before a0 Z = true) (ws : List Jvm.Cond) (p1 : Int32) (h0 : Heap) (n0 : Nat) (Z0 : n0 ≤ h0.size)  :
    MetFree l (⟨"com/example/kin_bloom/kinbloom/eval/IntegerKeysWritePinLaw", "u", "(BI)J"⟩ : MethodName) (head1 (Jvm.Cond.code (⟨"com/example/kin_bloom/kinbloom/eval/IntegerKeysWritePinLaw", "u", "(BI)J"⟩ : MethodName) method_2_code 2 (some .long) :: ws) R_own_u0) (fun a U => a = #[(.int p1), (.int (0 : Int32))] ∧ Z.Warmed39 U.vm ∧ U.heap = h0) (fun _ _ _ _ _ => True) (fun _ U o U' => ∃ v L, o = .returned v ∧ Q_own_u0 Z p1 h0 n0 v U'.heap L ∧ FrameEnd U o U' L R_own_u0.cells R_own_u0.slots) := by
  refine MetFree.of_bodySF (plainFor_of_name own_pn1) hisR ?_
  intro p e s m args below meth c s₁ Bd hml0 hP hK
  obtain ⟨rfl, hZ, hh⟩ := hP
  have hx := Bd.exec
  have hby := Bd.bytes
  have hml : c.maxLocals = 2 := hml0
  have hown : s.vm.findClass "com/example/kin_bloom/kinbloom/eval/IntegerKeysWritePinLaw" = some m.cls := findClass_of_methodNamed Bd.named
  have hnm := (name_of_methodNamed Bd.named Bd.method).1
  have X0 : Stand p l e R_own_u0 s m #[(.int p1), (.int (0 : Int32))] below meth c s₁ [] 0 0 := Stand.of_body Bd
  have e0 : s₁.heap = h0 := by rw [← hh, Bd.state]; rfl
  have N0 := Fr.nil n0
  have K0 : Keep h0 h0 [] := Keep.refl h0 []
  show own_Fin p e below s (Q_own_u0 Z p1 h0 n0) R_own_u0.cells R_own_u0.slots (s₁.setTop (entryFrame m #[(.int p1), (.int (0 : Int32))] 2))
  refine own_go (fun _ k => castTop (ef_own_u0 m p1) k) ?_
  show own_Fin _ _ _ _ _ _ _ (s₁.setTop (mkF m 0 #[.val (.int p1), .val (.int (0 : Int32))] []))
  refine own_go (B := s₁.setTop (mkF m 1 #[.val (.int p1), .val (.int (0 : Int32))] [(.int p1)])) (fun _ k => XS.iloadN X0.here hx rfl (hb hby d2_0) rfl  k) ?_
  refine own_go (B := s₁.setTop (mkF m 4 #[.val (.int p1), .val (.int (0 : Int32))] [(.int (255 : Int32)), (.int p1)])) (fun _ k => XS.sipush X0.here hx rfl (hb hby d2_1) k) ?_
  refine own_go (B := s₁.setTop (mkF m 5 #[.val (.int p1), .val (.int (0 : Int32))] [(.int (p1 &&& (255 : Int32)))])) (fun _ k => XS.iand X0.here hx rfl (hb hby d2_4) rfl k) ?_
  refine own_go (B := s₁.setTop (mkF m 6 #[.val (.int p1), .val (.int (0 : Int32))] [(.long ((p1 &&& (255 : Int32)).toInt64))])) (fun _ k => XS.i2l X0.here hx rfl (hb hby d2_5) rfl k) ?_
  refine own_go (B := s₁.setTop (mkF m 7 #[.val (.int p1), .val (.int (0 : Int32))] [(.int (0 : Int32)), (.long ((p1 &&& (255 : Int32)).toInt64))])) (fun _ k => XS.iloadN X0.here hx rfl (hb hby d2_6) rfl  k) ?_
  refine own_go (B := s₁.setTop (mkF m 8 #[.val (.int p1), .val (.int (0 : Int32))] [(.long (((p1 &&& (255 : Int32)).toInt64) <<< ((0 : Int32) &&& 0x3f).toInt64))])) (fun _ k => XS.lshl X0.here hx rfl (hb hby d2_7) rfl k) ?_
  exact own_retJ X0 hx Bd.notSynchronized Bd.returns (hb hby d2_8) e0 ⟨(((p1 &&& (255 : Int32)).toInt64) <<< ((0 : Int32) &&& 0x3f).toInt64), rfl, N0, rfl, (own_pl_u0_1 p1)⟩ (by decide) (by decide)
theorem ef_own_rm0 (m : MethodId) (x0 : Int64) (x1 : Int32) : entryFrame m #[(.long x0), (.int x1)] maxLocals = mkF m 0 #[.val (.long x0), .second, .val (.int x1), .unset, .unset, .unset, .unset] [] := by first | (simp [entryFrame, mkF, argsToLocals, Value.category, maxLocals]; done) | rfl
set_option maxRecDepth 65536 in
set_option maxHeartbeats 4000000 in
theorem own_pl_rm0_1 (q1 : Int64) (r_60 : Int64) (r_63 : Int64) (r_66 : Int64) (r_69 : Int64) (r_72 : Int64) (r_75 : Int64) (r_78 : Int64) (r_81 : Int64) (x60_0 : r_60.toBitVec.toNat = (((((((((((((((((q1.toUInt64 >>> ((8 : Int32) &&& 0x3f).toInt64.toUInt64).toInt64).toUInt64 >>> ((8 : Int32) &&& 0x3f).toInt64.toUInt64).toInt64).toUInt64 >>> ((8 : Int32) &&& 0x3f).toInt64.toUInt64).toInt64).toUInt64 >>> ((8 : Int32) &&& 0x3f).toInt64.toUInt64).toInt64).toUInt64 >>> ((8 : Int32) &&& 0x3f).toInt64.toUInt64).toInt64).toUInt64 >>> ((8 : Int32) &&& 0x3f).toInt64.toUInt64).toInt64).toUInt64 >>> ((8 : Int32) &&& 0x3f).toInt64.toUInt64).toInt64).toInt32).toInt8.toInt32).toInt % 256).toNat * 2 ^ 56) (x63_0 : r_63.toBitVec.toNat = (((((((((((((((q1.toUInt64 >>> ((8 : Int32) &&& 0x3f).toInt64.toUInt64).toInt64).toUInt64 >>> ((8 : Int32) &&& 0x3f).toInt64.toUInt64).toInt64).toUInt64 >>> ((8 : Int32) &&& 0x3f).toInt64.toUInt64).toInt64).toUInt64 >>> ((8 : Int32) &&& 0x3f).toInt64.toUInt64).toInt64).toUInt64 >>> ((8 : Int32) &&& 0x3f).toInt64.toUInt64).toInt64).toUInt64 >>> ((8 : Int32) &&& 0x3f).toInt64.toUInt64).toInt64).toInt32).toInt8.toInt32).toInt % 256).toNat * 2 ^ 48) (x66_0 : r_66.toBitVec.toNat = (((((((((((((q1.toUInt64 >>> ((8 : Int32) &&& 0x3f).toInt64.toUInt64).toInt64).toUInt64 >>> ((8 : Int32) &&& 0x3f).toInt64.toUInt64).toInt64).toUInt64 >>> ((8 : Int32) &&& 0x3f).toInt64.toUInt64).toInt64).toUInt64 >>> ((8 : Int32) &&& 0x3f).toInt64.toUInt64).toInt64).toUInt64 >>> ((8 : Int32) &&& 0x3f).toInt64.toUInt64).toInt64).toInt32).toInt8.toInt32).toInt % 256).toNat * 2 ^ 40) (x69_0 : r_69.toBitVec.toNat = (((((((((((q1.toUInt64 >>> ((8 : Int32) &&& 0x3f).toInt64.toUInt64).toInt64).toUInt64 >>> ((8 : Int32) &&& 0x3f).toInt64.toUInt64).toInt64).toUInt64 >>> ((8 : Int32) &&& 0x3f).toInt64.toUInt64).toInt64).toUInt64 >>> ((8 : Int32) &&& 0x3f).toInt64.toUInt64).toInt64).toInt32).toInt8.toInt32).toInt % 256).toNat * 2 ^ 32) (x72_0 : r_72.toBitVec.toNat = (((((((((q1.toUInt64 >>> ((8 : Int32) &&& 0x3f).toInt64.toUInt64).toInt64).toUInt64 >>> ((8 : Int32) &&& 0x3f).toInt64.toUInt64).toInt64).toUInt64 >>> ((8 : Int32) &&& 0x3f).toInt64.toUInt64).toInt64).toInt32).toInt8.toInt32).toInt % 256).toNat * 2 ^ 24) (x75_0 : r_75.toBitVec.toNat = (((((((q1.toUInt64 >>> ((8 : Int32) &&& 0x3f).toInt64.toUInt64).toInt64).toUInt64 >>> ((8 : Int32) &&& 0x3f).toInt64.toUInt64).toInt64).toInt32).toInt8.toInt32).toInt % 256).toNat * 2 ^ 16) (x78_0 : r_78.toBitVec.toNat = (((((q1.toUInt64 >>> ((8 : Int32) &&& 0x3f).toInt64.toUInt64).toInt64).toInt32).toInt8.toInt32).toInt % 256).toNat * 2 ^ 8) (x81_0 : r_81.toBitVec.toNat = (((q1.toInt32).toInt8.toInt32).toInt % 256).toNat * 2 ^ 0) : (((((((r_60 ||| r_63) ||| r_66) ||| r_69) ||| r_72) ||| r_75) ||| r_78) ||| r_81) = q1 := by
  simp only [own_Nbyte, own_Nushr, Nat.div_div_eq_div_mul, Nat.pow_zero, Nat.mul_one, Nat.reducePow, Nat.reduceMul] at *
  apply own_ext64
  simp only [own_Nor]
  refine own_bytes (q1.toBitVec.isLt) ?_ ?_ ?_ ?_ ?_ ?_ ?_ ?_ <;> first | assumption | (simp only [Nat.reducePow]; assumption) | omega
def Q_own_rm0 (Z : State) (q1 : Int64) (p2 : Int32) (h0 : Heap) (n0 : Nat) (v : Option Value) (h : Heap) (L : List Loc) : Prop := v = some (.int (1 : Int32)) ∧ Fr n0 L ∧ Keep h0 h []
set_option maxRecDepth 65536 in
set_option maxHeartbeats 400000000 in
theorem own_rm0 (l : Launch) (Z : State) (a0 : Array Value) (hw : ∀ d ∈ tables_1, d.before a0 Z = true) (ws : List Jvm.Cond) (q1 : Int64) (p2 : Int32) (h0 : Heap) (n0 : Nat) (Z0 : n0 ≤ h0.size)  :
    MetFree l x (head1 (Jvm.Cond.code x code maxLocals ret :: ws) room_1) (fun a U => a = #[(.long q1), (.int p2)] ∧ Z.Warmed39 U.vm ∧ U.heap = h0) (fun _ _ _ _ _ => True) (fun _ U o U' => ∃ v L, o = .returned v ∧ Q_own_rm0 Z q1 p2 h0 n0 v U'.heap L ∧ FrameEnd U o U' L 1 10) := by
  refine MetFree.of_bodySF (plainFor_of_name own_pn1) hisR ?_
  intro p e s m args below meth c s₁ Bd hml0 hP hK
  obtain ⟨rfl, hZ, hh⟩ := hP
  have hx := Bd.exec
  have hby := Bd.bytes
  have hml : c.maxLocals = 7 := hml0
  have hown : s.vm.findClass "com/example/kin_bloom/kinbloom/eval/IntegerKeysWritePinLaw" = some m.cls := findClass_of_methodNamed Bd.named
  have hnm := (name_of_methodNamed Bd.named Bd.method).1
  have X0 : Stand p l e room_1 s m #[(.long q1), (.int p2)] below meth c s₁ [] 0 0 := Stand.of_body Bd
  have e0 : s₁.heap = h0 := by rw [← hh, Bd.state]; rfl
  have N0 := Fr.nil n0
  have K0 : Keep h0 h0 [] := Keep.refl h0 []
  show own_Fin p e below s (Q_own_rm0 Z q1 p2 h0 n0) 1 10 (s₁.setTop (entryFrame m #[(.long q1), (.int p2)] maxLocals))
  refine own_go (fun _ k => castTop (ef_own_rm0 m q1 p2) k) ?_
  show own_Fin _ _ _ _ _ _ _ (s₁.setTop (mkF m 0 #[.val (.long q1), .second, .val (.int p2), .unset, .unset, .unset, .unset] []))
  refine own_go (B := s₁.setTop (mkF m 1 #[.val (.long q1), .second, .val (.int p2), .unset, .unset, .unset, .unset] [(.int p2)])) (fun _ k => XS.iloadN X0.here hx rfl (hb hby at_0) rfl  k) ?_
  refine own_go (B := s₁.setTop (mkF m 2 #[.val (.long q1), .second, .val (.int p2), .unset, .unset, .unset, .unset] [(.int (p2.toInt8.toInt32))])) (fun _ k => XS.i2b X0.here hx rfl (hb hby at_1) rfl k) ?_
  refine own_go (B := s₁.setTop (mkF m 3 #[.val (.long q1), .second, .val (.int p2), .val (.int (p2.toInt8.toInt32)), .unset, .unset, .unset] [])) (fun _ k => XS.istoreN X0.here hx rfl (hb hby at_2) rfl (l' := #[.val (.long q1), .second, .val (.int p2), .val (.int (p2.toInt8.toInt32)), .unset, .unset, .unset]) rfl k) ?_
  refine own_go (B := s₁.setTop (mkF m 5 #[.val (.long q1), .second, .val (.int p2), .val (.int (p2.toInt8.toInt32)), .unset, .unset, .unset] [(.int (10 : Int32))])) (fun _ k => XS.bipush X0.here hx rfl (hb hby at_3) k) ?_
  obtain ⟨T1, h1, kc1, X1, e1, E1, A1, st1⟩ := newP X0 hx hZ (own_w hw 0 rfl) e0 (g := (mkF m 5 #[.val (.long q1), .second, .val (.int p2), .val (.int (p2.toInt8.toInt32)), .unset, .unset, .unset] [(.int (10 : Int32))])) rfl (hb hby at_5) rfl (by decide) (cap := 10) (by decide) (by decide) (by decide) (by decide)
  obtain ⟨b1, g1⟩ : ∃ z, z = h0.size := ⟨_, rfl⟩
  rw [← g1] at A1 st1
  have sz_b1 : h0.size ≤ b1 := Nat.le_trans K0.1 (Nat.le_of_eq g1.symm)
  have g_b1 : n0 ≤ b1 := Nat.le_trans Z0 sz_b1
  have V_b1 : Arv Z h1 b1 kc1 .byte (10 : Int32) [(.int (0 : Int32)), (.int (0 : Int32)), (.int (0 : Int32)), (.int (0 : Int32)), (.int (0 : Int32)), (.int (0 : Int32)), (.int (0 : Int32)), (.int (0 : Int32)), (.int (0 : Int32)), (.int (0 : Int32))] (.int (0 : Int32)) := (Arv.new A1 (by decide)).pad (pad_rep [] (.int (0 : Int32)) 10)
  have K3 : Keep h0 h1 [] := K0.ext E1
  refine own_go (B := T1.setTop (mkF m 7 #[.val (.long q1), .second, .val (.int p2), .val (.int (p2.toInt8.toInt32)), .unset, .unset, .unset] [(.ref b1)])) st1 ?_
  refine own_go (B := T1.setTop (mkF m 9 #[.val (.long q1), .second, .val (.int p2), .val (.int (p2.toInt8.toInt32)), .val (.ref b1), .unset, .unset] [])) (fun _ k => XS.astore X1.here hx rfl (hb hby at_7) rfl rfl (l' := #[.val (.long q1), .second, .val (.int p2), .val (.int (p2.toInt8.toInt32)), .val (.ref b1), .unset, .unset]) rfl k) ?_
  refine own_go (B := T1.setTop (mkF m 11 #[.val (.long q1), .second, .val (.int p2), .val (.int (p2.toInt8.toInt32)), .val (.ref b1), .unset, .unset] [(.ref b1)])) (fun _ k => XS.aload X1.here hx rfl (hb hby at_9) rfl rfl k) ?_
  refine own_go (B := T1.setTop (mkF m 12 #[.val (.long q1), .second, .val (.int p2), .val (.int (p2.toInt8.toInt32)), .val (.ref b1), .unset, .unset] [(.int (0 : Int32)), (.ref b1)])) (fun _ k => XS.iconst X1.here hx rfl (hb hby at_11) k) ?_
  refine own_go (B := T1.setTop (mkF m 13 #[.val (.long q1), .second, .val (.int p2), .val (.int (p2.toInt8.toInt32)), .val (.ref b1), .unset, .unset] [(.int (p2.toInt8.toInt32)), (.int (0 : Int32)), (.ref b1)])) (fun _ k => XS.iloadN X1.here hx rfl (hb hby at_12) rfl  k) ?_
  obtain ⟨cl4, Ar4, q4, S4, N4n, H4, G4⟩ := id V_b1
  have hin5 : ¬ ((0 : Int32) < 0 ∨ cl4.slots.size ≤ ((0 : Int32)).toNatClampNeg) := inb_of S4 ⟨by decide, by decide⟩
  obtain ⟨T5, h5, X5, e5, W5, st5⟩ := stB X1 hx hZ e1 Ar4 (j := (0 : Int32)) hin5 (g := (mkF m 13 #[.val (.long q1), .second, .val (.int p2), .val (.int (p2.toInt8.toInt32)), .val (.ref b1), .unset, .unset] [(.int (p2.toInt8.toInt32)), (.int (0 : Int32)), (.ref b1)])) rfl rfl (hb hby at_13)
  rw [own_narb] at W5
  have V_b1_5 : Arv Z h5 b1 kc1 .byte (10 : Int32) [(.int (p2.toInt8.toInt32)), (.int (0 : Int32)), (.int (0 : Int32)), (.int (0 : Int32)), (.int (0 : Int32)), (.int (0 : Int32)), (.int (0 : Int32)), (.int (0 : Int32)), (.int (0 : Int32)), (.int (0 : Int32))] (.int (0 : Int32)) := Arv.set Ar4 q4 S4 N4n H4 G4 (fits_nar_byte _) W5 0 rfl (Nat.le_of_ble_eq_true rfl)
  have K8 : Keep h0 h5 [] := K3.wr W5 (Or.inr sz_b1)
  have N5 := Fr.snoc X5 N0 g_b1
  refine own_go (B := T5.setTop (mkF m 14 #[.val (.long q1), .second, .val (.int p2), .val (.int (p2.toInt8.toInt32)), .val (.ref b1), .unset, .unset] [])) st5 ?_
  refine own_go (B := T5.setTop (mkF m 16 #[.val (.long q1), .second, .val (.int p2), .val (.int (p2.toInt8.toInt32)), .val (.ref b1), .unset, .unset] [(.ref b1)])) (fun _ k => XS.aload X5.here hx rfl (hb hby at_14) rfl rfl k) ?_
  refine own_go (B := T5.setTop (mkF m 17 #[.val (.long q1), .second, .val (.int p2), .val (.int (p2.toInt8.toInt32)), .val (.ref b1), .unset, .unset] [(.int (1 : Int32)), (.ref b1)])) (fun _ k => XS.iconst X5.here hx rfl (hb hby at_16) k) ?_
  refine own_go (B := T5.setTop (mkF m 18 #[.val (.long q1), .second, .val (.int p2), .val (.int (p2.toInt8.toInt32)), .val (.ref b1), .unset, .unset] [(.int (p2.toInt8.toInt32)), (.int (1 : Int32)), (.ref b1)])) (fun _ k => XS.iloadN X5.here hx rfl (hb hby at_17) rfl  k) ?_
  obtain ⟨cl9, Ar9, q9, S9, N9n, H9, G9⟩ := id V_b1_5
  have hin10 : ¬ ((1 : Int32) < 0 ∨ cl9.slots.size ≤ ((1 : Int32)).toNatClampNeg) := inb_of S9 ⟨by decide, by decide⟩
  obtain ⟨T10, h10, X10, e10, W10, st10⟩ := stB X5 hx hZ e5 Ar9 (j := (1 : Int32)) hin10 (g := (mkF m 18 #[.val (.long q1), .second, .val (.int p2), .val (.int (p2.toInt8.toInt32)), .val (.ref b1), .unset, .unset] [(.int (p2.toInt8.toInt32)), (.int (1 : Int32)), (.ref b1)])) rfl rfl (hb hby at_18)
  rw [own_narb] at W10
  have V_b1_10 : Arv Z h10 b1 kc1 .byte (10 : Int32) [(.int (p2.toInt8.toInt32)), (.int (p2.toInt8.toInt32)), (.int (0 : Int32)), (.int (0 : Int32)), (.int (0 : Int32)), (.int (0 : Int32)), (.int (0 : Int32)), (.int (0 : Int32)), (.int (0 : Int32)), (.int (0 : Int32))] (.int (0 : Int32)) := Arv.set Ar9 q9 S9 N9n H9 G9 (fits_nar_byte _) W10 1 rfl (Nat.le_of_ble_eq_true rfl)
  have K13 : Keep h0 h10 [] := K8.wr W10 (Or.inr sz_b1)
  have N10 := Fr.snoc X10 N5 g_b1
  refine own_go (B := T10.setTop (mkF m 19 #[.val (.long q1), .second, .val (.int p2), .val (.int (p2.toInt8.toInt32)), .val (.ref b1), .unset, .unset] [])) st10 ?_
  refine own_go (B := T10.setTop (mkF m 21 #[.val (.long q1), .second, .val (.int p2), .val (.int (p2.toInt8.toInt32)), .val (.ref b1), .unset, .unset] [(.ref b1)])) (fun _ k => XS.aload X10.here hx rfl (hb hby at_19) rfl rfl k) ?_
  refine own_go (B := T10.setTop (mkF m 22 #[.val (.long q1), .second, .val (.int p2), .val (.int (p2.toInt8.toInt32)), .val (.ref b1), .unset, .unset] [(.int (2 : Int32)), (.ref b1)])) (fun _ k => XS.iconst X10.here hx rfl (hb hby at_21) k) ?_
  refine own_go (B := T10.setTop (mkF m 23 #[.val (.long q1), .second, .val (.int p2), .val (.int (p2.toInt8.toInt32)), .val (.ref b1), .unset, .unset] [(.int (p2.toInt8.toInt32)), (.int (2 : Int32)), (.ref b1)])) (fun _ k => XS.iloadN X10.here hx rfl (hb hby at_22) rfl  k) ?_
  obtain ⟨cl14, Ar14, q14, S14, N14n, H14, G14⟩ := id V_b1_10
  have hin15 : ¬ ((2 : Int32) < 0 ∨ cl14.slots.size ≤ ((2 : Int32)).toNatClampNeg) := inb_of S14 ⟨by decide, by decide⟩
  obtain ⟨T15, h15, X15, e15, W15, st15⟩ := stB X10 hx hZ e10 Ar14 (j := (2 : Int32)) hin15 (g := (mkF m 23 #[.val (.long q1), .second, .val (.int p2), .val (.int (p2.toInt8.toInt32)), .val (.ref b1), .unset, .unset] [(.int (p2.toInt8.toInt32)), (.int (2 : Int32)), (.ref b1)])) rfl rfl (hb hby at_23)
  rw [own_narb] at W15
  have V_b1_15 : Arv Z h15 b1 kc1 .byte (10 : Int32) [(.int (p2.toInt8.toInt32)), (.int (p2.toInt8.toInt32)), (.int (p2.toInt8.toInt32)), (.int (0 : Int32)), (.int (0 : Int32)), (.int (0 : Int32)), (.int (0 : Int32)), (.int (0 : Int32)), (.int (0 : Int32)), (.int (0 : Int32))] (.int (0 : Int32)) := Arv.set Ar14 q14 S14 N14n H14 G14 (fits_nar_byte _) W15 2 rfl (Nat.le_of_ble_eq_true rfl)
  have K18 : Keep h0 h15 [] := K13.wr W15 (Or.inr sz_b1)
  have N15 := Fr.snoc X15 N10 g_b1
  refine own_go (B := T15.setTop (mkF m 24 #[.val (.long q1), .second, .val (.int p2), .val (.int (p2.toInt8.toInt32)), .val (.ref b1), .unset, .unset] [])) st15 ?_
  refine own_go (B := T15.setTop (mkF m 26 #[.val (.long q1), .second, .val (.int p2), .val (.int (p2.toInt8.toInt32)), .val (.ref b1), .unset, .unset] [(.ref b1)])) (fun _ k => XS.aload X15.here hx rfl (hb hby at_24) rfl rfl k) ?_
  refine own_go (B := T15.setTop (mkF m 27 #[.val (.long q1), .second, .val (.int p2), .val (.int (p2.toInt8.toInt32)), .val (.ref b1), .unset, .unset] [(.int (3 : Int32)), (.ref b1)])) (fun _ k => XS.iconst X15.here hx rfl (hb hby at_26) k) ?_
  refine own_go (B := T15.setTop (mkF m 28 #[.val (.long q1), .second, .val (.int p2), .val (.int (p2.toInt8.toInt32)), .val (.ref b1), .unset, .unset] [(.int (p2.toInt8.toInt32)), (.int (3 : Int32)), (.ref b1)])) (fun _ k => XS.iloadN X15.here hx rfl (hb hby at_27) rfl  k) ?_
  obtain ⟨cl19, Ar19, q19, S19, N19n, H19, G19⟩ := id V_b1_15
  have hin20 : ¬ ((3 : Int32) < 0 ∨ cl19.slots.size ≤ ((3 : Int32)).toNatClampNeg) := inb_of S19 ⟨by decide, by decide⟩
  obtain ⟨T20, h20, X20, e20, W20, st20⟩ := stB X15 hx hZ e15 Ar19 (j := (3 : Int32)) hin20 (g := (mkF m 28 #[.val (.long q1), .second, .val (.int p2), .val (.int (p2.toInt8.toInt32)), .val (.ref b1), .unset, .unset] [(.int (p2.toInt8.toInt32)), (.int (3 : Int32)), (.ref b1)])) rfl rfl (hb hby at_28)
  rw [own_narb] at W20
  have V_b1_20 : Arv Z h20 b1 kc1 .byte (10 : Int32) [(.int (p2.toInt8.toInt32)), (.int (p2.toInt8.toInt32)), (.int (p2.toInt8.toInt32)), (.int (p2.toInt8.toInt32)), (.int (0 : Int32)), (.int (0 : Int32)), (.int (0 : Int32)), (.int (0 : Int32)), (.int (0 : Int32)), (.int (0 : Int32))] (.int (0 : Int32)) := Arv.set Ar19 q19 S19 N19n H19 G19 (fits_nar_byte _) W20 3 rfl (Nat.le_of_ble_eq_true rfl)
  have K23 : Keep h0 h20 [] := K18.wr W20 (Or.inr sz_b1)
  have N20 := Fr.snoc X20 N15 g_b1
  refine own_go (B := T20.setTop (mkF m 29 #[.val (.long q1), .second, .val (.int p2), .val (.int (p2.toInt8.toInt32)), .val (.ref b1), .unset, .unset] [])) st20 ?_
  refine own_go (B := T20.setTop (mkF m 31 #[.val (.long q1), .second, .val (.int p2), .val (.int (p2.toInt8.toInt32)), .val (.ref b1), .unset, .unset] [(.ref b1)])) (fun _ k => XS.aload X20.here hx rfl (hb hby at_29) rfl rfl k) ?_
  refine own_go (B := T20.setTop (mkF m 32 #[.val (.long q1), .second, .val (.int p2), .val (.int (p2.toInt8.toInt32)), .val (.ref b1), .unset, .unset] [(.int (4 : Int32)), (.ref b1)])) (fun _ k => XS.iconst X20.here hx rfl (hb hby at_31) k) ?_
  refine own_go (B := T20.setTop (mkF m 33 #[.val (.long q1), .second, .val (.int p2), .val (.int (p2.toInt8.toInt32)), .val (.ref b1), .unset, .unset] [(.int (p2.toInt8.toInt32)), (.int (4 : Int32)), (.ref b1)])) (fun _ k => XS.iloadN X20.here hx rfl (hb hby at_32) rfl  k) ?_
  obtain ⟨cl24, Ar24, q24, S24, N24n, H24, G24⟩ := id V_b1_20
  have hin25 : ¬ ((4 : Int32) < 0 ∨ cl24.slots.size ≤ ((4 : Int32)).toNatClampNeg) := inb_of S24 ⟨by decide, by decide⟩
  obtain ⟨T25, h25, X25, e25, W25, st25⟩ := stB X20 hx hZ e20 Ar24 (j := (4 : Int32)) hin25 (g := (mkF m 33 #[.val (.long q1), .second, .val (.int p2), .val (.int (p2.toInt8.toInt32)), .val (.ref b1), .unset, .unset] [(.int (p2.toInt8.toInt32)), (.int (4 : Int32)), (.ref b1)])) rfl rfl (hb hby at_33)
  rw [own_narb] at W25
  have V_b1_25 : Arv Z h25 b1 kc1 .byte (10 : Int32) [(.int (p2.toInt8.toInt32)), (.int (p2.toInt8.toInt32)), (.int (p2.toInt8.toInt32)), (.int (p2.toInt8.toInt32)), (.int (p2.toInt8.toInt32)), (.int (0 : Int32)), (.int (0 : Int32)), (.int (0 : Int32)), (.int (0 : Int32)), (.int (0 : Int32))] (.int (0 : Int32)) := Arv.set Ar24 q24 S24 N24n H24 G24 (fits_nar_byte _) W25 4 rfl (Nat.le_of_ble_eq_true rfl)
  have K28 : Keep h0 h25 [] := K23.wr W25 (Or.inr sz_b1)
  have N25 := Fr.snoc X25 N20 g_b1
  refine own_go (B := T25.setTop (mkF m 34 #[.val (.long q1), .second, .val (.int p2), .val (.int (p2.toInt8.toInt32)), .val (.ref b1), .unset, .unset] [])) st25 ?_
  refine own_go (B := T25.setTop (mkF m 36 #[.val (.long q1), .second, .val (.int p2), .val (.int (p2.toInt8.toInt32)), .val (.ref b1), .unset, .unset] [(.ref b1)])) (fun _ k => XS.aload X25.here hx rfl (hb hby at_34) rfl rfl k) ?_
  refine own_go (B := T25.setTop (mkF m 37 #[.val (.long q1), .second, .val (.int p2), .val (.int (p2.toInt8.toInt32)), .val (.ref b1), .unset, .unset] [(.int (5 : Int32)), (.ref b1)])) (fun _ k => XS.iconst X25.here hx rfl (hb hby at_36) k) ?_
  refine own_go (B := T25.setTop (mkF m 38 #[.val (.long q1), .second, .val (.int p2), .val (.int (p2.toInt8.toInt32)), .val (.ref b1), .unset, .unset] [(.int (p2.toInt8.toInt32)), (.int (5 : Int32)), (.ref b1)])) (fun _ k => XS.iloadN X25.here hx rfl (hb hby at_37) rfl  k) ?_
  obtain ⟨cl29, Ar29, q29, S29, N29n, H29, G29⟩ := id V_b1_25
  have hin30 : ¬ ((5 : Int32) < 0 ∨ cl29.slots.size ≤ ((5 : Int32)).toNatClampNeg) := inb_of S29 ⟨by decide, by decide⟩
  obtain ⟨T30, h30, X30, e30, W30, st30⟩ := stB X25 hx hZ e25 Ar29 (j := (5 : Int32)) hin30 (g := (mkF m 38 #[.val (.long q1), .second, .val (.int p2), .val (.int (p2.toInt8.toInt32)), .val (.ref b1), .unset, .unset] [(.int (p2.toInt8.toInt32)), (.int (5 : Int32)), (.ref b1)])) rfl rfl (hb hby at_38)
  rw [own_narb] at W30
  have V_b1_30 : Arv Z h30 b1 kc1 .byte (10 : Int32) [(.int (p2.toInt8.toInt32)), (.int (p2.toInt8.toInt32)), (.int (p2.toInt8.toInt32)), (.int (p2.toInt8.toInt32)), (.int (p2.toInt8.toInt32)), (.int (p2.toInt8.toInt32)), (.int (0 : Int32)), (.int (0 : Int32)), (.int (0 : Int32)), (.int (0 : Int32))] (.int (0 : Int32)) := Arv.set Ar29 q29 S29 N29n H29 G29 (fits_nar_byte _) W30 5 rfl (Nat.le_of_ble_eq_true rfl)
  have K33 : Keep h0 h30 [] := K28.wr W30 (Or.inr sz_b1)
  have N30 := Fr.snoc X30 N25 g_b1
  refine own_go (B := T30.setTop (mkF m 39 #[.val (.long q1), .second, .val (.int p2), .val (.int (p2.toInt8.toInt32)), .val (.ref b1), .unset, .unset] [])) st30 ?_
  refine own_go (B := T30.setTop (mkF m 41 #[.val (.long q1), .second, .val (.int p2), .val (.int (p2.toInt8.toInt32)), .val (.ref b1), .unset, .unset] [(.ref b1)])) (fun _ k => XS.aload X30.here hx rfl (hb hby at_39) rfl rfl k) ?_
  refine own_go (B := T30.setTop (mkF m 43 #[.val (.long q1), .second, .val (.int p2), .val (.int (p2.toInt8.toInt32)), .val (.ref b1), .unset, .unset] [(.int (6 : Int32)), (.ref b1)])) (fun _ k => XS.bipush X30.here hx rfl (hb hby at_41) k) ?_
  refine own_go (B := T30.setTop (mkF m 44 #[.val (.long q1), .second, .val (.int p2), .val (.int (p2.toInt8.toInt32)), .val (.ref b1), .unset, .unset] [(.int (p2.toInt8.toInt32)), (.int (6 : Int32)), (.ref b1)])) (fun _ k => XS.iloadN X30.here hx rfl (hb hby at_43) rfl  k) ?_
  obtain ⟨cl34, Ar34, q34, S34, N34n, H34, G34⟩ := id V_b1_30
  have hin35 : ¬ ((6 : Int32) < 0 ∨ cl34.slots.size ≤ ((6 : Int32)).toNatClampNeg) := inb_of S34 ⟨by decide, by decide⟩
  obtain ⟨T35, h35, X35, e35, W35, st35⟩ := stB X30 hx hZ e30 Ar34 (j := (6 : Int32)) hin35 (g := (mkF m 44 #[.val (.long q1), .second, .val (.int p2), .val (.int (p2.toInt8.toInt32)), .val (.ref b1), .unset, .unset] [(.int (p2.toInt8.toInt32)), (.int (6 : Int32)), (.ref b1)])) rfl rfl (hb hby at_44)
  rw [own_narb] at W35
  have V_b1_35 : Arv Z h35 b1 kc1 .byte (10 : Int32) [(.int (p2.toInt8.toInt32)), (.int (p2.toInt8.toInt32)), (.int (p2.toInt8.toInt32)), (.int (p2.toInt8.toInt32)), (.int (p2.toInt8.toInt32)), (.int (p2.toInt8.toInt32)), (.int (p2.toInt8.toInt32)), (.int (0 : Int32)), (.int (0 : Int32)), (.int (0 : Int32))] (.int (0 : Int32)) := Arv.set Ar34 q34 S34 N34n H34 G34 (fits_nar_byte _) W35 6 rfl (Nat.le_of_ble_eq_true rfl)
  have K38 : Keep h0 h35 [] := K33.wr W35 (Or.inr sz_b1)
  have N35 := Fr.snoc X35 N30 g_b1
  refine own_go (B := T35.setTop (mkF m 45 #[.val (.long q1), .second, .val (.int p2), .val (.int (p2.toInt8.toInt32)), .val (.ref b1), .unset, .unset] [])) st35 ?_
  refine own_go (B := T35.setTop (mkF m 47 #[.val (.long q1), .second, .val (.int p2), .val (.int (p2.toInt8.toInt32)), .val (.ref b1), .unset, .unset] [(.ref b1)])) (fun _ k => XS.aload X35.here hx rfl (hb hby at_45) rfl rfl k) ?_
  refine own_go (B := T35.setTop (mkF m 49 #[.val (.long q1), .second, .val (.int p2), .val (.int (p2.toInt8.toInt32)), .val (.ref b1), .unset, .unset] [(.int (7 : Int32)), (.ref b1)])) (fun _ k => XS.bipush X35.here hx rfl (hb hby at_47) k) ?_
  refine own_go (B := T35.setTop (mkF m 50 #[.val (.long q1), .second, .val (.int p2), .val (.int (p2.toInt8.toInt32)), .val (.ref b1), .unset, .unset] [(.int (p2.toInt8.toInt32)), (.int (7 : Int32)), (.ref b1)])) (fun _ k => XS.iloadN X35.here hx rfl (hb hby at_49) rfl  k) ?_
  obtain ⟨cl39, Ar39, q39, S39, N39n, H39, G39⟩ := id V_b1_35
  have hin40 : ¬ ((7 : Int32) < 0 ∨ cl39.slots.size ≤ ((7 : Int32)).toNatClampNeg) := inb_of S39 ⟨by decide, by decide⟩
  obtain ⟨T40, h40, X40, e40, W40, st40⟩ := stB X35 hx hZ e35 Ar39 (j := (7 : Int32)) hin40 (g := (mkF m 50 #[.val (.long q1), .second, .val (.int p2), .val (.int (p2.toInt8.toInt32)), .val (.ref b1), .unset, .unset] [(.int (p2.toInt8.toInt32)), (.int (7 : Int32)), (.ref b1)])) rfl rfl (hb hby at_50)
  rw [own_narb] at W40
  have V_b1_40 : Arv Z h40 b1 kc1 .byte (10 : Int32) [(.int (p2.toInt8.toInt32)), (.int (p2.toInt8.toInt32)), (.int (p2.toInt8.toInt32)), (.int (p2.toInt8.toInt32)), (.int (p2.toInt8.toInt32)), (.int (p2.toInt8.toInt32)), (.int (p2.toInt8.toInt32)), (.int (p2.toInt8.toInt32)), (.int (0 : Int32)), (.int (0 : Int32))] (.int (0 : Int32)) := Arv.set Ar39 q39 S39 N39n H39 G39 (fits_nar_byte _) W40 7 rfl (Nat.le_of_ble_eq_true rfl)
  have K43 : Keep h0 h40 [] := K38.wr W40 (Or.inr sz_b1)
  have N40 := Fr.snoc X40 N35 g_b1
  refine own_go (B := T40.setTop (mkF m 51 #[.val (.long q1), .second, .val (.int p2), .val (.int (p2.toInt8.toInt32)), .val (.ref b1), .unset, .unset] [])) st40 ?_
  refine own_go (B := T40.setTop (mkF m 53 #[.val (.long q1), .second, .val (.int p2), .val (.int (p2.toInt8.toInt32)), .val (.ref b1), .unset, .unset] [(.ref b1)])) (fun _ k => XS.aload X40.here hx rfl (hb hby at_51) rfl rfl k) ?_
  refine own_go (B := T40.setTop (mkF m 55 #[.val (.long q1), .second, .val (.int p2), .val (.int (p2.toInt8.toInt32)), .val (.ref b1), .unset, .unset] [(.int (8 : Int32)), (.ref b1)])) (fun _ k => XS.bipush X40.here hx rfl (hb hby at_53) k) ?_
  refine own_go (B := T40.setTop (mkF m 56 #[.val (.long q1), .second, .val (.int p2), .val (.int (p2.toInt8.toInt32)), .val (.ref b1), .unset, .unset] [(.int (p2.toInt8.toInt32)), (.int (8 : Int32)), (.ref b1)])) (fun _ k => XS.iloadN X40.here hx rfl (hb hby at_55) rfl  k) ?_
  obtain ⟨cl44, Ar44, q44, S44, N44n, H44, G44⟩ := id V_b1_40
  have hin45 : ¬ ((8 : Int32) < 0 ∨ cl44.slots.size ≤ ((8 : Int32)).toNatClampNeg) := inb_of S44 ⟨by decide, by decide⟩
  obtain ⟨T45, h45, X45, e45, W45, st45⟩ := stB X40 hx hZ e40 Ar44 (j := (8 : Int32)) hin45 (g := (mkF m 56 #[.val (.long q1), .second, .val (.int p2), .val (.int (p2.toInt8.toInt32)), .val (.ref b1), .unset, .unset] [(.int (p2.toInt8.toInt32)), (.int (8 : Int32)), (.ref b1)])) rfl rfl (hb hby at_56)
  rw [own_narb] at W45
  have V_b1_45 : Arv Z h45 b1 kc1 .byte (10 : Int32) [(.int (p2.toInt8.toInt32)), (.int (p2.toInt8.toInt32)), (.int (p2.toInt8.toInt32)), (.int (p2.toInt8.toInt32)), (.int (p2.toInt8.toInt32)), (.int (p2.toInt8.toInt32)), (.int (p2.toInt8.toInt32)), (.int (p2.toInt8.toInt32)), (.int (p2.toInt8.toInt32)), (.int (0 : Int32))] (.int (0 : Int32)) := Arv.set Ar44 q44 S44 N44n H44 G44 (fits_nar_byte _) W45 8 rfl (Nat.le_of_ble_eq_true rfl)
  have K48 : Keep h0 h45 [] := K43.wr W45 (Or.inr sz_b1)
  have N45 := Fr.snoc X45 N40 g_b1
  refine own_go (B := T45.setTop (mkF m 57 #[.val (.long q1), .second, .val (.int p2), .val (.int (p2.toInt8.toInt32)), .val (.ref b1), .unset, .unset] [])) st45 ?_
  refine own_go (B := T45.setTop (mkF m 59 #[.val (.long q1), .second, .val (.int p2), .val (.int (p2.toInt8.toInt32)), .val (.ref b1), .unset, .unset] [(.ref b1)])) (fun _ k => XS.aload X45.here hx rfl (hb hby at_57) rfl rfl k) ?_
  refine own_go (B := T45.setTop (mkF m 61 #[.val (.long q1), .second, .val (.int p2), .val (.int (p2.toInt8.toInt32)), .val (.ref b1), .unset, .unset] [(.int (9 : Int32)), (.ref b1)])) (fun _ k => XS.bipush X45.here hx rfl (hb hby at_59) k) ?_
  refine own_go (B := T45.setTop (mkF m 62 #[.val (.long q1), .second, .val (.int p2), .val (.int (p2.toInt8.toInt32)), .val (.ref b1), .unset, .unset] [(.int (p2.toInt8.toInt32)), (.int (9 : Int32)), (.ref b1)])) (fun _ k => XS.iloadN X45.here hx rfl (hb hby at_61) rfl  k) ?_
  obtain ⟨cl49, Ar49, q49, S49, N49n, H49, G49⟩ := id V_b1_45
  have hin50 : ¬ ((9 : Int32) < 0 ∨ cl49.slots.size ≤ ((9 : Int32)).toNatClampNeg) := inb_of S49 ⟨by decide, by decide⟩
  obtain ⟨T50, h50, X50, e50, W50, st50⟩ := stB X45 hx hZ e45 Ar49 (j := (9 : Int32)) hin50 (g := (mkF m 62 #[.val (.long q1), .second, .val (.int p2), .val (.int (p2.toInt8.toInt32)), .val (.ref b1), .unset, .unset] [(.int (p2.toInt8.toInt32)), (.int (9 : Int32)), (.ref b1)])) rfl rfl (hb hby at_62)
  rw [own_narb] at W50
  have V_b1_50 : Arv Z h50 b1 kc1 .byte (10 : Int32) [(.int (p2.toInt8.toInt32)), (.int (p2.toInt8.toInt32)), (.int (p2.toInt8.toInt32)), (.int (p2.toInt8.toInt32)), (.int (p2.toInt8.toInt32)), (.int (p2.toInt8.toInt32)), (.int (p2.toInt8.toInt32)), (.int (p2.toInt8.toInt32)), (.int (p2.toInt8.toInt32)), (.int (p2.toInt8.toInt32))] (.int (0 : Int32)) := Arv.set Ar49 q49 S49 N49n H49 G49 (fits_nar_byte _) W50 9 rfl (Nat.le_of_ble_eq_true rfl)
  have K53 : Keep h0 h50 [] := K48.wr W50 (Or.inr sz_b1)
  have N50 := Fr.snoc X50 N45 g_b1
  refine own_go (B := T50.setTop (mkF m 63 #[.val (.long q1), .second, .val (.int p2), .val (.int (p2.toInt8.toInt32)), .val (.ref b1), .unset, .unset] [])) st50 ?_
  refine own_go (B := T50.setTop (mkF m 64 #[.val (.long q1), .second, .val (.int p2), .val (.int (p2.toInt8.toInt32)), .val (.ref b1), .unset, .unset] [(.long q1)])) (fun _ k => XS.lloadN X50.here hx rfl (hb hby at_63) rfl  k) ?_
  refine own_go (B := T50.setTop (mkF m 66 #[.val (.long q1), .second, .val (.int p2), .val (.int (p2.toInt8.toInt32)), .val (.ref b1), .unset, .unset] [(.ref b1), (.long q1)])) (fun _ k => XS.aload X50.here hx rfl (hb hby at_64) rfl rfl k) ?_
  obtain ⟨_, _, ⟨T54, L54, k54, n54⟩, -, X54, ⟨Lc54, hQ54, l54, y54, z54⟩, st54⟩ := Jvm.LawKit.callS X50 hx (y := (⟨"com/example/kin_bloom/kinbloom/eval/IntegerKeys", "write", "(J[B)V"⟩ : MethodName)) hown (mvT hZ (own_w hw 1 rfl)) (mvT hZ (own_w hw 2 rfl)) (mvT hZ (own_w hw 3 rfl)) (mvT hZ (own_w hw 4 rfl)) (by decide) (backOf (W := 0) (own_rm1 l Z a0 hw [] q1 b1 kc1 (p2.toInt8.toInt32) (p2.toInt8.toInt32) (p2.toInt8.toInt32) (p2.toInt8.toInt32) (p2.toInt8.toInt32) (p2.toInt8.toInt32) (p2.toInt8.toInt32) (p2.toInt8.toInt32) (p2.toInt8.toInt32) (p2.toInt8.toInt32) h50 n0 (Nat.le_trans Z0 K53.1) V_b1_50 g_b1) hZ (own_w hw 4 rfl) (own_w hw 3 rfl) (by decide) (by decide)) (g := (mkF m 66 #[.val (.long q1), .second, .val (.int p2), .val (.int (p2.toInt8.toInt32)), .val (.ref b1), .unset, .unset] [(.ref b1), (.long q1)])) rfl (by rw [hml]; rfl) (argsL := [(.long q1), (.ref b1)]) (rest := []) (lenOf own_pd0 rfl) rfl (by show 2 * 0 + _ ≤ _; exact Nat.le_of_eq rfl) (hb hby at_66) (fun _ _ => ⟨rfl, e50, (by decide : 1 + 0 ≤ _), (by decide : 10 + 0 ≤ _)⟩)
  dsimp only [Pt.U, Pt.locs, Pt.cells, Pt.slots] at X54 l54 y54 z54 st54 hQ54
  subst l54 y54 z54
  obtain ⟨rfl, N54q, K54q, Q54_0⟩ := hQ54
  have N54 := Fr.app N50 N54q
  have K57 : Keep h0 T54.heap [] := K53.trans K54q (allS (Or.inr sz_b1) all0)
  refine own_go (B := T54.setTop (mkF m 69 #[.val (.long q1), .second, .val (.int p2), .val (.int (p2.toInt8.toInt32)), .val (.ref b1), .unset, .unset] [])) st54 ?_
  refine own_go (B := T54.setTop (mkF m 71 #[.val (.long q1), .second, .val (.int p2), .val (.int (p2.toInt8.toInt32)), .val (.ref b1), .unset, .unset] [(.ref b1)])) (fun _ k => XS.aload X54.here hx rfl (hb hby at_69) rfl rfl k) ?_
  refine own_go (B := T54.setTop (mkF m 72 #[.val (.long q1), .second, .val (.int p2), .val (.int (p2.toInt8.toInt32)), .val (.ref b1), .unset, .unset] [(.int (0 : Int32)), (.ref b1)])) (fun _ k => XS.iconst X54.here hx rfl (hb hby at_71) k) ?_
  obtain ⟨cl58, Ar58, q58, S58, N58n, H58, G58⟩ := id Q54_0
  have hin59 : ¬ ((0 : Int32) < 0 ∨ cl58.slots.size ≤ ((0 : Int32)).toNatClampNeg) := inb_of S58 ⟨by decide, by decide⟩
  have hat59 : cl58.slots[((0 : Int32)).toNatClampNeg]? = some (.int ((((((((((((((((q1.toUInt64 >>> ((8 : Int32) &&& 0x3f).toInt64.toUInt64).toInt64).toUInt64 >>> ((8 : Int32) &&& 0x3f).toInt64.toUInt64).toInt64).toUInt64 >>> ((8 : Int32) &&& 0x3f).toInt64.toUInt64).toInt64).toUInt64 >>> ((8 : Int32) &&& 0x3f).toInt64.toUInt64).toInt64).toUInt64 >>> ((8 : Int32) &&& 0x3f).toInt64.toUInt64).toInt64).toUInt64 >>> ((8 : Int32) &&& 0x3f).toInt64.toUInt64).toInt64).toUInt64 >>> ((8 : Int32) &&& 0x3f).toInt64.toUInt64).toInt64).toInt32).toInt8.toInt32)) := H58.at hin59 rfl
  refine own_go (B := T54.setTop (mkF m 73 #[.val (.long q1), .second, .val (.int p2), .val (.int (p2.toInt8.toInt32)), .val (.ref b1), .unset, .unset] [(.int ((((((((((((((((q1.toUInt64 >>> ((8 : Int32) &&& 0x3f).toInt64.toUInt64).toInt64).toUInt64 >>> ((8 : Int32) &&& 0x3f).toInt64.toUInt64).toInt64).toUInt64 >>> ((8 : Int32) &&& 0x3f).toInt64.toUInt64).toInt64).toUInt64 >>> ((8 : Int32) &&& 0x3f).toInt64.toUInt64).toInt64).toUInt64 >>> ((8 : Int32) &&& 0x3f).toInt64.toUInt64).toInt64).toUInt64 >>> ((8 : Int32) &&& 0x3f).toInt64.toUInt64).toInt64).toUInt64 >>> ((8 : Int32) &&& 0x3f).toInt64.toUInt64).toInt64).toInt32).toInt8.toInt32))])) (fun _ k => X54.baloadBytes hx (j := (0 : Int32)) (v := (.int ((((((((((((((((q1.toUInt64 >>> ((8 : Int32) &&& 0x3f).toInt64.toUInt64).toInt64).toUInt64 >>> ((8 : Int32) &&& 0x3f).toInt64.toUInt64).toInt64).toUInt64 >>> ((8 : Int32) &&& 0x3f).toInt64.toUInt64).toInt64).toUInt64 >>> ((8 : Int32) &&& 0x3f).toInt64.toUInt64).toInt64).toUInt64 >>> ((8 : Int32) &&& 0x3f).toInt64.toUInt64).toInt64).toUInt64 >>> ((8 : Int32) &&& 0x3f).toInt64.toUInt64).toInt64).toUInt64 >>> ((8 : Int32) &&& 0x3f).toInt64.toUInt64).toInt64).toInt32).toInt8.toInt32))) (own_hc rfl Ar58.1) (State.isArrayOf_alike hZ.alike Ar58.2.1) Ar58.2.2 hin59 hat59 (g := (mkF m 72 #[.val (.long q1), .second, .val (.int p2), .val (.int (p2.toInt8.toInt32)), .val (.ref b1), .unset, .unset] [(.int (0 : Int32)), (.ref b1)])) rfl rfl (hb hby at_72) _ k) ?_
  refine own_go (B := T54.setTop (mkF m 75 #[.val (.long q1), .second, .val (.int p2), .val (.int (p2.toInt8.toInt32)), .val (.ref b1), .unset, .unset] [(.int (56 : Int32)), (.int ((((((((((((((((q1.toUInt64 >>> ((8 : Int32) &&& 0x3f).toInt64.toUInt64).toInt64).toUInt64 >>> ((8 : Int32) &&& 0x3f).toInt64.toUInt64).toInt64).toUInt64 >>> ((8 : Int32) &&& 0x3f).toInt64.toUInt64).toInt64).toUInt64 >>> ((8 : Int32) &&& 0x3f).toInt64.toUInt64).toInt64).toUInt64 >>> ((8 : Int32) &&& 0x3f).toInt64.toUInt64).toInt64).toUInt64 >>> ((8 : Int32) &&& 0x3f).toInt64.toUInt64).toInt64).toUInt64 >>> ((8 : Int32) &&& 0x3f).toInt64.toUInt64).toInt64).toInt32).toInt8.toInt32))])) (fun _ k => XS.bipush X54.here hx rfl (hb hby at_73) k) ?_
  obtain ⟨_, _, ⟨T60, L60, k60, n60⟩, -, X60, ⟨Lc60, hQ60, l60, y60, z60⟩, st60⟩ := Jvm.LawKit.callS X54 hx (y := (⟨"com/example/kin_bloom/kinbloom/eval/IntegerKeysWritePinLaw", "u", "(BI)J"⟩ : MethodName)) hown (mvT hZ (own_w hw 5 rfl)) (mvT hZ (own_w hw 6 rfl)) (mvT hZ (own_w hw 7 rfl)) (mvT hZ (own_w hw 8 rfl)) (by decide) (backOf (W := 0) (own_u56 l Z a0 hw [] ((((((((((((((((q1.toUInt64 >>> ((8 : Int32) &&& 0x3f).toInt64.toUInt64).toInt64).toUInt64 >>> ((8 : Int32) &&& 0x3f).toInt64.toUInt64).toInt64).toUInt64 >>> ((8 : Int32) &&& 0x3f).toInt64.toUInt64).toInt64).toUInt64 >>> ((8 : Int32) &&& 0x3f).toInt64.toUInt64).toInt64).toUInt64 >>> ((8 : Int32) &&& 0x3f).toInt64.toUInt64).toInt64).toUInt64 >>> ((8 : Int32) &&& 0x3f).toInt64.toUInt64).toInt64).toUInt64 >>> ((8 : Int32) &&& 0x3f).toInt64.toUInt64).toInt64).toInt32).toInt8.toInt32) T54.heap n0 (Nat.le_trans Z0 K57.1) ) hZ (own_w hw 8 rfl) (own_w hw 7 rfl) (by decide) (by decide)) (g := (mkF m 75 #[.val (.long q1), .second, .val (.int p2), .val (.int (p2.toInt8.toInt32)), .val (.ref b1), .unset, .unset] [(.int (56 : Int32)), (.int ((((((((((((((((q1.toUInt64 >>> ((8 : Int32) &&& 0x3f).toInt64.toUInt64).toInt64).toUInt64 >>> ((8 : Int32) &&& 0x3f).toInt64.toUInt64).toInt64).toUInt64 >>> ((8 : Int32) &&& 0x3f).toInt64.toUInt64).toInt64).toUInt64 >>> ((8 : Int32) &&& 0x3f).toInt64.toUInt64).toInt64).toUInt64 >>> ((8 : Int32) &&& 0x3f).toInt64.toUInt64).toInt64).toUInt64 >>> ((8 : Int32) &&& 0x3f).toInt64.toUInt64).toInt64).toUInt64 >>> ((8 : Int32) &&& 0x3f).toInt64.toUInt64).toInt64).toInt32).toInt8.toInt32))])) rfl (by rw [hml]; rfl) (argsL := [(.int ((((((((((((((((q1.toUInt64 >>> ((8 : Int32) &&& 0x3f).toInt64.toUInt64).toInt64).toUInt64 >>> ((8 : Int32) &&& 0x3f).toInt64.toUInt64).toInt64).toUInt64 >>> ((8 : Int32) &&& 0x3f).toInt64.toUInt64).toInt64).toUInt64 >>> ((8 : Int32) &&& 0x3f).toInt64.toUInt64).toInt64).toUInt64 >>> ((8 : Int32) &&& 0x3f).toInt64.toUInt64).toInt64).toUInt64 >>> ((8 : Int32) &&& 0x3f).toInt64.toUInt64).toInt64).toUInt64 >>> ((8 : Int32) &&& 0x3f).toInt64.toUInt64).toInt64).toInt32).toInt8.toInt32)), (.int (56 : Int32))]) (rest := []) (lenOf own_pd1 rfl) rfl (by show 2 * 0 + _ ≤ _; exact Nat.le_of_eq rfl) (hb hby at_75) (fun _ _ => ⟨rfl, rfl, (by decide : 1 + 0 ≤ _), (by decide : 10 + 0 ≤ _)⟩)
  dsimp only [Pt.U, Pt.locs, Pt.cells, Pt.slots] at X60 l60 y60 z60 st60 hQ60
  subst l60 y60 z60
  obtain ⟨r_60, rfl, N60q, e60, x60_0⟩ := hQ60
  have N60 := Fr.app N54 N60q
  refine own_go (B := T60.setTop (mkF m 78 #[.val (.long q1), .second, .val (.int p2), .val (.int (p2.toInt8.toInt32)), .val (.ref b1), .unset, .unset] [(.long r_60)])) st60 ?_
  refine own_go (B := T60.setTop (mkF m 80 #[.val (.long q1), .second, .val (.int p2), .val (.int (p2.toInt8.toInt32)), .val (.ref b1), .unset, .unset] [(.ref b1), (.long r_60)])) (fun _ k => XS.aload X60.here hx rfl (hb hby at_78) rfl rfl k) ?_
  refine own_go (B := T60.setTop (mkF m 81 #[.val (.long q1), .second, .val (.int p2), .val (.int (p2.toInt8.toInt32)), .val (.ref b1), .unset, .unset] [(.int (1 : Int32)), (.ref b1), (.long r_60)])) (fun _ k => XS.iconst X60.here hx rfl (hb hby at_80) k) ?_
  obtain ⟨cl61, Ar61, q61, S61, N61n, H61, G61⟩ := id Q54_0
  have hin62 : ¬ ((1 : Int32) < 0 ∨ cl61.slots.size ≤ ((1 : Int32)).toNatClampNeg) := inb_of S61 ⟨by decide, by decide⟩
  have hat62 : cl61.slots[((1 : Int32)).toNatClampNeg]? = some (.int ((((((((((((((q1.toUInt64 >>> ((8 : Int32) &&& 0x3f).toInt64.toUInt64).toInt64).toUInt64 >>> ((8 : Int32) &&& 0x3f).toInt64.toUInt64).toInt64).toUInt64 >>> ((8 : Int32) &&& 0x3f).toInt64.toUInt64).toInt64).toUInt64 >>> ((8 : Int32) &&& 0x3f).toInt64.toUInt64).toInt64).toUInt64 >>> ((8 : Int32) &&& 0x3f).toInt64.toUInt64).toInt64).toUInt64 >>> ((8 : Int32) &&& 0x3f).toInt64.toUInt64).toInt64).toInt32).toInt8.toInt32)) := H61.at hin62 rfl
  refine own_go (B := T60.setTop (mkF m 82 #[.val (.long q1), .second, .val (.int p2), .val (.int (p2.toInt8.toInt32)), .val (.ref b1), .unset, .unset] [(.int ((((((((((((((q1.toUInt64 >>> ((8 : Int32) &&& 0x3f).toInt64.toUInt64).toInt64).toUInt64 >>> ((8 : Int32) &&& 0x3f).toInt64.toUInt64).toInt64).toUInt64 >>> ((8 : Int32) &&& 0x3f).toInt64.toUInt64).toInt64).toUInt64 >>> ((8 : Int32) &&& 0x3f).toInt64.toUInt64).toInt64).toUInt64 >>> ((8 : Int32) &&& 0x3f).toInt64.toUInt64).toInt64).toUInt64 >>> ((8 : Int32) &&& 0x3f).toInt64.toUInt64).toInt64).toInt32).toInt8.toInt32)), (.long r_60)])) (fun _ k => X60.baloadBytes hx (j := (1 : Int32)) (v := (.int ((((((((((((((q1.toUInt64 >>> ((8 : Int32) &&& 0x3f).toInt64.toUInt64).toInt64).toUInt64 >>> ((8 : Int32) &&& 0x3f).toInt64.toUInt64).toInt64).toUInt64 >>> ((8 : Int32) &&& 0x3f).toInt64.toUInt64).toInt64).toUInt64 >>> ((8 : Int32) &&& 0x3f).toInt64.toUInt64).toInt64).toUInt64 >>> ((8 : Int32) &&& 0x3f).toInt64.toUInt64).toInt64).toUInt64 >>> ((8 : Int32) &&& 0x3f).toInt64.toUInt64).toInt64).toInt32).toInt8.toInt32))) (own_hc e60 Ar61.1) (State.isArrayOf_alike hZ.alike Ar61.2.1) Ar61.2.2 hin62 hat62 (g := (mkF m 81 #[.val (.long q1), .second, .val (.int p2), .val (.int (p2.toInt8.toInt32)), .val (.ref b1), .unset, .unset] [(.int (1 : Int32)), (.ref b1), (.long r_60)])) rfl rfl (hb hby at_81) _ k) ?_
  refine own_go (B := T60.setTop (mkF m 84 #[.val (.long q1), .second, .val (.int p2), .val (.int (p2.toInt8.toInt32)), .val (.ref b1), .unset, .unset] [(.int (48 : Int32)), (.int ((((((((((((((q1.toUInt64 >>> ((8 : Int32) &&& 0x3f).toInt64.toUInt64).toInt64).toUInt64 >>> ((8 : Int32) &&& 0x3f).toInt64.toUInt64).toInt64).toUInt64 >>> ((8 : Int32) &&& 0x3f).toInt64.toUInt64).toInt64).toUInt64 >>> ((8 : Int32) &&& 0x3f).toInt64.toUInt64).toInt64).toUInt64 >>> ((8 : Int32) &&& 0x3f).toInt64.toUInt64).toInt64).toUInt64 >>> ((8 : Int32) &&& 0x3f).toInt64.toUInt64).toInt64).toInt32).toInt8.toInt32)), (.long r_60)])) (fun _ k => XS.bipush X60.here hx rfl (hb hby at_82) k) ?_
  obtain ⟨_, _, ⟨T63, L63, k63, n63⟩, -, X63, ⟨Lc63, hQ63, l63, y63, z63⟩, st63⟩ := Jvm.LawKit.callS X60 hx (y := (⟨"com/example/kin_bloom/kinbloom/eval/IntegerKeysWritePinLaw", "u", "(BI)J"⟩ : MethodName)) hown (mvT hZ (own_w hw 5 rfl)) (mvT hZ (own_w hw 6 rfl)) (mvT hZ (own_w hw 7 rfl)) (mvT hZ (own_w hw 8 rfl)) (by decide) (backOf (W := 2) (own_u48 l Z a0 hw [] ((((((((((((((q1.toUInt64 >>> ((8 : Int32) &&& 0x3f).toInt64.toUInt64).toInt64).toUInt64 >>> ((8 : Int32) &&& 0x3f).toInt64.toUInt64).toInt64).toUInt64 >>> ((8 : Int32) &&& 0x3f).toInt64.toUInt64).toInt64).toUInt64 >>> ((8 : Int32) &&& 0x3f).toInt64.toUInt64).toInt64).toUInt64 >>> ((8 : Int32) &&& 0x3f).toInt64.toUInt64).toInt64).toUInt64 >>> ((8 : Int32) &&& 0x3f).toInt64.toUInt64).toInt64).toInt32).toInt8.toInt32) T54.heap n0 (Nat.le_trans Z0 K57.1) ) hZ (own_w hw 8 rfl) (own_w hw 7 rfl) (by decide) (by decide)) (g := (mkF m 84 #[.val (.long q1), .second, .val (.int p2), .val (.int (p2.toInt8.toInt32)), .val (.ref b1), .unset, .unset] [(.int (48 : Int32)), (.int ((((((((((((((q1.toUInt64 >>> ((8 : Int32) &&& 0x3f).toInt64.toUInt64).toInt64).toUInt64 >>> ((8 : Int32) &&& 0x3f).toInt64.toUInt64).toInt64).toUInt64 >>> ((8 : Int32) &&& 0x3f).toInt64.toUInt64).toInt64).toUInt64 >>> ((8 : Int32) &&& 0x3f).toInt64.toUInt64).toInt64).toUInt64 >>> ((8 : Int32) &&& 0x3f).toInt64.toUInt64).toInt64).toUInt64 >>> ((8 : Int32) &&& 0x3f).toInt64.toUInt64).toInt64).toInt32).toInt8.toInt32)), (.long r_60)])) rfl (by rw [hml]; rfl) (argsL := [(.int ((((((((((((((q1.toUInt64 >>> ((8 : Int32) &&& 0x3f).toInt64.toUInt64).toInt64).toUInt64 >>> ((8 : Int32) &&& 0x3f).toInt64.toUInt64).toInt64).toUInt64 >>> ((8 : Int32) &&& 0x3f).toInt64.toUInt64).toInt64).toUInt64 >>> ((8 : Int32) &&& 0x3f).toInt64.toUInt64).toInt64).toUInt64 >>> ((8 : Int32) &&& 0x3f).toInt64.toUInt64).toInt64).toUInt64 >>> ((8 : Int32) &&& 0x3f).toInt64.toUInt64).toInt64).toInt32).toInt8.toInt32)), (.int (48 : Int32))]) (rest := [(.long r_60)]) (lenOf own_pd1 rfl) rfl (by show 2 * 0 + _ ≤ _; exact Nat.le_of_eq rfl) (hb hby at_84) (fun _ _ => ⟨rfl, e60, (by decide : 1 + 0 ≤ _), (by decide : 10 + 0 ≤ _)⟩)
  dsimp only [Pt.U, Pt.locs, Pt.cells, Pt.slots] at X63 l63 y63 z63 st63 hQ63
  subst l63 y63 z63
  obtain ⟨r_63, rfl, N63q, e63, x63_0⟩ := hQ63
  have N63 := Fr.app N60 N63q
  refine own_go (B := T63.setTop (mkF m 87 #[.val (.long q1), .second, .val (.int p2), .val (.int (p2.toInt8.toInt32)), .val (.ref b1), .unset, .unset] [(.long r_63), (.long r_60)])) st63 ?_
  refine own_go (B := T63.setTop (mkF m 88 #[.val (.long q1), .second, .val (.int p2), .val (.int (p2.toInt8.toInt32)), .val (.ref b1), .unset, .unset] [(.long (r_60 ||| r_63))])) (fun _ k => XS.lor X63.here hx rfl (hb hby at_87) rfl k) ?_
  refine own_go (B := T63.setTop (mkF m 90 #[.val (.long q1), .second, .val (.int p2), .val (.int (p2.toInt8.toInt32)), .val (.ref b1), .unset, .unset] [(.ref b1), (.long (r_60 ||| r_63))])) (fun _ k => XS.aload X63.here hx rfl (hb hby at_88) rfl rfl k) ?_
  refine own_go (B := T63.setTop (mkF m 91 #[.val (.long q1), .second, .val (.int p2), .val (.int (p2.toInt8.toInt32)), .val (.ref b1), .unset, .unset] [(.int (2 : Int32)), (.ref b1), (.long (r_60 ||| r_63))])) (fun _ k => XS.iconst X63.here hx rfl (hb hby at_90) k) ?_
  obtain ⟨cl64, Ar64, q64, S64, N64n, H64, G64⟩ := id Q54_0
  have hin65 : ¬ ((2 : Int32) < 0 ∨ cl64.slots.size ≤ ((2 : Int32)).toNatClampNeg) := inb_of S64 ⟨by decide, by decide⟩
  have hat65 : cl64.slots[((2 : Int32)).toNatClampNeg]? = some (.int ((((((((((((q1.toUInt64 >>> ((8 : Int32) &&& 0x3f).toInt64.toUInt64).toInt64).toUInt64 >>> ((8 : Int32) &&& 0x3f).toInt64.toUInt64).toInt64).toUInt64 >>> ((8 : Int32) &&& 0x3f).toInt64.toUInt64).toInt64).toUInt64 >>> ((8 : Int32) &&& 0x3f).toInt64.toUInt64).toInt64).toUInt64 >>> ((8 : Int32) &&& 0x3f).toInt64.toUInt64).toInt64).toInt32).toInt8.toInt32)) := H64.at hin65 rfl
  refine own_go (B := T63.setTop (mkF m 92 #[.val (.long q1), .second, .val (.int p2), .val (.int (p2.toInt8.toInt32)), .val (.ref b1), .unset, .unset] [(.int ((((((((((((q1.toUInt64 >>> ((8 : Int32) &&& 0x3f).toInt64.toUInt64).toInt64).toUInt64 >>> ((8 : Int32) &&& 0x3f).toInt64.toUInt64).toInt64).toUInt64 >>> ((8 : Int32) &&& 0x3f).toInt64.toUInt64).toInt64).toUInt64 >>> ((8 : Int32) &&& 0x3f).toInt64.toUInt64).toInt64).toUInt64 >>> ((8 : Int32) &&& 0x3f).toInt64.toUInt64).toInt64).toInt32).toInt8.toInt32)), (.long (r_60 ||| r_63))])) (fun _ k => X63.baloadBytes hx (j := (2 : Int32)) (v := (.int ((((((((((((q1.toUInt64 >>> ((8 : Int32) &&& 0x3f).toInt64.toUInt64).toInt64).toUInt64 >>> ((8 : Int32) &&& 0x3f).toInt64.toUInt64).toInt64).toUInt64 >>> ((8 : Int32) &&& 0x3f).toInt64.toUInt64).toInt64).toUInt64 >>> ((8 : Int32) &&& 0x3f).toInt64.toUInt64).toInt64).toUInt64 >>> ((8 : Int32) &&& 0x3f).toInt64.toUInt64).toInt64).toInt32).toInt8.toInt32))) (own_hc e63 Ar64.1) (State.isArrayOf_alike hZ.alike Ar64.2.1) Ar64.2.2 hin65 hat65 (g := (mkF m 91 #[.val (.long q1), .second, .val (.int p2), .val (.int (p2.toInt8.toInt32)), .val (.ref b1), .unset, .unset] [(.int (2 : Int32)), (.ref b1), (.long (r_60 ||| r_63))])) rfl rfl (hb hby at_91) _ k) ?_
  refine own_go (B := T63.setTop (mkF m 94 #[.val (.long q1), .second, .val (.int p2), .val (.int (p2.toInt8.toInt32)), .val (.ref b1), .unset, .unset] [(.int (40 : Int32)), (.int ((((((((((((q1.toUInt64 >>> ((8 : Int32) &&& 0x3f).toInt64.toUInt64).toInt64).toUInt64 >>> ((8 : Int32) &&& 0x3f).toInt64.toUInt64).toInt64).toUInt64 >>> ((8 : Int32) &&& 0x3f).toInt64.toUInt64).toInt64).toUInt64 >>> ((8 : Int32) &&& 0x3f).toInt64.toUInt64).toInt64).toUInt64 >>> ((8 : Int32) &&& 0x3f).toInt64.toUInt64).toInt64).toInt32).toInt8.toInt32)), (.long (r_60 ||| r_63))])) (fun _ k => XS.bipush X63.here hx rfl (hb hby at_92) k) ?_
  obtain ⟨_, _, ⟨T66, L66, k66, n66⟩, -, X66, ⟨Lc66, hQ66, l66, y66, z66⟩, st66⟩ := Jvm.LawKit.callS X63 hx (y := (⟨"com/example/kin_bloom/kinbloom/eval/IntegerKeysWritePinLaw", "u", "(BI)J"⟩ : MethodName)) hown (mvT hZ (own_w hw 5 rfl)) (mvT hZ (own_w hw 6 rfl)) (mvT hZ (own_w hw 7 rfl)) (mvT hZ (own_w hw 8 rfl)) (by decide) (backOf (W := 2) (own_u40 l Z a0 hw [] ((((((((((((q1.toUInt64 >>> ((8 : Int32) &&& 0x3f).toInt64.toUInt64).toInt64).toUInt64 >>> ((8 : Int32) &&& 0x3f).toInt64.toUInt64).toInt64).toUInt64 >>> ((8 : Int32) &&& 0x3f).toInt64.toUInt64).toInt64).toUInt64 >>> ((8 : Int32) &&& 0x3f).toInt64.toUInt64).toInt64).toUInt64 >>> ((8 : Int32) &&& 0x3f).toInt64.toUInt64).toInt64).toInt32).toInt8.toInt32) T54.heap n0 (Nat.le_trans Z0 K57.1) ) hZ (own_w hw 8 rfl) (own_w hw 7 rfl) (by decide) (by decide)) (g := (mkF m 94 #[.val (.long q1), .second, .val (.int p2), .val (.int (p2.toInt8.toInt32)), .val (.ref b1), .unset, .unset] [(.int (40 : Int32)), (.int ((((((((((((q1.toUInt64 >>> ((8 : Int32) &&& 0x3f).toInt64.toUInt64).toInt64).toUInt64 >>> ((8 : Int32) &&& 0x3f).toInt64.toUInt64).toInt64).toUInt64 >>> ((8 : Int32) &&& 0x3f).toInt64.toUInt64).toInt64).toUInt64 >>> ((8 : Int32) &&& 0x3f).toInt64.toUInt64).toInt64).toUInt64 >>> ((8 : Int32) &&& 0x3f).toInt64.toUInt64).toInt64).toInt32).toInt8.toInt32)), (.long (r_60 ||| r_63))])) rfl (by rw [hml]; rfl) (argsL := [(.int ((((((((((((q1.toUInt64 >>> ((8 : Int32) &&& 0x3f).toInt64.toUInt64).toInt64).toUInt64 >>> ((8 : Int32) &&& 0x3f).toInt64.toUInt64).toInt64).toUInt64 >>> ((8 : Int32) &&& 0x3f).toInt64.toUInt64).toInt64).toUInt64 >>> ((8 : Int32) &&& 0x3f).toInt64.toUInt64).toInt64).toUInt64 >>> ((8 : Int32) &&& 0x3f).toInt64.toUInt64).toInt64).toInt32).toInt8.toInt32)), (.int (40 : Int32))]) (rest := [(.long (r_60 ||| r_63))]) (lenOf own_pd1 rfl) rfl (by show 2 * 0 + _ ≤ _; exact Nat.le_of_eq rfl) (hb hby at_94) (fun _ _ => ⟨rfl, e63, (by decide : 1 + 0 ≤ _), (by decide : 10 + 0 ≤ _)⟩)
  dsimp only [Pt.U, Pt.locs, Pt.cells, Pt.slots] at X66 l66 y66 z66 st66 hQ66
  subst l66 y66 z66
  obtain ⟨r_66, rfl, N66q, e66, x66_0⟩ := hQ66
  have N66 := Fr.app N63 N66q
  refine own_go (B := T66.setTop (mkF m 97 #[.val (.long q1), .second, .val (.int p2), .val (.int (p2.toInt8.toInt32)), .val (.ref b1), .unset, .unset] [(.long r_66), (.long (r_60 ||| r_63))])) st66 ?_
  refine own_go (B := T66.setTop (mkF m 98 #[.val (.long q1), .second, .val (.int p2), .val (.int (p2.toInt8.toInt32)), .val (.ref b1), .unset, .unset] [(.long ((r_60 ||| r_63) ||| r_66))])) (fun _ k => XS.lor X66.here hx rfl (hb hby at_97) rfl k) ?_
  refine own_go (B := T66.setTop (mkF m 100 #[.val (.long q1), .second, .val (.int p2), .val (.int (p2.toInt8.toInt32)), .val (.ref b1), .unset, .unset] [(.ref b1), (.long ((r_60 ||| r_63) ||| r_66))])) (fun _ k => XS.aload X66.here hx rfl (hb hby at_98) rfl rfl k) ?_
  refine own_go (B := T66.setTop (mkF m 101 #[.val (.long q1), .second, .val (.int p2), .val (.int (p2.toInt8.toInt32)), .val (.ref b1), .unset, .unset] [(.int (3 : Int32)), (.ref b1), (.long ((r_60 ||| r_63) ||| r_66))])) (fun _ k => XS.iconst X66.here hx rfl (hb hby at_100) k) ?_
  obtain ⟨cl67, Ar67, q67, S67, N67n, H67, G67⟩ := id Q54_0
  have hin68 : ¬ ((3 : Int32) < 0 ∨ cl67.slots.size ≤ ((3 : Int32)).toNatClampNeg) := inb_of S67 ⟨by decide, by decide⟩
  have hat68 : cl67.slots[((3 : Int32)).toNatClampNeg]? = some (.int ((((((((((q1.toUInt64 >>> ((8 : Int32) &&& 0x3f).toInt64.toUInt64).toInt64).toUInt64 >>> ((8 : Int32) &&& 0x3f).toInt64.toUInt64).toInt64).toUInt64 >>> ((8 : Int32) &&& 0x3f).toInt64.toUInt64).toInt64).toUInt64 >>> ((8 : Int32) &&& 0x3f).toInt64.toUInt64).toInt64).toInt32).toInt8.toInt32)) := H67.at hin68 rfl
  refine own_go (B := T66.setTop (mkF m 102 #[.val (.long q1), .second, .val (.int p2), .val (.int (p2.toInt8.toInt32)), .val (.ref b1), .unset, .unset] [(.int ((((((((((q1.toUInt64 >>> ((8 : Int32) &&& 0x3f).toInt64.toUInt64).toInt64).toUInt64 >>> ((8 : Int32) &&& 0x3f).toInt64.toUInt64).toInt64).toUInt64 >>> ((8 : Int32) &&& 0x3f).toInt64.toUInt64).toInt64).toUInt64 >>> ((8 : Int32) &&& 0x3f).toInt64.toUInt64).toInt64).toInt32).toInt8.toInt32)), (.long ((r_60 ||| r_63) ||| r_66))])) (fun _ k => X66.baloadBytes hx (j := (3 : Int32)) (v := (.int ((((((((((q1.toUInt64 >>> ((8 : Int32) &&& 0x3f).toInt64.toUInt64).toInt64).toUInt64 >>> ((8 : Int32) &&& 0x3f).toInt64.toUInt64).toInt64).toUInt64 >>> ((8 : Int32) &&& 0x3f).toInt64.toUInt64).toInt64).toUInt64 >>> ((8 : Int32) &&& 0x3f).toInt64.toUInt64).toInt64).toInt32).toInt8.toInt32))) (own_hc e66 Ar67.1) (State.isArrayOf_alike hZ.alike Ar67.2.1) Ar67.2.2 hin68 hat68 (g := (mkF m 101 #[.val (.long q1), .second, .val (.int p2), .val (.int (p2.toInt8.toInt32)), .val (.ref b1), .unset, .unset] [(.int (3 : Int32)), (.ref b1), (.long ((r_60 ||| r_63) ||| r_66))])) rfl rfl (hb hby at_101) _ k) ?_
  refine own_go (B := T66.setTop (mkF m 104 #[.val (.long q1), .second, .val (.int p2), .val (.int (p2.toInt8.toInt32)), .val (.ref b1), .unset, .unset] [(.int (32 : Int32)), (.int ((((((((((q1.toUInt64 >>> ((8 : Int32) &&& 0x3f).toInt64.toUInt64).toInt64).toUInt64 >>> ((8 : Int32) &&& 0x3f).toInt64.toUInt64).toInt64).toUInt64 >>> ((8 : Int32) &&& 0x3f).toInt64.toUInt64).toInt64).toUInt64 >>> ((8 : Int32) &&& 0x3f).toInt64.toUInt64).toInt64).toInt32).toInt8.toInt32)), (.long ((r_60 ||| r_63) ||| r_66))])) (fun _ k => XS.bipush X66.here hx rfl (hb hby at_102) k) ?_
  obtain ⟨_, _, ⟨T69, L69, k69, n69⟩, -, X69, ⟨Lc69, hQ69, l69, y69, z69⟩, st69⟩ := Jvm.LawKit.callS X66 hx (y := (⟨"com/example/kin_bloom/kinbloom/eval/IntegerKeysWritePinLaw", "u", "(BI)J"⟩ : MethodName)) hown (mvT hZ (own_w hw 5 rfl)) (mvT hZ (own_w hw 6 rfl)) (mvT hZ (own_w hw 7 rfl)) (mvT hZ (own_w hw 8 rfl)) (by decide) (backOf (W := 2) (own_u32 l Z a0 hw [] ((((((((((q1.toUInt64 >>> ((8 : Int32) &&& 0x3f).toInt64.toUInt64).toInt64).toUInt64 >>> ((8 : Int32) &&& 0x3f).toInt64.toUInt64).toInt64).toUInt64 >>> ((8 : Int32) &&& 0x3f).toInt64.toUInt64).toInt64).toUInt64 >>> ((8 : Int32) &&& 0x3f).toInt64.toUInt64).toInt64).toInt32).toInt8.toInt32) T54.heap n0 (Nat.le_trans Z0 K57.1) ) hZ (own_w hw 8 rfl) (own_w hw 7 rfl) (by decide) (by decide)) (g := (mkF m 104 #[.val (.long q1), .second, .val (.int p2), .val (.int (p2.toInt8.toInt32)), .val (.ref b1), .unset, .unset] [(.int (32 : Int32)), (.int ((((((((((q1.toUInt64 >>> ((8 : Int32) &&& 0x3f).toInt64.toUInt64).toInt64).toUInt64 >>> ((8 : Int32) &&& 0x3f).toInt64.toUInt64).toInt64).toUInt64 >>> ((8 : Int32) &&& 0x3f).toInt64.toUInt64).toInt64).toUInt64 >>> ((8 : Int32) &&& 0x3f).toInt64.toUInt64).toInt64).toInt32).toInt8.toInt32)), (.long ((r_60 ||| r_63) ||| r_66))])) rfl (by rw [hml]; rfl) (argsL := [(.int ((((((((((q1.toUInt64 >>> ((8 : Int32) &&& 0x3f).toInt64.toUInt64).toInt64).toUInt64 >>> ((8 : Int32) &&& 0x3f).toInt64.toUInt64).toInt64).toUInt64 >>> ((8 : Int32) &&& 0x3f).toInt64.toUInt64).toInt64).toUInt64 >>> ((8 : Int32) &&& 0x3f).toInt64.toUInt64).toInt64).toInt32).toInt8.toInt32)), (.int (32 : Int32))]) (rest := [(.long ((r_60 ||| r_63) ||| r_66))]) (lenOf own_pd1 rfl) rfl (by show 2 * 0 + _ ≤ _; exact Nat.le_of_eq rfl) (hb hby at_104) (fun _ _ => ⟨rfl, e66, (by decide : 1 + 0 ≤ _), (by decide : 10 + 0 ≤ _)⟩)
  dsimp only [Pt.U, Pt.locs, Pt.cells, Pt.slots] at X69 l69 y69 z69 st69 hQ69
  subst l69 y69 z69
  obtain ⟨r_69, rfl, N69q, e69, x69_0⟩ := hQ69
  have N69 := Fr.app N66 N69q
  refine own_go (B := T69.setTop (mkF m 107 #[.val (.long q1), .second, .val (.int p2), .val (.int (p2.toInt8.toInt32)), .val (.ref b1), .unset, .unset] [(.long r_69), (.long ((r_60 ||| r_63) ||| r_66))])) st69 ?_
  refine own_go (B := T69.setTop (mkF m 108 #[.val (.long q1), .second, .val (.int p2), .val (.int (p2.toInt8.toInt32)), .val (.ref b1), .unset, .unset] [(.long (((r_60 ||| r_63) ||| r_66) ||| r_69))])) (fun _ k => XS.lor X69.here hx rfl (hb hby at_107) rfl k) ?_
  refine own_go (B := T69.setTop (mkF m 110 #[.val (.long q1), .second, .val (.int p2), .val (.int (p2.toInt8.toInt32)), .val (.ref b1), .unset, .unset] [(.ref b1), (.long (((r_60 ||| r_63) ||| r_66) ||| r_69))])) (fun _ k => XS.aload X69.here hx rfl (hb hby at_108) rfl rfl k) ?_
  refine own_go (B := T69.setTop (mkF m 111 #[.val (.long q1), .second, .val (.int p2), .val (.int (p2.toInt8.toInt32)), .val (.ref b1), .unset, .unset] [(.int (4 : Int32)), (.ref b1), (.long (((r_60 ||| r_63) ||| r_66) ||| r_69))])) (fun _ k => XS.iconst X69.here hx rfl (hb hby at_110) k) ?_
  obtain ⟨cl70, Ar70, q70, S70, N70n, H70, G70⟩ := id Q54_0
  have hin71 : ¬ ((4 : Int32) < 0 ∨ cl70.slots.size ≤ ((4 : Int32)).toNatClampNeg) := inb_of S70 ⟨by decide, by decide⟩
  have hat71 : cl70.slots[((4 : Int32)).toNatClampNeg]? = some (.int ((((((((q1.toUInt64 >>> ((8 : Int32) &&& 0x3f).toInt64.toUInt64).toInt64).toUInt64 >>> ((8 : Int32) &&& 0x3f).toInt64.toUInt64).toInt64).toUInt64 >>> ((8 : Int32) &&& 0x3f).toInt64.toUInt64).toInt64).toInt32).toInt8.toInt32)) := H70.at hin71 rfl
  refine own_go (B := T69.setTop (mkF m 112 #[.val (.long q1), .second, .val (.int p2), .val (.int (p2.toInt8.toInt32)), .val (.ref b1), .unset, .unset] [(.int ((((((((q1.toUInt64 >>> ((8 : Int32) &&& 0x3f).toInt64.toUInt64).toInt64).toUInt64 >>> ((8 : Int32) &&& 0x3f).toInt64.toUInt64).toInt64).toUInt64 >>> ((8 : Int32) &&& 0x3f).toInt64.toUInt64).toInt64).toInt32).toInt8.toInt32)), (.long (((r_60 ||| r_63) ||| r_66) ||| r_69))])) (fun _ k => X69.baloadBytes hx (j := (4 : Int32)) (v := (.int ((((((((q1.toUInt64 >>> ((8 : Int32) &&& 0x3f).toInt64.toUInt64).toInt64).toUInt64 >>> ((8 : Int32) &&& 0x3f).toInt64.toUInt64).toInt64).toUInt64 >>> ((8 : Int32) &&& 0x3f).toInt64.toUInt64).toInt64).toInt32).toInt8.toInt32))) (own_hc e69 Ar70.1) (State.isArrayOf_alike hZ.alike Ar70.2.1) Ar70.2.2 hin71 hat71 (g := (mkF m 111 #[.val (.long q1), .second, .val (.int p2), .val (.int (p2.toInt8.toInt32)), .val (.ref b1), .unset, .unset] [(.int (4 : Int32)), (.ref b1), (.long (((r_60 ||| r_63) ||| r_66) ||| r_69))])) rfl rfl (hb hby at_111) _ k) ?_
  refine own_go (B := T69.setTop (mkF m 114 #[.val (.long q1), .second, .val (.int p2), .val (.int (p2.toInt8.toInt32)), .val (.ref b1), .unset, .unset] [(.int (24 : Int32)), (.int ((((((((q1.toUInt64 >>> ((8 : Int32) &&& 0x3f).toInt64.toUInt64).toInt64).toUInt64 >>> ((8 : Int32) &&& 0x3f).toInt64.toUInt64).toInt64).toUInt64 >>> ((8 : Int32) &&& 0x3f).toInt64.toUInt64).toInt64).toInt32).toInt8.toInt32)), (.long (((r_60 ||| r_63) ||| r_66) ||| r_69))])) (fun _ k => XS.bipush X69.here hx rfl (hb hby at_112) k) ?_
  obtain ⟨_, _, ⟨T72, L72, k72, n72⟩, -, X72, ⟨Lc72, hQ72, l72, y72, z72⟩, st72⟩ := Jvm.LawKit.callS X69 hx (y := (⟨"com/example/kin_bloom/kinbloom/eval/IntegerKeysWritePinLaw", "u", "(BI)J"⟩ : MethodName)) hown (mvT hZ (own_w hw 5 rfl)) (mvT hZ (own_w hw 6 rfl)) (mvT hZ (own_w hw 7 rfl)) (mvT hZ (own_w hw 8 rfl)) (by decide) (backOf (W := 2) (own_u24 l Z a0 hw [] ((((((((q1.toUInt64 >>> ((8 : Int32) &&& 0x3f).toInt64.toUInt64).toInt64).toUInt64 >>> ((8 : Int32) &&& 0x3f).toInt64.toUInt64).toInt64).toUInt64 >>> ((8 : Int32) &&& 0x3f).toInt64.toUInt64).toInt64).toInt32).toInt8.toInt32) T54.heap n0 (Nat.le_trans Z0 K57.1) ) hZ (own_w hw 8 rfl) (own_w hw 7 rfl) (by decide) (by decide)) (g := (mkF m 114 #[.val (.long q1), .second, .val (.int p2), .val (.int (p2.toInt8.toInt32)), .val (.ref b1), .unset, .unset] [(.int (24 : Int32)), (.int ((((((((q1.toUInt64 >>> ((8 : Int32) &&& 0x3f).toInt64.toUInt64).toInt64).toUInt64 >>> ((8 : Int32) &&& 0x3f).toInt64.toUInt64).toInt64).toUInt64 >>> ((8 : Int32) &&& 0x3f).toInt64.toUInt64).toInt64).toInt32).toInt8.toInt32)), (.long (((r_60 ||| r_63) ||| r_66) ||| r_69))])) rfl (by rw [hml]; rfl) (argsL := [(.int ((((((((q1.toUInt64 >>> ((8 : Int32) &&& 0x3f).toInt64.toUInt64).toInt64).toUInt64 >>> ((8 : Int32) &&& 0x3f).toInt64.toUInt64).toInt64).toUInt64 >>> ((8 : Int32) &&& 0x3f).toInt64.toUInt64).toInt64).toInt32).toInt8.toInt32)), (.int (24 : Int32))]) (rest := [(.long (((r_60 ||| r_63) ||| r_66) ||| r_69))]) (lenOf own_pd1 rfl) rfl (by show 2 * 0 + _ ≤ _; exact Nat.le_of_eq rfl) (hb hby at_114) (fun _ _ => ⟨rfl, e69, (by decide : 1 + 0 ≤ _), (by decide : 10 + 0 ≤ _)⟩)
  dsimp only [Pt.U, Pt.locs, Pt.cells, Pt.slots] at X72 l72 y72 z72 st72 hQ72
  subst l72 y72 z72
  obtain ⟨r_72, rfl, N72q, e72, x72_0⟩ := hQ72
  have N72 := Fr.app N69 N72q
  refine own_go (B := T72.setTop (mkF m 117 #[.val (.long q1), .second, .val (.int p2), .val (.int (p2.toInt8.toInt32)), .val (.ref b1), .unset, .unset] [(.long r_72), (.long (((r_60 ||| r_63) ||| r_66) ||| r_69))])) st72 ?_
  refine own_go (B := T72.setTop (mkF m 118 #[.val (.long q1), .second, .val (.int p2), .val (.int (p2.toInt8.toInt32)), .val (.ref b1), .unset, .unset] [(.long ((((r_60 ||| r_63) ||| r_66) ||| r_69) ||| r_72))])) (fun _ k => XS.lor X72.here hx rfl (hb hby at_117) rfl k) ?_
  refine own_go (B := T72.setTop (mkF m 120 #[.val (.long q1), .second, .val (.int p2), .val (.int (p2.toInt8.toInt32)), .val (.ref b1), .unset, .unset] [(.ref b1), (.long ((((r_60 ||| r_63) ||| r_66) ||| r_69) ||| r_72))])) (fun _ k => XS.aload X72.here hx rfl (hb hby at_118) rfl rfl k) ?_
  refine own_go (B := T72.setTop (mkF m 121 #[.val (.long q1), .second, .val (.int p2), .val (.int (p2.toInt8.toInt32)), .val (.ref b1), .unset, .unset] [(.int (5 : Int32)), (.ref b1), (.long ((((r_60 ||| r_63) ||| r_66) ||| r_69) ||| r_72))])) (fun _ k => XS.iconst X72.here hx rfl (hb hby at_120) k) ?_
  obtain ⟨cl73, Ar73, q73, S73, N73n, H73, G73⟩ := id Q54_0
  have hin74 : ¬ ((5 : Int32) < 0 ∨ cl73.slots.size ≤ ((5 : Int32)).toNatClampNeg) := inb_of S73 ⟨by decide, by decide⟩
  have hat74 : cl73.slots[((5 : Int32)).toNatClampNeg]? = some (.int ((((((q1.toUInt64 >>> ((8 : Int32) &&& 0x3f).toInt64.toUInt64).toInt64).toUInt64 >>> ((8 : Int32) &&& 0x3f).toInt64.toUInt64).toInt64).toInt32).toInt8.toInt32)) := H73.at hin74 rfl
  refine own_go (B := T72.setTop (mkF m 122 #[.val (.long q1), .second, .val (.int p2), .val (.int (p2.toInt8.toInt32)), .val (.ref b1), .unset, .unset] [(.int ((((((q1.toUInt64 >>> ((8 : Int32) &&& 0x3f).toInt64.toUInt64).toInt64).toUInt64 >>> ((8 : Int32) &&& 0x3f).toInt64.toUInt64).toInt64).toInt32).toInt8.toInt32)), (.long ((((r_60 ||| r_63) ||| r_66) ||| r_69) ||| r_72))])) (fun _ k => X72.baloadBytes hx (j := (5 : Int32)) (v := (.int ((((((q1.toUInt64 >>> ((8 : Int32) &&& 0x3f).toInt64.toUInt64).toInt64).toUInt64 >>> ((8 : Int32) &&& 0x3f).toInt64.toUInt64).toInt64).toInt32).toInt8.toInt32))) (own_hc e72 Ar73.1) (State.isArrayOf_alike hZ.alike Ar73.2.1) Ar73.2.2 hin74 hat74 (g := (mkF m 121 #[.val (.long q1), .second, .val (.int p2), .val (.int (p2.toInt8.toInt32)), .val (.ref b1), .unset, .unset] [(.int (5 : Int32)), (.ref b1), (.long ((((r_60 ||| r_63) ||| r_66) ||| r_69) ||| r_72))])) rfl rfl (hb hby at_121) _ k) ?_
  refine own_go (B := T72.setTop (mkF m 124 #[.val (.long q1), .second, .val (.int p2), .val (.int (p2.toInt8.toInt32)), .val (.ref b1), .unset, .unset] [(.int (16 : Int32)), (.int ((((((q1.toUInt64 >>> ((8 : Int32) &&& 0x3f).toInt64.toUInt64).toInt64).toUInt64 >>> ((8 : Int32) &&& 0x3f).toInt64.toUInt64).toInt64).toInt32).toInt8.toInt32)), (.long ((((r_60 ||| r_63) ||| r_66) ||| r_69) ||| r_72))])) (fun _ k => XS.bipush X72.here hx rfl (hb hby at_122) k) ?_
  obtain ⟨_, _, ⟨T75, L75, k75, n75⟩, -, X75, ⟨Lc75, hQ75, l75, y75, z75⟩, st75⟩ := Jvm.LawKit.callS X72 hx (y := (⟨"com/example/kin_bloom/kinbloom/eval/IntegerKeysWritePinLaw", "u", "(BI)J"⟩ : MethodName)) hown (mvT hZ (own_w hw 5 rfl)) (mvT hZ (own_w hw 6 rfl)) (mvT hZ (own_w hw 7 rfl)) (mvT hZ (own_w hw 8 rfl)) (by decide) (backOf (W := 2) (own_u16 l Z a0 hw [] ((((((q1.toUInt64 >>> ((8 : Int32) &&& 0x3f).toInt64.toUInt64).toInt64).toUInt64 >>> ((8 : Int32) &&& 0x3f).toInt64.toUInt64).toInt64).toInt32).toInt8.toInt32) T54.heap n0 (Nat.le_trans Z0 K57.1) ) hZ (own_w hw 8 rfl) (own_w hw 7 rfl) (by decide) (by decide)) (g := (mkF m 124 #[.val (.long q1), .second, .val (.int p2), .val (.int (p2.toInt8.toInt32)), .val (.ref b1), .unset, .unset] [(.int (16 : Int32)), (.int ((((((q1.toUInt64 >>> ((8 : Int32) &&& 0x3f).toInt64.toUInt64).toInt64).toUInt64 >>> ((8 : Int32) &&& 0x3f).toInt64.toUInt64).toInt64).toInt32).toInt8.toInt32)), (.long ((((r_60 ||| r_63) ||| r_66) ||| r_69) ||| r_72))])) rfl (by rw [hml]; rfl) (argsL := [(.int ((((((q1.toUInt64 >>> ((8 : Int32) &&& 0x3f).toInt64.toUInt64).toInt64).toUInt64 >>> ((8 : Int32) &&& 0x3f).toInt64.toUInt64).toInt64).toInt32).toInt8.toInt32)), (.int (16 : Int32))]) (rest := [(.long ((((r_60 ||| r_63) ||| r_66) ||| r_69) ||| r_72))]) (lenOf own_pd1 rfl) rfl (by show 2 * 0 + _ ≤ _; exact Nat.le_of_eq rfl) (hb hby at_124) (fun _ _ => ⟨rfl, e72, (by decide : 1 + 0 ≤ _), (by decide : 10 + 0 ≤ _)⟩)
  dsimp only [Pt.U, Pt.locs, Pt.cells, Pt.slots] at X75 l75 y75 z75 st75 hQ75
  subst l75 y75 z75
  obtain ⟨r_75, rfl, N75q, e75, x75_0⟩ := hQ75
  have N75 := Fr.app N72 N75q
  refine own_go (B := T75.setTop (mkF m 127 #[.val (.long q1), .second, .val (.int p2), .val (.int (p2.toInt8.toInt32)), .val (.ref b1), .unset, .unset] [(.long r_75), (.long ((((r_60 ||| r_63) ||| r_66) ||| r_69) ||| r_72))])) st75 ?_
  refine own_go (B := T75.setTop (mkF m 128 #[.val (.long q1), .second, .val (.int p2), .val (.int (p2.toInt8.toInt32)), .val (.ref b1), .unset, .unset] [(.long (((((r_60 ||| r_63) ||| r_66) ||| r_69) ||| r_72) ||| r_75))])) (fun _ k => XS.lor X75.here hx rfl (hb hby at_127) rfl k) ?_
  refine own_go (B := T75.setTop (mkF m 130 #[.val (.long q1), .second, .val (.int p2), .val (.int (p2.toInt8.toInt32)), .val (.ref b1), .unset, .unset] [(.ref b1), (.long (((((r_60 ||| r_63) ||| r_66) ||| r_69) ||| r_72) ||| r_75))])) (fun _ k => XS.aload X75.here hx rfl (hb hby at_128) rfl rfl k) ?_
  refine own_go (B := T75.setTop (mkF m 132 #[.val (.long q1), .second, .val (.int p2), .val (.int (p2.toInt8.toInt32)), .val (.ref b1), .unset, .unset] [(.int (6 : Int32)), (.ref b1), (.long (((((r_60 ||| r_63) ||| r_66) ||| r_69) ||| r_72) ||| r_75))])) (fun _ k => XS.bipush X75.here hx rfl (hb hby at_130) k) ?_
  obtain ⟨cl76, Ar76, q76, S76, N76n, H76, G76⟩ := id Q54_0
  have hin77 : ¬ ((6 : Int32) < 0 ∨ cl76.slots.size ≤ ((6 : Int32)).toNatClampNeg) := inb_of S76 ⟨by decide, by decide⟩
  have hat77 : cl76.slots[((6 : Int32)).toNatClampNeg]? = some (.int ((((q1.toUInt64 >>> ((8 : Int32) &&& 0x3f).toInt64.toUInt64).toInt64).toInt32).toInt8.toInt32)) := H76.at hin77 rfl
  refine own_go (B := T75.setTop (mkF m 133 #[.val (.long q1), .second, .val (.int p2), .val (.int (p2.toInt8.toInt32)), .val (.ref b1), .unset, .unset] [(.int ((((q1.toUInt64 >>> ((8 : Int32) &&& 0x3f).toInt64.toUInt64).toInt64).toInt32).toInt8.toInt32)), (.long (((((r_60 ||| r_63) ||| r_66) ||| r_69) ||| r_72) ||| r_75))])) (fun _ k => X75.baloadBytes hx (j := (6 : Int32)) (v := (.int ((((q1.toUInt64 >>> ((8 : Int32) &&& 0x3f).toInt64.toUInt64).toInt64).toInt32).toInt8.toInt32))) (own_hc e75 Ar76.1) (State.isArrayOf_alike hZ.alike Ar76.2.1) Ar76.2.2 hin77 hat77 (g := (mkF m 132 #[.val (.long q1), .second, .val (.int p2), .val (.int (p2.toInt8.toInt32)), .val (.ref b1), .unset, .unset] [(.int (6 : Int32)), (.ref b1), (.long (((((r_60 ||| r_63) ||| r_66) ||| r_69) ||| r_72) ||| r_75))])) rfl rfl (hb hby at_132) _ k) ?_
  refine own_go (B := T75.setTop (mkF m 135 #[.val (.long q1), .second, .val (.int p2), .val (.int (p2.toInt8.toInt32)), .val (.ref b1), .unset, .unset] [(.int (8 : Int32)), (.int ((((q1.toUInt64 >>> ((8 : Int32) &&& 0x3f).toInt64.toUInt64).toInt64).toInt32).toInt8.toInt32)), (.long (((((r_60 ||| r_63) ||| r_66) ||| r_69) ||| r_72) ||| r_75))])) (fun _ k => XS.bipush X75.here hx rfl (hb hby at_133) k) ?_
  obtain ⟨_, _, ⟨T78, L78, k78, n78⟩, -, X78, ⟨Lc78, hQ78, l78, y78, z78⟩, st78⟩ := Jvm.LawKit.callS X75 hx (y := (⟨"com/example/kin_bloom/kinbloom/eval/IntegerKeysWritePinLaw", "u", "(BI)J"⟩ : MethodName)) hown (mvT hZ (own_w hw 5 rfl)) (mvT hZ (own_w hw 6 rfl)) (mvT hZ (own_w hw 7 rfl)) (mvT hZ (own_w hw 8 rfl)) (by decide) (backOf (W := 2) (own_u8 l Z a0 hw [] ((((q1.toUInt64 >>> ((8 : Int32) &&& 0x3f).toInt64.toUInt64).toInt64).toInt32).toInt8.toInt32) T54.heap n0 (Nat.le_trans Z0 K57.1) ) hZ (own_w hw 8 rfl) (own_w hw 7 rfl) (by decide) (by decide)) (g := (mkF m 135 #[.val (.long q1), .second, .val (.int p2), .val (.int (p2.toInt8.toInt32)), .val (.ref b1), .unset, .unset] [(.int (8 : Int32)), (.int ((((q1.toUInt64 >>> ((8 : Int32) &&& 0x3f).toInt64.toUInt64).toInt64).toInt32).toInt8.toInt32)), (.long (((((r_60 ||| r_63) ||| r_66) ||| r_69) ||| r_72) ||| r_75))])) rfl (by rw [hml]; rfl) (argsL := [(.int ((((q1.toUInt64 >>> ((8 : Int32) &&& 0x3f).toInt64.toUInt64).toInt64).toInt32).toInt8.toInt32)), (.int (8 : Int32))]) (rest := [(.long (((((r_60 ||| r_63) ||| r_66) ||| r_69) ||| r_72) ||| r_75))]) (lenOf own_pd1 rfl) rfl (by show 2 * 0 + _ ≤ _; exact Nat.le_of_eq rfl) (hb hby at_135) (fun _ _ => ⟨rfl, e75, (by decide : 1 + 0 ≤ _), (by decide : 10 + 0 ≤ _)⟩)
  dsimp only [Pt.U, Pt.locs, Pt.cells, Pt.slots] at X78 l78 y78 z78 st78 hQ78
  subst l78 y78 z78
  obtain ⟨r_78, rfl, N78q, e78, x78_0⟩ := hQ78
  have N78 := Fr.app N75 N78q
  refine own_go (B := T78.setTop (mkF m 138 #[.val (.long q1), .second, .val (.int p2), .val (.int (p2.toInt8.toInt32)), .val (.ref b1), .unset, .unset] [(.long r_78), (.long (((((r_60 ||| r_63) ||| r_66) ||| r_69) ||| r_72) ||| r_75))])) st78 ?_
  refine own_go (B := T78.setTop (mkF m 139 #[.val (.long q1), .second, .val (.int p2), .val (.int (p2.toInt8.toInt32)), .val (.ref b1), .unset, .unset] [(.long ((((((r_60 ||| r_63) ||| r_66) ||| r_69) ||| r_72) ||| r_75) ||| r_78))])) (fun _ k => XS.lor X78.here hx rfl (hb hby at_138) rfl k) ?_
  refine own_go (B := T78.setTop (mkF m 141 #[.val (.long q1), .second, .val (.int p2), .val (.int (p2.toInt8.toInt32)), .val (.ref b1), .unset, .unset] [(.ref b1), (.long ((((((r_60 ||| r_63) ||| r_66) ||| r_69) ||| r_72) ||| r_75) ||| r_78))])) (fun _ k => XS.aload X78.here hx rfl (hb hby at_139) rfl rfl k) ?_
  refine own_go (B := T78.setTop (mkF m 143 #[.val (.long q1), .second, .val (.int p2), .val (.int (p2.toInt8.toInt32)), .val (.ref b1), .unset, .unset] [(.int (7 : Int32)), (.ref b1), (.long ((((((r_60 ||| r_63) ||| r_66) ||| r_69) ||| r_72) ||| r_75) ||| r_78))])) (fun _ k => XS.bipush X78.here hx rfl (hb hby at_141) k) ?_
  obtain ⟨cl79, Ar79, q79, S79, N79n, H79, G79⟩ := id Q54_0
  have hin80 : ¬ ((7 : Int32) < 0 ∨ cl79.slots.size ≤ ((7 : Int32)).toNatClampNeg) := inb_of S79 ⟨by decide, by decide⟩
  have hat80 : cl79.slots[((7 : Int32)).toNatClampNeg]? = some (.int ((q1.toInt32).toInt8.toInt32)) := H79.at hin80 rfl
  refine own_go (B := T78.setTop (mkF m 144 #[.val (.long q1), .second, .val (.int p2), .val (.int (p2.toInt8.toInt32)), .val (.ref b1), .unset, .unset] [(.int ((q1.toInt32).toInt8.toInt32)), (.long ((((((r_60 ||| r_63) ||| r_66) ||| r_69) ||| r_72) ||| r_75) ||| r_78))])) (fun _ k => X78.baloadBytes hx (j := (7 : Int32)) (v := (.int ((q1.toInt32).toInt8.toInt32))) (own_hc e78 Ar79.1) (State.isArrayOf_alike hZ.alike Ar79.2.1) Ar79.2.2 hin80 hat80 (g := (mkF m 143 #[.val (.long q1), .second, .val (.int p2), .val (.int (p2.toInt8.toInt32)), .val (.ref b1), .unset, .unset] [(.int (7 : Int32)), (.ref b1), (.long ((((((r_60 ||| r_63) ||| r_66) ||| r_69) ||| r_72) ||| r_75) ||| r_78))])) rfl rfl (hb hby at_143) _ k) ?_
  refine own_go (B := T78.setTop (mkF m 145 #[.val (.long q1), .second, .val (.int p2), .val (.int (p2.toInt8.toInt32)), .val (.ref b1), .unset, .unset] [(.int (0 : Int32)), (.int ((q1.toInt32).toInt8.toInt32)), (.long ((((((r_60 ||| r_63) ||| r_66) ||| r_69) ||| r_72) ||| r_75) ||| r_78))])) (fun _ k => XS.iconst X78.here hx rfl (hb hby at_144) k) ?_
  obtain ⟨_, _, ⟨T81, L81, k81, n81⟩, -, X81, ⟨Lc81, hQ81, l81, y81, z81⟩, st81⟩ := Jvm.LawKit.callS X78 hx (y := (⟨"com/example/kin_bloom/kinbloom/eval/IntegerKeysWritePinLaw", "u", "(BI)J"⟩ : MethodName)) hown (mvT hZ (own_w hw 5 rfl)) (mvT hZ (own_w hw 6 rfl)) (mvT hZ (own_w hw 7 rfl)) (mvT hZ (own_w hw 8 rfl)) (by decide) (backOf (W := 2) (own_u0 l Z a0 hw [] ((q1.toInt32).toInt8.toInt32) T54.heap n0 (Nat.le_trans Z0 K57.1) ) hZ (own_w hw 8 rfl) (own_w hw 7 rfl) (by decide) (by decide)) (g := (mkF m 145 #[.val (.long q1), .second, .val (.int p2), .val (.int (p2.toInt8.toInt32)), .val (.ref b1), .unset, .unset] [(.int (0 : Int32)), (.int ((q1.toInt32).toInt8.toInt32)), (.long ((((((r_60 ||| r_63) ||| r_66) ||| r_69) ||| r_72) ||| r_75) ||| r_78))])) rfl (by rw [hml]; rfl) (argsL := [(.int ((q1.toInt32).toInt8.toInt32)), (.int (0 : Int32))]) (rest := [(.long ((((((r_60 ||| r_63) ||| r_66) ||| r_69) ||| r_72) ||| r_75) ||| r_78))]) (lenOf own_pd1 rfl) rfl (by show 2 * 0 + _ ≤ _; exact Nat.le_of_eq rfl) (hb hby at_145) (fun _ _ => ⟨rfl, e78, (by decide : 1 + 0 ≤ _), (by decide : 10 + 0 ≤ _)⟩)
  dsimp only [Pt.U, Pt.locs, Pt.cells, Pt.slots] at X81 l81 y81 z81 st81 hQ81
  subst l81 y81 z81
  obtain ⟨r_81, rfl, N81q, e81, x81_0⟩ := hQ81
  have N81 := Fr.app N78 N81q
  refine own_go (B := T81.setTop (mkF m 148 #[.val (.long q1), .second, .val (.int p2), .val (.int (p2.toInt8.toInt32)), .val (.ref b1), .unset, .unset] [(.long r_81), (.long ((((((r_60 ||| r_63) ||| r_66) ||| r_69) ||| r_72) ||| r_75) ||| r_78))])) st81 ?_
  refine own_go (B := T81.setTop (mkF m 149 #[.val (.long q1), .second, .val (.int p2), .val (.int (p2.toInt8.toInt32)), .val (.ref b1), .unset, .unset] [(.long (((((((r_60 ||| r_63) ||| r_66) ||| r_69) ||| r_72) ||| r_75) ||| r_78) ||| r_81))])) (fun _ k => XS.lor X81.here hx rfl (hb hby at_148) rfl k) ?_
  refine own_go (B := T81.setTop (mkF m 151 #[.val (.long q1), .second, .val (.int p2), .val (.int (p2.toInt8.toInt32)), .val (.ref b1), .val (.long (((((((r_60 ||| r_63) ||| r_66) ||| r_69) ||| r_72) ||| r_75) ||| r_78) ||| r_81)), .second] [])) (fun _ k => XS.lstore X81.here hx rfl (hb hby at_149) rfl (l' := #[.val (.long q1), .second, .val (.int p2), .val (.int (p2.toInt8.toInt32)), .val (.ref b1), .val (.long (((((((r_60 ||| r_63) ||| r_66) ||| r_69) ||| r_72) ||| r_75) ||| r_78) ||| r_81)), .second]) rfl k) ?_
  refine own_go (B := T81.setTop (mkF m 153 #[.val (.long q1), .second, .val (.int p2), .val (.int (p2.toInt8.toInt32)), .val (.ref b1), .val (.long (((((((r_60 ||| r_63) ||| r_66) ||| r_69) ||| r_72) ||| r_75) ||| r_78) ||| r_81)), .second] [(.long (((((((r_60 ||| r_63) ||| r_66) ||| r_69) ||| r_72) ||| r_75) ||| r_78) ||| r_81))])) (fun _ k => XS.lload X81.here hx rfl (hb hby at_151) rfl  k) ?_
  refine own_go (B := T81.setTop (mkF m 154 #[.val (.long q1), .second, .val (.int p2), .val (.int (p2.toInt8.toInt32)), .val (.ref b1), .val (.long (((((((r_60 ||| r_63) ||| r_66) ||| r_69) ||| r_72) ||| r_75) ||| r_78) ||| r_81)), .second] [(.long q1), (.long (((((((r_60 ||| r_63) ||| r_66) ||| r_69) ||| r_72) ||| r_75) ||| r_78) ||| r_81))])) (fun _ k => XS.lloadN X81.here hx rfl (hb hby at_153) rfl  k) ?_
  refine own_go (B := T81.setTop (mkF m 155 #[.val (.long q1), .second, .val (.int p2), .val (.int (p2.toInt8.toInt32)), .val (.ref b1), .val (.long (((((((r_60 ||| r_63) ||| r_66) ||| r_69) ||| r_72) ||| r_75) ||| r_78) ||| r_81)), .second] [(.int (lcmpW (((((((r_60 ||| r_63) ||| r_66) ||| r_69) ||| r_72) ||| r_75) ||| r_78) ||| r_81) q1))])) (fun _ k => XS.lcmp X81.here hx rfl (hb hby at_154) rfl k) ?_
  have hc82 : (((((((r_60 ||| r_63) ||| r_66) ||| r_69) ||| r_72) ||| r_75) ||| r_78) ||| r_81) = q1 := (own_pl_rm0_1 q1 r_60 r_63 r_66 r_69 r_72 r_75 r_78 r_81 x60_0 x63_0 x66_0 x69_0 x72_0 x75_0 x78_0 x81_0)
  refine own_go (B := T81.setTop (mkF m 158 #[.val (.long q1), .second, .val (.int p2), .val (.int (p2.toInt8.toInt32)), .val (.ref b1), .val (.long (((((((r_60 ||| r_63) ||| r_66) ||| r_69) ||| r_72) ||| r_75) ||| r_78) ||| r_81)), .second] [])) (fun _ k => XS.ifNo X81.here hx rfl (hb hby at_155) rfl ((if0 _ _).trans (teq ((lw_eq (((((((r_60 ||| r_63) ||| r_66) ||| r_69) ||| r_72) ||| r_75) ||| r_78) ||| r_81) q1).mpr hc82)).2) k) ?_
  refine own_go (B := T81.setTop (mkF m 160 #[.val (.long q1), .second, .val (.int p2), .val (.int (p2.toInt8.toInt32)), .val (.ref b1), .val (.long (((((((r_60 ||| r_63) ||| r_66) ||| r_69) ||| r_72) ||| r_75) ||| r_78) ||| r_81)), .second] [(.ref b1)])) (fun _ k => XS.aload X81.here hx rfl (hb hby at_158) rfl rfl k) ?_
  refine own_go (B := T81.setTop (mkF m 162 #[.val (.long q1), .second, .val (.int p2), .val (.int (p2.toInt8.toInt32)), .val (.ref b1), .val (.long (((((((r_60 ||| r_63) ||| r_66) ||| r_69) ||| r_72) ||| r_75) ||| r_78) ||| r_81)), .second] [(.int (8 : Int32)), (.ref b1)])) (fun _ k => XS.bipush X81.here hx rfl (hb hby at_160) k) ?_
  obtain ⟨cl83, Ar83, q83, S83, N83n, H83, G83⟩ := id Q54_0
  have hin84 : ¬ ((8 : Int32) < 0 ∨ cl83.slots.size ≤ ((8 : Int32)).toNatClampNeg) := inb_of S83 ⟨by decide, by decide⟩
  have hat84 : cl83.slots[((8 : Int32)).toNatClampNeg]? = some (.int (p2.toInt8.toInt32)) := H83.at hin84 rfl
  refine own_go (B := T81.setTop (mkF m 163 #[.val (.long q1), .second, .val (.int p2), .val (.int (p2.toInt8.toInt32)), .val (.ref b1), .val (.long (((((((r_60 ||| r_63) ||| r_66) ||| r_69) ||| r_72) ||| r_75) ||| r_78) ||| r_81)), .second] [(.int (p2.toInt8.toInt32))])) (fun _ k => X81.baloadBytes hx (j := (8 : Int32)) (v := (.int (p2.toInt8.toInt32))) (own_hc e81 Ar83.1) (State.isArrayOf_alike hZ.alike Ar83.2.1) Ar83.2.2 hin84 hat84 (g := (mkF m 162 #[.val (.long q1), .second, .val (.int p2), .val (.int (p2.toInt8.toInt32)), .val (.ref b1), .val (.long (((((((r_60 ||| r_63) ||| r_66) ||| r_69) ||| r_72) ||| r_75) ||| r_78) ||| r_81)), .second] [(.int (8 : Int32)), (.ref b1)])) rfl rfl (hb hby at_162) _ k) ?_
  refine own_go (B := T81.setTop (mkF m 164 #[.val (.long q1), .second, .val (.int p2), .val (.int (p2.toInt8.toInt32)), .val (.ref b1), .val (.long (((((((r_60 ||| r_63) ||| r_66) ||| r_69) ||| r_72) ||| r_75) ||| r_78) ||| r_81)), .second] [(.int (p2.toInt8.toInt32)), (.int (p2.toInt8.toInt32))])) (fun _ k => XS.iloadN X81.here hx rfl (hb hby at_163) rfl  k) ?_
  refine own_go (B := T81.setTop (mkF m 167 #[.val (.long q1), .second, .val (.int p2), .val (.int (p2.toInt8.toInt32)), .val (.ref b1), .val (.long (((((((r_60 ||| r_63) ||| r_66) ||| r_69) ||| r_72) ||| r_75) ||| r_78) ||| r_81)), .second] [])) (fun _ k => XS.icmpNo X81.here hx rfl (hb hby at_164) rfl (teq (rfl : (p2.toInt8.toInt32) = (p2.toInt8.toInt32))).2 k) ?_
  refine own_go (B := T81.setTop (mkF m 169 #[.val (.long q1), .second, .val (.int p2), .val (.int (p2.toInt8.toInt32)), .val (.ref b1), .val (.long (((((((r_60 ||| r_63) ||| r_66) ||| r_69) ||| r_72) ||| r_75) ||| r_78) ||| r_81)), .second] [(.ref b1)])) (fun _ k => XS.aload X81.here hx rfl (hb hby at_167) rfl rfl k) ?_
  refine own_go (B := T81.setTop (mkF m 171 #[.val (.long q1), .second, .val (.int p2), .val (.int (p2.toInt8.toInt32)), .val (.ref b1), .val (.long (((((((r_60 ||| r_63) ||| r_66) ||| r_69) ||| r_72) ||| r_75) ||| r_78) ||| r_81)), .second] [(.int (9 : Int32)), (.ref b1)])) (fun _ k => XS.bipush X81.here hx rfl (hb hby at_169) k) ?_
  obtain ⟨cl85, Ar85, q85, S85, N85n, H85, G85⟩ := id Q54_0
  have hin86 : ¬ ((9 : Int32) < 0 ∨ cl85.slots.size ≤ ((9 : Int32)).toNatClampNeg) := inb_of S85 ⟨by decide, by decide⟩
  have hat86 : cl85.slots[((9 : Int32)).toNatClampNeg]? = some (.int (p2.toInt8.toInt32)) := H85.at hin86 rfl
  refine own_go (B := T81.setTop (mkF m 172 #[.val (.long q1), .second, .val (.int p2), .val (.int (p2.toInt8.toInt32)), .val (.ref b1), .val (.long (((((((r_60 ||| r_63) ||| r_66) ||| r_69) ||| r_72) ||| r_75) ||| r_78) ||| r_81)), .second] [(.int (p2.toInt8.toInt32))])) (fun _ k => X81.baloadBytes hx (j := (9 : Int32)) (v := (.int (p2.toInt8.toInt32))) (own_hc e81 Ar85.1) (State.isArrayOf_alike hZ.alike Ar85.2.1) Ar85.2.2 hin86 hat86 (g := (mkF m 171 #[.val (.long q1), .second, .val (.int p2), .val (.int (p2.toInt8.toInt32)), .val (.ref b1), .val (.long (((((((r_60 ||| r_63) ||| r_66) ||| r_69) ||| r_72) ||| r_75) ||| r_78) ||| r_81)), .second] [(.int (9 : Int32)), (.ref b1)])) rfl rfl (hb hby at_171) _ k) ?_
  refine own_go (B := T81.setTop (mkF m 173 #[.val (.long q1), .second, .val (.int p2), .val (.int (p2.toInt8.toInt32)), .val (.ref b1), .val (.long (((((((r_60 ||| r_63) ||| r_66) ||| r_69) ||| r_72) ||| r_75) ||| r_78) ||| r_81)), .second] [(.int (p2.toInt8.toInt32)), (.int (p2.toInt8.toInt32))])) (fun _ k => XS.iloadN X81.here hx rfl (hb hby at_172) rfl  k) ?_
  refine own_go (B := T81.setTop (mkF m 176 #[.val (.long q1), .second, .val (.int p2), .val (.int (p2.toInt8.toInt32)), .val (.ref b1), .val (.long (((((((r_60 ||| r_63) ||| r_66) ||| r_69) ||| r_72) ||| r_75) ||| r_78) ||| r_81)), .second] [])) (fun _ k => XS.icmpNo X81.here hx rfl (hb hby at_173) rfl (teq (rfl : (p2.toInt8.toInt32) = (p2.toInt8.toInt32))).2 k) ?_
  refine own_go (B := T81.setTop (mkF m 177 #[.val (.long q1), .second, .val (.int p2), .val (.int (p2.toInt8.toInt32)), .val (.ref b1), .val (.long (((((((r_60 ||| r_63) ||| r_66) ||| r_69) ||| r_72) ||| r_75) ||| r_78) ||| r_81)), .second] [(.int (1 : Int32))])) (fun _ k => XS.iconst X81.here hx rfl (hb hby at_176) k) ?_
  refine own_go (B := T81.setTop (mkF m 181 #[.val (.long q1), .second, .val (.int p2), .val (.int (p2.toInt8.toInt32)), .val (.ref b1), .val (.long (((((((r_60 ||| r_63) ||| r_66) ||| r_69) ||| r_72) ||| r_75) ||| r_78) ||| r_81)), .second] [(.int (1 : Int32))])) (fun _ k => XS.goto X81.here hx rfl (pc0 := 177) (pc' := 181) rfl (hb hby at_177) (by decide) (by decide) k) ?_
  exact own_retN X81 hx Bd.notSynchronized (t := .boolean) (w := (1 : Int32)) Bd.returns (by simp) (hb hby at_181) e81 rfl ⟨rfl, N81, K57⟩ (by decide) (by decide)
set_option maxRecDepth 65536 in
set_option maxHeartbeats 40000000 in
theorem comes_1 {Post : Tables → Env → Array Value → State → Outcome → State → Prop} (hpost : ∀ tb e args s v u, (limb_1_1.after args s (.returned v) u = true ∧ limb_1_2.after args s (.returned v) u = true ∧ True) → FrameEnd s (.returned v) u (Jvm.fieldLocs frame_1_writes args s ++ Jvm.arrayLocs frame_1_arrays args s ++ Jvm.staticLocs frame_1_statics s) 16 128 → Post tb e args s (.returned v) u) :
    ArmFor flags0 classFile x code maxLocals ret World_1 tables_1 room_1 Calls_1 rest_1 Pre_1 Post := by
  intro l hfl _ _ p e ha hc hk s m args below hf hA hF happ hP
  obtain ⟨hcalls, hrest, hpre⟩ := hP
  obtain ⟨-, -, -, hnamed, -, -, -, hat⟩ := (Spec.applies_iff hf).mp happ
  obtain ⟨hg, hn⟩ := and_e (Cond.before_iff.mp (show (Jvm.Cond.and given_1 narrow_1).before args s = true from hpre))
  obtain ⟨gg1, gg2⟩ := and_e hg
  obtain ⟨gg3, gg4⟩ := and_e gg2
  obtain ⟨w0, w1, rfl⟩ : ∃ w0 w1 : Value, args = #[w0, w1] := by
    have hs : args.size = 2 := by simpa [Cond.value, given_1] using gg1
    obtain ⟨L⟩ := args
    match L, hs with
    | [w0, w1], _ => exact ⟨w0, w1, rfl⟩
  have hw := fun d (hd : d ∈ tables_1) => atoms_spec (ws := Jvm.Cond.code x code maxLocals ret :: tables_1) hat d (List.mem_cons_of_mem _ hd)
  have hfit : Fit s := fun {y c} hc i hi => by
    obtain ⟨ha, rfl⟩ := Array.getElem?_eq_some_iff.mp hc
    have q := List.all_eq_true.mp ((Array.all_eq_true_iff_forall_mem.mp hF) _ (Array.getElem_mem ha)) i (List.mem_range.mpr hi)
    simpa [Array.getElem?_eq_getElem hi] using q
  obtain ⟨i0, ei0⟩ := isL_v gg3
  obtain rfl : w0 = (.long i0) := Option.some.inj ei0
  obtain ⟨i1, ei1⟩ := is_v gg4
  obtain rfl : w1 = (.int i1) := Option.some.inj ei1
  obtain ⟨n, o, h1, h2, h3, _, L, rfl, ⟨rfl, N, _⟩, hq⟩ := own_rm0 l s _ hw tables_1 i0 i1 s.heap s.heap.size (Nat.le_refl _)  p e ha hc hk s m _ below hf ((Spec.applies_iff_loose hf).mp happ).1 ⟨rfl, State.Warmed39.refl s, rfl⟩ trivial
  refine ⟨n, _, h1, h2, h3, hpost _ _ _ _ _ _ ⟨Cond.after_iff.mpr rfl, Cond.after_iff.mpr (eq_i res_at (Term.int_eval (1)) rfl), trivial⟩ ⟨hq.1, hq.2.1, (hq.2.2.sift fun y hy => Or.inr (N y hy)).mono (by decide) (by decide)⟩⟩
theorem main_1_1 : Claimed_1_1 := comes_1 fun _ _ _ _ _ _ h hF => ⟨h.1, hF⟩
theorem main_1_2 : Claimed_1_2 := comes_1 fun _ _ _ _ _ _ h hF => ⟨h.2.1, hF⟩
end Jvm.Pilot.@@N@@
namespace Jvm.Pilot.@@N@@
open Jvm Jvm.ClassFile Sem Op Lib Jvm.Free Jvm.Stand Jvm.Pilot.@@N@@.Jvm.D
/-! MADE BY PROGRAM (witnessworld.py) out of the Statement's table words and the real class files: 9 classes; the members and pool entries that the words name. The judged class is class 1, her method 2. -/
namespace start1
open Jvm.ClassFile
def u (s : String) : CpInfo := .utf8 (stringToUtf16 s)
/-- a pool by its gaps: so many unusable entries, then the entry; so many at the end -/
def gap : Nat → List CpInfo → List CpInfo
  | 0, r => r
  | n + 1, r => .unusable :: gap n r
def poolList (es : List (Nat × CpInfo)) (last : Nat) : List CpInfo := es.foldr (fun e r => gap e.1 (e.2 :: r)) (gap last [])
def pool (es : List (Nat × CpInfo)) (last : Nat) : Array CpInfo := ⟨poolList es last⟩
def fileOf (pool : Array CpInfo) (this : Nat) (attrs : Array Attribute := #[]) (ms : Array MethodInfo := #[]) (fl : Nat := 33) (sup : Nat := 0) (ifs : Array Nat := #[]) (fds : Array FieldInfo := #[]) : ClassFile where
  minorVersion := 0
  majorVersion := 65
  constantPool := pool
  accessFlags := fl
  thisClass := this
  superClass := sup
  interfaces := ifs
  fields := fds
  methods := ms
  attributes := attrs
def plain (name : String) (sup : Option ClassId) : Class where
  name := name
  kind := .ordinary
  loader := none
  accessFlags := 33
  super := sup
  interfaces := #[]
  cf := none
  fields := #[]
  methods := #[]
  instanceTypes := #[]
  staticTypes := #[]
  resolved := #[]
  callSites := []
  init := .initialized
  statics := none
  mirror := none

def pool0 : Array CpInfo := pool [(5, u "<init>"), (0, u "()V"), (1, .class_ 10), (1, u "java/lang/Object")] 113

def k0m0 : Method := { name := "<init>", desc := "()V", sig := { parameters := [], returnType := none }, accessFlags := 1, code := none }
/-- java/lang/Object -/
def k0 : Class := { plain "java/lang/Object" none with
  accessFlags := 33
  interfaces := #[]
  cf := some (fileOf pool0 8 #[] #[{ accessFlags := 1, nameIndex := 5, descriptorIndex := 6, attributes := #[] }] 33 0 #[] #[])
  fields := #[]
  methods := #[k0m0]
  instanceTypes := #[]
  staticTypes := #[]
  resolved := Array.replicate 124 none
  statics := none }

def pool1 : Array CpInfo := pool [(2, .class_ 4), (1, u "java/lang/Object"), (0, u "<init>"), (0, u "()V"), (0, .methodref 8 9), (0, .class_ 10), (0, .nameAndType 11 12), (0, u "com/example/kin_bloom/kinbloom/eval/IntegerKeys"), (0, u "write"), (0, u "(J[B)V"), (0, .methodref 14 15), (0, .class_ 16), (0, .nameAndType 17 18), (0, u "com/example/kin_bloom/kinbloom/eval/IntegerKeysWritePinLaw"), (0, u "u"), (0, u "(BI)J"), (2, u "law"), (0, u "(JI)Z")] 5

def k1m0 : Method := { name := "<init>", desc := "()V", sig := { parameters := [], returnType := none }, accessFlags := 2, code := none }
def k1c1 : Code := { maxStack := 3, maxLocals := 2, code := method_2_code, exceptionTable := #[], attributes := #[] }
def k1m1 : Method := { name := "u", desc := "(BI)J", sig := { parameters := [.byte, .int], returnType := some .long }, accessFlags := 10, code := some k1c1 }
def k1c2 : Code := { maxStack := 4, maxLocals := 7, code := code, exceptionTable := #[], attributes := #[] }
def k1m2 : Method := { name := "law", desc := "(JI)Z", sig := { parameters := [.long, .int], returnType := some .boolean }, accessFlags := 9, code := some k1c2 }
/-- com/example/kin_bloom/kinbloom/eval/IntegerKeysWritePinLaw -/
def k1 : Class := { plain "com/example/kin_bloom/kinbloom/eval/IntegerKeysWritePinLaw" (some 0) with
  accessFlags := 49
  interfaces := #[]
  cf := some (fileOf pool1 14 #[] #[{ accessFlags := 2, nameIndex := 5, descriptorIndex := 6, attributes := #[] }, { accessFlags := 10, nameIndex := 17, descriptorIndex := 18, attributes := #[] }, { accessFlags := 9, nameIndex := 21, descriptorIndex := 22, attributes := #[] }] 49 2 #[] #[])
  fields := #[]
  methods := #[k1m0, k1m1, k1m2]
  instanceTypes := #[]
  staticTypes := #[]
  resolved := Array.replicate 28 none
  statics := none }

def pool2 : Array CpInfo := pool [(4, .class_ 6), (1, u "java/lang/Object"), (0, u "<init>"), (0, u "()V"), (0, .class_ 10), (0, u "com/example/kin_bloom/kinbloom/eval/IntegerKeys"), (2, u "write"), (0, u "(J[B)V"), (0, u "KEY_BYTES"), (0, u "I")] 9

def k2m0 : Method := { name := "<init>", desc := "()V", sig := { parameters := [], returnType := none }, accessFlags := 2, code := none }
def k2c1 : Code := { maxStack := 4, maxLocals := 4, code := prog_26_method_3_code, exceptionTable := #[], attributes := #[] }
def k2m1 : Method := { name := "write", desc := "(J[B)V", sig := { parameters := [.long, (.array .byte)], returnType := none }, accessFlags := 8, code := some k2c1 }
/-- com/example/kin_bloom/kinbloom/eval/IntegerKeys -/
def k2 : Class := { plain "com/example/kin_bloom/kinbloom/eval/IntegerKeys" (some 0) with
  accessFlags := 48
  interfaces := #[]
  cf := some (fileOf pool2 9 #[] #[{ accessFlags := 2, nameIndex := 7, descriptorIndex := 8, attributes := #[] }, { accessFlags := 8, nameIndex := 13, descriptorIndex := 14, attributes := #[] }] 48 4 #[] #[{ accessFlags := 24, nameIndex := 15, descriptorIndex := 16, attributes := #[] }])
  fields := #[{ name := "KEY_BYTES", type := .int, accessFlags := 24, slot := 0, constantValue := 0 }]
  methods := #[k2m0, k2m1]
  instanceTypes := #[]
  staticTypes := #[.int]
  resolved := Array.replicate 26 none
  statics := none }

def pool3 : Array CpInfo := pool [(1, u "java/lang/Cloneable"), (0, .class_ 1), (0, u "java/lang/Object"), (0, .class_ 3)] 3

/-- java/lang/Cloneable -/
def k3 : Class := { plain "java/lang/Cloneable" (some 0) with
  accessFlags := 1537
  interfaces := #[]
  cf := some (fileOf pool3 2 #[] #[] 1537 4 #[] #[])
  fields := #[]
  methods := #[]
  instanceTypes := #[]
  staticTypes := #[]
  resolved := Array.replicate 8 none
  statics := none }

def pool4 : Array CpInfo := pool [(1, u "java/io/Serializable"), (0, .class_ 1), (0, u "java/lang/Object"), (0, .class_ 3)] 3

/-- java/io/Serializable -/
def k4 : Class := { plain "java/io/Serializable" (some 0) with
  accessFlags := 1537
  interfaces := #[]
  cf := some (fileOf pool4 2 #[] #[] 1537 4 #[] #[])
  fields := #[]
  methods := #[]
  instanceTypes := #[]
  staticTypes := #[]
  resolved := Array.replicate 8 none
  statics := none }

/-- the primitive byte -/
def k5 : Class := { plain "byte" none with kind := .primitive 'B', accessFlags := 0x411 }
/-- [B -/
def k6 : Class := { plain "[B" (some 0) with kind := .array 5 .byte, interfaces := #[3, 4], accessFlags := 1041 }

/-- the primitive int -/
def k7 : Class := { plain "int" none with kind := .primitive 'I', accessFlags := 0x411 }
/-- [I -/
def k8 : Class := { plain "[I" (some 0) with kind := .array 7 .int, interfaces := #[3, 4], accessFlags := 1041 }

def heap : Heap := #[]
def classes : Array Class := #[k0, k1, k2, k3, k4, k5, k6, k7, k8]
def interned : List (Array UInt16 × Addr) := []
def slotsUsed : Nat := 0
def theMethod : MethodId := ⟨1, 2⟩
def args0 : Array Value := #[.long 5, .int 5]
def aboutOver (below : List Frame) : State where
  vm := { classes := classes, interned := interned.toArray }
  heap := heap
  slotsUsed := slotsUsed
  threads := #[{ frames := .invoking theMethod args0 :: below }]
def below0 : List Frame := [.native { method := ⟨0, 0⟩, args := #[] }]
def about1 : State := aboutOver below0
def p0 : Program := .bare "" "" ""
def e0 : Env := launch0.env 0 0 0
theorem w_frames : about1.frames = Frame.invoking theMethod args0 :: below0 := rfl
set_option maxRecDepth 65536 in
theorem w_args : argsFit about1.vm theMethod args0 = true := by decide +kernel
set_option maxRecDepth 65536 in
theorem w_heap : heapFits about1 = true := by decide +kernel
set_option maxRecDepth 65536 in
theorem w_runnable : about1.curStatus? = some .runnable := by decide +kernel
set_option maxRecDepth 65536 in
theorem w_alone : about1.alone = true := by decide +kernel
set_option maxRecDepth 65536 in
theorem w_named : about1.methodNamed? x = some theMethod := by decide +kernel
set_option maxRecDepth 65536 in
theorem w_hears : about1.hears theMethod below0 = true := by decide +kernel
set_option maxRecDepth 65536 in
theorem w_ripe : about1.ripe theMethod args0 below0 = true := by decide +kernel
theorem w_running : about1.status = .running := rfl
set_option maxRecDepth 65536 in
theorem w_room : about1.hasRoom e0.platform room_1 = true :=
  launch0.hasRoom_least _ room_1 (by decide +kernel) (by decide +kernel) (by decide +kernel) (by decide +kernel) (by decide +kernel) (by decide +kernel)
theorem allAtoms_all (ts : List Jvm.Cond) (a : Array Jvm.Value) (st : Jvm.State) : (allAtoms ts).before a st = ts.all (fun c => c.before a st) := by
  induction ts with
  | nil => rfl
  | cons c t ih =>
    show (Jvm.Cond.and c (allAtoms t)).before a st = _
    rw [Jvm.Cond.before_and, ih, List.all_cons]
def words1 : List Jvm.Cond := Jvm.Cond.code x code maxLocals ret :: tables_1
/-- a 'code' word, met by the world's own term for the bytes: nothing is compared byte by byte -/
theorem code_word {y : MethodName} {bytes : ByteArray} {mx : Nat} {rt : Option FieldType} {a : Array Value} {s : State} {m : MethodId} {meth : Method} {c : Code} (h1 : s.methodNamed? y = some m) (h2 : s.vm.method? m = some meth) (h3 : meth.code = some c) (h4 : c.code = bytes)
    (h5 : (c.maxLocals == mx && c.exceptionTable.isEmpty && decide (c.maxStack ≤ mostOperands) && decide (meth.sig.returnType = rt) && !meth.locks && decide (parseMethodDescriptor y.desc = some meth.sig)) = true) : (Jvm.Cond.code y bytes mx rt).before a s = true := by
  simp only [Bool.and_eq_true, beq_iff_eq, Bool.not_eq_true', decide_eq_true_eq] at h5
  obtain ⟨⟨⟨⟨⟨g1, g2⟩, g3⟩, g4⟩, g5⟩, g6⟩ := h5
  simp [Cond.before, Cond.holds, Cond.value, h1, h2, h3, h4, g1, g2, g3, g4, g5, g6]
def isCode : Jvm.Cond → Bool
  | .code _ _ _ _ => true
  | _ => false
theorem all_split {L : List Jvm.Cond} {P : Jvm.Cond → Bool} (h1 : L.all (fun c => isCode c || P c) = true) (h2 : ∀ c ∈ L.filter isCode, P c = true) : L.all P = true := by
  refine List.all_eq_true.mpr fun c hc => ?_
  have h := List.all_eq_true.mp h1 c hc
  rcases Bool.eq_false_or_eq_true (isCode c) with hi | hi
  · exact h2 c (List.mem_filter.mpr ⟨hc, hi⟩)
  · simpa [hi] using h
set_option maxRecDepth 65536 in
theorem w_c0 : (Jvm.Cond.code x code maxLocals ret).before args0 about1 = true := code_word (m := ⟨1, 2⟩) (meth := k1m2) (c := k1c2) (by decide +kernel) rfl rfl rfl (by decide +kernel)
set_option maxRecDepth 65536 in
theorem w_c1 : (Jvm.Cond.code ({ cls := "com/example/kin_bloom/kinbloom/eval/IntegerKeys", name := "write", desc := "(J[B)V" } : Jvm.MethodName) prog_26_method_3_code (4 : Nat) (Option.none : Option Jvm.ClassFile.FieldType)).before args0 about1 = true := code_word (m := ⟨2, 1⟩) (meth := k2m1) (c := k2c1) (by decide +kernel) rfl rfl rfl (by decide +kernel)
set_option maxRecDepth 65536 in
theorem w_c2 : (Jvm.Cond.code ({ cls := "com/example/kin_bloom/kinbloom/eval/IntegerKeysWritePinLaw", name := "u", desc := "(BI)J" } : Jvm.MethodName) method_2_code (2 : Nat) (Option.some Jvm.ClassFile.FieldType.long)).before args0 about1 = true := code_word (m := ⟨1, 1⟩) (meth := k1m1) (c := k1c1) (by decide +kernel) rfl rfl rfl (by decide +kernel)
def codes1 : List Jvm.Cond := [Jvm.Cond.code x code maxLocals ret, Jvm.Cond.code ({ cls := "com/example/kin_bloom/kinbloom/eval/IntegerKeys", name := "write", desc := "(J[B)V" } : Jvm.MethodName) prog_26_method_3_code (4 : Nat) (Option.none : Option Jvm.ClassFile.FieldType), Jvm.Cond.code ({ cls := "com/example/kin_bloom/kinbloom/eval/IntegerKeysWritePinLaw", name := "u", desc := "(BI)J" } : Jvm.MethodName) method_2_code (2 : Nat) (Option.some Jvm.ClassFile.FieldType.long)]
set_option maxRecDepth 65536 in
theorem codes_eq : words1.filter isCode = codes1 := rfl
theorem w_codes : ∀ c ∈ words1.filter isCode, c.before args0 about1 = true := by
  rw [codes_eq]
  intro c hc
  simp only [codes1, List.mem_cons, List.not_mem_nil, or_false] at hc
  rcases hc with rfl | rfl | rfl
  · exact w_c0
  · exact w_c1
  · exact w_c2
set_option maxRecDepth 65536 in
theorem w_t1 : words1.all (fun c => isCode c || c.before args0 about1) = true := by decide +kernel
theorem w_tables : (allAtoms (Jvm.Cond.code x code maxLocals ret :: tables_1)).before args0 about1 = true := by
  rw [allAtoms_all]
  show words1.all (fun c => c.before args0 about1) = true
  refine all_split ?_ w_codes
  rw [w_t1]
set_option maxRecDepth 65536 in
theorem w_case : (Jvm.Cond.and given_1 narrow_1).before args0 about1 = true := by decide +kernel
theorem w_applies : (headSpec (Jvm.Cond.code x code maxLocals ret :: tables_1) room_1).applies x e0.platform about1 = true :=
  (Spec.applies_iff w_frames).mpr ⟨w_running, w_runnable, w_alone, w_named, w_hears, w_ripe, w_room, w_tables⟩
theorem atStart : AtStart classFile x code maxLocals ret World_1 tables_1 room_1 Calls_1 rest_1 Pre_1 launch0 p0 e0 about1 theMethod args0 below0 :=
  ⟨lists_1, trivial, launch0.admits_env _ _ _, launch0.least_env, fairChoices_fair.cas, fairChoices_fair.clock, w_frames, w_args, w_heap, w_applies, trivial, trivial, w_case⟩
end start1
theorem witness_1 : WitnessClaimed_1 := ⟨start1.p0, start1.e0, start1.about1, start1.theMethod, start1.args0, start1.below0, start1.atStart⟩
end Jvm.Pilot.@@N@@
