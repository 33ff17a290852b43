import JvmDerived
import JvmDerived.Pilot.@@N@@Statement
import JvmDerived.Pilot.@@N@@Code
set_option linter.unusedVariables false
set_option linter.unusedSimpArgs false
@@BLOCK:NumsL.lean.txt@@
namespace Jvm.Pilot.@@N@@
open Jvm Jvm.ClassFile Sem Op Lib Jvm.Free Jvm.Stand Jvm.LawKit Jvm.RoadKit Bundle Jvm.Pilot.@@N@@.Jvm.D
section OwnKit
theorem own_w {Z : State} {a0 : Array Value} (hw : ∀ d ∈ tables_1, d.before a0 Z = true) {d : Jvm.Cond} (i : Nat) (h : tables_1[i]? = some d) : d.before a0 Z = true := hw d (List.mem_of_getElem? h)
theorem own_narb (x : Int32) : nar .byte (x.toInt8.toInt32) = x.toInt8.toInt32 := by
  show (x.toInt8.toInt32).toInt8.toInt32 = x.toInt8.toInt32
  rw [Int8.toInt8_toInt32]
theorem own_narc (x : Int32) : nar .char (x.toUInt32.toUInt16.toUInt32.toInt32) = x.toUInt32.toUInt16.toUInt32.toInt32 := by
  show (x.toUInt32.toUInt16.toUInt32.toInt32).toUInt32.toUInt16.toUInt32.toInt32 = _
  have : (x.toUInt32.toUInt16.toUInt32.toInt32).toUInt32 = x.toUInt32.toUInt16.toUInt32 := rfl
  rw [this]
  have : x.toUInt32.toUInt16.toUInt32.toUInt16 = x.toUInt32.toUInt16 := by rw [← UInt16.toNat_inj]; simp
  rw [this]
theorem own_plain {Z : State} {h : Heap} {a : Addr} {C : String} (F : Exa Z h a C) : ∃ c : Cell, h[a]? = some c ∧ c.vm.isStatics = false := by
  obtain ⟨c, _, h1, -, -, h4, -⟩ := F; exact ⟨c, h1, h4⟩
theorem own_plainV {Z : State} {h : Heap} {a : Addr} {k : ClassId} {ty : FieldType} {z : Int32} {vs : List Value} {d : Value} (F : Arv Z h a k ty z vs d) : ∃ c : Cell, h[a]? = some c ∧ c.vm.isStatics = false := by
  obtain ⟨c, A, -⟩ := F; exact ⟨c, A.1, A.plain⟩
theorem own_Sta_keep {Z : State} {h h' : Heap} {C n d : String} {v : Value} {ws : List Addr} (F : Sta Z h C n d v) (K : Keep h h' ws) (q : ∀ a ∈ ws, ∃ c : Cell, h[a]? = some c ∧ c.vm.isStatics = false) : Sta Z h' C n d v := by
  obtain ⟨cf, i, k, f, st, cell, h1, h2, h3, h4, h5, h6, h7⟩ := F
  have ne : st ∉ ws := fun hm => by
    obtain ⟨c, g1, g2⟩ := q st hm
    cases h5.symm.trans g1
    rw [h6] at g2; cases g2
  exact ⟨cf, i, k, f, st, cell, h1, h2, h3, h4, K.2.1 _ _ h5 ne, h6, h7⟩
theorem own_NSroot {Z : State} {a0 : Array Value} {O K : String} {j : Nat} (w : (Cond.noSuperclass O).before a0 Z = true) (wk : (Cond.instantiable K j).before a0 Z = true) (hn : O ≠ K) : NS Z O K := by
  obtain ⟨c, k, h1, h2, h3, -⟩ := Cond.noSuperclass_spec w
  obtain ⟨t, kt, g1, -⟩ := Cond.instantiable_spec wk
  refine ⟨c, t, h1, g1, fun fuel => ?_⟩
  cases fuel with
  | zero => rfl
  | succ f => simp [Vm.isSubclassAux, ids_ne h1 g1 hn, h2, h3]
theorem own_NSno {Z : State} {a0 : Array Value} {C S K : String} {j : Nat} (w : (Cond.superclass C S).before a0 Z = true) (wk : (Cond.instantiable K j).before a0 Z = true) (q : NS Z C K) (hn : C ≠ K) : ∃ c t, Z.vm.findClass C = some c ∧ Z.vm.findClass K = some t ∧ Z.vm.assignable c t = false := by
  obtain ⟨c, t, h0, g0, n3⟩ := q
  obtain ⟨_, k, _, _, h2, _, _, h5, -⟩ := Cond.superclass_spec h0 w
  obtain ⟨t', kt, g1, g2, g5, g7, -⟩ := Cond.instantiable_spec wk
  cases g0.symm.trans g1
  have g8 : kt.isInterface = false := by simpa using (Bool.or_eq_false_iff.mp g7).1
  refine ⟨c, t, h0, g0, ?_⟩
  show Z.vm.assignableAux (255 + 1) c t = false
  simp [Vm.assignableAux, ids_ne h0 g0 hn, h2, g2, h5, g5, g8, Vm.isSubclass, n3]
theorem own_hc {T : State} {h : Heap} {a : Addr} {c : Cell} (e : T.heap = h) (q : h[a]? = some c) : T.heap[a]? = some c := by subst e; exact q
def own_b (P : Prop) [Decidable P] : Int32 := if P then 1 else 0
theorem own_b1 {P : Prop} [Decidable P] (h : P) : own_b P = 1 := if_pos h
theorem own_b0 {P : Prop} [Decidable P] (h : ¬ P) : own_b P = 0 := if_neg h
variable {p : Program} {l : Launch} {e : Env} {R : Room} {s : State} {m : MethodId} {args : Array Value} {below : List Frame} {meth : Method} {c : Code} {T : State} {locs : List Loc} {cells slots : Nat}
def own_Fin (p : Program) (e : Env) (below : List Frame) (s : State) (Q : Option Value → Heap → List Loc → Prop) (k n : Nat) (A : State) : Prop := ∃ s₂ o, Steps p.tables e below A s₂ ∧ s₂.status = .running ∧ Ended s₂ below o ∧ ∃ v L, o = .returned v ∧ Q v s₂.heap L ∧ FrameEnd s o s₂ L k n
theorem own_go {Q : Option Value → Heap → List Loc → Prop} {k n : Nat} {A B : State} (h : ∀ t, Steps p.tables e below B t → Steps p.tables e below A t) (q : own_Fin p e below s Q k n B) : own_Fin p e below s Q k n A := by
  obtain ⟨s₂, o, h1, h2⟩ := q
  exact ⟨s₂, o, h _ h1, h2⟩
theorem own_retN {Q : Option Value → Heap → List Loc → Prop} {k n : Nat} (X : Stand p l e R s m args below meth c T locs cells slots) (hx : p.tables.exec = Jvm.exec) (hlk : meth.locks = false) {pc : Nat} {Ls : Array Slot} {z w : Int32} {t : FieldType} {rest : List Value} (hret : meth.sig.returnType = some t) (ht : t = .boolean ∨ t = .byte ∨ t = .char ∨ t = .short)
    (hd : decode c.code pc = .ok (.ireturn, 1)) {h : Heap} (eT : T.heap = h) (hz : nar t z = w) (hQ : Q (some (.int w)) h locs) (hk : cells ≤ k) (hn : slots ≤ n) : own_Fin p e below s Q k n (T.setTop (mkF m pc Ls (.int z :: rest))) := by
  subst hz eT
  obtain ⟨fs, hr, hrun, hended, hW, hsame⟩ := X.leave (v := some (.int (nar t z))) (fun h => by rw [hret] at h; cases h) hlk
  exact ⟨_, _, retN X hx hret ht hd hr, hrun, hended, _, _, rfl, hQ, ⟨_, rfl⟩, hW, hsame.mono hk hn⟩
theorem own_retI {Q : Option Value → Heap → List Loc → Prop} {k n : Nat} (X : Stand p l e R s m args below meth c T locs cells slots) (hx : p.tables.exec = Jvm.exec) (hlk : meth.locks = false) {pc : Nat} {Ls : Array Slot} {z : Int32} {rest : List Value} (hret : meth.sig.returnType = some .int)
    (hd : decode c.code pc = .ok (.ireturn, 1)) {h : Heap} (eT : T.heap = h) (hQ : Q (some (.int z)) h locs) (hk : cells ≤ k) (hn : slots ≤ n) : own_Fin p e below s Q k n (T.setTop (mkF m pc Ls (.int z :: rest))) := by
  subst eT
  obtain ⟨fs, hr, hrun, hended, hW, hsame⟩ := X.leave (v := some (.int z)) (fun h => by rw [hret] at h; cases h) hlk
  exact ⟨_, _, retOut X hx hret rfl (Or.inl ⟨rfl, Or.inl rfl, z, rfl⟩) hd hr, hrun, hended, _, _, rfl, hQ, ⟨_, rfl⟩, hW, hsame.mono hk hn⟩
theorem own_retJ {Q : Option Value → Heap → List Loc → Prop} {k n : Nat} (X : Stand p l e R s m args below meth c T locs cells slots) (hx : p.tables.exec = Jvm.exec) (hlk : meth.locks = false) {pc : Nat} {Ls : Array Slot} {z : Int64} {rest : List Value} (hret : meth.sig.returnType = some .long)
    (hd : decode c.code pc = .ok (.lreturn, 1)) {h : Heap} (eT : T.heap = h) (hQ : Q (some (.long z)) h locs) (hk : cells ≤ k) (hn : slots ≤ n) : own_Fin p e below s Q k n (T.setTop (mkF m pc Ls (.long z :: rest))) := by
  subst eT
  obtain ⟨fs, hr, hrun, hended, hW, hsame⟩ := X.leave (v := some (.long z)) (fun h => by rw [hret] at h; cases h) hlk
  exact ⟨_, _, retOut X hx hret rfl (Or.inr (Or.inl ⟨rfl, rfl, z, rfl⟩)) hd hr, hrun, hended, _, _, rfl, hQ, ⟨_, rfl⟩, hW, hsame.mono hk hn⟩
theorem own_retD {Q : Option Value → Heap → List Loc → Prop} {k n : Nat} (X : Stand p l e R s m args below meth c T locs cells slots) (hx : p.tables.exec = Jvm.exec) (hlk : meth.locks = false) {pc : Nat} {Ls : Array Slot} {z : UInt64} {rest : List Value} (hret : meth.sig.returnType = some .double)
    (hd : decode c.code pc = .ok (.dreturn, 1)) {h : Heap} (eT : T.heap = h) (hQ : Q (some (.double z)) h locs) (hk : cells ≤ k) (hn : slots ≤ n) : own_Fin p e below s Q k n (T.setTop (mkF m pc Ls (.double z :: rest))) := by
  subst eT
  obtain ⟨fs, hr, hrun, hended, hW, hsame⟩ := X.leave (v := some (.double z)) (fun h => by rw [hret] at h; cases h) hlk
  exact ⟨_, _, retOut X hx hret rfl (Or.inr (Or.inr (Or.inl ⟨rfl, rfl, z, rfl⟩))) hd hr, hrun, hended, _, _, rfl, hQ, ⟨_, rfl⟩, hW, hsame.mono hk hn⟩
theorem own_retA {Q : Option Value → Heap → List Loc → Prop} {k n : Nat} (X : Stand p l e R s m args below meth c T locs cells slots) (hx : p.tables.exec = Jvm.exec) (hlk : meth.locks = false) {pc : Nat} {Ls : Array Slot} {w : Value} {t : FieldType} {rest : List Value} (hret : meth.sig.returnType = some t) (ht : t.isReference = true) (hw : w.isRef = true)
    (hd : decode c.code pc = .ok (.areturn, 1)) {h : Heap} (eT : T.heap = h) (hQ : Q (some w) h locs) (hk : cells ≤ k) (hn : slots ≤ n) : own_Fin p e below s Q k n (T.setTop (mkF m pc Ls (w :: rest))) := by
  subst eT
  obtain ⟨fs, hr, hrun, hended, hW, hsame⟩ := X.leave (v := some w) (fun h => by rw [hret] at h; cases h) hlk
  have hnw : narrow t w = w := by
    rcases ref_cases hw with rfl | ⟨z, rfl⟩ <;> cases t <;> first | rfl | (cases ht; done)
  exact ⟨_, _, retOut X hx hret hnw (Or.inr (Or.inr (Or.inr (Or.inr ⟨rfl, ht, hw⟩)))) hd hr, hrun, hended, _, _, rfl, hQ, ⟨_, rfl⟩, hW, hsame.mono hk hn⟩
theorem own_retV {Q : Option Value → Heap → List Loc → Prop} {k n : Nat} (X : Stand p l e R s m args below meth c T locs cells slots) (hx : p.tables.exec = Jvm.exec) (hlk : meth.locks = false) {pc : Nat} {Ls : Array Slot} (hret : meth.sig.returnType = none)
    (hd : decode c.code pc = .ok (.return_, 1)) {h : Heap} (eT : T.heap = h) (hQ : Q none h locs) (hk : cells ≤ k) (hn : slots ≤ n) : own_Fin p e below s Q k n (T.setTop (mkF m pc Ls [])) := by
  subst eT
  obtain ⟨fs, hr, hrun, hended, hW, hsame⟩ := X.leave (v := none) (fun _ => rfl) hlk
  exact ⟨_, _, X.returnOut hx hret hd hr, hrun, hended, _, _, rfl, hQ, ⟨_, rfl⟩, hW, hsame.mono hk hn⟩
end OwnKit
section OwnNums
theorem own_iushr (x : Int32) {n : UInt32} {k : Nat} (hn : n.toNat = k) (h0 : 0 < k) (hk : k < 32) : ((x.toUInt32 >>> n).toInt32).toInt = (x.toInt % 4294967296) / 2 ^ k := by
  have e2 : ((x.toUInt32 >>> n).toInt32).toBitVec.toNat = x.toBitVec.toNat / 2 ^ k := by
    simp only [UInt32.toBitVec_toInt32, UInt32.toBitVec_shiftRight, Int32.toBitVec_toUInt32]
    simp [BitVec.toNat_ushiftRight, Nat.shiftRight_eq_div_pow, hn, Nat.mod_eq_of_lt hk]
  have hb := x.toBitVec.isLt
  have hp : 2 ^ 1 ≤ 2 ^ k := Nat.pow_le_pow_right (by decide) h0
  have hle : x.toBitVec.toNat / 2 ^ k ≤ x.toBitVec.toNat / 2 ^ 1 := Nat.div_le_div_left hp (by decide)
  have e3 : ((x.toUInt32 >>> n).toInt32).toInt = ((x.toBitVec.toNat / 2 ^ k : Nat) : Int) := by
    have : ((x.toUInt32 >>> n).toInt32).toInt = ((x.toUInt32 >>> n).toInt32).toBitVec.toInt := rfl
    rw [this, BitVec.toInt_eq_toNat_cond, e2, if_pos (by omega)]
  have e4 : x.toInt % 4294967296 = (x.toBitVec.toNat : Int) := by
    have : x.toInt = x.toBitVec.toInt := rfl
    rw [this, BitVec.toInt_eq_toNat_cond]
    split <;> omega
  rw [e3, e4, Int.natCast_ediv, Int.natCast_pow]
  rfl
theorem own_lushr (x : Int64) {n : UInt64} {k : Nat} (hn : n.toNat = k) (h0 : 0 < k) (hk : k < 64) : ((x.toUInt64 >>> n).toInt64).toInt = (x.toInt % 18446744073709551616) / 2 ^ k := by
  have e2 : ((x.toUInt64 >>> n).toInt64).toBitVec.toNat = x.toBitVec.toNat / 2 ^ k := by
    simp only [UInt64.toBitVec_toInt64, UInt64.toBitVec_shiftRight, Int64.toBitVec_toUInt64]
    simp [BitVec.toNat_ushiftRight, Nat.shiftRight_eq_div_pow, hn, Nat.mod_eq_of_lt hk]
  have hb := x.toBitVec.isLt
  have hp : 2 ^ 1 ≤ 2 ^ k := Nat.pow_le_pow_right (by decide) h0
  have hle : x.toBitVec.toNat / 2 ^ k ≤ x.toBitVec.toNat / 2 ^ 1 := Nat.div_le_div_left hp (by decide)
  have e3 : ((x.toUInt64 >>> n).toInt64).toInt = ((x.toBitVec.toNat / 2 ^ k : Nat) : Int) := by
    have : ((x.toUInt64 >>> n).toInt64).toInt = ((x.toUInt64 >>> n).toInt64).toBitVec.toInt := rfl
    rw [this, BitVec.toInt_eq_toNat_cond, e2, if_pos (by omega)]
  have e4 : x.toInt % 18446744073709551616 = (x.toBitVec.toNat : Int) := by
    have : x.toInt = x.toBitVec.toInt := rfl
    rw [this, BitVec.toInt_eq_toNat_cond]
    split <;> omega
  rw [e3, e4, Int.natCast_ediv, Int.natCast_pow]
  rfl
theorem own_l2i (x : Int64) : (x.toInt32.toInt - x.toInt) % 4294967296 = 0 := by rw [Int64.toInt_toInt32]; exact bm32 _
theorem own_div32 {x y : Int32} (hx : 0 ≤ x.toInt) (hy : 0 < y.toInt) : (x / y).toInt = x.toInt / y.toInt := by
  rw [Jvm.Kit.i32_div (by omega), Int.tdiv_eq_ediv_of_nonneg hx]
theorem own_div64 {x y : Int64} (hx : 0 ≤ x.toInt) (hy : 0 < y.toInt) : (x / y).toInt = x.toInt / y.toInt := by
  rw [Jvm.Kit.i64_div (by omega), Int.tdiv_eq_ediv_of_nonneg hx]
theorem own_i2c (x : Int32) : (x.toUInt32.toUInt16.toUInt32.toInt32).toInt = x.toInt % 65536 := by
  have e2 : (x.toUInt32.toUInt16.toUInt32.toInt32).toBitVec.toNat = x.toBitVec.toNat % 65536 := by
    show (x.toUInt32.toUInt16.toUInt32).toNat = _
    simp
    rfl
  have hb := x.toBitVec.isLt
  have e3 : (x.toUInt32.toUInt16.toUInt32.toInt32).toInt = (x.toUInt32.toUInt16.toUInt32.toInt32).toBitVec.toInt := rfl
  have e4 : x.toInt = x.toBitVec.toInt := rfl
  rw [e3, e4, BitVec.toInt_eq_toNat_cond, BitVec.toInt_eq_toNat_cond, e2]
  split <;> split <;> omega
theorem own_i2b (x : Int32) : ((x.toInt8.toInt32).toInt - x.toInt) % 256 = 0 ∧ -128 ≤ (x.toInt8.toInt32).toInt ∧ (x.toInt8.toInt32).toInt < 128 := by
  have h1 : (x.toInt8.toInt32).toInt = x.toInt8.toInt := Int8.toInt_toInt32 _
  have h2 := x.toInt8.toInt_lt; have h3 := x.toInt8.le_toInt
  have h4 : x.toInt8.toInt = x.toInt.bmod 256 := Int32.toInt_toInt8 x
  have h5 := Int.bmod_emod (x := x.toInt) (m := 256)
  rw [h1]; omega
end OwnNums
theorem own_pd0 : parseMethodDescriptor "(JJLjava/util/function/BiFunction;)J" = some ⟨[.long, .long, (.object "java/util/function/BiFunction")], some .long⟩ := by decide +kernel
theorem own_pd1 : parseMethodDescriptor "(JJ)J" = some ⟨[.long, .long], some .long⟩ := by decide +kernel
theorem own_pd2 : parseMethodDescriptor "(J)V" = some ⟨[.long], none⟩ := by decide +kernel
theorem own_pd3 : parseMethodDescriptor "(J)J" = some ⟨[.long], some .long⟩ := by decide +kernel
theorem own_i64_0 : (0 : Int64).toInt = 0 := by decide
theorem own_i64_1 : (1 : Int64).toInt = 1 := by decide
theorem own_i64_137438952896 : (137438952896 : Int64).toInt = 137438952896 := by decide
theorem own_i32_0 : (0 : Int32).toInt = 0 := by decide
theorem own_i32_6 : (6 : Int32).toInt = 6 := by decide
theorem own_i64_64 : (64 : Int64).toInt = 64 := by decide
theorem own_i64_4095 : (4095 : Int64).toInt = 4095 := by decide
theorem own_i32_2 : (2 : Int32).toInt = 2 := by decide
theorem own_i64_9223372036854775807 : (9223372036854775807 : Int64).toInt = 9223372036854775807 := by decide
theorem own_i32_1 : (1 : Int32).toInt = 1 := by decide
theorem own_dup2 {tb : Tables} [Ours tb] {e : Env} {below : List Frame} {T target : State} {m : MethodId} {c : Code} {g : JFrame} (h : At T m c below) (hx : tb.exec = Jvm.exec) (hg : g.method = m) {x y : Value} {rest : List Value} (hd : decode c.code g.pc = .ok (.dup2, 1)) (hs : g.stack = y :: x :: rest) (hx1 : x.category = 1) (hy1 : y.category = 1)
    (hr : Steps tb e below (T.setTop { g with pc := g.pc + 1, stack := y :: x :: y :: x :: rest }) target) : Steps tb e below (T.setTop g) target := by
  subst hg
  jvm_step h [h.top, hx, hd, hs, hx1, hy1]
  exact hr
theorem own_pop2L {tb : Tables} [Ours tb] {e : Env} {below : List Frame} {T target : State} {m : MethodId} {c : Code} {g : JFrame} (h : At T m c below) (hx : tb.exec = Jvm.exec) (hg : g.method = m) {x : Int64} {rest : List Value} (hd : decode c.code g.pc = .ok (.pop2, 1)) (hs : g.stack = .long x :: rest)
    (hr : Steps tb e below (T.setTop { g with pc := g.pc + 1, stack := rest }) target) : Steps tb e below (T.setTop g) target := by
  subst hg
  jvm_step h [h.top, hx, hd, hs, Value.category]
  exact hr
def own_nw (q : Int64) : Nat := ((q.toInt + 63) / 64).toNat
def own_Bits (Z : State) (h : Heap) (w : Addr) (n : Nat) (B : Nat → Bool) : Prop := ∃ cl : Cell, Arr Z h w cl .long ∧ cl.slots.size = n ∧ ∀ j, j < n → ∃ x : Int64, cl.slots[j]? = some (.long x) ∧ ∀ i, i < 64 → x.toBitVec.getLsbD i = B (64 * j + i)
theorem own_Bits.lt {Z : State} {h : Heap} {w : Addr} {n : Nat} {B : Nat → Bool} (F : own_Bits Z h w n B) : w < h.size := by obtain ⟨c, A, -⟩ := F; exact A.lt
theorem own_Bits.ext {Z : State} {h h' : Heap} {w : Addr} {n : Nat} {B : Nat → Bool} (F : own_Bits Z h w n B) (E : Ext h h') : own_Bits Z h' w n B := by obtain ⟨c, A, r⟩ := F; exact ⟨c, A.ext E, r⟩
theorem own_Bits.other {Z : State} {h h' : Heap} {w a : Addr} {n sl : Nat} {v : Value} {B : Nat → Bool} (F : own_Bits Z h w n B) (W : Wr h h' a sl v) (q : w ≠ a) : own_Bits Z h' w n B := by obtain ⟨c, A, r⟩ := F; exact ⟨c, A.other W q, r⟩
theorem own_Bits.keep {Z : State} {h h' : Heap} {w : Addr} {n : Nat} {B : Nat → Bool} {ws : List Addr} (F : own_Bits Z h w n B) (K : Keep h h' ws) (q : w ∉ ws) : own_Bits Z h' w n B := by obtain ⟨c, A, r⟩ := F; exact ⟨c, ⟨K.2.1 _ _ A.1 q, A.2⟩, r⟩
theorem own_Bits.new {Z : State} {h : Heap} {a : Addr} {k : ClassId} {z : Int32} {n : Nat} (A : Arr Z h a (newA k .long z) .long) (hn : z.toNatClampNeg = n) : own_Bits Z h a n (fun _ => false) :=
  ⟨_, A, by rw [sz_new, hn], fun j hj => ⟨0, by simp [newA, hn, hj, defaultValue], fun i _ => by simp⟩⟩
theorem own_Bits.upd {Z : State} {h h' : Heap} {w : Addr} {n : Nat} {B B' : Nat → Bool} {cl : Cell} (A : Arr Z h w cl .long) (sz : cl.slots.size = n) (el : ∀ j, j < n → ∃ x : Int64, cl.slots[j]? = some (.long x) ∧ ∀ i, i < 64 → x.toBitVec.getLsbD i = B (64 * j + i)) {J : Nat} {y : Int64}
    (W : Wr h h' w J (.long y)) (hj : J < n) (h1 : ∀ i, i < 64 → y.toBitVec.getLsbD i = B' (64 * J + i)) (h2 : ∀ k, k / 64 ≠ J → B' k = B k) : own_Bits Z h' w n B' := by
  refine ⟨_, A.same W, by rw [sz_set, sz], fun j hjn => ?_⟩
  by_cases q : j = J
  · subst q
    exact ⟨y, by simp [Cell.setSlot, sz, hj], h1⟩
  · obtain ⟨x, e1, e2⟩ := el j hjn
    refine ⟨x, ?_, fun i hi => by rw [e2 i hi, h2]; omega⟩
    rw [← e1]
    exact Array.getElem?_setIfInBounds_ne (Ne.symm q)
theorem own_sh {q : Int64} : (((q.toInt32) &&& 0x3f).toInt64.toBitVec.smod 64).toNat = (q.toInt % 64).toNat := by
  have h1 : ((q.toInt32) &&& (0x3f : Int32)).toInt = q.toInt % 64 := by
    have a := Jvm.Kit.i32_mask (q.toInt32) (0x3f : Int32) (k := 6) (by decide) (by decide)
    have b := own_l2i q
    omega
  have h2 : (((q.toInt32) &&& (0x3f : Int32)).toInt64).toBitVec.toInt = q.toInt % 64 := by
    show ((q.toInt32) &&& (0x3f : Int32)).toInt64.toInt = _
    rw [Int32.toInt_toInt64, h1]
  have h3 : ((((q.toInt32) &&& (0x3f : Int32)).toInt64).toBitVec.smod 64).toInt = q.toInt % 64 := by
    rw [BitVec.toInt_smod, h2]
    show Int.fmod (q.toInt % 64) 64 = _
    rw [Int.fmod_eq_emod_of_nonneg _ (by decide)]
    omega
  have h4 := ((((q.toInt32) &&& (0x3f : Int32)).toInt64).toBitVec.smod 64).isLt
  rw [BitVec.toInt_eq_toNat_cond] at h3
  split at h3 <;> omega
theorem own_ushb {q : Int64} : (((q.toInt32) &&& 0x3f).toInt64.toUInt64).toNat % 64 = (q.toInt % 64).toNat := by
  have h1 : ((q.toInt32) &&& (0x3f : Int32)).toInt = q.toInt % 64 := by
    have a := Jvm.Kit.i32_mask (q.toInt32) (0x3f : Int32) (k := 6) (by decide) (by decide)
    have b := own_l2i q
    omega
  have h2 : (((q.toInt32) &&& (0x3f : Int32)).toInt64).toBitVec.toInt = q.toInt % 64 := by
    show ((q.toInt32) &&& (0x3f : Int32)).toInt64.toInt = _
    rw [Int32.toInt_toInt64, h1]
  show (((q.toInt32) &&& (0x3f : Int32)).toInt64.toBitVec).toNat % 64 = _
  have h4 := (((q.toInt32) &&& (0x3f : Int32)).toInt64).toBitVec.isLt
  rw [BitVec.toInt_eq_toNat_cond] at h2
  split at h2 <;> omega
theorem own_one {q : Int64} {i : Nat} (hi : i < 64) : ((1 : Int64) <<< (((q.toInt32) &&& 0x3f).toInt64)).toBitVec.getLsbD i = decide (i = (q.toInt % 64).toNat) := by
  have e : ((1 : Int64) <<< (((q.toInt32) &&& 0x3f).toInt64)).toBitVec = (1#64 <<< (((q.toInt32) &&& 0x3f).toInt64.toBitVec.smod 64)) := rfl
  rw [e, BitVec.shiftLeft_eq', own_sh, BitVec.getLsbD_shiftLeft]
  by_cases h : i = (q.toInt % 64).toNat
  · subst h; simp; omega
  · simp only [h, decide_false]
    by_cases h' : i < (q.toInt % 64).toNat
    · simp [h']
    · have : i - (q.toInt % 64).toNat ≠ 0 := by omega
      simp [BitVec.getLsbD_one, this]
theorem own_set {q x : Int64} {B : Nat → Bool} {J : Nat} (h0 : 0 ≤ q.toInt) (hJ : J = q.toInt.toNat / 64) (hb : ∀ i, i < 64 → x.toBitVec.getLsbD i = B (64 * J + i)) : ∀ i, i < 64 → (x ||| ((1 : Int64) <<< (((q.toInt32) &&& 0x3f).toInt64))).toBitVec.getLsbD i = (decide (64 * J + i = q.toInt.toNat) || B (64 * J + i)) := fun i hi => by
  rw [Int64.toBitVec_or, BitVec.getLsbD_or, own_one hi, hb i hi, Bool.or_comm]
  congr 1
  rw [decide_eq_decide]
  omega
theorem own_clr {q x : Int64} {B : Nat → Bool} {J : Nat} (h0 : 0 ≤ q.toInt) (hJ : J = q.toInt.toNat / 64) (hb : ∀ i, i < 64 → x.toBitVec.getLsbD i = B (64 * J + i)) : ∀ i, i < 64 → (x &&& (((1 : Int64) <<< (((q.toInt32) &&& 0x3f).toInt64)) ^^^ (-1 : Int64))).toBitVec.getLsbD i = (!decide (64 * J + i = q.toInt.toNat) && B (64 * J + i)) := fun i hi => by
  have m1 : (-1 : Int64).toBitVec.getLsbD i = true := by
    have : (-1 : Int64).toBitVec = BitVec.allOnes 64 := by decide
    rw [this, BitVec.getLsbD_allOnes]; exact decide_eq_true hi
  rw [Int64.toBitVec_and, BitVec.getLsbD_and, Int64.toBitVec_xor, BitVec.getLsbD_xor, own_one hi, m1, hb i hi, Bool.xor_true, Bool.and_comm]
  congr 2
  rw [decide_eq_decide]
  omega
def own_bl (b : Bool) : Int64 := if b then 1 else 0
theorem own_get {q x : Int64} {B : Nat → Bool} {J : Nat} (h0 : 0 ≤ q.toInt) (hJ : J = q.toInt.toNat / 64) (hb : ∀ i, i < 64 → x.toBitVec.getLsbD i = B (64 * J + i)) : (((x.toUInt64 >>> ((q.toInt32) &&& 0x3f).toInt64.toUInt64).toInt64) &&& (1 : Int64)) = own_bl (B q.toInt.toNat) := by
  have hk : (q.toInt % 64).toNat < 64 := by omega
  have e := hb _ hk
  rw [show 64 * J + (q.toInt % 64).toNat = q.toInt.toNat by omega] at e
  have hn : ((x.toUInt64 >>> ((q.toInt32) &&& 0x3f).toInt64.toUInt64).toInt64).toBitVec.getLsbD 0 = B q.toInt.toNat := by
    have e2 : ((x.toUInt64 >>> ((q.toInt32) &&& 0x3f).toInt64.toUInt64).toInt64).toBitVec = x.toBitVec >>> ((((q.toInt32) &&& 0x3f).toInt64.toUInt64).toNat % 64) := by
      simp only [UInt64.toBitVec_toInt64, UInt64.toBitVec_shiftRight, Int64.toBitVec_toUInt64]
      rw [BitVec.ushiftRight_eq']
      congr 1
    rw [e2, own_ushb, BitVec.getLsbD_ushiftRight, Nat.add_zero, e]
  refine Int64.toBitVec_inj.mp ?_
  rw [Int64.toBitVec_and]
  show _ &&& 1#64 = _
  rw [BitVec.and_one_eq_setWidth_ofBool_getLsbD, hn]
  cases B q.toInt.toNat <;> decide
theorem own_rem64 {x y : Int64} (hx : 0 ≤ x.toInt) (hy : 0 < y.toInt) : 0 ≤ (x - (x / y) * y).toInt ∧ (x - (x / y) * y).toInt < y.toInt := by
  rw [Jvm.Kit.i64_rem_nonneg hx]
  exact ⟨Int.emod_nonneg _ (by omega), Int.emod_lt_of_pos _ hy⟩
abbrev R_own_rm5 : Room := { frames := 0, cells := 0, slots := 0, locals := 0 }
theorem d5_0 : decode jdk_41_method_14_code 0 = .ok (.lload_n 0, 1) := by decide +kernel
theorem d5_1 : decode jdk_41_method_14_code 1 = .ok (.lconst 0, 1) := by decide +kernel
theorem d5_2 : decode jdk_41_method_14_code 2 = .ok (.lcmp, 1) := by decide +kernel
theorem d5_3 : decode jdk_41_method_14_code 3 = .ok (.ifCond .lt 9, 3) := by decide +kernel
theorem d5_6 : decode jdk_41_method_14_code 6 = .ok (.lload_n 0, 1) := by decide +kernel
theorem d5_7 : decode jdk_41_method_14_code 7 = .ok (.lload_n 2, 1) := by decide +kernel
theorem d5_8 : decode jdk_41_method_14_code 8 = .ok (.lcmp, 1) := by decide +kernel
theorem d5_9 : decode jdk_41_method_14_code 9 = .ok (.ifCond .lt 11, 3) := by decide +kernel
theorem d5_20 : decode jdk_41_method_14_code 20 = .ok (.lload_n 0, 1) := by decide +kernel
theorem d5_21 : decode jdk_41_method_14_code 21 = .ok (.lreturn, 1) := by decide +kernel
theorem own_pn0 : plainName "jdk/internal/util/Preconditions" = true := by first | (simp [plainName, overriddenIn]; done) | decide +kernel
theorem ef_own_rm5 (m : MethodId) (x0 : Int64) (x1 : Int64) : entryFrame m #[(.long x0), (.long x1), .null] 5 = mkF m 0 #[.val (.long x0), .second, .val (.long x1), .second, .val .null] [] := by first | (simp [entryFrame, mkF, argsToLocals, Value.category]; done) | rfl
set_option maxRecDepth 65536 in
set_option maxHeartbeats 4000000 in
theorem own_pl_rm5_1 (q1 : Int64) (q2 : Int64) (hq : 0 ≤ q1.toInt) (hr : q1.toInt < q2.toInt) : ¬ (q1 < (0 : Int64)) := by
  have := rng64 q1
  have := rng64 q2
  try simp only [own_i64_0] at *
  have := own_i64_0
  try simp only [Int32.lt_iff_toInt_lt, Int32.le_iff_toInt_le, Int64.lt_iff_toInt_lt, Int64.le_iff_toInt_le, ← Int32.toInt_inj, ← Int64.toInt_inj, true_and, and_true, true_or, or_true, false_or, or_false, not_true_eq_false, not_false_eq_true, false_and, and_false, ne_eq] at *
  all_goals first | omega | (simp; done)
set_option maxRecDepth 65536 in
set_option maxHeartbeats 4000000 in
theorem own_pl_rm5_2 (q1 : Int64) (q2 : Int64) (hq : 0 ≤ q1.toInt) (hr : q1.toInt < q2.toInt) (hc1 : ¬ (q1 < (0 : Int64))) : q1 < q2 := by
  have := rng64 q1
  have := rng64 q2
  try simp only [own_i64_0] at *
  have := own_i64_0
  try simp only [Int32.lt_iff_toInt_lt, Int32.le_iff_toInt_le, Int64.lt_iff_toInt_lt, Int64.le_iff_toInt_le, ← Int32.toInt_inj, ← Int64.toInt_inj, true_and, and_true, true_or, or_true, false_or, or_false, not_true_eq_false, not_false_eq_true, false_and, and_false, ne_eq] at *
  all_goals first | omega | (simp; done)
def Q_own_rm5 (Z : State) (q1 : Int64) (q2 : Int64) (h0 : Heap) (n0 : Nat) (v : Option Value) (h : Heap) (L : List Loc) : Prop := v = some (.long q1) ∧ Fr n0 L ∧ h = h0
set_option maxRecDepth 65536 in
set_option maxHeartbeats 400000000 in
theorem own_rm5 (l : Launch) (Z : State) (a0 : Array Value) (hw : ∀ d ∈ tables_1, d.before a0 Z = true) (ws : List Jvm.Cond) (q1 : Int64) (q2 : Int64) (h0 : Heap) (n0 : Nat) (Z0 : n0 ≤ h0.size) (hq : 0 ≤ q1.toInt) (hr : q1.toInt < q2.toInt) :
    MetFree l (⟨"jdk/internal/util/Preconditions", "checkIndex", "(JJLjava/util/function/BiFunction;)J"⟩ : MethodName) (head1 (Jvm.Cond.code (⟨"jdk/internal/util/Preconditions", "checkIndex", "(JJLjava/util/function/BiFunction;)J"⟩ : MethodName) jdk_41_method_14_code 5 (some .long) :: ws) R_own_rm5) (fun a U => a = #[(.long q1), (.long q2), .null] ∧ Z.Warmed39 U.vm ∧ U.heap = h0) (fun _ _ _ _ _ => True) (fun _ U o U' => ∃ v L, o = .returned v ∧ Q_own_rm5 Z q1 q2 h0 n0 v U'.heap L ∧ FrameEnd U o U' L R_own_rm5.cells R_own_rm5.slots) := by
  refine MetFree.of_bodySF (plainFor_of_name own_pn0) hisR ?_
  intro p e s m args below meth c s₁ Bd hml0 hP hK
  obtain ⟨rfl, hZ, hh⟩ := hP
  have hx := Bd.exec
  have hby := Bd.bytes
  have hml : c.maxLocals = 5 := hml0
  have hown : s.vm.findClass "jdk/internal/util/Preconditions" = some m.cls := findClass_of_methodNamed Bd.named
  have hnm := (name_of_methodNamed Bd.named Bd.method).1
  have X0 : Stand p l e R_own_rm5 s m #[(.long q1), (.long q2), .null] below meth c s₁ [] 0 0 := Stand.of_body Bd
  have e0 : s₁.heap = h0 := by rw [← hh, Bd.state]; rfl
  have N0 := Fr.nil n0
  have K0 : Keep h0 h0 [] := Keep.refl h0 []
  show own_Fin p e below s (Q_own_rm5 Z q1 q2 h0 n0) R_own_rm5.cells R_own_rm5.slots (s₁.setTop (entryFrame m #[(.long q1), (.long q2), .null] 5))
  refine own_go (fun _ k => castTop (ef_own_rm5 m q1 q2) k) ?_
  show own_Fin _ _ _ _ _ _ _ (s₁.setTop (mkF m 0 #[.val (.long q1), .second, .val (.long q2), .second, .val .null] []))
  refine own_go (B := s₁.setTop (mkF m 1 #[.val (.long q1), .second, .val (.long q2), .second, .val .null] [(.long q1)])) (fun _ k => XS.lloadN X0.here hx rfl (hb hby d5_0) rfl  k) ?_
  refine own_go (B := s₁.setTop (mkF m 2 #[.val (.long q1), .second, .val (.long q2), .second, .val .null] [(.long (0 : Int64)), (.long q1)])) (fun _ k => XS.lconst X0.here hx rfl (hb hby d5_1) k) ?_
  refine own_go (B := s₁.setTop (mkF m 3 #[.val (.long q1), .second, .val (.long q2), .second, .val .null] [(.int (lcmpW q1 (0 : Int64)))])) (fun _ k => XS.lcmp X0.here hx rfl (hb hby d5_2) rfl k) ?_
  have hc1 : ¬ (q1 < (0 : Int64)) := (own_pl_rm5_1 q1 q2 hq hr)
  refine own_go (B := s₁.setTop (mkF m 6 #[.val (.long q1), .second, .val (.long q2), .second, .val .null] [])) (fun _ k => XS.ifNo X0.here hx rfl (hb hby d5_3) rfl ((if0 _ _).trans (flt (mt (lw_lt q1 (0 : Int64)).mp hc1)).1) k) ?_
  refine own_go (B := s₁.setTop (mkF m 7 #[.val (.long q1), .second, .val (.long q2), .second, .val .null] [(.long q1)])) (fun _ k => XS.lloadN X0.here hx rfl (hb hby d5_6) rfl  k) ?_
  refine own_go (B := s₁.setTop (mkF m 8 #[.val (.long q1), .second, .val (.long q2), .second, .val .null] [(.long q2), (.long q1)])) (fun _ k => XS.lloadN X0.here hx rfl (hb hby d5_7) rfl  k) ?_
  refine own_go (B := s₁.setTop (mkF m 9 #[.val (.long q1), .second, .val (.long q2), .second, .val .null] [(.int (lcmpW q1 q2))])) (fun _ k => XS.lcmp X0.here hx rfl (hb hby d5_8) rfl k) ?_
  have hc2 : q1 < q2 := (own_pl_rm5_2 q1 q2 hq hr hc1)
  refine own_go (B := s₁.setTop (mkF m 20 #[.val (.long q1), .second, .val (.long q2), .second, .val .null] [])) (fun _ k => XS.ifYes X0.here hx rfl (pc0 := 9) (pc' := 20) rfl (hb hby d5_9) rfl ((if0 _ _).trans (tlt ((lw_lt q1 q2).mpr hc2)).1) (by decide) (by decide) k) ?_
  refine own_go (B := s₁.setTop (mkF m 21 #[.val (.long q1), .second, .val (.long q2), .second, .val .null] [(.long q1)])) (fun _ k => XS.lloadN X0.here hx rfl (hb hby d5_20) rfl  k) ?_
  exact own_retJ X0 hx Bd.notSynchronized Bd.returns (hb hby d5_21) e0 ⟨rfl, N0, rfl⟩ (by decide) (by decide)
abbrev R_own_rm4 : Room := { frames := 1, cells := 0, slots := 0, locals := 16 }
theorem d4_0 : decode jdk_31_method_20_code 0 = .ok (.lload_n 0, 1) := by decide +kernel
theorem d4_1 : decode jdk_31_method_20_code 1 = .ok (.lload_n 2, 1) := by decide +kernel
theorem d4_2 : decode jdk_31_method_20_code 2 = .ok (.aconst_null, 1) := by decide +kernel
theorem d4_3 : decode jdk_31_method_20_code 3 = .ok (.invokestatic 118, 3) := by decide +kernel
theorem d4_6 : decode jdk_31_method_20_code 6 = .ok (.lreturn, 1) := by decide +kernel
theorem own_pn1 : plainName "java/util/Objects" = true := by first | (simp [plainName, overriddenIn]; done) | decide +kernel
theorem ef_own_rm4 (m : MethodId) (x0 : Int64) (x1 : Int64) : entryFrame m #[(.long x0), (.long x1)] 4 = mkF m 0 #[.val (.long x0), .second, .val (.long x1), .second] [] := by first | (simp [entryFrame, mkF, argsToLocals, Value.category]; done) | rfl
def Q_own_rm4 (Z : State) (q1 : Int64) (q2 : Int64) (h0 : Heap) (n0 : Nat) (v : Option Value) (h : Heap) (L : List Loc) : Prop := v = some (.long q1) ∧ Fr n0 L ∧ h = h0
set_option maxRecDepth 65536 in
set_option maxHeartbeats 400000000 in
theorem own_rm4 (l : Launch) (Z : State) (a0 : Array Value) (hw : ∀ d ∈ tables_1, d.before a0 Z = true) (ws : List Jvm.Cond) (q1 : Int64) (q2 : Int64) (h0 : Heap) (n0 : Nat) (Z0 : n0 ≤ h0.size) (hq : 0 ≤ q1.toInt) (hr : q1.toInt < q2.toInt) :
    MetFree l (⟨"java/util/Objects", "checkIndex", "(JJ)J"⟩ : MethodName) (head1 (Jvm.Cond.code (⟨"java/util/Objects", "checkIndex", "(JJ)J"⟩ : MethodName) jdk_31_method_20_code 4 (some .long) :: ws) R_own_rm4) (fun a U => a = #[(.long q1), (.long q2)] ∧ Z.Warmed39 U.vm ∧ U.heap = h0) (fun _ _ _ _ _ => True) (fun _ U o U' => ∃ v L, o = .returned v ∧ Q_own_rm4 Z q1 q2 h0 n0 v U'.heap L ∧ FrameEnd U o U' L R_own_rm4.cells R_own_rm4.slots) := by
  refine MetFree.of_bodySF (plainFor_of_name own_pn1) hisR ?_
  intro p e s m args below meth c s₁ Bd hml0 hP hK
  obtain ⟨rfl, hZ, hh⟩ := hP
  have hx := Bd.exec
  have hby := Bd.bytes
  have hml : c.maxLocals = 4 := hml0
  have hown : s.vm.findClass "java/util/Objects" = some m.cls := findClass_of_methodNamed Bd.named
  have hnm := (name_of_methodNamed Bd.named Bd.method).1
  have X0 : Stand p l e R_own_rm4 s m #[(.long q1), (.long q2)] below meth c s₁ [] 0 0 := Stand.of_body Bd
  have e0 : s₁.heap = h0 := by rw [← hh, Bd.state]; rfl
  have N0 := Fr.nil n0
  have K0 : Keep h0 h0 [] := Keep.refl h0 []
  show own_Fin p e below s (Q_own_rm4 Z q1 q2 h0 n0) R_own_rm4.cells R_own_rm4.slots (s₁.setTop (entryFrame m #[(.long q1), (.long q2)] 4))
  refine own_go (fun _ k => castTop (ef_own_rm4 m q1 q2) k) ?_
  show own_Fin _ _ _ _ _ _ _ (s₁.setTop (mkF m 0 #[.val (.long q1), .second, .val (.long q2), .second] []))
  refine own_go (B := s₁.setTop (mkF m 1 #[.val (.long q1), .second, .val (.long q2), .second] [(.long q1)])) (fun _ k => XS.lloadN X0.here hx rfl (hb hby d4_0) rfl  k) ?_
  refine own_go (B := s₁.setTop (mkF m 2 #[.val (.long q1), .second, .val (.long q2), .second] [(.long q2), (.long q1)])) (fun _ k => XS.lloadN X0.here hx rfl (hb hby d4_1) rfl  k) ?_
  refine own_go (B := s₁.setTop (mkF m 3 #[.val (.long q1), .second, .val (.long q2), .second] [.null, (.long q2), (.long q1)])) (fun _ k => XS.aconstNull X0.here hx rfl (hb hby d4_2) k) ?_
  obtain ⟨_, _, ⟨T1, L1, k1, n1⟩, -, X1, ⟨Lc1, hQ1, l1, y1, z1⟩, st1⟩ := Jvm.LawKit.callS X0 hx (y := (⟨"jdk/internal/util/Preconditions", "checkIndex", "(JJLjava/util/function/BiFunction;)J"⟩ : MethodName)) hown (mvT hZ (own_w hw 27 rfl)) (mvT hZ (own_w hw 28 rfl)) (mvT hZ (own_w hw 29 rfl)) (mvT hZ (own_w hw 30 rfl)) (by decide) (backOf (W := 0) (own_rm5 l Z a0 hw [] q1 q2 h0 n0 (Nat.le_trans Z0 K0.1) hq hr) hZ (own_w hw 30 rfl) (own_w hw 29 rfl) (by decide) (by decide)) (g := (mkF m 3 #[.val (.long q1), .second, .val (.long q2), .second] [.null, (.long q2), (.long q1)])) rfl (by rw [hml]; rfl) (argsL := [(.long q1), (.long q2), .null]) (rest := []) (lenOf own_pd0 rfl) rfl (by show 2 * 0 + _ ≤ _; exact Nat.le_of_eq rfl) (hb hby d4_3) (fun _ _ => ⟨rfl, e0, (by decide : 0 + 0 ≤ _), (by decide : 0 + 0 ≤ _)⟩)
  dsimp only [Pt.U, Pt.locs, Pt.cells, Pt.slots] at X1 l1 y1 z1 st1 hQ1
  subst l1 y1 z1
  obtain ⟨rfl, N1q, e1⟩ := hQ1
  have N1 := Fr.app N0 N1q
  refine own_go (B := T1.setTop (mkF m 6 #[.val (.long q1), .second, .val (.long q2), .second] [(.long q1)])) st1 ?_
  exact own_retJ X1 hx Bd.notSynchronized Bd.returns (hb hby d4_6) e1 ⟨rfl, N1, rfl⟩ (by decide) (by decide)
abbrev R_own_rm1 : Room := { frames := 1, cells := 1, slots := 64, locals := 12 }
theorem d1_0 : decode prog_1_method_1_code 0 = .ok (.aload_n 0, 1) := by decide +kernel
theorem d1_1 : decode prog_1_method_1_code 1 = .ok (.invokespecial 5, 3) := by decide +kernel
theorem d1_4 : decode prog_1_method_1_code 4 = .ok (.lload_n 1, 1) := by decide +kernel
theorem d1_5 : decode prog_1_method_1_code 5 = .ok (.lconst 1, 1) := by decide +kernel
theorem d1_6 : decode prog_1_method_1_code 6 = .ok (.lcmp, 1) := by decide +kernel
theorem d1_7 : decode prog_1_method_1_code 7 = .ok (.ifCond .lt 11, 3) := by decide +kernel
theorem d1_10 : decode prog_1_method_1_code 10 = .ok (.lload_n 1, 1) := by decide +kernel
theorem d1_11 : decode prog_1_method_1_code 11 = .ok (.ldc2_w 13, 3) := by decide +kernel
theorem d1_14 : decode prog_1_method_1_code 14 = .ok (.lcmp, 1) := by decide +kernel
theorem d1_15 : decode prog_1_method_1_code 15 = .ok (.ifCond .le 17, 3) := by decide +kernel
theorem d1_32 : decode prog_1_method_1_code 32 = .ok (.aload_n 0, 1) := by decide +kernel
theorem d1_33 : decode prog_1_method_1_code 33 = .ok (.lload_n 1, 1) := by decide +kernel
theorem d1_34 : decode prog_1_method_1_code 34 = .ok (.putfield 24, 3) := by decide +kernel
theorem d1_37 : decode prog_1_method_1_code 37 = .ok (.aload_n 0, 1) := by decide +kernel
theorem d1_38 : decode prog_1_method_1_code 38 = .ok (.lload_n 1, 1) := by decide +kernel
theorem d1_39 : decode prog_1_method_1_code 39 = .ok (.ldc2_w 28, 3) := by decide +kernel
theorem d1_42 : decode prog_1_method_1_code 42 = .ok (.ladd, 1) := by decide +kernel
theorem d1_43 : decode prog_1_method_1_code 43 = .ok (.lconst 1, 1) := by decide +kernel
theorem d1_44 : decode prog_1_method_1_code 44 = .ok (.lsub, 1) := by decide +kernel
theorem d1_45 : decode prog_1_method_1_code 45 = .ok (.bipush 6, 2) := by decide +kernel
theorem d1_47 : decode prog_1_method_1_code 47 = .ok (.lushr, 1) := by decide +kernel
theorem d1_48 : decode prog_1_method_1_code 48 = .ok (.l2i, 1) := by decide +kernel
theorem d1_49 : decode prog_1_method_1_code 49 = .ok (.newarray .long, 2) := by decide +kernel
theorem d1_51 : decode prog_1_method_1_code 51 = .ok (.putfield 30, 3) := by decide +kernel
theorem d1_54 : decode prog_1_method_1_code 54 = .ok (.return_, 1) := by decide +kernel
theorem own_pn2 : plainName "com/example/kin_bloom/kinbloom/BitArray" = true := by first | (simp [plainName, overriddenIn]; done) | decide +kernel
theorem ef_own_rm1 (m : MethodId) (x0 : Addr) (x1 : Int64) : entryFrame m #[(.ref x0), (.long x1)] 3 = mkF m 0 #[.val (.ref x0), .val (.long x1), .second] [] := by first | (simp [entryFrame, mkF, argsToLocals, Value.category]; done) | rfl
set_option maxRecDepth 65536 in
set_option maxHeartbeats 4000000 in
theorem own_pl_rm1_1 (q2 : Int64) (hq : 1 ≤ q2.toInt) (hr : q2.toInt ≤ 4096) : ¬ (q2 < (1 : Int64)) := by
  have := rng64 q2
  try simp only [own_i64_1] at *
  have := own_i64_1
  try simp only [Int32.lt_iff_toInt_lt, Int32.le_iff_toInt_le, Int64.lt_iff_toInt_lt, Int64.le_iff_toInt_le, ← Int32.toInt_inj, ← Int64.toInt_inj, true_and, and_true, true_or, or_true, false_or, or_false, not_true_eq_false, not_false_eq_true, false_and, and_false, ne_eq] at *
  all_goals first | omega | (simp; done)
set_option maxRecDepth 65536 in
set_option maxHeartbeats 4000000 in
theorem own_pl_rm1_2 (q2 : Int64) (hq : 1 ≤ q2.toInt) (hr : q2.toInt ≤ 4096) (hc2 : ¬ (q2 < (1 : Int64))) : ¬ ((137438952896 : Int64) < q2) := by
  have := rng64 q2
  try simp only [own_i64_1, own_i64_137438952896] at *
  have := own_i64_1
  have := own_i64_137438952896
  try simp only [Int32.lt_iff_toInt_lt, Int32.le_iff_toInt_le, Int64.lt_iff_toInt_lt, Int64.le_iff_toInt_le, ← Int32.toInt_inj, ← Int64.toInt_inj, true_and, and_true, true_or, or_true, false_or, or_false, not_true_eq_false, not_false_eq_true, false_and, and_false, ne_eq] at *
  all_goals first | omega | (simp; done)
set_option maxRecDepth 65536 in
set_option maxHeartbeats 4000000 in
theorem own_pl_rm1_3 (q2 : Int64) (hq : 1 ≤ q2.toInt) (hr : q2.toInt ≤ 4096) (hc2 : ¬ (q2 < (1 : Int64))) (hc3 : ¬ ((137438952896 : Int64) < q2)) : ¬ ((((((q2 + (64 : Int64)) - (1 : Int64)).toUInt64 >>> ((6 : Int32) &&& 0x3f).toInt64.toUInt64).toInt64).toInt32) < (0 : Int32)) := by
  have := rng64 q2
  have := rng64 (q2 + (64 : Int64))
  have := c_ladd q2 (64 : Int64)
  have := rng64 ((q2 + (64 : Int64)) - (1 : Int64))
  have := c_lsub (q2 + (64 : Int64)) (1 : Int64)
  have := rng64 ((((q2 + (64 : Int64)) - (1 : Int64)).toUInt64 >>> ((6 : Int32) &&& 0x3f).toInt64.toUInt64).toInt64)
  have := own_lushr ((q2 + (64 : Int64)) - (1 : Int64)) (n := ((6 : Int32) &&& 0x3f).toInt64.toUInt64) (k := 6) (by decide) (by decide) (by decide)
  have := rng32 (((((q2 + (64 : Int64)) - (1 : Int64)).toUInt64 >>> ((6 : Int32) &&& 0x3f).toInt64.toUInt64).toInt64).toInt32)
  have := own_l2i ((((q2 + (64 : Int64)) - (1 : Int64)).toUInt64 >>> ((6 : Int32) &&& 0x3f).toInt64.toUInt64).toInt64)
  try simp only [own_i32_0, own_i32_6, own_i64_1, own_i64_64, own_i64_137438952896] at *
  have := own_i32_0
  have := own_i32_6
  have := own_i64_1
  have := own_i64_64
  have := own_i64_137438952896
  try simp only [Int32.lt_iff_toInt_lt, Int32.le_iff_toInt_le, Int64.lt_iff_toInt_lt, Int64.le_iff_toInt_le, ← Int32.toInt_inj, ← Int64.toInt_inj, true_and, and_true, true_or, or_true, false_or, or_false, not_true_eq_false, not_false_eq_true, false_and, and_false, ne_eq] at *
  all_goals first | omega | (simp; done)
set_option maxRecDepth 65536 in
set_option maxHeartbeats 4000000 in
theorem own_pl_rm1_4 (q2 : Int64) (hq : 1 ≤ q2.toInt) (hr : q2.toInt ≤ 4096) (hc2 : ¬ (q2 < (1 : Int64))) (hc3 : ¬ ((137438952896 : Int64) < q2)) : ((((((q2 + (64 : Int64)) - (1 : Int64)).toUInt64 >>> ((6 : Int32) &&& 0x3f).toInt64.toUInt64).toInt64).toInt32)).toNatClampNeg ≤ 64 := by
  have := rng64 q2
  have := rng64 (q2 + (64 : Int64))
  have := c_ladd q2 (64 : Int64)
  have := rng64 ((q2 + (64 : Int64)) - (1 : Int64))
  have := c_lsub (q2 + (64 : Int64)) (1 : Int64)
  have := rng64 ((((q2 + (64 : Int64)) - (1 : Int64)).toUInt64 >>> ((6 : Int32) &&& 0x3f).toInt64.toUInt64).toInt64)
  have := own_lushr ((q2 + (64 : Int64)) - (1 : Int64)) (n := ((6 : Int32) &&& 0x3f).toInt64.toUInt64) (k := 6) (by decide) (by decide) (by decide)
  have := rng32 (((((q2 + (64 : Int64)) - (1 : Int64)).toUInt64 >>> ((6 : Int32) &&& 0x3f).toInt64.toUInt64).toInt64).toInt32)
  have := own_l2i ((((q2 + (64 : Int64)) - (1 : Int64)).toUInt64 >>> ((6 : Int32) &&& 0x3f).toInt64.toUInt64).toInt64)
  try simp only [own_i32_6, own_i64_1, own_i64_64, own_i64_137438952896] at *
  have := own_i32_6
  have := own_i64_1
  have := own_i64_64
  have := own_i64_137438952896
  try simp only [Int32.toNatClampNeg, own_nw, Int32.lt_iff_toInt_lt, Int64.lt_iff_toInt_lt, ← Int32.toInt_inj, ← Int64.toInt_inj] at *
  all_goals first | omega | (simp; done)
set_option maxRecDepth 65536 in
set_option maxHeartbeats 4000000 in
theorem own_pl_rm1_5 (q2 : Int64) (hq : 1 ≤ q2.toInt) (hr : q2.toInt ≤ 4096) (hc2 : ¬ (q2 < (1 : Int64))) (hc3 : ¬ ((137438952896 : Int64) < q2)) : ((((((q2 + (64 : Int64)) - (1 : Int64)).toUInt64 >>> ((6 : Int32) &&& 0x3f).toInt64.toUInt64).toInt64).toInt32)).toNatClampNeg = own_nw q2 := by
  have := rng64 q2
  have := rng64 (q2 + (64 : Int64))
  have := c_ladd q2 (64 : Int64)
  have := rng64 ((q2 + (64 : Int64)) - (1 : Int64))
  have := c_lsub (q2 + (64 : Int64)) (1 : Int64)
  have := rng64 ((((q2 + (64 : Int64)) - (1 : Int64)).toUInt64 >>> ((6 : Int32) &&& 0x3f).toInt64.toUInt64).toInt64)
  have := own_lushr ((q2 + (64 : Int64)) - (1 : Int64)) (n := ((6 : Int32) &&& 0x3f).toInt64.toUInt64) (k := 6) (by decide) (by decide) (by decide)
  have := rng32 (((((q2 + (64 : Int64)) - (1 : Int64)).toUInt64 >>> ((6 : Int32) &&& 0x3f).toInt64.toUInt64).toInt64).toInt32)
  have := own_l2i ((((q2 + (64 : Int64)) - (1 : Int64)).toUInt64 >>> ((6 : Int32) &&& 0x3f).toInt64.toUInt64).toInt64)
  try simp only [own_i32_6, own_i64_1, own_i64_64, own_i64_137438952896] at *
  have := own_i32_6
  have := own_i64_1
  have := own_i64_64
  have := own_i64_137438952896
  try simp only [Int32.toNatClampNeg, own_nw, Int32.lt_iff_toInt_lt, Int64.lt_iff_toInt_lt, ← Int32.toInt_inj, ← Int64.toInt_inj] at *
  all_goals first | omega | (simp; done)
def Q_own_rm1 (Z : State) (a1 : Addr) (q2 : Int64) (h0 : Heap) (n0 : Nat) (v : Option Value) (h : Heap) (L : List Loc) : Prop := ∃ w : Addr, v = none ∧ Fr n0 L ∧ Keep h0 h [a1] ∧ Exa Z h a1 "com/example/kin_bloom/kinbloom/BitArray" ∧ Fld Z h a1 "com/example/kin_bloom/kinbloom/BitArray" "size" "J" (.long q2) ∧ Fld Z h a1 "com/example/kin_bloom/kinbloom/BitArray" "words" "[J" (.ref w) ∧ own_Bits Z h w (own_nw q2) (fun _ => false) ∧ (h0.size ≤ w)
set_option maxRecDepth 65536 in
set_option maxHeartbeats 400000000 in
theorem own_rm1 (l : Launch) (Z : State) (a0 : Array Value) (hw : ∀ d ∈ tables_1, d.before a0 Z = true) (ws : List Jvm.Cond) (a1 : Addr) (q2 : Int64) (h0 : Heap) (n0 : Nat) (Z0 : n0 ≤ h0.size) (P_E_a1 : Exa Z h0 a1 "com/example/kin_bloom/kinbloom/BitArray") (P_F_a1_size : Fld Z h0 a1 "com/example/kin_bloom/kinbloom/BitArray" "size" "J" (.long (0 : Int64))) (P_F_a1_words : Fld Z h0 a1 "com/example/kin_bloom/kinbloom/BitArray" "words" "[J" .null) (g_a1 : n0 ≤ a1) (hq : 1 ≤ q2.toInt) (hr : q2.toInt ≤ 4096) :
    MetFree l (⟨"com/example/kin_bloom/kinbloom/BitArray", "<init>", "(J)V"⟩ : MethodName) (head1 (Jvm.Cond.code (⟨"com/example/kin_bloom/kinbloom/BitArray", "<init>", "(J)V"⟩ : MethodName) prog_1_method_1_code 3 none :: ws) R_own_rm1) (fun a U => a = #[(.ref a1), (.long q2)] ∧ Z.Warmed39 U.vm ∧ U.heap = h0) (fun _ _ _ _ _ => True) (fun _ U o U' => ∃ v L, o = .returned v ∧ Q_own_rm1 Z a1 q2 h0 n0 v U'.heap L ∧ FrameEnd U o U' L R_own_rm1.cells R_own_rm1.slots) := by
  refine MetFree.of_bodySF (plainFor_of_name own_pn2) hisR ?_
  intro p e s m args below meth c s₁ Bd hml0 hP hK
  obtain ⟨rfl, hZ, hh⟩ := hP
  have hx := Bd.exec
  have hby := Bd.bytes
  have hml : c.maxLocals = 3 := hml0
  have hown : s.vm.findClass "com/example/kin_bloom/kinbloom/BitArray" = some m.cls := findClass_of_methodNamed Bd.named
  have hnm := (name_of_methodNamed Bd.named Bd.method).1
  have X0 : Stand p l e R_own_rm1 s m #[(.ref a1), (.long q2)] below meth c s₁ [] 0 0 := Stand.of_body Bd
  have e0 : s₁.heap = h0 := by rw [← hh, Bd.state]; rfl
  have N0 := Fr.nil n0
  have K0 : Keep h0 h0 [a1] := Keep.refl h0 [a1]
  show own_Fin p e below s (Q_own_rm1 Z a1 q2 h0 n0) R_own_rm1.cells R_own_rm1.slots (s₁.setTop (entryFrame m #[(.ref a1), (.long q2)] 3))
  refine own_go (fun _ k => castTop (ef_own_rm1 m a1 q2) k) ?_
  show own_Fin _ _ _ _ _ _ _ (s₁.setTop (mkF m 0 #[.val (.ref a1), .val (.long q2), .second] []))
  refine own_go (B := s₁.setTop (mkF m 1 #[.val (.ref a1), .val (.long q2), .second] [(.ref a1)])) (fun _ k => XS.aloadN X0.here hx rfl (hb hby d1_0) rfl rfl k) ?_
  obtain ⟨T1, X1, e1, st1⟩ := initO X0 hx hZ hown (own_w hw 8 rfl) (own_w hw 9 rfl) (own_w hw 10 rfl) e0 (g := (mkF m 1 #[.val (.ref a1), .val (.long q2), .second] [(.ref a1)])) rfl (by rw [hml]; rfl) rfl (hb hby d1_1) (by decide) (W := 0) (by show 2 * 0 + _ ≤ _; exact Nat.le_of_eq rfl) (by decide)
  refine own_go (B := T1.setTop (mkF m 4 #[.val (.ref a1), .val (.long q2), .second] [])) st1 ?_
  refine own_go (B := T1.setTop (mkF m 5 #[.val (.ref a1), .val (.long q2), .second] [(.long q2)])) (fun _ k => XS.lloadN X1.here hx rfl (hb hby d1_4) rfl  k) ?_
  refine own_go (B := T1.setTop (mkF m 6 #[.val (.ref a1), .val (.long q2), .second] [(.long (1 : Int64)), (.long q2)])) (fun _ k => XS.lconst X1.here hx rfl (hb hby d1_5) k) ?_
  refine own_go (B := T1.setTop (mkF m 7 #[.val (.ref a1), .val (.long q2), .second] [(.int (lcmpW q2 (1 : Int64)))])) (fun _ k => XS.lcmp X1.here hx rfl (hb hby d1_6) rfl k) ?_
  have hc2 : ¬ (q2 < (1 : Int64)) := (own_pl_rm1_1 q2 hq hr)
  refine own_go (B := T1.setTop (mkF m 10 #[.val (.ref a1), .val (.long q2), .second] [])) (fun _ k => XS.ifNo X1.here hx rfl (hb hby d1_7) rfl ((if0 _ _).trans (flt (mt (lw_lt q2 (1 : Int64)).mp hc2)).1) k) ?_
  refine own_go (B := T1.setTop (mkF m 11 #[.val (.ref a1), .val (.long q2), .second] [(.long q2)])) (fun _ k => XS.lloadN X1.here hx rfl (hb hby d1_10) rfl  k) ?_
  refine own_go (B := T1.setTop (mkF m 14 #[.val (.ref a1), .val (.long q2), .second] [(.long (137438952896 : Int64)), (.long q2)])) (fun _ k => X1.ldc2Long hx hown (mvT hZ (own_w hw 11 rfl)) (g := (mkF m 11 #[.val (.ref a1), .val (.long q2), .second] [(.long q2)])) rfl (hb hby d1_11) _ k) ?_
  refine own_go (B := T1.setTop (mkF m 15 #[.val (.ref a1), .val (.long q2), .second] [(.int (lcmpW q2 (137438952896 : Int64)))])) (fun _ k => XS.lcmp X1.here hx rfl (hb hby d1_14) rfl k) ?_
  have hc3 : ¬ ((137438952896 : Int64) < q2) := (own_pl_rm1_2 q2 hq hr hc2)
  refine own_go (B := T1.setTop (mkF m 32 #[.val (.ref a1), .val (.long q2), .second] [])) (fun _ k => XS.ifYes X1.here hx rfl (pc0 := 15) (pc' := 32) rfl (hb hby d1_15) rfl ((if0 _ _).trans (flt (mt (lw_gt q2 (137438952896 : Int64)).mp hc3)).2.2.2) (by decide) (by decide) k) ?_
  refine own_go (B := T1.setTop (mkF m 33 #[.val (.ref a1), .val (.long q2), .second] [(.ref a1)])) (fun _ k => XS.aloadN X1.here hx rfl (hb hby d1_32) rfl rfl k) ?_
  refine own_go (B := T1.setTop (mkF m 34 #[.val (.ref a1), .val (.long q2), .second] [(.long q2), (.ref a1)])) (fun _ k => XS.lloadN X1.here hx rfl (hb hby d1_33) rfl  k) ?_
  obtain ⟨T4, h4, X4, e4, W4, st4⟩ := putF X1 hx hZ hown (host := "") (Or.inl (own_w hw 12 rfl)) Via.refl e1 P_F_a1_size P_E_a1 (Or.inr ⟨(own_w hw 13 rfl), rfl, hnm⟩) (own_w hw 3 rfl) (ty := .long) (by decide) rfl rfl (g := (mkF m 34 #[.val (.ref a1), .val (.long q2), .second] [(.long q2), (.ref a1)])) rfl rfl (hb hby d1_34)
  have F_w4 : Fld Z h4 a1 "com/example/kin_bloom/kinbloom/BitArray" "size" "J" (.long q2) := P_F_a1_size.same W4
  have E_6 := P_E_a1.wr W4
  have F_8 := P_F_a1_words.other W4 (Or.inr (slot_ne (Or.inr (own_w hw 17 rfl)) (Or.inr (own_w hw 13 rfl)) (by decide) (t := (.array .long)) (t' := .long) (by decide) (by decide)))
  have K9 : Keep h0 h4 [a1] := K0.wr W4 (Or.inl (List.mem_of_getElem? (i := 0) rfl))
  have N4 := Fr.snoc X4 N0 g_a1
  refine own_go (B := T4.setTop (mkF m 37 #[.val (.ref a1), .val (.long q2), .second] [])) st4 ?_
  refine own_go (B := T4.setTop (mkF m 38 #[.val (.ref a1), .val (.long q2), .second] [(.ref a1)])) (fun _ k => XS.aloadN X4.here hx rfl (hb hby d1_37) rfl rfl k) ?_
  refine own_go (B := T4.setTop (mkF m 39 #[.val (.ref a1), .val (.long q2), .second] [(.long q2), (.ref a1)])) (fun _ k => XS.lloadN X4.here hx rfl (hb hby d1_38) rfl  k) ?_
  refine own_go (B := T4.setTop (mkF m 42 #[.val (.ref a1), .val (.long q2), .second] [(.long (64 : Int64)), (.long q2), (.ref a1)])) (fun _ k => X4.ldc2Long hx hown (mvT hZ (own_w hw 14 rfl)) (g := (mkF m 39 #[.val (.ref a1), .val (.long q2), .second] [(.long q2), (.ref a1)])) rfl (hb hby d1_39) _ k) ?_
  refine own_go (B := T4.setTop (mkF m 43 #[.val (.ref a1), .val (.long q2), .second] [(.long (q2 + (64 : Int64))), (.ref a1)])) (fun _ k => XS.ladd X4.here hx rfl (hb hby d1_42) rfl k) ?_
  refine own_go (B := T4.setTop (mkF m 44 #[.val (.ref a1), .val (.long q2), .second] [(.long (1 : Int64)), (.long (q2 + (64 : Int64))), (.ref a1)])) (fun _ k => XS.lconst X4.here hx rfl (hb hby d1_43) k) ?_
  refine own_go (B := T4.setTop (mkF m 45 #[.val (.ref a1), .val (.long q2), .second] [(.long ((q2 + (64 : Int64)) - (1 : Int64))), (.ref a1)])) (fun _ k => XS.lsub X4.here hx rfl (hb hby d1_44) rfl k) ?_
  refine own_go (B := T4.setTop (mkF m 47 #[.val (.ref a1), .val (.long q2), .second] [(.int (6 : Int32)), (.long ((q2 + (64 : Int64)) - (1 : Int64))), (.ref a1)])) (fun _ k => XS.bipush X4.here hx rfl (hb hby d1_45) k) ?_
  refine own_go (B := T4.setTop (mkF m 48 #[.val (.ref a1), .val (.long q2), .second] [(.long ((((q2 + (64 : Int64)) - (1 : Int64)).toUInt64 >>> ((6 : Int32) &&& 0x3f).toInt64.toUInt64).toInt64)), (.ref a1)])) (fun _ k => XS.lushr X4.here hx rfl (hb hby d1_47) rfl k) ?_
  refine own_go (B := T4.setTop (mkF m 49 #[.val (.ref a1), .val (.long q2), .second] [(.int (((((q2 + (64 : Int64)) - (1 : Int64)).toUInt64 >>> ((6 : Int32) &&& 0x3f).toInt64.toUInt64).toInt64).toInt32)), (.ref a1)])) (fun _ k => XS.l2i X4.here hx rfl (hb hby d1_48) rfl k) ?_
  obtain ⟨T10, h10, k10, X10, e10, E10, A10, st10⟩ := newP X4 hx hZ (own_w hw 15 rfl) e4 (g := (mkF m 49 #[.val (.ref a1), .val (.long q2), .second] [(.int (((((q2 + (64 : Int64)) - (1 : Int64)).toUInt64 >>> ((6 : Int32) &&& 0x3f).toInt64.toUInt64).toInt64).toInt32)), (.ref a1)])) rfl (hb hby d1_49) rfl (own_pl_rm1_3 q2 hq hr hc2 hc3) (cap := 64) (own_pl_rm1_4 q2 hq hr hc2 hc3) (by decide) (by decide) (by decide)
  obtain ⟨b10, g10⟩ : ∃ z, z = h4.size := ⟨_, rfl⟩
  rw [← g10] at A10 st10
  have ne_a1_b10_11 : a1 ≠ b10 := Nat.ne_of_lt (Nat.lt_of_lt_of_le E_6.lt (Nat.le_of_eq g10.symm))
  have sz_b10 : h0.size ≤ b10 := Nat.le_trans K9.1 (Nat.le_of_eq g10.symm)
  have g_b10 : n0 ≤ b10 := Nat.le_trans Z0 sz_b10
  have E_13 := E_6.ext E10
  have F_14 := F_8.ext E10
  have F_15 := F_w4.ext E10
  have G10 : own_Bits Z h10 b10 (own_nw q2) (fun _ => false) := own_Bits.new A10 (own_pl_rm1_5 q2 hq hr hc2 hc3)
  have K16 : Keep h0 h10 [a1] := K9.ext E10
  refine own_go (B := T10.setTop (mkF m 51 #[.val (.ref a1), .val (.long q2), .second] [(.ref b10), (.ref a1)])) st10 ?_
  obtain ⟨T17, h17, X17, e17, W17, st17⟩ := putF X10 hx hZ hown (host := "") (Or.inl (own_w hw 16 rfl)) Via.refl e10 F_14 E_13 (Or.inr ⟨(own_w hw 17 rfl), rfl, hnm⟩) (own_w hw 3 rfl) (ty := (.array .long)) (by decide) rfl rfl (g := (mkF m 51 #[.val (.ref a1), .val (.long q2), .second] [(.ref b10), (.ref a1)])) rfl rfl (hb hby d1_51)
  have F_w17 : Fld Z h17 a1 "com/example/kin_bloom/kinbloom/BitArray" "words" "[J" (.ref b10) := F_14.same W17
  have E_19 := E_13.wr W17
  have F_21 := F_15.other W17 (Or.inr (slot_ne (Or.inr (own_w hw 13 rfl)) (Or.inr (own_w hw 17 rfl)) (by decide) (t := .long) (t' := (.array .long)) (by decide) (by decide)))
  have G_22 := G10.other W17 (Ne.symm ne_a1_b10_11)
  have K23 : Keep h0 h17 [a1] := K16.wr W17 (Or.inl (List.mem_of_getElem? (i := 0) rfl))
  have N17 := Fr.snoc X17 N4 g_a1
  refine own_go (B := T17.setTop (mkF m 54 #[.val (.ref a1), .val (.long q2), .second] [])) st17 ?_
  exact own_retV X17 hx Bd.notSynchronized Bd.returns (hb hby d1_54) e17 ⟨b10, rfl, N17, K23, E_19, F_21, F_w17, G_22, sz_b10⟩ (by decide) (by decide)
abbrev R_own_rm3 : Room := { frames := 2, cells := 0, slots := 0, locals := 31 }
theorem d3_0 : decode prog_1_method_7_code 0 = .ok (.lload_n 1, 1) := by decide +kernel
theorem d3_1 : decode prog_1_method_7_code 1 = .ok (.aload_n 0, 1) := by decide +kernel
theorem d3_2 : decode prog_1_method_7_code 2 = .ok (.getfield 24, 3) := by decide +kernel
theorem d3_5 : decode prog_1_method_7_code 5 = .ok (.invokestatic 39, 3) := by decide +kernel
theorem d3_8 : decode prog_1_method_7_code 8 = .ok (.pop2, 1) := by decide +kernel
theorem d3_9 : decode prog_1_method_7_code 9 = .ok (.aload_n 0, 1) := by decide +kernel
theorem d3_10 : decode prog_1_method_7_code 10 = .ok (.getfield 30, 3) := by decide +kernel
theorem d3_13 : decode prog_1_method_7_code 13 = .ok (.lload_n 1, 1) := by decide +kernel
theorem d3_14 : decode prog_1_method_7_code 14 = .ok (.bipush 6, 2) := by decide +kernel
theorem d3_16 : decode prog_1_method_7_code 16 = .ok (.lushr, 1) := by decide +kernel
theorem d3_17 : decode prog_1_method_7_code 17 = .ok (.l2i, 1) := by decide +kernel
theorem d3_18 : decode prog_1_method_7_code 18 = .ok (.dup2, 1) := by decide +kernel
theorem d3_19 : decode prog_1_method_7_code 19 = .ok (.laload, 1) := by decide +kernel
theorem d3_20 : decode prog_1_method_7_code 20 = .ok (.lconst 1, 1) := by decide +kernel
theorem d3_21 : decode prog_1_method_7_code 21 = .ok (.lload_n 1, 1) := by decide +kernel
theorem d3_22 : decode prog_1_method_7_code 22 = .ok (.l2i, 1) := by decide +kernel
theorem d3_23 : decode prog_1_method_7_code 23 = .ok (.lshl, 1) := by decide +kernel
theorem d3_24 : decode prog_1_method_7_code 24 = .ok (.lor, 1) := by decide +kernel
theorem d3_25 : decode prog_1_method_7_code 25 = .ok (.lastore, 1) := by decide +kernel
theorem d3_26 : decode prog_1_method_7_code 26 = .ok (.return_, 1) := by decide +kernel
theorem ef_own_rm3 (m : MethodId) (x0 : Addr) (x1 : Int64) : entryFrame m #[(.ref x0), (.long x1)] 3 = mkF m 0 #[.val (.ref x0), .val (.long x1), .second] [] := by first | (simp [entryFrame, mkF, argsToLocals, Value.category]; done) | rfl
set_option maxRecDepth 65536 in
set_option maxHeartbeats 4000000 in
theorem own_pl_rm3_1 (q2 : Int64) (q1 : Int64) (hs : q1.toInt ≤ 4096) (hq : 0 ≤ q2.toInt) (hr : q2.toInt < q1.toInt) : ¬ ((((q2.toUInt64 >>> ((6 : Int32) &&& 0x3f).toInt64.toUInt64).toInt64).toInt32) < (0 : Int32)) := by
  have := rng64 q1
  have := rng64 q2
  have := rng64 ((q2.toUInt64 >>> ((6 : Int32) &&& 0x3f).toInt64.toUInt64).toInt64)
  have := own_lushr q2 (n := ((6 : Int32) &&& 0x3f).toInt64.toUInt64) (k := 6) (by decide) (by decide) (by decide)
  have := rng32 (((q2.toUInt64 >>> ((6 : Int32) &&& 0x3f).toInt64.toUInt64).toInt64).toInt32)
  have := own_l2i ((q2.toUInt64 >>> ((6 : Int32) &&& 0x3f).toInt64.toUInt64).toInt64)
  try simp only [own_i32_0, own_i32_6] at *
  have := own_i32_0
  have := own_i32_6
  try simp only [Int32.lt_iff_toInt_lt, Int32.le_iff_toInt_le, Int64.lt_iff_toInt_lt, Int64.le_iff_toInt_le, ← Int32.toInt_inj, ← Int64.toInt_inj, true_and, and_true, true_or, or_true, false_or, or_false, not_true_eq_false, not_false_eq_true, false_and, and_false, ne_eq] at *
  all_goals first | omega | (simp; done)
set_option maxRecDepth 65536 in
set_option maxHeartbeats 4000000 in
theorem own_pl_rm3_2 (q2 : Int64) (q1 : Int64) (hs : q1.toInt ≤ 4096) (hq : 0 ≤ q2.toInt) (hr : q2.toInt < q1.toInt) : ((((q2.toUInt64 >>> ((6 : Int32) &&& 0x3f).toInt64.toUInt64).toInt64).toInt32)).toNatClampNeg < own_nw q1 := by
  have := rng64 q1
  have := rng64 q2
  have := rng64 ((q2.toUInt64 >>> ((6 : Int32) &&& 0x3f).toInt64.toUInt64).toInt64)
  have := own_lushr q2 (n := ((6 : Int32) &&& 0x3f).toInt64.toUInt64) (k := 6) (by decide) (by decide) (by decide)
  have := rng32 (((q2.toUInt64 >>> ((6 : Int32) &&& 0x3f).toInt64.toUInt64).toInt64).toInt32)
  have := own_l2i ((q2.toUInt64 >>> ((6 : Int32) &&& 0x3f).toInt64.toUInt64).toInt64)
  try simp only [own_i32_6] at *
  have := own_i32_6
  try simp only [Int32.toNatClampNeg, own_nw, Int32.lt_iff_toInt_lt, Int64.lt_iff_toInt_lt, ← Int32.toInt_inj, ← Int64.toInt_inj] at *
  all_goals first | omega | (simp; done)
set_option maxRecDepth 65536 in
set_option maxHeartbeats 4000000 in
theorem own_pl_rm3_3 (q2 : Int64) (q1 : Int64) (hs : q1.toInt ≤ 4096) (hq : 0 ≤ q2.toInt) (hr : q2.toInt < q1.toInt) : ((((q2.toUInt64 >>> ((6 : Int32) &&& 0x3f).toInt64.toUInt64).toInt64).toInt32)).toNatClampNeg = q2.toInt.toNat / 64 := by
  have := rng64 q1
  have := rng64 q2
  have := rng64 ((q2.toUInt64 >>> ((6 : Int32) &&& 0x3f).toInt64.toUInt64).toInt64)
  have := own_lushr q2 (n := ((6 : Int32) &&& 0x3f).toInt64.toUInt64) (k := 6) (by decide) (by decide) (by decide)
  have := rng32 (((q2.toUInt64 >>> ((6 : Int32) &&& 0x3f).toInt64.toUInt64).toInt64).toInt32)
  have := own_l2i ((q2.toUInt64 >>> ((6 : Int32) &&& 0x3f).toInt64.toUInt64).toInt64)
  try simp only [own_i32_6] at *
  have := own_i32_6
  try simp only [Int32.toNatClampNeg, own_nw, Int32.lt_iff_toInt_lt, Int64.lt_iff_toInt_lt, ← Int32.toInt_inj, ← Int64.toInt_inj] at *
  all_goals first | omega | (simp; done)
def Q_own_rm3 (Z : State) (a1 : Addr) (w : Addr) (q2 : Int64) (q1 : Int64) (B : Nat → Bool) (h0 : Heap) (n0 : Nat) (v : Option Value) (h : Heap) (L : List Loc) : Prop := v = none ∧ Fr n0 L ∧ Keep h0 h [w] ∧ own_Bits Z h w (own_nw q1) (fun k => decide (k = q2.toInt.toNat) || B k)
set_option maxRecDepth 65536 in
set_option maxHeartbeats 400000000 in
theorem own_rm3 (l : Launch) (Z : State) (a0 : Array Value) (hw : ∀ d ∈ tables_1, d.before a0 Z = true) (ws : List Jvm.Cond) (a1 : Addr) (w : Addr) (q2 : Int64) (q1 : Int64) (B : Nat → Bool) (h0 : Heap) (n0 : Nat) (Z0 : n0 ≤ h0.size) (P_F_a1_size : Fld Z h0 a1 "com/example/kin_bloom/kinbloom/BitArray" "size" "J" (.long q1)) (P_F_a1_words : Fld Z h0 a1 "com/example/kin_bloom/kinbloom/BitArray" "words" "[J" (.ref w)) (P_G_w_bits : own_Bits Z h0 w (own_nw q1) (B)) (g_w : n0 ≤ w) (ne_a1_w : a1 ≠ w) (hs : q1.toInt ≤ 4096) (hq : 0 ≤ q2.toInt) (hr : q2.toInt < q1.toInt) :
    MetFree l (⟨"com/example/kin_bloom/kinbloom/BitArray", "set", "(J)V"⟩ : MethodName) (head1 (Jvm.Cond.code (⟨"com/example/kin_bloom/kinbloom/BitArray", "set", "(J)V"⟩ : MethodName) prog_1_method_7_code 3 none :: ws) R_own_rm3) (fun a U => a = #[(.ref a1), (.long q2)] ∧ Z.Warmed39 U.vm ∧ U.heap = h0) (fun _ _ _ _ _ => True) (fun _ U o U' => ∃ v L, o = .returned v ∧ Q_own_rm3 Z a1 w q2 q1 B h0 n0 v U'.heap L ∧ FrameEnd U o U' L R_own_rm3.cells R_own_rm3.slots) := by
  refine MetFree.of_bodySF (plainFor_of_name own_pn2) hisR ?_
  intro p e s m args below meth c s₁ Bd hml0 hP hK
  obtain ⟨rfl, hZ, hh⟩ := hP
  have hx := Bd.exec
  have hby := Bd.bytes
  have hml : c.maxLocals = 3 := hml0
  have hown : s.vm.findClass "com/example/kin_bloom/kinbloom/BitArray" = some m.cls := findClass_of_methodNamed Bd.named
  have hnm := (name_of_methodNamed Bd.named Bd.method).1
  have X0 : Stand p l e R_own_rm3 s m #[(.ref a1), (.long q2)] below meth c s₁ [] 0 0 := Stand.of_body Bd
  have e0 : s₁.heap = h0 := by rw [← hh, Bd.state]; rfl
  have N0 := Fr.nil n0
  have K0 : Keep h0 h0 [w] := Keep.refl h0 [w]
  show own_Fin p e below s (Q_own_rm3 Z a1 w q2 q1 B h0 n0) R_own_rm3.cells R_own_rm3.slots (s₁.setTop (entryFrame m #[(.ref a1), (.long q2)] 3))
  refine own_go (fun _ k => castTop (ef_own_rm3 m a1 q2) k) ?_
  show own_Fin _ _ _ _ _ _ _ (s₁.setTop (mkF m 0 #[.val (.ref a1), .val (.long q2), .second] []))
  refine own_go (B := s₁.setTop (mkF m 1 #[.val (.ref a1), .val (.long q2), .second] [(.long q2)])) (fun _ k => XS.lloadN X0.here hx rfl (hb hby d3_0) rfl  k) ?_
  refine own_go (B := s₁.setTop (mkF m 2 #[.val (.ref a1), .val (.long q2), .second] [(.ref a1), (.long q2)])) (fun _ k => XS.aloadN X0.here hx rfl (hb hby d3_1) rfl rfl k) ?_
  obtain ⟨T1, X1, e1, st1⟩ := getF X0 hx hZ hown (host := "") (Or.inl (own_w hw 12 rfl)) Via.refl e0 P_F_a1_size (g := (mkF m 2 #[.val (.ref a1), .val (.long q2), .second] [(.ref a1), (.long q2)])) rfl rfl (hb hby d3_2)
  refine own_go (B := T1.setTop (mkF m 5 #[.val (.ref a1), .val (.long q2), .second] [(.long q1), (.long q2)])) st1 ?_
  obtain ⟨_, _, ⟨T2, L2, k2, n2⟩, -, X2, ⟨Lc2, hQ2, l2, y2, z2⟩, st2⟩ := Jvm.LawKit.callS X1 hx (y := (⟨"java/util/Objects", "checkIndex", "(JJ)J"⟩ : MethodName)) hown (mvT hZ (own_w hw 23 rfl)) (mvT hZ (own_w hw 24 rfl)) (mvT hZ (own_w hw 25 rfl)) (mvT hZ (own_w hw 26 rfl)) (by decide) (backOf (W := 0) (own_rm4 l Z a0 hw [] q2 q1 h0 n0 (Nat.le_trans Z0 K0.1) hq hr) hZ (own_w hw 26 rfl) (own_w hw 25 rfl) (by decide) (by decide)) (g := (mkF m 5 #[.val (.ref a1), .val (.long q2), .second] [(.long q1), (.long q2)])) rfl (by rw [hml]; rfl) (argsL := [(.long q2), (.long q1)]) (rest := []) (lenOf own_pd1 rfl) rfl (by show 2 * 0 + _ ≤ _; exact Nat.le_of_eq rfl) (hb hby d3_5) (fun _ _ => ⟨rfl, e1, (by decide : 0 + 0 ≤ _), (by decide : 0 + 0 ≤ _)⟩)
  dsimp only [Pt.U, Pt.locs, Pt.cells, Pt.slots] at X2 l2 y2 z2 st2 hQ2
  subst l2 y2 z2
  obtain ⟨rfl, N2q, e2⟩ := hQ2
  have N2 := Fr.app N0 N2q
  refine own_go (B := T2.setTop (mkF m 8 #[.val (.ref a1), .val (.long q2), .second] [(.long q2)])) st2 ?_
  refine own_go (B := T2.setTop (mkF m 9 #[.val (.ref a1), .val (.long q2), .second] [])) (fun _ k => own_pop2L X2.here hx rfl (hb hby d3_8) rfl k) ?_
  refine own_go (B := T2.setTop (mkF m 10 #[.val (.ref a1), .val (.long q2), .second] [(.ref a1)])) (fun _ k => XS.aloadN X2.here hx rfl (hb hby d3_9) rfl rfl k) ?_
  obtain ⟨T3, X3, e3, st3⟩ := getF X2 hx hZ hown (host := "") (Or.inl (own_w hw 16 rfl)) Via.refl e2 P_F_a1_words (g := (mkF m 10 #[.val (.ref a1), .val (.long q2), .second] [(.ref a1)])) rfl rfl (hb hby d3_10)
  refine own_go (B := T3.setTop (mkF m 13 #[.val (.ref a1), .val (.long q2), .second] [(.ref w)])) st3 ?_
  refine own_go (B := T3.setTop (mkF m 14 #[.val (.ref a1), .val (.long q2), .second] [(.long q2), (.ref w)])) (fun _ k => XS.lloadN X3.here hx rfl (hb hby d3_13) rfl  k) ?_
  refine own_go (B := T3.setTop (mkF m 16 #[.val (.ref a1), .val (.long q2), .second] [(.int (6 : Int32)), (.long q2), (.ref w)])) (fun _ k => XS.bipush X3.here hx rfl (hb hby d3_14) k) ?_
  refine own_go (B := T3.setTop (mkF m 17 #[.val (.ref a1), .val (.long q2), .second] [(.long ((q2.toUInt64 >>> ((6 : Int32) &&& 0x3f).toInt64.toUInt64).toInt64)), (.ref w)])) (fun _ k => XS.lushr X3.here hx rfl (hb hby d3_16) rfl k) ?_
  refine own_go (B := T3.setTop (mkF m 18 #[.val (.ref a1), .val (.long q2), .second] [(.int (((q2.toUInt64 >>> ((6 : Int32) &&& 0x3f).toInt64.toUInt64).toInt64).toInt32)), (.ref w)])) (fun _ k => XS.l2i X3.here hx rfl (hb hby d3_17) rfl k) ?_
  refine own_go (B := T3.setTop (mkF m 19 #[.val (.ref a1), .val (.long q2), .second] [(.int (((q2.toUInt64 >>> ((6 : Int32) &&& 0x3f).toInt64.toUInt64).toInt64).toInt32)), (.ref w), (.int (((q2.toUInt64 >>> ((6 : Int32) &&& 0x3f).toInt64.toUInt64).toInt64).toInt32)), (.ref w)])) (fun _ k => own_dup2 X3.here hx rfl (hb hby d3_18) rfl rfl rfl k) ?_
  obtain ⟨cl4, Ar4, sz4, el4⟩ := id P_G_w_bits
  have hj4 : ((((q2.toUInt64 >>> ((6 : Int32) &&& 0x3f).toInt64.toUInt64).toInt64).toInt32)).toNatClampNeg < own_nw q1 := (own_pl_rm3_2 q2 q1 hs hq hr)
  have hin4 : ¬ ((((q2.toUInt64 >>> ((6 : Int32) &&& 0x3f).toInt64.toUInt64).toInt64).toInt32) < 0 ∨ cl4.slots.size ≤ ((((q2.toUInt64 >>> ((6 : Int32) &&& 0x3f).toInt64.toUInt64).toInt64).toInt32)).toNatClampNeg) := fun q => q.elim (own_pl_rm3_1 q2 q1 hs hq hr) (fun r => absurd hj4 (Nat.not_lt.mpr (sz4 ▸ r)))
  obtain ⟨x4, hx4, hb4⟩ := el4 _ hj4
  refine own_go (B := T3.setTop (mkF m 20 #[.val (.ref a1), .val (.long q2), .second] [(.long x4), (.int (((q2.toUInt64 >>> ((6 : Int32) &&& 0x3f).toInt64.toUInt64).toInt64).toInt32)), (.ref w)])) (fun _ k => X3.laload hx (j := (((q2.toUInt64 >>> ((6 : Int32) &&& 0x3f).toInt64.toUInt64).toInt64).toInt32)) (v := .long x4) (own_hc e3 Ar4.1) (State.isArrayOf_alike hZ.alike Ar4.2.1) Ar4.2.2 hin4 hx4 (g := (mkF m 19 #[.val (.ref a1), .val (.long q2), .second] [(.int (((q2.toUInt64 >>> ((6 : Int32) &&& 0x3f).toInt64.toUInt64).toInt64).toInt32)), (.ref w), (.int (((q2.toUInt64 >>> ((6 : Int32) &&& 0x3f).toInt64.toUInt64).toInt64).toInt32)), (.ref w)])) rfl rfl (hb hby d3_19) _ k) ?_
  refine own_go (B := T3.setTop (mkF m 21 #[.val (.ref a1), .val (.long q2), .second] [(.long (1 : Int64)), (.long x4), (.int (((q2.toUInt64 >>> ((6 : Int32) &&& 0x3f).toInt64.toUInt64).toInt64).toInt32)), (.ref w)])) (fun _ k => XS.lconst X3.here hx rfl (hb hby d3_20) k) ?_
  refine own_go (B := T3.setTop (mkF m 22 #[.val (.ref a1), .val (.long q2), .second] [(.long q2), (.long (1 : Int64)), (.long x4), (.int (((q2.toUInt64 >>> ((6 : Int32) &&& 0x3f).toInt64.toUInt64).toInt64).toInt32)), (.ref w)])) (fun _ k => XS.lloadN X3.here hx rfl (hb hby d3_21) rfl  k) ?_
  refine own_go (B := T3.setTop (mkF m 23 #[.val (.ref a1), .val (.long q2), .second] [(.int (q2.toInt32)), (.long (1 : Int64)), (.long x4), (.int (((q2.toUInt64 >>> ((6 : Int32) &&& 0x3f).toInt64.toUInt64).toInt64).toInt32)), (.ref w)])) (fun _ k => XS.l2i X3.here hx rfl (hb hby d3_22) rfl k) ?_
  refine own_go (B := T3.setTop (mkF m 24 #[.val (.ref a1), .val (.long q2), .second] [(.long ((1 : Int64) <<< ((q2.toInt32) &&& 0x3f).toInt64)), (.long x4), (.int (((q2.toUInt64 >>> ((6 : Int32) &&& 0x3f).toInt64.toUInt64).toInt64).toInt32)), (.ref w)])) (fun _ k => XS.lshl X3.here hx rfl (hb hby d3_23) rfl k) ?_
  refine own_go (B := T3.setTop (mkF m 25 #[.val (.ref a1), .val (.long q2), .second] [(.long (x4 ||| ((1 : Int64) <<< ((q2.toInt32) &&& 0x3f).toInt64))), (.int (((q2.toUInt64 >>> ((6 : Int32) &&& 0x3f).toInt64.toUInt64).toInt64).toInt32)), (.ref w)])) (fun _ k => XS.lor X3.here hx rfl (hb hby d3_24) rfl k) ?_
  obtain ⟨T5, h5, X5, e5, W5, st5⟩ := stJ X3 hx hZ e3 Ar4 (j := (((q2.toUInt64 >>> ((6 : Int32) &&& 0x3f).toInt64.toUInt64).toInt64).toInt32)) hin4 (g := (mkF m 25 #[.val (.ref a1), .val (.long q2), .second] [(.long (x4 ||| ((1 : Int64) <<< ((q2.toInt32) &&& 0x3f).toInt64))), (.int (((q2.toUInt64 >>> ((6 : Int32) &&& 0x3f).toInt64.toUInt64).toInt64).toInt32)), (.ref w)])) rfl rfl (hb hby d3_25)
  have hJ5 := (own_pl_rm3_3 q2 q1 hs hq hr)
  have G5 : own_Bits Z h5 w (own_nw q1) (fun k => decide (k = q2.toInt.toNat) || B k) := own_Bits.upd Ar4 sz4 el4 W5 hj4 (own_set hq hJ5 hb4) (fun k hk => by
    have : k ≠ q2.toInt.toNat := fun e => hk (by rw [hJ5, e])
    simp only [decide_eq_false this, Bool.false_or, Bool.not_false, Bool.true_and])
  have F_7 := P_F_a1_size.other W5 (Or.inl ne_a1_w)
  have F_8 := P_F_a1_words.other W5 (Or.inl ne_a1_w)
  have K10 : Keep h0 h5 [w] := K0.wr W5 (Or.inl (List.mem_of_getElem? (i := 0) rfl))
  have N5 := Fr.snoc X5 N2 g_w
  refine own_go (B := T5.setTop (mkF m 26 #[.val (.ref a1), .val (.long q2), .second] [])) st5 ?_
  exact own_retV X5 hx Bd.notSynchronized Bd.returns (hb hby d3_26) e5 ⟨rfl, N5, K10, G5⟩ (by decide) (by decide)
abbrev R_own_rm7 : Room := { frames := 2, cells := 0, slots := 0, locals := 31 }
theorem d7_0 : decode prog_1_method_8_code 0 = .ok (.lload_n 1, 1) := by decide +kernel
theorem d7_1 : decode prog_1_method_8_code 1 = .ok (.aload_n 0, 1) := by decide +kernel
theorem d7_2 : decode prog_1_method_8_code 2 = .ok (.getfield 24, 3) := by decide +kernel
theorem d7_5 : decode prog_1_method_8_code 5 = .ok (.invokestatic 39, 3) := by decide +kernel
theorem d7_8 : decode prog_1_method_8_code 8 = .ok (.pop2, 1) := by decide +kernel
theorem d7_9 : decode prog_1_method_8_code 9 = .ok (.aload_n 0, 1) := by decide +kernel
theorem d7_10 : decode prog_1_method_8_code 10 = .ok (.getfield 30, 3) := by decide +kernel
theorem d7_13 : decode prog_1_method_8_code 13 = .ok (.lload_n 1, 1) := by decide +kernel
theorem d7_14 : decode prog_1_method_8_code 14 = .ok (.bipush 6, 2) := by decide +kernel
theorem d7_16 : decode prog_1_method_8_code 16 = .ok (.lushr, 1) := by decide +kernel
theorem d7_17 : decode prog_1_method_8_code 17 = .ok (.l2i, 1) := by decide +kernel
theorem d7_18 : decode prog_1_method_8_code 18 = .ok (.dup2, 1) := by decide +kernel
theorem d7_19 : decode prog_1_method_8_code 19 = .ok (.laload, 1) := by decide +kernel
theorem d7_20 : decode prog_1_method_8_code 20 = .ok (.lconst 1, 1) := by decide +kernel
theorem d7_21 : decode prog_1_method_8_code 21 = .ok (.lload_n 1, 1) := by decide +kernel
theorem d7_22 : decode prog_1_method_8_code 22 = .ok (.l2i, 1) := by decide +kernel
theorem d7_23 : decode prog_1_method_8_code 23 = .ok (.lshl, 1) := by decide +kernel
theorem d7_24 : decode prog_1_method_8_code 24 = .ok (.ldc2_w 49, 3) := by decide +kernel
theorem d7_27 : decode prog_1_method_8_code 27 = .ok (.lxor, 1) := by decide +kernel
theorem d7_28 : decode prog_1_method_8_code 28 = .ok (.land, 1) := by decide +kernel
theorem d7_29 : decode prog_1_method_8_code 29 = .ok (.lastore, 1) := by decide +kernel
theorem d7_30 : decode prog_1_method_8_code 30 = .ok (.return_, 1) := by decide +kernel
theorem ef_own_rm7 (m : MethodId) (x0 : Addr) (x1 : Int64) : entryFrame m #[(.ref x0), (.long x1)] 3 = mkF m 0 #[.val (.ref x0), .val (.long x1), .second] [] := by first | (simp [entryFrame, mkF, argsToLocals, Value.category]; done) | rfl
set_option maxRecDepth 65536 in
set_option maxHeartbeats 4000000 in
theorem own_pl_rm7_1 (q2 : Int64) (q1 : Int64) (hs : q1.toInt ≤ 4096) (hq : 0 ≤ q2.toInt) (hr : q2.toInt < q1.toInt) : ¬ ((((q2.toUInt64 >>> ((6 : Int32) &&& 0x3f).toInt64.toUInt64).toInt64).toInt32) < (0 : Int32)) := by
  have := rng64 q1
  have := rng64 q2
  have := rng64 ((q2.toUInt64 >>> ((6 : Int32) &&& 0x3f).toInt64.toUInt64).toInt64)
  have := own_lushr q2 (n := ((6 : Int32) &&& 0x3f).toInt64.toUInt64) (k := 6) (by decide) (by decide) (by decide)
  have := rng32 (((q2.toUInt64 >>> ((6 : Int32) &&& 0x3f).toInt64.toUInt64).toInt64).toInt32)
  have := own_l2i ((q2.toUInt64 >>> ((6 : Int32) &&& 0x3f).toInt64.toUInt64).toInt64)
  try simp only [own_i32_0, own_i32_6] at *
  have := own_i32_0
  have := own_i32_6
  try simp only [Int32.lt_iff_toInt_lt, Int32.le_iff_toInt_le, Int64.lt_iff_toInt_lt, Int64.le_iff_toInt_le, ← Int32.toInt_inj, ← Int64.toInt_inj, true_and, and_true, true_or, or_true, false_or, or_false, not_true_eq_false, not_false_eq_true, false_and, and_false, ne_eq] at *
  all_goals first | omega | (simp; done)
set_option maxRecDepth 65536 in
set_option maxHeartbeats 4000000 in
theorem own_pl_rm7_2 (q2 : Int64) (q1 : Int64) (hs : q1.toInt ≤ 4096) (hq : 0 ≤ q2.toInt) (hr : q2.toInt < q1.toInt) : ((((q2.toUInt64 >>> ((6 : Int32) &&& 0x3f).toInt64.toUInt64).toInt64).toInt32)).toNatClampNeg < own_nw q1 := by
  have := rng64 q1
  have := rng64 q2
  have := rng64 ((q2.toUInt64 >>> ((6 : Int32) &&& 0x3f).toInt64.toUInt64).toInt64)
  have := own_lushr q2 (n := ((6 : Int32) &&& 0x3f).toInt64.toUInt64) (k := 6) (by decide) (by decide) (by decide)
  have := rng32 (((q2.toUInt64 >>> ((6 : Int32) &&& 0x3f).toInt64.toUInt64).toInt64).toInt32)
  have := own_l2i ((q2.toUInt64 >>> ((6 : Int32) &&& 0x3f).toInt64.toUInt64).toInt64)
  try simp only [own_i32_6] at *
  have := own_i32_6
  try simp only [Int32.toNatClampNeg, own_nw, Int32.lt_iff_toInt_lt, Int64.lt_iff_toInt_lt, ← Int32.toInt_inj, ← Int64.toInt_inj] at *
  all_goals first | omega | (simp; done)
set_option maxRecDepth 65536 in
set_option maxHeartbeats 4000000 in
theorem own_pl_rm7_3 (q2 : Int64) (q1 : Int64) (hs : q1.toInt ≤ 4096) (hq : 0 ≤ q2.toInt) (hr : q2.toInt < q1.toInt) : ((((q2.toUInt64 >>> ((6 : Int32) &&& 0x3f).toInt64.toUInt64).toInt64).toInt32)).toNatClampNeg = q2.toInt.toNat / 64 := by
  have := rng64 q1
  have := rng64 q2
  have := rng64 ((q2.toUInt64 >>> ((6 : Int32) &&& 0x3f).toInt64.toUInt64).toInt64)
  have := own_lushr q2 (n := ((6 : Int32) &&& 0x3f).toInt64.toUInt64) (k := 6) (by decide) (by decide) (by decide)
  have := rng32 (((q2.toUInt64 >>> ((6 : Int32) &&& 0x3f).toInt64.toUInt64).toInt64).toInt32)
  have := own_l2i ((q2.toUInt64 >>> ((6 : Int32) &&& 0x3f).toInt64.toUInt64).toInt64)
  try simp only [own_i32_6] at *
  have := own_i32_6
  try simp only [Int32.toNatClampNeg, own_nw, Int32.lt_iff_toInt_lt, Int64.lt_iff_toInt_lt, ← Int32.toInt_inj, ← Int64.toInt_inj] at *
  all_goals first | omega | (simp; done)
def Q_own_rm7 (Z : State) (a1 : Addr) (w : Addr) (q2 : Int64) (q1 : Int64) (B : Nat → Bool) (h0 : Heap) (n0 : Nat) (v : Option Value) (h : Heap) (L : List Loc) : Prop := v = none ∧ Fr n0 L ∧ Keep h0 h [w] ∧ own_Bits Z h w (own_nw q1) (fun k => !decide (k = q2.toInt.toNat) && B k)
set_option maxRecDepth 65536 in
set_option maxHeartbeats 400000000 in
theorem own_rm7 (l : Launch) (Z : State) (a0 : Array Value) (hw : ∀ d ∈ tables_1, d.before a0 Z = true) (ws : List Jvm.Cond) (a1 : Addr) (w : Addr) (q2 : Int64) (q1 : Int64) (B : Nat → Bool) (h0 : Heap) (n0 : Nat) (Z0 : n0 ≤ h0.size) (P_F_a1_size : Fld Z h0 a1 "com/example/kin_bloom/kinbloom/BitArray" "size" "J" (.long q1)) (P_F_a1_words : Fld Z h0 a1 "com/example/kin_bloom/kinbloom/BitArray" "words" "[J" (.ref w)) (P_G_w_bits : own_Bits Z h0 w (own_nw q1) (B)) (g_w : n0 ≤ w) (ne_a1_w : a1 ≠ w) (hs : q1.toInt ≤ 4096) (hq : 0 ≤ q2.toInt) (hr : q2.toInt < q1.toInt) :
    MetFree l (⟨"com/example/kin_bloom/kinbloom/BitArray", "clear", "(J)V"⟩ : MethodName) (head1 (Jvm.Cond.code (⟨"com/example/kin_bloom/kinbloom/BitArray", "clear", "(J)V"⟩ : MethodName) prog_1_method_8_code 3 none :: ws) R_own_rm7) (fun a U => a = #[(.ref a1), (.long q2)] ∧ Z.Warmed39 U.vm ∧ U.heap = h0) (fun _ _ _ _ _ => True) (fun _ U o U' => ∃ v L, o = .returned v ∧ Q_own_rm7 Z a1 w q2 q1 B h0 n0 v U'.heap L ∧ FrameEnd U o U' L R_own_rm7.cells R_own_rm7.slots) := by
  refine MetFree.of_bodySF (plainFor_of_name own_pn2) hisR ?_
  intro p e s m args below meth c s₁ Bd hml0 hP hK
  obtain ⟨rfl, hZ, hh⟩ := hP
  have hx := Bd.exec
  have hby := Bd.bytes
  have hml : c.maxLocals = 3 := hml0
  have hown : s.vm.findClass "com/example/kin_bloom/kinbloom/BitArray" = some m.cls := findClass_of_methodNamed Bd.named
  have hnm := (name_of_methodNamed Bd.named Bd.method).1
  have X0 : Stand p l e R_own_rm7 s m #[(.ref a1), (.long q2)] below meth c s₁ [] 0 0 := Stand.of_body Bd
  have e0 : s₁.heap = h0 := by rw [← hh, Bd.state]; rfl
  have N0 := Fr.nil n0
  have K0 : Keep h0 h0 [w] := Keep.refl h0 [w]
  show own_Fin p e below s (Q_own_rm7 Z a1 w q2 q1 B h0 n0) R_own_rm7.cells R_own_rm7.slots (s₁.setTop (entryFrame m #[(.ref a1), (.long q2)] 3))
  refine own_go (fun _ k => castTop (ef_own_rm7 m a1 q2) k) ?_
  show own_Fin _ _ _ _ _ _ _ (s₁.setTop (mkF m 0 #[.val (.ref a1), .val (.long q2), .second] []))
  refine own_go (B := s₁.setTop (mkF m 1 #[.val (.ref a1), .val (.long q2), .second] [(.long q2)])) (fun _ k => XS.lloadN X0.here hx rfl (hb hby d7_0) rfl  k) ?_
  refine own_go (B := s₁.setTop (mkF m 2 #[.val (.ref a1), .val (.long q2), .second] [(.ref a1), (.long q2)])) (fun _ k => XS.aloadN X0.here hx rfl (hb hby d7_1) rfl rfl k) ?_
  obtain ⟨T1, X1, e1, st1⟩ := getF X0 hx hZ hown (host := "") (Or.inl (own_w hw 12 rfl)) Via.refl e0 P_F_a1_size (g := (mkF m 2 #[.val (.ref a1), .val (.long q2), .second] [(.ref a1), (.long q2)])) rfl rfl (hb hby d7_2)
  refine own_go (B := T1.setTop (mkF m 5 #[.val (.ref a1), .val (.long q2), .second] [(.long q1), (.long q2)])) st1 ?_
  obtain ⟨_, _, ⟨T2, L2, k2, n2⟩, -, X2, ⟨Lc2, hQ2, l2, y2, z2⟩, st2⟩ := Jvm.LawKit.callS X1 hx (y := (⟨"java/util/Objects", "checkIndex", "(JJ)J"⟩ : MethodName)) hown (mvT hZ (own_w hw 23 rfl)) (mvT hZ (own_w hw 24 rfl)) (mvT hZ (own_w hw 25 rfl)) (mvT hZ (own_w hw 26 rfl)) (by decide) (backOf (W := 0) (own_rm4 l Z a0 hw [] q2 q1 h0 n0 (Nat.le_trans Z0 K0.1) hq hr) hZ (own_w hw 26 rfl) (own_w hw 25 rfl) (by decide) (by decide)) (g := (mkF m 5 #[.val (.ref a1), .val (.long q2), .second] [(.long q1), (.long q2)])) rfl (by rw [hml]; rfl) (argsL := [(.long q2), (.long q1)]) (rest := []) (lenOf own_pd1 rfl) rfl (by show 2 * 0 + _ ≤ _; exact Nat.le_of_eq rfl) (hb hby d7_5) (fun _ _ => ⟨rfl, e1, (by decide : 0 + 0 ≤ _), (by decide : 0 + 0 ≤ _)⟩)
  dsimp only [Pt.U, Pt.locs, Pt.cells, Pt.slots] at X2 l2 y2 z2 st2 hQ2
  subst l2 y2 z2
  obtain ⟨rfl, N2q, e2⟩ := hQ2
  have N2 := Fr.app N0 N2q
  refine own_go (B := T2.setTop (mkF m 8 #[.val (.ref a1), .val (.long q2), .second] [(.long q2)])) st2 ?_
  refine own_go (B := T2.setTop (mkF m 9 #[.val (.ref a1), .val (.long q2), .second] [])) (fun _ k => own_pop2L X2.here hx rfl (hb hby d7_8) rfl k) ?_
  refine own_go (B := T2.setTop (mkF m 10 #[.val (.ref a1), .val (.long q2), .second] [(.ref a1)])) (fun _ k => XS.aloadN X2.here hx rfl (hb hby d7_9) rfl rfl k) ?_
  obtain ⟨T3, X3, e3, st3⟩ := getF X2 hx hZ hown (host := "") (Or.inl (own_w hw 16 rfl)) Via.refl e2 P_F_a1_words (g := (mkF m 10 #[.val (.ref a1), .val (.long q2), .second] [(.ref a1)])) rfl rfl (hb hby d7_10)
  refine own_go (B := T3.setTop (mkF m 13 #[.val (.ref a1), .val (.long q2), .second] [(.ref w)])) st3 ?_
  refine own_go (B := T3.setTop (mkF m 14 #[.val (.ref a1), .val (.long q2), .second] [(.long q2), (.ref w)])) (fun _ k => XS.lloadN X3.here hx rfl (hb hby d7_13) rfl  k) ?_
  refine own_go (B := T3.setTop (mkF m 16 #[.val (.ref a1), .val (.long q2), .second] [(.int (6 : Int32)), (.long q2), (.ref w)])) (fun _ k => XS.bipush X3.here hx rfl (hb hby d7_14) k) ?_
  refine own_go (B := T3.setTop (mkF m 17 #[.val (.ref a1), .val (.long q2), .second] [(.long ((q2.toUInt64 >>> ((6 : Int32) &&& 0x3f).toInt64.toUInt64).toInt64)), (.ref w)])) (fun _ k => XS.lushr X3.here hx rfl (hb hby d7_16) rfl k) ?_
  refine own_go (B := T3.setTop (mkF m 18 #[.val (.ref a1), .val (.long q2), .second] [(.int (((q2.toUInt64 >>> ((6 : Int32) &&& 0x3f).toInt64.toUInt64).toInt64).toInt32)), (.ref w)])) (fun _ k => XS.l2i X3.here hx rfl (hb hby d7_17) rfl k) ?_
  refine own_go (B := T3.setTop (mkF m 19 #[.val (.ref a1), .val (.long q2), .second] [(.int (((q2.toUInt64 >>> ((6 : Int32) &&& 0x3f).toInt64.toUInt64).toInt64).toInt32)), (.ref w), (.int (((q2.toUInt64 >>> ((6 : Int32) &&& 0x3f).toInt64.toUInt64).toInt64).toInt32)), (.ref w)])) (fun _ k => own_dup2 X3.here hx rfl (hb hby d7_18) rfl rfl rfl k) ?_
  obtain ⟨cl4, Ar4, sz4, el4⟩ := id P_G_w_bits
  have hj4 : ((((q2.toUInt64 >>> ((6 : Int32) &&& 0x3f).toInt64.toUInt64).toInt64).toInt32)).toNatClampNeg < own_nw q1 := (own_pl_rm7_2 q2 q1 hs hq hr)
  have hin4 : ¬ ((((q2.toUInt64 >>> ((6 : Int32) &&& 0x3f).toInt64.toUInt64).toInt64).toInt32) < 0 ∨ cl4.slots.size ≤ ((((q2.toUInt64 >>> ((6 : Int32) &&& 0x3f).toInt64.toUInt64).toInt64).toInt32)).toNatClampNeg) := fun q => q.elim (own_pl_rm7_1 q2 q1 hs hq hr) (fun r => absurd hj4 (Nat.not_lt.mpr (sz4 ▸ r)))
  obtain ⟨x4, hx4, hb4⟩ := el4 _ hj4
  refine own_go (B := T3.setTop (mkF m 20 #[.val (.ref a1), .val (.long q2), .second] [(.long x4), (.int (((q2.toUInt64 >>> ((6 : Int32) &&& 0x3f).toInt64.toUInt64).toInt64).toInt32)), (.ref w)])) (fun _ k => X3.laload hx (j := (((q2.toUInt64 >>> ((6 : Int32) &&& 0x3f).toInt64.toUInt64).toInt64).toInt32)) (v := .long x4) (own_hc e3 Ar4.1) (State.isArrayOf_alike hZ.alike Ar4.2.1) Ar4.2.2 hin4 hx4 (g := (mkF m 19 #[.val (.ref a1), .val (.long q2), .second] [(.int (((q2.toUInt64 >>> ((6 : Int32) &&& 0x3f).toInt64.toUInt64).toInt64).toInt32)), (.ref w), (.int (((q2.toUInt64 >>> ((6 : Int32) &&& 0x3f).toInt64.toUInt64).toInt64).toInt32)), (.ref w)])) rfl rfl (hb hby d7_19) _ k) ?_
  refine own_go (B := T3.setTop (mkF m 21 #[.val (.ref a1), .val (.long q2), .second] [(.long (1 : Int64)), (.long x4), (.int (((q2.toUInt64 >>> ((6 : Int32) &&& 0x3f).toInt64.toUInt64).toInt64).toInt32)), (.ref w)])) (fun _ k => XS.lconst X3.here hx rfl (hb hby d7_20) k) ?_
  refine own_go (B := T3.setTop (mkF m 22 #[.val (.ref a1), .val (.long q2), .second] [(.long q2), (.long (1 : Int64)), (.long x4), (.int (((q2.toUInt64 >>> ((6 : Int32) &&& 0x3f).toInt64.toUInt64).toInt64).toInt32)), (.ref w)])) (fun _ k => XS.lloadN X3.here hx rfl (hb hby d7_21) rfl  k) ?_
  refine own_go (B := T3.setTop (mkF m 23 #[.val (.ref a1), .val (.long q2), .second] [(.int (q2.toInt32)), (.long (1 : Int64)), (.long x4), (.int (((q2.toUInt64 >>> ((6 : Int32) &&& 0x3f).toInt64.toUInt64).toInt64).toInt32)), (.ref w)])) (fun _ k => XS.l2i X3.here hx rfl (hb hby d7_22) rfl k) ?_
  refine own_go (B := T3.setTop (mkF m 24 #[.val (.ref a1), .val (.long q2), .second] [(.long ((1 : Int64) <<< ((q2.toInt32) &&& 0x3f).toInt64)), (.long x4), (.int (((q2.toUInt64 >>> ((6 : Int32) &&& 0x3f).toInt64.toUInt64).toInt64).toInt32)), (.ref w)])) (fun _ k => XS.lshl X3.here hx rfl (hb hby d7_23) rfl k) ?_
  refine own_go (B := T3.setTop (mkF m 27 #[.val (.ref a1), .val (.long q2), .second] [(.long (-1 : Int64)), (.long ((1 : Int64) <<< ((q2.toInt32) &&& 0x3f).toInt64)), (.long x4), (.int (((q2.toUInt64 >>> ((6 : Int32) &&& 0x3f).toInt64.toUInt64).toInt64).toInt32)), (.ref w)])) (fun _ k => X3.ldc2Long hx hown (mvT hZ (own_w hw 41 rfl)) (g := (mkF m 24 #[.val (.ref a1), .val (.long q2), .second] [(.long ((1 : Int64) <<< ((q2.toInt32) &&& 0x3f).toInt64)), (.long x4), (.int (((q2.toUInt64 >>> ((6 : Int32) &&& 0x3f).toInt64.toUInt64).toInt64).toInt32)), (.ref w)])) rfl (hb hby d7_24) _ k) ?_
  refine own_go (B := T3.setTop (mkF m 28 #[.val (.ref a1), .val (.long q2), .second] [(.long (((1 : Int64) <<< ((q2.toInt32) &&& 0x3f).toInt64) ^^^ (-1 : Int64))), (.long x4), (.int (((q2.toUInt64 >>> ((6 : Int32) &&& 0x3f).toInt64.toUInt64).toInt64).toInt32)), (.ref w)])) (fun _ k => XS.lxor X3.here hx rfl (hb hby d7_27) rfl k) ?_
  refine own_go (B := T3.setTop (mkF m 29 #[.val (.ref a1), .val (.long q2), .second] [(.long (x4 &&& (((1 : Int64) <<< ((q2.toInt32) &&& 0x3f).toInt64) ^^^ (-1 : Int64)))), (.int (((q2.toUInt64 >>> ((6 : Int32) &&& 0x3f).toInt64.toUInt64).toInt64).toInt32)), (.ref w)])) (fun _ k => XS.land X3.here hx rfl (hb hby d7_28) rfl k) ?_
  obtain ⟨T5, h5, X5, e5, W5, st5⟩ := stJ X3 hx hZ e3 Ar4 (j := (((q2.toUInt64 >>> ((6 : Int32) &&& 0x3f).toInt64.toUInt64).toInt64).toInt32)) hin4 (g := (mkF m 29 #[.val (.ref a1), .val (.long q2), .second] [(.long (x4 &&& (((1 : Int64) <<< ((q2.toInt32) &&& 0x3f).toInt64) ^^^ (-1 : Int64)))), (.int (((q2.toUInt64 >>> ((6 : Int32) &&& 0x3f).toInt64.toUInt64).toInt64).toInt32)), (.ref w)])) rfl rfl (hb hby d7_29)
  have hJ5 := (own_pl_rm7_3 q2 q1 hs hq hr)
  have G5 : own_Bits Z h5 w (own_nw q1) (fun k => !decide (k = q2.toInt.toNat) && B k) := own_Bits.upd Ar4 sz4 el4 W5 hj4 (own_clr hq hJ5 hb4) (fun k hk => by
    have : k ≠ q2.toInt.toNat := fun e => hk (by rw [hJ5, e])
    simp only [decide_eq_false this, Bool.false_or, Bool.not_false, Bool.true_and])
  have F_7 := P_F_a1_size.other W5 (Or.inl ne_a1_w)
  have F_8 := P_F_a1_words.other W5 (Or.inl ne_a1_w)
  have K10 : Keep h0 h5 [w] := K0.wr W5 (Or.inl (List.mem_of_getElem? (i := 0) rfl))
  have N5 := Fr.snoc X5 N2 g_w
  refine own_go (B := T5.setTop (mkF m 30 #[.val (.ref a1), .val (.long q2), .second] [])) st5 ?_
  exact own_retV X5 hx Bd.notSynchronized Bd.returns (hb hby d7_30) e5 ⟨rfl, N5, K10, G5⟩ (by decide) (by decide)
abbrev R_own_rm6 : Room := { frames := 0, cells := 0, slots := 0, locals := 0 }
theorem d6_0 : decode prog_1_method_5_code 0 = .ok (.aload_n 0, 1) := by decide +kernel
theorem d6_1 : decode prog_1_method_5_code 1 = .ok (.getfield 30, 3) := by decide +kernel
theorem d6_4 : decode prog_1_method_5_code 4 = .ok (.lload_n 1, 1) := by decide +kernel
theorem d6_5 : decode prog_1_method_5_code 5 = .ok (.bipush 6, 2) := by decide +kernel
theorem d6_7 : decode prog_1_method_5_code 7 = .ok (.lushr, 1) := by decide +kernel
theorem d6_8 : decode prog_1_method_5_code 8 = .ok (.l2i, 1) := by decide +kernel
theorem d6_9 : decode prog_1_method_5_code 9 = .ok (.laload, 1) := by decide +kernel
theorem d6_10 : decode prog_1_method_5_code 10 = .ok (.lload_n 1, 1) := by decide +kernel
theorem d6_11 : decode prog_1_method_5_code 11 = .ok (.l2i, 1) := by decide +kernel
theorem d6_12 : decode prog_1_method_5_code 12 = .ok (.lushr, 1) := by decide +kernel
theorem d6_13 : decode prog_1_method_5_code 13 = .ok (.lconst 1, 1) := by decide +kernel
theorem d6_14 : decode prog_1_method_5_code 14 = .ok (.land, 1) := by decide +kernel
theorem d6_15 : decode prog_1_method_5_code 15 = .ok (.lreturn, 1) := by decide +kernel
theorem ef_own_rm6 (m : MethodId) (x0 : Addr) (x1 : Int64) : entryFrame m #[(.ref x0), (.long x1)] 3 = mkF m 0 #[.val (.ref x0), .val (.long x1), .second] [] := by first | (simp [entryFrame, mkF, argsToLocals, Value.category]; done) | rfl
set_option maxRecDepth 65536 in
set_option maxHeartbeats 4000000 in
theorem own_pl_rm6_1 (q2 : Int64) (q1 : Int64) (hs : q1.toInt ≤ 4096) (hq : 0 ≤ q2.toInt) (hr : q2.toInt < q1.toInt) : ¬ ((((q2.toUInt64 >>> ((6 : Int32) &&& 0x3f).toInt64.toUInt64).toInt64).toInt32) < (0 : Int32)) := by
  have := rng64 q1
  have := rng64 q2
  have := rng64 ((q2.toUInt64 >>> ((6 : Int32) &&& 0x3f).toInt64.toUInt64).toInt64)
  have := own_lushr q2 (n := ((6 : Int32) &&& 0x3f).toInt64.toUInt64) (k := 6) (by decide) (by decide) (by decide)
  have := rng32 (((q2.toUInt64 >>> ((6 : Int32) &&& 0x3f).toInt64.toUInt64).toInt64).toInt32)
  have := own_l2i ((q2.toUInt64 >>> ((6 : Int32) &&& 0x3f).toInt64.toUInt64).toInt64)
  try simp only [own_i32_0, own_i32_6] at *
  have := own_i32_0
  have := own_i32_6
  try simp only [Int32.lt_iff_toInt_lt, Int32.le_iff_toInt_le, Int64.lt_iff_toInt_lt, Int64.le_iff_toInt_le, ← Int32.toInt_inj, ← Int64.toInt_inj, true_and, and_true, true_or, or_true, false_or, or_false, not_true_eq_false, not_false_eq_true, false_and, and_false, ne_eq] at *
  all_goals first | omega | (simp; done)
set_option maxRecDepth 65536 in
set_option maxHeartbeats 4000000 in
theorem own_pl_rm6_2 (q2 : Int64) (q1 : Int64) (hs : q1.toInt ≤ 4096) (hq : 0 ≤ q2.toInt) (hr : q2.toInt < q1.toInt) : ((((q2.toUInt64 >>> ((6 : Int32) &&& 0x3f).toInt64.toUInt64).toInt64).toInt32)).toNatClampNeg < own_nw q1 := by
  have := rng64 q1
  have := rng64 q2
  have := rng64 ((q2.toUInt64 >>> ((6 : Int32) &&& 0x3f).toInt64.toUInt64).toInt64)
  have := own_lushr q2 (n := ((6 : Int32) &&& 0x3f).toInt64.toUInt64) (k := 6) (by decide) (by decide) (by decide)
  have := rng32 (((q2.toUInt64 >>> ((6 : Int32) &&& 0x3f).toInt64.toUInt64).toInt64).toInt32)
  have := own_l2i ((q2.toUInt64 >>> ((6 : Int32) &&& 0x3f).toInt64.toUInt64).toInt64)
  try simp only [own_i32_6] at *
  have := own_i32_6
  try simp only [Int32.toNatClampNeg, own_nw, Int32.lt_iff_toInt_lt, Int64.lt_iff_toInt_lt, ← Int32.toInt_inj, ← Int64.toInt_inj] at *
  all_goals first | omega | (simp; done)
set_option maxRecDepth 65536 in
set_option maxHeartbeats 4000000 in
theorem own_pl_rm6_3 (q2 : Int64) (q1 : Int64) (hs : q1.toInt ≤ 4096) (hq : 0 ≤ q2.toInt) (hr : q2.toInt < q1.toInt) : ((((q2.toUInt64 >>> ((6 : Int32) &&& 0x3f).toInt64.toUInt64).toInt64).toInt32)).toNatClampNeg = q2.toInt.toNat / 64 := by
  have := rng64 q1
  have := rng64 q2
  have := rng64 ((q2.toUInt64 >>> ((6 : Int32) &&& 0x3f).toInt64.toUInt64).toInt64)
  have := own_lushr q2 (n := ((6 : Int32) &&& 0x3f).toInt64.toUInt64) (k := 6) (by decide) (by decide) (by decide)
  have := rng32 (((q2.toUInt64 >>> ((6 : Int32) &&& 0x3f).toInt64.toUInt64).toInt64).toInt32)
  have := own_l2i ((q2.toUInt64 >>> ((6 : Int32) &&& 0x3f).toInt64.toUInt64).toInt64)
  try simp only [own_i32_6] at *
  have := own_i32_6
  try simp only [Int32.toNatClampNeg, own_nw, Int32.lt_iff_toInt_lt, Int64.lt_iff_toInt_lt, ← Int32.toInt_inj, ← Int64.toInt_inj] at *
  all_goals first | omega | (simp; done)
def Q_own_rm6 (Z : State) (a1 : Addr) (w : Addr) (q2 : Int64) (q1 : Int64) (B : Nat → Bool) (h0 : Heap) (n0 : Nat) (v : Option Value) (h : Heap) (L : List Loc) : Prop := v = some (.long (own_bl (B q2.toInt.toNat))) ∧ Fr n0 L ∧ h = h0
set_option maxRecDepth 65536 in
set_option maxHeartbeats 400000000 in
theorem own_rm6 (l : Launch) (Z : State) (a0 : Array Value) (hw : ∀ d ∈ tables_1, d.before a0 Z = true) (ws : List Jvm.Cond) (a1 : Addr) (w : Addr) (q2 : Int64) (q1 : Int64) (B : Nat → Bool) (h0 : Heap) (n0 : Nat) (Z0 : n0 ≤ h0.size) (P_F_a1_size : Fld Z h0 a1 "com/example/kin_bloom/kinbloom/BitArray" "size" "J" (.long q1)) (P_F_a1_words : Fld Z h0 a1 "com/example/kin_bloom/kinbloom/BitArray" "words" "[J" (.ref w)) (P_G_w_bits : own_Bits Z h0 w (own_nw q1) (B)) (hs : q1.toInt ≤ 4096) (hq : 0 ≤ q2.toInt) (hr : q2.toInt < q1.toInt) :
    MetFree l (⟨"com/example/kin_bloom/kinbloom/BitArray", "bit", "(J)J"⟩ : MethodName) (head1 (Jvm.Cond.code (⟨"com/example/kin_bloom/kinbloom/BitArray", "bit", "(J)J"⟩ : MethodName) prog_1_method_5_code 3 (some .long) :: ws) R_own_rm6) (fun a U => a = #[(.ref a1), (.long q2)] ∧ Z.Warmed39 U.vm ∧ U.heap = h0) (fun _ _ _ _ _ => True) (fun _ U o U' => ∃ v L, o = .returned v ∧ Q_own_rm6 Z a1 w q2 q1 B h0 n0 v U'.heap L ∧ FrameEnd U o U' L R_own_rm6.cells R_own_rm6.slots) := by
  refine MetFree.of_bodySF (plainFor_of_name own_pn2) hisR ?_
  intro p e s m args below meth c s₁ Bd hml0 hP hK
  obtain ⟨rfl, hZ, hh⟩ := hP
  have hx := Bd.exec
  have hby := Bd.bytes
  have hml : c.maxLocals = 3 := hml0
  have hown : s.vm.findClass "com/example/kin_bloom/kinbloom/BitArray" = some m.cls := findClass_of_methodNamed Bd.named
  have hnm := (name_of_methodNamed Bd.named Bd.method).1
  have X0 : Stand p l e R_own_rm6 s m #[(.ref a1), (.long q2)] below meth c s₁ [] 0 0 := Stand.of_body Bd
  have e0 : s₁.heap = h0 := by rw [← hh, Bd.state]; rfl
  have N0 := Fr.nil n0
  have K0 : Keep h0 h0 [] := Keep.refl h0 []
  show own_Fin p e below s (Q_own_rm6 Z a1 w q2 q1 B h0 n0) R_own_rm6.cells R_own_rm6.slots (s₁.setTop (entryFrame m #[(.ref a1), (.long q2)] 3))
  refine own_go (fun _ k => castTop (ef_own_rm6 m a1 q2) k) ?_
  show own_Fin _ _ _ _ _ _ _ (s₁.setTop (mkF m 0 #[.val (.ref a1), .val (.long q2), .second] []))
  refine own_go (B := s₁.setTop (mkF m 1 #[.val (.ref a1), .val (.long q2), .second] [(.ref a1)])) (fun _ k => XS.aloadN X0.here hx rfl (hb hby d6_0) rfl rfl k) ?_
  obtain ⟨T1, X1, e1, st1⟩ := getF X0 hx hZ hown (host := "") (Or.inl (own_w hw 16 rfl)) Via.refl e0 P_F_a1_words (g := (mkF m 1 #[.val (.ref a1), .val (.long q2), .second] [(.ref a1)])) rfl rfl (hb hby d6_1)
  refine own_go (B := T1.setTop (mkF m 4 #[.val (.ref a1), .val (.long q2), .second] [(.ref w)])) st1 ?_
  refine own_go (B := T1.setTop (mkF m 5 #[.val (.ref a1), .val (.long q2), .second] [(.long q2), (.ref w)])) (fun _ k => XS.lloadN X1.here hx rfl (hb hby d6_4) rfl  k) ?_
  refine own_go (B := T1.setTop (mkF m 7 #[.val (.ref a1), .val (.long q2), .second] [(.int (6 : Int32)), (.long q2), (.ref w)])) (fun _ k => XS.bipush X1.here hx rfl (hb hby d6_5) k) ?_
  refine own_go (B := T1.setTop (mkF m 8 #[.val (.ref a1), .val (.long q2), .second] [(.long ((q2.toUInt64 >>> ((6 : Int32) &&& 0x3f).toInt64.toUInt64).toInt64)), (.ref w)])) (fun _ k => XS.lushr X1.here hx rfl (hb hby d6_7) rfl k) ?_
  refine own_go (B := T1.setTop (mkF m 9 #[.val (.ref a1), .val (.long q2), .second] [(.int (((q2.toUInt64 >>> ((6 : Int32) &&& 0x3f).toInt64.toUInt64).toInt64).toInt32)), (.ref w)])) (fun _ k => XS.l2i X1.here hx rfl (hb hby d6_8) rfl k) ?_
  obtain ⟨cl2, Ar2, sz2, el2⟩ := id P_G_w_bits
  have hj2 : ((((q2.toUInt64 >>> ((6 : Int32) &&& 0x3f).toInt64.toUInt64).toInt64).toInt32)).toNatClampNeg < own_nw q1 := (own_pl_rm6_2 q2 q1 hs hq hr)
  have hin2 : ¬ ((((q2.toUInt64 >>> ((6 : Int32) &&& 0x3f).toInt64.toUInt64).toInt64).toInt32) < 0 ∨ cl2.slots.size ≤ ((((q2.toUInt64 >>> ((6 : Int32) &&& 0x3f).toInt64.toUInt64).toInt64).toInt32)).toNatClampNeg) := fun q => q.elim (own_pl_rm6_1 q2 q1 hs hq hr) (fun r => absurd hj2 (Nat.not_lt.mpr (sz2 ▸ r)))
  obtain ⟨x2, hx2, hb2⟩ := el2 _ hj2
  refine own_go (B := T1.setTop (mkF m 10 #[.val (.ref a1), .val (.long q2), .second] [(.long x2)])) (fun _ k => X1.laload hx (j := (((q2.toUInt64 >>> ((6 : Int32) &&& 0x3f).toInt64.toUInt64).toInt64).toInt32)) (v := .long x2) (own_hc e1 Ar2.1) (State.isArrayOf_alike hZ.alike Ar2.2.1) Ar2.2.2 hin2 hx2 (g := (mkF m 9 #[.val (.ref a1), .val (.long q2), .second] [(.int (((q2.toUInt64 >>> ((6 : Int32) &&& 0x3f).toInt64.toUInt64).toInt64).toInt32)), (.ref w)])) rfl rfl (hb hby d6_9) _ k) ?_
  refine own_go (B := T1.setTop (mkF m 11 #[.val (.ref a1), .val (.long q2), .second] [(.long q2), (.long x2)])) (fun _ k => XS.lloadN X1.here hx rfl (hb hby d6_10) rfl  k) ?_
  refine own_go (B := T1.setTop (mkF m 12 #[.val (.ref a1), .val (.long q2), .second] [(.int (q2.toInt32)), (.long x2)])) (fun _ k => XS.l2i X1.here hx rfl (hb hby d6_11) rfl k) ?_
  refine own_go (B := T1.setTop (mkF m 13 #[.val (.ref a1), .val (.long q2), .second] [(.long ((x2.toUInt64 >>> ((q2.toInt32) &&& 0x3f).toInt64.toUInt64).toInt64))])) (fun _ k => XS.lushr X1.here hx rfl (hb hby d6_12) rfl k) ?_
  refine own_go (B := T1.setTop (mkF m 14 #[.val (.ref a1), .val (.long q2), .second] [(.long (1 : Int64)), (.long ((x2.toUInt64 >>> ((q2.toInt32) &&& 0x3f).toInt64.toUInt64).toInt64))])) (fun _ k => XS.lconst X1.here hx rfl (hb hby d6_13) k) ?_
  refine own_go (B := T1.setTop (mkF m 15 #[.val (.ref a1), .val (.long q2), .second] [(.long (((x2.toUInt64 >>> ((q2.toInt32) &&& 0x3f).toInt64.toUInt64).toInt64) &&& (1 : Int64)))])) (fun _ k => XS.land X1.here hx rfl (hb hby d6_14) rfl k) ?_
  exact own_retJ X1 hx Bd.notSynchronized Bd.returns (hb hby d6_15) e1 ⟨(by rw [own_get hq (own_pl_rm6_3 q2 q1 hs hq hr) hb2]), N0, rfl⟩ (by decide) (by decide)
theorem own_eqn {x y : Int64} (hx : 0 ≤ x.toInt) (hy : 0 ≤ y.toInt) : x.toInt.toNat = y.toInt.toNat ↔ x = y := by
  rw [← Int64.toInt_inj]; omega
theorem own_pn3 : plainName "com/example/kin_bloom/kinbloom/BitArrayBitPinLaw" = true := by first | (simp [plainName, overriddenIn]; done) | decide +kernel
theorem ef_own_rm0 (m : MethodId) (x0 : Int64) (x1 : Int64) (x2 : Int64) (x3 : Int64) (x4 : Int64) (x5 : Int32) : entryFrame m #[(.long x0), (.long x1), (.long x2), (.long x3), (.long x4), (.int x5)] maxLocals = mkF m 0 #[.val (.long x0), .second, .val (.long x1), .second, .val (.long x2), .second, .val (.long x3), .second, .val (.long x4), .second, .val (.int x5), .unset, .unset, .unset, .unset, .unset, .unset, .unset, .unset, .unset, .unset, .unset, .unset, .unset, .unset, .unset] [] := by first | (simp [entryFrame, mkF, argsToLocals, Value.category, maxLocals]; done) | rfl
set_option maxRecDepth 65536 in
set_option maxHeartbeats 4000000 in
theorem own_pl_rm0_1 (q1 : Int64) : ((q1 &&& (4095 : Int64)) + (1 : Int64)) ≠ (0 : Int64) := by
  have := rng64 q1
  have := rng64 (q1 &&& (4095 : Int64))
  have := Jvm.Kit.i64_mask q1 (4095 : Int64) (k := 12) (by decide) (by decide)
  have := rng64 ((q1 &&& (4095 : Int64)) + (1 : Int64))
  have := c_ladd (q1 &&& (4095 : Int64)) (1 : Int64)
  try simp only [own_i64_0, own_i64_1, own_i64_4095] at *
  have := own_i64_0
  have := own_i64_1
  have := own_i64_4095
  try simp only [Int32.lt_iff_toInt_lt, Int32.le_iff_toInt_le, Int64.lt_iff_toInt_lt, Int64.le_iff_toInt_le, ← Int32.toInt_inj, ← Int64.toInt_inj, true_and, and_true, true_or, or_true, false_or, or_false, not_true_eq_false, not_false_eq_true, false_and, and_false, ne_eq] at *
  all_goals first | omega | (simp; done)
set_option maxRecDepth 65536 in
set_option maxHeartbeats 4000000 in
theorem own_pl_rm0_2 (q1 : Int64) : ((q1 &&& (4095 : Int64)) + (1 : Int64)) ≠ (0 : Int64) := by
  have := rng64 q1
  have := rng64 (q1 &&& (4095 : Int64))
  have := Jvm.Kit.i64_mask q1 (4095 : Int64) (k := 12) (by decide) (by decide)
  have := rng64 ((q1 &&& (4095 : Int64)) + (1 : Int64))
  have := c_ladd (q1 &&& (4095 : Int64)) (1 : Int64)
  try simp only [own_i64_0, own_i64_1, own_i64_4095] at *
  have := own_i64_0
  have := own_i64_1
  have := own_i64_4095
  try simp only [Int32.lt_iff_toInt_lt, Int32.le_iff_toInt_le, Int64.lt_iff_toInt_lt, Int64.le_iff_toInt_le, ← Int32.toInt_inj, ← Int64.toInt_inj, true_and, and_true, true_or, or_true, false_or, or_false, not_true_eq_false, not_false_eq_true, false_and, and_false, ne_eq] at *
  all_goals first | omega | (simp; done)
set_option maxRecDepth 65536 in
set_option maxHeartbeats 4000000 in
theorem own_pl_rm0_3 (q1 : Int64) : ((q1 &&& (4095 : Int64)) + (1 : Int64)) ≠ (0 : Int64) := by
  have := rng64 q1
  have := rng64 (q1 &&& (4095 : Int64))
  have := Jvm.Kit.i64_mask q1 (4095 : Int64) (k := 12) (by decide) (by decide)
  have := rng64 ((q1 &&& (4095 : Int64)) + (1 : Int64))
  have := c_ladd (q1 &&& (4095 : Int64)) (1 : Int64)
  try simp only [own_i64_0, own_i64_1, own_i64_4095] at *
  have := own_i64_0
  have := own_i64_1
  have := own_i64_4095
  try simp only [Int32.lt_iff_toInt_lt, Int32.le_iff_toInt_le, Int64.lt_iff_toInt_lt, Int64.le_iff_toInt_le, ← Int32.toInt_inj, ← Int64.toInt_inj, true_and, and_true, true_or, or_true, false_or, or_false, not_true_eq_false, not_false_eq_true, false_and, and_false, ne_eq] at *
  all_goals first | omega | (simp; done)
set_option maxRecDepth 65536 in
set_option maxHeartbeats 4000000 in
theorem own_pl_rm0_4 (q1 : Int64) (p6 : Int32) (hc5 : (p6 &&& (2 : Int32)) = (0 : Int32)) : ((q1 &&& (4095 : Int64)) + (1 : Int64)) ≠ (0 : Int64) := by
  have := rng32 p6
  have := rng32 (p6 &&& (2 : Int32))
  have := rng64 q1
  have := rng64 (q1 &&& (4095 : Int64))
  have := Jvm.Kit.i64_mask q1 (4095 : Int64) (k := 12) (by decide) (by decide)
  have := rng64 ((q1 &&& (4095 : Int64)) + (1 : Int64))
  have := c_ladd (q1 &&& (4095 : Int64)) (1 : Int64)
  try simp only [own_i32_0, own_i32_2, own_i64_0, own_i64_1, own_i64_4095] at *
  have := own_i32_0
  have := own_i32_2
  have := own_i64_0
  have := own_i64_1
  have := own_i64_4095
  try simp only [Int32.lt_iff_toInt_lt, Int32.le_iff_toInt_le, Int64.lt_iff_toInt_lt, Int64.le_iff_toInt_le, ← Int32.toInt_inj, ← Int64.toInt_inj, true_and, and_true, true_or, or_true, false_or, or_false, not_true_eq_false, not_false_eq_true, false_and, and_false, ne_eq] at *
  all_goals first | omega | (simp; done)
set_option maxRecDepth 65536 in
set_option maxHeartbeats 4000000 in
theorem own_pl_rm0_5 (q1 : Int64) (p6 : Int32) (hc5 : (p6 &&& (2 : Int32)) = (0 : Int32)) : 1 ≤ ((q1 &&& (4095 : Int64)) + (1 : Int64)).toInt := by
  have := rng32 p6
  have := rng32 (p6 &&& (2 : Int32))
  have := rng64 q1
  have := rng64 (q1 &&& (4095 : Int64))
  have := Jvm.Kit.i64_mask q1 (4095 : Int64) (k := 12) (by decide) (by decide)
  have := rng64 ((q1 &&& (4095 : Int64)) + (1 : Int64))
  have := c_ladd (q1 &&& (4095 : Int64)) (1 : Int64)
  try simp only [own_i32_0, own_i32_2, own_i64_1, own_i64_4095] at *
  have := own_i32_0
  have := own_i32_2
  have := own_i64_1
  have := own_i64_4095
  try simp only [Int32.lt_iff_toInt_lt, Int32.le_iff_toInt_le, Int64.lt_iff_toInt_lt, Int64.le_iff_toInt_le, ← Int32.toInt_inj, ← Int64.toInt_inj, true_and, and_true, true_or, or_true, false_or, or_false, not_true_eq_false, not_false_eq_true, false_and, and_false, ne_eq] at *
  all_goals first | omega | (simp; done)
set_option maxRecDepth 65536 in
set_option maxHeartbeats 4000000 in
theorem own_pl_rm0_6 (q1 : Int64) (p6 : Int32) (hc5 : (p6 &&& (2 : Int32)) = (0 : Int32)) : ((q1 &&& (4095 : Int64)) + (1 : Int64)).toInt ≤ 4096 := by
  have := rng32 p6
  have := rng32 (p6 &&& (2 : Int32))
  have := rng64 q1
  have := rng64 (q1 &&& (4095 : Int64))
  have := Jvm.Kit.i64_mask q1 (4095 : Int64) (k := 12) (by decide) (by decide)
  have := rng64 ((q1 &&& (4095 : Int64)) + (1 : Int64))
  have := c_ladd (q1 &&& (4095 : Int64)) (1 : Int64)
  try simp only [own_i32_0, own_i32_2, own_i64_1, own_i64_4095] at *
  have := own_i32_0
  have := own_i32_2
  have := own_i64_1
  have := own_i64_4095
  try simp only [Int32.lt_iff_toInt_lt, Int32.le_iff_toInt_le, Int64.lt_iff_toInt_lt, Int64.le_iff_toInt_le, ← Int32.toInt_inj, ← Int64.toInt_inj, true_and, and_true, true_or, or_true, false_or, or_false, not_true_eq_false, not_false_eq_true, false_and, and_false, ne_eq] at *
  all_goals first | omega | (simp; done)
set_option maxRecDepth 65536 in
set_option maxHeartbeats 4000000 in
theorem own_pl_rm0_7 (q1 : Int64) (q2 : Int64) (p6 : Int32) (hc5 : (p6 &&& (2 : Int32)) = (0 : Int32)) : 0 ≤ ((q2 &&& (9223372036854775807 : Int64)) - ((q2 &&& (9223372036854775807 : Int64)) / ((q1 &&& (4095 : Int64)) + (1 : Int64))) * ((q1 &&& (4095 : Int64)) + (1 : Int64))).toInt := by
  have := own_i32_0
  have := own_i32_2
  have := own_i64_1
  have := own_i64_4095
  have := own_i64_9223372036854775807
  have := rng32 p6
  have := rng32 (p6 &&& (2 : Int32))
  have := rng64 q1
  have := rng64 (q1 &&& (4095 : Int64))
  have := Jvm.Kit.i64_mask q1 (4095 : Int64) (k := 12) (by decide) (by decide)
  have := rng64 ((q1 &&& (4095 : Int64)) + (1 : Int64))
  have := c_ladd (q1 &&& (4095 : Int64)) (1 : Int64)
  have := rng64 q2
  have := rng64 (q2 &&& (9223372036854775807 : Int64))
  have := Jvm.Kit.i64_mask q2 (9223372036854775807 : Int64) (k := 63) (by decide) (by decide)
  have := rng64 ((q2 &&& (9223372036854775807 : Int64)) - ((q2 &&& (9223372036854775807 : Int64)) / ((q1 &&& (4095 : Int64)) + (1 : Int64))) * ((q1 &&& (4095 : Int64)) + (1 : Int64)))
  have := own_rem64 (x := (q2 &&& (9223372036854775807 : Int64))) (y := ((q1 &&& (4095 : Int64)) + (1 : Int64))) (by omega) (by omega)
  try simp only [own_i32_0, own_i32_2, own_i64_1, own_i64_4095, own_i64_9223372036854775807] at *
  have := own_i32_0
  have := own_i32_2
  have := own_i64_1
  have := own_i64_4095
  have := own_i64_9223372036854775807
  try simp only [Int32.lt_iff_toInt_lt, Int32.le_iff_toInt_le, Int64.lt_iff_toInt_lt, Int64.le_iff_toInt_le, ← Int32.toInt_inj, ← Int64.toInt_inj, true_and, and_true, true_or, or_true, false_or, or_false, not_true_eq_false, not_false_eq_true, false_and, and_false, ne_eq] at *
  all_goals first | omega | (simp; done)
set_option maxRecDepth 65536 in
set_option maxHeartbeats 4000000 in
theorem own_pl_rm0_8 (q1 : Int64) (q2 : Int64) (p6 : Int32) (hc5 : (p6 &&& (2 : Int32)) = (0 : Int32)) : ((q2 &&& (9223372036854775807 : Int64)) - ((q2 &&& (9223372036854775807 : Int64)) / ((q1 &&& (4095 : Int64)) + (1 : Int64))) * ((q1 &&& (4095 : Int64)) + (1 : Int64))).toInt < ((q1 &&& (4095 : Int64)) + (1 : Int64)).toInt := by
  have := own_i32_0
  have := own_i32_2
  have := own_i64_1
  have := own_i64_4095
  have := own_i64_9223372036854775807
  have := rng32 p6
  have := rng32 (p6 &&& (2 : Int32))
  have := rng64 q1
  have := rng64 (q1 &&& (4095 : Int64))
  have := Jvm.Kit.i64_mask q1 (4095 : Int64) (k := 12) (by decide) (by decide)
  have := rng64 ((q1 &&& (4095 : Int64)) + (1 : Int64))
  have := c_ladd (q1 &&& (4095 : Int64)) (1 : Int64)
  have := rng64 q2
  have := rng64 (q2 &&& (9223372036854775807 : Int64))
  have := Jvm.Kit.i64_mask q2 (9223372036854775807 : Int64) (k := 63) (by decide) (by decide)
  have := rng64 ((q2 &&& (9223372036854775807 : Int64)) - ((q2 &&& (9223372036854775807 : Int64)) / ((q1 &&& (4095 : Int64)) + (1 : Int64))) * ((q1 &&& (4095 : Int64)) + (1 : Int64)))
  have := own_rem64 (x := (q2 &&& (9223372036854775807 : Int64))) (y := ((q1 &&& (4095 : Int64)) + (1 : Int64))) (by omega) (by omega)
  try simp only [own_i32_0, own_i32_2, own_i64_1, own_i64_4095, own_i64_9223372036854775807] at *
  have := own_i32_0
  have := own_i32_2
  have := own_i64_1
  have := own_i64_4095
  have := own_i64_9223372036854775807
  try simp only [Int32.lt_iff_toInt_lt, Int32.le_iff_toInt_le, Int64.lt_iff_toInt_lt, Int64.le_iff_toInt_le, ← Int32.toInt_inj, ← Int64.toInt_inj, true_and, and_true, true_or, or_true, false_or, or_false, not_true_eq_false, not_false_eq_true, false_and, and_false, ne_eq] at *
  all_goals first | omega | (simp; done)
set_option maxRecDepth 65536 in
set_option maxHeartbeats 4000000 in
theorem own_pl_rm0_9 (q1 : Int64) (q3 : Int64) (p6 : Int32) (hc5 : (p6 &&& (2 : Int32)) = (0 : Int32)) : 0 ≤ ((q3 &&& (9223372036854775807 : Int64)) - ((q3 &&& (9223372036854775807 : Int64)) / ((q1 &&& (4095 : Int64)) + (1 : Int64))) * ((q1 &&& (4095 : Int64)) + (1 : Int64))).toInt := by
  have := own_i32_0
  have := own_i32_2
  have := own_i64_1
  have := own_i64_4095
  have := own_i64_9223372036854775807
  have := rng32 p6
  have := rng32 (p6 &&& (2 : Int32))
  have := rng64 q1
  have := rng64 (q1 &&& (4095 : Int64))
  have := Jvm.Kit.i64_mask q1 (4095 : Int64) (k := 12) (by decide) (by decide)
  have := rng64 ((q1 &&& (4095 : Int64)) + (1 : Int64))
  have := c_ladd (q1 &&& (4095 : Int64)) (1 : Int64)
  have := rng64 q3
  have := rng64 (q3 &&& (9223372036854775807 : Int64))
  have := Jvm.Kit.i64_mask q3 (9223372036854775807 : Int64) (k := 63) (by decide) (by decide)
  have := rng64 ((q3 &&& (9223372036854775807 : Int64)) - ((q3 &&& (9223372036854775807 : Int64)) / ((q1 &&& (4095 : Int64)) + (1 : Int64))) * ((q1 &&& (4095 : Int64)) + (1 : Int64)))
  have := own_rem64 (x := (q3 &&& (9223372036854775807 : Int64))) (y := ((q1 &&& (4095 : Int64)) + (1 : Int64))) (by omega) (by omega)
  try simp only [own_i32_0, own_i32_2, own_i64_1, own_i64_4095, own_i64_9223372036854775807] at *
  have := own_i32_0
  have := own_i32_2
  have := own_i64_1
  have := own_i64_4095
  have := own_i64_9223372036854775807
  try simp only [Int32.lt_iff_toInt_lt, Int32.le_iff_toInt_le, Int64.lt_iff_toInt_lt, Int64.le_iff_toInt_le, ← Int32.toInt_inj, ← Int64.toInt_inj, true_and, and_true, true_or, or_true, false_or, or_false, not_true_eq_false, not_false_eq_true, false_and, and_false, ne_eq] at *
  all_goals first | omega | (simp; done)
set_option maxRecDepth 65536 in
set_option maxHeartbeats 4000000 in
theorem own_pl_rm0_10 (q1 : Int64) (q3 : Int64) (p6 : Int32) (hc5 : (p6 &&& (2 : Int32)) = (0 : Int32)) : ((q3 &&& (9223372036854775807 : Int64)) - ((q3 &&& (9223372036854775807 : Int64)) / ((q1 &&& (4095 : Int64)) + (1 : Int64))) * ((q1 &&& (4095 : Int64)) + (1 : Int64))).toInt < ((q1 &&& (4095 : Int64)) + (1 : Int64)).toInt := by
  have := own_i32_0
  have := own_i32_2
  have := own_i64_1
  have := own_i64_4095
  have := own_i64_9223372036854775807
  have := rng32 p6
  have := rng32 (p6 &&& (2 : Int32))
  have := rng64 q1
  have := rng64 (q1 &&& (4095 : Int64))
  have := Jvm.Kit.i64_mask q1 (4095 : Int64) (k := 12) (by decide) (by decide)
  have := rng64 ((q1 &&& (4095 : Int64)) + (1 : Int64))
  have := c_ladd (q1 &&& (4095 : Int64)) (1 : Int64)
  have := rng64 q3
  have := rng64 (q3 &&& (9223372036854775807 : Int64))
  have := Jvm.Kit.i64_mask q3 (9223372036854775807 : Int64) (k := 63) (by decide) (by decide)
  have := rng64 ((q3 &&& (9223372036854775807 : Int64)) - ((q3 &&& (9223372036854775807 : Int64)) / ((q1 &&& (4095 : Int64)) + (1 : Int64))) * ((q1 &&& (4095 : Int64)) + (1 : Int64)))
  have := own_rem64 (x := (q3 &&& (9223372036854775807 : Int64))) (y := ((q1 &&& (4095 : Int64)) + (1 : Int64))) (by omega) (by omega)
  try simp only [own_i32_0, own_i32_2, own_i64_1, own_i64_4095, own_i64_9223372036854775807] at *
  have := own_i32_0
  have := own_i32_2
  have := own_i64_1
  have := own_i64_4095
  have := own_i64_9223372036854775807
  try simp only [Int32.lt_iff_toInt_lt, Int32.le_iff_toInt_le, Int64.lt_iff_toInt_lt, Int64.le_iff_toInt_le, ← Int32.toInt_inj, ← Int64.toInt_inj, true_and, and_true, true_or, or_true, false_or, or_false, not_true_eq_false, not_false_eq_true, false_and, and_false, ne_eq] at *
  all_goals first | omega | (simp; done)
set_option maxRecDepth 65536 in
set_option maxHeartbeats 4000000 in
theorem own_pl_rm0_11 (q1 : Int64) (q4 : Int64) (p6 : Int32) (hc5 : (p6 &&& (2 : Int32)) = (0 : Int32)) : 0 ≤ ((q4 &&& (9223372036854775807 : Int64)) - ((q4 &&& (9223372036854775807 : Int64)) / ((q1 &&& (4095 : Int64)) + (1 : Int64))) * ((q1 &&& (4095 : Int64)) + (1 : Int64))).toInt := by
  have := own_i32_0
  have := own_i32_2
  have := own_i64_1
  have := own_i64_4095
  have := own_i64_9223372036854775807
  have := rng32 p6
  have := rng32 (p6 &&& (2 : Int32))
  have := rng64 q1
  have := rng64 (q1 &&& (4095 : Int64))
  have := Jvm.Kit.i64_mask q1 (4095 : Int64) (k := 12) (by decide) (by decide)
  have := rng64 ((q1 &&& (4095 : Int64)) + (1 : Int64))
  have := c_ladd (q1 &&& (4095 : Int64)) (1 : Int64)
  have := rng64 q4
  have := rng64 (q4 &&& (9223372036854775807 : Int64))
  have := Jvm.Kit.i64_mask q4 (9223372036854775807 : Int64) (k := 63) (by decide) (by decide)
  have := rng64 ((q4 &&& (9223372036854775807 : Int64)) - ((q4 &&& (9223372036854775807 : Int64)) / ((q1 &&& (4095 : Int64)) + (1 : Int64))) * ((q1 &&& (4095 : Int64)) + (1 : Int64)))
  have := own_rem64 (x := (q4 &&& (9223372036854775807 : Int64))) (y := ((q1 &&& (4095 : Int64)) + (1 : Int64))) (by omega) (by omega)
  try simp only [own_i32_0, own_i32_2, own_i64_1, own_i64_4095, own_i64_9223372036854775807] at *
  have := own_i32_0
  have := own_i32_2
  have := own_i64_1
  have := own_i64_4095
  have := own_i64_9223372036854775807
  try simp only [Int32.lt_iff_toInt_lt, Int32.le_iff_toInt_le, Int64.lt_iff_toInt_lt, Int64.le_iff_toInt_le, ← Int32.toInt_inj, ← Int64.toInt_inj, true_and, and_true, true_or, or_true, false_or, or_false, not_true_eq_false, not_false_eq_true, false_and, and_false, ne_eq] at *
  all_goals first | omega | (simp; done)
set_option maxRecDepth 65536 in
set_option maxHeartbeats 4000000 in
theorem own_pl_rm0_12 (q1 : Int64) (q4 : Int64) (p6 : Int32) (hc5 : (p6 &&& (2 : Int32)) = (0 : Int32)) : ((q4 &&& (9223372036854775807 : Int64)) - ((q4 &&& (9223372036854775807 : Int64)) / ((q1 &&& (4095 : Int64)) + (1 : Int64))) * ((q1 &&& (4095 : Int64)) + (1 : Int64))).toInt < ((q1 &&& (4095 : Int64)) + (1 : Int64)).toInt := by
  have := own_i32_0
  have := own_i32_2
  have := own_i64_1
  have := own_i64_4095
  have := own_i64_9223372036854775807
  have := rng32 p6
  have := rng32 (p6 &&& (2 : Int32))
  have := rng64 q1
  have := rng64 (q1 &&& (4095 : Int64))
  have := Jvm.Kit.i64_mask q1 (4095 : Int64) (k := 12) (by decide) (by decide)
  have := rng64 ((q1 &&& (4095 : Int64)) + (1 : Int64))
  have := c_ladd (q1 &&& (4095 : Int64)) (1 : Int64)
  have := rng64 q4
  have := rng64 (q4 &&& (9223372036854775807 : Int64))
  have := Jvm.Kit.i64_mask q4 (9223372036854775807 : Int64) (k := 63) (by decide) (by decide)
  have := rng64 ((q4 &&& (9223372036854775807 : Int64)) - ((q4 &&& (9223372036854775807 : Int64)) / ((q1 &&& (4095 : Int64)) + (1 : Int64))) * ((q1 &&& (4095 : Int64)) + (1 : Int64)))
  have := own_rem64 (x := (q4 &&& (9223372036854775807 : Int64))) (y := ((q1 &&& (4095 : Int64)) + (1 : Int64))) (by omega) (by omega)
  try simp only [own_i32_0, own_i32_2, own_i64_1, own_i64_4095, own_i64_9223372036854775807] at *
  have := own_i32_0
  have := own_i32_2
  have := own_i64_1
  have := own_i64_4095
  have := own_i64_9223372036854775807
  try simp only [Int32.lt_iff_toInt_lt, Int32.le_iff_toInt_le, Int64.lt_iff_toInt_lt, Int64.le_iff_toInt_le, ← Int32.toInt_inj, ← Int64.toInt_inj, true_and, and_true, true_or, or_true, false_or, or_false, not_true_eq_false, not_false_eq_true, false_and, and_false, ne_eq] at *
  all_goals first | omega | (simp; done)
set_option maxRecDepth 65536 in
set_option maxHeartbeats 4000000 in
theorem own_pl_rm0_13 (q1 : Int64) (q5 : Int64) (p6 : Int32) (hc5 : (p6 &&& (2 : Int32)) = (0 : Int32)) : 0 ≤ ((q5 &&& (9223372036854775807 : Int64)) - ((q5 &&& (9223372036854775807 : Int64)) / ((q1 &&& (4095 : Int64)) + (1 : Int64))) * ((q1 &&& (4095 : Int64)) + (1 : Int64))).toInt := by
  have := own_i32_0
  have := own_i32_2
  have := own_i64_1
  have := own_i64_4095
  have := own_i64_9223372036854775807
  have := rng32 p6
  have := rng32 (p6 &&& (2 : Int32))
  have := rng64 q1
  have := rng64 (q1 &&& (4095 : Int64))
  have := Jvm.Kit.i64_mask q1 (4095 : Int64) (k := 12) (by decide) (by decide)
  have := rng64 ((q1 &&& (4095 : Int64)) + (1 : Int64))
  have := c_ladd (q1 &&& (4095 : Int64)) (1 : Int64)
  have := rng64 q5
  have := rng64 (q5 &&& (9223372036854775807 : Int64))
  have := Jvm.Kit.i64_mask q5 (9223372036854775807 : Int64) (k := 63) (by decide) (by decide)
  have := rng64 ((q5 &&& (9223372036854775807 : Int64)) - ((q5 &&& (9223372036854775807 : Int64)) / ((q1 &&& (4095 : Int64)) + (1 : Int64))) * ((q1 &&& (4095 : Int64)) + (1 : Int64)))
  have := own_rem64 (x := (q5 &&& (9223372036854775807 : Int64))) (y := ((q1 &&& (4095 : Int64)) + (1 : Int64))) (by omega) (by omega)
  try simp only [own_i32_0, own_i32_2, own_i64_1, own_i64_4095, own_i64_9223372036854775807] at *
  have := own_i32_0
  have := own_i32_2
  have := own_i64_1
  have := own_i64_4095
  have := own_i64_9223372036854775807
  try simp only [Int32.lt_iff_toInt_lt, Int32.le_iff_toInt_le, Int64.lt_iff_toInt_lt, Int64.le_iff_toInt_le, ← Int32.toInt_inj, ← Int64.toInt_inj, true_and, and_true, true_or, or_true, false_or, or_false, not_true_eq_false, not_false_eq_true, false_and, and_false, ne_eq] at *
  all_goals first | omega | (simp; done)
set_option maxRecDepth 65536 in
set_option maxHeartbeats 4000000 in
theorem own_pl_rm0_14 (q1 : Int64) (q5 : Int64) (p6 : Int32) (hc5 : (p6 &&& (2 : Int32)) = (0 : Int32)) : ((q5 &&& (9223372036854775807 : Int64)) - ((q5 &&& (9223372036854775807 : Int64)) / ((q1 &&& (4095 : Int64)) + (1 : Int64))) * ((q1 &&& (4095 : Int64)) + (1 : Int64))).toInt < ((q1 &&& (4095 : Int64)) + (1 : Int64)).toInt := by
  have := own_i32_0
  have := own_i32_2
  have := own_i64_1
  have := own_i64_4095
  have := own_i64_9223372036854775807
  have := rng32 p6
  have := rng32 (p6 &&& (2 : Int32))
  have := rng64 q1
  have := rng64 (q1 &&& (4095 : Int64))
  have := Jvm.Kit.i64_mask q1 (4095 : Int64) (k := 12) (by decide) (by decide)
  have := rng64 ((q1 &&& (4095 : Int64)) + (1 : Int64))
  have := c_ladd (q1 &&& (4095 : Int64)) (1 : Int64)
  have := rng64 q5
  have := rng64 (q5 &&& (9223372036854775807 : Int64))
  have := Jvm.Kit.i64_mask q5 (9223372036854775807 : Int64) (k := 63) (by decide) (by decide)
  have := rng64 ((q5 &&& (9223372036854775807 : Int64)) - ((q5 &&& (9223372036854775807 : Int64)) / ((q1 &&& (4095 : Int64)) + (1 : Int64))) * ((q1 &&& (4095 : Int64)) + (1 : Int64)))
  have := own_rem64 (x := (q5 &&& (9223372036854775807 : Int64))) (y := ((q1 &&& (4095 : Int64)) + (1 : Int64))) (by omega) (by omega)
  try simp only [own_i32_0, own_i32_2, own_i64_1, own_i64_4095, own_i64_9223372036854775807] at *
  have := own_i32_0
  have := own_i32_2
  have := own_i64_1
  have := own_i64_4095
  have := own_i64_9223372036854775807
  try simp only [Int32.lt_iff_toInt_lt, Int32.le_iff_toInt_le, Int64.lt_iff_toInt_lt, Int64.le_iff_toInt_le, ← Int32.toInt_inj, ← Int64.toInt_inj, true_and, and_true, true_or, or_true, false_or, or_false, not_true_eq_false, not_false_eq_true, false_and, and_false, ne_eq] at *
  all_goals first | omega | (simp; done)
set_option maxRecDepth 65536 in
set_option maxHeartbeats 4000000 in
theorem own_pl_rm0_15 (q1 : Int64) (p6 : Int32) (hc5 : ¬ ((p6 &&& (2 : Int32)) = (0 : Int32))) : 1 ≤ ((q1 &&& (4095 : Int64)) + (1 : Int64)).toInt := by
  have := rng32 p6
  have := rng32 (p6 &&& (2 : Int32))
  have := rng64 q1
  have := rng64 (q1 &&& (4095 : Int64))
  have := Jvm.Kit.i64_mask q1 (4095 : Int64) (k := 12) (by decide) (by decide)
  have := rng64 ((q1 &&& (4095 : Int64)) + (1 : Int64))
  have := c_ladd (q1 &&& (4095 : Int64)) (1 : Int64)
  try simp only [own_i32_0, own_i32_2, own_i64_1, own_i64_4095] at *
  have := own_i32_0
  have := own_i32_2
  have := own_i64_1
  have := own_i64_4095
  try simp only [Int32.lt_iff_toInt_lt, Int32.le_iff_toInt_le, Int64.lt_iff_toInt_lt, Int64.le_iff_toInt_le, ← Int32.toInt_inj, ← Int64.toInt_inj, true_and, and_true, true_or, or_true, false_or, or_false, not_true_eq_false, not_false_eq_true, false_and, and_false, ne_eq] at *
  all_goals first | omega | (simp; done)
set_option maxRecDepth 65536 in
set_option maxHeartbeats 4000000 in
theorem own_pl_rm0_16 (q1 : Int64) (p6 : Int32) (hc5 : ¬ ((p6 &&& (2 : Int32)) = (0 : Int32))) : ((q1 &&& (4095 : Int64)) + (1 : Int64)).toInt ≤ 4096 := by
  have := rng32 p6
  have := rng32 (p6 &&& (2 : Int32))
  have := rng64 q1
  have := rng64 (q1 &&& (4095 : Int64))
  have := Jvm.Kit.i64_mask q1 (4095 : Int64) (k := 12) (by decide) (by decide)
  have := rng64 ((q1 &&& (4095 : Int64)) + (1 : Int64))
  have := c_ladd (q1 &&& (4095 : Int64)) (1 : Int64)
  try simp only [own_i32_0, own_i32_2, own_i64_1, own_i64_4095] at *
  have := own_i32_0
  have := own_i32_2
  have := own_i64_1
  have := own_i64_4095
  try simp only [Int32.lt_iff_toInt_lt, Int32.le_iff_toInt_le, Int64.lt_iff_toInt_lt, Int64.le_iff_toInt_le, ← Int32.toInt_inj, ← Int64.toInt_inj, true_and, and_true, true_or, or_true, false_or, or_false, not_true_eq_false, not_false_eq_true, false_and, and_false, ne_eq] at *
  all_goals first | omega | (simp; done)
set_option maxRecDepth 65536 in
set_option maxHeartbeats 4000000 in
theorem own_pl_rm0_17 (q1 : Int64) (q2 : Int64) (p6 : Int32) (hc5 : ¬ ((p6 &&& (2 : Int32)) = (0 : Int32))) : 0 ≤ ((q2 &&& (9223372036854775807 : Int64)) - ((q2 &&& (9223372036854775807 : Int64)) / ((q1 &&& (4095 : Int64)) + (1 : Int64))) * ((q1 &&& (4095 : Int64)) + (1 : Int64))).toInt := by
  have := own_i32_0
  have := own_i32_2
  have := own_i64_1
  have := own_i64_4095
  have := own_i64_9223372036854775807
  have := rng32 p6
  have := rng32 (p6 &&& (2 : Int32))
  have := rng64 q1
  have := rng64 (q1 &&& (4095 : Int64))
  have := Jvm.Kit.i64_mask q1 (4095 : Int64) (k := 12) (by decide) (by decide)
  have := rng64 ((q1 &&& (4095 : Int64)) + (1 : Int64))
  have := c_ladd (q1 &&& (4095 : Int64)) (1 : Int64)
  have := rng64 q2
  have := rng64 (q2 &&& (9223372036854775807 : Int64))
  have := Jvm.Kit.i64_mask q2 (9223372036854775807 : Int64) (k := 63) (by decide) (by decide)
  have := rng64 ((q2 &&& (9223372036854775807 : Int64)) - ((q2 &&& (9223372036854775807 : Int64)) / ((q1 &&& (4095 : Int64)) + (1 : Int64))) * ((q1 &&& (4095 : Int64)) + (1 : Int64)))
  have := own_rem64 (x := (q2 &&& (9223372036854775807 : Int64))) (y := ((q1 &&& (4095 : Int64)) + (1 : Int64))) (by omega) (by omega)
  try simp only [own_i32_0, own_i32_2, own_i64_1, own_i64_4095, own_i64_9223372036854775807] at *
  have := own_i32_0
  have := own_i32_2
  have := own_i64_1
  have := own_i64_4095
  have := own_i64_9223372036854775807
  try simp only [Int32.lt_iff_toInt_lt, Int32.le_iff_toInt_le, Int64.lt_iff_toInt_lt, Int64.le_iff_toInt_le, ← Int32.toInt_inj, ← Int64.toInt_inj, true_and, and_true, true_or, or_true, false_or, or_false, not_true_eq_false, not_false_eq_true, false_and, and_false, ne_eq] at *
  all_goals first | omega | (simp; done)
set_option maxRecDepth 65536 in
set_option maxHeartbeats 4000000 in
theorem own_pl_rm0_18 (q1 : Int64) (q2 : Int64) (p6 : Int32) (hc5 : ¬ ((p6 &&& (2 : Int32)) = (0 : Int32))) : ((q2 &&& (9223372036854775807 : Int64)) - ((q2 &&& (9223372036854775807 : Int64)) / ((q1 &&& (4095 : Int64)) + (1 : Int64))) * ((q1 &&& (4095 : Int64)) + (1 : Int64))).toInt < ((q1 &&& (4095 : Int64)) + (1 : Int64)).toInt := by
  have := own_i32_0
  have := own_i32_2
  have := own_i64_1
  have := own_i64_4095
  have := own_i64_9223372036854775807
  have := rng32 p6
  have := rng32 (p6 &&& (2 : Int32))
  have := rng64 q1
  have := rng64 (q1 &&& (4095 : Int64))
  have := Jvm.Kit.i64_mask q1 (4095 : Int64) (k := 12) (by decide) (by decide)
  have := rng64 ((q1 &&& (4095 : Int64)) + (1 : Int64))
  have := c_ladd (q1 &&& (4095 : Int64)) (1 : Int64)
  have := rng64 q2
  have := rng64 (q2 &&& (9223372036854775807 : Int64))
  have := Jvm.Kit.i64_mask q2 (9223372036854775807 : Int64) (k := 63) (by decide) (by decide)
  have := rng64 ((q2 &&& (9223372036854775807 : Int64)) - ((q2 &&& (9223372036854775807 : Int64)) / ((q1 &&& (4095 : Int64)) + (1 : Int64))) * ((q1 &&& (4095 : Int64)) + (1 : Int64)))
  have := own_rem64 (x := (q2 &&& (9223372036854775807 : Int64))) (y := ((q1 &&& (4095 : Int64)) + (1 : Int64))) (by omega) (by omega)
  try simp only [own_i32_0, own_i32_2, own_i64_1, own_i64_4095, own_i64_9223372036854775807] at *
  have := own_i32_0
  have := own_i32_2
  have := own_i64_1
  have := own_i64_4095
  have := own_i64_9223372036854775807
  try simp only [Int32.lt_iff_toInt_lt, Int32.le_iff_toInt_le, Int64.lt_iff_toInt_lt, Int64.le_iff_toInt_le, ← Int32.toInt_inj, ← Int64.toInt_inj, true_and, and_true, true_or, or_true, false_or, or_false, not_true_eq_false, not_false_eq_true, false_and, and_false, ne_eq] at *
  all_goals first | omega | (simp; done)
set_option maxRecDepth 65536 in
set_option maxHeartbeats 4000000 in
theorem own_pl_rm0_19 (q1 : Int64) (q3 : Int64) (p6 : Int32) (hc5 : ¬ ((p6 &&& (2 : Int32)) = (0 : Int32))) : 0 ≤ ((q3 &&& (9223372036854775807 : Int64)) - ((q3 &&& (9223372036854775807 : Int64)) / ((q1 &&& (4095 : Int64)) + (1 : Int64))) * ((q1 &&& (4095 : Int64)) + (1 : Int64))).toInt := by
  have := own_i32_0
  have := own_i32_2
  have := own_i64_1
  have := own_i64_4095
  have := own_i64_9223372036854775807
  have := rng32 p6
  have := rng32 (p6 &&& (2 : Int32))
  have := rng64 q1
  have := rng64 (q1 &&& (4095 : Int64))
  have := Jvm.Kit.i64_mask q1 (4095 : Int64) (k := 12) (by decide) (by decide)
  have := rng64 ((q1 &&& (4095 : Int64)) + (1 : Int64))
  have := c_ladd (q1 &&& (4095 : Int64)) (1 : Int64)
  have := rng64 q3
  have := rng64 (q3 &&& (9223372036854775807 : Int64))
  have := Jvm.Kit.i64_mask q3 (9223372036854775807 : Int64) (k := 63) (by decide) (by decide)
  have := rng64 ((q3 &&& (9223372036854775807 : Int64)) - ((q3 &&& (9223372036854775807 : Int64)) / ((q1 &&& (4095 : Int64)) + (1 : Int64))) * ((q1 &&& (4095 : Int64)) + (1 : Int64)))
  have := own_rem64 (x := (q3 &&& (9223372036854775807 : Int64))) (y := ((q1 &&& (4095 : Int64)) + (1 : Int64))) (by omega) (by omega)
  try simp only [own_i32_0, own_i32_2, own_i64_1, own_i64_4095, own_i64_9223372036854775807] at *
  have := own_i32_0
  have := own_i32_2
  have := own_i64_1
  have := own_i64_4095
  have := own_i64_9223372036854775807
  try simp only [Int32.lt_iff_toInt_lt, Int32.le_iff_toInt_le, Int64.lt_iff_toInt_lt, Int64.le_iff_toInt_le, ← Int32.toInt_inj, ← Int64.toInt_inj, true_and, and_true, true_or, or_true, false_or, or_false, not_true_eq_false, not_false_eq_true, false_and, and_false, ne_eq] at *
  all_goals first | omega | (simp; done)
set_option maxRecDepth 65536 in
set_option maxHeartbeats 4000000 in
theorem own_pl_rm0_20 (q1 : Int64) (q3 : Int64) (p6 : Int32) (hc5 : ¬ ((p6 &&& (2 : Int32)) = (0 : Int32))) : ((q3 &&& (9223372036854775807 : Int64)) - ((q3 &&& (9223372036854775807 : Int64)) / ((q1 &&& (4095 : Int64)) + (1 : Int64))) * ((q1 &&& (4095 : Int64)) + (1 : Int64))).toInt < ((q1 &&& (4095 : Int64)) + (1 : Int64)).toInt := by
  have := own_i32_0
  have := own_i32_2
  have := own_i64_1
  have := own_i64_4095
  have := own_i64_9223372036854775807
  have := rng32 p6
  have := rng32 (p6 &&& (2 : Int32))
  have := rng64 q1
  have := rng64 (q1 &&& (4095 : Int64))
  have := Jvm.Kit.i64_mask q1 (4095 : Int64) (k := 12) (by decide) (by decide)
  have := rng64 ((q1 &&& (4095 : Int64)) + (1 : Int64))
  have := c_ladd (q1 &&& (4095 : Int64)) (1 : Int64)
  have := rng64 q3
  have := rng64 (q3 &&& (9223372036854775807 : Int64))
  have := Jvm.Kit.i64_mask q3 (9223372036854775807 : Int64) (k := 63) (by decide) (by decide)
  have := rng64 ((q3 &&& (9223372036854775807 : Int64)) - ((q3 &&& (9223372036854775807 : Int64)) / ((q1 &&& (4095 : Int64)) + (1 : Int64))) * ((q1 &&& (4095 : Int64)) + (1 : Int64)))
  have := own_rem64 (x := (q3 &&& (9223372036854775807 : Int64))) (y := ((q1 &&& (4095 : Int64)) + (1 : Int64))) (by omega) (by omega)
  try simp only [own_i32_0, own_i32_2, own_i64_1, own_i64_4095, own_i64_9223372036854775807] at *
  have := own_i32_0
  have := own_i32_2
  have := own_i64_1
  have := own_i64_4095
  have := own_i64_9223372036854775807
  try simp only [Int32.lt_iff_toInt_lt, Int32.le_iff_toInt_le, Int64.lt_iff_toInt_lt, Int64.le_iff_toInt_le, ← Int32.toInt_inj, ← Int64.toInt_inj, true_and, and_true, true_or, or_true, false_or, or_false, not_true_eq_false, not_false_eq_true, false_and, and_false, ne_eq] at *
  all_goals first | omega | (simp; done)
set_option maxRecDepth 65536 in
set_option maxHeartbeats 4000000 in
theorem own_pl_rm0_21 (q1 : Int64) (q4 : Int64) (p6 : Int32) (hc5 : ¬ ((p6 &&& (2 : Int32)) = (0 : Int32))) : 0 ≤ ((q4 &&& (9223372036854775807 : Int64)) - ((q4 &&& (9223372036854775807 : Int64)) / ((q1 &&& (4095 : Int64)) + (1 : Int64))) * ((q1 &&& (4095 : Int64)) + (1 : Int64))).toInt := by
  have := own_i32_0
  have := own_i32_2
  have := own_i64_1
  have := own_i64_4095
  have := own_i64_9223372036854775807
  have := rng32 p6
  have := rng32 (p6 &&& (2 : Int32))
  have := rng64 q1
  have := rng64 (q1 &&& (4095 : Int64))
  have := Jvm.Kit.i64_mask q1 (4095 : Int64) (k := 12) (by decide) (by decide)
  have := rng64 ((q1 &&& (4095 : Int64)) + (1 : Int64))
  have := c_ladd (q1 &&& (4095 : Int64)) (1 : Int64)
  have := rng64 q4
  have := rng64 (q4 &&& (9223372036854775807 : Int64))
  have := Jvm.Kit.i64_mask q4 (9223372036854775807 : Int64) (k := 63) (by decide) (by decide)
  have := rng64 ((q4 &&& (9223372036854775807 : Int64)) - ((q4 &&& (9223372036854775807 : Int64)) / ((q1 &&& (4095 : Int64)) + (1 : Int64))) * ((q1 &&& (4095 : Int64)) + (1 : Int64)))
  have := own_rem64 (x := (q4 &&& (9223372036854775807 : Int64))) (y := ((q1 &&& (4095 : Int64)) + (1 : Int64))) (by omega) (by omega)
  try simp only [own_i32_0, own_i32_2, own_i64_1, own_i64_4095, own_i64_9223372036854775807] at *
  have := own_i32_0
  have := own_i32_2
  have := own_i64_1
  have := own_i64_4095
  have := own_i64_9223372036854775807
  try simp only [Int32.lt_iff_toInt_lt, Int32.le_iff_toInt_le, Int64.lt_iff_toInt_lt, Int64.le_iff_toInt_le, ← Int32.toInt_inj, ← Int64.toInt_inj, true_and, and_true, true_or, or_true, false_or, or_false, not_true_eq_false, not_false_eq_true, false_and, and_false, ne_eq] at *
  all_goals first | omega | (simp; done)
set_option maxRecDepth 65536 in
set_option maxHeartbeats 4000000 in
theorem own_pl_rm0_22 (q1 : Int64) (q4 : Int64) (p6 : Int32) (hc5 : ¬ ((p6 &&& (2 : Int32)) = (0 : Int32))) : ((q4 &&& (9223372036854775807 : Int64)) - ((q4 &&& (9223372036854775807 : Int64)) / ((q1 &&& (4095 : Int64)) + (1 : Int64))) * ((q1 &&& (4095 : Int64)) + (1 : Int64))).toInt < ((q1 &&& (4095 : Int64)) + (1 : Int64)).toInt := by
  have := own_i32_0
  have := own_i32_2
  have := own_i64_1
  have := own_i64_4095
  have := own_i64_9223372036854775807
  have := rng32 p6
  have := rng32 (p6 &&& (2 : Int32))
  have := rng64 q1
  have := rng64 (q1 &&& (4095 : Int64))
  have := Jvm.Kit.i64_mask q1 (4095 : Int64) (k := 12) (by decide) (by decide)
  have := rng64 ((q1 &&& (4095 : Int64)) + (1 : Int64))
  have := c_ladd (q1 &&& (4095 : Int64)) (1 : Int64)
  have := rng64 q4
  have := rng64 (q4 &&& (9223372036854775807 : Int64))
  have := Jvm.Kit.i64_mask q4 (9223372036854775807 : Int64) (k := 63) (by decide) (by decide)
  have := rng64 ((q4 &&& (9223372036854775807 : Int64)) - ((q4 &&& (9223372036854775807 : Int64)) / ((q1 &&& (4095 : Int64)) + (1 : Int64))) * ((q1 &&& (4095 : Int64)) + (1 : Int64)))
  have := own_rem64 (x := (q4 &&& (9223372036854775807 : Int64))) (y := ((q1 &&& (4095 : Int64)) + (1 : Int64))) (by omega) (by omega)
  try simp only [own_i32_0, own_i32_2, own_i64_1, own_i64_4095, own_i64_9223372036854775807] at *
  have := own_i32_0
  have := own_i32_2
  have := own_i64_1
  have := own_i64_4095
  have := own_i64_9223372036854775807
  try simp only [Int32.lt_iff_toInt_lt, Int32.le_iff_toInt_le, Int64.lt_iff_toInt_lt, Int64.le_iff_toInt_le, ← Int32.toInt_inj, ← Int64.toInt_inj, true_and, and_true, true_or, or_true, false_or, or_false, not_true_eq_false, not_false_eq_true, false_and, and_false, ne_eq] at *
  all_goals first | omega | (simp; done)
set_option maxRecDepth 65536 in
set_option maxHeartbeats 4000000 in
theorem own_pl_rm0_23 (q1 : Int64) (q2 : Int64) (p6 : Int32) (hc5 : ¬ ((p6 &&& (2 : Int32)) = (0 : Int32))) : 0 ≤ ((q2 &&& (9223372036854775807 : Int64)) - ((q2 &&& (9223372036854775807 : Int64)) / ((q1 &&& (4095 : Int64)) + (1 : Int64))) * ((q1 &&& (4095 : Int64)) + (1 : Int64))).toInt := by
  have := own_i32_0
  have := own_i32_2
  have := own_i64_1
  have := own_i64_4095
  have := own_i64_9223372036854775807
  have := rng32 p6
  have := rng32 (p6 &&& (2 : Int32))
  have := rng64 q1
  have := rng64 (q1 &&& (4095 : Int64))
  have := Jvm.Kit.i64_mask q1 (4095 : Int64) (k := 12) (by decide) (by decide)
  have := rng64 ((q1 &&& (4095 : Int64)) + (1 : Int64))
  have := c_ladd (q1 &&& (4095 : Int64)) (1 : Int64)
  have := rng64 q2
  have := rng64 (q2 &&& (9223372036854775807 : Int64))
  have := Jvm.Kit.i64_mask q2 (9223372036854775807 : Int64) (k := 63) (by decide) (by decide)
  have := rng64 ((q2 &&& (9223372036854775807 : Int64)) - ((q2 &&& (9223372036854775807 : Int64)) / ((q1 &&& (4095 : Int64)) + (1 : Int64))) * ((q1 &&& (4095 : Int64)) + (1 : Int64)))
  have := own_rem64 (x := (q2 &&& (9223372036854775807 : Int64))) (y := ((q1 &&& (4095 : Int64)) + (1 : Int64))) (by omega) (by omega)
  try simp only [own_i32_0, own_i32_2, own_i64_1, own_i64_4095, own_i64_9223372036854775807] at *
  have := own_i32_0
  have := own_i32_2
  have := own_i64_1
  have := own_i64_4095
  have := own_i64_9223372036854775807
  try simp only [Int32.lt_iff_toInt_lt, Int32.le_iff_toInt_le, Int64.lt_iff_toInt_lt, Int64.le_iff_toInt_le, ← Int32.toInt_inj, ← Int64.toInt_inj, true_and, and_true, true_or, or_true, false_or, or_false, not_true_eq_false, not_false_eq_true, false_and, and_false, ne_eq] at *
  all_goals first | omega | (simp; done)
set_option maxRecDepth 65536 in
set_option maxHeartbeats 4000000 in
theorem own_pl_rm0_24 (q1 : Int64) (q2 : Int64) (p6 : Int32) (hc5 : ¬ ((p6 &&& (2 : Int32)) = (0 : Int32))) : ((q2 &&& (9223372036854775807 : Int64)) - ((q2 &&& (9223372036854775807 : Int64)) / ((q1 &&& (4095 : Int64)) + (1 : Int64))) * ((q1 &&& (4095 : Int64)) + (1 : Int64))).toInt < ((q1 &&& (4095 : Int64)) + (1 : Int64)).toInt := by
  have := own_i32_0
  have := own_i32_2
  have := own_i64_1
  have := own_i64_4095
  have := own_i64_9223372036854775807
  have := rng32 p6
  have := rng32 (p6 &&& (2 : Int32))
  have := rng64 q1
  have := rng64 (q1 &&& (4095 : Int64))
  have := Jvm.Kit.i64_mask q1 (4095 : Int64) (k := 12) (by decide) (by decide)
  have := rng64 ((q1 &&& (4095 : Int64)) + (1 : Int64))
  have := c_ladd (q1 &&& (4095 : Int64)) (1 : Int64)
  have := rng64 q2
  have := rng64 (q2 &&& (9223372036854775807 : Int64))
  have := Jvm.Kit.i64_mask q2 (9223372036854775807 : Int64) (k := 63) (by decide) (by decide)
  have := rng64 ((q2 &&& (9223372036854775807 : Int64)) - ((q2 &&& (9223372036854775807 : Int64)) / ((q1 &&& (4095 : Int64)) + (1 : Int64))) * ((q1 &&& (4095 : Int64)) + (1 : Int64)))
  have := own_rem64 (x := (q2 &&& (9223372036854775807 : Int64))) (y := ((q1 &&& (4095 : Int64)) + (1 : Int64))) (by omega) (by omega)
  try simp only [own_i32_0, own_i32_2, own_i64_1, own_i64_4095, own_i64_9223372036854775807] at *
  have := own_i32_0
  have := own_i32_2
  have := own_i64_1
  have := own_i64_4095
  have := own_i64_9223372036854775807
  try simp only [Int32.lt_iff_toInt_lt, Int32.le_iff_toInt_le, Int64.lt_iff_toInt_lt, Int64.le_iff_toInt_le, ← Int32.toInt_inj, ← Int64.toInt_inj, true_and, and_true, true_or, or_true, false_or, or_false, not_true_eq_false, not_false_eq_true, false_and, and_false, ne_eq] at *
  all_goals first | omega | (simp; done)
set_option maxRecDepth 65536 in
set_option maxHeartbeats 4000000 in
theorem own_pl_rm0_25 (p6 : Int32) (sz : Int64) (ia : Int64) (ib : Int64) (ic : Int64) (ii : Int64) (hz1 : 1 ≤ sz.toInt) (hz2 : sz.toInt ≤ 4096) (hl_ia : 0 ≤ ia.toInt) (hu_ia : ia.toInt < sz.toInt) (hl_ib : 0 ≤ ib.toInt) (hu_ib : ib.toInt < sz.toInt) (hl_ic : 0 ≤ ic.toInt) (hu_ic : ic.toInt < sz.toInt) (hl_ii : 0 ≤ ii.toInt) (hu_ii : ii.toInt < sz.toInt) (hc7 : (p6 &&& (1 : Int32)) = (0 : Int32)) (hc33 : ii = ia) : (own_bl ((fun k => decide (k = ib.toInt.toNat) || (fun k => decide (k = ia.toInt.toNat) || (fun _ => false) k) k) ii.toInt.toNat)) = (1 : Int64) := by
  have ka := own_eqn hl_ii hl_ia
  have kb := own_eqn hl_ii hl_ib
  have kc := own_eqn hl_ii hl_ic
  first | (simp only [own_bl, ka, kb, kc]; simp [*]; done) | (subst_vars; simp only [own_bl, ka, kb, kc]; simp [*]; done) | (subst_vars; simp_all [own_bl]; done)
set_option maxRecDepth 65536 in
set_option maxHeartbeats 4000000 in
theorem own_pl_rm0_26 (p6 : Int32) (sz : Int64) (ia : Int64) (ib : Int64) (ic : Int64) (ii : Int64) (hz1 : 1 ≤ sz.toInt) (hz2 : sz.toInt ≤ 4096) (hl_ia : 0 ≤ ia.toInt) (hu_ia : ia.toInt < sz.toInt) (hl_ib : 0 ≤ ib.toInt) (hu_ib : ib.toInt < sz.toInt) (hl_ic : 0 ≤ ic.toInt) (hu_ic : ic.toInt < sz.toInt) (hl_ii : 0 ≤ ii.toInt) (hu_ii : ii.toInt < sz.toInt) (hc7 : (p6 &&& (1 : Int32)) = (0 : Int32)) (hc33 : ¬ (ii = ia)) (hc38 : ii = ib) : (own_bl ((fun k => decide (k = ib.toInt.toNat) || (fun k => decide (k = ia.toInt.toNat) || (fun _ => false) k) k) ii.toInt.toNat)) = (1 : Int64) := by
  have ka := own_eqn hl_ii hl_ia
  have kb := own_eqn hl_ii hl_ib
  have kc := own_eqn hl_ii hl_ic
  first | (simp only [own_bl, ka, kb, kc]; simp [*]; done) | (subst_vars; simp only [own_bl, ka, kb, kc]; simp [*]; done) | (subst_vars; simp_all [own_bl]; done)
set_option maxRecDepth 65536 in
set_option maxHeartbeats 4000000 in
theorem own_pl_rm0_27 (p6 : Int32) (sz : Int64) (ia : Int64) (ib : Int64) (ic : Int64) (ii : Int64) (hz1 : 1 ≤ sz.toInt) (hz2 : sz.toInt ≤ 4096) (hl_ia : 0 ≤ ia.toInt) (hu_ia : ia.toInt < sz.toInt) (hl_ib : 0 ≤ ib.toInt) (hu_ib : ib.toInt < sz.toInt) (hl_ic : 0 ≤ ic.toInt) (hu_ic : ic.toInt < sz.toInt) (hl_ii : 0 ≤ ii.toInt) (hu_ii : ii.toInt < sz.toInt) (hc7 : (p6 &&& (1 : Int32)) = (0 : Int32)) (hc33 : ¬ (ii = ia)) (hc38 : ¬ (ii = ib)) : (own_bl ((fun k => decide (k = ib.toInt.toNat) || (fun k => decide (k = ia.toInt.toNat) || (fun _ => false) k) k) ii.toInt.toNat)) = (0 : Int64) := by
  have ka := own_eqn hl_ii hl_ia
  have kb := own_eqn hl_ii hl_ib
  have kc := own_eqn hl_ii hl_ic
  first | (simp only [own_bl, ka, kb, kc]; simp [*]; done) | (subst_vars; simp only [own_bl, ka, kb, kc]; simp [*]; done) | (subst_vars; simp_all [own_bl]; done)
set_option maxRecDepth 65536 in
set_option maxHeartbeats 4000000 in
theorem own_pl_rm0_28 (p6 : Int32) (sz : Int64) (ia : Int64) (ib : Int64) (ic : Int64) (ii : Int64) (hz1 : 1 ≤ sz.toInt) (hz2 : sz.toInt ≤ 4096) (hl_ia : 0 ≤ ia.toInt) (hu_ia : ia.toInt < sz.toInt) (hl_ib : 0 ≤ ib.toInt) (hu_ib : ib.toInt < sz.toInt) (hl_ic : 0 ≤ ic.toInt) (hu_ic : ic.toInt < sz.toInt) (hl_ii : 0 ≤ ii.toInt) (hu_ii : ii.toInt < sz.toInt) (hc7 : ¬ ((p6 &&& (1 : Int32)) = (0 : Int32))) (hc78 : ii = ia) (hc80 : ii = ic) : (own_bl ((fun k => !decide (k = ic.toInt.toNat) && (fun k => decide (k = ib.toInt.toNat) || (fun k => decide (k = ia.toInt.toNat) || (fun _ => false) k) k) k) ii.toInt.toNat)) = (0 : Int64) := by
  have ka := own_eqn hl_ii hl_ia
  have kb := own_eqn hl_ii hl_ib
  have kc := own_eqn hl_ii hl_ic
  first | (simp only [own_bl, ka, kb, kc]; simp [*]; done) | (subst_vars; simp only [own_bl, ka, kb, kc]; simp [*]; done) | (subst_vars; simp_all [own_bl]; done)
set_option maxRecDepth 65536 in
set_option maxHeartbeats 4000000 in
theorem own_pl_rm0_29 (p6 : Int32) (sz : Int64) (ia : Int64) (ib : Int64) (ic : Int64) (ii : Int64) (hz1 : 1 ≤ sz.toInt) (hz2 : sz.toInt ≤ 4096) (hl_ia : 0 ≤ ia.toInt) (hu_ia : ia.toInt < sz.toInt) (hl_ib : 0 ≤ ib.toInt) (hu_ib : ib.toInt < sz.toInt) (hl_ic : 0 ≤ ic.toInt) (hu_ic : ic.toInt < sz.toInt) (hl_ii : 0 ≤ ii.toInt) (hu_ii : ii.toInt < sz.toInt) (hc7 : ¬ ((p6 &&& (1 : Int32)) = (0 : Int32))) (hc78 : ii = ia) (hc80 : ¬ (ii = ic)) : (own_bl ((fun k => !decide (k = ic.toInt.toNat) && (fun k => decide (k = ib.toInt.toNat) || (fun k => decide (k = ia.toInt.toNat) || (fun _ => false) k) k) k) ii.toInt.toNat)) = (1 : Int64) := by
  have ka := own_eqn hl_ii hl_ia
  have kb := own_eqn hl_ii hl_ib
  have kc := own_eqn hl_ii hl_ic
  first | (simp only [own_bl, ka, kb, kc]; simp [*]; done) | (subst_vars; simp only [own_bl, ka, kb, kc]; simp [*]; done) | (subst_vars; simp_all [own_bl]; done)
set_option maxRecDepth 65536 in
set_option maxHeartbeats 4000000 in
theorem own_pl_rm0_30 (p6 : Int32) (sz : Int64) (ia : Int64) (ib : Int64) (ic : Int64) (ii : Int64) (hz1 : 1 ≤ sz.toInt) (hz2 : sz.toInt ≤ 4096) (hl_ia : 0 ≤ ia.toInt) (hu_ia : ia.toInt < sz.toInt) (hl_ib : 0 ≤ ib.toInt) (hu_ib : ib.toInt < sz.toInt) (hl_ic : 0 ≤ ic.toInt) (hu_ic : ic.toInt < sz.toInt) (hl_ii : 0 ≤ ii.toInt) (hu_ii : ii.toInt < sz.toInt) (hc7 : ¬ ((p6 &&& (1 : Int32)) = (0 : Int32))) (hc78 : ¬ (ii = ia)) (hc87 : ii = ib) (hc89 : ii = ic) : (own_bl ((fun k => !decide (k = ic.toInt.toNat) && (fun k => decide (k = ib.toInt.toNat) || (fun k => decide (k = ia.toInt.toNat) || (fun _ => false) k) k) k) ii.toInt.toNat)) = (0 : Int64) := by
  have ka := own_eqn hl_ii hl_ia
  have kb := own_eqn hl_ii hl_ib
  have kc := own_eqn hl_ii hl_ic
  first | (simp only [own_bl, ka, kb, kc]; simp [*]; done) | (subst_vars; simp only [own_bl, ka, kb, kc]; simp [*]; done) | (subst_vars; simp_all [own_bl]; done)
set_option maxRecDepth 65536 in
set_option maxHeartbeats 4000000 in
theorem own_pl_rm0_31 (p6 : Int32) (sz : Int64) (ia : Int64) (ib : Int64) (ic : Int64) (ii : Int64) (hz1 : 1 ≤ sz.toInt) (hz2 : sz.toInt ≤ 4096) (hl_ia : 0 ≤ ia.toInt) (hu_ia : ia.toInt < sz.toInt) (hl_ib : 0 ≤ ib.toInt) (hu_ib : ib.toInt < sz.toInt) (hl_ic : 0 ≤ ic.toInt) (hu_ic : ic.toInt < sz.toInt) (hl_ii : 0 ≤ ii.toInt) (hu_ii : ii.toInt < sz.toInt) (hc7 : ¬ ((p6 &&& (1 : Int32)) = (0 : Int32))) (hc78 : ¬ (ii = ia)) (hc87 : ii = ib) (hc89 : ¬ (ii = ic)) : (own_bl ((fun k => !decide (k = ic.toInt.toNat) && (fun k => decide (k = ib.toInt.toNat) || (fun k => decide (k = ia.toInt.toNat) || (fun _ => false) k) k) k) ii.toInt.toNat)) = (1 : Int64) := by
  have ka := own_eqn hl_ii hl_ia
  have kb := own_eqn hl_ii hl_ib
  have kc := own_eqn hl_ii hl_ic
  first | (simp only [own_bl, ka, kb, kc]; simp [*]; done) | (subst_vars; simp only [own_bl, ka, kb, kc]; simp [*]; done) | (subst_vars; simp_all [own_bl]; done)
set_option maxRecDepth 65536 in
set_option maxHeartbeats 4000000 in
theorem own_pl_rm0_32 (p6 : Int32) (sz : Int64) (ia : Int64) (ib : Int64) (ic : Int64) (ii : Int64) (hz1 : 1 ≤ sz.toInt) (hz2 : sz.toInt ≤ 4096) (hl_ia : 0 ≤ ia.toInt) (hu_ia : ia.toInt < sz.toInt) (hl_ib : 0 ≤ ib.toInt) (hu_ib : ib.toInt < sz.toInt) (hl_ic : 0 ≤ ic.toInt) (hu_ic : ic.toInt < sz.toInt) (hl_ii : 0 ≤ ii.toInt) (hu_ii : ii.toInt < sz.toInt) (hc7 : ¬ ((p6 &&& (1 : Int32)) = (0 : Int32))) (hc78 : ¬ (ii = ia)) (hc87 : ¬ (ii = ib)) : (own_bl ((fun k => !decide (k = ic.toInt.toNat) && (fun k => decide (k = ib.toInt.toNat) || (fun k => decide (k = ia.toInt.toNat) || (fun _ => false) k) k) k) ii.toInt.toNat)) = (0 : Int64) := by
  have ka := own_eqn hl_ii hl_ia
  have kb := own_eqn hl_ii hl_ib
  have kc := own_eqn hl_ii hl_ic
  first | (simp only [own_bl, ka, kb, kc]; simp [*]; done) | (subst_vars; simp only [own_bl, ka, kb, kc]; simp [*]; done) | (subst_vars; simp_all [own_bl]; done)
def Q_own_rm0 (Z : State) (q1 : Int64) (q2 : Int64) (q3 : Int64) (q4 : Int64) (q5 : Int64) (p6 : Int32) (h0 : Heap) (n0 : Nat) (v : Option Value) (h : Heap) (L : List Loc) : Prop := v = some (.int (1 : Int32)) ∧ Fr n0 L ∧ Keep h0 h []
set_option maxRecDepth 65536 in
set_option maxHeartbeats 400000000 in
theorem own_rm0 (l : Launch) (Z : State) (a0 : Array Value) (hw : ∀ d ∈ tables_1, d.before a0 Z = true) (ws : List Jvm.Cond) (q1 : Int64) (q2 : Int64) (q3 : Int64) (q4 : Int64) (q5 : Int64) (p6 : Int32) (h0 : Heap) (n0 : Nat) (Z0 : n0 ≤ h0.size)  :
    MetFree l x (head1 (Jvm.Cond.code x code maxLocals ret :: ws) room_1) (fun a U => a = #[(.long q1), (.long q2), (.long q3), (.long q4), (.long q5), (.int p6)] ∧ Z.Warmed39 U.vm ∧ U.heap = h0) (fun _ _ _ _ _ => True) (fun _ U o U' => ∃ v L, o = .returned v ∧ Q_own_rm0 Z q1 q2 q3 q4 q5 p6 h0 n0 v U'.heap L ∧ FrameEnd U o U' L 2 66) := by
  refine MetFree.of_bodySF (plainFor_of_name own_pn3) hisR ?_
  intro p e s m args below meth c s₁ Bd hml0 hP hK
  obtain ⟨rfl, hZ, hh⟩ := hP
  have hx := Bd.exec
  have hby := Bd.bytes
  have hml : c.maxLocals = 26 := hml0
  have hown : s.vm.findClass "com/example/kin_bloom/kinbloom/BitArrayBitPinLaw" = some m.cls := findClass_of_methodNamed Bd.named
  have hnm := (name_of_methodNamed Bd.named Bd.method).1
  have X0 : Stand p l e room_1 s m #[(.long q1), (.long q2), (.long q3), (.long q4), (.long q5), (.int p6)] below meth c s₁ [] 0 0 := Stand.of_body Bd
  have e0 : s₁.heap = h0 := by rw [← hh, Bd.state]; rfl
  have N0 := Fr.nil n0
  have K0 : Keep h0 h0 [] := Keep.refl h0 []
  show own_Fin p e below s (Q_own_rm0 Z q1 q2 q3 q4 q5 p6 h0 n0) 2 66 (s₁.setTop (entryFrame m #[(.long q1), (.long q2), (.long q3), (.long q4), (.long q5), (.int p6)] maxLocals))
  refine own_go (fun _ k => castTop (ef_own_rm0 m q1 q2 q3 q4 q5 p6) k) ?_
  show own_Fin _ _ _ _ _ _ _ (s₁.setTop (mkF m 0 #[.val (.long q1), .second, .val (.long q2), .second, .val (.long q3), .second, .val (.long q4), .second, .val (.long q5), .second, .val (.int p6), .unset, .unset, .unset, .unset, .unset, .unset, .unset, .unset, .unset, .unset, .unset, .unset, .unset, .unset, .unset] []))
  have J1 : ∀ (sz : Int64) (ia : Int64) (ib : Int64) (ic : Int64) (ii : Int64) (hz1 : 1 ≤ sz.toInt) (hz2 : sz.toInt ≤ 4096) (hl_ia : 0 ≤ ia.toInt) (hu_ia : ia.toInt < sz.toInt) (hl_ib : 0 ≤ ib.toInt) (hu_ib : ib.toInt < sz.toInt) (hl_ic : 0 ≤ ic.toInt) (hu_ic : ic.toInt < sz.toInt) (hl_ii : 0 ≤ ii.toInt) (hu_ii : ii.toInt < sz.toInt), own_Fin p e below s (Q_own_rm0 Z q1 q2 q3 q4 q5 p6 h0 n0) 2 66 (s₁.setTop (mkF m 64 #[.val (.long q1), .second, .val (.long q2), .second, .val (.long q3), .second, .val (.long q4), .second, .val (.long q5), .second, .val (.int p6), .val (.long sz), .second, .val (.long ia), .second, .val (.long ib), .second, .val (.long ic), .second, .val (.long ii), .second, .unset, .unset, .unset, .unset, .unset] [])) := by
    intro sz ia ib ic ii hz1 hz2 hl_ia hu_ia hl_ib hu_ib hl_ic hu_ic hl_ii hu_ii
    refine own_go (B := s₁.setTop (mkF m 66 #[.val (.long q1), .second, .val (.long q2), .second, .val (.long q3), .second, .val (.long q4), .second, .val (.long q5), .second, .val (.int p6), .val (.long sz), .second, .val (.long ia), .second, .val (.long ib), .second, .val (.long ic), .second, .val (.long ii), .second, .unset, .unset, .unset, .unset, .unset] [(.int p6)])) (fun _ k => XS.iload X0.here hx rfl (hb hby at_64) rfl  k) ?_
    refine own_go (B := s₁.setTop (mkF m 67 #[.val (.long q1), .second, .val (.long q2), .second, .val (.long q3), .second, .val (.long q4), .second, .val (.long q5), .second, .val (.int p6), .val (.long sz), .second, .val (.long ia), .second, .val (.long ib), .second, .val (.long ic), .second, .val (.long ii), .second, .unset, .unset, .unset, .unset, .unset] [(.int (1 : Int32)), (.int p6)])) (fun _ k => XS.iconst X0.here hx rfl (hb hby at_66) k) ?_
    refine own_go (B := s₁.setTop (mkF m 68 #[.val (.long q1), .second, .val (.long q2), .second, .val (.long q3), .second, .val (.long q4), .second, .val (.long q5), .second, .val (.int p6), .val (.long sz), .second, .val (.long ia), .second, .val (.long ib), .second, .val (.long ic), .second, .val (.long ii), .second, .unset, .unset, .unset, .unset, .unset] [(.int (p6 &&& (1 : Int32)))])) (fun _ k => XS.iand X0.here hx rfl (hb hby at_67) rfl k) ?_
    by_cases hc7 : (p6 &&& (1 : Int32)) = (0 : Int32)
    · skip
      refine own_go (B := s₁.setTop (mkF m 75 #[.val (.long q1), .second, .val (.long q2), .second, .val (.long q3), .second, .val (.long q4), .second, .val (.long q5), .second, .val (.int p6), .val (.long sz), .second, .val (.long ia), .second, .val (.long ib), .second, .val (.long ic), .second, .val (.long ii), .second, .unset, .unset, .unset, .unset, .unset] [])) (fun _ k => XS.ifYes X0.here hx rfl (pc0 := 68) (pc' := 75) rfl (hb hby at_68) rfl ((if0 _ _).trans (teq hc7).1) (by decide) (by decide) k) ?_
      refine own_go (B := s₁.setTop (mkF m 76 #[.val (.long q1), .second, .val (.long q2), .second, .val (.long q3), .second, .val (.long q4), .second, .val (.long q5), .second, .val (.int p6), .val (.long sz), .second, .val (.long ia), .second, .val (.long ib), .second, .val (.long ic), .second, .val (.long ii), .second, .unset, .unset, .unset, .unset, .unset] [(.int (0 : Int32))])) (fun _ k => XS.iconst X0.here hx rfl (hb hby at_75) k) ?_
      refine own_go (B := s₁.setTop (mkF m 78 #[.val (.long q1), .second, .val (.long q2), .second, .val (.long q3), .second, .val (.long q4), .second, .val (.long q5), .second, .val (.int p6), .val (.long sz), .second, .val (.long ia), .second, .val (.long ib), .second, .val (.long ic), .second, .val (.long ii), .second, .val (.int (0 : Int32)), .unset, .unset, .unset, .unset] [])) (fun _ k => XS.istore X0.here hx rfl (hb hby at_76) rfl (l' := #[.val (.long q1), .second, .val (.long q2), .second, .val (.long q3), .second, .val (.long q4), .second, .val (.long q5), .second, .val (.int p6), .val (.long sz), .second, .val (.long ia), .second, .val (.long ib), .second, .val (.long ic), .second, .val (.long ii), .second, .val (.int (0 : Int32)), .unset, .unset, .unset, .unset]) rfl k) ?_
      obtain ⟨T8, h8, X8, e8, E8, A8, D8, -, st8⟩ := newO X0 hx hZ hown (own_w hw 2 rfl) (own_w hw 3 rfl) (own_w hw 4 rfl) e0 (g := (mkF m 78 #[.val (.long q1), .second, .val (.long q2), .second, .val (.long q3), .second, .val (.long q4), .second, .val (.long q5), .second, .val (.int p6), .val (.long sz), .second, .val (.long ia), .second, .val (.long ib), .second, .val (.long ic), .second, .val (.long ii), .second, .val (.int (0 : Int32)), .unset, .unset, .unset, .unset] [])) rfl (hb hby at_78) (by decide) (by decide)
      obtain ⟨b8, g8⟩ : ∃ z, z = h0.size := ⟨_, rfl⟩
      rw [← g8] at A8 D8 st8
      have sz_b8 : h0.size ≤ b8 := Nat.le_trans K0.1 (Nat.le_of_eq g8.symm)
      have g_b8 : n0 ≤ b8 := Nat.le_trans Z0 sz_b8
      have F_size_b8 : Fld Z h8 b8 "com/example/kin_bloom/kinbloom/BitArray" "size" "J" (.long (0 : Int64)) := D8 (Or.inr (own_w hw 13 rfl)) (ty := .long) (by decide)
      have F_words_b8 : Fld Z h8 b8 "com/example/kin_bloom/kinbloom/BitArray" "words" "[J" .null := D8 (Or.inr (own_w hw 17 rfl)) (ty := (.array .long)) (by decide)
      have K10 : Keep h0 h8 [] := K0.ext E8
      refine own_go (B := T8.setTop (mkF m 81 #[.val (.long q1), .second, .val (.long q2), .second, .val (.long q3), .second, .val (.long q4), .second, .val (.long q5), .second, .val (.int p6), .val (.long sz), .second, .val (.long ia), .second, .val (.long ib), .second, .val (.long ic), .second, .val (.long ii), .second, .val (.int (0 : Int32)), .unset, .unset, .unset, .unset] [(.ref b8)])) st8 ?_
      refine own_go (B := T8.setTop (mkF m 82 #[.val (.long q1), .second, .val (.long q2), .second, .val (.long q3), .second, .val (.long q4), .second, .val (.long q5), .second, .val (.int p6), .val (.long sz), .second, .val (.long ia), .second, .val (.long ib), .second, .val (.long ic), .second, .val (.long ii), .second, .val (.int (0 : Int32)), .unset, .unset, .unset, .unset] [(.ref b8), (.ref b8)])) (fun _ k => XS.dup X8.here hx rfl (hb hby at_81) rfl rfl k) ?_
      refine own_go (B := T8.setTop (mkF m 84 #[.val (.long q1), .second, .val (.long q2), .second, .val (.long q3), .second, .val (.long q4), .second, .val (.long q5), .second, .val (.int p6), .val (.long sz), .second, .val (.long ia), .second, .val (.long ib), .second, .val (.long ic), .second, .val (.long ii), .second, .val (.int (0 : Int32)), .unset, .unset, .unset, .unset] [(.long sz), (.ref b8), (.ref b8)])) (fun _ k => XS.lload X8.here hx rfl (hb hby at_82) rfl  k) ?_
      obtain ⟨_, _, ⟨T11, L11, k11, n11⟩, -, X11, ⟨Lc11, hQ11, l11, y11, z11⟩, st11⟩ := X8.specialBack hx (y := (⟨"com/example/kin_bloom/kinbloom/BitArray", "<init>", "(J)V"⟩ : MethodName)) rfl hown (mvT hZ (own_w hw 5 rfl)) (mvT hZ (own_w hw 6 rfl)) (mvT hZ (own_w hw 7 rfl)) (by decide) (backOf (W := 1) (own_rm1 l Z a0 hw [] b8 sz h8 n0 (Nat.le_trans Z0 K10.1) A8 F_size_b8 F_words_b8 g_b8 hz1 hz2) hZ (own_w hw 7 rfl) (own_w hw 4 rfl) (by decide) (by decide)) (g := (mkF m 84 #[.val (.long q1), .second, .val (.long q2), .second, .val (.long q3), .second, .val (.long q4), .second, .val (.long q5), .second, .val (.int p6), .val (.long sz), .second, .val (.long ia), .second, .val (.long ib), .second, .val (.long ic), .second, .val (.long ii), .second, .val (.int (0 : Int32)), .unset, .unset, .unset, .unset] [(.long sz), (.ref b8), (.ref b8)])) rfl (by rw [hml]; rfl) (Steps.refl _) (a := b8) (argsL := [(.long sz)]) (rest := [(.ref b8)]) (lenOf own_pd2 rfl) rfl (by show 2 * 0 + _ ≤ _; exact Nat.le_of_eq rfl) (hb hby at_84) (fun _ _ => ⟨rfl, e8, (by decide : 1 + 1 ≤ _), (by decide : 2 + 64 ≤ _)⟩)
      dsimp only [Pt.U, Pt.locs, Pt.cells, Pt.slots] at X11 l11 y11 z11 st11 hQ11
      subst l11 y11 z11
      obtain ⟨w_11, rfl, N11q, K11q, Q11_0, Q11_1, Q11_2, Q11_3, x11_0⟩ := hQ11
      have N11 := Fr.app N0 N11q
      have ne_b8_w_11_12 : b8 ≠ w_11 := Nat.ne_of_lt (Nat.lt_of_lt_of_le A8.lt x11_0)
      have sz_w_11 : h0.size ≤ w_11 := Nat.le_trans K10.1 x11_0
      have g_w_11 : n0 ≤ w_11 := Nat.le_trans Z0 sz_w_11
      have K17 : Keep h0 T11.heap [] := K10.trans K11q (allS (Or.inr sz_b8) all0)
      refine own_go (B := T11.setTop (mkF m 87 #[.val (.long q1), .second, .val (.long q2), .second, .val (.long q3), .second, .val (.long q4), .second, .val (.long q5), .second, .val (.int p6), .val (.long sz), .second, .val (.long ia), .second, .val (.long ib), .second, .val (.long ic), .second, .val (.long ii), .second, .val (.int (0 : Int32)), .unset, .unset, .unset, .unset] [(.ref b8)])) (fun _ k => st11.trans k) ?_
      refine own_go (B := T11.setTop (mkF m 89 #[.val (.long q1), .second, .val (.long q2), .second, .val (.long q3), .second, .val (.long q4), .second, .val (.long q5), .second, .val (.int p6), .val (.long sz), .second, .val (.long ia), .second, .val (.long ib), .second, .val (.long ic), .second, .val (.long ii), .second, .val (.int (0 : Int32)), .val (.ref b8), .unset, .unset, .unset] [])) (fun _ k => XS.astore X11.here hx rfl (hb hby at_87) rfl rfl (l' := #[.val (.long q1), .second, .val (.long q2), .second, .val (.long q3), .second, .val (.long q4), .second, .val (.long q5), .second, .val (.int p6), .val (.long sz), .second, .val (.long ia), .second, .val (.long ib), .second, .val (.long ic), .second, .val (.long ii), .second, .val (.int (0 : Int32)), .val (.ref b8), .unset, .unset, .unset]) rfl k) ?_
      refine own_go (B := T11.setTop (mkF m 91 #[.val (.long q1), .second, .val (.long q2), .second, .val (.long q3), .second, .val (.long q4), .second, .val (.long q5), .second, .val (.int p6), .val (.long sz), .second, .val (.long ia), .second, .val (.long ib), .second, .val (.long ic), .second, .val (.long ii), .second, .val (.int (0 : Int32)), .val (.ref b8), .unset, .unset, .unset] [(.ref b8)])) (fun _ k => XS.aload X11.here hx rfl (hb hby at_89) rfl rfl k) ?_
      refine own_go (B := T11.setTop (mkF m 93 #[.val (.long q1), .second, .val (.long q2), .second, .val (.long q3), .second, .val (.long q4), .second, .val (.long q5), .second, .val (.int p6), .val (.long sz), .second, .val (.long ia), .second, .val (.long ib), .second, .val (.long ic), .second, .val (.long ii), .second, .val (.int (0 : Int32)), .val (.ref b8), .unset, .unset, .unset] [(.long ia), (.ref b8)])) (fun _ k => XS.lload X11.here hx rfl (hb hby at_91) rfl  k) ?_
      obtain ⟨cq18, kq18, q18a, q18b, q18c⟩ := isOf hZ rfl Q11_0
      obtain ⟨_, _, ⟨T18, L18, k18, n18⟩, -, X18, ⟨Lc18, hQ18, l18, y18, z18⟩, st18⟩ := X11.virtualBack hx (y := (⟨"com/example/kin_bloom/kinbloom/BitArray", "set", "(J)V"⟩ : MethodName)) (z := (⟨"com/example/kin_bloom/kinbloom/BitArray", "set", "(J)V"⟩ : MethodName)) hown (mvT hZ (own_w hw 18 rfl)) (mvT hZ (own_w hw 19 rfl)) (notFace_of_selects (args := #[]) (mvT hZ (own_w hw 21 rfl))) (mvT hZ (own_w hw 21 rfl)) (mvT hZ (own_w hw 20 rfl)) (by decide) (backOf (W := 0) (own_rm3 l Z a0 hw [] b8 w_11 ia sz (fun _ => false) T11.heap n0 (Nat.le_trans Z0 K17.1) Q11_1 Q11_2 Q11_3 g_w_11 ne_b8_w_11_12 hz2 hl_ia hu_ia) hZ (own_w hw 22 rfl) (own_w hw 4 rfl) (by decide) (by decide)) q18a q18c (g := (mkF m 93 #[.val (.long q1), .second, .val (.long q2), .second, .val (.long q3), .second, .val (.long q4), .second, .val (.long q5), .second, .val (.int p6), .val (.long sz), .second, .val (.long ia), .second, .val (.long ib), .second, .val (.long ic), .second, .val (.long ii), .second, .val (.int (0 : Int32)), .val (.ref b8), .unset, .unset, .unset] [(.long ia), (.ref b8)])) rfl (by rw [hml]; rfl) (Steps.refl _) (argsL := [(.long ia)]) (rest := []) (lenOf own_pd2 rfl) rfl (by show 2 * 0 + _ ≤ _; exact Nat.le_of_eq rfl) (hb hby at_93) (fun _ _ => ⟨rfl, rfl, (by decide : 2 + 0 ≤ _), (by decide : 66 + 0 ≤ _)⟩)
      dsimp only [Pt.U, Pt.locs, Pt.cells, Pt.slots] at X18 l18 y18 z18 st18 hQ18
      subst l18 y18 z18
      obtain ⟨rfl, N18q, K18q, Q18_0⟩ := hQ18
      have N18 := Fr.app N11 N18q
      have E_20 := Q11_0.keep K18q
      have F_21 := Q11_1.keep K18q (ninS ne_b8_w_11_12 nin0)
      have F_22 := Q11_2.keep K18q (ninS ne_b8_w_11_12 nin0)
      have K24 : Keep h0 T18.heap [] := K17.trans K18q (allS (Or.inr sz_w_11) all0)
      refine own_go (B := T18.setTop (mkF m 96 #[.val (.long q1), .second, .val (.long q2), .second, .val (.long q3), .second, .val (.long q4), .second, .val (.long q5), .second, .val (.int p6), .val (.long sz), .second, .val (.long ia), .second, .val (.long ib), .second, .val (.long ic), .second, .val (.long ii), .second, .val (.int (0 : Int32)), .val (.ref b8), .unset, .unset, .unset] [])) (fun _ k => st18.trans k) ?_
      refine own_go (B := T18.setTop (mkF m 98 #[.val (.long q1), .second, .val (.long q2), .second, .val (.long q3), .second, .val (.long q4), .second, .val (.long q5), .second, .val (.int p6), .val (.long sz), .second, .val (.long ia), .second, .val (.long ib), .second, .val (.long ic), .second, .val (.long ii), .second, .val (.int (0 : Int32)), .val (.ref b8), .unset, .unset, .unset] [(.ref b8)])) (fun _ k => XS.aload X18.here hx rfl (hb hby at_96) rfl rfl k) ?_
      refine own_go (B := T18.setTop (mkF m 100 #[.val (.long q1), .second, .val (.long q2), .second, .val (.long q3), .second, .val (.long q4), .second, .val (.long q5), .second, .val (.int p6), .val (.long sz), .second, .val (.long ia), .second, .val (.long ib), .second, .val (.long ic), .second, .val (.long ii), .second, .val (.int (0 : Int32)), .val (.ref b8), .unset, .unset, .unset] [(.long ib), (.ref b8)])) (fun _ k => XS.lload X18.here hx rfl (hb hby at_98) rfl  k) ?_
      obtain ⟨cq25, kq25, q25a, q25b, q25c⟩ := isOf hZ rfl E_20
      obtain ⟨_, _, ⟨T25, L25, k25, n25⟩, -, X25, ⟨Lc25, hQ25, l25, y25, z25⟩, st25⟩ := X18.virtualBack hx (y := (⟨"com/example/kin_bloom/kinbloom/BitArray", "set", "(J)V"⟩ : MethodName)) (z := (⟨"com/example/kin_bloom/kinbloom/BitArray", "set", "(J)V"⟩ : MethodName)) hown (mvT hZ (own_w hw 18 rfl)) (mvT hZ (own_w hw 19 rfl)) (notFace_of_selects (args := #[]) (mvT hZ (own_w hw 21 rfl))) (mvT hZ (own_w hw 21 rfl)) (mvT hZ (own_w hw 20 rfl)) (by decide) (backOf (W := 0) (own_rm3 l Z a0 hw [] b8 w_11 ib sz (fun k => decide (k = ia.toInt.toNat) || (fun _ => false) k) T18.heap n0 (Nat.le_trans Z0 K24.1) F_21 F_22 Q18_0 g_w_11 ne_b8_w_11_12 hz2 hl_ib hu_ib) hZ (own_w hw 22 rfl) (own_w hw 4 rfl) (by decide) (by decide)) q25a q25c (g := (mkF m 100 #[.val (.long q1), .second, .val (.long q2), .second, .val (.long q3), .second, .val (.long q4), .second, .val (.long q5), .second, .val (.int p6), .val (.long sz), .second, .val (.long ia), .second, .val (.long ib), .second, .val (.long ic), .second, .val (.long ii), .second, .val (.int (0 : Int32)), .val (.ref b8), .unset, .unset, .unset] [(.long ib), (.ref b8)])) rfl (by rw [hml]; rfl) (Steps.refl _) (argsL := [(.long ib)]) (rest := []) (lenOf own_pd2 rfl) rfl (by show 2 * 0 + _ ≤ _; exact Nat.le_of_eq rfl) (hb hby at_100) (fun _ _ => ⟨rfl, rfl, (by decide : 2 + 0 ≤ _), (by decide : 66 + 0 ≤ _)⟩)
      dsimp only [Pt.U, Pt.locs, Pt.cells, Pt.slots] at X25 l25 y25 z25 st25 hQ25
      subst l25 y25 z25
      obtain ⟨rfl, N25q, K25q, Q25_0⟩ := hQ25
      have N25 := Fr.app N18 N25q
      have E_27 := E_20.keep K25q
      have F_28 := F_21.keep K25q (ninS ne_b8_w_11_12 nin0)
      have F_29 := F_22.keep K25q (ninS ne_b8_w_11_12 nin0)
      have K31 : Keep h0 T25.heap [] := K24.trans K25q (allS (Or.inr sz_w_11) all0)
      refine own_go (B := T25.setTop (mkF m 103 #[.val (.long q1), .second, .val (.long q2), .second, .val (.long q3), .second, .val (.long q4), .second, .val (.long q5), .second, .val (.int p6), .val (.long sz), .second, .val (.long ia), .second, .val (.long ib), .second, .val (.long ic), .second, .val (.long ii), .second, .val (.int (0 : Int32)), .val (.ref b8), .unset, .unset, .unset] [])) (fun _ k => st25.trans k) ?_
      refine own_go (B := T25.setTop (mkF m 105 #[.val (.long q1), .second, .val (.long q2), .second, .val (.long q3), .second, .val (.long q4), .second, .val (.long q5), .second, .val (.int p6), .val (.long sz), .second, .val (.long ia), .second, .val (.long ib), .second, .val (.long ic), .second, .val (.long ii), .second, .val (.int (0 : Int32)), .val (.ref b8), .unset, .unset, .unset] [(.int (0 : Int32))])) (fun _ k => XS.iload X25.here hx rfl (hb hby at_103) rfl  k) ?_
      have hc32 : (0 : Int32) = (0 : Int32) := by decide
      refine own_go (B := T25.setTop (mkF m 115 #[.val (.long q1), .second, .val (.long q2), .second, .val (.long q3), .second, .val (.long q4), .second, .val (.long q5), .second, .val (.int p6), .val (.long sz), .second, .val (.long ia), .second, .val (.long ib), .second, .val (.long ic), .second, .val (.long ii), .second, .val (.int (0 : Int32)), .val (.ref b8), .unset, .unset, .unset] [])) (fun _ k => XS.ifYes X25.here hx rfl (pc0 := 105) (pc' := 115) rfl (hb hby at_105) rfl ((if0 _ _).trans (teq hc32).1) (by decide) (by decide) k) ?_
      refine own_go (B := T25.setTop (mkF m 117 #[.val (.long q1), .second, .val (.long q2), .second, .val (.long q3), .second, .val (.long q4), .second, .val (.long q5), .second, .val (.int p6), .val (.long sz), .second, .val (.long ia), .second, .val (.long ib), .second, .val (.long ic), .second, .val (.long ii), .second, .val (.int (0 : Int32)), .val (.ref b8), .unset, .unset, .unset] [(.long ii)])) (fun _ k => XS.lload X25.here hx rfl (hb hby at_115) rfl  k) ?_
      refine own_go (B := T25.setTop (mkF m 119 #[.val (.long q1), .second, .val (.long q2), .second, .val (.long q3), .second, .val (.long q4), .second, .val (.long q5), .second, .val (.int p6), .val (.long sz), .second, .val (.long ia), .second, .val (.long ib), .second, .val (.long ic), .second, .val (.long ii), .second, .val (.int (0 : Int32)), .val (.ref b8), .unset, .unset, .unset] [(.long ia), (.long ii)])) (fun _ k => XS.lload X25.here hx rfl (hb hby at_117) rfl  k) ?_
      refine own_go (B := T25.setTop (mkF m 120 #[.val (.long q1), .second, .val (.long q2), .second, .val (.long q3), .second, .val (.long q4), .second, .val (.long q5), .second, .val (.int p6), .val (.long sz), .second, .val (.long ia), .second, .val (.long ib), .second, .val (.long ic), .second, .val (.long ii), .second, .val (.int (0 : Int32)), .val (.ref b8), .unset, .unset, .unset] [(.int (lcmpW ii ia))])) (fun _ k => XS.lcmp X25.here hx rfl (hb hby at_119) rfl k) ?_
      by_cases hc33 : ii = ia
      · skip
        refine own_go (B := T25.setTop (mkF m 131 #[.val (.long q1), .second, .val (.long q2), .second, .val (.long q3), .second, .val (.long q4), .second, .val (.long q5), .second, .val (.int p6), .val (.long sz), .second, .val (.long ia), .second, .val (.long ib), .second, .val (.long ic), .second, .val (.long ii), .second, .val (.int (0 : Int32)), .val (.ref b8), .unset, .unset, .unset] [])) (fun _ k => XS.ifYes X25.here hx rfl (pc0 := 120) (pc' := 131) rfl (hb hby at_120) rfl ((if0 _ _).trans (teq ((lw_eq ii ia).mpr hc33)).1) (by decide) (by decide) k) ?_
        refine own_go (B := T25.setTop (mkF m 133 #[.val (.long q1), .second, .val (.long q2), .second, .val (.long q3), .second, .val (.long q4), .second, .val (.long q5), .second, .val (.int p6), .val (.long sz), .second, .val (.long ia), .second, .val (.long ib), .second, .val (.long ic), .second, .val (.long ii), .second, .val (.int (0 : Int32)), .val (.ref b8), .unset, .unset, .unset] [(.int (0 : Int32))])) (fun _ k => XS.iload X25.here hx rfl (hb hby at_131) rfl  k) ?_
        have hc34 : (0 : Int32) = (0 : Int32) := by decide
        refine own_go (B := T25.setTop (mkF m 144 #[.val (.long q1), .second, .val (.long q2), .second, .val (.long q3), .second, .val (.long q4), .second, .val (.long q5), .second, .val (.int p6), .val (.long sz), .second, .val (.long ia), .second, .val (.long ib), .second, .val (.long ic), .second, .val (.long ii), .second, .val (.int (0 : Int32)), .val (.ref b8), .unset, .unset, .unset] [])) (fun _ k => XS.ifYes X25.here hx rfl (pc0 := 133) (pc' := 144) rfl (hb hby at_133) rfl ((if0 _ _).trans (teq hc34).1) (by decide) (by decide) k) ?_
        refine own_go (B := T25.setTop (mkF m 145 #[.val (.long q1), .second, .val (.long q2), .second, .val (.long q3), .second, .val (.long q4), .second, .val (.long q5), .second, .val (.int p6), .val (.long sz), .second, .val (.long ia), .second, .val (.long ib), .second, .val (.long ic), .second, .val (.long ii), .second, .val (.int (0 : Int32)), .val (.ref b8), .unset, .unset, .unset] [(.int (1 : Int32))])) (fun _ k => XS.iconst X25.here hx rfl (hb hby at_144) k) ?_
        refine own_go (B := T25.setTop (mkF m 149 #[.val (.long q1), .second, .val (.long q2), .second, .val (.long q3), .second, .val (.long q4), .second, .val (.long q5), .second, .val (.int p6), .val (.long sz), .second, .val (.long ia), .second, .val (.long ib), .second, .val (.long ic), .second, .val (.long ii), .second, .val (.int (0 : Int32)), .val (.ref b8), .unset, .unset, .unset] [(.int (1 : Int32))])) (fun _ k => XS.goto X25.here hx rfl (pc0 := 145) (pc' := 149) rfl (hb hby at_145) (by decide) (by decide) k) ?_
        refine own_go (B := T25.setTop (mkF m 151 #[.val (.long q1), .second, .val (.long q2), .second, .val (.long q3), .second, .val (.long q4), .second, .val (.long q5), .second, .val (.int p6), .val (.long sz), .second, .val (.long ia), .second, .val (.long ib), .second, .val (.long ic), .second, .val (.long ii), .second, .val (.int (0 : Int32)), .val (.ref b8), .val (.int (1 : Int32)), .unset, .unset] [])) (fun _ k => XS.istore X25.here hx rfl (hb hby at_149) rfl (l' := #[.val (.long q1), .second, .val (.long q2), .second, .val (.long q3), .second, .val (.long q4), .second, .val (.long q5), .second, .val (.int p6), .val (.long sz), .second, .val (.long ia), .second, .val (.long ib), .second, .val (.long ic), .second, .val (.long ii), .second, .val (.int (0 : Int32)), .val (.ref b8), .val (.int (1 : Int32)), .unset, .unset]) rfl k) ?_
        refine own_go (B := T25.setTop (mkF m 153 #[.val (.long q1), .second, .val (.long q2), .second, .val (.long q3), .second, .val (.long q4), .second, .val (.long q5), .second, .val (.int p6), .val (.long sz), .second, .val (.long ia), .second, .val (.long ib), .second, .val (.long ic), .second, .val (.long ii), .second, .val (.int (0 : Int32)), .val (.ref b8), .val (.int (1 : Int32)), .unset, .unset] [(.ref b8)])) (fun _ k => XS.aload X25.here hx rfl (hb hby at_151) rfl rfl k) ?_
        refine own_go (B := T25.setTop (mkF m 155 #[.val (.long q1), .second, .val (.long q2), .second, .val (.long q3), .second, .val (.long q4), .second, .val (.long q5), .second, .val (.int p6), .val (.long sz), .second, .val (.long ia), .second, .val (.long ib), .second, .val (.long ic), .second, .val (.long ii), .second, .val (.int (0 : Int32)), .val (.ref b8), .val (.int (1 : Int32)), .unset, .unset] [(.long ii), (.ref b8)])) (fun _ k => XS.lload X25.here hx rfl (hb hby at_153) rfl  k) ?_
        obtain ⟨cq35, kq35, q35a, q35b, q35c⟩ := isOf hZ rfl E_27
        obtain ⟨_, _, ⟨T35, L35, k35, n35⟩, -, X35, ⟨Lc35, hQ35, l35, y35, z35⟩, st35⟩ := X25.virtualBack hx (y := (⟨"com/example/kin_bloom/kinbloom/BitArray", "bit", "(J)J"⟩ : MethodName)) (z := (⟨"com/example/kin_bloom/kinbloom/BitArray", "bit", "(J)J"⟩ : MethodName)) hown (mvT hZ (own_w hw 31 rfl)) (mvT hZ (own_w hw 32 rfl)) (notFace_of_selects (args := #[]) (mvT hZ (own_w hw 34 rfl))) (mvT hZ (own_w hw 34 rfl)) (mvT hZ (own_w hw 33 rfl)) (by decide) (backOf (W := 0) (own_rm6 l Z a0 hw [] b8 w_11 ii sz (fun k => decide (k = ib.toInt.toNat) || (fun k => decide (k = ia.toInt.toNat) || (fun _ => false) k) k) T25.heap n0 (Nat.le_trans Z0 K31.1) F_28 F_29 Q25_0 hz2 hl_ii hu_ii) hZ (own_w hw 35 rfl) (own_w hw 4 rfl) (by decide) (by decide)) q35a q35c (g := (mkF m 155 #[.val (.long q1), .second, .val (.long q2), .second, .val (.long q3), .second, .val (.long q4), .second, .val (.long q5), .second, .val (.int p6), .val (.long sz), .second, .val (.long ia), .second, .val (.long ib), .second, .val (.long ic), .second, .val (.long ii), .second, .val (.int (0 : Int32)), .val (.ref b8), .val (.int (1 : Int32)), .unset, .unset] [(.long ii), (.ref b8)])) rfl (by rw [hml]; rfl) (Steps.refl _) (argsL := [(.long ii)]) (rest := []) (lenOf own_pd3 rfl) rfl (by show 2 * 0 + _ ≤ _; exact Nat.le_of_eq rfl) (hb hby at_155) (fun _ _ => ⟨rfl, rfl, (by decide : 2 + 0 ≤ _), (by decide : 66 + 0 ≤ _)⟩)
        dsimp only [Pt.U, Pt.locs, Pt.cells, Pt.slots] at X35 l35 y35 z35 st35 hQ35
        subst l35 y35 z35
        obtain ⟨rfl, N35q, e35⟩ := hQ35
        have N35 := Fr.app N25 N35q
        refine own_go (B := T35.setTop (mkF m 158 #[.val (.long q1), .second, .val (.long q2), .second, .val (.long q3), .second, .val (.long q4), .second, .val (.long q5), .second, .val (.int p6), .val (.long sz), .second, .val (.long ia), .second, .val (.long ib), .second, .val (.long ic), .second, .val (.long ii), .second, .val (.int (0 : Int32)), .val (.ref b8), .val (.int (1 : Int32)), .unset, .unset] [(.long (own_bl ((fun k => decide (k = ib.toInt.toNat) || (fun k => decide (k = ia.toInt.toNat) || (fun _ => false) k) k) ii.toInt.toNat)))])) (fun _ k => st35.trans k) ?_
        refine own_go (B := T35.setTop (mkF m 160 #[.val (.long q1), .second, .val (.long q2), .second, .val (.long q3), .second, .val (.long q4), .second, .val (.long q5), .second, .val (.int p6), .val (.long sz), .second, .val (.long ia), .second, .val (.long ib), .second, .val (.long ic), .second, .val (.long ii), .second, .val (.int (0 : Int32)), .val (.ref b8), .val (.int (1 : Int32)), .val (.long (own_bl ((fun k => decide (k = ib.toInt.toNat) || (fun k => decide (k = ia.toInt.toNat) || (fun _ => false) k) k) ii.toInt.toNat))), .second] [])) (fun _ k => XS.lstore X35.here hx rfl (hb hby at_158) rfl (l' := #[.val (.long q1), .second, .val (.long q2), .second, .val (.long q3), .second, .val (.long q4), .second, .val (.long q5), .second, .val (.int p6), .val (.long sz), .second, .val (.long ia), .second, .val (.long ib), .second, .val (.long ic), .second, .val (.long ii), .second, .val (.int (0 : Int32)), .val (.ref b8), .val (.int (1 : Int32)), .val (.long (own_bl ((fun k => decide (k = ib.toInt.toNat) || (fun k => decide (k = ia.toInt.toNat) || (fun _ => false) k) k) ii.toInt.toNat))), .second]) rfl k) ?_
        refine own_go (B := T35.setTop (mkF m 162 #[.val (.long q1), .second, .val (.long q2), .second, .val (.long q3), .second, .val (.long q4), .second, .val (.long q5), .second, .val (.int p6), .val (.long sz), .second, .val (.long ia), .second, .val (.long ib), .second, .val (.long ic), .second, .val (.long ii), .second, .val (.int (0 : Int32)), .val (.ref b8), .val (.int (1 : Int32)), .val (.long (own_bl ((fun k => decide (k = ib.toInt.toNat) || (fun k => decide (k = ia.toInt.toNat) || (fun _ => false) k) k) ii.toInt.toNat))), .second] [(.long (own_bl ((fun k => decide (k = ib.toInt.toNat) || (fun k => decide (k = ia.toInt.toNat) || (fun _ => false) k) k) ii.toInt.toNat)))])) (fun _ k => XS.lload X35.here hx rfl (hb hby at_160) rfl  k) ?_
        refine own_go (B := T35.setTop (mkF m 164 #[.val (.long q1), .second, .val (.long q2), .second, .val (.long q3), .second, .val (.long q4), .second, .val (.long q5), .second, .val (.int p6), .val (.long sz), .second, .val (.long ia), .second, .val (.long ib), .second, .val (.long ic), .second, .val (.long ii), .second, .val (.int (0 : Int32)), .val (.ref b8), .val (.int (1 : Int32)), .val (.long (own_bl ((fun k => decide (k = ib.toInt.toNat) || (fun k => decide (k = ia.toInt.toNat) || (fun _ => false) k) k) ii.toInt.toNat))), .second] [(.int (1 : Int32)), (.long (own_bl ((fun k => decide (k = ib.toInt.toNat) || (fun k => decide (k = ia.toInt.toNat) || (fun _ => false) k) k) ii.toInt.toNat)))])) (fun _ k => XS.iload X35.here hx rfl (hb hby at_162) rfl  k) ?_
        have hc36 : ¬ ((1 : Int32) = (0 : Int32)) := by decide
        refine own_go (B := T35.setTop (mkF m 167 #[.val (.long q1), .second, .val (.long q2), .second, .val (.long q3), .second, .val (.long q4), .second, .val (.long q5), .second, .val (.int p6), .val (.long sz), .second, .val (.long ia), .second, .val (.long ib), .second, .val (.long ic), .second, .val (.long ii), .second, .val (.int (0 : Int32)), .val (.ref b8), .val (.int (1 : Int32)), .val (.long (own_bl ((fun k => decide (k = ib.toInt.toNat) || (fun k => decide (k = ia.toInt.toNat) || (fun _ => false) k) k) ii.toInt.toNat))), .second] [(.long (own_bl ((fun k => decide (k = ib.toInt.toNat) || (fun k => decide (k = ia.toInt.toNat) || (fun _ => false) k) k) ii.toInt.toNat)))])) (fun _ k => XS.ifNo X35.here hx rfl (hb hby at_164) rfl ((if0 _ _).trans (feq hc36).1) k) ?_
        refine own_go (B := T35.setTop (mkF m 168 #[.val (.long q1), .second, .val (.long q2), .second, .val (.long q3), .second, .val (.long q4), .second, .val (.long q5), .second, .val (.int p6), .val (.long sz), .second, .val (.long ia), .second, .val (.long ib), .second, .val (.long ic), .second, .val (.long ii), .second, .val (.int (0 : Int32)), .val (.ref b8), .val (.int (1 : Int32)), .val (.long (own_bl ((fun k => decide (k = ib.toInt.toNat) || (fun k => decide (k = ia.toInt.toNat) || (fun _ => false) k) k) ii.toInt.toNat))), .second] [(.long (1 : Int64)), (.long (own_bl ((fun k => decide (k = ib.toInt.toNat) || (fun k => decide (k = ia.toInt.toNat) || (fun _ => false) k) k) ii.toInt.toNat)))])) (fun _ k => XS.lconst X35.here hx rfl (hb hby at_167) k) ?_
        refine own_go (B := T35.setTop (mkF m 172 #[.val (.long q1), .second, .val (.long q2), .second, .val (.long q3), .second, .val (.long q4), .second, .val (.long q5), .second, .val (.int p6), .val (.long sz), .second, .val (.long ia), .second, .val (.long ib), .second, .val (.long ic), .second, .val (.long ii), .second, .val (.int (0 : Int32)), .val (.ref b8), .val (.int (1 : Int32)), .val (.long (own_bl ((fun k => decide (k = ib.toInt.toNat) || (fun k => decide (k = ia.toInt.toNat) || (fun _ => false) k) k) ii.toInt.toNat))), .second] [(.long (1 : Int64)), (.long (own_bl ((fun k => decide (k = ib.toInt.toNat) || (fun k => decide (k = ia.toInt.toNat) || (fun _ => false) k) k) ii.toInt.toNat)))])) (fun _ k => XS.goto X35.here hx rfl (pc0 := 168) (pc' := 172) rfl (hb hby at_168) (by decide) (by decide) k) ?_
        refine own_go (B := T35.setTop (mkF m 173 #[.val (.long q1), .second, .val (.long q2), .second, .val (.long q3), .second, .val (.long q4), .second, .val (.long q5), .second, .val (.int p6), .val (.long sz), .second, .val (.long ia), .second, .val (.long ib), .second, .val (.long ic), .second, .val (.long ii), .second, .val (.int (0 : Int32)), .val (.ref b8), .val (.int (1 : Int32)), .val (.long (own_bl ((fun k => decide (k = ib.toInt.toNat) || (fun k => decide (k = ia.toInt.toNat) || (fun _ => false) k) k) ii.toInt.toNat))), .second] [(.int (lcmpW (own_bl ((fun k => decide (k = ib.toInt.toNat) || (fun k => decide (k = ia.toInt.toNat) || (fun _ => false) k) k) ii.toInt.toNat)) (1 : Int64)))])) (fun _ k => XS.lcmp X35.here hx rfl (hb hby at_172) rfl k) ?_
        have hc37 : (own_bl ((fun k => decide (k = ib.toInt.toNat) || (fun k => decide (k = ia.toInt.toNat) || (fun _ => false) k) k) ii.toInt.toNat)) = (1 : Int64) := (own_pl_rm0_25 p6 sz ia ib ic ii hz1 hz2 hl_ia hu_ia hl_ib hu_ib hl_ic hu_ic hl_ii hu_ii hc7 hc33)
        refine own_go (B := T35.setTop (mkF m 176 #[.val (.long q1), .second, .val (.long q2), .second, .val (.long q3), .second, .val (.long q4), .second, .val (.long q5), .second, .val (.int p6), .val (.long sz), .second, .val (.long ia), .second, .val (.long ib), .second, .val (.long ic), .second, .val (.long ii), .second, .val (.int (0 : Int32)), .val (.ref b8), .val (.int (1 : Int32)), .val (.long (own_bl ((fun k => decide (k = ib.toInt.toNat) || (fun k => decide (k = ia.toInt.toNat) || (fun _ => false) k) k) ii.toInt.toNat))), .second] [])) (fun _ k => XS.ifNo X35.here hx rfl (hb hby at_173) rfl ((if0 _ _).trans (teq ((lw_eq (own_bl ((fun k => decide (k = ib.toInt.toNat) || (fun k => decide (k = ia.toInt.toNat) || (fun _ => false) k) k) ii.toInt.toNat)) (1 : Int64)).mpr hc37)).2) k) ?_
        refine own_go (B := T35.setTop (mkF m 177 #[.val (.long q1), .second, .val (.long q2), .second, .val (.long q3), .second, .val (.long q4), .second, .val (.long q5), .second, .val (.int p6), .val (.long sz), .second, .val (.long ia), .second, .val (.long ib), .second, .val (.long ic), .second, .val (.long ii), .second, .val (.int (0 : Int32)), .val (.ref b8), .val (.int (1 : Int32)), .val (.long (own_bl ((fun k => decide (k = ib.toInt.toNat) || (fun k => decide (k = ia.toInt.toNat) || (fun _ => false) k) k) ii.toInt.toNat))), .second] [(.int (1 : Int32))])) (fun _ k => XS.iconst X35.here hx rfl (hb hby at_176) k) ?_
        refine own_go (B := T35.setTop (mkF m 181 #[.val (.long q1), .second, .val (.long q2), .second, .val (.long q3), .second, .val (.long q4), .second, .val (.long q5), .second, .val (.int p6), .val (.long sz), .second, .val (.long ia), .second, .val (.long ib), .second, .val (.long ic), .second, .val (.long ii), .second, .val (.int (0 : Int32)), .val (.ref b8), .val (.int (1 : Int32)), .val (.long (own_bl ((fun k => decide (k = ib.toInt.toNat) || (fun k => decide (k = ia.toInt.toNat) || (fun _ => false) k) k) ii.toInt.toNat))), .second] [(.int (1 : Int32))])) (fun _ k => XS.goto X35.here hx rfl (pc0 := 177) (pc' := 181) rfl (hb hby at_177) (by decide) (by decide) k) ?_
        exact own_retN X35 hx Bd.notSynchronized (t := .boolean) (w := (1 : Int32)) Bd.returns (by simp) (hb hby at_181) e35 rfl ⟨rfl, N35, K31⟩ (by decide) (by decide)
      · skip
        refine own_go (B := T25.setTop (mkF m 123 #[.val (.long q1), .second, .val (.long q2), .second, .val (.long q3), .second, .val (.long q4), .second, .val (.long q5), .second, .val (.int p6), .val (.long sz), .second, .val (.long ia), .second, .val (.long ib), .second, .val (.long ic), .second, .val (.long ii), .second, .val (.int (0 : Int32)), .val (.ref b8), .unset, .unset, .unset] [])) (fun _ k => XS.ifNo X25.here hx rfl (hb hby at_120) rfl ((if0 _ _).trans (feq (mt (lw_eq ii ia).mp hc33)).1) k) ?_
        refine own_go (B := T25.setTop (mkF m 125 #[.val (.long q1), .second, .val (.long q2), .second, .val (.long q3), .second, .val (.long q4), .second, .val (.long q5), .second, .val (.int p6), .val (.long sz), .second, .val (.long ia), .second, .val (.long ib), .second, .val (.long ic), .second, .val (.long ii), .second, .val (.int (0 : Int32)), .val (.ref b8), .unset, .unset, .unset] [(.long ii)])) (fun _ k => XS.lload X25.here hx rfl (hb hby at_123) rfl  k) ?_
        refine own_go (B := T25.setTop (mkF m 127 #[.val (.long q1), .second, .val (.long q2), .second, .val (.long q3), .second, .val (.long q4), .second, .val (.long q5), .second, .val (.int p6), .val (.long sz), .second, .val (.long ia), .second, .val (.long ib), .second, .val (.long ic), .second, .val (.long ii), .second, .val (.int (0 : Int32)), .val (.ref b8), .unset, .unset, .unset] [(.long ib), (.long ii)])) (fun _ k => XS.lload X25.here hx rfl (hb hby at_125) rfl  k) ?_
        refine own_go (B := T25.setTop (mkF m 128 #[.val (.long q1), .second, .val (.long q2), .second, .val (.long q3), .second, .val (.long q4), .second, .val (.long q5), .second, .val (.int p6), .val (.long sz), .second, .val (.long ia), .second, .val (.long ib), .second, .val (.long ic), .second, .val (.long ii), .second, .val (.int (0 : Int32)), .val (.ref b8), .unset, .unset, .unset] [(.int (lcmpW ii ib))])) (fun _ k => XS.lcmp X25.here hx rfl (hb hby at_127) rfl k) ?_
        by_cases hc38 : ii = ib
        · skip
          refine own_go (B := T25.setTop (mkF m 131 #[.val (.long q1), .second, .val (.long q2), .second, .val (.long q3), .second, .val (.long q4), .second, .val (.long q5), .second, .val (.int p6), .val (.long sz), .second, .val (.long ia), .second, .val (.long ib), .second, .val (.long ic), .second, .val (.long ii), .second, .val (.int (0 : Int32)), .val (.ref b8), .unset, .unset, .unset] [])) (fun _ k => XS.ifNo X25.here hx rfl (hb hby at_128) rfl ((if0 _ _).trans (teq ((lw_eq ii ib).mpr hc38)).2) k) ?_
          refine own_go (B := T25.setTop (mkF m 133 #[.val (.long q1), .second, .val (.long q2), .second, .val (.long q3), .second, .val (.long q4), .second, .val (.long q5), .second, .val (.int p6), .val (.long sz), .second, .val (.long ia), .second, .val (.long ib), .second, .val (.long ic), .second, .val (.long ii), .second, .val (.int (0 : Int32)), .val (.ref b8), .unset, .unset, .unset] [(.int (0 : Int32))])) (fun _ k => XS.iload X25.here hx rfl (hb hby at_131) rfl  k) ?_
          have hc39 : (0 : Int32) = (0 : Int32) := by decide
          refine own_go (B := T25.setTop (mkF m 144 #[.val (.long q1), .second, .val (.long q2), .second, .val (.long q3), .second, .val (.long q4), .second, .val (.long q5), .second, .val (.int p6), .val (.long sz), .second, .val (.long ia), .second, .val (.long ib), .second, .val (.long ic), .second, .val (.long ii), .second, .val (.int (0 : Int32)), .val (.ref b8), .unset, .unset, .unset] [])) (fun _ k => XS.ifYes X25.here hx rfl (pc0 := 133) (pc' := 144) rfl (hb hby at_133) rfl ((if0 _ _).trans (teq hc39).1) (by decide) (by decide) k) ?_
          refine own_go (B := T25.setTop (mkF m 145 #[.val (.long q1), .second, .val (.long q2), .second, .val (.long q3), .second, .val (.long q4), .second, .val (.long q5), .second, .val (.int p6), .val (.long sz), .second, .val (.long ia), .second, .val (.long ib), .second, .val (.long ic), .second, .val (.long ii), .second, .val (.int (0 : Int32)), .val (.ref b8), .unset, .unset, .unset] [(.int (1 : Int32))])) (fun _ k => XS.iconst X25.here hx rfl (hb hby at_144) k) ?_
          refine own_go (B := T25.setTop (mkF m 149 #[.val (.long q1), .second, .val (.long q2), .second, .val (.long q3), .second, .val (.long q4), .second, .val (.long q5), .second, .val (.int p6), .val (.long sz), .second, .val (.long ia), .second, .val (.long ib), .second, .val (.long ic), .second, .val (.long ii), .second, .val (.int (0 : Int32)), .val (.ref b8), .unset, .unset, .unset] [(.int (1 : Int32))])) (fun _ k => XS.goto X25.here hx rfl (pc0 := 145) (pc' := 149) rfl (hb hby at_145) (by decide) (by decide) k) ?_
          refine own_go (B := T25.setTop (mkF m 151 #[.val (.long q1), .second, .val (.long q2), .second, .val (.long q3), .second, .val (.long q4), .second, .val (.long q5), .second, .val (.int p6), .val (.long sz), .second, .val (.long ia), .second, .val (.long ib), .second, .val (.long ic), .second, .val (.long ii), .second, .val (.int (0 : Int32)), .val (.ref b8), .val (.int (1 : Int32)), .unset, .unset] [])) (fun _ k => XS.istore X25.here hx rfl (hb hby at_149) rfl (l' := #[.val (.long q1), .second, .val (.long q2), .second, .val (.long q3), .second, .val (.long q4), .second, .val (.long q5), .second, .val (.int p6), .val (.long sz), .second, .val (.long ia), .second, .val (.long ib), .second, .val (.long ic), .second, .val (.long ii), .second, .val (.int (0 : Int32)), .val (.ref b8), .val (.int (1 : Int32)), .unset, .unset]) rfl k) ?_
          refine own_go (B := T25.setTop (mkF m 153 #[.val (.long q1), .second, .val (.long q2), .second, .val (.long q3), .second, .val (.long q4), .second, .val (.long q5), .second, .val (.int p6), .val (.long sz), .second, .val (.long ia), .second, .val (.long ib), .second, .val (.long ic), .second, .val (.long ii), .second, .val (.int (0 : Int32)), .val (.ref b8), .val (.int (1 : Int32)), .unset, .unset] [(.ref b8)])) (fun _ k => XS.aload X25.here hx rfl (hb hby at_151) rfl rfl k) ?_
          refine own_go (B := T25.setTop (mkF m 155 #[.val (.long q1), .second, .val (.long q2), .second, .val (.long q3), .second, .val (.long q4), .second, .val (.long q5), .second, .val (.int p6), .val (.long sz), .second, .val (.long ia), .second, .val (.long ib), .second, .val (.long ic), .second, .val (.long ii), .second, .val (.int (0 : Int32)), .val (.ref b8), .val (.int (1 : Int32)), .unset, .unset] [(.long ii), (.ref b8)])) (fun _ k => XS.lload X25.here hx rfl (hb hby at_153) rfl  k) ?_
          obtain ⟨cq40, kq40, q40a, q40b, q40c⟩ := isOf hZ rfl E_27
          obtain ⟨_, _, ⟨T40, L40, k40, n40⟩, -, X40, ⟨Lc40, hQ40, l40, y40, z40⟩, st40⟩ := X25.virtualBack hx (y := (⟨"com/example/kin_bloom/kinbloom/BitArray", "bit", "(J)J"⟩ : MethodName)) (z := (⟨"com/example/kin_bloom/kinbloom/BitArray", "bit", "(J)J"⟩ : MethodName)) hown (mvT hZ (own_w hw 31 rfl)) (mvT hZ (own_w hw 32 rfl)) (notFace_of_selects (args := #[]) (mvT hZ (own_w hw 34 rfl))) (mvT hZ (own_w hw 34 rfl)) (mvT hZ (own_w hw 33 rfl)) (by decide) (backOf (W := 0) (own_rm6 l Z a0 hw [] b8 w_11 ii sz (fun k => decide (k = ib.toInt.toNat) || (fun k => decide (k = ia.toInt.toNat) || (fun _ => false) k) k) T25.heap n0 (Nat.le_trans Z0 K31.1) F_28 F_29 Q25_0 hz2 hl_ii hu_ii) hZ (own_w hw 35 rfl) (own_w hw 4 rfl) (by decide) (by decide)) q40a q40c (g := (mkF m 155 #[.val (.long q1), .second, .val (.long q2), .second, .val (.long q3), .second, .val (.long q4), .second, .val (.long q5), .second, .val (.int p6), .val (.long sz), .second, .val (.long ia), .second, .val (.long ib), .second, .val (.long ic), .second, .val (.long ii), .second, .val (.int (0 : Int32)), .val (.ref b8), .val (.int (1 : Int32)), .unset, .unset] [(.long ii), (.ref b8)])) rfl (by rw [hml]; rfl) (Steps.refl _) (argsL := [(.long ii)]) (rest := []) (lenOf own_pd3 rfl) rfl (by show 2 * 0 + _ ≤ _; exact Nat.le_of_eq rfl) (hb hby at_155) (fun _ _ => ⟨rfl, rfl, (by decide : 2 + 0 ≤ _), (by decide : 66 + 0 ≤ _)⟩)
          dsimp only [Pt.U, Pt.locs, Pt.cells, Pt.slots] at X40 l40 y40 z40 st40 hQ40
          subst l40 y40 z40
          obtain ⟨rfl, N40q, e40⟩ := hQ40
          have N40 := Fr.app N25 N40q
          refine own_go (B := T40.setTop (mkF m 158 #[.val (.long q1), .second, .val (.long q2), .second, .val (.long q3), .second, .val (.long q4), .second, .val (.long q5), .second, .val (.int p6), .val (.long sz), .second, .val (.long ia), .second, .val (.long ib), .second, .val (.long ic), .second, .val (.long ii), .second, .val (.int (0 : Int32)), .val (.ref b8), .val (.int (1 : Int32)), .unset, .unset] [(.long (own_bl ((fun k => decide (k = ib.toInt.toNat) || (fun k => decide (k = ia.toInt.toNat) || (fun _ => false) k) k) ii.toInt.toNat)))])) (fun _ k => st40.trans k) ?_
          refine own_go (B := T40.setTop (mkF m 160 #[.val (.long q1), .second, .val (.long q2), .second, .val (.long q3), .second, .val (.long q4), .second, .val (.long q5), .second, .val (.int p6), .val (.long sz), .second, .val (.long ia), .second, .val (.long ib), .second, .val (.long ic), .second, .val (.long ii), .second, .val (.int (0 : Int32)), .val (.ref b8), .val (.int (1 : Int32)), .val (.long (own_bl ((fun k => decide (k = ib.toInt.toNat) || (fun k => decide (k = ia.toInt.toNat) || (fun _ => false) k) k) ii.toInt.toNat))), .second] [])) (fun _ k => XS.lstore X40.here hx rfl (hb hby at_158) rfl (l' := #[.val (.long q1), .second, .val (.long q2), .second, .val (.long q3), .second, .val (.long q4), .second, .val (.long q5), .second, .val (.int p6), .val (.long sz), .second, .val (.long ia), .second, .val (.long ib), .second, .val (.long ic), .second, .val (.long ii), .second, .val (.int (0 : Int32)), .val (.ref b8), .val (.int (1 : Int32)), .val (.long (own_bl ((fun k => decide (k = ib.toInt.toNat) || (fun k => decide (k = ia.toInt.toNat) || (fun _ => false) k) k) ii.toInt.toNat))), .second]) rfl k) ?_
          refine own_go (B := T40.setTop (mkF m 162 #[.val (.long q1), .second, .val (.long q2), .second, .val (.long q3), .second, .val (.long q4), .second, .val (.long q5), .second, .val (.int p6), .val (.long sz), .second, .val (.long ia), .second, .val (.long ib), .second, .val (.long ic), .second, .val (.long ii), .second, .val (.int (0 : Int32)), .val (.ref b8), .val (.int (1 : Int32)), .val (.long (own_bl ((fun k => decide (k = ib.toInt.toNat) || (fun k => decide (k = ia.toInt.toNat) || (fun _ => false) k) k) ii.toInt.toNat))), .second] [(.long (own_bl ((fun k => decide (k = ib.toInt.toNat) || (fun k => decide (k = ia.toInt.toNat) || (fun _ => false) k) k) ii.toInt.toNat)))])) (fun _ k => XS.lload X40.here hx rfl (hb hby at_160) rfl  k) ?_
          refine own_go (B := T40.setTop (mkF m 164 #[.val (.long q1), .second, .val (.long q2), .second, .val (.long q3), .second, .val (.long q4), .second, .val (.long q5), .second, .val (.int p6), .val (.long sz), .second, .val (.long ia), .second, .val (.long ib), .second, .val (.long ic), .second, .val (.long ii), .second, .val (.int (0 : Int32)), .val (.ref b8), .val (.int (1 : Int32)), .val (.long (own_bl ((fun k => decide (k = ib.toInt.toNat) || (fun k => decide (k = ia.toInt.toNat) || (fun _ => false) k) k) ii.toInt.toNat))), .second] [(.int (1 : Int32)), (.long (own_bl ((fun k => decide (k = ib.toInt.toNat) || (fun k => decide (k = ia.toInt.toNat) || (fun _ => false) k) k) ii.toInt.toNat)))])) (fun _ k => XS.iload X40.here hx rfl (hb hby at_162) rfl  k) ?_
          have hc41 : ¬ ((1 : Int32) = (0 : Int32)) := by decide
          refine own_go (B := T40.setTop (mkF m 167 #[.val (.long q1), .second, .val (.long q2), .second, .val (.long q3), .second, .val (.long q4), .second, .val (.long q5), .second, .val (.int p6), .val (.long sz), .second, .val (.long ia), .second, .val (.long ib), .second, .val (.long ic), .second, .val (.long ii), .second, .val (.int (0 : Int32)), .val (.ref b8), .val (.int (1 : Int32)), .val (.long (own_bl ((fun k => decide (k = ib.toInt.toNat) || (fun k => decide (k = ia.toInt.toNat) || (fun _ => false) k) k) ii.toInt.toNat))), .second] [(.long (own_bl ((fun k => decide (k = ib.toInt.toNat) || (fun k => decide (k = ia.toInt.toNat) || (fun _ => false) k) k) ii.toInt.toNat)))])) (fun _ k => XS.ifNo X40.here hx rfl (hb hby at_164) rfl ((if0 _ _).trans (feq hc41).1) k) ?_
          refine own_go (B := T40.setTop (mkF m 168 #[.val (.long q1), .second, .val (.long q2), .second, .val (.long q3), .second, .val (.long q4), .second, .val (.long q5), .second, .val (.int p6), .val (.long sz), .second, .val (.long ia), .second, .val (.long ib), .second, .val (.long ic), .second, .val (.long ii), .second, .val (.int (0 : Int32)), .val (.ref b8), .val (.int (1 : Int32)), .val (.long (own_bl ((fun k => decide (k = ib.toInt.toNat) || (fun k => decide (k = ia.toInt.toNat) || (fun _ => false) k) k) ii.toInt.toNat))), .second] [(.long (1 : Int64)), (.long (own_bl ((fun k => decide (k = ib.toInt.toNat) || (fun k => decide (k = ia.toInt.toNat) || (fun _ => false) k) k) ii.toInt.toNat)))])) (fun _ k => XS.lconst X40.here hx rfl (hb hby at_167) k) ?_
          refine own_go (B := T40.setTop (mkF m 172 #[.val (.long q1), .second, .val (.long q2), .second, .val (.long q3), .second, .val (.long q4), .second, .val (.long q5), .second, .val (.int p6), .val (.long sz), .second, .val (.long ia), .second, .val (.long ib), .second, .val (.long ic), .second, .val (.long ii), .second, .val (.int (0 : Int32)), .val (.ref b8), .val (.int (1 : Int32)), .val (.long (own_bl ((fun k => decide (k = ib.toInt.toNat) || (fun k => decide (k = ia.toInt.toNat) || (fun _ => false) k) k) ii.toInt.toNat))), .second] [(.long (1 : Int64)), (.long (own_bl ((fun k => decide (k = ib.toInt.toNat) || (fun k => decide (k = ia.toInt.toNat) || (fun _ => false) k) k) ii.toInt.toNat)))])) (fun _ k => XS.goto X40.here hx rfl (pc0 := 168) (pc' := 172) rfl (hb hby at_168) (by decide) (by decide) k) ?_
          refine own_go (B := T40.setTop (mkF m 173 #[.val (.long q1), .second, .val (.long q2), .second, .val (.long q3), .second, .val (.long q4), .second, .val (.long q5), .second, .val (.int p6), .val (.long sz), .second, .val (.long ia), .second, .val (.long ib), .second, .val (.long ic), .second, .val (.long ii), .second, .val (.int (0 : Int32)), .val (.ref b8), .val (.int (1 : Int32)), .val (.long (own_bl ((fun k => decide (k = ib.toInt.toNat) || (fun k => decide (k = ia.toInt.toNat) || (fun _ => false) k) k) ii.toInt.toNat))), .second] [(.int (lcmpW (own_bl ((fun k => decide (k = ib.toInt.toNat) || (fun k => decide (k = ia.toInt.toNat) || (fun _ => false) k) k) ii.toInt.toNat)) (1 : Int64)))])) (fun _ k => XS.lcmp X40.here hx rfl (hb hby at_172) rfl k) ?_
          have hc42 : (own_bl ((fun k => decide (k = ib.toInt.toNat) || (fun k => decide (k = ia.toInt.toNat) || (fun _ => false) k) k) ii.toInt.toNat)) = (1 : Int64) := (own_pl_rm0_26 p6 sz ia ib ic ii hz1 hz2 hl_ia hu_ia hl_ib hu_ib hl_ic hu_ic hl_ii hu_ii hc7 hc33 hc38)
          refine own_go (B := T40.setTop (mkF m 176 #[.val (.long q1), .second, .val (.long q2), .second, .val (.long q3), .second, .val (.long q4), .second, .val (.long q5), .second, .val (.int p6), .val (.long sz), .second, .val (.long ia), .second, .val (.long ib), .second, .val (.long ic), .second, .val (.long ii), .second, .val (.int (0 : Int32)), .val (.ref b8), .val (.int (1 : Int32)), .val (.long (own_bl ((fun k => decide (k = ib.toInt.toNat) || (fun k => decide (k = ia.toInt.toNat) || (fun _ => false) k) k) ii.toInt.toNat))), .second] [])) (fun _ k => XS.ifNo X40.here hx rfl (hb hby at_173) rfl ((if0 _ _).trans (teq ((lw_eq (own_bl ((fun k => decide (k = ib.toInt.toNat) || (fun k => decide (k = ia.toInt.toNat) || (fun _ => false) k) k) ii.toInt.toNat)) (1 : Int64)).mpr hc42)).2) k) ?_
          refine own_go (B := T40.setTop (mkF m 177 #[.val (.long q1), .second, .val (.long q2), .second, .val (.long q3), .second, .val (.long q4), .second, .val (.long q5), .second, .val (.int p6), .val (.long sz), .second, .val (.long ia), .second, .val (.long ib), .second, .val (.long ic), .second, .val (.long ii), .second, .val (.int (0 : Int32)), .val (.ref b8), .val (.int (1 : Int32)), .val (.long (own_bl ((fun k => decide (k = ib.toInt.toNat) || (fun k => decide (k = ia.toInt.toNat) || (fun _ => false) k) k) ii.toInt.toNat))), .second] [(.int (1 : Int32))])) (fun _ k => XS.iconst X40.here hx rfl (hb hby at_176) k) ?_
          refine own_go (B := T40.setTop (mkF m 181 #[.val (.long q1), .second, .val (.long q2), .second, .val (.long q3), .second, .val (.long q4), .second, .val (.long q5), .second, .val (.int p6), .val (.long sz), .second, .val (.long ia), .second, .val (.long ib), .second, .val (.long ic), .second, .val (.long ii), .second, .val (.int (0 : Int32)), .val (.ref b8), .val (.int (1 : Int32)), .val (.long (own_bl ((fun k => decide (k = ib.toInt.toNat) || (fun k => decide (k = ia.toInt.toNat) || (fun _ => false) k) k) ii.toInt.toNat))), .second] [(.int (1 : Int32))])) (fun _ k => XS.goto X40.here hx rfl (pc0 := 177) (pc' := 181) rfl (hb hby at_177) (by decide) (by decide) k) ?_
          exact own_retN X40 hx Bd.notSynchronized (t := .boolean) (w := (1 : Int32)) Bd.returns (by simp) (hb hby at_181) e40 rfl ⟨rfl, N40, K31⟩ (by decide) (by decide)
        · skip
          refine own_go (B := T25.setTop (mkF m 148 #[.val (.long q1), .second, .val (.long q2), .second, .val (.long q3), .second, .val (.long q4), .second, .val (.long q5), .second, .val (.int p6), .val (.long sz), .second, .val (.long ia), .second, .val (.long ib), .second, .val (.long ic), .second, .val (.long ii), .second, .val (.int (0 : Int32)), .val (.ref b8), .unset, .unset, .unset] [])) (fun _ k => XS.ifYes X25.here hx rfl (pc0 := 128) (pc' := 148) rfl (hb hby at_128) rfl ((if0 _ _).trans (feq (mt (lw_eq ii ib).mp hc38)).2) (by decide) (by decide) k) ?_
          refine own_go (B := T25.setTop (mkF m 149 #[.val (.long q1), .second, .val (.long q2), .second, .val (.long q3), .second, .val (.long q4), .second, .val (.long q5), .second, .val (.int p6), .val (.long sz), .second, .val (.long ia), .second, .val (.long ib), .second, .val (.long ic), .second, .val (.long ii), .second, .val (.int (0 : Int32)), .val (.ref b8), .unset, .unset, .unset] [(.int (0 : Int32))])) (fun _ k => XS.iconst X25.here hx rfl (hb hby at_148) k) ?_
          refine own_go (B := T25.setTop (mkF m 151 #[.val (.long q1), .second, .val (.long q2), .second, .val (.long q3), .second, .val (.long q4), .second, .val (.long q5), .second, .val (.int p6), .val (.long sz), .second, .val (.long ia), .second, .val (.long ib), .second, .val (.long ic), .second, .val (.long ii), .second, .val (.int (0 : Int32)), .val (.ref b8), .val (.int (0 : Int32)), .unset, .unset] [])) (fun _ k => XS.istore X25.here hx rfl (hb hby at_149) rfl (l' := #[.val (.long q1), .second, .val (.long q2), .second, .val (.long q3), .second, .val (.long q4), .second, .val (.long q5), .second, .val (.int p6), .val (.long sz), .second, .val (.long ia), .second, .val (.long ib), .second, .val (.long ic), .second, .val (.long ii), .second, .val (.int (0 : Int32)), .val (.ref b8), .val (.int (0 : Int32)), .unset, .unset]) rfl k) ?_
          refine own_go (B := T25.setTop (mkF m 153 #[.val (.long q1), .second, .val (.long q2), .second, .val (.long q3), .second, .val (.long q4), .second, .val (.long q5), .second, .val (.int p6), .val (.long sz), .second, .val (.long ia), .second, .val (.long ib), .second, .val (.long ic), .second, .val (.long ii), .second, .val (.int (0 : Int32)), .val (.ref b8), .val (.int (0 : Int32)), .unset, .unset] [(.ref b8)])) (fun _ k => XS.aload X25.here hx rfl (hb hby at_151) rfl rfl k) ?_
          refine own_go (B := T25.setTop (mkF m 155 #[.val (.long q1), .second, .val (.long q2), .second, .val (.long q3), .second, .val (.long q4), .second, .val (.long q5), .second, .val (.int p6), .val (.long sz), .second, .val (.long ia), .second, .val (.long ib), .second, .val (.long ic), .second, .val (.long ii), .second, .val (.int (0 : Int32)), .val (.ref b8), .val (.int (0 : Int32)), .unset, .unset] [(.long ii), (.ref b8)])) (fun _ k => XS.lload X25.here hx rfl (hb hby at_153) rfl  k) ?_
          obtain ⟨cq43, kq43, q43a, q43b, q43c⟩ := isOf hZ rfl E_27
          obtain ⟨_, _, ⟨T43, L43, k43, n43⟩, -, X43, ⟨Lc43, hQ43, l43, y43, z43⟩, st43⟩ := X25.virtualBack hx (y := (⟨"com/example/kin_bloom/kinbloom/BitArray", "bit", "(J)J"⟩ : MethodName)) (z := (⟨"com/example/kin_bloom/kinbloom/BitArray", "bit", "(J)J"⟩ : MethodName)) hown (mvT hZ (own_w hw 31 rfl)) (mvT hZ (own_w hw 32 rfl)) (notFace_of_selects (args := #[]) (mvT hZ (own_w hw 34 rfl))) (mvT hZ (own_w hw 34 rfl)) (mvT hZ (own_w hw 33 rfl)) (by decide) (backOf (W := 0) (own_rm6 l Z a0 hw [] b8 w_11 ii sz (fun k => decide (k = ib.toInt.toNat) || (fun k => decide (k = ia.toInt.toNat) || (fun _ => false) k) k) T25.heap n0 (Nat.le_trans Z0 K31.1) F_28 F_29 Q25_0 hz2 hl_ii hu_ii) hZ (own_w hw 35 rfl) (own_w hw 4 rfl) (by decide) (by decide)) q43a q43c (g := (mkF m 155 #[.val (.long q1), .second, .val (.long q2), .second, .val (.long q3), .second, .val (.long q4), .second, .val (.long q5), .second, .val (.int p6), .val (.long sz), .second, .val (.long ia), .second, .val (.long ib), .second, .val (.long ic), .second, .val (.long ii), .second, .val (.int (0 : Int32)), .val (.ref b8), .val (.int (0 : Int32)), .unset, .unset] [(.long ii), (.ref b8)])) rfl (by rw [hml]; rfl) (Steps.refl _) (argsL := [(.long ii)]) (rest := []) (lenOf own_pd3 rfl) rfl (by show 2 * 0 + _ ≤ _; exact Nat.le_of_eq rfl) (hb hby at_155) (fun _ _ => ⟨rfl, rfl, (by decide : 2 + 0 ≤ _), (by decide : 66 + 0 ≤ _)⟩)
          dsimp only [Pt.U, Pt.locs, Pt.cells, Pt.slots] at X43 l43 y43 z43 st43 hQ43
          subst l43 y43 z43
          obtain ⟨rfl, N43q, e43⟩ := hQ43
          have N43 := Fr.app N25 N43q
          refine own_go (B := T43.setTop (mkF m 158 #[.val (.long q1), .second, .val (.long q2), .second, .val (.long q3), .second, .val (.long q4), .second, .val (.long q5), .second, .val (.int p6), .val (.long sz), .second, .val (.long ia), .second, .val (.long ib), .second, .val (.long ic), .second, .val (.long ii), .second, .val (.int (0 : Int32)), .val (.ref b8), .val (.int (0 : Int32)), .unset, .unset] [(.long (own_bl ((fun k => decide (k = ib.toInt.toNat) || (fun k => decide (k = ia.toInt.toNat) || (fun _ => false) k) k) ii.toInt.toNat)))])) (fun _ k => st43.trans k) ?_
          refine own_go (B := T43.setTop (mkF m 160 #[.val (.long q1), .second, .val (.long q2), .second, .val (.long q3), .second, .val (.long q4), .second, .val (.long q5), .second, .val (.int p6), .val (.long sz), .second, .val (.long ia), .second, .val (.long ib), .second, .val (.long ic), .second, .val (.long ii), .second, .val (.int (0 : Int32)), .val (.ref b8), .val (.int (0 : Int32)), .val (.long (own_bl ((fun k => decide (k = ib.toInt.toNat) || (fun k => decide (k = ia.toInt.toNat) || (fun _ => false) k) k) ii.toInt.toNat))), .second] [])) (fun _ k => XS.lstore X43.here hx rfl (hb hby at_158) rfl (l' := #[.val (.long q1), .second, .val (.long q2), .second, .val (.long q3), .second, .val (.long q4), .second, .val (.long q5), .second, .val (.int p6), .val (.long sz), .second, .val (.long ia), .second, .val (.long ib), .second, .val (.long ic), .second, .val (.long ii), .second, .val (.int (0 : Int32)), .val (.ref b8), .val (.int (0 : Int32)), .val (.long (own_bl ((fun k => decide (k = ib.toInt.toNat) || (fun k => decide (k = ia.toInt.toNat) || (fun _ => false) k) k) ii.toInt.toNat))), .second]) rfl k) ?_
          refine own_go (B := T43.setTop (mkF m 162 #[.val (.long q1), .second, .val (.long q2), .second, .val (.long q3), .second, .val (.long q4), .second, .val (.long q5), .second, .val (.int p6), .val (.long sz), .second, .val (.long ia), .second, .val (.long ib), .second, .val (.long ic), .second, .val (.long ii), .second, .val (.int (0 : Int32)), .val (.ref b8), .val (.int (0 : Int32)), .val (.long (own_bl ((fun k => decide (k = ib.toInt.toNat) || (fun k => decide (k = ia.toInt.toNat) || (fun _ => false) k) k) ii.toInt.toNat))), .second] [(.long (own_bl ((fun k => decide (k = ib.toInt.toNat) || (fun k => decide (k = ia.toInt.toNat) || (fun _ => false) k) k) ii.toInt.toNat)))])) (fun _ k => XS.lload X43.here hx rfl (hb hby at_160) rfl  k) ?_
          refine own_go (B := T43.setTop (mkF m 164 #[.val (.long q1), .second, .val (.long q2), .second, .val (.long q3), .second, .val (.long q4), .second, .val (.long q5), .second, .val (.int p6), .val (.long sz), .second, .val (.long ia), .second, .val (.long ib), .second, .val (.long ic), .second, .val (.long ii), .second, .val (.int (0 : Int32)), .val (.ref b8), .val (.int (0 : Int32)), .val (.long (own_bl ((fun k => decide (k = ib.toInt.toNat) || (fun k => decide (k = ia.toInt.toNat) || (fun _ => false) k) k) ii.toInt.toNat))), .second] [(.int (0 : Int32)), (.long (own_bl ((fun k => decide (k = ib.toInt.toNat) || (fun k => decide (k = ia.toInt.toNat) || (fun _ => false) k) k) ii.toInt.toNat)))])) (fun _ k => XS.iload X43.here hx rfl (hb hby at_162) rfl  k) ?_
          have hc44 : (0 : Int32) = (0 : Int32) := by decide
          refine own_go (B := T43.setTop (mkF m 171 #[.val (.long q1), .second, .val (.long q2), .second, .val (.long q3), .second, .val (.long q4), .second, .val (.long q5), .second, .val (.int p6), .val (.long sz), .second, .val (.long ia), .second, .val (.long ib), .second, .val (.long ic), .second, .val (.long ii), .second, .val (.int (0 : Int32)), .val (.ref b8), .val (.int (0 : Int32)), .val (.long (own_bl ((fun k => decide (k = ib.toInt.toNat) || (fun k => decide (k = ia.toInt.toNat) || (fun _ => false) k) k) ii.toInt.toNat))), .second] [(.long (own_bl ((fun k => decide (k = ib.toInt.toNat) || (fun k => decide (k = ia.toInt.toNat) || (fun _ => false) k) k) ii.toInt.toNat)))])) (fun _ k => XS.ifYes X43.here hx rfl (pc0 := 164) (pc' := 171) rfl (hb hby at_164) rfl ((if0 _ _).trans (teq hc44).1) (by decide) (by decide) k) ?_
          refine own_go (B := T43.setTop (mkF m 172 #[.val (.long q1), .second, .val (.long q2), .second, .val (.long q3), .second, .val (.long q4), .second, .val (.long q5), .second, .val (.int p6), .val (.long sz), .second, .val (.long ia), .second, .val (.long ib), .second, .val (.long ic), .second, .val (.long ii), .second, .val (.int (0 : Int32)), .val (.ref b8), .val (.int (0 : Int32)), .val (.long (own_bl ((fun k => decide (k = ib.toInt.toNat) || (fun k => decide (k = ia.toInt.toNat) || (fun _ => false) k) k) ii.toInt.toNat))), .second] [(.long (0 : Int64)), (.long (own_bl ((fun k => decide (k = ib.toInt.toNat) || (fun k => decide (k = ia.toInt.toNat) || (fun _ => false) k) k) ii.toInt.toNat)))])) (fun _ k => XS.lconst X43.here hx rfl (hb hby at_171) k) ?_
          refine own_go (B := T43.setTop (mkF m 173 #[.val (.long q1), .second, .val (.long q2), .second, .val (.long q3), .second, .val (.long q4), .second, .val (.long q5), .second, .val (.int p6), .val (.long sz), .second, .val (.long ia), .second, .val (.long ib), .second, .val (.long ic), .second, .val (.long ii), .second, .val (.int (0 : Int32)), .val (.ref b8), .val (.int (0 : Int32)), .val (.long (own_bl ((fun k => decide (k = ib.toInt.toNat) || (fun k => decide (k = ia.toInt.toNat) || (fun _ => false) k) k) ii.toInt.toNat))), .second] [(.int (lcmpW (own_bl ((fun k => decide (k = ib.toInt.toNat) || (fun k => decide (k = ia.toInt.toNat) || (fun _ => false) k) k) ii.toInt.toNat)) (0 : Int64)))])) (fun _ k => XS.lcmp X43.here hx rfl (hb hby at_172) rfl k) ?_
          have hc45 : (own_bl ((fun k => decide (k = ib.toInt.toNat) || (fun k => decide (k = ia.toInt.toNat) || (fun _ => false) k) k) ii.toInt.toNat)) = (0 : Int64) := (own_pl_rm0_27 p6 sz ia ib ic ii hz1 hz2 hl_ia hu_ia hl_ib hu_ib hl_ic hu_ic hl_ii hu_ii hc7 hc33 hc38)
          refine own_go (B := T43.setTop (mkF m 176 #[.val (.long q1), .second, .val (.long q2), .second, .val (.long q3), .second, .val (.long q4), .second, .val (.long q5), .second, .val (.int p6), .val (.long sz), .second, .val (.long ia), .second, .val (.long ib), .second, .val (.long ic), .second, .val (.long ii), .second, .val (.int (0 : Int32)), .val (.ref b8), .val (.int (0 : Int32)), .val (.long (own_bl ((fun k => decide (k = ib.toInt.toNat) || (fun k => decide (k = ia.toInt.toNat) || (fun _ => false) k) k) ii.toInt.toNat))), .second] [])) (fun _ k => XS.ifNo X43.here hx rfl (hb hby at_173) rfl ((if0 _ _).trans (teq ((lw_eq (own_bl ((fun k => decide (k = ib.toInt.toNat) || (fun k => decide (k = ia.toInt.toNat) || (fun _ => false) k) k) ii.toInt.toNat)) (0 : Int64)).mpr hc45)).2) k) ?_
          refine own_go (B := T43.setTop (mkF m 177 #[.val (.long q1), .second, .val (.long q2), .second, .val (.long q3), .second, .val (.long q4), .second, .val (.long q5), .second, .val (.int p6), .val (.long sz), .second, .val (.long ia), .second, .val (.long ib), .second, .val (.long ic), .second, .val (.long ii), .second, .val (.int (0 : Int32)), .val (.ref b8), .val (.int (0 : Int32)), .val (.long (own_bl ((fun k => decide (k = ib.toInt.toNat) || (fun k => decide (k = ia.toInt.toNat) || (fun _ => false) k) k) ii.toInt.toNat))), .second] [(.int (1 : Int32))])) (fun _ k => XS.iconst X43.here hx rfl (hb hby at_176) k) ?_
          refine own_go (B := T43.setTop (mkF m 181 #[.val (.long q1), .second, .val (.long q2), .second, .val (.long q3), .second, .val (.long q4), .second, .val (.long q5), .second, .val (.int p6), .val (.long sz), .second, .val (.long ia), .second, .val (.long ib), .second, .val (.long ic), .second, .val (.long ii), .second, .val (.int (0 : Int32)), .val (.ref b8), .val (.int (0 : Int32)), .val (.long (own_bl ((fun k => decide (k = ib.toInt.toNat) || (fun k => decide (k = ia.toInt.toNat) || (fun _ => false) k) k) ii.toInt.toNat))), .second] [(.int (1 : Int32))])) (fun _ k => XS.goto X43.here hx rfl (pc0 := 177) (pc' := 181) rfl (hb hby at_177) (by decide) (by decide) k) ?_
          exact own_retN X43 hx Bd.notSynchronized (t := .boolean) (w := (1 : Int32)) Bd.returns (by simp) (hb hby at_181) e43 rfl ⟨rfl, N43, K31⟩ (by decide) (by decide)
    · skip
      refine own_go (B := s₁.setTop (mkF m 71 #[.val (.long q1), .second, .val (.long q2), .second, .val (.long q3), .second, .val (.long q4), .second, .val (.long q5), .second, .val (.int p6), .val (.long sz), .second, .val (.long ia), .second, .val (.long ib), .second, .val (.long ic), .second, .val (.long ii), .second, .unset, .unset, .unset, .unset, .unset] [])) (fun _ k => XS.ifNo X0.here hx rfl (hb hby at_68) rfl ((if0 _ _).trans (feq hc7).1) k) ?_
      refine own_go (B := s₁.setTop (mkF m 72 #[.val (.long q1), .second, .val (.long q2), .second, .val (.long q3), .second, .val (.long q4), .second, .val (.long q5), .second, .val (.int p6), .val (.long sz), .second, .val (.long ia), .second, .val (.long ib), .second, .val (.long ic), .second, .val (.long ii), .second, .unset, .unset, .unset, .unset, .unset] [(.int (1 : Int32))])) (fun _ k => XS.iconst X0.here hx rfl (hb hby at_71) k) ?_
      refine own_go (B := s₁.setTop (mkF m 76 #[.val (.long q1), .second, .val (.long q2), .second, .val (.long q3), .second, .val (.long q4), .second, .val (.long q5), .second, .val (.int p6), .val (.long sz), .second, .val (.long ia), .second, .val (.long ib), .second, .val (.long ic), .second, .val (.long ii), .second, .unset, .unset, .unset, .unset, .unset] [(.int (1 : Int32))])) (fun _ k => XS.goto X0.here hx rfl (pc0 := 72) (pc' := 76) rfl (hb hby at_72) (by decide) (by decide) k) ?_
      refine own_go (B := s₁.setTop (mkF m 78 #[.val (.long q1), .second, .val (.long q2), .second, .val (.long q3), .second, .val (.long q4), .second, .val (.long q5), .second, .val (.int p6), .val (.long sz), .second, .val (.long ia), .second, .val (.long ib), .second, .val (.long ic), .second, .val (.long ii), .second, .val (.int (1 : Int32)), .unset, .unset, .unset, .unset] [])) (fun _ k => XS.istore X0.here hx rfl (hb hby at_76) rfl (l' := #[.val (.long q1), .second, .val (.long q2), .second, .val (.long q3), .second, .val (.long q4), .second, .val (.long q5), .second, .val (.int p6), .val (.long sz), .second, .val (.long ia), .second, .val (.long ib), .second, .val (.long ic), .second, .val (.long ii), .second, .val (.int (1 : Int32)), .unset, .unset, .unset, .unset]) rfl k) ?_
      obtain ⟨T46, h46, X46, e46, E46, A46, D46, -, st46⟩ := newO X0 hx hZ hown (own_w hw 2 rfl) (own_w hw 3 rfl) (own_w hw 4 rfl) e0 (g := (mkF m 78 #[.val (.long q1), .second, .val (.long q2), .second, .val (.long q3), .second, .val (.long q4), .second, .val (.long q5), .second, .val (.int p6), .val (.long sz), .second, .val (.long ia), .second, .val (.long ib), .second, .val (.long ic), .second, .val (.long ii), .second, .val (.int (1 : Int32)), .unset, .unset, .unset, .unset] [])) rfl (hb hby at_78) (by decide) (by decide)
      obtain ⟨b46, g46⟩ : ∃ z, z = h0.size := ⟨_, rfl⟩
      rw [← g46] at A46 D46 st46
      have sz_b46 : h0.size ≤ b46 := Nat.le_trans K0.1 (Nat.le_of_eq g46.symm)
      have g_b46 : n0 ≤ b46 := Nat.le_trans Z0 sz_b46
      have F_size_b46 : Fld Z h46 b46 "com/example/kin_bloom/kinbloom/BitArray" "size" "J" (.long (0 : Int64)) := D46 (Or.inr (own_w hw 13 rfl)) (ty := .long) (by decide)
      have F_words_b46 : Fld Z h46 b46 "com/example/kin_bloom/kinbloom/BitArray" "words" "[J" .null := D46 (Or.inr (own_w hw 17 rfl)) (ty := (.array .long)) (by decide)
      have K48 : Keep h0 h46 [] := K0.ext E46
      refine own_go (B := T46.setTop (mkF m 81 #[.val (.long q1), .second, .val (.long q2), .second, .val (.long q3), .second, .val (.long q4), .second, .val (.long q5), .second, .val (.int p6), .val (.long sz), .second, .val (.long ia), .second, .val (.long ib), .second, .val (.long ic), .second, .val (.long ii), .second, .val (.int (1 : Int32)), .unset, .unset, .unset, .unset] [(.ref b46)])) st46 ?_
      refine own_go (B := T46.setTop (mkF m 82 #[.val (.long q1), .second, .val (.long q2), .second, .val (.long q3), .second, .val (.long q4), .second, .val (.long q5), .second, .val (.int p6), .val (.long sz), .second, .val (.long ia), .second, .val (.long ib), .second, .val (.long ic), .second, .val (.long ii), .second, .val (.int (1 : Int32)), .unset, .unset, .unset, .unset] [(.ref b46), (.ref b46)])) (fun _ k => XS.dup X46.here hx rfl (hb hby at_81) rfl rfl k) ?_
      refine own_go (B := T46.setTop (mkF m 84 #[.val (.long q1), .second, .val (.long q2), .second, .val (.long q3), .second, .val (.long q4), .second, .val (.long q5), .second, .val (.int p6), .val (.long sz), .second, .val (.long ia), .second, .val (.long ib), .second, .val (.long ic), .second, .val (.long ii), .second, .val (.int (1 : Int32)), .unset, .unset, .unset, .unset] [(.long sz), (.ref b46), (.ref b46)])) (fun _ k => XS.lload X46.here hx rfl (hb hby at_82) rfl  k) ?_
      obtain ⟨_, _, ⟨T49, L49, k49, n49⟩, -, X49, ⟨Lc49, hQ49, l49, y49, z49⟩, st49⟩ := X46.specialBack hx (y := (⟨"com/example/kin_bloom/kinbloom/BitArray", "<init>", "(J)V"⟩ : MethodName)) rfl hown (mvT hZ (own_w hw 5 rfl)) (mvT hZ (own_w hw 6 rfl)) (mvT hZ (own_w hw 7 rfl)) (by decide) (backOf (W := 1) (own_rm1 l Z a0 hw [] b46 sz h46 n0 (Nat.le_trans Z0 K48.1) A46 F_size_b46 F_words_b46 g_b46 hz1 hz2) hZ (own_w hw 7 rfl) (own_w hw 4 rfl) (by decide) (by decide)) (g := (mkF m 84 #[.val (.long q1), .second, .val (.long q2), .second, .val (.long q3), .second, .val (.long q4), .second, .val (.long q5), .second, .val (.int p6), .val (.long sz), .second, .val (.long ia), .second, .val (.long ib), .second, .val (.long ic), .second, .val (.long ii), .second, .val (.int (1 : Int32)), .unset, .unset, .unset, .unset] [(.long sz), (.ref b46), (.ref b46)])) rfl (by rw [hml]; rfl) (Steps.refl _) (a := b46) (argsL := [(.long sz)]) (rest := [(.ref b46)]) (lenOf own_pd2 rfl) rfl (by show 2 * 0 + _ ≤ _; exact Nat.le_of_eq rfl) (hb hby at_84) (fun _ _ => ⟨rfl, e46, (by decide : 1 + 1 ≤ _), (by decide : 2 + 64 ≤ _)⟩)
      dsimp only [Pt.U, Pt.locs, Pt.cells, Pt.slots] at X49 l49 y49 z49 st49 hQ49
      subst l49 y49 z49
      obtain ⟨w_49, rfl, N49q, K49q, Q49_0, Q49_1, Q49_2, Q49_3, x49_0⟩ := hQ49
      have N49 := Fr.app N0 N49q
      have ne_b46_w_49_50 : b46 ≠ w_49 := Nat.ne_of_lt (Nat.lt_of_lt_of_le A46.lt x49_0)
      have sz_w_49 : h0.size ≤ w_49 := Nat.le_trans K48.1 x49_0
      have g_w_49 : n0 ≤ w_49 := Nat.le_trans Z0 sz_w_49
      have K55 : Keep h0 T49.heap [] := K48.trans K49q (allS (Or.inr sz_b46) all0)
      refine own_go (B := T49.setTop (mkF m 87 #[.val (.long q1), .second, .val (.long q2), .second, .val (.long q3), .second, .val (.long q4), .second, .val (.long q5), .second, .val (.int p6), .val (.long sz), .second, .val (.long ia), .second, .val (.long ib), .second, .val (.long ic), .second, .val (.long ii), .second, .val (.int (1 : Int32)), .unset, .unset, .unset, .unset] [(.ref b46)])) (fun _ k => st49.trans k) ?_
      refine own_go (B := T49.setTop (mkF m 89 #[.val (.long q1), .second, .val (.long q2), .second, .val (.long q3), .second, .val (.long q4), .second, .val (.long q5), .second, .val (.int p6), .val (.long sz), .second, .val (.long ia), .second, .val (.long ib), .second, .val (.long ic), .second, .val (.long ii), .second, .val (.int (1 : Int32)), .val (.ref b46), .unset, .unset, .unset] [])) (fun _ k => XS.astore X49.here hx rfl (hb hby at_87) rfl rfl (l' := #[.val (.long q1), .second, .val (.long q2), .second, .val (.long q3), .second, .val (.long q4), .second, .val (.long q5), .second, .val (.int p6), .val (.long sz), .second, .val (.long ia), .second, .val (.long ib), .second, .val (.long ic), .second, .val (.long ii), .second, .val (.int (1 : Int32)), .val (.ref b46), .unset, .unset, .unset]) rfl k) ?_
      refine own_go (B := T49.setTop (mkF m 91 #[.val (.long q1), .second, .val (.long q2), .second, .val (.long q3), .second, .val (.long q4), .second, .val (.long q5), .second, .val (.int p6), .val (.long sz), .second, .val (.long ia), .second, .val (.long ib), .second, .val (.long ic), .second, .val (.long ii), .second, .val (.int (1 : Int32)), .val (.ref b46), .unset, .unset, .unset] [(.ref b46)])) (fun _ k => XS.aload X49.here hx rfl (hb hby at_89) rfl rfl k) ?_
      refine own_go (B := T49.setTop (mkF m 93 #[.val (.long q1), .second, .val (.long q2), .second, .val (.long q3), .second, .val (.long q4), .second, .val (.long q5), .second, .val (.int p6), .val (.long sz), .second, .val (.long ia), .second, .val (.long ib), .second, .val (.long ic), .second, .val (.long ii), .second, .val (.int (1 : Int32)), .val (.ref b46), .unset, .unset, .unset] [(.long ia), (.ref b46)])) (fun _ k => XS.lload X49.here hx rfl (hb hby at_91) rfl  k) ?_
      obtain ⟨cq56, kq56, q56a, q56b, q56c⟩ := isOf hZ rfl Q49_0
      obtain ⟨_, _, ⟨T56, L56, k56, n56⟩, -, X56, ⟨Lc56, hQ56, l56, y56, z56⟩, st56⟩ := X49.virtualBack hx (y := (⟨"com/example/kin_bloom/kinbloom/BitArray", "set", "(J)V"⟩ : MethodName)) (z := (⟨"com/example/kin_bloom/kinbloom/BitArray", "set", "(J)V"⟩ : MethodName)) hown (mvT hZ (own_w hw 18 rfl)) (mvT hZ (own_w hw 19 rfl)) (notFace_of_selects (args := #[]) (mvT hZ (own_w hw 21 rfl))) (mvT hZ (own_w hw 21 rfl)) (mvT hZ (own_w hw 20 rfl)) (by decide) (backOf (W := 0) (own_rm3 l Z a0 hw [] b46 w_49 ia sz (fun _ => false) T49.heap n0 (Nat.le_trans Z0 K55.1) Q49_1 Q49_2 Q49_3 g_w_49 ne_b46_w_49_50 hz2 hl_ia hu_ia) hZ (own_w hw 22 rfl) (own_w hw 4 rfl) (by decide) (by decide)) q56a q56c (g := (mkF m 93 #[.val (.long q1), .second, .val (.long q2), .second, .val (.long q3), .second, .val (.long q4), .second, .val (.long q5), .second, .val (.int p6), .val (.long sz), .second, .val (.long ia), .second, .val (.long ib), .second, .val (.long ic), .second, .val (.long ii), .second, .val (.int (1 : Int32)), .val (.ref b46), .unset, .unset, .unset] [(.long ia), (.ref b46)])) rfl (by rw [hml]; rfl) (Steps.refl _) (argsL := [(.long ia)]) (rest := []) (lenOf own_pd2 rfl) rfl (by show 2 * 0 + _ ≤ _; exact Nat.le_of_eq rfl) (hb hby at_93) (fun _ _ => ⟨rfl, rfl, (by decide : 2 + 0 ≤ _), (by decide : 66 + 0 ≤ _)⟩)
      dsimp only [Pt.U, Pt.locs, Pt.cells, Pt.slots] at X56 l56 y56 z56 st56 hQ56
      subst l56 y56 z56
      obtain ⟨rfl, N56q, K56q, Q56_0⟩ := hQ56
      have N56 := Fr.app N49 N56q
      have E_58 := Q49_0.keep K56q
      have F_59 := Q49_1.keep K56q (ninS ne_b46_w_49_50 nin0)
      have F_60 := Q49_2.keep K56q (ninS ne_b46_w_49_50 nin0)
      have K62 : Keep h0 T56.heap [] := K55.trans K56q (allS (Or.inr sz_w_49) all0)
      refine own_go (B := T56.setTop (mkF m 96 #[.val (.long q1), .second, .val (.long q2), .second, .val (.long q3), .second, .val (.long q4), .second, .val (.long q5), .second, .val (.int p6), .val (.long sz), .second, .val (.long ia), .second, .val (.long ib), .second, .val (.long ic), .second, .val (.long ii), .second, .val (.int (1 : Int32)), .val (.ref b46), .unset, .unset, .unset] [])) (fun _ k => st56.trans k) ?_
      refine own_go (B := T56.setTop (mkF m 98 #[.val (.long q1), .second, .val (.long q2), .second, .val (.long q3), .second, .val (.long q4), .second, .val (.long q5), .second, .val (.int p6), .val (.long sz), .second, .val (.long ia), .second, .val (.long ib), .second, .val (.long ic), .second, .val (.long ii), .second, .val (.int (1 : Int32)), .val (.ref b46), .unset, .unset, .unset] [(.ref b46)])) (fun _ k => XS.aload X56.here hx rfl (hb hby at_96) rfl rfl k) ?_
      refine own_go (B := T56.setTop (mkF m 100 #[.val (.long q1), .second, .val (.long q2), .second, .val (.long q3), .second, .val (.long q4), .second, .val (.long q5), .second, .val (.int p6), .val (.long sz), .second, .val (.long ia), .second, .val (.long ib), .second, .val (.long ic), .second, .val (.long ii), .second, .val (.int (1 : Int32)), .val (.ref b46), .unset, .unset, .unset] [(.long ib), (.ref b46)])) (fun _ k => XS.lload X56.here hx rfl (hb hby at_98) rfl  k) ?_
      obtain ⟨cq63, kq63, q63a, q63b, q63c⟩ := isOf hZ rfl E_58
      obtain ⟨_, _, ⟨T63, L63, k63, n63⟩, -, X63, ⟨Lc63, hQ63, l63, y63, z63⟩, st63⟩ := X56.virtualBack hx (y := (⟨"com/example/kin_bloom/kinbloom/BitArray", "set", "(J)V"⟩ : MethodName)) (z := (⟨"com/example/kin_bloom/kinbloom/BitArray", "set", "(J)V"⟩ : MethodName)) hown (mvT hZ (own_w hw 18 rfl)) (mvT hZ (own_w hw 19 rfl)) (notFace_of_selects (args := #[]) (mvT hZ (own_w hw 21 rfl))) (mvT hZ (own_w hw 21 rfl)) (mvT hZ (own_w hw 20 rfl)) (by decide) (backOf (W := 0) (own_rm3 l Z a0 hw [] b46 w_49 ib sz (fun k => decide (k = ia.toInt.toNat) || (fun _ => false) k) T56.heap n0 (Nat.le_trans Z0 K62.1) F_59 F_60 Q56_0 g_w_49 ne_b46_w_49_50 hz2 hl_ib hu_ib) hZ (own_w hw 22 rfl) (own_w hw 4 rfl) (by decide) (by decide)) q63a q63c (g := (mkF m 100 #[.val (.long q1), .second, .val (.long q2), .second, .val (.long q3), .second, .val (.long q4), .second, .val (.long q5), .second, .val (.int p6), .val (.long sz), .second, .val (.long ia), .second, .val (.long ib), .second, .val (.long ic), .second, .val (.long ii), .second, .val (.int (1 : Int32)), .val (.ref b46), .unset, .unset, .unset] [(.long ib), (.ref b46)])) rfl (by rw [hml]; rfl) (Steps.refl _) (argsL := [(.long ib)]) (rest := []) (lenOf own_pd2 rfl) rfl (by show 2 * 0 + _ ≤ _; exact Nat.le_of_eq rfl) (hb hby at_100) (fun _ _ => ⟨rfl, rfl, (by decide : 2 + 0 ≤ _), (by decide : 66 + 0 ≤ _)⟩)
      dsimp only [Pt.U, Pt.locs, Pt.cells, Pt.slots] at X63 l63 y63 z63 st63 hQ63
      subst l63 y63 z63
      obtain ⟨rfl, N63q, K63q, Q63_0⟩ := hQ63
      have N63 := Fr.app N56 N63q
      have E_65 := E_58.keep K63q
      have F_66 := F_59.keep K63q (ninS ne_b46_w_49_50 nin0)
      have F_67 := F_60.keep K63q (ninS ne_b46_w_49_50 nin0)
      have K69 : Keep h0 T63.heap [] := K62.trans K63q (allS (Or.inr sz_w_49) all0)
      refine own_go (B := T63.setTop (mkF m 103 #[.val (.long q1), .second, .val (.long q2), .second, .val (.long q3), .second, .val (.long q4), .second, .val (.long q5), .second, .val (.int p6), .val (.long sz), .second, .val (.long ia), .second, .val (.long ib), .second, .val (.long ic), .second, .val (.long ii), .second, .val (.int (1 : Int32)), .val (.ref b46), .unset, .unset, .unset] [])) (fun _ k => st63.trans k) ?_
      refine own_go (B := T63.setTop (mkF m 105 #[.val (.long q1), .second, .val (.long q2), .second, .val (.long q3), .second, .val (.long q4), .second, .val (.long q5), .second, .val (.int p6), .val (.long sz), .second, .val (.long ia), .second, .val (.long ib), .second, .val (.long ic), .second, .val (.long ii), .second, .val (.int (1 : Int32)), .val (.ref b46), .unset, .unset, .unset] [(.int (1 : Int32))])) (fun _ k => XS.iload X63.here hx rfl (hb hby at_103) rfl  k) ?_
      have hc70 : ¬ ((1 : Int32) = (0 : Int32)) := by decide
      refine own_go (B := T63.setTop (mkF m 108 #[.val (.long q1), .second, .val (.long q2), .second, .val (.long q3), .second, .val (.long q4), .second, .val (.long q5), .second, .val (.int p6), .val (.long sz), .second, .val (.long ia), .second, .val (.long ib), .second, .val (.long ic), .second, .val (.long ii), .second, .val (.int (1 : Int32)), .val (.ref b46), .unset, .unset, .unset] [])) (fun _ k => XS.ifNo X63.here hx rfl (hb hby at_105) rfl ((if0 _ _).trans (feq hc70).1) k) ?_
      refine own_go (B := T63.setTop (mkF m 110 #[.val (.long q1), .second, .val (.long q2), .second, .val (.long q3), .second, .val (.long q4), .second, .val (.long q5), .second, .val (.int p6), .val (.long sz), .second, .val (.long ia), .second, .val (.long ib), .second, .val (.long ic), .second, .val (.long ii), .second, .val (.int (1 : Int32)), .val (.ref b46), .unset, .unset, .unset] [(.ref b46)])) (fun _ k => XS.aload X63.here hx rfl (hb hby at_108) rfl rfl k) ?_
      refine own_go (B := T63.setTop (mkF m 112 #[.val (.long q1), .second, .val (.long q2), .second, .val (.long q3), .second, .val (.long q4), .second, .val (.long q5), .second, .val (.int p6), .val (.long sz), .second, .val (.long ia), .second, .val (.long ib), .second, .val (.long ic), .second, .val (.long ii), .second, .val (.int (1 : Int32)), .val (.ref b46), .unset, .unset, .unset] [(.long ic), (.ref b46)])) (fun _ k => XS.lload X63.here hx rfl (hb hby at_110) rfl  k) ?_
      obtain ⟨cq71, kq71, q71a, q71b, q71c⟩ := isOf hZ rfl E_65
      obtain ⟨_, _, ⟨T71, L71, k71, n71⟩, -, X71, ⟨Lc71, hQ71, l71, y71, z71⟩, st71⟩ := X63.virtualBack hx (y := (⟨"com/example/kin_bloom/kinbloom/BitArray", "clear", "(J)V"⟩ : MethodName)) (z := (⟨"com/example/kin_bloom/kinbloom/BitArray", "clear", "(J)V"⟩ : MethodName)) hown (mvT hZ (own_w hw 36 rfl)) (mvT hZ (own_w hw 37 rfl)) (notFace_of_selects (args := #[]) (mvT hZ (own_w hw 39 rfl))) (mvT hZ (own_w hw 39 rfl)) (mvT hZ (own_w hw 38 rfl)) (by decide) (backOf (W := 0) (own_rm7 l Z a0 hw [] b46 w_49 ic sz (fun k => decide (k = ib.toInt.toNat) || (fun k => decide (k = ia.toInt.toNat) || (fun _ => false) k) k) T63.heap n0 (Nat.le_trans Z0 K69.1) F_66 F_67 Q63_0 g_w_49 ne_b46_w_49_50 hz2 hl_ic hu_ic) hZ (own_w hw 40 rfl) (own_w hw 4 rfl) (by decide) (by decide)) q71a q71c (g := (mkF m 112 #[.val (.long q1), .second, .val (.long q2), .second, .val (.long q3), .second, .val (.long q4), .second, .val (.long q5), .second, .val (.int p6), .val (.long sz), .second, .val (.long ia), .second, .val (.long ib), .second, .val (.long ic), .second, .val (.long ii), .second, .val (.int (1 : Int32)), .val (.ref b46), .unset, .unset, .unset] [(.long ic), (.ref b46)])) rfl (by rw [hml]; rfl) (Steps.refl _) (argsL := [(.long ic)]) (rest := []) (lenOf own_pd2 rfl) rfl (by show 2 * 0 + _ ≤ _; exact Nat.le_of_eq rfl) (hb hby at_112) (fun _ _ => ⟨rfl, rfl, (by decide : 2 + 0 ≤ _), (by decide : 66 + 0 ≤ _)⟩)
      dsimp only [Pt.U, Pt.locs, Pt.cells, Pt.slots] at X71 l71 y71 z71 st71 hQ71
      subst l71 y71 z71
      obtain ⟨rfl, N71q, K71q, Q71_0⟩ := hQ71
      have N71 := Fr.app N63 N71q
      have E_73 := E_65.keep K71q
      have F_74 := F_66.keep K71q (ninS ne_b46_w_49_50 nin0)
      have F_75 := F_67.keep K71q (ninS ne_b46_w_49_50 nin0)
      have K77 : Keep h0 T71.heap [] := K69.trans K71q (allS (Or.inr sz_w_49) all0)
      refine own_go (B := T71.setTop (mkF m 115 #[.val (.long q1), .second, .val (.long q2), .second, .val (.long q3), .second, .val (.long q4), .second, .val (.long q5), .second, .val (.int p6), .val (.long sz), .second, .val (.long ia), .second, .val (.long ib), .second, .val (.long ic), .second, .val (.long ii), .second, .val (.int (1 : Int32)), .val (.ref b46), .unset, .unset, .unset] [])) (fun _ k => st71.trans k) ?_
      refine own_go (B := T71.setTop (mkF m 117 #[.val (.long q1), .second, .val (.long q2), .second, .val (.long q3), .second, .val (.long q4), .second, .val (.long q5), .second, .val (.int p6), .val (.long sz), .second, .val (.long ia), .second, .val (.long ib), .second, .val (.long ic), .second, .val (.long ii), .second, .val (.int (1 : Int32)), .val (.ref b46), .unset, .unset, .unset] [(.long ii)])) (fun _ k => XS.lload X71.here hx rfl (hb hby at_115) rfl  k) ?_
      refine own_go (B := T71.setTop (mkF m 119 #[.val (.long q1), .second, .val (.long q2), .second, .val (.long q3), .second, .val (.long q4), .second, .val (.long q5), .second, .val (.int p6), .val (.long sz), .second, .val (.long ia), .second, .val (.long ib), .second, .val (.long ic), .second, .val (.long ii), .second, .val (.int (1 : Int32)), .val (.ref b46), .unset, .unset, .unset] [(.long ia), (.long ii)])) (fun _ k => XS.lload X71.here hx rfl (hb hby at_117) rfl  k) ?_
      refine own_go (B := T71.setTop (mkF m 120 #[.val (.long q1), .second, .val (.long q2), .second, .val (.long q3), .second, .val (.long q4), .second, .val (.long q5), .second, .val (.int p6), .val (.long sz), .second, .val (.long ia), .second, .val (.long ib), .second, .val (.long ic), .second, .val (.long ii), .second, .val (.int (1 : Int32)), .val (.ref b46), .unset, .unset, .unset] [(.int (lcmpW ii ia))])) (fun _ k => XS.lcmp X71.here hx rfl (hb hby at_119) rfl k) ?_
      by_cases hc78 : ii = ia
      · skip
        refine own_go (B := T71.setTop (mkF m 131 #[.val (.long q1), .second, .val (.long q2), .second, .val (.long q3), .second, .val (.long q4), .second, .val (.long q5), .second, .val (.int p6), .val (.long sz), .second, .val (.long ia), .second, .val (.long ib), .second, .val (.long ic), .second, .val (.long ii), .second, .val (.int (1 : Int32)), .val (.ref b46), .unset, .unset, .unset] [])) (fun _ k => XS.ifYes X71.here hx rfl (pc0 := 120) (pc' := 131) rfl (hb hby at_120) rfl ((if0 _ _).trans (teq ((lw_eq ii ia).mpr hc78)).1) (by decide) (by decide) k) ?_
        refine own_go (B := T71.setTop (mkF m 133 #[.val (.long q1), .second, .val (.long q2), .second, .val (.long q3), .second, .val (.long q4), .second, .val (.long q5), .second, .val (.int p6), .val (.long sz), .second, .val (.long ia), .second, .val (.long ib), .second, .val (.long ic), .second, .val (.long ii), .second, .val (.int (1 : Int32)), .val (.ref b46), .unset, .unset, .unset] [(.int (1 : Int32))])) (fun _ k => XS.iload X71.here hx rfl (hb hby at_131) rfl  k) ?_
        have hc79 : ¬ ((1 : Int32) = (0 : Int32)) := by decide
        refine own_go (B := T71.setTop (mkF m 136 #[.val (.long q1), .second, .val (.long q2), .second, .val (.long q3), .second, .val (.long q4), .second, .val (.long q5), .second, .val (.int p6), .val (.long sz), .second, .val (.long ia), .second, .val (.long ib), .second, .val (.long ic), .second, .val (.long ii), .second, .val (.int (1 : Int32)), .val (.ref b46), .unset, .unset, .unset] [])) (fun _ k => XS.ifNo X71.here hx rfl (hb hby at_133) rfl ((if0 _ _).trans (feq hc79).1) k) ?_
        refine own_go (B := T71.setTop (mkF m 138 #[.val (.long q1), .second, .val (.long q2), .second, .val (.long q3), .second, .val (.long q4), .second, .val (.long q5), .second, .val (.int p6), .val (.long sz), .second, .val (.long ia), .second, .val (.long ib), .second, .val (.long ic), .second, .val (.long ii), .second, .val (.int (1 : Int32)), .val (.ref b46), .unset, .unset, .unset] [(.long ii)])) (fun _ k => XS.lload X71.here hx rfl (hb hby at_136) rfl  k) ?_
        refine own_go (B := T71.setTop (mkF m 140 #[.val (.long q1), .second, .val (.long q2), .second, .val (.long q3), .second, .val (.long q4), .second, .val (.long q5), .second, .val (.int p6), .val (.long sz), .second, .val (.long ia), .second, .val (.long ib), .second, .val (.long ic), .second, .val (.long ii), .second, .val (.int (1 : Int32)), .val (.ref b46), .unset, .unset, .unset] [(.long ic), (.long ii)])) (fun _ k => XS.lload X71.here hx rfl (hb hby at_138) rfl  k) ?_
        refine own_go (B := T71.setTop (mkF m 141 #[.val (.long q1), .second, .val (.long q2), .second, .val (.long q3), .second, .val (.long q4), .second, .val (.long q5), .second, .val (.int p6), .val (.long sz), .second, .val (.long ia), .second, .val (.long ib), .second, .val (.long ic), .second, .val (.long ii), .second, .val (.int (1 : Int32)), .val (.ref b46), .unset, .unset, .unset] [(.int (lcmpW ii ic))])) (fun _ k => XS.lcmp X71.here hx rfl (hb hby at_140) rfl k) ?_
        by_cases hc80 : ii = ic
        · skip
          refine own_go (B := T71.setTop (mkF m 148 #[.val (.long q1), .second, .val (.long q2), .second, .val (.long q3), .second, .val (.long q4), .second, .val (.long q5), .second, .val (.int p6), .val (.long sz), .second, .val (.long ia), .second, .val (.long ib), .second, .val (.long ic), .second, .val (.long ii), .second, .val (.int (1 : Int32)), .val (.ref b46), .unset, .unset, .unset] [])) (fun _ k => XS.ifYes X71.here hx rfl (pc0 := 141) (pc' := 148) rfl (hb hby at_141) rfl ((if0 _ _).trans (teq ((lw_eq ii ic).mpr hc80)).1) (by decide) (by decide) k) ?_
          refine own_go (B := T71.setTop (mkF m 149 #[.val (.long q1), .second, .val (.long q2), .second, .val (.long q3), .second, .val (.long q4), .second, .val (.long q5), .second, .val (.int p6), .val (.long sz), .second, .val (.long ia), .second, .val (.long ib), .second, .val (.long ic), .second, .val (.long ii), .second, .val (.int (1 : Int32)), .val (.ref b46), .unset, .unset, .unset] [(.int (0 : Int32))])) (fun _ k => XS.iconst X71.here hx rfl (hb hby at_148) k) ?_
          refine own_go (B := T71.setTop (mkF m 151 #[.val (.long q1), .second, .val (.long q2), .second, .val (.long q3), .second, .val (.long q4), .second, .val (.long q5), .second, .val (.int p6), .val (.long sz), .second, .val (.long ia), .second, .val (.long ib), .second, .val (.long ic), .second, .val (.long ii), .second, .val (.int (1 : Int32)), .val (.ref b46), .val (.int (0 : Int32)), .unset, .unset] [])) (fun _ k => XS.istore X71.here hx rfl (hb hby at_149) rfl (l' := #[.val (.long q1), .second, .val (.long q2), .second, .val (.long q3), .second, .val (.long q4), .second, .val (.long q5), .second, .val (.int p6), .val (.long sz), .second, .val (.long ia), .second, .val (.long ib), .second, .val (.long ic), .second, .val (.long ii), .second, .val (.int (1 : Int32)), .val (.ref b46), .val (.int (0 : Int32)), .unset, .unset]) rfl k) ?_
          refine own_go (B := T71.setTop (mkF m 153 #[.val (.long q1), .second, .val (.long q2), .second, .val (.long q3), .second, .val (.long q4), .second, .val (.long q5), .second, .val (.int p6), .val (.long sz), .second, .val (.long ia), .second, .val (.long ib), .second, .val (.long ic), .second, .val (.long ii), .second, .val (.int (1 : Int32)), .val (.ref b46), .val (.int (0 : Int32)), .unset, .unset] [(.ref b46)])) (fun _ k => XS.aload X71.here hx rfl (hb hby at_151) rfl rfl k) ?_
          refine own_go (B := T71.setTop (mkF m 155 #[.val (.long q1), .second, .val (.long q2), .second, .val (.long q3), .second, .val (.long q4), .second, .val (.long q5), .second, .val (.int p6), .val (.long sz), .second, .val (.long ia), .second, .val (.long ib), .second, .val (.long ic), .second, .val (.long ii), .second, .val (.int (1 : Int32)), .val (.ref b46), .val (.int (0 : Int32)), .unset, .unset] [(.long ii), (.ref b46)])) (fun _ k => XS.lload X71.here hx rfl (hb hby at_153) rfl  k) ?_
          obtain ⟨cq81, kq81, q81a, q81b, q81c⟩ := isOf hZ rfl E_73
          obtain ⟨_, _, ⟨T81, L81, k81, n81⟩, -, X81, ⟨Lc81, hQ81, l81, y81, z81⟩, st81⟩ := X71.virtualBack hx (y := (⟨"com/example/kin_bloom/kinbloom/BitArray", "bit", "(J)J"⟩ : MethodName)) (z := (⟨"com/example/kin_bloom/kinbloom/BitArray", "bit", "(J)J"⟩ : MethodName)) hown (mvT hZ (own_w hw 31 rfl)) (mvT hZ (own_w hw 32 rfl)) (notFace_of_selects (args := #[]) (mvT hZ (own_w hw 34 rfl))) (mvT hZ (own_w hw 34 rfl)) (mvT hZ (own_w hw 33 rfl)) (by decide) (backOf (W := 0) (own_rm6 l Z a0 hw [] b46 w_49 ii sz (fun k => !decide (k = ic.toInt.toNat) && (fun k => decide (k = ib.toInt.toNat) || (fun k => decide (k = ia.toInt.toNat) || (fun _ => false) k) k) k) T71.heap n0 (Nat.le_trans Z0 K77.1) F_74 F_75 Q71_0 hz2 hl_ii hu_ii) hZ (own_w hw 35 rfl) (own_w hw 4 rfl) (by decide) (by decide)) q81a q81c (g := (mkF m 155 #[.val (.long q1), .second, .val (.long q2), .second, .val (.long q3), .second, .val (.long q4), .second, .val (.long q5), .second, .val (.int p6), .val (.long sz), .second, .val (.long ia), .second, .val (.long ib), .second, .val (.long ic), .second, .val (.long ii), .second, .val (.int (1 : Int32)), .val (.ref b46), .val (.int (0 : Int32)), .unset, .unset] [(.long ii), (.ref b46)])) rfl (by rw [hml]; rfl) (Steps.refl _) (argsL := [(.long ii)]) (rest := []) (lenOf own_pd3 rfl) rfl (by show 2 * 0 + _ ≤ _; exact Nat.le_of_eq rfl) (hb hby at_155) (fun _ _ => ⟨rfl, rfl, (by decide : 2 + 0 ≤ _), (by decide : 66 + 0 ≤ _)⟩)
          dsimp only [Pt.U, Pt.locs, Pt.cells, Pt.slots] at X81 l81 y81 z81 st81 hQ81
          subst l81 y81 z81
          obtain ⟨rfl, N81q, e81⟩ := hQ81
          have N81 := Fr.app N71 N81q
          refine own_go (B := T81.setTop (mkF m 158 #[.val (.long q1), .second, .val (.long q2), .second, .val (.long q3), .second, .val (.long q4), .second, .val (.long q5), .second, .val (.int p6), .val (.long sz), .second, .val (.long ia), .second, .val (.long ib), .second, .val (.long ic), .second, .val (.long ii), .second, .val (.int (1 : Int32)), .val (.ref b46), .val (.int (0 : Int32)), .unset, .unset] [(.long (own_bl ((fun k => !decide (k = ic.toInt.toNat) && (fun k => decide (k = ib.toInt.toNat) || (fun k => decide (k = ia.toInt.toNat) || (fun _ => false) k) k) k) ii.toInt.toNat)))])) (fun _ k => st81.trans k) ?_
          refine own_go (B := T81.setTop (mkF m 160 #[.val (.long q1), .second, .val (.long q2), .second, .val (.long q3), .second, .val (.long q4), .second, .val (.long q5), .second, .val (.int p6), .val (.long sz), .second, .val (.long ia), .second, .val (.long ib), .second, .val (.long ic), .second, .val (.long ii), .second, .val (.int (1 : Int32)), .val (.ref b46), .val (.int (0 : Int32)), .val (.long (own_bl ((fun k => !decide (k = ic.toInt.toNat) && (fun k => decide (k = ib.toInt.toNat) || (fun k => decide (k = ia.toInt.toNat) || (fun _ => false) k) k) k) ii.toInt.toNat))), .second] [])) (fun _ k => XS.lstore X81.here hx rfl (hb hby at_158) rfl (l' := #[.val (.long q1), .second, .val (.long q2), .second, .val (.long q3), .second, .val (.long q4), .second, .val (.long q5), .second, .val (.int p6), .val (.long sz), .second, .val (.long ia), .second, .val (.long ib), .second, .val (.long ic), .second, .val (.long ii), .second, .val (.int (1 : Int32)), .val (.ref b46), .val (.int (0 : Int32)), .val (.long (own_bl ((fun k => !decide (k = ic.toInt.toNat) && (fun k => decide (k = ib.toInt.toNat) || (fun k => decide (k = ia.toInt.toNat) || (fun _ => false) k) k) k) ii.toInt.toNat))), .second]) rfl k) ?_
          refine own_go (B := T81.setTop (mkF m 162 #[.val (.long q1), .second, .val (.long q2), .second, .val (.long q3), .second, .val (.long q4), .second, .val (.long q5), .second, .val (.int p6), .val (.long sz), .second, .val (.long ia), .second, .val (.long ib), .second, .val (.long ic), .second, .val (.long ii), .second, .val (.int (1 : Int32)), .val (.ref b46), .val (.int (0 : Int32)), .val (.long (own_bl ((fun k => !decide (k = ic.toInt.toNat) && (fun k => decide (k = ib.toInt.toNat) || (fun k => decide (k = ia.toInt.toNat) || (fun _ => false) k) k) k) ii.toInt.toNat))), .second] [(.long (own_bl ((fun k => !decide (k = ic.toInt.toNat) && (fun k => decide (k = ib.toInt.toNat) || (fun k => decide (k = ia.toInt.toNat) || (fun _ => false) k) k) k) ii.toInt.toNat)))])) (fun _ k => XS.lload X81.here hx rfl (hb hby at_160) rfl  k) ?_
          refine own_go (B := T81.setTop (mkF m 164 #[.val (.long q1), .second, .val (.long q2), .second, .val (.long q3), .second, .val (.long q4), .second, .val (.long q5), .second, .val (.int p6), .val (.long sz), .second, .val (.long ia), .second, .val (.long ib), .second, .val (.long ic), .second, .val (.long ii), .second, .val (.int (1 : Int32)), .val (.ref b46), .val (.int (0 : Int32)), .val (.long (own_bl ((fun k => !decide (k = ic.toInt.toNat) && (fun k => decide (k = ib.toInt.toNat) || (fun k => decide (k = ia.toInt.toNat) || (fun _ => false) k) k) k) ii.toInt.toNat))), .second] [(.int (0 : Int32)), (.long (own_bl ((fun k => !decide (k = ic.toInt.toNat) && (fun k => decide (k = ib.toInt.toNat) || (fun k => decide (k = ia.toInt.toNat) || (fun _ => false) k) k) k) ii.toInt.toNat)))])) (fun _ k => XS.iload X81.here hx rfl (hb hby at_162) rfl  k) ?_
          have hc82 : (0 : Int32) = (0 : Int32) := by decide
          refine own_go (B := T81.setTop (mkF m 171 #[.val (.long q1), .second, .val (.long q2), .second, .val (.long q3), .second, .val (.long q4), .second, .val (.long q5), .second, .val (.int p6), .val (.long sz), .second, .val (.long ia), .second, .val (.long ib), .second, .val (.long ic), .second, .val (.long ii), .second, .val (.int (1 : Int32)), .val (.ref b46), .val (.int (0 : Int32)), .val (.long (own_bl ((fun k => !decide (k = ic.toInt.toNat) && (fun k => decide (k = ib.toInt.toNat) || (fun k => decide (k = ia.toInt.toNat) || (fun _ => false) k) k) k) ii.toInt.toNat))), .second] [(.long (own_bl ((fun k => !decide (k = ic.toInt.toNat) && (fun k => decide (k = ib.toInt.toNat) || (fun k => decide (k = ia.toInt.toNat) || (fun _ => false) k) k) k) ii.toInt.toNat)))])) (fun _ k => XS.ifYes X81.here hx rfl (pc0 := 164) (pc' := 171) rfl (hb hby at_164) rfl ((if0 _ _).trans (teq hc82).1) (by decide) (by decide) k) ?_
          refine own_go (B := T81.setTop (mkF m 172 #[.val (.long q1), .second, .val (.long q2), .second, .val (.long q3), .second, .val (.long q4), .second, .val (.long q5), .second, .val (.int p6), .val (.long sz), .second, .val (.long ia), .second, .val (.long ib), .second, .val (.long ic), .second, .val (.long ii), .second, .val (.int (1 : Int32)), .val (.ref b46), .val (.int (0 : Int32)), .val (.long (own_bl ((fun k => !decide (k = ic.toInt.toNat) && (fun k => decide (k = ib.toInt.toNat) || (fun k => decide (k = ia.toInt.toNat) || (fun _ => false) k) k) k) ii.toInt.toNat))), .second] [(.long (0 : Int64)), (.long (own_bl ((fun k => !decide (k = ic.toInt.toNat) && (fun k => decide (k = ib.toInt.toNat) || (fun k => decide (k = ia.toInt.toNat) || (fun _ => false) k) k) k) ii.toInt.toNat)))])) (fun _ k => XS.lconst X81.here hx rfl (hb hby at_171) k) ?_
          refine own_go (B := T81.setTop (mkF m 173 #[.val (.long q1), .second, .val (.long q2), .second, .val (.long q3), .second, .val (.long q4), .second, .val (.long q5), .second, .val (.int p6), .val (.long sz), .second, .val (.long ia), .second, .val (.long ib), .second, .val (.long ic), .second, .val (.long ii), .second, .val (.int (1 : Int32)), .val (.ref b46), .val (.int (0 : Int32)), .val (.long (own_bl ((fun k => !decide (k = ic.toInt.toNat) && (fun k => decide (k = ib.toInt.toNat) || (fun k => decide (k = ia.toInt.toNat) || (fun _ => false) k) k) k) ii.toInt.toNat))), .second] [(.int (lcmpW (own_bl ((fun k => !decide (k = ic.toInt.toNat) && (fun k => decide (k = ib.toInt.toNat) || (fun k => decide (k = ia.toInt.toNat) || (fun _ => false) k) k) k) ii.toInt.toNat)) (0 : Int64)))])) (fun _ k => XS.lcmp X81.here hx rfl (hb hby at_172) rfl k) ?_
          have hc83 : (own_bl ((fun k => !decide (k = ic.toInt.toNat) && (fun k => decide (k = ib.toInt.toNat) || (fun k => decide (k = ia.toInt.toNat) || (fun _ => false) k) k) k) ii.toInt.toNat)) = (0 : Int64) := (own_pl_rm0_28 p6 sz ia ib ic ii hz1 hz2 hl_ia hu_ia hl_ib hu_ib hl_ic hu_ic hl_ii hu_ii hc7 hc78 hc80)
          refine own_go (B := T81.setTop (mkF m 176 #[.val (.long q1), .second, .val (.long q2), .second, .val (.long q3), .second, .val (.long q4), .second, .val (.long q5), .second, .val (.int p6), .val (.long sz), .second, .val (.long ia), .second, .val (.long ib), .second, .val (.long ic), .second, .val (.long ii), .second, .val (.int (1 : Int32)), .val (.ref b46), .val (.int (0 : Int32)), .val (.long (own_bl ((fun k => !decide (k = ic.toInt.toNat) && (fun k => decide (k = ib.toInt.toNat) || (fun k => decide (k = ia.toInt.toNat) || (fun _ => false) k) k) k) ii.toInt.toNat))), .second] [])) (fun _ k => XS.ifNo X81.here hx rfl (hb hby at_173) rfl ((if0 _ _).trans (teq ((lw_eq (own_bl ((fun k => !decide (k = ic.toInt.toNat) && (fun k => decide (k = ib.toInt.toNat) || (fun k => decide (k = ia.toInt.toNat) || (fun _ => false) k) k) k) ii.toInt.toNat)) (0 : Int64)).mpr hc83)).2) k) ?_
          refine own_go (B := T81.setTop (mkF m 177 #[.val (.long q1), .second, .val (.long q2), .second, .val (.long q3), .second, .val (.long q4), .second, .val (.long q5), .second, .val (.int p6), .val (.long sz), .second, .val (.long ia), .second, .val (.long ib), .second, .val (.long ic), .second, .val (.long ii), .second, .val (.int (1 : Int32)), .val (.ref b46), .val (.int (0 : Int32)), .val (.long (own_bl ((fun k => !decide (k = ic.toInt.toNat) && (fun k => decide (k = ib.toInt.toNat) || (fun k => decide (k = ia.toInt.toNat) || (fun _ => false) k) k) k) ii.toInt.toNat))), .second] [(.int (1 : Int32))])) (fun _ k => XS.iconst X81.here hx rfl (hb hby at_176) k) ?_
          refine own_go (B := T81.setTop (mkF m 181 #[.val (.long q1), .second, .val (.long q2), .second, .val (.long q3), .second, .val (.long q4), .second, .val (.long q5), .second, .val (.int p6), .val (.long sz), .second, .val (.long ia), .second, .val (.long ib), .second, .val (.long ic), .second, .val (.long ii), .second, .val (.int (1 : Int32)), .val (.ref b46), .val (.int (0 : Int32)), .val (.long (own_bl ((fun k => !decide (k = ic.toInt.toNat) && (fun k => decide (k = ib.toInt.toNat) || (fun k => decide (k = ia.toInt.toNat) || (fun _ => false) k) k) k) ii.toInt.toNat))), .second] [(.int (1 : Int32))])) (fun _ k => XS.goto X81.here hx rfl (pc0 := 177) (pc' := 181) rfl (hb hby at_177) (by decide) (by decide) k) ?_
          exact own_retN X81 hx Bd.notSynchronized (t := .boolean) (w := (1 : Int32)) Bd.returns (by simp) (hb hby at_181) e81 rfl ⟨rfl, N81, K77⟩ (by decide) (by decide)
        · skip
          refine own_go (B := T71.setTop (mkF m 144 #[.val (.long q1), .second, .val (.long q2), .second, .val (.long q3), .second, .val (.long q4), .second, .val (.long q5), .second, .val (.int p6), .val (.long sz), .second, .val (.long ia), .second, .val (.long ib), .second, .val (.long ic), .second, .val (.long ii), .second, .val (.int (1 : Int32)), .val (.ref b46), .unset, .unset, .unset] [])) (fun _ k => XS.ifNo X71.here hx rfl (hb hby at_141) rfl ((if0 _ _).trans (feq (mt (lw_eq ii ic).mp hc80)).1) k) ?_
          refine own_go (B := T71.setTop (mkF m 145 #[.val (.long q1), .second, .val (.long q2), .second, .val (.long q3), .second, .val (.long q4), .second, .val (.long q5), .second, .val (.int p6), .val (.long sz), .second, .val (.long ia), .second, .val (.long ib), .second, .val (.long ic), .second, .val (.long ii), .second, .val (.int (1 : Int32)), .val (.ref b46), .unset, .unset, .unset] [(.int (1 : Int32))])) (fun _ k => XS.iconst X71.here hx rfl (hb hby at_144) k) ?_
          refine own_go (B := T71.setTop (mkF m 149 #[.val (.long q1), .second, .val (.long q2), .second, .val (.long q3), .second, .val (.long q4), .second, .val (.long q5), .second, .val (.int p6), .val (.long sz), .second, .val (.long ia), .second, .val (.long ib), .second, .val (.long ic), .second, .val (.long ii), .second, .val (.int (1 : Int32)), .val (.ref b46), .unset, .unset, .unset] [(.int (1 : Int32))])) (fun _ k => XS.goto X71.here hx rfl (pc0 := 145) (pc' := 149) rfl (hb hby at_145) (by decide) (by decide) k) ?_
          refine own_go (B := T71.setTop (mkF m 151 #[.val (.long q1), .second, .val (.long q2), .second, .val (.long q3), .second, .val (.long q4), .second, .val (.long q5), .second, .val (.int p6), .val (.long sz), .second, .val (.long ia), .second, .val (.long ib), .second, .val (.long ic), .second, .val (.long ii), .second, .val (.int (1 : Int32)), .val (.ref b46), .val (.int (1 : Int32)), .unset, .unset] [])) (fun _ k => XS.istore X71.here hx rfl (hb hby at_149) rfl (l' := #[.val (.long q1), .second, .val (.long q2), .second, .val (.long q3), .second, .val (.long q4), .second, .val (.long q5), .second, .val (.int p6), .val (.long sz), .second, .val (.long ia), .second, .val (.long ib), .second, .val (.long ic), .second, .val (.long ii), .second, .val (.int (1 : Int32)), .val (.ref b46), .val (.int (1 : Int32)), .unset, .unset]) rfl k) ?_
          refine own_go (B := T71.setTop (mkF m 153 #[.val (.long q1), .second, .val (.long q2), .second, .val (.long q3), .second, .val (.long q4), .second, .val (.long q5), .second, .val (.int p6), .val (.long sz), .second, .val (.long ia), .second, .val (.long ib), .second, .val (.long ic), .second, .val (.long ii), .second, .val (.int (1 : Int32)), .val (.ref b46), .val (.int (1 : Int32)), .unset, .unset] [(.ref b46)])) (fun _ k => XS.aload X71.here hx rfl (hb hby at_151) rfl rfl k) ?_
          refine own_go (B := T71.setTop (mkF m 155 #[.val (.long q1), .second, .val (.long q2), .second, .val (.long q3), .second, .val (.long q4), .second, .val (.long q5), .second, .val (.int p6), .val (.long sz), .second, .val (.long ia), .second, .val (.long ib), .second, .val (.long ic), .second, .val (.long ii), .second, .val (.int (1 : Int32)), .val (.ref b46), .val (.int (1 : Int32)), .unset, .unset] [(.long ii), (.ref b46)])) (fun _ k => XS.lload X71.here hx rfl (hb hby at_153) rfl  k) ?_
          obtain ⟨cq84, kq84, q84a, q84b, q84c⟩ := isOf hZ rfl E_73
          obtain ⟨_, _, ⟨T84, L84, k84, n84⟩, -, X84, ⟨Lc84, hQ84, l84, y84, z84⟩, st84⟩ := X71.virtualBack hx (y := (⟨"com/example/kin_bloom/kinbloom/BitArray", "bit", "(J)J"⟩ : MethodName)) (z := (⟨"com/example/kin_bloom/kinbloom/BitArray", "bit", "(J)J"⟩ : MethodName)) hown (mvT hZ (own_w hw 31 rfl)) (mvT hZ (own_w hw 32 rfl)) (notFace_of_selects (args := #[]) (mvT hZ (own_w hw 34 rfl))) (mvT hZ (own_w hw 34 rfl)) (mvT hZ (own_w hw 33 rfl)) (by decide) (backOf (W := 0) (own_rm6 l Z a0 hw [] b46 w_49 ii sz (fun k => !decide (k = ic.toInt.toNat) && (fun k => decide (k = ib.toInt.toNat) || (fun k => decide (k = ia.toInt.toNat) || (fun _ => false) k) k) k) T71.heap n0 (Nat.le_trans Z0 K77.1) F_74 F_75 Q71_0 hz2 hl_ii hu_ii) hZ (own_w hw 35 rfl) (own_w hw 4 rfl) (by decide) (by decide)) q84a q84c (g := (mkF m 155 #[.val (.long q1), .second, .val (.long q2), .second, .val (.long q3), .second, .val (.long q4), .second, .val (.long q5), .second, .val (.int p6), .val (.long sz), .second, .val (.long ia), .second, .val (.long ib), .second, .val (.long ic), .second, .val (.long ii), .second, .val (.int (1 : Int32)), .val (.ref b46), .val (.int (1 : Int32)), .unset, .unset] [(.long ii), (.ref b46)])) rfl (by rw [hml]; rfl) (Steps.refl _) (argsL := [(.long ii)]) (rest := []) (lenOf own_pd3 rfl) rfl (by show 2 * 0 + _ ≤ _; exact Nat.le_of_eq rfl) (hb hby at_155) (fun _ _ => ⟨rfl, rfl, (by decide : 2 + 0 ≤ _), (by decide : 66 + 0 ≤ _)⟩)
          dsimp only [Pt.U, Pt.locs, Pt.cells, Pt.slots] at X84 l84 y84 z84 st84 hQ84
          subst l84 y84 z84
          obtain ⟨rfl, N84q, e84⟩ := hQ84
          have N84 := Fr.app N71 N84q
          refine own_go (B := T84.setTop (mkF m 158 #[.val (.long q1), .second, .val (.long q2), .second, .val (.long q3), .second, .val (.long q4), .second, .val (.long q5), .second, .val (.int p6), .val (.long sz), .second, .val (.long ia), .second, .val (.long ib), .second, .val (.long ic), .second, .val (.long ii), .second, .val (.int (1 : Int32)), .val (.ref b46), .val (.int (1 : Int32)), .unset, .unset] [(.long (own_bl ((fun k => !decide (k = ic.toInt.toNat) && (fun k => decide (k = ib.toInt.toNat) || (fun k => decide (k = ia.toInt.toNat) || (fun _ => false) k) k) k) ii.toInt.toNat)))])) (fun _ k => st84.trans k) ?_
          refine own_go (B := T84.setTop (mkF m 160 #[.val (.long q1), .second, .val (.long q2), .second, .val (.long q3), .second, .val (.long q4), .second, .val (.long q5), .second, .val (.int p6), .val (.long sz), .second, .val (.long ia), .second, .val (.long ib), .second, .val (.long ic), .second, .val (.long ii), .second, .val (.int (1 : Int32)), .val (.ref b46), .val (.int (1 : Int32)), .val (.long (own_bl ((fun k => !decide (k = ic.toInt.toNat) && (fun k => decide (k = ib.toInt.toNat) || (fun k => decide (k = ia.toInt.toNat) || (fun _ => false) k) k) k) ii.toInt.toNat))), .second] [])) (fun _ k => XS.lstore X84.here hx rfl (hb hby at_158) rfl (l' := #[.val (.long q1), .second, .val (.long q2), .second, .val (.long q3), .second, .val (.long q4), .second, .val (.long q5), .second, .val (.int p6), .val (.long sz), .second, .val (.long ia), .second, .val (.long ib), .second, .val (.long ic), .second, .val (.long ii), .second, .val (.int (1 : Int32)), .val (.ref b46), .val (.int (1 : Int32)), .val (.long (own_bl ((fun k => !decide (k = ic.toInt.toNat) && (fun k => decide (k = ib.toInt.toNat) || (fun k => decide (k = ia.toInt.toNat) || (fun _ => false) k) k) k) ii.toInt.toNat))), .second]) rfl k) ?_
          refine own_go (B := T84.setTop (mkF m 162 #[.val (.long q1), .second, .val (.long q2), .second, .val (.long q3), .second, .val (.long q4), .second, .val (.long q5), .second, .val (.int p6), .val (.long sz), .second, .val (.long ia), .second, .val (.long ib), .second, .val (.long ic), .second, .val (.long ii), .second, .val (.int (1 : Int32)), .val (.ref b46), .val (.int (1 : Int32)), .val (.long (own_bl ((fun k => !decide (k = ic.toInt.toNat) && (fun k => decide (k = ib.toInt.toNat) || (fun k => decide (k = ia.toInt.toNat) || (fun _ => false) k) k) k) ii.toInt.toNat))), .second] [(.long (own_bl ((fun k => !decide (k = ic.toInt.toNat) && (fun k => decide (k = ib.toInt.toNat) || (fun k => decide (k = ia.toInt.toNat) || (fun _ => false) k) k) k) ii.toInt.toNat)))])) (fun _ k => XS.lload X84.here hx rfl (hb hby at_160) rfl  k) ?_
          refine own_go (B := T84.setTop (mkF m 164 #[.val (.long q1), .second, .val (.long q2), .second, .val (.long q3), .second, .val (.long q4), .second, .val (.long q5), .second, .val (.int p6), .val (.long sz), .second, .val (.long ia), .second, .val (.long ib), .second, .val (.long ic), .second, .val (.long ii), .second, .val (.int (1 : Int32)), .val (.ref b46), .val (.int (1 : Int32)), .val (.long (own_bl ((fun k => !decide (k = ic.toInt.toNat) && (fun k => decide (k = ib.toInt.toNat) || (fun k => decide (k = ia.toInt.toNat) || (fun _ => false) k) k) k) ii.toInt.toNat))), .second] [(.int (1 : Int32)), (.long (own_bl ((fun k => !decide (k = ic.toInt.toNat) && (fun k => decide (k = ib.toInt.toNat) || (fun k => decide (k = ia.toInt.toNat) || (fun _ => false) k) k) k) ii.toInt.toNat)))])) (fun _ k => XS.iload X84.here hx rfl (hb hby at_162) rfl  k) ?_
          have hc85 : ¬ ((1 : Int32) = (0 : Int32)) := by decide
          refine own_go (B := T84.setTop (mkF m 167 #[.val (.long q1), .second, .val (.long q2), .second, .val (.long q3), .second, .val (.long q4), .second, .val (.long q5), .second, .val (.int p6), .val (.long sz), .second, .val (.long ia), .second, .val (.long ib), .second, .val (.long ic), .second, .val (.long ii), .second, .val (.int (1 : Int32)), .val (.ref b46), .val (.int (1 : Int32)), .val (.long (own_bl ((fun k => !decide (k = ic.toInt.toNat) && (fun k => decide (k = ib.toInt.toNat) || (fun k => decide (k = ia.toInt.toNat) || (fun _ => false) k) k) k) ii.toInt.toNat))), .second] [(.long (own_bl ((fun k => !decide (k = ic.toInt.toNat) && (fun k => decide (k = ib.toInt.toNat) || (fun k => decide (k = ia.toInt.toNat) || (fun _ => false) k) k) k) ii.toInt.toNat)))])) (fun _ k => XS.ifNo X84.here hx rfl (hb hby at_164) rfl ((if0 _ _).trans (feq hc85).1) k) ?_
          refine own_go (B := T84.setTop (mkF m 168 #[.val (.long q1), .second, .val (.long q2), .second, .val (.long q3), .second, .val (.long q4), .second, .val (.long q5), .second, .val (.int p6), .val (.long sz), .second, .val (.long ia), .second, .val (.long ib), .second, .val (.long ic), .second, .val (.long ii), .second, .val (.int (1 : Int32)), .val (.ref b46), .val (.int (1 : Int32)), .val (.long (own_bl ((fun k => !decide (k = ic.toInt.toNat) && (fun k => decide (k = ib.toInt.toNat) || (fun k => decide (k = ia.toInt.toNat) || (fun _ => false) k) k) k) ii.toInt.toNat))), .second] [(.long (1 : Int64)), (.long (own_bl ((fun k => !decide (k = ic.toInt.toNat) && (fun k => decide (k = ib.toInt.toNat) || (fun k => decide (k = ia.toInt.toNat) || (fun _ => false) k) k) k) ii.toInt.toNat)))])) (fun _ k => XS.lconst X84.here hx rfl (hb hby at_167) k) ?_
          refine own_go (B := T84.setTop (mkF m 172 #[.val (.long q1), .second, .val (.long q2), .second, .val (.long q3), .second, .val (.long q4), .second, .val (.long q5), .second, .val (.int p6), .val (.long sz), .second, .val (.long ia), .second, .val (.long ib), .second, .val (.long ic), .second, .val (.long ii), .second, .val (.int (1 : Int32)), .val (.ref b46), .val (.int (1 : Int32)), .val (.long (own_bl ((fun k => !decide (k = ic.toInt.toNat) && (fun k => decide (k = ib.toInt.toNat) || (fun k => decide (k = ia.toInt.toNat) || (fun _ => false) k) k) k) ii.toInt.toNat))), .second] [(.long (1 : Int64)), (.long (own_bl ((fun k => !decide (k = ic.toInt.toNat) && (fun k => decide (k = ib.toInt.toNat) || (fun k => decide (k = ia.toInt.toNat) || (fun _ => false) k) k) k) ii.toInt.toNat)))])) (fun _ k => XS.goto X84.here hx rfl (pc0 := 168) (pc' := 172) rfl (hb hby at_168) (by decide) (by decide) k) ?_
          refine own_go (B := T84.setTop (mkF m 173 #[.val (.long q1), .second, .val (.long q2), .second, .val (.long q3), .second, .val (.long q4), .second, .val (.long q5), .second, .val (.int p6), .val (.long sz), .second, .val (.long ia), .second, .val (.long ib), .second, .val (.long ic), .second, .val (.long ii), .second, .val (.int (1 : Int32)), .val (.ref b46), .val (.int (1 : Int32)), .val (.long (own_bl ((fun k => !decide (k = ic.toInt.toNat) && (fun k => decide (k = ib.toInt.toNat) || (fun k => decide (k = ia.toInt.toNat) || (fun _ => false) k) k) k) ii.toInt.toNat))), .second] [(.int (lcmpW (own_bl ((fun k => !decide (k = ic.toInt.toNat) && (fun k => decide (k = ib.toInt.toNat) || (fun k => decide (k = ia.toInt.toNat) || (fun _ => false) k) k) k) ii.toInt.toNat)) (1 : Int64)))])) (fun _ k => XS.lcmp X84.here hx rfl (hb hby at_172) rfl k) ?_
          have hc86 : (own_bl ((fun k => !decide (k = ic.toInt.toNat) && (fun k => decide (k = ib.toInt.toNat) || (fun k => decide (k = ia.toInt.toNat) || (fun _ => false) k) k) k) ii.toInt.toNat)) = (1 : Int64) := (own_pl_rm0_29 p6 sz ia ib ic ii hz1 hz2 hl_ia hu_ia hl_ib hu_ib hl_ic hu_ic hl_ii hu_ii hc7 hc78 hc80)
          refine own_go (B := T84.setTop (mkF m 176 #[.val (.long q1), .second, .val (.long q2), .second, .val (.long q3), .second, .val (.long q4), .second, .val (.long q5), .second, .val (.int p6), .val (.long sz), .second, .val (.long ia), .second, .val (.long ib), .second, .val (.long ic), .second, .val (.long ii), .second, .val (.int (1 : Int32)), .val (.ref b46), .val (.int (1 : Int32)), .val (.long (own_bl ((fun k => !decide (k = ic.toInt.toNat) && (fun k => decide (k = ib.toInt.toNat) || (fun k => decide (k = ia.toInt.toNat) || (fun _ => false) k) k) k) ii.toInt.toNat))), .second] [])) (fun _ k => XS.ifNo X84.here hx rfl (hb hby at_173) rfl ((if0 _ _).trans (teq ((lw_eq (own_bl ((fun k => !decide (k = ic.toInt.toNat) && (fun k => decide (k = ib.toInt.toNat) || (fun k => decide (k = ia.toInt.toNat) || (fun _ => false) k) k) k) ii.toInt.toNat)) (1 : Int64)).mpr hc86)).2) k) ?_
          refine own_go (B := T84.setTop (mkF m 177 #[.val (.long q1), .second, .val (.long q2), .second, .val (.long q3), .second, .val (.long q4), .second, .val (.long q5), .second, .val (.int p6), .val (.long sz), .second, .val (.long ia), .second, .val (.long ib), .second, .val (.long ic), .second, .val (.long ii), .second, .val (.int (1 : Int32)), .val (.ref b46), .val (.int (1 : Int32)), .val (.long (own_bl ((fun k => !decide (k = ic.toInt.toNat) && (fun k => decide (k = ib.toInt.toNat) || (fun k => decide (k = ia.toInt.toNat) || (fun _ => false) k) k) k) ii.toInt.toNat))), .second] [(.int (1 : Int32))])) (fun _ k => XS.iconst X84.here hx rfl (hb hby at_176) k) ?_
          refine own_go (B := T84.setTop (mkF m 181 #[.val (.long q1), .second, .val (.long q2), .second, .val (.long q3), .second, .val (.long q4), .second, .val (.long q5), .second, .val (.int p6), .val (.long sz), .second, .val (.long ia), .second, .val (.long ib), .second, .val (.long ic), .second, .val (.long ii), .second, .val (.int (1 : Int32)), .val (.ref b46), .val (.int (1 : Int32)), .val (.long (own_bl ((fun k => !decide (k = ic.toInt.toNat) && (fun k => decide (k = ib.toInt.toNat) || (fun k => decide (k = ia.toInt.toNat) || (fun _ => false) k) k) k) ii.toInt.toNat))), .second] [(.int (1 : Int32))])) (fun _ k => XS.goto X84.here hx rfl (pc0 := 177) (pc' := 181) rfl (hb hby at_177) (by decide) (by decide) k) ?_
          exact own_retN X84 hx Bd.notSynchronized (t := .boolean) (w := (1 : Int32)) Bd.returns (by simp) (hb hby at_181) e84 rfl ⟨rfl, N84, K77⟩ (by decide) (by decide)
      · skip
        refine own_go (B := T71.setTop (mkF m 123 #[.val (.long q1), .second, .val (.long q2), .second, .val (.long q3), .second, .val (.long q4), .second, .val (.long q5), .second, .val (.int p6), .val (.long sz), .second, .val (.long ia), .second, .val (.long ib), .second, .val (.long ic), .second, .val (.long ii), .second, .val (.int (1 : Int32)), .val (.ref b46), .unset, .unset, .unset] [])) (fun _ k => XS.ifNo X71.here hx rfl (hb hby at_120) rfl ((if0 _ _).trans (feq (mt (lw_eq ii ia).mp hc78)).1) k) ?_
        refine own_go (B := T71.setTop (mkF m 125 #[.val (.long q1), .second, .val (.long q2), .second, .val (.long q3), .second, .val (.long q4), .second, .val (.long q5), .second, .val (.int p6), .val (.long sz), .second, .val (.long ia), .second, .val (.long ib), .second, .val (.long ic), .second, .val (.long ii), .second, .val (.int (1 : Int32)), .val (.ref b46), .unset, .unset, .unset] [(.long ii)])) (fun _ k => XS.lload X71.here hx rfl (hb hby at_123) rfl  k) ?_
        refine own_go (B := T71.setTop (mkF m 127 #[.val (.long q1), .second, .val (.long q2), .second, .val (.long q3), .second, .val (.long q4), .second, .val (.long q5), .second, .val (.int p6), .val (.long sz), .second, .val (.long ia), .second, .val (.long ib), .second, .val (.long ic), .second, .val (.long ii), .second, .val (.int (1 : Int32)), .val (.ref b46), .unset, .unset, .unset] [(.long ib), (.long ii)])) (fun _ k => XS.lload X71.here hx rfl (hb hby at_125) rfl  k) ?_
        refine own_go (B := T71.setTop (mkF m 128 #[.val (.long q1), .second, .val (.long q2), .second, .val (.long q3), .second, .val (.long q4), .second, .val (.long q5), .second, .val (.int p6), .val (.long sz), .second, .val (.long ia), .second, .val (.long ib), .second, .val (.long ic), .second, .val (.long ii), .second, .val (.int (1 : Int32)), .val (.ref b46), .unset, .unset, .unset] [(.int (lcmpW ii ib))])) (fun _ k => XS.lcmp X71.here hx rfl (hb hby at_127) rfl k) ?_
        by_cases hc87 : ii = ib
        · skip
          refine own_go (B := T71.setTop (mkF m 131 #[.val (.long q1), .second, .val (.long q2), .second, .val (.long q3), .second, .val (.long q4), .second, .val (.long q5), .second, .val (.int p6), .val (.long sz), .second, .val (.long ia), .second, .val (.long ib), .second, .val (.long ic), .second, .val (.long ii), .second, .val (.int (1 : Int32)), .val (.ref b46), .unset, .unset, .unset] [])) (fun _ k => XS.ifNo X71.here hx rfl (hb hby at_128) rfl ((if0 _ _).trans (teq ((lw_eq ii ib).mpr hc87)).2) k) ?_
          refine own_go (B := T71.setTop (mkF m 133 #[.val (.long q1), .second, .val (.long q2), .second, .val (.long q3), .second, .val (.long q4), .second, .val (.long q5), .second, .val (.int p6), .val (.long sz), .second, .val (.long ia), .second, .val (.long ib), .second, .val (.long ic), .second, .val (.long ii), .second, .val (.int (1 : Int32)), .val (.ref b46), .unset, .unset, .unset] [(.int (1 : Int32))])) (fun _ k => XS.iload X71.here hx rfl (hb hby at_131) rfl  k) ?_
          have hc88 : ¬ ((1 : Int32) = (0 : Int32)) := by decide
          refine own_go (B := T71.setTop (mkF m 136 #[.val (.long q1), .second, .val (.long q2), .second, .val (.long q3), .second, .val (.long q4), .second, .val (.long q5), .second, .val (.int p6), .val (.long sz), .second, .val (.long ia), .second, .val (.long ib), .second, .val (.long ic), .second, .val (.long ii), .second, .val (.int (1 : Int32)), .val (.ref b46), .unset, .unset, .unset] [])) (fun _ k => XS.ifNo X71.here hx rfl (hb hby at_133) rfl ((if0 _ _).trans (feq hc88).1) k) ?_
          refine own_go (B := T71.setTop (mkF m 138 #[.val (.long q1), .second, .val (.long q2), .second, .val (.long q3), .second, .val (.long q4), .second, .val (.long q5), .second, .val (.int p6), .val (.long sz), .second, .val (.long ia), .second, .val (.long ib), .second, .val (.long ic), .second, .val (.long ii), .second, .val (.int (1 : Int32)), .val (.ref b46), .unset, .unset, .unset] [(.long ii)])) (fun _ k => XS.lload X71.here hx rfl (hb hby at_136) rfl  k) ?_
          refine own_go (B := T71.setTop (mkF m 140 #[.val (.long q1), .second, .val (.long q2), .second, .val (.long q3), .second, .val (.long q4), .second, .val (.long q5), .second, .val (.int p6), .val (.long sz), .second, .val (.long ia), .second, .val (.long ib), .second, .val (.long ic), .second, .val (.long ii), .second, .val (.int (1 : Int32)), .val (.ref b46), .unset, .unset, .unset] [(.long ic), (.long ii)])) (fun _ k => XS.lload X71.here hx rfl (hb hby at_138) rfl  k) ?_
          refine own_go (B := T71.setTop (mkF m 141 #[.val (.long q1), .second, .val (.long q2), .second, .val (.long q3), .second, .val (.long q4), .second, .val (.long q5), .second, .val (.int p6), .val (.long sz), .second, .val (.long ia), .second, .val (.long ib), .second, .val (.long ic), .second, .val (.long ii), .second, .val (.int (1 : Int32)), .val (.ref b46), .unset, .unset, .unset] [(.int (lcmpW ii ic))])) (fun _ k => XS.lcmp X71.here hx rfl (hb hby at_140) rfl k) ?_
          by_cases hc89 : ii = ic
          · skip
            refine own_go (B := T71.setTop (mkF m 148 #[.val (.long q1), .second, .val (.long q2), .second, .val (.long q3), .second, .val (.long q4), .second, .val (.long q5), .second, .val (.int p6), .val (.long sz), .second, .val (.long ia), .second, .val (.long ib), .second, .val (.long ic), .second, .val (.long ii), .second, .val (.int (1 : Int32)), .val (.ref b46), .unset, .unset, .unset] [])) (fun _ k => XS.ifYes X71.here hx rfl (pc0 := 141) (pc' := 148) rfl (hb hby at_141) rfl ((if0 _ _).trans (teq ((lw_eq ii ic).mpr hc89)).1) (by decide) (by decide) k) ?_
            refine own_go (B := T71.setTop (mkF m 149 #[.val (.long q1), .second, .val (.long q2), .second, .val (.long q3), .second, .val (.long q4), .second, .val (.long q5), .second, .val (.int p6), .val (.long sz), .second, .val (.long ia), .second, .val (.long ib), .second, .val (.long ic), .second, .val (.long ii), .second, .val (.int (1 : Int32)), .val (.ref b46), .unset, .unset, .unset] [(.int (0 : Int32))])) (fun _ k => XS.iconst X71.here hx rfl (hb hby at_148) k) ?_
            refine own_go (B := T71.setTop (mkF m 151 #[.val (.long q1), .second, .val (.long q2), .second, .val (.long q3), .second, .val (.long q4), .second, .val (.long q5), .second, .val (.int p6), .val (.long sz), .second, .val (.long ia), .second, .val (.long ib), .second, .val (.long ic), .second, .val (.long ii), .second, .val (.int (1 : Int32)), .val (.ref b46), .val (.int (0 : Int32)), .unset, .unset] [])) (fun _ k => XS.istore X71.here hx rfl (hb hby at_149) rfl (l' := #[.val (.long q1), .second, .val (.long q2), .second, .val (.long q3), .second, .val (.long q4), .second, .val (.long q5), .second, .val (.int p6), .val (.long sz), .second, .val (.long ia), .second, .val (.long ib), .second, .val (.long ic), .second, .val (.long ii), .second, .val (.int (1 : Int32)), .val (.ref b46), .val (.int (0 : Int32)), .unset, .unset]) rfl k) ?_
            refine own_go (B := T71.setTop (mkF m 153 #[.val (.long q1), .second, .val (.long q2), .second, .val (.long q3), .second, .val (.long q4), .second, .val (.long q5), .second, .val (.int p6), .val (.long sz), .second, .val (.long ia), .second, .val (.long ib), .second, .val (.long ic), .second, .val (.long ii), .second, .val (.int (1 : Int32)), .val (.ref b46), .val (.int (0 : Int32)), .unset, .unset] [(.ref b46)])) (fun _ k => XS.aload X71.here hx rfl (hb hby at_151) rfl rfl k) ?_
            refine own_go (B := T71.setTop (mkF m 155 #[.val (.long q1), .second, .val (.long q2), .second, .val (.long q3), .second, .val (.long q4), .second, .val (.long q5), .second, .val (.int p6), .val (.long sz), .second, .val (.long ia), .second, .val (.long ib), .second, .val (.long ic), .second, .val (.long ii), .second, .val (.int (1 : Int32)), .val (.ref b46), .val (.int (0 : Int32)), .unset, .unset] [(.long ii), (.ref b46)])) (fun _ k => XS.lload X71.here hx rfl (hb hby at_153) rfl  k) ?_
            obtain ⟨cq90, kq90, q90a, q90b, q90c⟩ := isOf hZ rfl E_73
            obtain ⟨_, _, ⟨T90, L90, k90, n90⟩, -, X90, ⟨Lc90, hQ90, l90, y90, z90⟩, st90⟩ := X71.virtualBack hx (y := (⟨"com/example/kin_bloom/kinbloom/BitArray", "bit", "(J)J"⟩ : MethodName)) (z := (⟨"com/example/kin_bloom/kinbloom/BitArray", "bit", "(J)J"⟩ : MethodName)) hown (mvT hZ (own_w hw 31 rfl)) (mvT hZ (own_w hw 32 rfl)) (notFace_of_selects (args := #[]) (mvT hZ (own_w hw 34 rfl))) (mvT hZ (own_w hw 34 rfl)) (mvT hZ (own_w hw 33 rfl)) (by decide) (backOf (W := 0) (own_rm6 l Z a0 hw [] b46 w_49 ii sz (fun k => !decide (k = ic.toInt.toNat) && (fun k => decide (k = ib.toInt.toNat) || (fun k => decide (k = ia.toInt.toNat) || (fun _ => false) k) k) k) T71.heap n0 (Nat.le_trans Z0 K77.1) F_74 F_75 Q71_0 hz2 hl_ii hu_ii) hZ (own_w hw 35 rfl) (own_w hw 4 rfl) (by decide) (by decide)) q90a q90c (g := (mkF m 155 #[.val (.long q1), .second, .val (.long q2), .second, .val (.long q3), .second, .val (.long q4), .second, .val (.long q5), .second, .val (.int p6), .val (.long sz), .second, .val (.long ia), .second, .val (.long ib), .second, .val (.long ic), .second, .val (.long ii), .second, .val (.int (1 : Int32)), .val (.ref b46), .val (.int (0 : Int32)), .unset, .unset] [(.long ii), (.ref b46)])) rfl (by rw [hml]; rfl) (Steps.refl _) (argsL := [(.long ii)]) (rest := []) (lenOf own_pd3 rfl) rfl (by show 2 * 0 + _ ≤ _; exact Nat.le_of_eq rfl) (hb hby at_155) (fun _ _ => ⟨rfl, rfl, (by decide : 2 + 0 ≤ _), (by decide : 66 + 0 ≤ _)⟩)
            dsimp only [Pt.U, Pt.locs, Pt.cells, Pt.slots] at X90 l90 y90 z90 st90 hQ90
            subst l90 y90 z90
            obtain ⟨rfl, N90q, e90⟩ := hQ90
            have N90 := Fr.app N71 N90q
            refine own_go (B := T90.setTop (mkF m 158 #[.val (.long q1), .second, .val (.long q2), .second, .val (.long q3), .second, .val (.long q4), .second, .val (.long q5), .second, .val (.int p6), .val (.long sz), .second, .val (.long ia), .second, .val (.long ib), .second, .val (.long ic), .second, .val (.long ii), .second, .val (.int (1 : Int32)), .val (.ref b46), .val (.int (0 : Int32)), .unset, .unset] [(.long (own_bl ((fun k => !decide (k = ic.toInt.toNat) && (fun k => decide (k = ib.toInt.toNat) || (fun k => decide (k = ia.toInt.toNat) || (fun _ => false) k) k) k) ii.toInt.toNat)))])) (fun _ k => st90.trans k) ?_
            refine own_go (B := T90.setTop (mkF m 160 #[.val (.long q1), .second, .val (.long q2), .second, .val (.long q3), .second, .val (.long q4), .second, .val (.long q5), .second, .val (.int p6), .val (.long sz), .second, .val (.long ia), .second, .val (.long ib), .second, .val (.long ic), .second, .val (.long ii), .second, .val (.int (1 : Int32)), .val (.ref b46), .val (.int (0 : Int32)), .val (.long (own_bl ((fun k => !decide (k = ic.toInt.toNat) && (fun k => decide (k = ib.toInt.toNat) || (fun k => decide (k = ia.toInt.toNat) || (fun _ => false) k) k) k) ii.toInt.toNat))), .second] [])) (fun _ k => XS.lstore X90.here hx rfl (hb hby at_158) rfl (l' := #[.val (.long q1), .second, .val (.long q2), .second, .val (.long q3), .second, .val (.long q4), .second, .val (.long q5), .second, .val (.int p6), .val (.long sz), .second, .val (.long ia), .second, .val (.long ib), .second, .val (.long ic), .second, .val (.long ii), .second, .val (.int (1 : Int32)), .val (.ref b46), .val (.int (0 : Int32)), .val (.long (own_bl ((fun k => !decide (k = ic.toInt.toNat) && (fun k => decide (k = ib.toInt.toNat) || (fun k => decide (k = ia.toInt.toNat) || (fun _ => false) k) k) k) ii.toInt.toNat))), .second]) rfl k) ?_
            refine own_go (B := T90.setTop (mkF m 162 #[.val (.long q1), .second, .val (.long q2), .second, .val (.long q3), .second, .val (.long q4), .second, .val (.long q5), .second, .val (.int p6), .val (.long sz), .second, .val (.long ia), .second, .val (.long ib), .second, .val (.long ic), .second, .val (.long ii), .second, .val (.int (1 : Int32)), .val (.ref b46), .val (.int (0 : Int32)), .val (.long (own_bl ((fun k => !decide (k = ic.toInt.toNat) && (fun k => decide (k = ib.toInt.toNat) || (fun k => decide (k = ia.toInt.toNat) || (fun _ => false) k) k) k) ii.toInt.toNat))), .second] [(.long (own_bl ((fun k => !decide (k = ic.toInt.toNat) && (fun k => decide (k = ib.toInt.toNat) || (fun k => decide (k = ia.toInt.toNat) || (fun _ => false) k) k) k) ii.toInt.toNat)))])) (fun _ k => XS.lload X90.here hx rfl (hb hby at_160) rfl  k) ?_
            refine own_go (B := T90.setTop (mkF m 164 #[.val (.long q1), .second, .val (.long q2), .second, .val (.long q3), .second, .val (.long q4), .second, .val (.long q5), .second, .val (.int p6), .val (.long sz), .second, .val (.long ia), .second, .val (.long ib), .second, .val (.long ic), .second, .val (.long ii), .second, .val (.int (1 : Int32)), .val (.ref b46), .val (.int (0 : Int32)), .val (.long (own_bl ((fun k => !decide (k = ic.toInt.toNat) && (fun k => decide (k = ib.toInt.toNat) || (fun k => decide (k = ia.toInt.toNat) || (fun _ => false) k) k) k) ii.toInt.toNat))), .second] [(.int (0 : Int32)), (.long (own_bl ((fun k => !decide (k = ic.toInt.toNat) && (fun k => decide (k = ib.toInt.toNat) || (fun k => decide (k = ia.toInt.toNat) || (fun _ => false) k) k) k) ii.toInt.toNat)))])) (fun _ k => XS.iload X90.here hx rfl (hb hby at_162) rfl  k) ?_
            have hc91 : (0 : Int32) = (0 : Int32) := by decide
            refine own_go (B := T90.setTop (mkF m 171 #[.val (.long q1), .second, .val (.long q2), .second, .val (.long q3), .second, .val (.long q4), .second, .val (.long q5), .second, .val (.int p6), .val (.long sz), .second, .val (.long ia), .second, .val (.long ib), .second, .val (.long ic), .second, .val (.long ii), .second, .val (.int (1 : Int32)), .val (.ref b46), .val (.int (0 : Int32)), .val (.long (own_bl ((fun k => !decide (k = ic.toInt.toNat) && (fun k => decide (k = ib.toInt.toNat) || (fun k => decide (k = ia.toInt.toNat) || (fun _ => false) k) k) k) ii.toInt.toNat))), .second] [(.long (own_bl ((fun k => !decide (k = ic.toInt.toNat) && (fun k => decide (k = ib.toInt.toNat) || (fun k => decide (k = ia.toInt.toNat) || (fun _ => false) k) k) k) ii.toInt.toNat)))])) (fun _ k => XS.ifYes X90.here hx rfl (pc0 := 164) (pc' := 171) rfl (hb hby at_164) rfl ((if0 _ _).trans (teq hc91).1) (by decide) (by decide) k) ?_
            refine own_go (B := T90.setTop (mkF m 172 #[.val (.long q1), .second, .val (.long q2), .second, .val (.long q3), .second, .val (.long q4), .second, .val (.long q5), .second, .val (.int p6), .val (.long sz), .second, .val (.long ia), .second, .val (.long ib), .second, .val (.long ic), .second, .val (.long ii), .second, .val (.int (1 : Int32)), .val (.ref b46), .val (.int (0 : Int32)), .val (.long (own_bl ((fun k => !decide (k = ic.toInt.toNat) && (fun k => decide (k = ib.toInt.toNat) || (fun k => decide (k = ia.toInt.toNat) || (fun _ => false) k) k) k) ii.toInt.toNat))), .second] [(.long (0 : Int64)), (.long (own_bl ((fun k => !decide (k = ic.toInt.toNat) && (fun k => decide (k = ib.toInt.toNat) || (fun k => decide (k = ia.toInt.toNat) || (fun _ => false) k) k) k) ii.toInt.toNat)))])) (fun _ k => XS.lconst X90.here hx rfl (hb hby at_171) k) ?_
            refine own_go (B := T90.setTop (mkF m 173 #[.val (.long q1), .second, .val (.long q2), .second, .val (.long q3), .second, .val (.long q4), .second, .val (.long q5), .second, .val (.int p6), .val (.long sz), .second, .val (.long ia), .second, .val (.long ib), .second, .val (.long ic), .second, .val (.long ii), .second, .val (.int (1 : Int32)), .val (.ref b46), .val (.int (0 : Int32)), .val (.long (own_bl ((fun k => !decide (k = ic.toInt.toNat) && (fun k => decide (k = ib.toInt.toNat) || (fun k => decide (k = ia.toInt.toNat) || (fun _ => false) k) k) k) ii.toInt.toNat))), .second] [(.int (lcmpW (own_bl ((fun k => !decide (k = ic.toInt.toNat) && (fun k => decide (k = ib.toInt.toNat) || (fun k => decide (k = ia.toInt.toNat) || (fun _ => false) k) k) k) ii.toInt.toNat)) (0 : Int64)))])) (fun _ k => XS.lcmp X90.here hx rfl (hb hby at_172) rfl k) ?_
            have hc92 : (own_bl ((fun k => !decide (k = ic.toInt.toNat) && (fun k => decide (k = ib.toInt.toNat) || (fun k => decide (k = ia.toInt.toNat) || (fun _ => false) k) k) k) ii.toInt.toNat)) = (0 : Int64) := (own_pl_rm0_30 p6 sz ia ib ic ii hz1 hz2 hl_ia hu_ia hl_ib hu_ib hl_ic hu_ic hl_ii hu_ii hc7 hc78 hc87 hc89)
            refine own_go (B := T90.setTop (mkF m 176 #[.val (.long q1), .second, .val (.long q2), .second, .val (.long q3), .second, .val (.long q4), .second, .val (.long q5), .second, .val (.int p6), .val (.long sz), .second, .val (.long ia), .second, .val (.long ib), .second, .val (.long ic), .second, .val (.long ii), .second, .val (.int (1 : Int32)), .val (.ref b46), .val (.int (0 : Int32)), .val (.long (own_bl ((fun k => !decide (k = ic.toInt.toNat) && (fun k => decide (k = ib.toInt.toNat) || (fun k => decide (k = ia.toInt.toNat) || (fun _ => false) k) k) k) ii.toInt.toNat))), .second] [])) (fun _ k => XS.ifNo X90.here hx rfl (hb hby at_173) rfl ((if0 _ _).trans (teq ((lw_eq (own_bl ((fun k => !decide (k = ic.toInt.toNat) && (fun k => decide (k = ib.toInt.toNat) || (fun k => decide (k = ia.toInt.toNat) || (fun _ => false) k) k) k) ii.toInt.toNat)) (0 : Int64)).mpr hc92)).2) k) ?_
            refine own_go (B := T90.setTop (mkF m 177 #[.val (.long q1), .second, .val (.long q2), .second, .val (.long q3), .second, .val (.long q4), .second, .val (.long q5), .second, .val (.int p6), .val (.long sz), .second, .val (.long ia), .second, .val (.long ib), .second, .val (.long ic), .second, .val (.long ii), .second, .val (.int (1 : Int32)), .val (.ref b46), .val (.int (0 : Int32)), .val (.long (own_bl ((fun k => !decide (k = ic.toInt.toNat) && (fun k => decide (k = ib.toInt.toNat) || (fun k => decide (k = ia.toInt.toNat) || (fun _ => false) k) k) k) ii.toInt.toNat))), .second] [(.int (1 : Int32))])) (fun _ k => XS.iconst X90.here hx rfl (hb hby at_176) k) ?_
            refine own_go (B := T90.setTop (mkF m 181 #[.val (.long q1), .second, .val (.long q2), .second, .val (.long q3), .second, .val (.long q4), .second, .val (.long q5), .second, .val (.int p6), .val (.long sz), .second, .val (.long ia), .second, .val (.long ib), .second, .val (.long ic), .second, .val (.long ii), .second, .val (.int (1 : Int32)), .val (.ref b46), .val (.int (0 : Int32)), .val (.long (own_bl ((fun k => !decide (k = ic.toInt.toNat) && (fun k => decide (k = ib.toInt.toNat) || (fun k => decide (k = ia.toInt.toNat) || (fun _ => false) k) k) k) ii.toInt.toNat))), .second] [(.int (1 : Int32))])) (fun _ k => XS.goto X90.here hx rfl (pc0 := 177) (pc' := 181) rfl (hb hby at_177) (by decide) (by decide) k) ?_
            exact own_retN X90 hx Bd.notSynchronized (t := .boolean) (w := (1 : Int32)) Bd.returns (by simp) (hb hby at_181) e90 rfl ⟨rfl, N90, K77⟩ (by decide) (by decide)
          · skip
            refine own_go (B := T71.setTop (mkF m 144 #[.val (.long q1), .second, .val (.long q2), .second, .val (.long q3), .second, .val (.long q4), .second, .val (.long q5), .second, .val (.int p6), .val (.long sz), .second, .val (.long ia), .second, .val (.long ib), .second, .val (.long ic), .second, .val (.long ii), .second, .val (.int (1 : Int32)), .val (.ref b46), .unset, .unset, .unset] [])) (fun _ k => XS.ifNo X71.here hx rfl (hb hby at_141) rfl ((if0 _ _).trans (feq (mt (lw_eq ii ic).mp hc89)).1) k) ?_
            refine own_go (B := T71.setTop (mkF m 145 #[.val (.long q1), .second, .val (.long q2), .second, .val (.long q3), .second, .val (.long q4), .second, .val (.long q5), .second, .val (.int p6), .val (.long sz), .second, .val (.long ia), .second, .val (.long ib), .second, .val (.long ic), .second, .val (.long ii), .second, .val (.int (1 : Int32)), .val (.ref b46), .unset, .unset, .unset] [(.int (1 : Int32))])) (fun _ k => XS.iconst X71.here hx rfl (hb hby at_144) k) ?_
            refine own_go (B := T71.setTop (mkF m 149 #[.val (.long q1), .second, .val (.long q2), .second, .val (.long q3), .second, .val (.long q4), .second, .val (.long q5), .second, .val (.int p6), .val (.long sz), .second, .val (.long ia), .second, .val (.long ib), .second, .val (.long ic), .second, .val (.long ii), .second, .val (.int (1 : Int32)), .val (.ref b46), .unset, .unset, .unset] [(.int (1 : Int32))])) (fun _ k => XS.goto X71.here hx rfl (pc0 := 145) (pc' := 149) rfl (hb hby at_145) (by decide) (by decide) k) ?_
            refine own_go (B := T71.setTop (mkF m 151 #[.val (.long q1), .second, .val (.long q2), .second, .val (.long q3), .second, .val (.long q4), .second, .val (.long q5), .second, .val (.int p6), .val (.long sz), .second, .val (.long ia), .second, .val (.long ib), .second, .val (.long ic), .second, .val (.long ii), .second, .val (.int (1 : Int32)), .val (.ref b46), .val (.int (1 : Int32)), .unset, .unset] [])) (fun _ k => XS.istore X71.here hx rfl (hb hby at_149) rfl (l' := #[.val (.long q1), .second, .val (.long q2), .second, .val (.long q3), .second, .val (.long q4), .second, .val (.long q5), .second, .val (.int p6), .val (.long sz), .second, .val (.long ia), .second, .val (.long ib), .second, .val (.long ic), .second, .val (.long ii), .second, .val (.int (1 : Int32)), .val (.ref b46), .val (.int (1 : Int32)), .unset, .unset]) rfl k) ?_
            refine own_go (B := T71.setTop (mkF m 153 #[.val (.long q1), .second, .val (.long q2), .second, .val (.long q3), .second, .val (.long q4), .second, .val (.long q5), .second, .val (.int p6), .val (.long sz), .second, .val (.long ia), .second, .val (.long ib), .second, .val (.long ic), .second, .val (.long ii), .second, .val (.int (1 : Int32)), .val (.ref b46), .val (.int (1 : Int32)), .unset, .unset] [(.ref b46)])) (fun _ k => XS.aload X71.here hx rfl (hb hby at_151) rfl rfl k) ?_
            refine own_go (B := T71.setTop (mkF m 155 #[.val (.long q1), .second, .val (.long q2), .second, .val (.long q3), .second, .val (.long q4), .second, .val (.long q5), .second, .val (.int p6), .val (.long sz), .second, .val (.long ia), .second, .val (.long ib), .second, .val (.long ic), .second, .val (.long ii), .second, .val (.int (1 : Int32)), .val (.ref b46), .val (.int (1 : Int32)), .unset, .unset] [(.long ii), (.ref b46)])) (fun _ k => XS.lload X71.here hx rfl (hb hby at_153) rfl  k) ?_
            obtain ⟨cq93, kq93, q93a, q93b, q93c⟩ := isOf hZ rfl E_73
            obtain ⟨_, _, ⟨T93, L93, k93, n93⟩, -, X93, ⟨Lc93, hQ93, l93, y93, z93⟩, st93⟩ := X71.virtualBack hx (y := (⟨"com/example/kin_bloom/kinbloom/BitArray", "bit", "(J)J"⟩ : MethodName)) (z := (⟨"com/example/kin_bloom/kinbloom/BitArray", "bit", "(J)J"⟩ : MethodName)) hown (mvT hZ (own_w hw 31 rfl)) (mvT hZ (own_w hw 32 rfl)) (notFace_of_selects (args := #[]) (mvT hZ (own_w hw 34 rfl))) (mvT hZ (own_w hw 34 rfl)) (mvT hZ (own_w hw 33 rfl)) (by decide) (backOf (W := 0) (own_rm6 l Z a0 hw [] b46 w_49 ii sz (fun k => !decide (k = ic.toInt.toNat) && (fun k => decide (k = ib.toInt.toNat) || (fun k => decide (k = ia.toInt.toNat) || (fun _ => false) k) k) k) T71.heap n0 (Nat.le_trans Z0 K77.1) F_74 F_75 Q71_0 hz2 hl_ii hu_ii) hZ (own_w hw 35 rfl) (own_w hw 4 rfl) (by decide) (by decide)) q93a q93c (g := (mkF m 155 #[.val (.long q1), .second, .val (.long q2), .second, .val (.long q3), .second, .val (.long q4), .second, .val (.long q5), .second, .val (.int p6), .val (.long sz), .second, .val (.long ia), .second, .val (.long ib), .second, .val (.long ic), .second, .val (.long ii), .second, .val (.int (1 : Int32)), .val (.ref b46), .val (.int (1 : Int32)), .unset, .unset] [(.long ii), (.ref b46)])) rfl (by rw [hml]; rfl) (Steps.refl _) (argsL := [(.long ii)]) (rest := []) (lenOf own_pd3 rfl) rfl (by show 2 * 0 + _ ≤ _; exact Nat.le_of_eq rfl) (hb hby at_155) (fun _ _ => ⟨rfl, rfl, (by decide : 2 + 0 ≤ _), (by decide : 66 + 0 ≤ _)⟩)
            dsimp only [Pt.U, Pt.locs, Pt.cells, Pt.slots] at X93 l93 y93 z93 st93 hQ93
            subst l93 y93 z93
            obtain ⟨rfl, N93q, e93⟩ := hQ93
            have N93 := Fr.app N71 N93q
            refine own_go (B := T93.setTop (mkF m 158 #[.val (.long q1), .second, .val (.long q2), .second, .val (.long q3), .second, .val (.long q4), .second, .val (.long q5), .second, .val (.int p6), .val (.long sz), .second, .val (.long ia), .second, .val (.long ib), .second, .val (.long ic), .second, .val (.long ii), .second, .val (.int (1 : Int32)), .val (.ref b46), .val (.int (1 : Int32)), .unset, .unset] [(.long (own_bl ((fun k => !decide (k = ic.toInt.toNat) && (fun k => decide (k = ib.toInt.toNat) || (fun k => decide (k = ia.toInt.toNat) || (fun _ => false) k) k) k) ii.toInt.toNat)))])) (fun _ k => st93.trans k) ?_
            refine own_go (B := T93.setTop (mkF m 160 #[.val (.long q1), .second, .val (.long q2), .second, .val (.long q3), .second, .val (.long q4), .second, .val (.long q5), .second, .val (.int p6), .val (.long sz), .second, .val (.long ia), .second, .val (.long ib), .second, .val (.long ic), .second, .val (.long ii), .second, .val (.int (1 : Int32)), .val (.ref b46), .val (.int (1 : Int32)), .val (.long (own_bl ((fun k => !decide (k = ic.toInt.toNat) && (fun k => decide (k = ib.toInt.toNat) || (fun k => decide (k = ia.toInt.toNat) || (fun _ => false) k) k) k) ii.toInt.toNat))), .second] [])) (fun _ k => XS.lstore X93.here hx rfl (hb hby at_158) rfl (l' := #[.val (.long q1), .second, .val (.long q2), .second, .val (.long q3), .second, .val (.long q4), .second, .val (.long q5), .second, .val (.int p6), .val (.long sz), .second, .val (.long ia), .second, .val (.long ib), .second, .val (.long ic), .second, .val (.long ii), .second, .val (.int (1 : Int32)), .val (.ref b46), .val (.int (1 : Int32)), .val (.long (own_bl ((fun k => !decide (k = ic.toInt.toNat) && (fun k => decide (k = ib.toInt.toNat) || (fun k => decide (k = ia.toInt.toNat) || (fun _ => false) k) k) k) ii.toInt.toNat))), .second]) rfl k) ?_
            refine own_go (B := T93.setTop (mkF m 162 #[.val (.long q1), .second, .val (.long q2), .second, .val (.long q3), .second, .val (.long q4), .second, .val (.long q5), .second, .val (.int p6), .val (.long sz), .second, .val (.long ia), .second, .val (.long ib), .second, .val (.long ic), .second, .val (.long ii), .second, .val (.int (1 : Int32)), .val (.ref b46), .val (.int (1 : Int32)), .val (.long (own_bl ((fun k => !decide (k = ic.toInt.toNat) && (fun k => decide (k = ib.toInt.toNat) || (fun k => decide (k = ia.toInt.toNat) || (fun _ => false) k) k) k) ii.toInt.toNat))), .second] [(.long (own_bl ((fun k => !decide (k = ic.toInt.toNat) && (fun k => decide (k = ib.toInt.toNat) || (fun k => decide (k = ia.toInt.toNat) || (fun _ => false) k) k) k) ii.toInt.toNat)))])) (fun _ k => XS.lload X93.here hx rfl (hb hby at_160) rfl  k) ?_
            refine own_go (B := T93.setTop (mkF m 164 #[.val (.long q1), .second, .val (.long q2), .second, .val (.long q3), .second, .val (.long q4), .second, .val (.long q5), .second, .val (.int p6), .val (.long sz), .second, .val (.long ia), .second, .val (.long ib), .second, .val (.long ic), .second, .val (.long ii), .second, .val (.int (1 : Int32)), .val (.ref b46), .val (.int (1 : Int32)), .val (.long (own_bl ((fun k => !decide (k = ic.toInt.toNat) && (fun k => decide (k = ib.toInt.toNat) || (fun k => decide (k = ia.toInt.toNat) || (fun _ => false) k) k) k) ii.toInt.toNat))), .second] [(.int (1 : Int32)), (.long (own_bl ((fun k => !decide (k = ic.toInt.toNat) && (fun k => decide (k = ib.toInt.toNat) || (fun k => decide (k = ia.toInt.toNat) || (fun _ => false) k) k) k) ii.toInt.toNat)))])) (fun _ k => XS.iload X93.here hx rfl (hb hby at_162) rfl  k) ?_
            have hc94 : ¬ ((1 : Int32) = (0 : Int32)) := by decide
            refine own_go (B := T93.setTop (mkF m 167 #[.val (.long q1), .second, .val (.long q2), .second, .val (.long q3), .second, .val (.long q4), .second, .val (.long q5), .second, .val (.int p6), .val (.long sz), .second, .val (.long ia), .second, .val (.long ib), .second, .val (.long ic), .second, .val (.long ii), .second, .val (.int (1 : Int32)), .val (.ref b46), .val (.int (1 : Int32)), .val (.long (own_bl ((fun k => !decide (k = ic.toInt.toNat) && (fun k => decide (k = ib.toInt.toNat) || (fun k => decide (k = ia.toInt.toNat) || (fun _ => false) k) k) k) ii.toInt.toNat))), .second] [(.long (own_bl ((fun k => !decide (k = ic.toInt.toNat) && (fun k => decide (k = ib.toInt.toNat) || (fun k => decide (k = ia.toInt.toNat) || (fun _ => false) k) k) k) ii.toInt.toNat)))])) (fun _ k => XS.ifNo X93.here hx rfl (hb hby at_164) rfl ((if0 _ _).trans (feq hc94).1) k) ?_
            refine own_go (B := T93.setTop (mkF m 168 #[.val (.long q1), .second, .val (.long q2), .second, .val (.long q3), .second, .val (.long q4), .second, .val (.long q5), .second, .val (.int p6), .val (.long sz), .second, .val (.long ia), .second, .val (.long ib), .second, .val (.long ic), .second, .val (.long ii), .second, .val (.int (1 : Int32)), .val (.ref b46), .val (.int (1 : Int32)), .val (.long (own_bl ((fun k => !decide (k = ic.toInt.toNat) && (fun k => decide (k = ib.toInt.toNat) || (fun k => decide (k = ia.toInt.toNat) || (fun _ => false) k) k) k) ii.toInt.toNat))), .second] [(.long (1 : Int64)), (.long (own_bl ((fun k => !decide (k = ic.toInt.toNat) && (fun k => decide (k = ib.toInt.toNat) || (fun k => decide (k = ia.toInt.toNat) || (fun _ => false) k) k) k) ii.toInt.toNat)))])) (fun _ k => XS.lconst X93.here hx rfl (hb hby at_167) k) ?_
            refine own_go (B := T93.setTop (mkF m 172 #[.val (.long q1), .second, .val (.long q2), .second, .val (.long q3), .second, .val (.long q4), .second, .val (.long q5), .second, .val (.int p6), .val (.long sz), .second, .val (.long ia), .second, .val (.long ib), .second, .val (.long ic), .second, .val (.long ii), .second, .val (.int (1 : Int32)), .val (.ref b46), .val (.int (1 : Int32)), .val (.long (own_bl ((fun k => !decide (k = ic.toInt.toNat) && (fun k => decide (k = ib.toInt.toNat) || (fun k => decide (k = ia.toInt.toNat) || (fun _ => false) k) k) k) ii.toInt.toNat))), .second] [(.long (1 : Int64)), (.long (own_bl ((fun k => !decide (k = ic.toInt.toNat) && (fun k => decide (k = ib.toInt.toNat) || (fun k => decide (k = ia.toInt.toNat) || (fun _ => false) k) k) k) ii.toInt.toNat)))])) (fun _ k => XS.goto X93.here hx rfl (pc0 := 168) (pc' := 172) rfl (hb hby at_168) (by decide) (by decide) k) ?_
            refine own_go (B := T93.setTop (mkF m 173 #[.val (.long q1), .second, .val (.long q2), .second, .val (.long q3), .second, .val (.long q4), .second, .val (.long q5), .second, .val (.int p6), .val (.long sz), .second, .val (.long ia), .second, .val (.long ib), .second, .val (.long ic), .second, .val (.long ii), .second, .val (.int (1 : Int32)), .val (.ref b46), .val (.int (1 : Int32)), .val (.long (own_bl ((fun k => !decide (k = ic.toInt.toNat) && (fun k => decide (k = ib.toInt.toNat) || (fun k => decide (k = ia.toInt.toNat) || (fun _ => false) k) k) k) ii.toInt.toNat))), .second] [(.int (lcmpW (own_bl ((fun k => !decide (k = ic.toInt.toNat) && (fun k => decide (k = ib.toInt.toNat) || (fun k => decide (k = ia.toInt.toNat) || (fun _ => false) k) k) k) ii.toInt.toNat)) (1 : Int64)))])) (fun _ k => XS.lcmp X93.here hx rfl (hb hby at_172) rfl k) ?_
            have hc95 : (own_bl ((fun k => !decide (k = ic.toInt.toNat) && (fun k => decide (k = ib.toInt.toNat) || (fun k => decide (k = ia.toInt.toNat) || (fun _ => false) k) k) k) ii.toInt.toNat)) = (1 : Int64) := (own_pl_rm0_31 p6 sz ia ib ic ii hz1 hz2 hl_ia hu_ia hl_ib hu_ib hl_ic hu_ic hl_ii hu_ii hc7 hc78 hc87 hc89)
            refine own_go (B := T93.setTop (mkF m 176 #[.val (.long q1), .second, .val (.long q2), .second, .val (.long q3), .second, .val (.long q4), .second, .val (.long q5), .second, .val (.int p6), .val (.long sz), .second, .val (.long ia), .second, .val (.long ib), .second, .val (.long ic), .second, .val (.long ii), .second, .val (.int (1 : Int32)), .val (.ref b46), .val (.int (1 : Int32)), .val (.long (own_bl ((fun k => !decide (k = ic.toInt.toNat) && (fun k => decide (k = ib.toInt.toNat) || (fun k => decide (k = ia.toInt.toNat) || (fun _ => false) k) k) k) ii.toInt.toNat))), .second] [])) (fun _ k => XS.ifNo X93.here hx rfl (hb hby at_173) rfl ((if0 _ _).trans (teq ((lw_eq (own_bl ((fun k => !decide (k = ic.toInt.toNat) && (fun k => decide (k = ib.toInt.toNat) || (fun k => decide (k = ia.toInt.toNat) || (fun _ => false) k) k) k) ii.toInt.toNat)) (1 : Int64)).mpr hc95)).2) k) ?_
            refine own_go (B := T93.setTop (mkF m 177 #[.val (.long q1), .second, .val (.long q2), .second, .val (.long q3), .second, .val (.long q4), .second, .val (.long q5), .second, .val (.int p6), .val (.long sz), .second, .val (.long ia), .second, .val (.long ib), .second, .val (.long ic), .second, .val (.long ii), .second, .val (.int (1 : Int32)), .val (.ref b46), .val (.int (1 : Int32)), .val (.long (own_bl ((fun k => !decide (k = ic.toInt.toNat) && (fun k => decide (k = ib.toInt.toNat) || (fun k => decide (k = ia.toInt.toNat) || (fun _ => false) k) k) k) ii.toInt.toNat))), .second] [(.int (1 : Int32))])) (fun _ k => XS.iconst X93.here hx rfl (hb hby at_176) k) ?_
            refine own_go (B := T93.setTop (mkF m 181 #[.val (.long q1), .second, .val (.long q2), .second, .val (.long q3), .second, .val (.long q4), .second, .val (.long q5), .second, .val (.int p6), .val (.long sz), .second, .val (.long ia), .second, .val (.long ib), .second, .val (.long ic), .second, .val (.long ii), .second, .val (.int (1 : Int32)), .val (.ref b46), .val (.int (1 : Int32)), .val (.long (own_bl ((fun k => !decide (k = ic.toInt.toNat) && (fun k => decide (k = ib.toInt.toNat) || (fun k => decide (k = ia.toInt.toNat) || (fun _ => false) k) k) k) ii.toInt.toNat))), .second] [(.int (1 : Int32))])) (fun _ k => XS.goto X93.here hx rfl (pc0 := 177) (pc' := 181) rfl (hb hby at_177) (by decide) (by decide) k) ?_
            exact own_retN X93 hx Bd.notSynchronized (t := .boolean) (w := (1 : Int32)) Bd.returns (by simp) (hb hby at_181) e93 rfl ⟨rfl, N93, K77⟩ (by decide) (by decide)
        · skip
          refine own_go (B := T71.setTop (mkF m 148 #[.val (.long q1), .second, .val (.long q2), .second, .val (.long q3), .second, .val (.long q4), .second, .val (.long q5), .second, .val (.int p6), .val (.long sz), .second, .val (.long ia), .second, .val (.long ib), .second, .val (.long ic), .second, .val (.long ii), .second, .val (.int (1 : Int32)), .val (.ref b46), .unset, .unset, .unset] [])) (fun _ k => XS.ifYes X71.here hx rfl (pc0 := 128) (pc' := 148) rfl (hb hby at_128) rfl ((if0 _ _).trans (feq (mt (lw_eq ii ib).mp hc87)).2) (by decide) (by decide) k) ?_
          refine own_go (B := T71.setTop (mkF m 149 #[.val (.long q1), .second, .val (.long q2), .second, .val (.long q3), .second, .val (.long q4), .second, .val (.long q5), .second, .val (.int p6), .val (.long sz), .second, .val (.long ia), .second, .val (.long ib), .second, .val (.long ic), .second, .val (.long ii), .second, .val (.int (1 : Int32)), .val (.ref b46), .unset, .unset, .unset] [(.int (0 : Int32))])) (fun _ k => XS.iconst X71.here hx rfl (hb hby at_148) k) ?_
          refine own_go (B := T71.setTop (mkF m 151 #[.val (.long q1), .second, .val (.long q2), .second, .val (.long q3), .second, .val (.long q4), .second, .val (.long q5), .second, .val (.int p6), .val (.long sz), .second, .val (.long ia), .second, .val (.long ib), .second, .val (.long ic), .second, .val (.long ii), .second, .val (.int (1 : Int32)), .val (.ref b46), .val (.int (0 : Int32)), .unset, .unset] [])) (fun _ k => XS.istore X71.here hx rfl (hb hby at_149) rfl (l' := #[.val (.long q1), .second, .val (.long q2), .second, .val (.long q3), .second, .val (.long q4), .second, .val (.long q5), .second, .val (.int p6), .val (.long sz), .second, .val (.long ia), .second, .val (.long ib), .second, .val (.long ic), .second, .val (.long ii), .second, .val (.int (1 : Int32)), .val (.ref b46), .val (.int (0 : Int32)), .unset, .unset]) rfl k) ?_
          refine own_go (B := T71.setTop (mkF m 153 #[.val (.long q1), .second, .val (.long q2), .second, .val (.long q3), .second, .val (.long q4), .second, .val (.long q5), .second, .val (.int p6), .val (.long sz), .second, .val (.long ia), .second, .val (.long ib), .second, .val (.long ic), .second, .val (.long ii), .second, .val (.int (1 : Int32)), .val (.ref b46), .val (.int (0 : Int32)), .unset, .unset] [(.ref b46)])) (fun _ k => XS.aload X71.here hx rfl (hb hby at_151) rfl rfl k) ?_
          refine own_go (B := T71.setTop (mkF m 155 #[.val (.long q1), .second, .val (.long q2), .second, .val (.long q3), .second, .val (.long q4), .second, .val (.long q5), .second, .val (.int p6), .val (.long sz), .second, .val (.long ia), .second, .val (.long ib), .second, .val (.long ic), .second, .val (.long ii), .second, .val (.int (1 : Int32)), .val (.ref b46), .val (.int (0 : Int32)), .unset, .unset] [(.long ii), (.ref b46)])) (fun _ k => XS.lload X71.here hx rfl (hb hby at_153) rfl  k) ?_
          obtain ⟨cq96, kq96, q96a, q96b, q96c⟩ := isOf hZ rfl E_73
          obtain ⟨_, _, ⟨T96, L96, k96, n96⟩, -, X96, ⟨Lc96, hQ96, l96, y96, z96⟩, st96⟩ := X71.virtualBack hx (y := (⟨"com/example/kin_bloom/kinbloom/BitArray", "bit", "(J)J"⟩ : MethodName)) (z := (⟨"com/example/kin_bloom/kinbloom/BitArray", "bit", "(J)J"⟩ : MethodName)) hown (mvT hZ (own_w hw 31 rfl)) (mvT hZ (own_w hw 32 rfl)) (notFace_of_selects (args := #[]) (mvT hZ (own_w hw 34 rfl))) (mvT hZ (own_w hw 34 rfl)) (mvT hZ (own_w hw 33 rfl)) (by decide) (backOf (W := 0) (own_rm6 l Z a0 hw [] b46 w_49 ii sz (fun k => !decide (k = ic.toInt.toNat) && (fun k => decide (k = ib.toInt.toNat) || (fun k => decide (k = ia.toInt.toNat) || (fun _ => false) k) k) k) T71.heap n0 (Nat.le_trans Z0 K77.1) F_74 F_75 Q71_0 hz2 hl_ii hu_ii) hZ (own_w hw 35 rfl) (own_w hw 4 rfl) (by decide) (by decide)) q96a q96c (g := (mkF m 155 #[.val (.long q1), .second, .val (.long q2), .second, .val (.long q3), .second, .val (.long q4), .second, .val (.long q5), .second, .val (.int p6), .val (.long sz), .second, .val (.long ia), .second, .val (.long ib), .second, .val (.long ic), .second, .val (.long ii), .second, .val (.int (1 : Int32)), .val (.ref b46), .val (.int (0 : Int32)), .unset, .unset] [(.long ii), (.ref b46)])) rfl (by rw [hml]; rfl) (Steps.refl _) (argsL := [(.long ii)]) (rest := []) (lenOf own_pd3 rfl) rfl (by show 2 * 0 + _ ≤ _; exact Nat.le_of_eq rfl) (hb hby at_155) (fun _ _ => ⟨rfl, rfl, (by decide : 2 + 0 ≤ _), (by decide : 66 + 0 ≤ _)⟩)
          dsimp only [Pt.U, Pt.locs, Pt.cells, Pt.slots] at X96 l96 y96 z96 st96 hQ96
          subst l96 y96 z96
          obtain ⟨rfl, N96q, e96⟩ := hQ96
          have N96 := Fr.app N71 N96q
          refine own_go (B := T96.setTop (mkF m 158 #[.val (.long q1), .second, .val (.long q2), .second, .val (.long q3), .second, .val (.long q4), .second, .val (.long q5), .second, .val (.int p6), .val (.long sz), .second, .val (.long ia), .second, .val (.long ib), .second, .val (.long ic), .second, .val (.long ii), .second, .val (.int (1 : Int32)), .val (.ref b46), .val (.int (0 : Int32)), .unset, .unset] [(.long (own_bl ((fun k => !decide (k = ic.toInt.toNat) && (fun k => decide (k = ib.toInt.toNat) || (fun k => decide (k = ia.toInt.toNat) || (fun _ => false) k) k) k) ii.toInt.toNat)))])) (fun _ k => st96.trans k) ?_
          refine own_go (B := T96.setTop (mkF m 160 #[.val (.long q1), .second, .val (.long q2), .second, .val (.long q3), .second, .val (.long q4), .second, .val (.long q5), .second, .val (.int p6), .val (.long sz), .second, .val (.long ia), .second, .val (.long ib), .second, .val (.long ic), .second, .val (.long ii), .second, .val (.int (1 : Int32)), .val (.ref b46), .val (.int (0 : Int32)), .val (.long (own_bl ((fun k => !decide (k = ic.toInt.toNat) && (fun k => decide (k = ib.toInt.toNat) || (fun k => decide (k = ia.toInt.toNat) || (fun _ => false) k) k) k) ii.toInt.toNat))), .second] [])) (fun _ k => XS.lstore X96.here hx rfl (hb hby at_158) rfl (l' := #[.val (.long q1), .second, .val (.long q2), .second, .val (.long q3), .second, .val (.long q4), .second, .val (.long q5), .second, .val (.int p6), .val (.long sz), .second, .val (.long ia), .second, .val (.long ib), .second, .val (.long ic), .second, .val (.long ii), .second, .val (.int (1 : Int32)), .val (.ref b46), .val (.int (0 : Int32)), .val (.long (own_bl ((fun k => !decide (k = ic.toInt.toNat) && (fun k => decide (k = ib.toInt.toNat) || (fun k => decide (k = ia.toInt.toNat) || (fun _ => false) k) k) k) ii.toInt.toNat))), .second]) rfl k) ?_
          refine own_go (B := T96.setTop (mkF m 162 #[.val (.long q1), .second, .val (.long q2), .second, .val (.long q3), .second, .val (.long q4), .second, .val (.long q5), .second, .val (.int p6), .val (.long sz), .second, .val (.long ia), .second, .val (.long ib), .second, .val (.long ic), .second, .val (.long ii), .second, .val (.int (1 : Int32)), .val (.ref b46), .val (.int (0 : Int32)), .val (.long (own_bl ((fun k => !decide (k = ic.toInt.toNat) && (fun k => decide (k = ib.toInt.toNat) || (fun k => decide (k = ia.toInt.toNat) || (fun _ => false) k) k) k) ii.toInt.toNat))), .second] [(.long (own_bl ((fun k => !decide (k = ic.toInt.toNat) && (fun k => decide (k = ib.toInt.toNat) || (fun k => decide (k = ia.toInt.toNat) || (fun _ => false) k) k) k) ii.toInt.toNat)))])) (fun _ k => XS.lload X96.here hx rfl (hb hby at_160) rfl  k) ?_
          refine own_go (B := T96.setTop (mkF m 164 #[.val (.long q1), .second, .val (.long q2), .second, .val (.long q3), .second, .val (.long q4), .second, .val (.long q5), .second, .val (.int p6), .val (.long sz), .second, .val (.long ia), .second, .val (.long ib), .second, .val (.long ic), .second, .val (.long ii), .second, .val (.int (1 : Int32)), .val (.ref b46), .val (.int (0 : Int32)), .val (.long (own_bl ((fun k => !decide (k = ic.toInt.toNat) && (fun k => decide (k = ib.toInt.toNat) || (fun k => decide (k = ia.toInt.toNat) || (fun _ => false) k) k) k) ii.toInt.toNat))), .second] [(.int (0 : Int32)), (.long (own_bl ((fun k => !decide (k = ic.toInt.toNat) && (fun k => decide (k = ib.toInt.toNat) || (fun k => decide (k = ia.toInt.toNat) || (fun _ => false) k) k) k) ii.toInt.toNat)))])) (fun _ k => XS.iload X96.here hx rfl (hb hby at_162) rfl  k) ?_
          have hc97 : (0 : Int32) = (0 : Int32) := by decide
          refine own_go (B := T96.setTop (mkF m 171 #[.val (.long q1), .second, .val (.long q2), .second, .val (.long q3), .second, .val (.long q4), .second, .val (.long q5), .second, .val (.int p6), .val (.long sz), .second, .val (.long ia), .second, .val (.long ib), .second, .val (.long ic), .second, .val (.long ii), .second, .val (.int (1 : Int32)), .val (.ref b46), .val (.int (0 : Int32)), .val (.long (own_bl ((fun k => !decide (k = ic.toInt.toNat) && (fun k => decide (k = ib.toInt.toNat) || (fun k => decide (k = ia.toInt.toNat) || (fun _ => false) k) k) k) ii.toInt.toNat))), .second] [(.long (own_bl ((fun k => !decide (k = ic.toInt.toNat) && (fun k => decide (k = ib.toInt.toNat) || (fun k => decide (k = ia.toInt.toNat) || (fun _ => false) k) k) k) ii.toInt.toNat)))])) (fun _ k => XS.ifYes X96.here hx rfl (pc0 := 164) (pc' := 171) rfl (hb hby at_164) rfl ((if0 _ _).trans (teq hc97).1) (by decide) (by decide) k) ?_
          refine own_go (B := T96.setTop (mkF m 172 #[.val (.long q1), .second, .val (.long q2), .second, .val (.long q3), .second, .val (.long q4), .second, .val (.long q5), .second, .val (.int p6), .val (.long sz), .second, .val (.long ia), .second, .val (.long ib), .second, .val (.long ic), .second, .val (.long ii), .second, .val (.int (1 : Int32)), .val (.ref b46), .val (.int (0 : Int32)), .val (.long (own_bl ((fun k => !decide (k = ic.toInt.toNat) && (fun k => decide (k = ib.toInt.toNat) || (fun k => decide (k = ia.toInt.toNat) || (fun _ => false) k) k) k) ii.toInt.toNat))), .second] [(.long (0 : Int64)), (.long (own_bl ((fun k => !decide (k = ic.toInt.toNat) && (fun k => decide (k = ib.toInt.toNat) || (fun k => decide (k = ia.toInt.toNat) || (fun _ => false) k) k) k) ii.toInt.toNat)))])) (fun _ k => XS.lconst X96.here hx rfl (hb hby at_171) k) ?_
          refine own_go (B := T96.setTop (mkF m 173 #[.val (.long q1), .second, .val (.long q2), .second, .val (.long q3), .second, .val (.long q4), .second, .val (.long q5), .second, .val (.int p6), .val (.long sz), .second, .val (.long ia), .second, .val (.long ib), .second, .val (.long ic), .second, .val (.long ii), .second, .val (.int (1 : Int32)), .val (.ref b46), .val (.int (0 : Int32)), .val (.long (own_bl ((fun k => !decide (k = ic.toInt.toNat) && (fun k => decide (k = ib.toInt.toNat) || (fun k => decide (k = ia.toInt.toNat) || (fun _ => false) k) k) k) ii.toInt.toNat))), .second] [(.int (lcmpW (own_bl ((fun k => !decide (k = ic.toInt.toNat) && (fun k => decide (k = ib.toInt.toNat) || (fun k => decide (k = ia.toInt.toNat) || (fun _ => false) k) k) k) ii.toInt.toNat)) (0 : Int64)))])) (fun _ k => XS.lcmp X96.here hx rfl (hb hby at_172) rfl k) ?_
          have hc98 : (own_bl ((fun k => !decide (k = ic.toInt.toNat) && (fun k => decide (k = ib.toInt.toNat) || (fun k => decide (k = ia.toInt.toNat) || (fun _ => false) k) k) k) ii.toInt.toNat)) = (0 : Int64) := (own_pl_rm0_32 p6 sz ia ib ic ii hz1 hz2 hl_ia hu_ia hl_ib hu_ib hl_ic hu_ic hl_ii hu_ii hc7 hc78 hc87)
          refine own_go (B := T96.setTop (mkF m 176 #[.val (.long q1), .second, .val (.long q2), .second, .val (.long q3), .second, .val (.long q4), .second, .val (.long q5), .second, .val (.int p6), .val (.long sz), .second, .val (.long ia), .second, .val (.long ib), .second, .val (.long ic), .second, .val (.long ii), .second, .val (.int (1 : Int32)), .val (.ref b46), .val (.int (0 : Int32)), .val (.long (own_bl ((fun k => !decide (k = ic.toInt.toNat) && (fun k => decide (k = ib.toInt.toNat) || (fun k => decide (k = ia.toInt.toNat) || (fun _ => false) k) k) k) ii.toInt.toNat))), .second] [])) (fun _ k => XS.ifNo X96.here hx rfl (hb hby at_173) rfl ((if0 _ _).trans (teq ((lw_eq (own_bl ((fun k => !decide (k = ic.toInt.toNat) && (fun k => decide (k = ib.toInt.toNat) || (fun k => decide (k = ia.toInt.toNat) || (fun _ => false) k) k) k) ii.toInt.toNat)) (0 : Int64)).mpr hc98)).2) k) ?_
          refine own_go (B := T96.setTop (mkF m 177 #[.val (.long q1), .second, .val (.long q2), .second, .val (.long q3), .second, .val (.long q4), .second, .val (.long q5), .second, .val (.int p6), .val (.long sz), .second, .val (.long ia), .second, .val (.long ib), .second, .val (.long ic), .second, .val (.long ii), .second, .val (.int (1 : Int32)), .val (.ref b46), .val (.int (0 : Int32)), .val (.long (own_bl ((fun k => !decide (k = ic.toInt.toNat) && (fun k => decide (k = ib.toInt.toNat) || (fun k => decide (k = ia.toInt.toNat) || (fun _ => false) k) k) k) ii.toInt.toNat))), .second] [(.int (1 : Int32))])) (fun _ k => XS.iconst X96.here hx rfl (hb hby at_176) k) ?_
          refine own_go (B := T96.setTop (mkF m 181 #[.val (.long q1), .second, .val (.long q2), .second, .val (.long q3), .second, .val (.long q4), .second, .val (.long q5), .second, .val (.int p6), .val (.long sz), .second, .val (.long ia), .second, .val (.long ib), .second, .val (.long ic), .second, .val (.long ii), .second, .val (.int (1 : Int32)), .val (.ref b46), .val (.int (0 : Int32)), .val (.long (own_bl ((fun k => !decide (k = ic.toInt.toNat) && (fun k => decide (k = ib.toInt.toNat) || (fun k => decide (k = ia.toInt.toNat) || (fun _ => false) k) k) k) ii.toInt.toNat))), .second] [(.int (1 : Int32))])) (fun _ k => XS.goto X96.here hx rfl (pc0 := 177) (pc' := 181) rfl (hb hby at_177) (by decide) (by decide) k) ?_
          exact own_retN X96 hx Bd.notSynchronized (t := .boolean) (w := (1 : Int32)) Bd.returns (by simp) (hb hby at_181) e96 rfl ⟨rfl, N96, K77⟩ (by decide) (by decide)
  refine own_go (B := s₁.setTop (mkF m 1 #[.val (.long q1), .second, .val (.long q2), .second, .val (.long q3), .second, .val (.long q4), .second, .val (.long q5), .second, .val (.int p6), .unset, .unset, .unset, .unset, .unset, .unset, .unset, .unset, .unset, .unset, .unset, .unset, .unset, .unset, .unset] [(.long q1)])) (fun _ k => XS.lloadN X0.here hx rfl (hb hby at_0) rfl  k) ?_
  refine own_go (B := s₁.setTop (mkF m 4 #[.val (.long q1), .second, .val (.long q2), .second, .val (.long q3), .second, .val (.long q4), .second, .val (.long q5), .second, .val (.int p6), .unset, .unset, .unset, .unset, .unset, .unset, .unset, .unset, .unset, .unset, .unset, .unset, .unset, .unset, .unset] [(.long (4095 : Int64)), (.long q1)])) (fun _ k => X0.ldc2Long hx hown (mvT hZ (own_w hw 0 rfl)) (g := (mkF m 1 #[.val (.long q1), .second, .val (.long q2), .second, .val (.long q3), .second, .val (.long q4), .second, .val (.long q5), .second, .val (.int p6), .unset, .unset, .unset, .unset, .unset, .unset, .unset, .unset, .unset, .unset, .unset, .unset, .unset, .unset, .unset] [(.long q1)])) rfl (hb hby at_1) _ k) ?_
  refine own_go (B := s₁.setTop (mkF m 5 #[.val (.long q1), .second, .val (.long q2), .second, .val (.long q3), .second, .val (.long q4), .second, .val (.long q5), .second, .val (.int p6), .unset, .unset, .unset, .unset, .unset, .unset, .unset, .unset, .unset, .unset, .unset, .unset, .unset, .unset, .unset] [(.long (q1 &&& (4095 : Int64)))])) (fun _ k => XS.land X0.here hx rfl (hb hby at_4) rfl k) ?_
  refine own_go (B := s₁.setTop (mkF m 6 #[.val (.long q1), .second, .val (.long q2), .second, .val (.long q3), .second, .val (.long q4), .second, .val (.long q5), .second, .val (.int p6), .unset, .unset, .unset, .unset, .unset, .unset, .unset, .unset, .unset, .unset, .unset, .unset, .unset, .unset, .unset] [(.long (1 : Int64)), (.long (q1 &&& (4095 : Int64)))])) (fun _ k => XS.lconst X0.here hx rfl (hb hby at_5) k) ?_
  refine own_go (B := s₁.setTop (mkF m 7 #[.val (.long q1), .second, .val (.long q2), .second, .val (.long q3), .second, .val (.long q4), .second, .val (.long q5), .second, .val (.int p6), .unset, .unset, .unset, .unset, .unset, .unset, .unset, .unset, .unset, .unset, .unset, .unset, .unset, .unset, .unset] [(.long ((q1 &&& (4095 : Int64)) + (1 : Int64)))])) (fun _ k => XS.ladd X0.here hx rfl (hb hby at_6) rfl k) ?_
  refine own_go (B := s₁.setTop (mkF m 9 #[.val (.long q1), .second, .val (.long q2), .second, .val (.long q3), .second, .val (.long q4), .second, .val (.long q5), .second, .val (.int p6), .val (.long ((q1 &&& (4095 : Int64)) + (1 : Int64))), .second, .unset, .unset, .unset, .unset, .unset, .unset, .unset, .unset, .unset, .unset, .unset, .unset, .unset] [])) (fun _ k => XS.lstore X0.here hx rfl (hb hby at_7) rfl (l' := #[.val (.long q1), .second, .val (.long q2), .second, .val (.long q3), .second, .val (.long q4), .second, .val (.long q5), .second, .val (.int p6), .val (.long ((q1 &&& (4095 : Int64)) + (1 : Int64))), .second, .unset, .unset, .unset, .unset, .unset, .unset, .unset, .unset, .unset, .unset, .unset, .unset, .unset]) rfl k) ?_
  refine own_go (B := s₁.setTop (mkF m 10 #[.val (.long q1), .second, .val (.long q2), .second, .val (.long q3), .second, .val (.long q4), .second, .val (.long q5), .second, .val (.int p6), .val (.long ((q1 &&& (4095 : Int64)) + (1 : Int64))), .second, .unset, .unset, .unset, .unset, .unset, .unset, .unset, .unset, .unset, .unset, .unset, .unset, .unset] [(.long q2)])) (fun _ k => XS.lloadN X0.here hx rfl (hb hby at_9) rfl  k) ?_
  refine own_go (B := s₁.setTop (mkF m 13 #[.val (.long q1), .second, .val (.long q2), .second, .val (.long q3), .second, .val (.long q4), .second, .val (.long q5), .second, .val (.int p6), .val (.long ((q1 &&& (4095 : Int64)) + (1 : Int64))), .second, .unset, .unset, .unset, .unset, .unset, .unset, .unset, .unset, .unset, .unset, .unset, .unset, .unset] [(.long (9223372036854775807 : Int64)), (.long q2)])) (fun _ k => X0.ldc2Long hx hown (mvT hZ (own_w hw 1 rfl)) (g := (mkF m 10 #[.val (.long q1), .second, .val (.long q2), .second, .val (.long q3), .second, .val (.long q4), .second, .val (.long q5), .second, .val (.int p6), .val (.long ((q1 &&& (4095 : Int64)) + (1 : Int64))), .second, .unset, .unset, .unset, .unset, .unset, .unset, .unset, .unset, .unset, .unset, .unset, .unset, .unset] [(.long q2)])) rfl (hb hby at_10) _ k) ?_
  refine own_go (B := s₁.setTop (mkF m 14 #[.val (.long q1), .second, .val (.long q2), .second, .val (.long q3), .second, .val (.long q4), .second, .val (.long q5), .second, .val (.int p6), .val (.long ((q1 &&& (4095 : Int64)) + (1 : Int64))), .second, .unset, .unset, .unset, .unset, .unset, .unset, .unset, .unset, .unset, .unset, .unset, .unset, .unset] [(.long (q2 &&& (9223372036854775807 : Int64)))])) (fun _ k => XS.land X0.here hx rfl (hb hby at_13) rfl k) ?_
  refine own_go (B := s₁.setTop (mkF m 16 #[.val (.long q1), .second, .val (.long q2), .second, .val (.long q3), .second, .val (.long q4), .second, .val (.long q5), .second, .val (.int p6), .val (.long ((q1 &&& (4095 : Int64)) + (1 : Int64))), .second, .unset, .unset, .unset, .unset, .unset, .unset, .unset, .unset, .unset, .unset, .unset, .unset, .unset] [(.long ((q1 &&& (4095 : Int64)) + (1 : Int64))), (.long (q2 &&& (9223372036854775807 : Int64)))])) (fun _ k => XS.lload X0.here hx rfl (hb hby at_14) rfl  k) ?_
  have hnz2 : ((q1 &&& (4095 : Int64)) + (1 : Int64)) ≠ (0 : Int64) := (own_pl_rm0_1 q1)
  refine own_go (B := s₁.setTop (mkF m 17 #[.val (.long q1), .second, .val (.long q2), .second, .val (.long q3), .second, .val (.long q4), .second, .val (.long q5), .second, .val (.int p6), .val (.long ((q1 &&& (4095 : Int64)) + (1 : Int64))), .second, .unset, .unset, .unset, .unset, .unset, .unset, .unset, .unset, .unset, .unset, .unset, .unset, .unset] [(.long ((q2 &&& (9223372036854775807 : Int64)) - ((q2 &&& (9223372036854775807 : Int64)) / ((q1 &&& (4095 : Int64)) + (1 : Int64))) * ((q1 &&& (4095 : Int64)) + (1 : Int64))))])) (fun _ k => XS.lrem X0.here hx rfl (hb hby at_16) rfl hnz2 k) ?_
  refine own_go (B := s₁.setTop (mkF m 19 #[.val (.long q1), .second, .val (.long q2), .second, .val (.long q3), .second, .val (.long q4), .second, .val (.long q5), .second, .val (.int p6), .val (.long ((q1 &&& (4095 : Int64)) + (1 : Int64))), .second, .val (.long ((q2 &&& (9223372036854775807 : Int64)) - ((q2 &&& (9223372036854775807 : Int64)) / ((q1 &&& (4095 : Int64)) + (1 : Int64))) * ((q1 &&& (4095 : Int64)) + (1 : Int64)))), .second, .unset, .unset, .unset, .unset, .unset, .unset, .unset, .unset, .unset, .unset, .unset] [])) (fun _ k => XS.lstore X0.here hx rfl (hb hby at_17) rfl (l' := #[.val (.long q1), .second, .val (.long q2), .second, .val (.long q3), .second, .val (.long q4), .second, .val (.long q5), .second, .val (.int p6), .val (.long ((q1 &&& (4095 : Int64)) + (1 : Int64))), .second, .val (.long ((q2 &&& (9223372036854775807 : Int64)) - ((q2 &&& (9223372036854775807 : Int64)) / ((q1 &&& (4095 : Int64)) + (1 : Int64))) * ((q1 &&& (4095 : Int64)) + (1 : Int64)))), .second, .unset, .unset, .unset, .unset, .unset, .unset, .unset, .unset, .unset, .unset, .unset]) rfl k) ?_
  refine own_go (B := s₁.setTop (mkF m 21 #[.val (.long q1), .second, .val (.long q2), .second, .val (.long q3), .second, .val (.long q4), .second, .val (.long q5), .second, .val (.int p6), .val (.long ((q1 &&& (4095 : Int64)) + (1 : Int64))), .second, .val (.long ((q2 &&& (9223372036854775807 : Int64)) - ((q2 &&& (9223372036854775807 : Int64)) / ((q1 &&& (4095 : Int64)) + (1 : Int64))) * ((q1 &&& (4095 : Int64)) + (1 : Int64)))), .second, .unset, .unset, .unset, .unset, .unset, .unset, .unset, .unset, .unset, .unset, .unset] [(.long q3)])) (fun _ k => XS.lload X0.here hx rfl (hb hby at_19) rfl  k) ?_
  refine own_go (B := s₁.setTop (mkF m 24 #[.val (.long q1), .second, .val (.long q2), .second, .val (.long q3), .second, .val (.long q4), .second, .val (.long q5), .second, .val (.int p6), .val (.long ((q1 &&& (4095 : Int64)) + (1 : Int64))), .second, .val (.long ((q2 &&& (9223372036854775807 : Int64)) - ((q2 &&& (9223372036854775807 : Int64)) / ((q1 &&& (4095 : Int64)) + (1 : Int64))) * ((q1 &&& (4095 : Int64)) + (1 : Int64)))), .second, .unset, .unset, .unset, .unset, .unset, .unset, .unset, .unset, .unset, .unset, .unset] [(.long (9223372036854775807 : Int64)), (.long q3)])) (fun _ k => X0.ldc2Long hx hown (mvT hZ (own_w hw 1 rfl)) (g := (mkF m 21 #[.val (.long q1), .second, .val (.long q2), .second, .val (.long q3), .second, .val (.long q4), .second, .val (.long q5), .second, .val (.int p6), .val (.long ((q1 &&& (4095 : Int64)) + (1 : Int64))), .second, .val (.long ((q2 &&& (9223372036854775807 : Int64)) - ((q2 &&& (9223372036854775807 : Int64)) / ((q1 &&& (4095 : Int64)) + (1 : Int64))) * ((q1 &&& (4095 : Int64)) + (1 : Int64)))), .second, .unset, .unset, .unset, .unset, .unset, .unset, .unset, .unset, .unset, .unset, .unset] [(.long q3)])) rfl (hb hby at_21) _ k) ?_
  refine own_go (B := s₁.setTop (mkF m 25 #[.val (.long q1), .second, .val (.long q2), .second, .val (.long q3), .second, .val (.long q4), .second, .val (.long q5), .second, .val (.int p6), .val (.long ((q1 &&& (4095 : Int64)) + (1 : Int64))), .second, .val (.long ((q2 &&& (9223372036854775807 : Int64)) - ((q2 &&& (9223372036854775807 : Int64)) / ((q1 &&& (4095 : Int64)) + (1 : Int64))) * ((q1 &&& (4095 : Int64)) + (1 : Int64)))), .second, .unset, .unset, .unset, .unset, .unset, .unset, .unset, .unset, .unset, .unset, .unset] [(.long (q3 &&& (9223372036854775807 : Int64)))])) (fun _ k => XS.land X0.here hx rfl (hb hby at_24) rfl k) ?_
  refine own_go (B := s₁.setTop (mkF m 27 #[.val (.long q1), .second, .val (.long q2), .second, .val (.long q3), .second, .val (.long q4), .second, .val (.long q5), .second, .val (.int p6), .val (.long ((q1 &&& (4095 : Int64)) + (1 : Int64))), .second, .val (.long ((q2 &&& (9223372036854775807 : Int64)) - ((q2 &&& (9223372036854775807 : Int64)) / ((q1 &&& (4095 : Int64)) + (1 : Int64))) * ((q1 &&& (4095 : Int64)) + (1 : Int64)))), .second, .unset, .unset, .unset, .unset, .unset, .unset, .unset, .unset, .unset, .unset, .unset] [(.long ((q1 &&& (4095 : Int64)) + (1 : Int64))), (.long (q3 &&& (9223372036854775807 : Int64)))])) (fun _ k => XS.lload X0.here hx rfl (hb hby at_25) rfl  k) ?_
  have hnz3 : ((q1 &&& (4095 : Int64)) + (1 : Int64)) ≠ (0 : Int64) := (own_pl_rm0_2 q1)
  refine own_go (B := s₁.setTop (mkF m 28 #[.val (.long q1), .second, .val (.long q2), .second, .val (.long q3), .second, .val (.long q4), .second, .val (.long q5), .second, .val (.int p6), .val (.long ((q1 &&& (4095 : Int64)) + (1 : Int64))), .second, .val (.long ((q2 &&& (9223372036854775807 : Int64)) - ((q2 &&& (9223372036854775807 : Int64)) / ((q1 &&& (4095 : Int64)) + (1 : Int64))) * ((q1 &&& (4095 : Int64)) + (1 : Int64)))), .second, .unset, .unset, .unset, .unset, .unset, .unset, .unset, .unset, .unset, .unset, .unset] [(.long ((q3 &&& (9223372036854775807 : Int64)) - ((q3 &&& (9223372036854775807 : Int64)) / ((q1 &&& (4095 : Int64)) + (1 : Int64))) * ((q1 &&& (4095 : Int64)) + (1 : Int64))))])) (fun _ k => XS.lrem X0.here hx rfl (hb hby at_27) rfl hnz3 k) ?_
  refine own_go (B := s₁.setTop (mkF m 30 #[.val (.long q1), .second, .val (.long q2), .second, .val (.long q3), .second, .val (.long q4), .second, .val (.long q5), .second, .val (.int p6), .val (.long ((q1 &&& (4095 : Int64)) + (1 : Int64))), .second, .val (.long ((q2 &&& (9223372036854775807 : Int64)) - ((q2 &&& (9223372036854775807 : Int64)) / ((q1 &&& (4095 : Int64)) + (1 : Int64))) * ((q1 &&& (4095 : Int64)) + (1 : Int64)))), .second, .val (.long ((q3 &&& (9223372036854775807 : Int64)) - ((q3 &&& (9223372036854775807 : Int64)) / ((q1 &&& (4095 : Int64)) + (1 : Int64))) * ((q1 &&& (4095 : Int64)) + (1 : Int64)))), .second, .unset, .unset, .unset, .unset, .unset, .unset, .unset, .unset, .unset] [])) (fun _ k => XS.lstore X0.here hx rfl (hb hby at_28) rfl (l' := #[.val (.long q1), .second, .val (.long q2), .second, .val (.long q3), .second, .val (.long q4), .second, .val (.long q5), .second, .val (.int p6), .val (.long ((q1 &&& (4095 : Int64)) + (1 : Int64))), .second, .val (.long ((q2 &&& (9223372036854775807 : Int64)) - ((q2 &&& (9223372036854775807 : Int64)) / ((q1 &&& (4095 : Int64)) + (1 : Int64))) * ((q1 &&& (4095 : Int64)) + (1 : Int64)))), .second, .val (.long ((q3 &&& (9223372036854775807 : Int64)) - ((q3 &&& (9223372036854775807 : Int64)) / ((q1 &&& (4095 : Int64)) + (1 : Int64))) * ((q1 &&& (4095 : Int64)) + (1 : Int64)))), .second, .unset, .unset, .unset, .unset, .unset, .unset, .unset, .unset, .unset]) rfl k) ?_
  refine own_go (B := s₁.setTop (mkF m 32 #[.val (.long q1), .second, .val (.long q2), .second, .val (.long q3), .second, .val (.long q4), .second, .val (.long q5), .second, .val (.int p6), .val (.long ((q1 &&& (4095 : Int64)) + (1 : Int64))), .second, .val (.long ((q2 &&& (9223372036854775807 : Int64)) - ((q2 &&& (9223372036854775807 : Int64)) / ((q1 &&& (4095 : Int64)) + (1 : Int64))) * ((q1 &&& (4095 : Int64)) + (1 : Int64)))), .second, .val (.long ((q3 &&& (9223372036854775807 : Int64)) - ((q3 &&& (9223372036854775807 : Int64)) / ((q1 &&& (4095 : Int64)) + (1 : Int64))) * ((q1 &&& (4095 : Int64)) + (1 : Int64)))), .second, .unset, .unset, .unset, .unset, .unset, .unset, .unset, .unset, .unset] [(.long q4)])) (fun _ k => XS.lload X0.here hx rfl (hb hby at_30) rfl  k) ?_
  refine own_go (B := s₁.setTop (mkF m 35 #[.val (.long q1), .second, .val (.long q2), .second, .val (.long q3), .second, .val (.long q4), .second, .val (.long q5), .second, .val (.int p6), .val (.long ((q1 &&& (4095 : Int64)) + (1 : Int64))), .second, .val (.long ((q2 &&& (9223372036854775807 : Int64)) - ((q2 &&& (9223372036854775807 : Int64)) / ((q1 &&& (4095 : Int64)) + (1 : Int64))) * ((q1 &&& (4095 : Int64)) + (1 : Int64)))), .second, .val (.long ((q3 &&& (9223372036854775807 : Int64)) - ((q3 &&& (9223372036854775807 : Int64)) / ((q1 &&& (4095 : Int64)) + (1 : Int64))) * ((q1 &&& (4095 : Int64)) + (1 : Int64)))), .second, .unset, .unset, .unset, .unset, .unset, .unset, .unset, .unset, .unset] [(.long (9223372036854775807 : Int64)), (.long q4)])) (fun _ k => X0.ldc2Long hx hown (mvT hZ (own_w hw 1 rfl)) (g := (mkF m 32 #[.val (.long q1), .second, .val (.long q2), .second, .val (.long q3), .second, .val (.long q4), .second, .val (.long q5), .second, .val (.int p6), .val (.long ((q1 &&& (4095 : Int64)) + (1 : Int64))), .second, .val (.long ((q2 &&& (9223372036854775807 : Int64)) - ((q2 &&& (9223372036854775807 : Int64)) / ((q1 &&& (4095 : Int64)) + (1 : Int64))) * ((q1 &&& (4095 : Int64)) + (1 : Int64)))), .second, .val (.long ((q3 &&& (9223372036854775807 : Int64)) - ((q3 &&& (9223372036854775807 : Int64)) / ((q1 &&& (4095 : Int64)) + (1 : Int64))) * ((q1 &&& (4095 : Int64)) + (1 : Int64)))), .second, .unset, .unset, .unset, .unset, .unset, .unset, .unset, .unset, .unset] [(.long q4)])) rfl (hb hby at_32) _ k) ?_
  refine own_go (B := s₁.setTop (mkF m 36 #[.val (.long q1), .second, .val (.long q2), .second, .val (.long q3), .second, .val (.long q4), .second, .val (.long q5), .second, .val (.int p6), .val (.long ((q1 &&& (4095 : Int64)) + (1 : Int64))), .second, .val (.long ((q2 &&& (9223372036854775807 : Int64)) - ((q2 &&& (9223372036854775807 : Int64)) / ((q1 &&& (4095 : Int64)) + (1 : Int64))) * ((q1 &&& (4095 : Int64)) + (1 : Int64)))), .second, .val (.long ((q3 &&& (9223372036854775807 : Int64)) - ((q3 &&& (9223372036854775807 : Int64)) / ((q1 &&& (4095 : Int64)) + (1 : Int64))) * ((q1 &&& (4095 : Int64)) + (1 : Int64)))), .second, .unset, .unset, .unset, .unset, .unset, .unset, .unset, .unset, .unset] [(.long (q4 &&& (9223372036854775807 : Int64)))])) (fun _ k => XS.land X0.here hx rfl (hb hby at_35) rfl k) ?_
  refine own_go (B := s₁.setTop (mkF m 38 #[.val (.long q1), .second, .val (.long q2), .second, .val (.long q3), .second, .val (.long q4), .second, .val (.long q5), .second, .val (.int p6), .val (.long ((q1 &&& (4095 : Int64)) + (1 : Int64))), .second, .val (.long ((q2 &&& (9223372036854775807 : Int64)) - ((q2 &&& (9223372036854775807 : Int64)) / ((q1 &&& (4095 : Int64)) + (1 : Int64))) * ((q1 &&& (4095 : Int64)) + (1 : Int64)))), .second, .val (.long ((q3 &&& (9223372036854775807 : Int64)) - ((q3 &&& (9223372036854775807 : Int64)) / ((q1 &&& (4095 : Int64)) + (1 : Int64))) * ((q1 &&& (4095 : Int64)) + (1 : Int64)))), .second, .unset, .unset, .unset, .unset, .unset, .unset, .unset, .unset, .unset] [(.long ((q1 &&& (4095 : Int64)) + (1 : Int64))), (.long (q4 &&& (9223372036854775807 : Int64)))])) (fun _ k => XS.lload X0.here hx rfl (hb hby at_36) rfl  k) ?_
  have hnz4 : ((q1 &&& (4095 : Int64)) + (1 : Int64)) ≠ (0 : Int64) := (own_pl_rm0_3 q1)
  refine own_go (B := s₁.setTop (mkF m 39 #[.val (.long q1), .second, .val (.long q2), .second, .val (.long q3), .second, .val (.long q4), .second, .val (.long q5), .second, .val (.int p6), .val (.long ((q1 &&& (4095 : Int64)) + (1 : Int64))), .second, .val (.long ((q2 &&& (9223372036854775807 : Int64)) - ((q2 &&& (9223372036854775807 : Int64)) / ((q1 &&& (4095 : Int64)) + (1 : Int64))) * ((q1 &&& (4095 : Int64)) + (1 : Int64)))), .second, .val (.long ((q3 &&& (9223372036854775807 : Int64)) - ((q3 &&& (9223372036854775807 : Int64)) / ((q1 &&& (4095 : Int64)) + (1 : Int64))) * ((q1 &&& (4095 : Int64)) + (1 : Int64)))), .second, .unset, .unset, .unset, .unset, .unset, .unset, .unset, .unset, .unset] [(.long ((q4 &&& (9223372036854775807 : Int64)) - ((q4 &&& (9223372036854775807 : Int64)) / ((q1 &&& (4095 : Int64)) + (1 : Int64))) * ((q1 &&& (4095 : Int64)) + (1 : Int64))))])) (fun _ k => XS.lrem X0.here hx rfl (hb hby at_38) rfl hnz4 k) ?_
  refine own_go (B := s₁.setTop (mkF m 41 #[.val (.long q1), .second, .val (.long q2), .second, .val (.long q3), .second, .val (.long q4), .second, .val (.long q5), .second, .val (.int p6), .val (.long ((q1 &&& (4095 : Int64)) + (1 : Int64))), .second, .val (.long ((q2 &&& (9223372036854775807 : Int64)) - ((q2 &&& (9223372036854775807 : Int64)) / ((q1 &&& (4095 : Int64)) + (1 : Int64))) * ((q1 &&& (4095 : Int64)) + (1 : Int64)))), .second, .val (.long ((q3 &&& (9223372036854775807 : Int64)) - ((q3 &&& (9223372036854775807 : Int64)) / ((q1 &&& (4095 : Int64)) + (1 : Int64))) * ((q1 &&& (4095 : Int64)) + (1 : Int64)))), .second, .val (.long ((q4 &&& (9223372036854775807 : Int64)) - ((q4 &&& (9223372036854775807 : Int64)) / ((q1 &&& (4095 : Int64)) + (1 : Int64))) * ((q1 &&& (4095 : Int64)) + (1 : Int64)))), .second, .unset, .unset, .unset, .unset, .unset, .unset, .unset] [])) (fun _ k => XS.lstore X0.here hx rfl (hb hby at_39) rfl (l' := #[.val (.long q1), .second, .val (.long q2), .second, .val (.long q3), .second, .val (.long q4), .second, .val (.long q5), .second, .val (.int p6), .val (.long ((q1 &&& (4095 : Int64)) + (1 : Int64))), .second, .val (.long ((q2 &&& (9223372036854775807 : Int64)) - ((q2 &&& (9223372036854775807 : Int64)) / ((q1 &&& (4095 : Int64)) + (1 : Int64))) * ((q1 &&& (4095 : Int64)) + (1 : Int64)))), .second, .val (.long ((q3 &&& (9223372036854775807 : Int64)) - ((q3 &&& (9223372036854775807 : Int64)) / ((q1 &&& (4095 : Int64)) + (1 : Int64))) * ((q1 &&& (4095 : Int64)) + (1 : Int64)))), .second, .val (.long ((q4 &&& (9223372036854775807 : Int64)) - ((q4 &&& (9223372036854775807 : Int64)) / ((q1 &&& (4095 : Int64)) + (1 : Int64))) * ((q1 &&& (4095 : Int64)) + (1 : Int64)))), .second, .unset, .unset, .unset, .unset, .unset, .unset, .unset]) rfl k) ?_
  refine own_go (B := s₁.setTop (mkF m 43 #[.val (.long q1), .second, .val (.long q2), .second, .val (.long q3), .second, .val (.long q4), .second, .val (.long q5), .second, .val (.int p6), .val (.long ((q1 &&& (4095 : Int64)) + (1 : Int64))), .second, .val (.long ((q2 &&& (9223372036854775807 : Int64)) - ((q2 &&& (9223372036854775807 : Int64)) / ((q1 &&& (4095 : Int64)) + (1 : Int64))) * ((q1 &&& (4095 : Int64)) + (1 : Int64)))), .second, .val (.long ((q3 &&& (9223372036854775807 : Int64)) - ((q3 &&& (9223372036854775807 : Int64)) / ((q1 &&& (4095 : Int64)) + (1 : Int64))) * ((q1 &&& (4095 : Int64)) + (1 : Int64)))), .second, .val (.long ((q4 &&& (9223372036854775807 : Int64)) - ((q4 &&& (9223372036854775807 : Int64)) / ((q1 &&& (4095 : Int64)) + (1 : Int64))) * ((q1 &&& (4095 : Int64)) + (1 : Int64)))), .second, .unset, .unset, .unset, .unset, .unset, .unset, .unset] [(.int p6)])) (fun _ k => XS.iload X0.here hx rfl (hb hby at_41) rfl  k) ?_
  refine own_go (B := s₁.setTop (mkF m 44 #[.val (.long q1), .second, .val (.long q2), .second, .val (.long q3), .second, .val (.long q4), .second, .val (.long q5), .second, .val (.int p6), .val (.long ((q1 &&& (4095 : Int64)) + (1 : Int64))), .second, .val (.long ((q2 &&& (9223372036854775807 : Int64)) - ((q2 &&& (9223372036854775807 : Int64)) / ((q1 &&& (4095 : Int64)) + (1 : Int64))) * ((q1 &&& (4095 : Int64)) + (1 : Int64)))), .second, .val (.long ((q3 &&& (9223372036854775807 : Int64)) - ((q3 &&& (9223372036854775807 : Int64)) / ((q1 &&& (4095 : Int64)) + (1 : Int64))) * ((q1 &&& (4095 : Int64)) + (1 : Int64)))), .second, .val (.long ((q4 &&& (9223372036854775807 : Int64)) - ((q4 &&& (9223372036854775807 : Int64)) / ((q1 &&& (4095 : Int64)) + (1 : Int64))) * ((q1 &&& (4095 : Int64)) + (1 : Int64)))), .second, .unset, .unset, .unset, .unset, .unset, .unset, .unset] [(.int (2 : Int32)), (.int p6)])) (fun _ k => XS.iconst X0.here hx rfl (hb hby at_43) k) ?_
  refine own_go (B := s₁.setTop (mkF m 45 #[.val (.long q1), .second, .val (.long q2), .second, .val (.long q3), .second, .val (.long q4), .second, .val (.long q5), .second, .val (.int p6), .val (.long ((q1 &&& (4095 : Int64)) + (1 : Int64))), .second, .val (.long ((q2 &&& (9223372036854775807 : Int64)) - ((q2 &&& (9223372036854775807 : Int64)) / ((q1 &&& (4095 : Int64)) + (1 : Int64))) * ((q1 &&& (4095 : Int64)) + (1 : Int64)))), .second, .val (.long ((q3 &&& (9223372036854775807 : Int64)) - ((q3 &&& (9223372036854775807 : Int64)) / ((q1 &&& (4095 : Int64)) + (1 : Int64))) * ((q1 &&& (4095 : Int64)) + (1 : Int64)))), .second, .val (.long ((q4 &&& (9223372036854775807 : Int64)) - ((q4 &&& (9223372036854775807 : Int64)) / ((q1 &&& (4095 : Int64)) + (1 : Int64))) * ((q1 &&& (4095 : Int64)) + (1 : Int64)))), .second, .unset, .unset, .unset, .unset, .unset, .unset, .unset] [(.int (p6 &&& (2 : Int32)))])) (fun _ k => XS.iand X0.here hx rfl (hb hby at_44) rfl k) ?_
  by_cases hc5 : (p6 &&& (2 : Int32)) = (0 : Int32)
  · skip
    refine own_go (B := s₁.setTop (mkF m 53 #[.val (.long q1), .second, .val (.long q2), .second, .val (.long q3), .second, .val (.long q4), .second, .val (.long q5), .second, .val (.int p6), .val (.long ((q1 &&& (4095 : Int64)) + (1 : Int64))), .second, .val (.long ((q2 &&& (9223372036854775807 : Int64)) - ((q2 &&& (9223372036854775807 : Int64)) / ((q1 &&& (4095 : Int64)) + (1 : Int64))) * ((q1 &&& (4095 : Int64)) + (1 : Int64)))), .second, .val (.long ((q3 &&& (9223372036854775807 : Int64)) - ((q3 &&& (9223372036854775807 : Int64)) / ((q1 &&& (4095 : Int64)) + (1 : Int64))) * ((q1 &&& (4095 : Int64)) + (1 : Int64)))), .second, .val (.long ((q4 &&& (9223372036854775807 : Int64)) - ((q4 &&& (9223372036854775807 : Int64)) / ((q1 &&& (4095 : Int64)) + (1 : Int64))) * ((q1 &&& (4095 : Int64)) + (1 : Int64)))), .second, .unset, .unset, .unset, .unset, .unset, .unset, .unset] [])) (fun _ k => XS.ifYes X0.here hx rfl (pc0 := 45) (pc' := 53) rfl (hb hby at_45) rfl ((if0 _ _).trans (teq hc5).1) (by decide) (by decide) k) ?_
    refine own_go (B := s₁.setTop (mkF m 55 #[.val (.long q1), .second, .val (.long q2), .second, .val (.long q3), .second, .val (.long q4), .second, .val (.long q5), .second, .val (.int p6), .val (.long ((q1 &&& (4095 : Int64)) + (1 : Int64))), .second, .val (.long ((q2 &&& (9223372036854775807 : Int64)) - ((q2 &&& (9223372036854775807 : Int64)) / ((q1 &&& (4095 : Int64)) + (1 : Int64))) * ((q1 &&& (4095 : Int64)) + (1 : Int64)))), .second, .val (.long ((q3 &&& (9223372036854775807 : Int64)) - ((q3 &&& (9223372036854775807 : Int64)) / ((q1 &&& (4095 : Int64)) + (1 : Int64))) * ((q1 &&& (4095 : Int64)) + (1 : Int64)))), .second, .val (.long ((q4 &&& (9223372036854775807 : Int64)) - ((q4 &&& (9223372036854775807 : Int64)) / ((q1 &&& (4095 : Int64)) + (1 : Int64))) * ((q1 &&& (4095 : Int64)) + (1 : Int64)))), .second, .unset, .unset, .unset, .unset, .unset, .unset, .unset] [(.long q5)])) (fun _ k => XS.lload X0.here hx rfl (hb hby at_53) rfl  k) ?_
    refine own_go (B := s₁.setTop (mkF m 58 #[.val (.long q1), .second, .val (.long q2), .second, .val (.long q3), .second, .val (.long q4), .second, .val (.long q5), .second, .val (.int p6), .val (.long ((q1 &&& (4095 : Int64)) + (1 : Int64))), .second, .val (.long ((q2 &&& (9223372036854775807 : Int64)) - ((q2 &&& (9223372036854775807 : Int64)) / ((q1 &&& (4095 : Int64)) + (1 : Int64))) * ((q1 &&& (4095 : Int64)) + (1 : Int64)))), .second, .val (.long ((q3 &&& (9223372036854775807 : Int64)) - ((q3 &&& (9223372036854775807 : Int64)) / ((q1 &&& (4095 : Int64)) + (1 : Int64))) * ((q1 &&& (4095 : Int64)) + (1 : Int64)))), .second, .val (.long ((q4 &&& (9223372036854775807 : Int64)) - ((q4 &&& (9223372036854775807 : Int64)) / ((q1 &&& (4095 : Int64)) + (1 : Int64))) * ((q1 &&& (4095 : Int64)) + (1 : Int64)))), .second, .unset, .unset, .unset, .unset, .unset, .unset, .unset] [(.long (9223372036854775807 : Int64)), (.long q5)])) (fun _ k => X0.ldc2Long hx hown (mvT hZ (own_w hw 1 rfl)) (g := (mkF m 55 #[.val (.long q1), .second, .val (.long q2), .second, .val (.long q3), .second, .val (.long q4), .second, .val (.long q5), .second, .val (.int p6), .val (.long ((q1 &&& (4095 : Int64)) + (1 : Int64))), .second, .val (.long ((q2 &&& (9223372036854775807 : Int64)) - ((q2 &&& (9223372036854775807 : Int64)) / ((q1 &&& (4095 : Int64)) + (1 : Int64))) * ((q1 &&& (4095 : Int64)) + (1 : Int64)))), .second, .val (.long ((q3 &&& (9223372036854775807 : Int64)) - ((q3 &&& (9223372036854775807 : Int64)) / ((q1 &&& (4095 : Int64)) + (1 : Int64))) * ((q1 &&& (4095 : Int64)) + (1 : Int64)))), .second, .val (.long ((q4 &&& (9223372036854775807 : Int64)) - ((q4 &&& (9223372036854775807 : Int64)) / ((q1 &&& (4095 : Int64)) + (1 : Int64))) * ((q1 &&& (4095 : Int64)) + (1 : Int64)))), .second, .unset, .unset, .unset, .unset, .unset, .unset, .unset] [(.long q5)])) rfl (hb hby at_55) _ k) ?_
    refine own_go (B := s₁.setTop (mkF m 59 #[.val (.long q1), .second, .val (.long q2), .second, .val (.long q3), .second, .val (.long q4), .second, .val (.long q5), .second, .val (.int p6), .val (.long ((q1 &&& (4095 : Int64)) + (1 : Int64))), .second, .val (.long ((q2 &&& (9223372036854775807 : Int64)) - ((q2 &&& (9223372036854775807 : Int64)) / ((q1 &&& (4095 : Int64)) + (1 : Int64))) * ((q1 &&& (4095 : Int64)) + (1 : Int64)))), .second, .val (.long ((q3 &&& (9223372036854775807 : Int64)) - ((q3 &&& (9223372036854775807 : Int64)) / ((q1 &&& (4095 : Int64)) + (1 : Int64))) * ((q1 &&& (4095 : Int64)) + (1 : Int64)))), .second, .val (.long ((q4 &&& (9223372036854775807 : Int64)) - ((q4 &&& (9223372036854775807 : Int64)) / ((q1 &&& (4095 : Int64)) + (1 : Int64))) * ((q1 &&& (4095 : Int64)) + (1 : Int64)))), .second, .unset, .unset, .unset, .unset, .unset, .unset, .unset] [(.long (q5 &&& (9223372036854775807 : Int64)))])) (fun _ k => XS.land X0.here hx rfl (hb hby at_58) rfl k) ?_
    refine own_go (B := s₁.setTop (mkF m 61 #[.val (.long q1), .second, .val (.long q2), .second, .val (.long q3), .second, .val (.long q4), .second, .val (.long q5), .second, .val (.int p6), .val (.long ((q1 &&& (4095 : Int64)) + (1 : Int64))), .second, .val (.long ((q2 &&& (9223372036854775807 : Int64)) - ((q2 &&& (9223372036854775807 : Int64)) / ((q1 &&& (4095 : Int64)) + (1 : Int64))) * ((q1 &&& (4095 : Int64)) + (1 : Int64)))), .second, .val (.long ((q3 &&& (9223372036854775807 : Int64)) - ((q3 &&& (9223372036854775807 : Int64)) / ((q1 &&& (4095 : Int64)) + (1 : Int64))) * ((q1 &&& (4095 : Int64)) + (1 : Int64)))), .second, .val (.long ((q4 &&& (9223372036854775807 : Int64)) - ((q4 &&& (9223372036854775807 : Int64)) / ((q1 &&& (4095 : Int64)) + (1 : Int64))) * ((q1 &&& (4095 : Int64)) + (1 : Int64)))), .second, .unset, .unset, .unset, .unset, .unset, .unset, .unset] [(.long ((q1 &&& (4095 : Int64)) + (1 : Int64))), (.long (q5 &&& (9223372036854775807 : Int64)))])) (fun _ k => XS.lload X0.here hx rfl (hb hby at_59) rfl  k) ?_
    have hnz6 : ((q1 &&& (4095 : Int64)) + (1 : Int64)) ≠ (0 : Int64) := (own_pl_rm0_4 q1 p6 hc5)
    refine own_go (B := s₁.setTop (mkF m 62 #[.val (.long q1), .second, .val (.long q2), .second, .val (.long q3), .second, .val (.long q4), .second, .val (.long q5), .second, .val (.int p6), .val (.long ((q1 &&& (4095 : Int64)) + (1 : Int64))), .second, .val (.long ((q2 &&& (9223372036854775807 : Int64)) - ((q2 &&& (9223372036854775807 : Int64)) / ((q1 &&& (4095 : Int64)) + (1 : Int64))) * ((q1 &&& (4095 : Int64)) + (1 : Int64)))), .second, .val (.long ((q3 &&& (9223372036854775807 : Int64)) - ((q3 &&& (9223372036854775807 : Int64)) / ((q1 &&& (4095 : Int64)) + (1 : Int64))) * ((q1 &&& (4095 : Int64)) + (1 : Int64)))), .second, .val (.long ((q4 &&& (9223372036854775807 : Int64)) - ((q4 &&& (9223372036854775807 : Int64)) / ((q1 &&& (4095 : Int64)) + (1 : Int64))) * ((q1 &&& (4095 : Int64)) + (1 : Int64)))), .second, .unset, .unset, .unset, .unset, .unset, .unset, .unset] [(.long ((q5 &&& (9223372036854775807 : Int64)) - ((q5 &&& (9223372036854775807 : Int64)) / ((q1 &&& (4095 : Int64)) + (1 : Int64))) * ((q1 &&& (4095 : Int64)) + (1 : Int64))))])) (fun _ k => XS.lrem X0.here hx rfl (hb hby at_61) rfl hnz6 k) ?_
    refine own_go (B := s₁.setTop (mkF m 64 #[.val (.long q1), .second, .val (.long q2), .second, .val (.long q3), .second, .val (.long q4), .second, .val (.long q5), .second, .val (.int p6), .val (.long ((q1 &&& (4095 : Int64)) + (1 : Int64))), .second, .val (.long ((q2 &&& (9223372036854775807 : Int64)) - ((q2 &&& (9223372036854775807 : Int64)) / ((q1 &&& (4095 : Int64)) + (1 : Int64))) * ((q1 &&& (4095 : Int64)) + (1 : Int64)))), .second, .val (.long ((q3 &&& (9223372036854775807 : Int64)) - ((q3 &&& (9223372036854775807 : Int64)) / ((q1 &&& (4095 : Int64)) + (1 : Int64))) * ((q1 &&& (4095 : Int64)) + (1 : Int64)))), .second, .val (.long ((q4 &&& (9223372036854775807 : Int64)) - ((q4 &&& (9223372036854775807 : Int64)) / ((q1 &&& (4095 : Int64)) + (1 : Int64))) * ((q1 &&& (4095 : Int64)) + (1 : Int64)))), .second, .val (.long ((q5 &&& (9223372036854775807 : Int64)) - ((q5 &&& (9223372036854775807 : Int64)) / ((q1 &&& (4095 : Int64)) + (1 : Int64))) * ((q1 &&& (4095 : Int64)) + (1 : Int64)))), .second, .unset, .unset, .unset, .unset, .unset] [])) (fun _ k => XS.lstore X0.here hx rfl (hb hby at_62) rfl (l' := #[.val (.long q1), .second, .val (.long q2), .second, .val (.long q3), .second, .val (.long q4), .second, .val (.long q5), .second, .val (.int p6), .val (.long ((q1 &&& (4095 : Int64)) + (1 : Int64))), .second, .val (.long ((q2 &&& (9223372036854775807 : Int64)) - ((q2 &&& (9223372036854775807 : Int64)) / ((q1 &&& (4095 : Int64)) + (1 : Int64))) * ((q1 &&& (4095 : Int64)) + (1 : Int64)))), .second, .val (.long ((q3 &&& (9223372036854775807 : Int64)) - ((q3 &&& (9223372036854775807 : Int64)) / ((q1 &&& (4095 : Int64)) + (1 : Int64))) * ((q1 &&& (4095 : Int64)) + (1 : Int64)))), .second, .val (.long ((q4 &&& (9223372036854775807 : Int64)) - ((q4 &&& (9223372036854775807 : Int64)) / ((q1 &&& (4095 : Int64)) + (1 : Int64))) * ((q1 &&& (4095 : Int64)) + (1 : Int64)))), .second, .val (.long ((q5 &&& (9223372036854775807 : Int64)) - ((q5 &&& (9223372036854775807 : Int64)) / ((q1 &&& (4095 : Int64)) + (1 : Int64))) * ((q1 &&& (4095 : Int64)) + (1 : Int64)))), .second, .unset, .unset, .unset, .unset, .unset]) rfl k) ?_
    exact J1 ((q1 &&& (4095 : Int64)) + (1 : Int64)) ((q2 &&& (9223372036854775807 : Int64)) - ((q2 &&& (9223372036854775807 : Int64)) / ((q1 &&& (4095 : Int64)) + (1 : Int64))) * ((q1 &&& (4095 : Int64)) + (1 : Int64))) ((q3 &&& (9223372036854775807 : Int64)) - ((q3 &&& (9223372036854775807 : Int64)) / ((q1 &&& (4095 : Int64)) + (1 : Int64))) * ((q1 &&& (4095 : Int64)) + (1 : Int64))) ((q4 &&& (9223372036854775807 : Int64)) - ((q4 &&& (9223372036854775807 : Int64)) / ((q1 &&& (4095 : Int64)) + (1 : Int64))) * ((q1 &&& (4095 : Int64)) + (1 : Int64))) ((q5 &&& (9223372036854775807 : Int64)) - ((q5 &&& (9223372036854775807 : Int64)) / ((q1 &&& (4095 : Int64)) + (1 : Int64))) * ((q1 &&& (4095 : Int64)) + (1 : Int64))) (own_pl_rm0_5 q1 p6 hc5) (own_pl_rm0_6 q1 p6 hc5) (own_pl_rm0_7 q1 q2 p6 hc5) (own_pl_rm0_8 q1 q2 p6 hc5) (own_pl_rm0_9 q1 q3 p6 hc5) (own_pl_rm0_10 q1 q3 p6 hc5) (own_pl_rm0_11 q1 q4 p6 hc5) (own_pl_rm0_12 q1 q4 p6 hc5) (own_pl_rm0_13 q1 q5 p6 hc5) (own_pl_rm0_14 q1 q5 p6 hc5)
  · skip
    refine own_go (B := s₁.setTop (mkF m 48 #[.val (.long q1), .second, .val (.long q2), .second, .val (.long q3), .second, .val (.long q4), .second, .val (.long q5), .second, .val (.int p6), .val (.long ((q1 &&& (4095 : Int64)) + (1 : Int64))), .second, .val (.long ((q2 &&& (9223372036854775807 : Int64)) - ((q2 &&& (9223372036854775807 : Int64)) / ((q1 &&& (4095 : Int64)) + (1 : Int64))) * ((q1 &&& (4095 : Int64)) + (1 : Int64)))), .second, .val (.long ((q3 &&& (9223372036854775807 : Int64)) - ((q3 &&& (9223372036854775807 : Int64)) / ((q1 &&& (4095 : Int64)) + (1 : Int64))) * ((q1 &&& (4095 : Int64)) + (1 : Int64)))), .second, .val (.long ((q4 &&& (9223372036854775807 : Int64)) - ((q4 &&& (9223372036854775807 : Int64)) / ((q1 &&& (4095 : Int64)) + (1 : Int64))) * ((q1 &&& (4095 : Int64)) + (1 : Int64)))), .second, .unset, .unset, .unset, .unset, .unset, .unset, .unset] [])) (fun _ k => XS.ifNo X0.here hx rfl (hb hby at_45) rfl ((if0 _ _).trans (feq hc5).1) k) ?_
    refine own_go (B := s₁.setTop (mkF m 50 #[.val (.long q1), .second, .val (.long q2), .second, .val (.long q3), .second, .val (.long q4), .second, .val (.long q5), .second, .val (.int p6), .val (.long ((q1 &&& (4095 : Int64)) + (1 : Int64))), .second, .val (.long ((q2 &&& (9223372036854775807 : Int64)) - ((q2 &&& (9223372036854775807 : Int64)) / ((q1 &&& (4095 : Int64)) + (1 : Int64))) * ((q1 &&& (4095 : Int64)) + (1 : Int64)))), .second, .val (.long ((q3 &&& (9223372036854775807 : Int64)) - ((q3 &&& (9223372036854775807 : Int64)) / ((q1 &&& (4095 : Int64)) + (1 : Int64))) * ((q1 &&& (4095 : Int64)) + (1 : Int64)))), .second, .val (.long ((q4 &&& (9223372036854775807 : Int64)) - ((q4 &&& (9223372036854775807 : Int64)) / ((q1 &&& (4095 : Int64)) + (1 : Int64))) * ((q1 &&& (4095 : Int64)) + (1 : Int64)))), .second, .unset, .unset, .unset, .unset, .unset, .unset, .unset] [(.long ((q2 &&& (9223372036854775807 : Int64)) - ((q2 &&& (9223372036854775807 : Int64)) / ((q1 &&& (4095 : Int64)) + (1 : Int64))) * ((q1 &&& (4095 : Int64)) + (1 : Int64))))])) (fun _ k => XS.lload X0.here hx rfl (hb hby at_48) rfl  k) ?_
    refine own_go (B := s₁.setTop (mkF m 62 #[.val (.long q1), .second, .val (.long q2), .second, .val (.long q3), .second, .val (.long q4), .second, .val (.long q5), .second, .val (.int p6), .val (.long ((q1 &&& (4095 : Int64)) + (1 : Int64))), .second, .val (.long ((q2 &&& (9223372036854775807 : Int64)) - ((q2 &&& (9223372036854775807 : Int64)) / ((q1 &&& (4095 : Int64)) + (1 : Int64))) * ((q1 &&& (4095 : Int64)) + (1 : Int64)))), .second, .val (.long ((q3 &&& (9223372036854775807 : Int64)) - ((q3 &&& (9223372036854775807 : Int64)) / ((q1 &&& (4095 : Int64)) + (1 : Int64))) * ((q1 &&& (4095 : Int64)) + (1 : Int64)))), .second, .val (.long ((q4 &&& (9223372036854775807 : Int64)) - ((q4 &&& (9223372036854775807 : Int64)) / ((q1 &&& (4095 : Int64)) + (1 : Int64))) * ((q1 &&& (4095 : Int64)) + (1 : Int64)))), .second, .unset, .unset, .unset, .unset, .unset, .unset, .unset] [(.long ((q2 &&& (9223372036854775807 : Int64)) - ((q2 &&& (9223372036854775807 : Int64)) / ((q1 &&& (4095 : Int64)) + (1 : Int64))) * ((q1 &&& (4095 : Int64)) + (1 : Int64))))])) (fun _ k => XS.goto X0.here hx rfl (pc0 := 50) (pc' := 62) rfl (hb hby at_50) (by decide) (by decide) k) ?_
    refine own_go (B := s₁.setTop (mkF m 64 #[.val (.long q1), .second, .val (.long q2), .second, .val (.long q3), .second, .val (.long q4), .second, .val (.long q5), .second, .val (.int p6), .val (.long ((q1 &&& (4095 : Int64)) + (1 : Int64))), .second, .val (.long ((q2 &&& (9223372036854775807 : Int64)) - ((q2 &&& (9223372036854775807 : Int64)) / ((q1 &&& (4095 : Int64)) + (1 : Int64))) * ((q1 &&& (4095 : Int64)) + (1 : Int64)))), .second, .val (.long ((q3 &&& (9223372036854775807 : Int64)) - ((q3 &&& (9223372036854775807 : Int64)) / ((q1 &&& (4095 : Int64)) + (1 : Int64))) * ((q1 &&& (4095 : Int64)) + (1 : Int64)))), .second, .val (.long ((q4 &&& (9223372036854775807 : Int64)) - ((q4 &&& (9223372036854775807 : Int64)) / ((q1 &&& (4095 : Int64)) + (1 : Int64))) * ((q1 &&& (4095 : Int64)) + (1 : Int64)))), .second, .val (.long ((q2 &&& (9223372036854775807 : Int64)) - ((q2 &&& (9223372036854775807 : Int64)) / ((q1 &&& (4095 : Int64)) + (1 : Int64))) * ((q1 &&& (4095 : Int64)) + (1 : Int64)))), .second, .unset, .unset, .unset, .unset, .unset] [])) (fun _ k => XS.lstore X0.here hx rfl (hb hby at_62) rfl (l' := #[.val (.long q1), .second, .val (.long q2), .second, .val (.long q3), .second, .val (.long q4), .second, .val (.long q5), .second, .val (.int p6), .val (.long ((q1 &&& (4095 : Int64)) + (1 : Int64))), .second, .val (.long ((q2 &&& (9223372036854775807 : Int64)) - ((q2 &&& (9223372036854775807 : Int64)) / ((q1 &&& (4095 : Int64)) + (1 : Int64))) * ((q1 &&& (4095 : Int64)) + (1 : Int64)))), .second, .val (.long ((q3 &&& (9223372036854775807 : Int64)) - ((q3 &&& (9223372036854775807 : Int64)) / ((q1 &&& (4095 : Int64)) + (1 : Int64))) * ((q1 &&& (4095 : Int64)) + (1 : Int64)))), .second, .val (.long ((q4 &&& (9223372036854775807 : Int64)) - ((q4 &&& (9223372036854775807 : Int64)) / ((q1 &&& (4095 : Int64)) + (1 : Int64))) * ((q1 &&& (4095 : Int64)) + (1 : Int64)))), .second, .val (.long ((q2 &&& (9223372036854775807 : Int64)) - ((q2 &&& (9223372036854775807 : Int64)) / ((q1 &&& (4095 : Int64)) + (1 : Int64))) * ((q1 &&& (4095 : Int64)) + (1 : Int64)))), .second, .unset, .unset, .unset, .unset, .unset]) rfl k) ?_
    exact J1 ((q1 &&& (4095 : Int64)) + (1 : Int64)) ((q2 &&& (9223372036854775807 : Int64)) - ((q2 &&& (9223372036854775807 : Int64)) / ((q1 &&& (4095 : Int64)) + (1 : Int64))) * ((q1 &&& (4095 : Int64)) + (1 : Int64))) ((q3 &&& (9223372036854775807 : Int64)) - ((q3 &&& (9223372036854775807 : Int64)) / ((q1 &&& (4095 : Int64)) + (1 : Int64))) * ((q1 &&& (4095 : Int64)) + (1 : Int64))) ((q4 &&& (9223372036854775807 : Int64)) - ((q4 &&& (9223372036854775807 : Int64)) / ((q1 &&& (4095 : Int64)) + (1 : Int64))) * ((q1 &&& (4095 : Int64)) + (1 : Int64))) ((q2 &&& (9223372036854775807 : Int64)) - ((q2 &&& (9223372036854775807 : Int64)) / ((q1 &&& (4095 : Int64)) + (1 : Int64))) * ((q1 &&& (4095 : Int64)) + (1 : Int64))) (own_pl_rm0_15 q1 p6 hc5) (own_pl_rm0_16 q1 p6 hc5) (own_pl_rm0_17 q1 q2 p6 hc5) (own_pl_rm0_18 q1 q2 p6 hc5) (own_pl_rm0_19 q1 q3 p6 hc5) (own_pl_rm0_20 q1 q3 p6 hc5) (own_pl_rm0_21 q1 q4 p6 hc5) (own_pl_rm0_22 q1 q4 p6 hc5) (own_pl_rm0_23 q1 q2 p6 hc5) (own_pl_rm0_24 q1 q2 p6 hc5)
set_option maxRecDepth 65536 in
set_option maxHeartbeats 40000000 in
theorem comes_1 {Post : Tables → Env → Array Value → State → Outcome → State → Prop} (hpost : ∀ tb e args s v u, (limb_1_1.after args s (.returned v) u = true ∧ limb_1_2.after args s (.returned v) u = true ∧ True) → FrameEnd s (.returned v) u (Jvm.fieldLocs frame_1_writes args s ++ Jvm.arrayLocs frame_1_arrays args s ++ Jvm.staticLocs frame_1_statics s) 16 256 → Post tb e args s (.returned v) u) :
    ArmFor flags0 classFile x code maxLocals ret World_1 tables_1 room_1 Calls_1 rest_1 Pre_1 Post := by
  intro l hfl _ _ p e ha hc hk s m args below hf hA hF happ hP
  obtain ⟨hcalls, hrest, hpre⟩ := hP
  obtain ⟨-, -, -, hnamed, -, -, -, hat⟩ := (Spec.applies_iff hf).mp happ
  obtain ⟨hg, hn⟩ := and_e (Cond.before_iff.mp (show (Jvm.Cond.and given_1 narrow_1).before args s = true from hpre))
  obtain ⟨gg1, gg2⟩ := and_e hg
  obtain ⟨gg3, gg4⟩ := and_e gg2
  obtain ⟨gg5, gg6⟩ := and_e gg4
  obtain ⟨gg7, gg8⟩ := and_e gg6
  obtain ⟨gg9, gg10⟩ := and_e gg8
  obtain ⟨gg11, gg12⟩ := and_e gg10
  obtain ⟨w0, w1, w2, w3, w4, w5, rfl⟩ : ∃ w0 w1 w2 w3 w4 w5 : Value, args = #[w0, w1, w2, w3, w4, w5] := by
    have hs : args.size = 6 := by simpa [Cond.value, given_1] using gg1
    obtain ⟨L⟩ := args
    match L, hs with
    | [w0, w1, w2, w3, w4, w5], _ => exact ⟨w0, w1, w2, w3, w4, w5, rfl⟩
  have hw := fun d (hd : d ∈ tables_1) => atoms_spec (ws := Jvm.Cond.code x code maxLocals ret :: tables_1) hat d (List.mem_cons_of_mem _ hd)
  have hfit : Fit s := fun {y c} hc i hi => by
    obtain ⟨ha, rfl⟩ := Array.getElem?_eq_some_iff.mp hc
    have q := List.all_eq_true.mp ((Array.all_eq_true_iff_forall_mem.mp hF) _ (Array.getElem_mem ha)) i (List.mem_range.mpr hi)
    simpa [Array.getElem?_eq_getElem hi] using q
  obtain ⟨i0, ei0⟩ := isL_v gg3
  obtain rfl : w0 = (.long i0) := Option.some.inj ei0
  obtain ⟨i1, ei1⟩ := isL_v gg5
  obtain rfl : w1 = (.long i1) := Option.some.inj ei1
  obtain ⟨i2, ei2⟩ := isL_v gg7
  obtain rfl : w2 = (.long i2) := Option.some.inj ei2
  obtain ⟨i3, ei3⟩ := isL_v gg9
  obtain rfl : w3 = (.long i3) := Option.some.inj ei3
  obtain ⟨i4, ei4⟩ := isL_v gg11
  obtain rfl : w4 = (.long i4) := Option.some.inj ei4
  obtain ⟨i5, ei5⟩ := is_v gg12
  obtain rfl : w5 = (.int i5) := Option.some.inj ei5
  obtain ⟨n, o, h1, h2, h3, _, L, rfl, ⟨rfl, N, _⟩, hq⟩ := own_rm0 l s _ hw tables_1 i0 i1 i2 i3 i4 i5 s.heap s.heap.size (Nat.le_refl _)  p e ha hc hk s m _ below hf ((Spec.applies_iff_loose hf).mp happ).1 ⟨rfl, State.Warmed39.refl s, rfl⟩ trivial
  refine ⟨n, _, h1, h2, h3, hpost _ _ _ _ _ _ ⟨Cond.after_iff.mpr rfl, Cond.after_iff.mpr (eq_i res_at (Term.int_eval (1)) rfl), trivial⟩ ⟨hq.1, hq.2.1, (hq.2.2.sift fun y hy => Or.inr (N y hy)).mono (by decide) (by decide)⟩⟩
theorem main_1_1 : Claimed_1_1 := comes_1 fun _ _ _ _ _ _ h hF => ⟨h.1, hF⟩
theorem main_1_2 : Claimed_1_2 := comes_1 fun _ _ _ _ _ _ h hF => ⟨h.2.1, hF⟩
end Jvm.Pilot.@@N@@
namespace Jvm.Pilot.@@N@@
open Jvm Jvm.ClassFile Sem Op Lib Jvm.Free Jvm.Stand Jvm.Pilot.@@N@@.Jvm.D
/-! MADE BY PROGRAM (witnessworld.py) out of the Statement's table words and the real class files: 13 classes; the members and pool entries that the words name. The judged class is class 1, her method 1. -/
namespace start1
open Jvm.ClassFile
def u (s : String) : CpInfo := .utf8 (stringToUtf16 s)
/-- a pool by its gaps: so many unusable entries, then the entry; so many at the end -/
def gap : Nat → List CpInfo → List CpInfo
  | 0, r => r
  | n + 1, r => .unusable :: gap n r
def poolList (es : List (Nat × CpInfo)) (last : Nat) : List CpInfo := es.foldr (fun e r => gap e.1 (e.2 :: r)) (gap last [])
def pool (es : List (Nat × CpInfo)) (last : Nat) : Array CpInfo := ⟨poolList es last⟩
def fileOf (pool : Array CpInfo) (this : Nat) (attrs : Array Attribute := #[]) (ms : Array MethodInfo := #[]) (fl : Nat := 33) (sup : Nat := 0) (ifs : Array Nat := #[]) (fds : Array FieldInfo := #[]) : ClassFile where
  minorVersion := 0
  majorVersion := 65
  constantPool := pool
  accessFlags := fl
  thisClass := this
  superClass := sup
  interfaces := ifs
  fields := fds
  methods := ms
  attributes := attrs
def plain (name : String) (sup : Option ClassId) : Class where
  name := name
  kind := .ordinary
  loader := none
  accessFlags := 33
  super := sup
  interfaces := #[]
  cf := none
  fields := #[]
  methods := #[]
  instanceTypes := #[]
  staticTypes := #[]
  resolved := #[]
  callSites := []
  init := .initialized
  statics := none
  mirror := none

def pool0 : Array CpInfo := pool [(5, u "<init>"), (0, u "()V"), (1, .class_ 10), (1, u "java/lang/Object")] 113

def k0c0 : Code := { maxStack := 0, maxLocals := 1, code := object_method_1_code, exceptionTable := #[], attributes := #[] }
def k0m0 : Method := { name := "<init>", desc := "()V", sig := { parameters := [], returnType := none }, accessFlags := 1, code := some k0c0 }
/-- java/lang/Object -/
def k0 : Class := { plain "java/lang/Object" none with
  accessFlags := 33
  interfaces := #[]
  cf := some (fileOf pool0 8 #[] #[{ accessFlags := 1, nameIndex := 5, descriptorIndex := 6, attributes := #[] }] 33 0 #[] #[])
  fields := #[]
  methods := #[k0m0]
  instanceTypes := #[]
  staticTypes := #[]
  resolved := Array.replicate 124 none
  statics := none }

def pool1 : Array CpInfo := pool [(2, .class_ 4), (1, u "java/lang/Object"), (0, u "<init>"), (0, u "()V"), (0, .long 4095), (3, .long 9223372036854775807), (1, .class_ 14), (0, u "com/example/kin_bloom/kinbloom/BitArray"), (0, .methodref 13 16), (0, .nameAndType 5 17), (0, u "(J)V"), (0, .methodref 13 19), (0, .nameAndType 20 17), (0, u "set"), (0, .methodref 13 22), (0, .nameAndType 23 17), (0, u "clear"), (0, .methodref 13 25), (0, .nameAndType 26 27), (0, u "bit"), (0, u "(J)J"), (0, .class_ 29), (0, u "com/example/kin_bloom/kinbloom/BitArrayBitPinLaw"), (2, u "law"), (0, u "(JJJJJI)Z")] 3

def k1m0 : Method := { name := "<init>", desc := "()V", sig := { parameters := [], returnType := none }, accessFlags := 1, code := none }
def k1c1 : Code := { maxStack := 4, maxLocals := 26, code := code, exceptionTable := #[], attributes := #[] }
def k1m1 : Method := { name := "law", desc := "(JJJJJI)Z", sig := { parameters := [.long, .long, .long, .long, .long, .int], returnType := some .boolean }, accessFlags := 9, code := some k1c1 }
/-- com/example/kin_bloom/kinbloom/BitArrayBitPinLaw -/
def k1 : Class := { plain "com/example/kin_bloom/kinbloom/BitArrayBitPinLaw" (some 0) with
  accessFlags := 49
  interfaces := #[]
  cf := some (fileOf pool1 28 #[] #[{ accessFlags := 1, nameIndex := 5, descriptorIndex := 6, attributes := #[] }, { accessFlags := 9, nameIndex := 32, descriptorIndex := 33, attributes := #[] }] 49 2 #[] #[])
  fields := #[]
  methods := #[k1m0, k1m1]
  instanceTypes := #[]
  staticTypes := #[]
  resolved := Array.replicate 37 none
  statics := none }

def pool2 : Array CpInfo := pool [(5, .methodref 6 7), (0, .class_ 8), (0, .nameAndType 9 10), (0, u "java/lang/Object"), (0, u "<init>"), (0, u "()V"), (0, .class_ 12), (0, u "com/example/kin_bloom/kinbloom/BitArray"), (0, .long 137438952896), (10, .fieldref 11 25), (0, .nameAndType 26 27), (0, u "size"), (0, u "J"), (0, .long 64), (1, .fieldref 11 31), (0, .nameAndType 32 33), (0, u "words"), (0, u "[J"), (5, .methodref 40 41), (0, .class_ 42), (0, .nameAndType 43 44), (0, u "java/util/Objects"), (0, u "checkIndex"), (0, u "(JJ)J"), (4, .long 18446744073709551615), (19, u "(J)J"), (18, u "MAX_BITS"), (1, u "(J)V"), (5, u "bit"), (2, u "set"), (0, u "clear")] 26

def k2c0 : Code := { maxStack := 5, maxLocals := 3, code := prog_1_method_1_code, exceptionTable := #[], attributes := #[] }
def k2m0 : Method := { name := "<init>", desc := "(J)V", sig := { parameters := [.long], returnType := none }, accessFlags := 1, code := some k2c0 }
def k2c1 : Code := { maxStack := 4, maxLocals := 3, code := prog_1_method_5_code, exceptionTable := #[], attributes := #[] }
def k2m1 : Method := { name := "bit", desc := "(J)J", sig := { parameters := [.long], returnType := some .long }, accessFlags := 0, code := some k2c1 }
def k2c2 : Code := { maxStack := 8, maxLocals := 3, code := prog_1_method_7_code, exceptionTable := #[], attributes := #[] }
def k2m2 : Method := { name := "set", desc := "(J)V", sig := { parameters := [.long], returnType := none }, accessFlags := 1, code := some k2c2 }
def k2c3 : Code := { maxStack := 8, maxLocals := 3, code := prog_1_method_8_code, exceptionTable := #[], attributes := #[] }
def k2m3 : Method := { name := "clear", desc := "(J)V", sig := { parameters := [.long], returnType := none }, accessFlags := 1, code := some k2c3 }
/-- com/example/kin_bloom/kinbloom/BitArray -/
def k2 : Class := { plain "com/example/kin_bloom/kinbloom/BitArray" (some 0) with
  accessFlags := 49
  interfaces := #[]
  cf := some (fileOf pool2 11 #[] #[{ accessFlags := 1, nameIndex := 9, descriptorIndex := 90, attributes := #[] }, { accessFlags := 0, nameIndex := 96, descriptorIndex := 69, attributes := #[] }, { accessFlags := 1, nameIndex := 99, descriptorIndex := 90, attributes := #[] }, { accessFlags := 1, nameIndex := 100, descriptorIndex := 90, attributes := #[] }] 49 6 #[] #[{ accessFlags := 25, nameIndex := 88, descriptorIndex := 27, attributes := #[] }, { accessFlags := 18, nameIndex := 26, descriptorIndex := 27, attributes := #[] }, { accessFlags := 18, nameIndex := 32, descriptorIndex := 33, attributes := #[] }])
  fields := #[{ name := "MAX_BITS", type := .long, accessFlags := 25, slot := 0, constantValue := 0 }, { name := "size", type := .long, accessFlags := 18, slot := 0, constantValue := 0 }, { name := "words", type := (.array .long), accessFlags := 18, slot := 1, constantValue := 0 }]
  methods := #[k2m0, k2m1, k2m2, k2m3]
  instanceTypes := #[.long, (.array .long)]
  staticTypes := #[.long]
  resolved := Array.replicate 127 none
  statics := none }

def pool3 : Array CpInfo := pool [(2, .class_ 4), (1, u "java/lang/Object"), (0, u "<init>"), (0, u "()V"), (35, .class_ 44), (1, u "java/util/Objects"), (61, .class_ 108), (1, u "jdk/internal/util/Preconditions"), (0, u "checkIndex"), (8, .methodref 106 119), (0, .nameAndType 109 120), (0, u "(JJLjava/util/function/BiFunction;)J"), (58, u "(JJ)J")] 4

def k3m0 : Method := { name := "<init>", desc := "()V", sig := { parameters := [], returnType := none }, accessFlags := 2, code := none }
def k3c1 : Code := { maxStack := 5, maxLocals := 4, code := jdk_31_method_20_code, exceptionTable := #[], attributes := #[] }
def k3m1 : Method := { name := "checkIndex", desc := "(JJ)J", sig := { parameters := [.long, .long], returnType := some .long }, accessFlags := 9, code := some k3c1 }
/-- java/util/Objects -/
def k3 : Class := { plain "java/util/Objects" (some 0) with
  accessFlags := 49
  interfaces := #[]
  cf := some (fileOf pool3 42 #[] #[{ accessFlags := 2, nameIndex := 5, descriptorIndex := 6, attributes := #[] }, { accessFlags := 9, nameIndex := 109, descriptorIndex := 179, attributes := #[] }] 49 2 #[] #[])
  fields := #[]
  methods := #[k3m0, k3m1]
  instanceTypes := #[]
  staticTypes := #[]
  resolved := Array.replicate 184 none
  statics := none }

def pool4 : Array CpInfo := pool [(2, .class_ 4), (1, u "java/lang/Object"), (0, u "<init>"), (0, u "()V"), (17, .class_ 26), (1, u "jdk/internal/util/Preconditions"), (6, u "checkIndex"), (21, .class_ 56), (0, u "jdk/internal/util/Preconditions$4"), (57, .class_ 115), (0, u "jdk/internal/util/Preconditions$1"), (7, u "SIOOBE_FORMATTER"), (0, u "Ljava/util/function/BiFunction;"), (0, .class_ 126), (0, u "jdk/internal/util/Preconditions$2"), (3, u "AIOOBE_FORMATTER"), (0, .class_ 132), (0, u "jdk/internal/util/Preconditions$3"), (3, u "IOOBE_FORMATTER"), (48, u "(JJLjava/util/function/BiFunction;)J")] 8

def k4m0 : Method := { name := "<init>", desc := "()V", sig := { parameters := [], returnType := none }, accessFlags := 1, code := none }
def k4c1 : Code := { maxStack := 5, maxLocals := 5, code := jdk_41_method_14_code, exceptionTable := #[], attributes := #[] }
def k4m1 : Method := { name := "checkIndex", desc := "(JJLjava/util/function/BiFunction;)J", sig := { parameters := [.long, .long, (.object "java/util/function/BiFunction")], returnType := some .long }, accessFlags := 9, code := some k4c1 }
/-- jdk/internal/util/Preconditions -/
def k4 : Class := { plain "jdk/internal/util/Preconditions" (some 0) with
  accessFlags := 33
  interfaces := #[]
  cf := some (fileOf pool4 24 #[.nestMembers #[55, 131, 125, 114]] #[{ accessFlags := 1, nameIndex := 5, descriptorIndex := 6, attributes := #[] }, { accessFlags := 9, nameIndex := 33, descriptorIndex := 185, attributes := #[] }] 33 2 #[] #[{ accessFlags := 25, nameIndex := 123, descriptorIndex := 124, attributes := #[] }, { accessFlags := 25, nameIndex := 130, descriptorIndex := 124, attributes := #[] }, { accessFlags := 25, nameIndex := 136, descriptorIndex := 124, attributes := #[] }])
  fields := #[{ name := "SIOOBE_FORMATTER", type := (.object "java/util/function/BiFunction"), accessFlags := 25, slot := 0, constantValue := 0 }, { name := "AIOOBE_FORMATTER", type := (.object "java/util/function/BiFunction"), accessFlags := 25, slot := 1, constantValue := 0 }, { name := "IOOBE_FORMATTER", type := (.object "java/util/function/BiFunction"), accessFlags := 25, slot := 2, constantValue := 0 }]
  methods := #[k4m0, k4m1]
  instanceTypes := #[]
  staticTypes := #[(.object "java/util/function/BiFunction"), (.object "java/util/function/BiFunction"), (.object "java/util/function/BiFunction")]
  resolved := Array.replicate 194 none
  statics := none }

def pool5 : Array CpInfo := pool [(1, u "java/lang/Cloneable"), (0, .class_ 1), (0, u "java/lang/Object"), (0, .class_ 3)] 3

/-- java/lang/Cloneable -/
def k5 : Class := { plain "java/lang/Cloneable" (some 0) with
  accessFlags := 1537
  interfaces := #[]
  cf := some (fileOf pool5 2 #[] #[] 1537 4 #[] #[])
  fields := #[]
  methods := #[]
  instanceTypes := #[]
  staticTypes := #[]
  resolved := Array.replicate 8 none
  statics := none }

def pool6 : Array CpInfo := pool [(1, u "java/io/Serializable"), (0, .class_ 1), (0, u "java/lang/Object"), (0, .class_ 3)] 3

/-- java/io/Serializable -/
def k6 : Class := { plain "java/io/Serializable" (some 0) with
  accessFlags := 1537
  interfaces := #[]
  cf := some (fileOf pool6 2 #[] #[] 1537 4 #[] #[])
  fields := #[]
  methods := #[]
  instanceTypes := #[]
  staticTypes := #[]
  resolved := Array.replicate 8 none
  statics := none }

/-- the primitive byte -/
def k7 : Class := { plain "byte" none with kind := .primitive 'B', accessFlags := 0x411 }
/-- [B -/
def k8 : Class := { plain "[B" (some 0) with kind := .array 7 .byte, interfaces := #[5, 6], accessFlags := 1041 }

/-- the primitive int -/
def k9 : Class := { plain "int" none with kind := .primitive 'I', accessFlags := 0x411 }
/-- [I -/
def k10 : Class := { plain "[I" (some 0) with kind := .array 9 .int, interfaces := #[5, 6], accessFlags := 1041 }

/-- the primitive long -/
def k11 : Class := { plain "long" none with kind := .primitive 'J', accessFlags := 0x411 }
/-- [J -/
def k12 : Class := { plain "[J" (some 0) with kind := .array 11 .long, interfaces := #[5, 6], accessFlags := 1041 }

def heap : Heap := #[]
def classes : Array Class := #[k0, k1, k2, k3, k4, k5, k6, k7, k8, k9, k10, k11, k12]
def interned : List (Array UInt16 × Addr) := []
def slotsUsed : Nat := 0
def theMethod : MethodId := ⟨1, 1⟩
def args0 : Array Value := #[.long 5, .long 5, .long 5, .long 5, .long 5, .int 5]
def aboutOver (below : List Frame) : State where
  vm := { classes := classes, interned := interned.toArray }
  heap := heap
  slotsUsed := slotsUsed
  threads := #[{ frames := .invoking theMethod args0 :: below }]
def below0 : List Frame := [.native { method := ⟨0, 0⟩, args := #[] }]
def about1 : State := aboutOver below0
def p0 : Program := .bare "" "" ""
def e0 : Env := launch0.env 0 0 0
theorem w_frames : about1.frames = Frame.invoking theMethod args0 :: below0 := rfl
set_option maxRecDepth 65536 in
theorem w_args : argsFit about1.vm theMethod args0 = true := by decide +kernel
set_option maxRecDepth 65536 in
theorem w_heap : heapFits about1 = true := by decide +kernel
set_option maxRecDepth 65536 in
theorem w_runnable : about1.curStatus? = some .runnable := by decide +kernel
set_option maxRecDepth 65536 in
theorem w_alone : about1.alone = true := by decide +kernel
set_option maxRecDepth 65536 in
theorem w_named : about1.methodNamed? x = some theMethod := by decide +kernel
set_option maxRecDepth 65536 in
theorem w_hears : about1.hears theMethod below0 = true := by decide +kernel
set_option maxRecDepth 65536 in
theorem w_ripe : about1.ripe theMethod args0 below0 = true := by decide +kernel
theorem w_running : about1.status = .running := rfl
set_option maxRecDepth 65536 in
theorem w_room : about1.hasRoom e0.platform room_1 = true :=
  launch0.hasRoom_least _ room_1 (by decide +kernel) (by decide +kernel) (by decide +kernel) (by decide +kernel) (by decide +kernel) (by decide +kernel)
theorem allAtoms_all (ts : List Jvm.Cond) (a : Array Jvm.Value) (st : Jvm.State) : (allAtoms ts).before a st = ts.all (fun c => c.before a st) := by
  induction ts with
  | nil => rfl
  | cons c t ih =>
    show (Jvm.Cond.and c (allAtoms t)).before a st = _
    rw [Jvm.Cond.before_and, ih, List.all_cons]
def words1 : List Jvm.Cond := Jvm.Cond.code x code maxLocals ret :: tables_1
/-- a 'code' word, met by the world's own term for the bytes: nothing is compared byte by byte -/
theorem code_word {y : MethodName} {bytes : ByteArray} {mx : Nat} {rt : Option FieldType} {a : Array Value} {s : State} {m : MethodId} {meth : Method} {c : Code} (h1 : s.methodNamed? y = some m) (h2 : s.vm.method? m = some meth) (h3 : meth.code = some c) (h4 : c.code = bytes)
    (h5 : (c.maxLocals == mx && c.exceptionTable.isEmpty && decide (c.maxStack ≤ mostOperands) && decide (meth.sig.returnType = rt) && !meth.locks && decide (parseMethodDescriptor y.desc = some meth.sig)) = true) : (Jvm.Cond.code y bytes mx rt).before a s = true := by
  simp only [Bool.and_eq_true, beq_iff_eq, Bool.not_eq_true', decide_eq_true_eq] at h5
  obtain ⟨⟨⟨⟨⟨g1, g2⟩, g3⟩, g4⟩, g5⟩, g6⟩ := h5
  simp [Cond.before, Cond.holds, Cond.value, h1, h2, h3, h4, g1, g2, g3, g4, g5, g6]
def isCode : Jvm.Cond → Bool
  | .code _ _ _ _ => true
  | _ => false
theorem all_split {L : List Jvm.Cond} {P : Jvm.Cond → Bool} (h1 : L.all (fun c => isCode c || P c) = true) (h2 : ∀ c ∈ L.filter isCode, P c = true) : L.all P = true := by
  refine List.all_eq_true.mpr fun c hc => ?_
  have h := List.all_eq_true.mp h1 c hc
  rcases Bool.eq_false_or_eq_true (isCode c) with hi | hi
  · exact h2 c (List.mem_filter.mpr ⟨hc, hi⟩)
  · simpa [hi] using h
set_option maxRecDepth 65536 in
theorem w_c0 : (Jvm.Cond.code x code maxLocals ret).before args0 about1 = true := code_word (m := ⟨1, 1⟩) (meth := k1m1) (c := k1c1) (by decide +kernel) rfl rfl rfl (by decide +kernel)
set_option maxRecDepth 65536 in
theorem w_c1 : (Jvm.Cond.code ({ cls := "com/example/kin_bloom/kinbloom/BitArray", name := "<init>", desc := "(J)V" } : Jvm.MethodName) prog_1_method_1_code (3 : Nat) (Option.none : Option Jvm.ClassFile.FieldType)).before args0 about1 = true := code_word (m := ⟨2, 0⟩) (meth := k2m0) (c := k2c0) (by decide +kernel) rfl rfl rfl (by decide +kernel)
set_option maxRecDepth 65536 in
theorem w_c2 : (Jvm.Cond.code ({ cls := "java/lang/Object", name := "<init>", desc := "()V" } : Jvm.MethodName) object_method_1_code (1 : Nat) (Option.none : Option Jvm.ClassFile.FieldType)).before args0 about1 = true := code_word (m := ⟨0, 0⟩) (meth := k0m0) (c := k0c0) (by decide +kernel) rfl rfl rfl (by decide +kernel)
set_option maxRecDepth 65536 in
theorem w_c3 : (Jvm.Cond.code ({ cls := "com/example/kin_bloom/kinbloom/BitArray", name := "set", desc := "(J)V" } : Jvm.MethodName) prog_1_method_7_code (3 : Nat) (Option.none : Option Jvm.ClassFile.FieldType)).before args0 about1 = true := code_word (m := ⟨2, 2⟩) (meth := k2m2) (c := k2c2) (by decide +kernel) rfl rfl rfl (by decide +kernel)
set_option maxRecDepth 65536 in
theorem w_c4 : (Jvm.Cond.code ({ cls := "java/util/Objects", name := "checkIndex", desc := "(JJ)J" } : Jvm.MethodName) jdk_31_method_20_code (4 : Nat) (Option.some Jvm.ClassFile.FieldType.long)).before args0 about1 = true := code_word (m := ⟨3, 1⟩) (meth := k3m1) (c := k3c1) (by decide +kernel) rfl rfl rfl (by decide +kernel)
set_option maxRecDepth 65536 in
theorem w_c5 : (Jvm.Cond.code ({ cls := "jdk/internal/util/Preconditions", name := "checkIndex", desc := "(JJLjava/util/function/BiFunction;)J" } : Jvm.MethodName) jdk_41_method_14_code (5 : Nat) (Option.some Jvm.ClassFile.FieldType.long)).before args0 about1 = true := code_word (m := ⟨4, 1⟩) (meth := k4m1) (c := k4c1) (by decide +kernel) rfl rfl rfl (by decide +kernel)
set_option maxRecDepth 65536 in
theorem w_c6 : (Jvm.Cond.code ({ cls := "com/example/kin_bloom/kinbloom/BitArray", name := "bit", desc := "(J)J" } : Jvm.MethodName) prog_1_method_5_code (3 : Nat) (Option.some Jvm.ClassFile.FieldType.long)).before args0 about1 = true := code_word (m := ⟨2, 1⟩) (meth := k2m1) (c := k2c1) (by decide +kernel) rfl rfl rfl (by decide +kernel)
set_option maxRecDepth 65536 in
theorem w_c7 : (Jvm.Cond.code ({ cls := "com/example/kin_bloom/kinbloom/BitArray", name := "clear", desc := "(J)V" } : Jvm.MethodName) prog_1_method_8_code (3 : Nat) (Option.none : Option Jvm.ClassFile.FieldType)).before args0 about1 = true := code_word (m := ⟨2, 3⟩) (meth := k2m3) (c := k2c3) (by decide +kernel) rfl rfl rfl (by decide +kernel)
def codes1 : List Jvm.Cond := [Jvm.Cond.code x code maxLocals ret, Jvm.Cond.code ({ cls := "com/example/kin_bloom/kinbloom/BitArray", name := "<init>", desc := "(J)V" } : Jvm.MethodName) prog_1_method_1_code (3 : Nat) (Option.none : Option Jvm.ClassFile.FieldType), Jvm.Cond.code ({ cls := "java/lang/Object", name := "<init>", desc := "()V" } : Jvm.MethodName) object_method_1_code (1 : Nat) (Option.none : Option Jvm.ClassFile.FieldType), Jvm.Cond.code ({ cls := "com/example/kin_bloom/kinbloom/BitArray", name := "set", desc := "(J)V" } : Jvm.MethodName) prog_1_method_7_code (3 : Nat) (Option.none : Option Jvm.ClassFile.FieldType), Jvm.Cond.code ({ cls := "java/util/Objects", name := "checkIndex", desc := "(JJ)J" } : Jvm.MethodName) jdk_31_method_20_code (4 : Nat) (Option.some Jvm.ClassFile.FieldType.long), Jvm.Cond.code ({ cls := "jdk/internal/util/Preconditions", name := "checkIndex", desc := "(JJLjava/util/function/BiFunction;)J" } : Jvm.MethodName) jdk_41_method_14_code (5 : Nat) (Option.some Jvm.ClassFile.FieldType.long), Jvm.Cond.code ({ cls := "com/example/kin_bloom/kinbloom/BitArray", name := "bit", desc := "(J)J" } : Jvm.MethodName) prog_1_method_5_code (3 : Nat) (Option.some Jvm.ClassFile.FieldType.long), Jvm.Cond.code ({ cls := "com/example/kin_bloom/kinbloom/BitArray", name := "clear", desc := "(J)V" } : Jvm.MethodName) prog_1_method_8_code (3 : Nat) (Option.none : Option Jvm.ClassFile.FieldType)]
set_option maxRecDepth 65536 in
theorem codes_eq : words1.filter isCode = codes1 := rfl
theorem w_codes : ∀ c ∈ words1.filter isCode, c.before args0 about1 = true := by
  rw [codes_eq]
  intro c hc
  simp only [codes1, List.mem_cons, List.not_mem_nil, or_false] at hc
  rcases hc with rfl | rfl | rfl | rfl | rfl | rfl | rfl | rfl
  · exact w_c0
  · exact w_c1
  · exact w_c2
  · exact w_c3
  · exact w_c4
  · exact w_c5
  · exact w_c6
  · exact w_c7
set_option maxRecDepth 65536 in
theorem w_t1 : (words1.take 24).all (fun c => isCode c || c.before args0 about1) = true := by decide +kernel
set_option maxRecDepth 65536 in
theorem w_t2 : (words1.drop 24).all (fun c => isCode c || c.before args0 about1) = true := by decide +kernel
theorem w_tables : (allAtoms (Jvm.Cond.code x code maxLocals ret :: tables_1)).before args0 about1 = true := by
  rw [allAtoms_all]
  show words1.all (fun c => c.before args0 about1) = true
  refine all_split ?_ w_codes
  rw [← List.take_append_drop 24 words1, List.all_append, w_t1, w_t2]
  rfl
set_option maxRecDepth 65536 in
theorem w_case : (Jvm.Cond.and given_1 narrow_1).before args0 about1 = true := by decide +kernel
theorem w_applies : (headSpec (Jvm.Cond.code x code maxLocals ret :: tables_1) room_1).applies x e0.platform about1 = true :=
  (Spec.applies_iff w_frames).mpr ⟨w_running, w_runnable, w_alone, w_named, w_hears, w_ripe, w_room, w_tables⟩
theorem atStart : AtStart classFile x code maxLocals ret World_1 tables_1 room_1 Calls_1 rest_1 Pre_1 launch0 p0 e0 about1 theMethod args0 below0 :=
  ⟨lists_1, trivial, launch0.admits_env _ _ _, launch0.least_env, fairChoices_fair.cas, fairChoices_fair.clock, w_frames, w_args, w_heap, w_applies, trivial, trivial, w_case⟩
end start1
theorem witness_1 : WitnessClaimed_1 := ⟨start1.p0, start1.e0, start1.about1, start1.theMethod, start1.args0, start1.below0, start1.atStart⟩
end Jvm.Pilot.@@N@@
